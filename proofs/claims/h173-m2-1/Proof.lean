import JvmDerived
import JvmDerived.Pilot.@@N@@Statement
import JvmDerived.Pilot.@@N@@Code
set_option linter.unusedVariables false
set_option linter.unusedSimpArgs false
namespace Jvm.Pilot.@@N@@
open Jvm Jvm.ClassFile Sem Op Lib Jvm.Free Jvm.Stand Jvm.LawKit Jvm.RoadKit Bundle Jvm.Pilot.@@N@@.Jvm.D
abbrev OTr := List (Nat × Instr × Nat)
abbrev OR := Option (Prop × Nat × Array Slot × List Value)
/-- place j of the array at a holds v -/
def Rd (Z : State) (h : Heap) (a : Addr) (ty : FieldType) (j : Int32) (v : Value) : Prop := ∃ c, Arr Z h a c ty ∧ ¬ (j < 0 ∨ c.slots.size ≤ j.toNatClampNeg) ∧ c.slots[j.toNatClampNeg]? = some v
/-- the array at a has n places -/
def Ln (Z : State) (h : Heap) (a : Addr) (n : Int32) : Prop := ∃ c ty, Arr Z h a c ty ∧ c.slots.size.toInt32 = n
def okB (b : ByteArray) (t : OTr) : Bool := t.all fun x => decide (decode b x.1 = .ok (x.2.1, x.2.2))
def cII : ClassFile.Cond → Bool → Int32 → Int32 → Prop
  | .eq, true, x, y => x = y
  | .eq, false, x, y => ¬ x = y
  | .ne, true, x, y => ¬ x = y
  | .ne, false, x, y => x = y
  | .lt, true, x, y => x < y
  | .lt, false, x, y => ¬ x < y
  | .ge, true, x, y => ¬ x < y
  | .ge, false, x, y => x < y
  | .gt, true, x, y => y < x
  | .gt, false, x, y => ¬ y < x
  | .le, true, x, y => ¬ y < x
  | .le, false, x, y => y < x
def cAA : ClassFile.ACond → Bool → Value → Value → Prop
  | .eq, true, x, y => x = y
  | .eq, false, x, y => ¬ x = y
  | .ne, true, x, y => ¬ x = y
  | .ne, false, x, y => x = y
def oAnd (c : Prop) (r : OR) : OR := match r with | some (P, x) => some (c ∧ P, x) | none => none
def oLdI (L : Array Slot) (x : Nat) (f : Value → OR) : OR := match L[x]? with | some (.val (.int v)) => f (.int v) | _ => none
def oLdI' (L : Array Slot) (x : Nat) (f : Int32 → OR) : OR := match L[x]? with | some (.val (.int v)) => f v | _ => none
def oLdJ (L : Array Slot) (x : Nat) (f : Value → OR) : OR := match L[x]? with | some (.val (.long v)) => f (.long v) | _ => none
def oLdA (L : Array Slot) (x : Nat) (f : Value → OR) : OR := match L[x]? with | some (.val (.ref v)) => f (.ref v) | some (.val .null) => f .null | _ => none
def oG (o : List Value) (pc : Nat) (f : List Value → OR) (g : OR) : OR := match o with | .retAddr q :: o' => (bif Nat.beq q pc then f o' else g) | _ => g
def oLdG (L : Array Slot) (x : Nat) (f : Value → OR) : OR := match L[x]? with | some (.val v) => f v | _ => none
def oTop (S : List Value) (f : Value → List Value → OR) : OR := match S with | v :: r => f v r | _ => none
def oStG (L : Array Slot) (x : Nat) (v : Value) (f : Array Slot → OR) : OR := match L[x]? with | some .unset => f (L.setIfInBounds x (.val v)) | some (.val (.int _)) => f (L.setIfInBounds x (.val v)) | some (.val (.ref _)) => f (L.setIfInBounds x (.val v)) | some (.val .null) => f (L.setIfInBounds x (.val v)) | _ => none
def oSt (L : Array Slot) (x : Nat) (v : Value) (f : Array Slot → OR) : OR := match storeLocals L x v with | some L' => f L' | none => none
def oI (S : List Value) (f : Int32 → List Value → OR) : OR := match S with | .int v :: r => f v r | _ => none
def oJ (S : List Value) (f : Int64 → List Value → OR) : OR := match S with | .long v :: r => f v r | _ => none
def oR (S : List Value) (f : Addr → List Value → OR) : OR := match S with | .ref v :: r => f v r | _ => none
def oA (S : List Value) (f : Value → List Value → OR) : OR := match S with | .ref v :: r => f (.ref v) r | .null :: r => f .null r | _ => none
def oNul (S : List Value) (f : List Value → OR) (g : Addr → List Value → OR) : OR := match S with | .null :: r => f r | .ref v :: r => g v r | _ => none
def o1 (S : List Value) (f : Value → List Value → OR) : OR := match S with | .ref v :: r => f (.ref v) r | .null :: r => f .null r | .int v :: r => f (.int v) r | _ => none
def oD2 (S : List Value) (f : Int64 → List Value → OR) (g : Value → Value → List Value → OR) : OR := match S with | .long v :: r => f v r | S => o1 S fun v r => o1 r fun w r' => g v w r'
def oII (S : List Value) (f : Int32 → Int32 → List Value → OR) : OR := match S with | .int y :: .int x :: r => f x y r | _ => none
def oJJ (S : List Value) (f : Int64 → Int64 → List Value → OR) : OR := match S with | .long y :: .long x :: r => f x y r | _ => none
def oJI (S : List Value) (f : Int64 → Int32 → List Value → OR) : OR := match S with | .int y :: .long x :: r => f x y r | _ => none
def oIR (S : List Value) (f : Int32 → Addr → List Value → OR) : OR := match S with | .int y :: .ref x :: r => f y x r | _ => none
def oB (o : List Value) (f g : List Value → OR) : OR := match o with | .ref _ :: o' => f o' | .null :: o' => g o' | _ => none
def oV (o : List Value) (f : Value → List Value → OR) : OR := match o with | v :: o' => f v o' | _ => none
def oN (o : List Value) (f : Int32 → List Value → OR) : OR := match o with | .int v :: o' => f v o' | _ => none
def oM (o : List Value) (f : Int64 → List Value → OR) : OR := match o with | .long v :: o' => f v o' | _ => none
def oTo (pc : Nat) (d : Int) (f : Nat → OR) : OR := bif decide (0 ≤ (pc : Int) + d) then f ((pc : Int) + d).toNat else none
def ost (Z : State) (h : Heap) (a0 : Array Value) (own : String) (i : Instr) (n pc : Nat) (L : Array Slot) (S : List Value) (o : List Value) (k : Nat → Array Slot → List Value → List Value → OR) : OR :=
  match i with
  | .iload x => bif Nat.beq n 2 then oLdI L x fun v => k (pc + 2) L (v :: S) o else none
  | .iload_n x => bif Nat.beq n 1 then oLdI L x.val fun v => k (pc + 1) L (v :: S) o else none
  | .lload x => bif Nat.beq n 2 then oLdJ L x fun v => k (pc + 2) L (v :: S) o else none
  | .lload_n x => bif Nat.beq n 1 then oLdJ L x.val fun v => k (pc + 1) L (v :: S) o else none
  | .aload x => bif Nat.beq n 2 then oG o pc (fun o' => oLdG L x fun v => oAnd (v.isRef = true) (k (pc + 2) L (v :: S) o')) (oLdA L x fun v => k (pc + 2) L (v :: S) o) else none
  | .aload_n x => bif Nat.beq n 1 then oG o pc (fun o' => oLdG L x.val fun v => oAnd (v.isRef = true) (k (pc + 1) L (v :: S) o')) (oLdA L x.val fun v => k (pc + 1) L (v :: S) o) else none
  | .istore x => bif Nat.beq n 2 then oI S fun v r => oSt L x (.int v) fun L' => k (pc + 2) L' r o else none
  | .istore_n x => bif Nat.beq n 1 then oI S fun v r => oSt L x.val (.int v) fun L' => k (pc + 1) L' r o else none
  | .lstore x => bif Nat.beq n 2 then oJ S fun v r => oSt L x (.long v) fun L' => k (pc + 2) L' r o else none
  | .lstore_n x => bif Nat.beq n 1 then oJ S fun v r => oSt L x.val (.long v) fun L' => k (pc + 1) L' r o else none
  | .astore x => bif Nat.beq n 2 then oG o pc (fun o' => oTop S fun v r => oAnd (v.isRef = true) (oStG L x v fun L' => k (pc + 2) L' r o')) (oA S fun v r => oSt L x v fun L' => k (pc + 2) L' r o) else none
  | .astore_n x => bif Nat.beq n 1 then oG o pc (fun o' => oTop S fun v r => oAnd (v.isRef = true) (oStG L x.val v fun L' => k (pc + 1) L' r o')) (oA S fun v r => oSt L x.val v fun L' => k (pc + 1) L' r o) else none
  | .iconst i => bif Nat.beq n 1 then k (pc + 1) L (.int (Int32.ofInt i) :: S) o else none
  | .bipush i => bif Nat.beq n 2 then k (pc + 2) L (.int (Int8.ofInt i).toInt32 :: S) o else none
  | .sipush i => bif Nat.beq n 3 then k (pc + 3) L (.int (Int16.ofInt i).toInt32 :: S) o else none
  | .lconst i => bif Nat.beq n 1 then k (pc + 1) L (.long (Int64.ofNat i) :: S) o else none
  | .aconst_null => bif Nat.beq n 1 then k (pc + 1) L (.null :: S) o else none
  | .iadd => bif Nat.beq n 1 then oII S fun x y r => k (pc + 1) L (.int (x + y) :: r) o else none
  | .isub => bif Nat.beq n 1 then oII S fun x y r => k (pc + 1) L (.int (x - y) :: r) o else none
  | .imul => bif Nat.beq n 1 then oII S fun x y r => k (pc + 1) L (.int (x * y) :: r) o else none
  | .iand => bif Nat.beq n 1 then oII S fun x y r => k (pc + 1) L (.int (x &&& y) :: r) o else none
  | .ior => bif Nat.beq n 1 then oII S fun x y r => k (pc + 1) L (.int (x ||| y) :: r) o else none
  | .ixor => bif Nat.beq n 1 then oII S fun x y r => k (pc + 1) L (.int (x ^^^ y) :: r) o else none
  | .ishl => bif Nat.beq n 1 then oII S fun x y r => k (pc + 1) L (.int (x <<< (y &&& 31)) :: r) o else none
  | .ishr => bif Nat.beq n 1 then oII S fun x y r => k (pc + 1) L (.int (x >>> (y &&& 31)) :: r) o else none
  | .iushr => bif Nat.beq n 1 then oII S fun x y r => k (pc + 1) L (.int (XT.ushr x y) :: r) o else none
  | .idiv => bif Nat.beq n 1 then oII S fun x y r => oAnd (y ≠ 0) (k (pc + 1) L (.int (x / y) :: r) o) else none
  | .irem => bif Nat.beq n 1 then oII S fun x y r => oAnd (y ≠ 0) (k (pc + 1) L (.int (x % y) :: r) o) else none
  | .ladd => bif Nat.beq n 1 then oJJ S fun x y r => k (pc + 1) L (.long (x + y) :: r) o else none
  | .lsub => bif Nat.beq n 1 then oJJ S fun x y r => k (pc + 1) L (.long (x - y) :: r) o else none
  | .lmul => bif Nat.beq n 1 then oJJ S fun x y r => k (pc + 1) L (.long (x * y) :: r) o else none
  | .land => bif Nat.beq n 1 then oJJ S fun x y r => k (pc + 1) L (.long (x &&& y) :: r) o else none
  | .lor => bif Nat.beq n 1 then oJJ S fun x y r => k (pc + 1) L (.long (x ||| y) :: r) o else none
  | .lxor => bif Nat.beq n 1 then oJJ S fun x y r => k (pc + 1) L (.long (x ^^^ y) :: r) o else none
  | .lcmp => bif Nat.beq n 1 then oJJ S fun x y r => k (pc + 1) L (.int (XT.cmpL x y) :: r) o else none
  | .ldiv => bif Nat.beq n 1 then oJJ S fun x y r => oAnd (y ≠ 0) (k (pc + 1) L (.long (x / y) :: r) o) else none
  | .lrem => bif Nat.beq n 1 then oJJ S fun x y r => oAnd (y ≠ 0) (k (pc + 1) L (.long (x % y) :: r) o) else none
  | .lshl => bif Nat.beq n 1 then oJI S fun x y r => k (pc + 1) L (.long (x <<< (y.toInt64 &&& 63)) :: r) o else none
  | .lshr => bif Nat.beq n 1 then oJI S fun x y r => k (pc + 1) L (.long (x >>> (y.toInt64 &&& 63)) :: r) o else none
  | .lushr => bif Nat.beq n 1 then oJI S fun x y r => k (pc + 1) L (.long (XT.ushrL x y) :: r) o else none
  | .ineg => bif Nat.beq n 1 then oI S fun v r => k (pc + 1) L (.int (-v) :: r) o else none
  | .i2l => bif Nat.beq n 1 then oI S fun v r => k (pc + 1) L (.long (v.toInt64) :: r) o else none
  | .i2b => bif Nat.beq n 1 then oI S fun v r => k (pc + 1) L (.int (v.toInt8.toInt32) :: r) o else none
  | .i2c => bif Nat.beq n 1 then oI S fun v r => k (pc + 1) L (.int (v.toUInt32.toUInt16.toUInt32.toInt32) :: r) o else none
  | .i2s => bif Nat.beq n 1 then oI S fun v r => k (pc + 1) L (.int (v.toInt16.toInt32) :: r) o else none
  | .lneg => bif Nat.beq n 1 then oJ S fun v r => k (pc + 1) L (.long (-v) :: r) o else none
  | .l2i => bif Nat.beq n 1 then oJ S fun v r => k (pc + 1) L (.int (v.toInt32) :: r) o else none
  | .dup => bif Nat.beq n 1 then o1 S fun v r => k (pc + 1) L (v :: v :: r) o else none
  | .pop => bif Nat.beq n 1 then o1 S fun v r => k (pc + 1) L r o else none
  | .dup_x1 => bif Nat.beq n 1 then o1 S fun v r => o1 r fun w r' => k (pc + 1) L (v :: w :: v :: r') o else none
  | .dup2 => bif Nat.beq n 1 then oD2 S (fun v r => k (pc + 1) L (.long v :: .long v :: r) o) fun v w r => k (pc + 1) L (v :: w :: v :: w :: r) o else none
  | .iinc x d => bif Nat.beq n 3 then oLdI' L x fun v => oSt L x (.int (v + Int32.ofInt d)) fun L' => k (pc + 3) L' S o else none
  | .goto d => bif Nat.beq n 3 then oTo pc d fun q => k q L S o else none
  | .ifCond cd d => bif Nat.beq n 3 then oI S fun v r => oB o (fun o' => oAnd (cII cd true v 0) (oTo pc d fun q => k q L r o')) fun o' => oAnd (cII cd false v 0) (k (pc + 3) L r o') else none
  | .if_icmp cd d => bif Nat.beq n 3 then oII S fun x y r => oB o (fun o' => oAnd (cII cd true x y) (oTo pc d fun q => k q L r o')) fun o' => oAnd (cII cd false x y) (k (pc + 3) L r o') else none
  | .ifnull d => bif Nat.beq n 3 then oNul S (fun r => oTo pc d fun q => k q L r o) fun b r => k (pc + 3) L r o else none
  | .ifnonnull d => bif Nat.beq n 3 then oNul S (fun r => k (pc + 3) L r o) fun b r => oTo pc d fun q => k q L r o else none
  | .if_acmp cd d => bif Nat.beq n 3 then oA S fun y r1 => oA r1 fun x r => oB o (fun o' => oAnd (cAA cd true x y) (oTo pc d fun q => k q L r o')) fun o' => oAnd (cAA cd false x y) (k (pc + 3) L r o') else none
  | .iaload => bif Nat.beq n 1 then oIR S fun j a r => oV o fun v o' => oAnd (Rd Z h a .int j v) (k (pc + 1) L (v :: r) o') else none
  | .laload => bif Nat.beq n 1 then oIR S fun j a r => oV o fun v o' => oAnd (Rd Z h a .long j v) (k (pc + 1) L (v :: r) o') else none
  | .caload => bif Nat.beq n 1 then oIR S fun j a r => oV o fun v o' => oAnd (Rd Z h a .char j v) (k (pc + 1) L (v :: r) o') else none
  | .baload => bif Nat.beq n 1 then oIR S fun j a r => oV o fun v o' => oAnd (Rd Z h a .byte j v) (k (pc + 1) L (v :: r) o') else none
  | .aaload => bif Nat.beq n 1 then oIR S fun j a r => oV o fun v o' => oAnd (∃ ty, ty.isReference = true ∧ Rd Z h a ty j v) (k (pc + 1) L (v :: r) o') else none
  | .arraylength => bif Nat.beq n 1 then oR S fun a r => oN o fun n o' => oAnd (Ln Z h a n) (k (pc + 1) L (.int n :: r) o') else none
  | .ldc i => bif Nat.beq n 2 then oN o fun v o' => oAnd ((Jvm.Cond.constant own i v).before a0 Z = true) (k (pc + 2) L (.int v :: S) o') else none
  | .ldc_w i => bif Nat.beq n 3 then oN o fun v o' => oAnd ((Jvm.Cond.constant own i v).before a0 Z = true) (k (pc + 3) L (.int v :: S) o') else none
  | .ldc2_w i => bif Nat.beq n 3 then oM o fun v o' => oAnd ((Jvm.Cond.constantLong own i v).before a0 Z = true) (k (pc + 3) L (.long v :: S) o') else none
  | _ => none
def orun (Z : State) (h : Heap) (a0 : Array Value) (own : String) : OTr → List Value → Nat → Array Slot → List Value → OR
  | [], _, pc, L, S => some (True, pc, L, S)
  | x :: t, o, pc, L, S => bif Nat.beq x.1 pc then ost Z h a0 own x.2.1 x.2.2 pc L S o fun pc L S o => orun Z h a0 own t o pc L S else none
section OwnLaws
variable {r : Prop × Nat × Array Slot × List Value}
theorem oAnd_ok {c : Prop} {q : OR} {P : Prop} {x : Nat × Array Slot × List Value} (h : oAnd c q = some (P, x)) (hP : P) : ∃ P', c ∧ P' ∧ q = some (P', x) := by
  unfold oAnd at h
  split at h
  · simp only [Option.some.injEq, Prod.mk.injEq] at h
    obtain ⟨rfl, rfl⟩ := h
    exact ⟨_, hP.1, hP.2, rfl⟩
  · cases h
theorem oLdI_ok {L : Array Slot} {x : Nat} {f : Value → OR} (h : oLdI L x f = some r) : ∃ v, L[x]? = some (.val (.int v)) ∧ f (.int v) = some r := by
  unfold oLdI at h
  split at h
  · exact ⟨_, by assumption, h⟩
  · cases h
theorem oLdI'_ok {L : Array Slot} {x : Nat} {f : Int32 → OR} (h : oLdI' L x f = some r) : ∃ v, L[x]? = some (.val (.int v)) ∧ f v = some r := by
  unfold oLdI' at h
  split at h
  · exact ⟨_, by assumption, h⟩
  · cases h
theorem oLdJ_ok {L : Array Slot} {x : Nat} {f : Value → OR} (h : oLdJ L x f = some r) : ∃ v, L[x]? = some (.val (.long v)) ∧ f (.long v) = some r := by
  unfold oLdJ at h
  split at h
  · exact ⟨_, by assumption, h⟩
  · cases h
theorem oLdA_ok {L : Array Slot} {x : Nat} {f : Value → OR} (h : oLdA L x f = some r) : ∃ v, L[x]? = some (.val v) ∧ v.isRef = true ∧ f v = some r := by
  unfold oLdA at h
  split at h
  · exact ⟨_, by assumption, rfl, h⟩
  · exact ⟨_, by assumption, rfl, h⟩
  · cases h
theorem oSt_ok {L : Array Slot} {x : Nat} {v : Value} {f : Array Slot → OR} (h : oSt L x v f = some r) : ∃ L', storeLocals L x v = some L' ∧ f L' = some r := by
  unfold oSt at h
  split at h
  · exact ⟨_, by assumption, h⟩
  · cases h
theorem oG_ok {o : List Value} {pc : Nat} {f : List Value → OR} {g : OR} (h : oG o pc f g = some r) : (∃ o', f o' = some r) ∨ g = some r := by
  unfold oG at h
  split at h
  · rename_i q o'
    cases hb : Nat.beq q pc
    · rw [hb] at h; exact Or.inr h
    · rw [hb] at h; exact Or.inl ⟨_, h⟩
  · exact Or.inr h
theorem oLdG_ok {L : Array Slot} {x : Nat} {f : Value → OR} (h : oLdG L x f = some r) : ∃ v, L[x]? = some (.val v) ∧ f v = some r := by
  unfold oLdG at h
  split at h
  · exact ⟨_, by assumption, h⟩
  · cases h
theorem oTop_ok {S : List Value} {f : Value → List Value → OR} (h : oTop S f = some r) : ∃ v q, S = v :: q ∧ f v q = some r := by
  unfold oTop at h
  split at h
  · exact ⟨_, _, rfl, h⟩
  · cases h
theorem oStG_ok {L : Array Slot} {x : Nat} {v : Value} {f : Array Slot → OR} (h : oStG L x v f = some r) (hv : v.isRef = true) : ∃ L', storeLocals L x v = some L' ∧ f L' = some r := by
  have c1 : v.category = 1 := by rcases ref_cases hv with rfl | ⟨b, rfl⟩ <;> rfl
  unfold oStG at h
  split at h
  · rename_i e; exact ⟨_, storeLocals_cat1 e c1 (by simp), h⟩
  · rename_i e; exact ⟨_, storeLocals_cat1 e c1 (by simp [Value.category]), h⟩
  · rename_i e; exact ⟨_, storeLocals_cat1 e c1 (by simp [Value.category]), h⟩
  · rename_i e; exact ⟨_, storeLocals_cat1 e c1 (by simp [Value.category]), h⟩
  · cases h
theorem oI_ok {S : List Value} {f : Int32 → List Value → OR} (h : oI S f = some r) : ∃ v q, S = .int v :: q ∧ f v q = some r := by
  unfold oI at h
  split at h
  · exact ⟨_, _, rfl, h⟩
  · cases h
theorem oJ_ok {S : List Value} {f : Int64 → List Value → OR} (h : oJ S f = some r) : ∃ v q, S = .long v :: q ∧ f v q = some r := by
  unfold oJ at h
  split at h
  · exact ⟨_, _, rfl, h⟩
  · cases h
theorem oR_ok {S : List Value} {f : Addr → List Value → OR} (h : oR S f = some r) : ∃ v q, S = .ref v :: q ∧ f v q = some r := by
  unfold oR at h
  split at h
  · exact ⟨_, _, rfl, h⟩
  · cases h
theorem oA_ok {S : List Value} {f : Value → List Value → OR} (h : oA S f = some r) : ∃ v q, S = v :: q ∧ v.isRef = true ∧ f v q = some r := by
  unfold oA at h
  split at h
  · exact ⟨_, _, rfl, rfl, h⟩
  · exact ⟨_, _, rfl, rfl, h⟩
  · cases h
theorem oNul_ok {S : List Value} {f : List Value → OR} {g : Addr → List Value → OR} (h : oNul S f g = some r) : (∃ q, S = .null :: q ∧ f q = some r) ∨ ∃ b q, S = .ref b :: q ∧ g b q = some r := by
  unfold oNul at h
  split at h
  · exact Or.inl ⟨_, rfl, h⟩
  · exact Or.inr ⟨_, _, rfl, h⟩
  · cases h
theorem o1_ok {S : List Value} {f : Value → List Value → OR} (h : o1 S f = some r) : ∃ v q, S = v :: q ∧ v.category = 1 ∧ f v q = some r := by
  unfold o1 at h
  split at h
  · exact ⟨_, _, rfl, rfl, h⟩
  · exact ⟨_, _, rfl, rfl, h⟩
  · exact ⟨_, _, rfl, rfl, h⟩
  · cases h
theorem oD2_ok {S : List Value} {f : Int64 → List Value → OR} {g : Value → Value → List Value → OR} (h : oD2 S f g = some r) : (∃ v q, S = .long v :: q ∧ f v q = some r) ∨ ∃ v w q, S = v :: w :: q ∧ v.category = 1 ∧ w.category = 1 ∧ g v w q = some r := by
  unfold oD2 at h
  split at h
  · exact Or.inl ⟨_, _, rfl, h⟩
  · obtain ⟨v, q, rfl, e1, e2⟩ := o1_ok h
    obtain ⟨w, q', rfl, e3, e4⟩ := o1_ok e2
    exact Or.inr ⟨_, _, _, rfl, e1, e3, e4⟩
theorem oII_ok {S : List Value} {f : Int32 → Int32 → List Value → OR} (h : oII S f = some r) : ∃ x y q, S = .int y :: .int x :: q ∧ f x y q = some r := by
  unfold oII at h
  split at h
  · exact ⟨_, _, _, rfl, h⟩
  · cases h
theorem oJJ_ok {S : List Value} {f : Int64 → Int64 → List Value → OR} (h : oJJ S f = some r) : ∃ x y q, S = .long y :: .long x :: q ∧ f x y q = some r := by
  unfold oJJ at h
  split at h
  · exact ⟨_, _, _, rfl, h⟩
  · cases h
theorem oJI_ok {S : List Value} {f : Int64 → Int32 → List Value → OR} (h : oJI S f = some r) : ∃ x y q, S = .int y :: .long x :: q ∧ f x y q = some r := by
  unfold oJI at h
  split at h
  · exact ⟨_, _, _, rfl, h⟩
  · cases h
theorem oIR_ok {S : List Value} {f : Int32 → Addr → List Value → OR} (h : oIR S f = some r) : ∃ y x q, S = .int y :: .ref x :: q ∧ f y x q = some r := by
  unfold oIR at h
  split at h
  · exact ⟨_, _, _, rfl, h⟩
  · cases h
theorem oB_ok {o : List Value} {f g : List Value → OR} (h : oB o f g = some r) : (∃ o', f o' = some r) ∨ ∃ o', g o' = some r := by
  unfold oB at h
  split at h
  · exact Or.inl ⟨_, h⟩
  · exact Or.inr ⟨_, h⟩
  · cases h
theorem oV_ok {o : List Value} {f : Value → List Value → OR} (h : oV o f = some r) : ∃ v o', f v o' = some r := by
  unfold oV at h
  split at h
  · exact ⟨_, _, h⟩
  · cases h
theorem oN_ok {o : List Value} {f : Int32 → List Value → OR} (h : oN o f = some r) : ∃ v o', f v o' = some r := by
  unfold oN at h
  split at h
  · exact ⟨_, _, h⟩
  · cases h
theorem oM_ok {o : List Value} {f : Int64 → List Value → OR} (h : oM o f = some r) : ∃ v o', f v o' = some r := by
  unfold oM at h
  split at h
  · exact ⟨_, _, h⟩
  · cases h
theorem oTo_ok {pc : Nat} {d : Int} {f : Nat → OR} (h : oTo pc d f = some r) : ∃ q, 0 ≤ (pc : Int) + d ∧ ((pc : Int) + d).toNat = q ∧ f q = some r := by
  unfold oTo at h
  by_cases q : 0 ≤ (pc : Int) + d
  · simp only [q, decide_true, cond_true] at h
    exact ⟨_, q, rfl, h⟩
  · simp [q] at h
theorem bif_ok {n n' : Nat} {q : OR} (h : (bif Nat.beq n n' then q else none) = some r) : n = n' ∧ q = some r := by
  cases hb : Nat.beq n n'
  · rw [hb] at h; cases h
  · rw [hb] at h; exact ⟨Nat.eq_of_beq_eq_true hb, h⟩
theorem cII_ok {cd : ClassFile.Cond} {b : Bool} {x y : Int32} (h : cII cd b x y) : if_icmp.holds cd x y = b := by
  cases cd <;> cases b <;> simp only [cII] at h <;> simp [if_icmp.holds, h] <;> first | done | exact Int32.not_lt.mp h | exact Int32.not_le.mpr h | exact h
theorem cI0_ok {cd : ClassFile.Cond} {b : Bool} {x : Int32} (h : cII cd b x 0) : ifCond.holds cd x = b := by
  cases cd <;> cases b <;> simp only [cII] at h <;> simp [ifCond.holds, h] <;> first | done | exact Int32.not_lt.mp h | exact Int32.not_le.mpr h | exact h
theorem cAA_ok {cd : ClassFile.ACond} {b : Bool} {x y : Value} (h : cAA cd b x y) : XT.acmp cd x y = b := by
  cases cd <;> cases b <;> simp only [cAA] at h <;> simp [XT.acmp, h]
theorem lrem_mod (x y : Int64) : x - (x / y) * y = x % y := by
  apply Int64.toInt_inj.mp
  have h1 := Int64.le_toInt (x % y)
  have h2 := Int64.toInt_lt (x % y)
  rw [Int64.toInt_sub, Int64.toInt_mul, Int64.toInt_div, Int.bmod_mul_bmod, Int.sub_bmod_bmod, Int.mul_comm (x.toInt.tdiv y.toInt), ← Int.tmod_def, ← Int64.toInt_mod]
  exact Int.bmod_eq_of_le_mul_two (by omega) (by omega)
end OwnLaws
section OwnRun
variable {p : Program} {l : Launch} {e : Env} {R : Room} {s : State} {m : MethodId} {args : Array Value} {below : List Frame} {meth : Method} {c : Code} {T : State} {locs : List Loc} {cells slots : Nat} {Z : State} {a0 : Array Value} {h : Heap} {own : String}
set_option maxHeartbeats 4000000 in
theorem ost_ok (X : Stand p l e R s m args below meth c T locs cells slots) (hx : p.tables.exec = Jvm.exec) (hZ : Z.Warmed39 s.vm) (hown : s.vm.findClass own = some m.cls) (eT : T.heap = h) {i : Instr} {n pc : Nat} {L : Array Slot} {S o : List Value} {k : Nat → Array Slot → List Value → List Value → OR} {P : Prop} {x' : Nat × Array Slot × List Value} {target : State}
    (hr : ost Z h a0 own i n pc L S o k = some (P, x')) (hP : P) (hd : decode c.code pc = .ok (i, n)) (kk : ∀ pc L S o P', k pc L S o = some (P', x') → P' → Steps p.tables e below (T.setTop (mkF m pc L S)) target) : Steps p.tables e below (T.setTop (mkF m pc L S)) target := by
  unfold ost at hr
  split at hr
  · obtain ⟨rfl, hq⟩ := bif_ok hr
    obtain ⟨v, e1, e3⟩ := oLdI_ok hq
    exact XS.iload X.here hx rfl hd e1 (kk _ _ _ _ _ e3 hP)
  · obtain ⟨rfl, hq⟩ := bif_ok hr
    obtain ⟨v, e1, e3⟩ := oLdI_ok hq
    exact XS.iloadN X.here hx rfl hd e1 (kk _ _ _ _ _ e3 hP)
  · obtain ⟨rfl, hq⟩ := bif_ok hr
    obtain ⟨v, e1, e3⟩ := oLdJ_ok hq
    exact XT.lload X.here hx rfl hd e1 (kk _ _ _ _ _ e3 hP)
  · obtain ⟨rfl, hq⟩ := bif_ok hr
    obtain ⟨v, e1, e3⟩ := oLdJ_ok hq
    exact XT.lloadN X.here hx rfl hd e1 (kk _ _ _ _ _ e3 hP)
  · obtain ⟨rfl, hq⟩ := bif_ok hr
    rcases oG_ok hq with ⟨o', hr2⟩ | hr2
    · obtain ⟨v, e1, e3⟩ := oLdG_ok hr2
      obtain ⟨P', h1, h2, e4⟩ := oAnd_ok e3 hP
      exact XS.aload X.here hx rfl hd e1 h1 (kk _ _ _ _ _ e4 h2)
    · obtain ⟨v, e1, e2, e3⟩ := oLdA_ok hr2
      exact XS.aload X.here hx rfl hd e1 e2 (kk _ _ _ _ _ e3 hP)
  · obtain ⟨rfl, hq⟩ := bif_ok hr
    rcases oG_ok hq with ⟨o', hr2⟩ | hr2
    · obtain ⟨v, e1, e3⟩ := oLdG_ok hr2
      obtain ⟨P', h1, h2, e4⟩ := oAnd_ok e3 hP
      exact XS.aloadN X.here hx rfl hd e1 h1 (kk _ _ _ _ _ e4 h2)
    · obtain ⟨v, e1, e2, e3⟩ := oLdA_ok hr2
      exact XS.aloadN X.here hx rfl hd e1 e2 (kk _ _ _ _ _ e3 hP)
  · obtain ⟨rfl, hq⟩ := bif_ok hr
    obtain ⟨v, r, rfl, e3⟩ := oI_ok hq
    obtain ⟨L', e4, e5⟩ := oSt_ok e3
    exact XS.istore X.here hx rfl hd rfl e4 (kk _ _ _ _ _ e5 hP)
  · obtain ⟨rfl, hq⟩ := bif_ok hr
    obtain ⟨v, r, rfl, e3⟩ := oI_ok hq
    obtain ⟨L', e4, e5⟩ := oSt_ok e3
    exact XS.istoreN X.here hx rfl hd rfl e4 (kk _ _ _ _ _ e5 hP)
  · obtain ⟨rfl, hq⟩ := bif_ok hr
    obtain ⟨v, r, rfl, e3⟩ := oJ_ok hq
    obtain ⟨L', e4, e5⟩ := oSt_ok e3
    exact XT.lstore X.here hx rfl hd rfl e4 (kk _ _ _ _ _ e5 hP)
  · obtain ⟨rfl, hq⟩ := bif_ok hr
    obtain ⟨v, r, rfl, e3⟩ := oJ_ok hq
    obtain ⟨L', e4, e5⟩ := oSt_ok e3
    exact XT.lstoreN X.here hx rfl hd rfl e4 (kk _ _ _ _ _ e5 hP)
  · obtain ⟨rfl, hq⟩ := bif_ok hr
    rcases oG_ok hq with ⟨o', hr2⟩ | hr2
    · obtain ⟨v, r, rfl, e3⟩ := oTop_ok hr2
      obtain ⟨P', h1, h2, e4⟩ := oAnd_ok e3 hP
      obtain ⟨L', e5, e6⟩ := oStG_ok e4 h1
      exact XS.astore X.here hx rfl hd rfl h1 e5 (kk _ _ _ _ _ e6 h2)
    · obtain ⟨v, r, rfl, e2, e3⟩ := oA_ok hr2
      obtain ⟨L', e4, e5⟩ := oSt_ok e3
      exact XS.astore X.here hx rfl hd rfl e2 e4 (kk _ _ _ _ _ e5 hP)
  · obtain ⟨rfl, hq⟩ := bif_ok hr
    rcases oG_ok hq with ⟨o', hr2⟩ | hr2
    · obtain ⟨v, r, rfl, e3⟩ := oTop_ok hr2
      obtain ⟨P', h1, h2, e4⟩ := oAnd_ok e3 hP
      obtain ⟨L', e5, e6⟩ := oStG_ok e4 h1
      exact XS.astoreN X.here hx rfl hd rfl h1 e5 (kk _ _ _ _ _ e6 h2)
    · obtain ⟨v, r, rfl, e2, e3⟩ := oA_ok hr2
      obtain ⟨L', e4, e5⟩ := oSt_ok e3
      exact XS.astoreN X.here hx rfl hd rfl e2 e4 (kk _ _ _ _ _ e5 hP)
  · obtain ⟨rfl, hq⟩ := bif_ok hr
    exact XS.iconst X.here hx rfl hd (kk _ _ _ _ _ hq hP)
  · obtain ⟨rfl, hq⟩ := bif_ok hr
    exact XS.bipush X.here hx rfl hd (kk _ _ _ _ _ hq hP)
  · obtain ⟨rfl, hq⟩ := bif_ok hr
    exact XS.sipush X.here hx rfl hd (kk _ _ _ _ _ hq hP)
  · obtain ⟨rfl, hq⟩ := bif_ok hr
    exact XT.lconst X.here hx rfl hd (kk _ _ _ _ _ hq hP)
  · obtain ⟨rfl, hq⟩ := bif_ok hr
    exact XS.aconstNull X.here hx rfl hd (kk _ _ _ _ _ hq hP)
  · obtain ⟨rfl, hq⟩ := bif_ok hr
    obtain ⟨x, y, r, rfl, e3⟩ := oII_ok hq
    exact XS.iadd X.here hx rfl hd rfl (kk _ _ _ _ _ e3 hP)
  · obtain ⟨rfl, hq⟩ := bif_ok hr
    obtain ⟨x, y, r, rfl, e3⟩ := oII_ok hq
    exact XS.isub X.here hx rfl hd rfl (kk _ _ _ _ _ e3 hP)
  · obtain ⟨rfl, hq⟩ := bif_ok hr
    obtain ⟨x, y, r, rfl, e3⟩ := oII_ok hq
    exact XS.imul X.here hx rfl hd rfl (kk _ _ _ _ _ e3 hP)
  · obtain ⟨rfl, hq⟩ := bif_ok hr
    obtain ⟨x, y, r, rfl, e3⟩ := oII_ok hq
    exact XS.iand X.here hx rfl hd rfl (kk _ _ _ _ _ e3 hP)
  · obtain ⟨rfl, hq⟩ := bif_ok hr
    obtain ⟨x, y, r, rfl, e3⟩ := oII_ok hq
    exact XT.ior X.here hx rfl hd rfl (kk _ _ _ _ _ e3 hP)
  · obtain ⟨rfl, hq⟩ := bif_ok hr
    obtain ⟨x, y, r, rfl, e3⟩ := oII_ok hq
    exact XT.ixor X.here hx rfl hd rfl (kk _ _ _ _ _ e3 hP)
  · obtain ⟨rfl, hq⟩ := bif_ok hr
    obtain ⟨x, y, r, rfl, e3⟩ := oII_ok hq
    exact XT.ishl X.here hx rfl hd rfl (kk _ _ _ _ _ e3 hP)
  · obtain ⟨rfl, hq⟩ := bif_ok hr
    obtain ⟨x, y, r, rfl, e3⟩ := oII_ok hq
    exact XT.ishr X.here hx rfl hd rfl (kk _ _ _ _ _ e3 hP)
  · obtain ⟨rfl, hq⟩ := bif_ok hr
    obtain ⟨x, y, r, rfl, e3⟩ := oII_ok hq
    exact XT.iushr X.here hx rfl hd rfl (kk _ _ _ _ _ e3 hP)
  · obtain ⟨rfl, hq⟩ := bif_ok hr
    obtain ⟨x, y, r, rfl, e3⟩ := oII_ok hq
    obtain ⟨P', h1, h2, e4⟩ := oAnd_ok e3 hP
    exact XS.idiv X.here hx rfl hd rfl h1 (kk _ _ _ _ _ e4 h2)
  · obtain ⟨rfl, hq⟩ := bif_ok hr
    obtain ⟨x, y, r, rfl, e3⟩ := oII_ok hq
    obtain ⟨P', h1, h2, e4⟩ := oAnd_ok e3 hP
    exact iremM X hx rfl hd rfl h1 (kk _ _ _ _ _ e4 h2)
  · obtain ⟨rfl, hq⟩ := bif_ok hr
    obtain ⟨x, y, r, rfl, e3⟩ := oJJ_ok hq
    exact XT.ladd X.here hx rfl hd rfl (kk _ _ _ _ _ e3 hP)
  · obtain ⟨rfl, hq⟩ := bif_ok hr
    obtain ⟨x, y, r, rfl, e3⟩ := oJJ_ok hq
    exact XT.lsub X.here hx rfl hd rfl (kk _ _ _ _ _ e3 hP)
  · obtain ⟨rfl, hq⟩ := bif_ok hr
    obtain ⟨x, y, r, rfl, e3⟩ := oJJ_ok hq
    exact XT.lmul X.here hx rfl hd rfl (kk _ _ _ _ _ e3 hP)
  · obtain ⟨rfl, hq⟩ := bif_ok hr
    obtain ⟨x, y, r, rfl, e3⟩ := oJJ_ok hq
    exact XT.land X.here hx rfl hd rfl (kk _ _ _ _ _ e3 hP)
  · obtain ⟨rfl, hq⟩ := bif_ok hr
    obtain ⟨x, y, r, rfl, e3⟩ := oJJ_ok hq
    exact XT.lor X.here hx rfl hd rfl (kk _ _ _ _ _ e3 hP)
  · obtain ⟨rfl, hq⟩ := bif_ok hr
    obtain ⟨x, y, r, rfl, e3⟩ := oJJ_ok hq
    exact XT.lxor X.here hx rfl hd rfl (kk _ _ _ _ _ e3 hP)
  · obtain ⟨rfl, hq⟩ := bif_ok hr
    obtain ⟨x, y, r, rfl, e3⟩ := oJJ_ok hq
    exact XT.lcmp X.here hx rfl hd rfl (kk _ _ _ _ _ e3 hP)
  · obtain ⟨rfl, hq⟩ := bif_ok hr
    obtain ⟨x, y, r, rfl, e3⟩ := oJJ_ok hq
    obtain ⟨P', h1, h2, e4⟩ := oAnd_ok e3 hP
    exact XT.ldiv X.here hx rfl hd rfl h1 (kk _ _ _ _ _ e4 h2)
  · obtain ⟨rfl, hq⟩ := bif_ok hr
    obtain ⟨x, y, r, rfl, e3⟩ := oJJ_ok hq
    obtain ⟨P', h1, h2, e4⟩ := oAnd_ok e3 hP
    exact XT.lrem X.here hx rfl hd rfl h1 (by rw [lrem_mod]; exact kk _ _ _ _ _ e4 h2)
  · obtain ⟨rfl, hq⟩ := bif_ok hr
    obtain ⟨x, y, r, rfl, e3⟩ := oJI_ok hq
    exact XT.lshl X.here hx rfl hd rfl (kk _ _ _ _ _ e3 hP)
  · obtain ⟨rfl, hq⟩ := bif_ok hr
    obtain ⟨x, y, r, rfl, e3⟩ := oJI_ok hq
    exact XT.lshr X.here hx rfl hd rfl (kk _ _ _ _ _ e3 hP)
  · obtain ⟨rfl, hq⟩ := bif_ok hr
    obtain ⟨x, y, r, rfl, e3⟩ := oJI_ok hq
    exact XT.lushr X.here hx rfl hd rfl (kk _ _ _ _ _ e3 hP)
  · obtain ⟨rfl, hq⟩ := bif_ok hr
    obtain ⟨v, r, rfl, e3⟩ := oI_ok hq
    exact XS.ineg X.here hx rfl hd rfl (kk _ _ _ _ _ e3 hP)
  · obtain ⟨rfl, hq⟩ := bif_ok hr
    obtain ⟨v, r, rfl, e3⟩ := oI_ok hq
    exact XT.i2l X.here hx rfl hd rfl (kk _ _ _ _ _ e3 hP)
  · obtain ⟨rfl, hq⟩ := bif_ok hr
    obtain ⟨v, r, rfl, e3⟩ := oI_ok hq
    exact XT.i2b X.here hx rfl hd rfl (kk _ _ _ _ _ e3 hP)
  · obtain ⟨rfl, hq⟩ := bif_ok hr
    obtain ⟨v, r, rfl, e3⟩ := oI_ok hq
    exact XT.i2c X.here hx rfl hd rfl (kk _ _ _ _ _ e3 hP)
  · obtain ⟨rfl, hq⟩ := bif_ok hr
    obtain ⟨v, r, rfl, e3⟩ := oI_ok hq
    exact XT.i2s X.here hx rfl hd rfl (kk _ _ _ _ _ e3 hP)
  · obtain ⟨rfl, hq⟩ := bif_ok hr
    obtain ⟨v, r, rfl, e3⟩ := oJ_ok hq
    exact XT.lneg X.here hx rfl hd rfl (kk _ _ _ _ _ e3 hP)
  · obtain ⟨rfl, hq⟩ := bif_ok hr
    obtain ⟨v, r, rfl, e3⟩ := oJ_ok hq
    exact XT.l2i X.here hx rfl hd rfl (kk _ _ _ _ _ e3 hP)
  · obtain ⟨rfl, hq⟩ := bif_ok hr
    obtain ⟨v, r, rfl, e2, e3⟩ := o1_ok hq
    exact XS.dup X.here hx rfl hd rfl e2 (kk _ _ _ _ _ e3 hP)
  · obtain ⟨rfl, hq⟩ := bif_ok hr
    obtain ⟨v, r, rfl, e2, e3⟩ := o1_ok hq
    exact XT.pop X.here hx rfl hd rfl e2 (kk _ _ _ _ _ e3 hP)
  · obtain ⟨rfl, hq⟩ := bif_ok hr
    obtain ⟨v, r, rfl, e2, e3⟩ := o1_ok hq
    obtain ⟨w, r', rfl, e4, e5⟩ := o1_ok e3
    exact XT.dupX1 X.here hx rfl hd rfl e2 e4 (kk _ _ _ _ _ e5 hP)
  · obtain ⟨rfl, hq⟩ := bif_ok hr
    rcases oD2_ok hq with ⟨v, r, rfl, e3⟩ | ⟨v, w, r, rfl, e1, e2, e3⟩
    · exact XT.dup2L X.here hx rfl hd rfl (kk _ _ _ _ _ e3 hP)
    · exact XT.dup2 X.here hx rfl hd rfl e1 e2 (kk _ _ _ _ _ e3 hP)
  · obtain ⟨rfl, hq⟩ := bif_ok hr
    obtain ⟨v, e1, e3⟩ := oLdI'_ok hq
    obtain ⟨L', e4, e5⟩ := oSt_ok e3
    exact XS.iinc X.here hx rfl hd e1 e4 (kk _ _ _ _ _ e5 hP)
  · obtain ⟨rfl, hq⟩ := bif_ok hr
    obtain ⟨q, e1, e2, e3⟩ := oTo_ok hq
    exact XS.goto X.here hx rfl rfl hd e1 e2 (kk _ _ _ _ _ e3 hP)
  · obtain ⟨rfl, hq⟩ := bif_ok hr
    obtain ⟨v, r, rfl, e3⟩ := oI_ok hq
    rcases oB_ok e3 with ⟨o', e4⟩ | ⟨o', e4⟩
    · obtain ⟨P', h1, h2, e5⟩ := oAnd_ok e4 hP
      obtain ⟨q, e6, e7, e8⟩ := oTo_ok e5
      exact XS.ifYes X.here hx rfl rfl hd rfl (cI0_ok h1) e6 e7 (kk _ _ _ _ _ e8 h2)
    · obtain ⟨P', h1, h2, e5⟩ := oAnd_ok e4 hP
      exact XS.ifNo X.here hx rfl hd rfl (cI0_ok h1) (kk _ _ _ _ _ e5 h2)
  · obtain ⟨rfl, hq⟩ := bif_ok hr
    obtain ⟨x, y, r, rfl, e3⟩ := oII_ok hq
    rcases oB_ok e3 with ⟨o', e4⟩ | ⟨o', e4⟩
    · obtain ⟨P', h1, h2, e5⟩ := oAnd_ok e4 hP
      obtain ⟨q, e6, e7, e8⟩ := oTo_ok e5
      exact XS.icmpYes X.here hx rfl rfl hd rfl (cII_ok h1) e6 e7 (kk _ _ _ _ _ e8 h2)
    · obtain ⟨P', h1, h2, e5⟩ := oAnd_ok e4 hP
      exact XS.icmpNo X.here hx rfl hd rfl (cII_ok h1) (kk _ _ _ _ _ e5 h2)
  · obtain ⟨rfl, hq⟩ := bif_ok hr
    rcases oNul_ok hq with ⟨r, rfl, e3⟩ | ⟨b, r, rfl, e3⟩
    · obtain ⟨q, e6, e7, e8⟩ := oTo_ok e3
      exact XS.ifnullYes X.here hx rfl rfl hd rfl e6 e7 (kk _ _ _ _ _ e8 hP)
    · exact XS.ifnullNo X.here hx rfl hd rfl (kk _ _ _ _ _ e3 hP)
  · obtain ⟨rfl, hq⟩ := bif_ok hr
    rcases oNul_ok hq with ⟨r, rfl, e3⟩ | ⟨b, r, rfl, e3⟩
    · exact XT.ifnonnullNo X.here hx rfl hd rfl (kk _ _ _ _ _ e3 hP)
    · obtain ⟨q, e6, e7, e8⟩ := oTo_ok e3
      exact XT.ifnonnullYes X.here hx rfl rfl hd rfl e6 e7 (kk _ _ _ _ _ e8 hP)
  · obtain ⟨rfl, hq⟩ := bif_ok hr
    obtain ⟨y, r1, rfl, ey, e2⟩ := oA_ok hq
    obtain ⟨x, r, rfl, ex, e3⟩ := oA_ok e2
    rcases oB_ok e3 with ⟨o', e4⟩ | ⟨o', e4⟩
    · obtain ⟨P', h1, h2, e5⟩ := oAnd_ok e4 hP
      obtain ⟨q, e6, e7, e8⟩ := oTo_ok e5
      exact XT.acmpYes X.here hx rfl rfl hd rfl ex ey (cAA_ok h1) e6 e7 (kk _ _ _ _ _ e8 h2)
    · obtain ⟨P', h1, h2, e5⟩ := oAnd_ok e4 hP
      exact XT.acmpNo X.here hx rfl hd rfl ex ey (cAA_ok h1) (kk _ _ _ _ _ e5 h2)
  · obtain ⟨rfl, hq⟩ := bif_ok hr
    obtain ⟨j, a, r, rfl, e3⟩ := oIR_ok hq
    obtain ⟨v, o', e4⟩ := oV_ok e3
    obtain ⟨P', ⟨cl, h1, h3, h4⟩, h2, e5⟩ := oAnd_ok e4 hP
    exact X.iaload hx (by rw [eT]; exact h1.1) (State.isArrayOf_alike hZ.alike h1.2.1) h1.2.2 h3 h4 (g := mkF m pc L _) rfl rfl hd _ (kk _ _ _ _ _ e5 h2)
  · obtain ⟨rfl, hq⟩ := bif_ok hr
    obtain ⟨j, a, r, rfl, e3⟩ := oIR_ok hq
    obtain ⟨v, o', e4⟩ := oV_ok e3
    obtain ⟨P', ⟨cl, h1, h3, h4⟩, h2, e5⟩ := oAnd_ok e4 hP
    exact X.laload hx (by rw [eT]; exact h1.1) (State.isArrayOf_alike hZ.alike h1.2.1) h1.2.2 h3 h4 (g := mkF m pc L _) rfl rfl hd _ (kk _ _ _ _ _ e5 h2)
  · obtain ⟨rfl, hq⟩ := bif_ok hr
    obtain ⟨j, a, r, rfl, e3⟩ := oIR_ok hq
    obtain ⟨v, o', e4⟩ := oV_ok e3
    obtain ⟨P', ⟨cl, h1, h3, h4⟩, h2, e5⟩ := oAnd_ok e4 hP
    exact X.caload hx (by rw [eT]; exact h1.1) (State.isArrayOf_alike hZ.alike h1.2.1) h1.2.2 h3 h4 (g := mkF m pc L _) rfl rfl hd _ (kk _ _ _ _ _ e5 h2)
  · obtain ⟨rfl, hq⟩ := bif_ok hr
    obtain ⟨j, a, r, rfl, e3⟩ := oIR_ok hq
    obtain ⟨v, o', e4⟩ := oV_ok e3
    obtain ⟨P', ⟨cl, h1, h3, h4⟩, h2, e5⟩ := oAnd_ok e4 hP
    exact X.baloadBytes hx (by rw [eT]; exact h1.1) (State.isArrayOf_alike hZ.alike h1.2.1) h1.2.2 h3 h4 (g := mkF m pc L _) rfl rfl hd _ (kk _ _ _ _ _ e5 h2)
  · obtain ⟨rfl, hq⟩ := bif_ok hr
    obtain ⟨j, a, r, rfl, e3⟩ := oIR_ok hq
    obtain ⟨v, o', e4⟩ := oV_ok e3
    obtain ⟨P', ⟨ty, hty, cl, h1, h3, h4⟩, h2, e5⟩ := oAnd_ok e4 hP
    exact X.aaload hx (by rw [eT]; exact h1.1) (State.isArrayOf_alike hZ.alike h1.2.1) hty h1.2.2 h3 h4 (g := mkF m pc L _) rfl rfl hd _ (kk _ _ _ _ _ e5 h2)
  · obtain ⟨rfl, hq⟩ := bif_ok hr
    obtain ⟨a, r, rfl, e3⟩ := oR_ok hq
    obtain ⟨n, o', e4⟩ := oN_ok e3
    obtain ⟨P', ⟨cl, ty, h1, rfl⟩, h2, e5⟩ := oAnd_ok e4 hP
    exact X.arraylength hx (by rw [eT]; exact h1.1) (State.isArrayOf_alike hZ.alike h1.2.1) (g := mkF m pc L _) rfl rfl hd _ (kk _ _ _ _ _ e5 h2)
  · obtain ⟨rfl, hq⟩ := bif_ok hr
    obtain ⟨v, o', e4⟩ := oN_ok hq
    obtain ⟨P', h1, h2, e5⟩ := oAnd_ok e4 hP
    exact Stand.ldcI X hx hown (mvT hZ h1) rfl hd (kk _ _ _ _ _ e5 h2)
  · obtain ⟨rfl, hq⟩ := bif_ok hr
    obtain ⟨v, o', e4⟩ := oN_ok hq
    obtain ⟨P', h1, h2, e5⟩ := oAnd_ok e4 hP
    exact Stand.ldcWI X hx hown (mvT hZ h1) rfl hd (kk _ _ _ _ _ e5 h2)
  · obtain ⟨rfl, hq⟩ := bif_ok hr
    obtain ⟨v, o', e4⟩ := oM_ok hq
    obtain ⟨P', h1, h2, e5⟩ := oAnd_ok e4 hP
    exact Stand.ldc2J X hx hown (mvT hZ h1) rfl hd (kk _ _ _ _ _ e5 h2)
  · cases hr
theorem orun_ok (X : Stand p l e R s m args below meth c T locs cells slots) (hx : p.tables.exec = Jvm.exec) (hZ : Z.Warmed39 s.vm) (hown : s.vm.findClass own = some m.cls) (eT : T.heap = h) {b : ByteArray} (hby : c.code = b) {target : State} : ∀ (t : OTr) (o : List Value) (pc : Nat) (L : Array Slot) (S : List Value) (P : Prop) (pc' : Nat) (L' : Array Slot) (S' : List Value),
    okB b t = true → orun Z h a0 own t o pc L S = some (P, pc', L', S') → P → Steps p.tables e below (T.setTop (mkF m pc' L' S')) target → Steps p.tables e below (T.setTop (mkF m pc L S)) target
  | [], o, pc, L, S, P, pc', L', S', _, hr, _, hs => by
    simp only [orun, Option.some.injEq, Prod.mk.injEq] at hr
    obtain ⟨-, rfl, rfl, rfl⟩ := hr
    exact hs
  | y :: t, o, pc, L, S, P, pc', L', S', hok, hr, hP, hs => by
    simp only [okB, List.all_cons, Bool.and_eq_true, decide_eq_true_eq] at hok
    obtain ⟨h1, h2⟩ := bif_ok hr
    subst h1
    exact ost_ok X hx hZ hown eT h2 hP (hb hby hok.1) fun pc L S o P' q hP' => orun_ok X hx hZ hown eT hby t o pc L S P' pc' L' S' hok.2 q hP' hs
end OwnRun
theorem nb1 : nar .boolean (1 : Int32) = 1 := by decide
theorem nb0 : nar .boolean (0 : Int32) = 0 := by decide
theorem sb1 : some (Value.int (nar .boolean (1 : Int32))) = some (.int 1) := by rw [nb1]
theorem sb0 : some (Value.int (nar .boolean (0 : Int32))) = some (.int 0) := by rw [nb0]
section OwnGo
/-- where the run stands (the narrow frame): its heap is h; what was written lies in new cells -/
def Nw (Z : State) (n0 : Nat) (h : Heap) (p : Program) (l : Launch) (e : Env) (R : Room) (s : State) (m : MethodId) (args : Array Value) (below : List Frame) (meth : Method) (c : Code) (T : State) (cells slots : Nat) : Prop :=
  ∃ locs, Stand p l e R s m args below meth c T locs cells slots ∧ T.heap = h ∧ Fr n0 locs ∧ n0 ≤ h.size ∧ Z.Warmed39 s.vm
def Cx (Z : State) (own : String) (b : ByteArray) (ml : Nat) (p : Program) (m : MethodId) (c : Code) : Prop := p.tables.exec = Jvm.exec ∧ Z.vm.findClass own = some m.cls ∧ c.code = b ∧ c.maxLocals = ml
def Ld (p : Program) (e : Env) (below : List Frame) (T : State) (g : JFrame) (T' : State) (g' : JFrame) : Prop := ∀ target, Steps p.tables e below (T'.setTop g') target → Steps p.tables e below (T.setTop g) target
/-- the frame returns v -/
def Fn (p : Program) (e : Env) (below : List Frame) (m : MethodId) (T : State) (g : JFrame) (v : Option Value) : Prop :=
  ∀ fs : List Frame, (∀ (f : JFrame) (acts : List Action), f.method = m → f.locked = none → f.entered = [] → (doReturn e (T.setTop f) acts v).1 = T.setFrames fs) → Steps p.tables e below (T.setTop g) (T.setFrames fs)
variable {p : Program} {l : Launch} {e : Env} {R : Room} {s : State} {m : MethodId} {args : Array Value} {below : List Frame} {meth : Method} {c : Code} {T T1 T2 : State} {cells slots : Nat} {Z : State} {a0 : Array Value} {h h1 h2 : Heap} {own : String} {n0 : Nat} {b : ByteArray} {ml : Nat} {g g1 g2 : JFrame}
theorem Ld.refl : Ld p e below T g T g := fun _ k => k
theorem Ld.trans (A : Ld p e below T g T1 g1) (B : Ld p e below T1 g1 T2 g2) : Ld p e below T g T2 g2 := fun t k => A t (B t k)
theorem Ld.cast {g' : JFrame} (A : Ld p e below T g T1 g1) (q : g1 = g') : Ld p e below T g T1 g' := q ▸ A
theorem Nw.size (N : Nw Z n0 h p l e R s m args below meth c T cells slots) : n0 ≤ h.size := by obtain ⟨_, _, _, _, q, _⟩ := N; exact q
theorem Nw.mono {cells' slots' : Nat} (N : Nw Z n0 h p l e R s m args below meth c T cells slots) (q1 : cells ≤ cells') (q2 : slots ≤ slots') : Nw Z n0 h p l e R s m args below meth c T cells' slots' := by
  obtain ⟨L, X, r⟩ := N; exact ⟨L, X.mono q1 q2, r⟩
theorem Nw.old (N : Nw Z n0 h p l e R s m args below meth c T cells slots) (O : Old Z n0 s.heap) : Old Z n0 h := by
  obtain ⟨locs, X, eT, F, q, hZ⟩ := N
  subst eT
  obtain ⟨-, s2, -, -, -, s6⟩ := X.same
  refine ⟨O.1, Nat.le_trans O.2.1 s2, fun a c hc => ?_⟩
  obtain ⟨c', h1, h2, h3, h4⟩ := s6 a c (O.2.2 a c hc)
  have ha : a < n0 := O.1 ▸ (Array.getElem?_eq_some_iff.mp hc).1
  have e : c'.slots = c.slots := Array.ext_getElem? fun i => h4 i fun q => absurd (F _ q) (Nat.not_le.mpr ha)
  rw [e] at h2
  exact h1.trans (by rw [h2])
theorem cx_own (K : Cx Z own b ml p m c) (hZ : Z.Warmed39 s.vm) : s.vm.findClass own = some m.cls := by rw [hZ.alike.findClass]; exact K.2.1
theorem goRun (K : Cx Z own b ml p m c) (N : Nw Z n0 h p l e R s m args below meth c T cells slots) (a0 : Array Value) (t : OTr) (o : List Value) {pc : Nat} {L : Array Slot} {S : List Value} {P : Prop} {pc' : Nat} {L' : Array Slot} {S' : List Value}
    (ok : okB b t = true) (hr : orun Z h a0 own t o pc L S = some (P, pc', L', S')) (hP : P) : Ld p e below T (mkF m pc L S) T (mkF m pc' L' S') := fun _ k => by
  obtain ⟨_, X, eT, _, _, hZ⟩ := N
  exact orun_ok X K.1 hZ (cx_own K hZ) eT K.2.2.1 t o pc L S P pc' L' S' ok hr hP k
theorem goNew (K : Cx Z own b ml p m c) (N : Nw Z n0 h p l e R s m args below meth c T cells slots) {C : String} {index n : Nat} (w : (Jvm.Cond.classLink own index C).before a0 Z = true) (wi : (Jvm.Cond.instantiable C n).before a0 Z = true) (wz : (Jvm.Cond.initialized C).before a0 Z = true)
    {pc : Nat} {L : Array Slot} {S : List Value} (hd : decode b pc = .ok (.new index, 3)) (hc : cells + 1 ≤ R.cells) (hl : slots + n ≤ R.slots) :
    ∃ T' h' a, a = h.size ∧ Nw Z n0 h' p l e R s m args below meth c T' (cells + 1) (slots + n) ∧ Ext h h' ∧ Exa Z h' a C ∧ (∀ {O nm d : String} {ty : FieldType}, Laid Z a0 C O nm d → parseFieldDescriptor d = some ty → Fld Z h' a O nm d (defaultValue ty)) ∧ Ld p e below T (mkF m pc L S) T' (mkF m (pc + 3) L (.ref a :: S)) := by
  obtain ⟨Lc, X, eT, F, q, hZ⟩ := N
  obtain ⟨T', h', X', e', E, A, D, -, st⟩ := newO X K.1 hZ (cx_own K hZ) w wi wz eT (g := mkF m pc L S) rfl (hb K.2.2.1 hd) hc hl
  exact ⟨T', h', _, rfl, ⟨Lc, X', e', F, Nat.le_trans q E.1, hZ⟩, E, A, D, st⟩
theorem goGet (K : Cx Z own b ml p m c) (N : Nw Z n0 h p l e R s m args below meth c T cells slots) {O n d : String} {index : Nat} (w : (Jvm.Cond.fieldLink own index O n d).before a0 Z = true) {a : Addr} {v : Value} (F : Fld Z h a O n d v)
    {pc : Nat} {L : Array Slot} {S : List Value} (hd : decode b pc = .ok (.getfield index, 3)) : ∃ T', Nw Z n0 h p l e R s m args below meth c T' cells slots ∧ Ld p e below T (mkF m pc L (.ref a :: S)) T' (mkF m (pc + 3) L (v :: S)) := by
  obtain ⟨Lc, X, eT, r, q, hZ⟩ := N
  obtain ⟨T', X', e', st⟩ := getF X K.1 hZ (cx_own K hZ) (host := "") (Or.inl w) Via.refl eT F (g := mkF m pc L (.ref a :: S)) rfl rfl (hb K.2.2.1 hd)
  exact ⟨T', ⟨Lc, X', e', r, q, hZ⟩, st⟩
theorem goSta (K : Cx Z own b ml p m c) (N : Nw Z n0 h p l e R s m args below meth c T cells slots) {O n d : String} {index : Nat} (w : (Jvm.Cond.fieldLink own index O n d).before a0 Z = true) {v : Value} (F : Sta Z h O n d v)
    {pc : Nat} {L : Array Slot} {S : List Value} (hd : decode b pc = .ok (.getstatic index, 3)) : ∃ T', Nw Z n0 h p l e R s m args below meth c T' cells slots ∧ Ld p e below T (mkF m pc L S) T' (mkF m (pc + 3) L (v :: S)) := by
  obtain ⟨Lc, X, eT, r, q, hZ⟩ := N
  obtain ⟨T', X', e', st⟩ := getS (host := "") X K.1 hZ (cx_own K hZ) w Via.refl eT F (g := mkF m pc L S) rfl (hb K.2.2.1 hd)
  exact ⟨T', ⟨Lc, X', e', r, q, hZ⟩, st⟩
theorem goPut (K : Cx Z own b ml p m c) (N : Nw Z n0 h p l e R s m args below meth c T cells slots) {O n d C : String} {index kk : Nat} {ty : FieldType} (w : (Jvm.Cond.fieldLink own index O n d).before a0 Z = true) {a : Addr} {v old : Value} (F : Fld Z h a O n d old) (E : Exa Z h a C)
    (Ly : (Jvm.Cond.lays C O n d).before a0 Z = true ∨ ((Jvm.Cond.laysFinal C O n d).before a0 Z = true ∧ own = O ∧ meth.name = "<init>")) (wi : (Jvm.Cond.instantiable C kk).before a0 Z = true) (hty : parseFieldDescriptor d = some ty) (hn : narrow ty v = v) (hf : fits ty v = true) (ha : n0 ≤ a)
    {pc : Nat} {L : Array Slot} {S : List Value} (hd : decode b pc = .ok (.putfield index, 3)) :
    ∃ T' h', Nw Z n0 h' p l e R s m args below meth c T' cells slots ∧ Wr h h' a (Jvm.RoadKit.slotOf Z O n d) v ∧ Ld p e below T (mkF m pc L (v :: .ref a :: S)) T' (mkF m (pc + 3) L S) := by
  obtain ⟨Lc, X, eT, r, q, hZ⟩ := N
  obtain ⟨T', h', X', e', W, st⟩ := putF X K.1 hZ (cx_own K hZ) (host := "") (Or.inl w) Via.refl eT F E Ly wi hty hn hf (g := mkF m pc L (v :: .ref a :: S)) rfl rfl (hb K.2.2.1 hd)
  exact ⟨T', h', ⟨_, X', e', Fr.snoc X' r ha, by rw [W.size]; exact q, hZ⟩, W, st⟩
theorem goInit (K : Cx Z own b ml p m c) (N : Nw Z n0 h p l e R s m args below meth c T cells slots) {index : Nat} (w1 : (Jvm.Cond.methodLink own index ⟨"java/lang/Object", "<init>", "()V"⟩).before a0 Z = true) (w2 : (Jvm.Cond.instanceMethod ⟨"java/lang/Object", "<init>", "()V"⟩).before a0 Z = true) {ob : ByteArray} (w3 : (Jvm.Cond.code ⟨"java/lang/Object", "<init>", "()V"⟩ ob 1 none).before a0 Z = true) (ho : ob = ⟨#[0xb1]⟩)
    {a : Addr} {pc : Nat} {L : Array Slot} {S : List Value} (hsz : L.size = ml) (hd : decode b pc = .ok (.invokespecial index, 3)) (hf : 1 ≤ R.frames) {W : Nat} (hW : (S.map fun v => v.category).sum ≤ W) (hlo : W + 12 ≤ R.locals) :
    ∃ T', Nw Z n0 h p l e R s m args below meth c T' cells slots ∧ Ld p e below T (mkF m pc L (.ref a :: S)) T' (mkF m (pc + 3) L S) := by
  subst ho
  obtain ⟨Lc, X, eT, r, q, hZ⟩ := N
  obtain ⟨T', X', e', st⟩ := initO X K.1 hZ (cx_own K hZ) w1 w2 w3 eT (g := mkF m pc L (.ref a :: S)) rfl (by rw [K.2.2.2]; exact hsz) rfl (hb K.2.2.1 hd) hf (W := W) (by show 2 * 0 + _ ≤ _; omega) hlo
  exact ⟨T', ⟨Lc, X', e', r, q, hZ⟩, st⟩
theorem goNewP (K : Cx Z own b ml p m c) (N : Nw Z n0 h p l e R s m args below meth c T cells slots) {aty : ArrayType} (w : (Jvm.Cond.arrayClass (newarray.typeOf aty)).before a0 Z = true) {n : Int32} (hn : ¬ n < 0) {cap : Nat} (hcap : n.toNatClampNeg ≤ cap) (hbg : cap * 8 ≤ 536870912) (hc : cells + 1 ≤ R.cells) (hl : slots + cap ≤ R.slots)
    {pc : Nat} {L : Array Slot} {S : List Value} (hd : decode b pc = .ok (.newarray aty, 2)) :
    ∃ T' h' a cA, a = h.size ∧ Nw Z n0 h' p l e R s m args below meth c T' (cells + 1) (slots + cap) ∧ Ext h h' ∧ Arr Z h' a (newA cA (newarray.typeOf aty) n) (newarray.typeOf aty) ∧ Ld p e below T (mkF m pc L (.int n :: S)) T' (mkF m (pc + 2) L (.ref a :: S)) := by
  obtain ⟨Lc, X, eT, r, q, hZ⟩ := N
  obtain ⟨T', h', cA, X', e', E, A, st⟩ := newP X K.1 hZ w eT (g := mkF m pc L (.int n :: S)) rfl (hb K.2.2.1 hd) rfl hn hcap hbg hc hl
  exact ⟨T', h', _, cA, rfl, ⟨Lc, X', e', r, Nat.le_trans q E.1, hZ⟩, E, A, st⟩
theorem goStI (K : Cx Z own b ml p m c) (N : Nw Z n0 h p l e R s m args below meth c T cells slots) {a : Addr} {cl : Cell} (A : Arr Z h a cl .int) {j x : Int32} (hj : ¬ (j < 0 ∨ cl.slots.size ≤ j.toNatClampNeg)) (ha : n0 ≤ a) {pc : Nat} {L : Array Slot} {S : List Value} (hd : decode b pc = .ok (.iastore, 1)) :
    ∃ T' h', Nw Z n0 h' p l e R s m args below meth c T' cells slots ∧ Wr h h' a j.toNatClampNeg (.int x) ∧ Ld p e below T (mkF m pc L (.int x :: .int j :: .ref a :: S)) T' (mkF m (pc + 1) L S) := by
  obtain ⟨Lc, X, eT, r, q, hZ⟩ := N
  obtain ⟨T', h', X', e', W, st⟩ := stI X K.1 hZ eT A hj (g := mkF m pc L (.int x :: .int j :: .ref a :: S)) rfl rfl (hb K.2.2.1 hd)
  exact ⟨T', h', ⟨_, X', e', Fr.snoc X' r ha, by rw [W.size]; exact q, hZ⟩, W, st⟩
theorem goStJ (K : Cx Z own b ml p m c) (N : Nw Z n0 h p l e R s m args below meth c T cells slots) {a : Addr} {cl : Cell} (A : Arr Z h a cl .long) {j : Int32} {x : Int64} (hj : ¬ (j < 0 ∨ cl.slots.size ≤ j.toNatClampNeg)) (ha : n0 ≤ a) {pc : Nat} {L : Array Slot} {S : List Value} (hd : decode b pc = .ok (.lastore, 1)) :
    ∃ T' h', Nw Z n0 h' p l e R s m args below meth c T' cells slots ∧ Wr h h' a j.toNatClampNeg (.long x) ∧ Ld p e below T (mkF m pc L (.long x :: .int j :: .ref a :: S)) T' (mkF m (pc + 1) L S) := by
  obtain ⟨Lc, X, eT, r, q, hZ⟩ := N
  obtain ⟨T', h', X', e', W, st⟩ := stJ X K.1 hZ eT A hj (g := mkF m pc L (.long x :: .int j :: .ref a :: S)) rfl rfl (hb K.2.2.1 hd)
  exact ⟨T', h', ⟨_, X', e', Fr.snoc X' r ha, by rw [W.size]; exact q, hZ⟩, W, st⟩
theorem goStC (K : Cx Z own b ml p m c) (N : Nw Z n0 h p l e R s m args below meth c T cells slots) {a : Addr} {cl : Cell} (A : Arr Z h a cl .char) {j x : Int32} (hj : ¬ (j < 0 ∨ cl.slots.size ≤ j.toNatClampNeg)) (ha : n0 ≤ a) {pc : Nat} {L : Array Slot} {S : List Value} (hd : decode b pc = .ok (.castore, 1)) :
    ∃ T' h', Nw Z n0 h' p l e R s m args below meth c T' cells slots ∧ Wr h h' a j.toNatClampNeg (.int (nar .char x)) ∧ Ld p e below T (mkF m pc L (.int x :: .int j :: .ref a :: S)) T' (mkF m (pc + 1) L S) := by
  obtain ⟨Lc, X, eT, r, q, hZ⟩ := N
  obtain ⟨T', h', X', e', W, st⟩ := stC X K.1 hZ eT A hj (g := mkF m pc L (.int x :: .int j :: .ref a :: S)) rfl rfl (hb K.2.2.1 hd)
  exact ⟨T', h', ⟨_, X', e', Fr.snoc X' r ha, by rw [W.size]; exact q, hZ⟩, W, st⟩
theorem goStB (K : Cx Z own b ml p m c) (N : Nw Z n0 h p l e R s m args below meth c T cells slots) {a : Addr} {cl : Cell} (A : Arr Z h a cl .byte) {j x : Int32} (hj : ¬ (j < 0 ∨ cl.slots.size ≤ j.toNatClampNeg)) (ha : n0 ≤ a) {pc : Nat} {L : Array Slot} {S : List Value} (hd : decode b pc = .ok (.bastore, 1)) :
    ∃ T' h', Nw Z n0 h' p l e R s m args below meth c T' cells slots ∧ Wr h h' a j.toNatClampNeg (.int (nar .byte x)) ∧ Ld p e below T (mkF m pc L (.int x :: .int j :: .ref a :: S)) T' (mkF m (pc + 1) L S) := by
  obtain ⟨Lc, X, eT, r, q, hZ⟩ := N
  obtain ⟨T', h', X', e', W, st⟩ := stB X K.1 hZ eT A hj (g := mkF m pc L (.int x :: .int j :: .ref a :: S)) rfl rfl (hb K.2.2.1 hd)
  exact ⟨T', h', ⟨_, X', e', Fr.snoc X' r ha, by rw [W.size]; exact q, hZ⟩, W, st⟩
/-- what a body does: it returns v, leaves the heap h' with Q v h', writes new cells alone -/
def Con (l : Launch) (Z : State) (n0 : Nat) (y : MethodName) (bytes : ByteArray) (maxL : Nat) (ret : Option FieldType) (ws : List Jvm.Cond) (rm : Room) (as' : Array Value) (h : Heap) (Q : Option Value → Heap → Prop) : Prop :=
  n0 ≤ h.size → MetFree l y (head1 (Jvm.Cond.code y bytes maxL ret :: ws) rm) (fun a U => a = as' ∧ Z.Warmed39 U.vm ∧ U.heap = h) (fun _ _ _ _ _ => True) (fun _ U o U' => ∃ v L, o = .returned v ∧ (n0 ≤ U'.heap.size ∧ Fr n0 L ∧ Q v U'.heap) ∧ FrameEnd U o U' L rm.cells rm.slots)
theorem Con.of {y : MethodName} {bytes : ByteArray} {maxL : Nat} {ret : Option FieldType} {ws : List Jvm.Cond} {rm : Room} {as' : Array Value} {Q : Option Value → Heap → Prop} (pn : plainName y.cls = true) {L0 : Array Slot} (ef : ∀ m, entryFrame m as' maxL = mkF m 0 L0 [])
    (body : ∀ {p : Program} {e : Env} {s : State} {m : MethodId} {below : List Frame} {meth : Method} {c : Code} {T : State}, Cx Z y.cls bytes maxL p m c → meth.sig.returnType = ret → meth.name = y.name → Nw Z n0 h p l e rm s m as' below meth c T 0 0 →
      ∃ (v : Option Value) (T' : State) (g' : JFrame) (h' : Heap) (k n : Nat), Nw Z n0 h' p l e rm s m as' below meth c T' k n ∧ k ≤ rm.cells ∧ n ≤ rm.slots ∧ (ret = none → v = none) ∧ Q v h' ∧ Ld p e below T (mkF m 0 L0 []) T' g' ∧ Fn p e below m T' g' v) : Con l Z n0 y bytes maxL ret ws rm as' h Q := fun hn => by
  refine MetFree.of_bodySF (plainFor_of_name pn) hisR ?_
  intro p e s m args below meth c s₁ Bd hml0 hP hK
  obtain ⟨rfl, hZ, hh⟩ := hP
  have hown : s.vm.findClass y.cls = some m.cls := findClass_of_methodNamed Bd.named
  have X0 := Stand.of_body Bd
  have e0 : s₁.heap = h := by rw [← hh, Bd.state]; rfl
  obtain ⟨v, T', g', h', k, n, ⟨Lc, X, eT, F, q, -⟩, q1, q2, q3, hQ, hL, hF⟩ := body (T := s₁) ⟨Bd.exec, by rw [← hZ.alike.findClass]; exact hown, Bd.bytes, hml0⟩ Bd.returns (name_of_methodNamed Bd.named Bd.method).1 ⟨[], X0, e0, Fr.nil n0, hn, hZ⟩
  subst eT
  obtain ⟨fs, hr, hrun, hended, hW, hsame⟩ := X.leave (v := v) (fun q => q3 (by rw [← Bd.returns]; exact q))
  refine ⟨_, _, castTop (ef m) (hL _ (hF fs hr)), hrun, hended, v, _, rfl, ⟨q, F, hQ⟩, ⟨_, rfl⟩, hW, hsame.mono q1 q2⟩
theorem Con.ofH {y : MethodName} {bytes : ByteArray} {maxL : Nat} {ret : Option FieldType} {ws : List Jvm.Cond} {rm : Room} {as' : Array Value} {Q : Option Value → Heap → Prop} (pn : plainFor y = true) {L0 : Array Slot} (ef : ∀ m, entryFrame m as' maxL = mkF m 0 L0 [])
    (body : ∀ {p : Program} {e : Env} {s : State} {m : MethodId} {below : List Frame} {meth : Method} {c : Code} {T : State}, Cx Z y.cls bytes maxL p m c → meth.sig.returnType = ret → meth.name = y.name → Nw Z n0 h p l e rm s m as' below meth c T 0 0 → s.heap = h →
      ∃ (v : Option Value) (T' : State) (g' : JFrame) (h' : Heap) (k n : Nat), Nw Z n0 h' p l e rm s m as' below meth c T' k n ∧ k ≤ rm.cells ∧ n ≤ rm.slots ∧ (ret = none → v = none) ∧ Q v h' ∧ Ld p e below T (mkF m 0 L0 []) T' g' ∧ Fn p e below m T' g' v) : Con l Z n0 y bytes maxL ret ws rm as' h Q := fun hn => by
  refine MetFree.of_bodySF pn hisR ?_
  intro p e s m args below meth c s₁ Bd hml0 hP hK
  obtain ⟨rfl, hZ, hh⟩ := hP
  have hown : s.vm.findClass y.cls = some m.cls := findClass_of_methodNamed Bd.named
  have X0 := Stand.of_body Bd
  have e0 : s₁.heap = h := by rw [← hh, Bd.state]; rfl
  obtain ⟨v, T', g', h', k, n, ⟨Lc, X, eT, F, q, -⟩, q1, q2, q3, hQ, hL, hF⟩ := body (T := s₁) ⟨Bd.exec, by rw [← hZ.alike.findClass]; exact hown, Bd.bytes, hml0⟩ Bd.returns (name_of_methodNamed Bd.named Bd.method).1 ⟨[], X0, e0, Fr.nil n0, hn, hZ⟩ hh
  subst eT
  obtain ⟨fs, hr, hrun, hended, hW, hsame⟩ := X.leave (v := v) (fun q => q3 (by rw [← Bd.returns]; exact q))
  refine ⟨_, _, castTop (ef m) (hL _ (hF fs hr)), hrun, hended, v, _, rfl, ⟨q, F, hQ⟩, ⟨_, rfl⟩, hW, hsame.mono q1 q2⟩
theorem finI {L : Array Slot} {S : List Value} {z : Int32} {pc : Nat} (K : Cx Z own b ml p m c) (N : Nw Z n0 h p l e R s m args below meth c T cells slots) (hret : meth.sig.returnType = some .int) (hd : decode b pc = .ok (.ireturn, 1)) : Fn p e below m T (mkF m pc L (.int z :: S)) (some (.int z)) := fun fs hl => by
  obtain ⟨_, X, -⟩ := N
  exact retOut X K.1 (t := .int) (i := .ireturn) hret rfl (Or.inl ⟨rfl, Or.inl rfl, z, rfl⟩) (hb K.2.2.1 hd) hl
theorem finN {L : Array Slot} {S : List Value} {z : Int32} {t : FieldType} {pc : Nat} (K : Cx Z own b ml p m c) (N : Nw Z n0 h p l e R s m args below meth c T cells slots) (hret : meth.sig.returnType = some t) (ht : t = .boolean ∨ t = .byte ∨ t = .char ∨ t = .short) (hd : decode b pc = .ok (.ireturn, 1)) : Fn p e below m T (mkF m pc L (.int z :: S)) (some (.int (nar t z))) := fun fs hl => by
  obtain ⟨_, X, -⟩ := N
  exact retN X K.1 (t := t) hret ht (hb K.2.2.1 hd) hl
theorem finJ {L : Array Slot} {S : List Value} {z : Int64} {pc : Nat} (K : Cx Z own b ml p m c) (N : Nw Z n0 h p l e R s m args below meth c T cells slots) (hret : meth.sig.returnType = some .long) (hd : decode b pc = .ok (.lreturn, 1)) : Fn p e below m T (mkF m pc L (.long z :: S)) (some (.long z)) := fun fs hl => by
  obtain ⟨_, X, -⟩ := N
  exact retOut X K.1 (t := .long) (i := .lreturn) hret rfl (Or.inr (Or.inl ⟨rfl, rfl, z, rfl⟩)) (hb K.2.2.1 hd) hl
theorem finA {L : Array Slot} {S : List Value} {z : Value} {t : FieldType} {pc : Nat} (K : Cx Z own b ml p m c) (N : Nw Z n0 h p l e R s m args below meth c T cells slots) (hret : meth.sig.returnType = some t) (ht : t.isReference = true) (hn : narrow t z = z) (hz : z.isRef = true) (hd : decode b pc = .ok (.areturn, 1)) : Fn p e below m T (mkF m pc L (z :: S)) (some z) := fun fs hl => by
  obtain ⟨_, X, -⟩ := N
  exact retOut X K.1 (t := t) (i := .areturn) hret hn (Or.inr (Or.inr (Or.inr (Or.inr ⟨rfl, ht, hz⟩)))) (hb K.2.2.1 hd) hl
theorem finV {L : Array Slot} {pc : Nat} (K : Cx Z own b ml p m c) (N : Nw Z n0 h p l e R s m args below meth c T cells slots) (hret : meth.sig.returnType = none) (hd : decode b pc = .ok (.return_, 1)) : Fn p e below m T (mkF m pc L []) none := fun fs hl => by
  obtain ⟨_, X, -⟩ := N
  exact X.returnOut K.1 hret (hb K.2.2.1 hd) hl
section OwnCalls
variable {y : MethodName} {bytes : ByteArray} {maxL : Nat} {ret : Option FieldType} {rm : Room} {index : Nat} {argsL rest : List Value} {Q : Option Value → Heap → Prop} {pc : Nat} {L : Array Slot} {W : Nat} {ps : List FieldType} {rt : Option FieldType}
theorem goS (K : Cx Z own b ml p m c) (N : Nw Z n0 h p l e R s m args below meth c T cells slots)
    (w1 : (Jvm.Cond.methodLink own index y).before a0 Z = true) (w2 : (Jvm.Cond.static y).before a0 Z = true) (w3 : (Jvm.Cond.initialized y.cls).before a0 Z = true) (w4 : (Jvm.Cond.code y bytes maxL ret).before a0 Z = true)
    (hM : Con l Z n0 y bytes maxL ret [] rm argsL.toArray h Q) (hy : y.cls ≠ "java/lang/invoke/MethodHandle" ∧ y.cls ≠ "java/lang/invoke/VarHandle") (hf : rm.frames + 1 ≤ R.frames) (hl : W + (maxL + 11) + rm.locals ≤ R.locals) (hc : cells + rm.cells ≤ R.cells) (hs : slots + rm.slots ≤ R.slots)
    (hsz : L.size = ml) (hp : parseMethodDescriptor y.desc = some ⟨ps, rt⟩) (hlen : argsL.length = ps.length) (hW : (rest.map fun v => v.category).sum ≤ W) (hd : decode b pc = .ok (.invokestatic index, 3)) :
    ∃ v T' h', Nw Z n0 h' p l e R s m args below meth c T' (cells + rm.cells) (slots + rm.slots) ∧ Q v h' ∧ Ld p e below T (mkF m pc L (argsL.reverse ++ rest)) T' (mkF m (pc + 3) L (v.toList ++ rest)) := by
  obtain ⟨Lc, X, eT, r, q, hZ⟩ := N
  obtain ⟨v, _, ⟨T', L', k', n'⟩, -, X', ⟨Lc', hQ, l', y', z'⟩, st⟩ := Jvm.LawKit.callS X K.1 (y := y) (cx_own K hZ) (mvT hZ w1) (mvT hZ w2) (mvT hZ w3) (mvT hZ w4) hy (backOf (W := W) (Q := fun v h L => n0 ≤ h.size ∧ Fr n0 L ∧ Q v h) (hM q) hZ w4 w3 hf hl) (g := mkF m pc L (argsL.reverse ++ rest)) rfl (by rw [K.2.2.2]; exact hsz) (argsL := argsL) (rest := rest) (lenOf hp hlen) rfl (by show 2 * 0 + _ ≤ _; omega) (hb K.2.2.1 hd) (fun _ _ => ⟨rfl, eT, hc, hs⟩)
  dsimp only [Pt.U, Pt.locs, Pt.cells, Pt.slots] at X' l' y' z' st hQ
  subst l' y' z'
  exact ⟨v, T', T'.heap, ⟨_, X', rfl, Fr.app r hQ.2.1, hQ.1, hZ⟩, hQ.2.2, st⟩
theorem goSp (K : Cx Z own b ml p m c) (N : Nw Z n0 h p l e R s m args below meth c T cells slots) {a : Addr}
    (w1 : (Jvm.Cond.methodLink own index y).before a0 Z = true) (w2 : (Jvm.Cond.instanceMethod y).before a0 Z = true) (w3 : (Jvm.Cond.initialized y.cls).before a0 Z = true) (w4 : (Jvm.Cond.code y bytes maxL none).before a0 Z = true)
    (hM : Con l Z n0 y bytes maxL none [] rm (Value.ref a :: argsL).toArray h Q) (hi : y.name = "<init>") (hy : y.cls ≠ "java/lang/invoke/MethodHandle" ∧ y.cls ≠ "java/lang/invoke/VarHandle") (hf : rm.frames + 1 ≤ R.frames) (hl : W + (maxL + 11) + rm.locals ≤ R.locals) (hc : cells + rm.cells ≤ R.cells) (hs : slots + rm.slots ≤ R.slots)
    (hsz : L.size = ml) (hp : parseMethodDescriptor y.desc = some ⟨ps, rt⟩) (hlen : argsL.length = ps.length) (hW : (rest.map fun v => v.category).sum ≤ W) (hd : decode b pc = .ok (.invokespecial index, 3)) :
    ∃ v T' h', Nw Z n0 h' p l e R s m args below meth c T' (cells + rm.cells) (slots + rm.slots) ∧ Q v h' ∧ Ld p e below T (mkF m pc L (argsL.reverse ++ .ref a :: rest)) T' (mkF m (pc + 3) L (v.toList ++ rest)) := by
  obtain ⟨Lc, X, eT, r, q, hZ⟩ := N
  obtain ⟨v, _, ⟨T', L', k', n'⟩, -, X', ⟨Lc', hQ, l', y', z'⟩, st⟩ := X.specialBack K.1 (y := y) hi (cx_own K hZ) (mvT hZ w1) (mvT hZ w2) (mvT hZ w4) hy (backOf (W := W) (Q := fun v h L => n0 ≤ h.size ∧ Fr n0 L ∧ Q v h) (hM q) hZ w4 w3 hf hl) (g := mkF m pc L (argsL.reverse ++ .ref a :: rest)) rfl (by rw [K.2.2.2]; exact hsz) (Steps.refl _) (a := a) (argsL := argsL) (rest := rest) (lenOf hp hlen) rfl (by show 2 * 0 + _ ≤ _; omega) (hb K.2.2.1 hd) (fun _ _ => ⟨rfl, eT, hc, hs⟩)
  dsimp only [Pt.U, Pt.locs, Pt.cells, Pt.slots] at X' l' y' z' st hQ
  subst l' y' z'
  exact ⟨v, T', T'.heap, ⟨_, X', rfl, Fr.app r hQ.2.1, hQ.1, hZ⟩, hQ.2.2, fun t k => st.trans k⟩
theorem goVi (K : Cx Z own b ml p m c) (N : Nw Z n0 h p l e R s m args below meth c T cells slots) {a : Addr} {C : String} (E : Exa Z h a C)
    (w1 : (Jvm.Cond.methodLink own index y).before a0 Z = true) (w2 : (Jvm.Cond.declares y).before a0 Z = true) (w5 : (Jvm.Cond.selects C y y).before a0 Z = true) (w6 : (Jvm.Cond.instanceMethod y).before a0 Z = true) (w3 : (Jvm.Cond.initialized y.cls).before a0 Z = true) (w4 : (Jvm.Cond.code y bytes maxL ret).before a0 Z = true)
    (hM : Con l Z n0 y bytes maxL ret [] rm (Value.ref a :: argsL).toArray h Q) (hy : y.cls ≠ "java/lang/invoke/MethodHandle" ∧ y.cls ≠ "java/lang/invoke/VarHandle") (hf : rm.frames + 1 ≤ R.frames) (hl : W + (maxL + 11) + rm.locals ≤ R.locals) (hc : cells + rm.cells ≤ R.cells) (hs : slots + rm.slots ≤ R.slots)
    (hsz : L.size = ml) (hp : parseMethodDescriptor y.desc = some ⟨ps, rt⟩) (hlen : argsL.length = ps.length) (hW : (rest.map fun v => v.category).sum ≤ W) (hd : decode b pc = .ok (.invokevirtual index, 3)) :
    ∃ v T' h', Nw Z n0 h' p l e R s m args below meth c T' (cells + rm.cells) (slots + rm.slots) ∧ Q v h' ∧ Ld p e below T (mkF m pc L (argsL.reverse ++ .ref a :: rest)) T' (mkF m (pc + 3) L (v.toList ++ rest)) := by
  obtain ⟨Lc, X, eT, r, q, hZ⟩ := N
  obtain ⟨cB, kB, q1, q2, q3⟩ := isOf hZ eT E
  obtain ⟨v, _, ⟨T', L', k', n'⟩, -, X', ⟨Lc', hQ, l', y', z'⟩, st⟩ := X.virtualBack K.1 (y := y) (z := y) (cx_own K hZ) (mvT hZ w1) (mvT hZ w2) (notFace_of_selects (args := #[]) (mvT hZ w5)) (mvT hZ w5) (mvT hZ w6) hy (backOf (W := W) (Q := fun v h L => n0 ≤ h.size ∧ Fr n0 L ∧ Q v h) (hM q) hZ w4 w3 hf hl) q1 q3 (g := mkF m pc L (argsL.reverse ++ .ref a :: rest)) rfl (by rw [K.2.2.2]; exact hsz) (Steps.refl _) (argsL := argsL) (rest := rest) (lenOf hp hlen) rfl (by show 2 * 0 + _ ≤ _; omega) (hb K.2.2.1 hd) (fun _ _ => ⟨rfl, eT, hc, hs⟩)
  dsimp only [Pt.U, Pt.locs, Pt.cells, Pt.slots] at X' l' y' z' st hQ
  subst l' y' z'
  exact ⟨v, T', T'.heap, ⟨_, X', rfl, Fr.app r hQ.2.1, hQ.1, hZ⟩, hQ.2.2, fun t k => st.trans k⟩
end OwnCalls
end OwnGo
section OwnArr
variable {Z : State} {h h' : Heap} {a b : Addr} {ty : FieldType} {vs : List Value} {v : Value} {sl : Nat} {ws : List Addr}
/-- the array at a holds just vs -/
def Av (Z : State) (h : Heap) (a : Addr) (ty : FieldType) (vs : List Value) : Prop := ∃ c : Cell, Arr Z h a c ty ∧ c.slots.toList = vs ∧ vs.length < 2 ^ 31
theorem Av.lt (F : Av Z h a ty vs) : a < h.size := by obtain ⟨_, A, -⟩ := F; exact A.lt
theorem Av.ext (F : Av Z h a ty vs) (E : Ext h h') : Av Z h' a ty vs := by obtain ⟨c, A, r⟩ := F; exact ⟨c, A.ext E, r⟩
theorem Av.keep (F : Av Z h a ty vs) (K : Keep h h' ws) (q : a ∉ ws) : Av Z h' a ty vs := by obtain ⟨c, A, r⟩ := F; exact ⟨c, ⟨K.2.1 a c A.1 q, A.2⟩, r⟩
theorem Av.other (F : Av Z h a ty vs) (W : Wr h h' b sl v) (q : a ≠ b) : Av Z h' a ty vs := by obtain ⟨c, A, r⟩ := F; exact ⟨c, A.other W q, r⟩
theorem keep_ext (E : Ext h h') : Keep h h' ws := (Keep.refl h ws).ext E
theorem Av.new {k : ClassId} {z : Int32} {n : Nat} (A : Arr Z h a (newA k ty z) ty) (q : ¬ z < 0) (hn : z.toInt = n) : Av Z h a ty (List.replicate n (defaultValue ty)) := by
  have e : z.toNatClampNeg = n := by simp [Int32.toNatClampNeg, hn]
  refine ⟨_, A, by simp [newA, e], ?_⟩
  have := Int32.toInt_lt z
  simp only [List.length_replicate]; omega
theorem clamp_of {j : Int32} {i : Nat} (hj : j.toInt = i) : j.toNatClampNeg = i := by simp [Int32.toNatClampNeg, hj]
theorem not_neg_of {j : Int32} {i : Nat} (hj : j.toInt = i) : ¬ j < 0 := by rw [Int32.lt_iff_toInt_lt, hj]; show ¬ (i : Int) < 0; omega
theorem Av.inb {c : Cell} (e : c.slots.toList = vs) {j : Int32} {i : Nat} (hj : j.toInt = i) (hi : i < vs.length) : ¬ (j < 0 ∨ c.slots.size ≤ j.toNatClampNeg) := by
  rintro (q | q)
  · exact not_neg_of hj q
  · rw [clamp_of hj] at q; rw [← e, Array.length_toList] at hi; omega
theorem Av.rd (F : Av Z h a ty vs) {j : Int32} {i : Nat} (hj : j.toInt = i) (hv : vs[i]? = some v) : Rd Z h a ty j v := by
  obtain ⟨c, A, e, -⟩ := F
  refine ⟨c, A, Av.inb e hj (List.getElem?_eq_some_iff.mp hv).1, ?_⟩
  rw [clamp_of hj, ← hv, ← e, Array.getElem?_toList]
theorem Av.ln (F : Av Z h a ty vs) {n : Int32} (hn : n.toInt = vs.length) : Ln Z h a n := by
  obtain ⟨c, A, e, q⟩ := F
  refine ⟨c, ty, A, ?_⟩
  rw [← Array.length_toList, e]
  apply Int32.toInt_inj.mp
  rw [hn]; exact Int32.toInt_ofNat_of_lt q
theorem Av.set {c : Cell} (A : Arr Z h a c ty) (e : c.slots.toList = vs) (q : vs.length < 2 ^ 31) {j : Int32} {i : Nat} (hj : j.toInt = i) (W : Wr h h' a j.toNatClampNeg v) : Av Z h' a ty (vs.set i v) := by
  rw [clamp_of hj] at W
  refine ⟨_, A.same W, ?_, by simpa using q⟩
  simp [Cell.setSlot, e]
theorem Av.ne {a b : Addr} {ty' : FieldType} {us : List Value} (F : Av Z h a ty vs) (G : Av Z h b ty' us) (q : ty ≠ ty') : a ≠ b := fun e => by
  subst e
  obtain ⟨c, A, -⟩ := F
  obtain ⟨c', B, -⟩ := G
  cases A.1.symm.trans B.1
  obtain ⟨-, k, hk, comp, h1⟩ := A.2.1
  obtain ⟨-, k', hk', comp', h2⟩ := B.2.1
  cases hk.symm.trans hk'
  rw [h1] at h2; cases h2; exact q rfl
theorem Av.ne_exa {a0 : Array Value} {C : String} {k : Nat} (F : Av Z h a ty vs) (G : Exa Z h b C) (wi : (Jvm.Cond.instantiable C k).before a0 Z = true) : b ≠ a := by
  obtain ⟨c, A, -⟩ := F
  exact ne_arr G wi A
theorem n_ti {i : Nat} (q : i < 2147483648) : (Int32.ofNat i).toInt = i := Int32.toInt_ofNat_of_lt q
theorem n_one (i : Nat) : Int32.ofNat i + (1 : Int32) = Int32.ofNat (i + 1) := (Int32.ofNat_add i 1).symm
theorem n_lt {i j : Nat} (hi : i < 2147483648) (hj : j < 2147483648) : Int32.ofNat i < Int32.ofNat j ↔ i < j := by rw [Int32.lt_iff_toInt_lt, n_ti hi, n_ti hj]; omega
theorem n_eq {i j : Nat} (hi : i < 2147483648) (hj : j < 2147483648) : Int32.ofNat i = Int32.ofNat j ↔ i = j := by rw [← Int32.toInt_inj, n_ti hi, n_ti hj]; omega
end OwnArr
section OwnSto
variable {p : Program} {l : Launch} {e : Env} {R : Room} {s : State} {m : MethodId} {args : Array Value} {below : List Frame} {meth : Method} {c : Code} {T : State} {cells slots : Nat} {Z : State} {a0 : Array Value} {h : Heap} {own : String} {n0 : Nat} {b : ByteArray} {ml : Nat} {a : Addr} {vs : List Value} {j : Int32} {i : Nat} {pc : Nat} {L : Array Slot} {S : List Value}
theorem avStI (K : Cx Z own b ml p m c) (N : Nw Z n0 h p l e R s m args below meth c T cells slots) (F : Av Z h a .int vs) {x : Int32} (hj : j.toInt = i) (hi : i < vs.length) (ha : n0 ≤ a) (hd : decode b pc = .ok (.iastore, 1)) :
    ∃ T' h', Nw Z n0 h' p l e R s m args below meth c T' cells slots ∧ Keep h h' [a] ∧ Av Z h' a .int (vs.set i (.int x)) ∧ Ld p e below T (mkF m pc L (.int x :: .int j :: .ref a :: S)) T' (mkF m (pc + 1) L S) := by
  obtain ⟨cl, A, q1, q2⟩ := F
  obtain ⟨T', h', N', W, st⟩ := goStI K N A (Av.inb q1 hj hi) ha hd
  exact ⟨T', h', N', Keep.of_wr W, Av.set A q1 q2 hj W, st⟩
theorem avStJ (K : Cx Z own b ml p m c) (N : Nw Z n0 h p l e R s m args below meth c T cells slots) (F : Av Z h a .long vs) {x : Int64} (hj : j.toInt = i) (hi : i < vs.length) (ha : n0 ≤ a) (hd : decode b pc = .ok (.lastore, 1)) :
    ∃ T' h', Nw Z n0 h' p l e R s m args below meth c T' cells slots ∧ Keep h h' [a] ∧ Av Z h' a .long (vs.set i (.long x)) ∧ Ld p e below T (mkF m pc L (.long x :: .int j :: .ref a :: S)) T' (mkF m (pc + 1) L S) := by
  obtain ⟨cl, A, q1, q2⟩ := F
  obtain ⟨T', h', N', W, st⟩ := goStJ K N A (Av.inb q1 hj hi) ha hd
  exact ⟨T', h', N', Keep.of_wr W, Av.set A q1 q2 hj W, st⟩
theorem avStC (K : Cx Z own b ml p m c) (N : Nw Z n0 h p l e R s m args below meth c T cells slots) (F : Av Z h a .char vs) {x : Int32} (hj : j.toInt = i) (hi : i < vs.length) (ha : n0 ≤ a) (hd : decode b pc = .ok (.castore, 1)) :
    ∃ T' h', Nw Z n0 h' p l e R s m args below meth c T' cells slots ∧ Keep h h' [a] ∧ Av Z h' a .char (vs.set i (.int (nar .char x))) ∧ Ld p e below T (mkF m pc L (.int x :: .int j :: .ref a :: S)) T' (mkF m (pc + 1) L S) := by
  obtain ⟨cl, A, q1, q2⟩ := F
  obtain ⟨T', h', N', W, st⟩ := goStC K N A (Av.inb q1 hj hi) ha hd
  exact ⟨T', h', N', Keep.of_wr W, Av.set A q1 q2 hj W, st⟩
theorem avStB (K : Cx Z own b ml p m c) (N : Nw Z n0 h p l e R s m args below meth c T cells slots) (F : Av Z h a .byte vs) {x : Int32} (hj : j.toInt = i) (hi : i < vs.length) (ha : n0 ≤ a) (hd : decode b pc = .ok (.bastore, 1)) :
    ∃ T' h', Nw Z n0 h' p l e R s m args below meth c T' cells slots ∧ Keep h h' [a] ∧ Av Z h' a .byte (vs.set i (.int (nar .byte x))) ∧ Ld p e below T (mkF m pc L (.int x :: .int j :: .ref a :: S)) T' (mkF m (pc + 1) L S) := by
  obtain ⟨cl, A, q1, q2⟩ := F
  obtain ⟨T', h', N', W, st⟩ := goStB K N A (Av.inb q1 hj hi) ha hd
  exact ⟨T', h', N', Keep.of_wr W, Av.set A q1 q2 hj W, st⟩
end OwnSto
section OwnRef
variable {p : Program} {l : Launch} {e : Env} {R : Room} {s : State} {m : MethodId} {args : Array Value} {below : List Frame} {meth : Method} {c : Code} {T : State} {cells slots : Nat} {Z : State} {a0 : Array Value} {h h' : Heap} {own : String} {n0 : Nat} {b : ByteArray} {ml : Nat} {a : Addr} {vs : List Value} {j : Int32} {i : Nat} {pc : Nat} {L : Array Slot} {S : List Value} {C : String} {ws : List Addr}
/-- the array at a takes objects of C -/
def Ovc (Z : State) (h : Heap) (a : Addr) (C : String) : Prop := ∃ cell : Cell, h[a]? = some cell ∧ Ovr Z cell.cls C
theorem Ovc.keep (F : Ovc Z h a C) (K : Keep h h' ws) : Ovc Z h' a C := by
  obtain ⟨cell, h1, h2⟩ := F
  obtain ⟨c', q, r1, -⟩ := K.2.2 a cell h1
  exact ⟨c', q, r1 ▸ h2⟩
theorem goNewR (K : Cx Z own b ml p m c) (N : Nw Z n0 h p l e R s m args below meth c T cells slots) {index : Nat} (w1 : (Jvm.Cond.classLink own index C).before a0 Z = true) (w2 : (Jvm.Cond.arrayOver (.object C)).before a0 Z = true) {n : Int32} {k : Nat} (hn : n.toInt = k) {cap : Nat} (hcap : k ≤ cap) (hbg : cap * 8 ≤ 536870912) (hc : cells + 1 ≤ R.cells) (hl : slots + cap ≤ R.slots)
    (hd : decode b pc = .ok (.anewarray index, 3)) :
    ∃ T' h' a, a = h.size ∧ Nw Z n0 h' p l e R s m args below meth c T' (cells + 1) (slots + cap) ∧ Ext h h' ∧ Av Z h' a (.object C) (List.replicate k .null) ∧ Ovc Z h' a C ∧ Ld p e below T (mkF m pc L (.int n :: S)) T' (mkF m (pc + 3) L (.ref a :: S)) := by
  obtain ⟨Lc, X, eT, r, q, hZ⟩ := N
  obtain ⟨T', h', cA, X', e', E, A, O, st⟩ := newR X K.1 hZ (cx_own K hZ) w1 w2 eT (g := mkF m pc L (.int n :: S)) rfl (hb K.2.2.1 hd) rfl (not_neg_of hn) (cap := cap) (by rw [clamp_of hn]; exact hcap) hbg hc hl
  exact ⟨T', h', _, rfl, ⟨Lc, X', e', r, Nat.le_trans q E.1, hZ⟩, E, Av.new A (not_neg_of hn) hn, ⟨_, A.1, O⟩, st⟩
theorem avStR (K : Cx Z own b ml p m c) (N : Nw Z n0 h p l e R s m args below meth c T cells slots) (F : Av Z h a (.object C) vs) (O : Ovc Z h a C) {v : Value} (hv : v = .null ∨ ∃ y, v = .ref y ∧ Exa Z h y C) (hj : j.toInt = i) (hi : i < vs.length) (ha : n0 ≤ a) (hd : decode b pc = .ok (.aastore, 1)) :
    ∃ T' h', Nw Z n0 h' p l e R s m args below meth c T' cells slots ∧ Keep h h' [a] ∧ Av Z h' a (.object C) (vs.set i v) ∧ Ld p e below T (mkF m pc L (v :: .int j :: .ref a :: S)) T' (mkF m (pc + 1) L S) := by
  obtain ⟨cl, A, q1, q2⟩ := F
  obtain ⟨cell, o1, o2⟩ := O
  cases o1.symm.trans A.1
  have sto : Sto Z h a v := by
    rcases hv with rfl | ⟨y, rfl, X⟩
    · exact Or.inl rfl
    · exact Sto.of A o2 (Ins.self X)
  obtain ⟨Lc, X, eT, r, q, hZ⟩ := N
  obtain ⟨T', h', X', e', W, st⟩ := stR X K.1 hZ eT A (Av.inb q1 hj hi) rfl sto (g := mkF m pc L (v :: .int j :: .ref a :: S)) rfl rfl (hb K.2.2.1 hd)
  exact ⟨T', h', ⟨_, X', e', Fr.snoc X' r ha, by rw [W.size]; exact q, hZ⟩, Keep.of_wr W, Av.set A q1 q2 hj W, st⟩
end OwnRef
section OwnWide
/-- where the run stands (the wide frame: constants may have come into the intern table): EL: the constants whose text is followed -/
def NwW (Z : State) (EL : List (String × Nat)) (n0 : Nat) (h : Heap) (p : Program) (l : Launch) (e : Env) (R : Room) (s : State) (m : MethodId) (args : Array Value) (below : List Frame) (meth : Method) (c : Code) (T : State) (cells slots : Nat) : Prop :=
  ∃ locs k0, Stand p l e R (s.setVm T.vm) m args below meth c T locs cells slots ∧ T.heap = h ∧ Fr n0 locs ∧ n0 ≤ h.size ∧ Z.Warmed39 T.vm ∧ s.Since T.vm k0 ∧ k0 ≤ h.size ∧ CHv Z EL T.vm h
variable {p : Program} {l : Launch} {e : Env} {R : Room} {s : State} {m : MethodId} {args : Array Value} {below : List Frame} {meth : Method} {c : Code} {T T1 T2 : State} {cells slots cells' slots' : Nat} {Z : State} {a0 : Array Value} {h h1 h2 : Heap} {own : String} {n0 : Nat} {b : ByteArray} {ml : Nat} {g g1 g2 : JFrame} {EL : List (String × Nat)}
theorem NwW.nar (N : NwW Z EL n0 h p l e R s m args below meth c T cells slots) : Nw Z n0 h p l e R (s.setVm T.vm) m args below meth c T cells slots := by
  obtain ⟨L, k, X, e1, e2, e3, e4, -⟩ := N; exact ⟨L, X, e1, e2, e3, e4⟩
theorem NwW.ch (N : NwW Z EL n0 h p l e R s m args below meth c T cells slots) : CHv Z EL T.vm h := by
  obtain ⟨L, k, X, e1, e2, e3, e4, -, -, q⟩ := N; exact q
theorem NwW.size (N : NwW Z EL n0 h p l e R s m args below meth c T cells slots) : n0 ≤ h.size := N.nar.size
theorem NwW.al (N : NwW Z EL n0 h p l e R s m args below meth c T cells slots) : Z.vm.Alike T.vm := by
  obtain ⟨L, k, X, e1, e2, e3, e4, -⟩ := N; exact e4.alike
theorem NwW.mono (N : NwW Z EL n0 h p l e R s m args below meth c T cells slots) (q1 : cells ≤ cells') (q2 : slots ≤ slots') : NwW Z EL n0 h p l e R s m args below meth c T cells' slots' := by
  obtain ⟨L, k, X, r⟩ := N; exact ⟨L, k, X.mono q1 q2, r⟩
/-- a narrow law's step, said of the wide stand -/
theorem NwW.back (N : NwW Z EL n0 h p l e R s m args below meth c T cells slots) (w : EW Z a0 EL) (N' : Nw Z n0 h1 p l e R (s.setVm T.vm) m args below meth c T1 cells' slots') (H : CHr Z EL T.vm h T.vm h1) :
    NwW Z EL n0 h1 p l e R s m args below meth c T1 cells' slots' ∧ CHr Z EL T.vm h T1.vm h1 := by
  obtain ⟨L, k, X, e1, e2, e3, e4, hS, hk, hC⟩ := N
  obtain ⟨L', X', e1', e2', e3', -⟩ := N'
  have A := CHv.at X' e4 w H.1
  refine ⟨⟨L', k, X'.retabled X'.warmed.wide, e1', e2', e3', wtrans (s := s.setVm T.vm) e4 X'.warmed, ?_, Nat.le_trans hk H.2.1, A.1⟩, H.trans A⟩
  exact hS.trans (X'.warmed.since k) (Nat.le_refl _)
/-- .. of a step that makes a cell: the new ones are safe -/
theorem NwW.backE (N : NwW Z EL n0 h p l e R s m args below meth c T cells slots) (w : EW Z a0 EL) (N' : Nw Z n0 h1 p l e R (s.setVm T.vm) m args below meth c T1 cells' slots') (E : Ext h h1) :
    (NwW Z EL n0 h1 p l e R s m args below meth c T1 cells' slots' ∧ CHr Z EL T.vm h T1.vm h1) ∧ ∀ x, h.size ≤ x → Safe Z EL T1.vm h1 x := by
  refine ⟨N.back w N' (CHr.ext E N.ch), fun x hx B => ?_⟩
  have hC := N.ch
  obtain ⟨L, k, X, e1, e2, e3, e4, hS, hk, -⟩ := N
  obtain ⟨L', X', e1', e2', e3', -⟩ := N'
  have A := CHv.at X' e4 w (hC.ext E)
  rcases A.2.2 x B with q | q
  · have q2 := (hC.step fun _ _ _ z => E.2 _ _ z).2 x q
    obtain ⟨cell, z⟩ := q2.there
    have := (Array.getElem?_eq_some_iff.mp z).1; omega
  · obtain ⟨cell, z⟩ := B.there
    have := (Array.getElem?_eq_some_iff.mp z).1; omega
/-- ldc of a constant of EL -/
theorem goLdc (K : Cx Z own b ml p m c) (w : EW Z a0 EL) (N : NwW Z EL n0 h p l e R s m args below meth c T cells slots) {text : String} {index : Nat} (w1 : (Jvm.Cond.stringLink own index text).before a0 Z = true) (wS : ∀ a ∈ Bundle.stringAtoms, a.before a0 Z = true) (hm : (own, index) ∈ EL)
    {vs : List Value} (ht : (∀ c ∈ text.toList, c.toNat < 256) ∧ text.toList.map (fun c => Value.int (Jvm.Lit.byteI c.toNat.toUInt16)) = vs) {z : Int32} (hz : ¬ z < 0) (hl : z.toNatClampNeg = vs.length)
    {pc : Nat} {L : Array Slot} {S : List Value} (hd : decode b pc = .ok (.ldc index, 2)) {n : Nat} (hn : 4 * text.toList.length ≤ n) (hbig : n ≤ 536870912) (hc : cells + 2 ≤ R.cells) (hl' : slots + (n + 4) ≤ R.slots) :
    ∃ a T' h' bb k, NwW Z EL n0 h' p l e R s m args below meth c T' (cells + 2) (slots + (n + 4)) ∧ CHr Z EL T.vm h T'.vm h' ∧ Ext h h' ∧ Exa Z h' a "java/lang/String" ∧ Fld Z h' a "java/lang/String" "coder" "B" (.int 0) ∧ Fld Z h' a "java/lang/String" "value" "[B" (.ref bb) ∧ Arv Z h' bb k .byte z vs (.int 0) ∧ (∀ x, Safe Z EL T'.vm h' x → x ≠ a ∧ x ≠ bb) ∧ Ld p e below T (mkF m pc L S) T' (mkF m (pc + 2) L (.ref a :: S)) := by
  obtain ⟨Lc, k, X, e1, e2, e3, e4, hS, hk, hC⟩ := N
  obtain ⟨a, T', h', k1, bb, kb, X', e1', E, hS', hk', hW, hf, q1, q2, q3, q4, q5, q6, q7, q8, q9, st⟩ := ldcCH X K.1 e4 (by rw [e4.alike.findClass]; exact K.2.1) w1 wS e1 hS hk w hm hC ht hz hl (g := mkF m pc L S) rfl (hb K.2.2.1 hd) hn hbig hc hl'
  exact ⟨a, T', h', bb, kb, ⟨Lc, k1, X', e1', e2, Nat.le_trans e3 E.1, hW, hS', hk', q7.1⟩, q7, E, q1, q2, q3, q4, q9, st⟩
/-- what a body does, in the wide frame; sf: new Strings and byte[]s that it may write -/
def ConW (l : Launch) (Z : State) (EL : List (String × Nat)) (n0 : Nat) (y : MethodName) (bytes : ByteArray) (maxL : Nat) (ret : Option FieldType) (ws : List Jvm.Cond) (rm : Room) (as' : Array Value) (h : Heap) (sf : List Addr) (Q : Option Value → Heap → Prop) : Prop :=
  n0 ≤ h.size → MetFree l y (head1 (Jvm.Cond.code y bytes maxL ret :: ws) rm) (fun a U => a = as' ∧ Z.Warmed39 U.vm ∧ U.heap = h ∧ CHv Z EL U.vm h ∧ ∀ x ∈ sf, x < h.size ∧ Safe Z EL U.vm h x) (fun _ _ _ _ _ => True)
    (fun _ U o U' => ∃ v L, o = .returned v ∧ (n0 ≤ U'.heap.size ∧ Fr n0 L ∧ Q v U'.heap) ∧ CHr Z EL U.vm U.heap U'.vm U'.heap ∧ ReturnedEndW U o U' L rm.cells rm.slots)
theorem ConW.of {y : MethodName} {bytes : ByteArray} {maxL : Nat} {ret : Option FieldType} {ws : List Jvm.Cond} {rm : Room} {as' : Array Value} {sf : List Addr} {Q : Option Value → Heap → Prop} (pn : plainName y.cls = true) {L0 : Array Slot} (ef : ∀ m, entryFrame m as' maxL = mkF m 0 L0 [])
    (body : ∀ {p : Program} {e : Env} {s : State} {m : MethodId} {below : List Frame} {meth : Method} {c : Code} {T : State}, Cx Z y.cls bytes maxL p m c → meth.sig.returnType = ret → meth.name = y.name → NwW Z EL n0 h p l e rm s m as' below meth c T 0 0 → (∀ x ∈ sf, x < h.size ∧ Safe Z EL T.vm h x) → s.heap = h →
      ∃ (v : Option Value) (T' : State) (g' : JFrame) (h' : Heap) (k n : Nat), NwW Z EL n0 h' p l e rm s m as' below meth c T' k n ∧ k ≤ rm.cells ∧ n ≤ rm.slots ∧ (ret = none → v = none) ∧ Q v h' ∧ CHr Z EL T.vm h T'.vm h' ∧ Ld p e below T (mkF m 0 L0 []) T' g' ∧ Fn p e below m T' g' v) : ConW l Z EL n0 y bytes maxL ret ws rm as' h sf Q := fun hn => by
  refine MetFree.of_bodySF (plainFor_of_name pn) hisR ?_
  intro p e s m args below meth c s₁ Bd hml0 hP hK
  obtain ⟨rfl, hZ, hh, hC, hsf⟩ := hP
  have hown : s.vm.findClass y.cls = some m.cls := findClass_of_methodNamed Bd.named
  have X0 := Stand.of_body Bd
  have e0 : s₁.heap = h := by rw [← hh, Bd.state]; rfl
  have v0 : s₁.vm = s.vm := by rw [Bd.state]; rfl
  obtain ⟨v, T', g', h', k, n, ⟨Lc, k0, X, eT, F, q, hZ', hS, hk, hC'⟩, q1, q2, q3, hQ, hCr, hL, hF⟩ := body (T := s₁) ⟨Bd.exec, by rw [← hZ.alike.findClass]; exact hown, Bd.bytes, hml0⟩ Bd.returns (name_of_methodNamed Bd.named Bd.method).1 ⟨[], 0, X0.retabled X0.warmed.wide, e0, Fr.nil n0, hn, by rw [v0]; exact hZ, X0.warmed.since 0, Nat.zero_le _, by rw [v0]; exact hC⟩ (by rw [v0]; exact hsf) hh
  subst eT
  obtain ⟨fs, hr, hrun, hended, hW⟩ := X.leaveW hS hk (v := v) (fun q => q3 (by rw [← Bd.returns]; exact q)) Bd.notSynchronized
  refine ⟨_, _, castTop (ef m) (hL _ (hF fs hr)), hrun, hended, v, _, rfl, ⟨q, F, hQ⟩, ?_, hW.1, hW.2.1, hW.2.2.1, hW.2.2.2.mono q1 q2⟩
  rw [v0] at hCr; rw [hh]; exact hCr
section OwnCallsW
variable {y : MethodName} {bytes : ByteArray} {maxL : Nat} {ret : Option FieldType} {rm : Room} {index : Nat} {argsL rest : List Value} {Q : Option Value → Heap → Prop} {pc : Nat} {L : Array Slot} {W : Nat} {ps : List FieldType} {rt : Option FieldType} {sf : List Addr}
theorem backW {as' : Array Value} (hM : ConW l Z EL n0 y bytes maxL ret [] rm as' h sf Q) (q : n0 ≤ h.size) {len : Nat} (hZ : Z.Warmed39 T.vm) (w : EW Z a0 EL) (H : CHv Z EL T.vm h) (hsf : ∀ x ∈ sf, x < h.size ∧ Safe Z EL T.vm h x)
    (w4 : (Jvm.Cond.code y bytes maxL ret).before a0 Z = true) (w3 : (Jvm.Cond.initialized y.cls).before a0 Z = true) (hf : rm.frames + 1 ≤ R.frames) (hl : W + (maxL + 11) + rm.locals ≤ R.locals) :
    BackS l R p e below (s.setVm T.vm) args y len W (fun A a => a = as' ∧ A.U.heap = h ∧ A.cells + rm.cells ≤ R.cells ∧ A.slots + rm.slots ≤ R.slots)
      (fun A _ v B => ∃ L, (n0 ≤ B.U.heap.size ∧ Fr n0 L ∧ Q v B.U.heap) ∧ B.locs = A.locs ++ L ∧ B.cells = A.cells + rm.cells ∧ B.slots = A.slots + rm.slots ∧ CHr Z EL T.vm h B.U.vm B.U.heap) :=
  BackS.of_freeW (bytes := bytes) (maxL := maxL) (ret := ret) (E := fun _ first o t L k n => k = rm.cells ∧ n = rm.slots ∧ (∃ v, o = .returned v ∧ (n0 ≤ t.heap.size ∧ Fr n0 L ∧ Q v t.heap)) ∧ CHr Z EL first.vm first.heap t.vm t.heap) (hM q) hf hl
    (fun m meth c A a Y hp => have hU : Z.Warmed39 A.U.vm := wtrans (s := s.setVm T.vm) hZ Y.warmed
      ⟨by show (Jvm.Cond.and _ .tt).before a A.U = true; rw [Cond.before_and, mv hU w4]; rfl, mv hU w4, mv hU w3, hp.2.2.1, hp.2.2.2⟩)
    (fun m meth c A a g mk Y hp => ⟨hp.1, wtrans (s := s.setVm T.vm) hZ Y.warmed, hp.2.1, (CHv.at Y hZ w H).1, fun x hx => ⟨(hsf x hx).1, (CHv.at Y hZ w H).safe (hsf x hx).1 (hsf x hx).2⟩⟩) (fun _ _ _ _ _ _ _ _ _ => trivial)
    (fun _ _ _ _ ⟨v, L, h1, h2, h3, h4⟩ => ⟨L, _, _, h4, rfl, rfl, ⟨v, h1, h2⟩, h3⟩)
    (fun m meth c A a g mk v t L k n Y hp _ _ ⟨e1, e2, ⟨v', e3, e4⟩, e5⟩ => by
      cases e3; subst e1 e2
      refine ⟨L, e4, rfl, rfl, rfl, (CHv.at Y hZ w H).trans ?_⟩
      rw [← hp.2.1]; exact e5)
theorem goSW (K : Cx Z own b ml p m c) (w : EW Z a0 EL) (N : NwW Z EL n0 h p l e R s m args below meth c T cells slots)
    (w1 : (Jvm.Cond.methodLink own index y).before a0 Z = true) (w2 : (Jvm.Cond.static y).before a0 Z = true) (w3 : (Jvm.Cond.initialized y.cls).before a0 Z = true) (w4 : (Jvm.Cond.code y bytes maxL ret).before a0 Z = true)
    (hM : ConW l Z EL n0 y bytes maxL ret [] rm argsL.toArray h sf Q) (hsf : ∀ x ∈ sf, x < h.size ∧ Safe Z EL T.vm h x) (hy : y.cls ≠ "java/lang/invoke/MethodHandle" ∧ y.cls ≠ "java/lang/invoke/VarHandle") (hf : rm.frames + 1 ≤ R.frames) (hl : W + (maxL + 11) + rm.locals ≤ R.locals) (hc : cells + rm.cells ≤ R.cells) (hs : slots + rm.slots ≤ R.slots)
    (hsz : L.size = ml) (hp : parseMethodDescriptor y.desc = some ⟨ps, rt⟩) (hlen : argsL.length = ps.length) (hW : (rest.map fun v => v.category).sum ≤ W) (hd : decode b pc = .ok (.invokestatic index, 3)) :
    ∃ v T' h', NwW Z EL n0 h' p l e R s m args below meth c T' (cells + rm.cells) (slots + rm.slots) ∧ CHr Z EL T.vm h T'.vm h' ∧ Q v h' ∧ Ld p e below T (mkF m pc L (argsL.reverse ++ rest)) T' (mkF m (pc + 3) L (v.toList ++ rest)) := by
  obtain ⟨Lc, k0, X, eT, r, q, hZ, hS, hk, hC⟩ := N
  obtain ⟨v, _, ⟨T', L', k', n'⟩, -, X', hS', hgr, ⟨Lc', hQ, l', y', z', hCr⟩, st⟩ := callSS X K.1 (y := y) (by show T.vm.findClass own = _; rw [hZ.alike.findClass]; exact K.2.1) (mvT (s := s.setVm T.vm) hZ w1) (mvT (s := s.setVm T.vm) hZ w2) (mvT (s := s.setVm T.vm) hZ w3) (mvT (s := s.setVm T.vm) hZ w4) hy (backW (W := W) hM q hZ w hC hsf w4 w3 hf hl) (g := mkF m pc L (argsL.reverse ++ rest)) rfl (by rw [K.2.2.2]; exact hsz) (argsL := argsL) (rest := rest) (lenOf hp hlen) rfl (by show 2 * 0 + _ ≤ _; omega) (hb K.2.2.1 hd) (fun _ _ => ⟨rfl, eT, hc, hs⟩)
  dsimp only [Pt.U, Pt.locs, Pt.cells, Pt.slots] at X' l' y' z' st hQ hS' hgr hCr
  subst l' y' z'
  exact ⟨v, T', T'.heap, ⟨_, _, X', rfl, Fr.app r hQ.2.1, hQ.1, State.Warmed39.trans (t := s.setVm T.vm) hZ hS'.1, hS.trans hS' (Nat.le_trans hk (by rw [← eT]; exact hgr)), Nat.le_refl _, hCr.1⟩, hCr, hQ.2.2, fun t k => st.trans k⟩
theorem goSpW (K : Cx Z own b ml p m c) (w : EW Z a0 EL) (N : NwW Z EL n0 h p l e R s m args below meth c T cells slots) {a : Addr}
    (w1 : (Jvm.Cond.methodLink own index y).before a0 Z = true) (w2 : (Jvm.Cond.instanceMethod y).before a0 Z = true) (w3 : (Jvm.Cond.initialized y.cls).before a0 Z = true) (w4 : (Jvm.Cond.code y bytes maxL none).before a0 Z = true)
    (hM : ConW l Z EL n0 y bytes maxL none [] rm (Value.ref a :: argsL).toArray h sf Q) (hsf : ∀ x ∈ sf, x < h.size ∧ Safe Z EL T.vm h x) (hi : y.name = "<init>") (hy : y.cls ≠ "java/lang/invoke/MethodHandle" ∧ y.cls ≠ "java/lang/invoke/VarHandle") (hf : rm.frames + 1 ≤ R.frames) (hl : W + (maxL + 11) + rm.locals ≤ R.locals) (hc : cells + rm.cells ≤ R.cells) (hs : slots + rm.slots ≤ R.slots)
    (hsz : L.size = ml) (hp : parseMethodDescriptor y.desc = some ⟨ps, rt⟩) (hlen : argsL.length = ps.length) (hW : (rest.map fun v => v.category).sum ≤ W) (hd : decode b pc = .ok (.invokespecial index, 3)) :
    ∃ v T' h', NwW Z EL n0 h' p l e R s m args below meth c T' (cells + rm.cells) (slots + rm.slots) ∧ CHr Z EL T.vm h T'.vm h' ∧ Q v h' ∧ Ld p e below T (mkF m pc L (argsL.reverse ++ .ref a :: rest)) T' (mkF m (pc + 3) L (v.toList ++ rest)) := by
  obtain ⟨Lc, k0, X, eT, r, q, hZ, hS, hk, hC⟩ := N
  obtain ⟨v, _, ⟨T', L', k', n'⟩, -, X', hS', hgr, ⟨Lc', hQ, l', y', z', hCr⟩, st⟩ := X.specialBackS K.1 (y := y) hi (by show T.vm.findClass own = _; rw [hZ.alike.findClass]; exact K.2.1) (mvT (s := s.setVm T.vm) hZ w1) (mvT (s := s.setVm T.vm) hZ w2) (mvT (s := s.setVm T.vm) hZ w4) hy (backW (W := W) hM q hZ w hC hsf w4 w3 hf hl) (g := mkF m pc L (argsL.reverse ++ .ref a :: rest)) rfl (by rw [K.2.2.2]; exact hsz) (Steps.refl _) (a := a) (argsL := argsL) (rest := rest) (lenOf hp hlen) rfl (by show 2 * 0 + _ ≤ _; omega) (hb K.2.2.1 hd) (fun _ _ => ⟨rfl, eT, hc, hs⟩)
  dsimp only [Pt.U, Pt.locs, Pt.cells, Pt.slots] at X' l' y' z' st hQ hS' hgr hCr
  subst l' y' z'
  exact ⟨v, T', T'.heap, ⟨_, _, X', rfl, Fr.app r hQ.2.1, hQ.1, State.Warmed39.trans (t := s.setVm T.vm) hZ hS'.1, hS.trans hS' (Nat.le_trans hk (by rw [← eT]; exact hgr)), Nat.le_refl _, hCr.1⟩, hCr, hQ.2.2, fun t k => st.trans k⟩
theorem goViW (K : Cx Z own b ml p m c) (w : EW Z a0 EL) (N : NwW Z EL n0 h p l e R s m args below meth c T cells slots) {a : Addr} {C : String} (E : Exa Z h a C)
    (w1 : (Jvm.Cond.methodLink own index y).before a0 Z = true) (w2 : (Jvm.Cond.declares y).before a0 Z = true) (w5 : (Jvm.Cond.selects C y y).before a0 Z = true) (w6 : (Jvm.Cond.instanceMethod y).before a0 Z = true) (w3 : (Jvm.Cond.initialized y.cls).before a0 Z = true) (w4 : (Jvm.Cond.code y bytes maxL ret).before a0 Z = true)
    (hM : ConW l Z EL n0 y bytes maxL ret [] rm (Value.ref a :: argsL).toArray h sf Q) (hsf : ∀ x ∈ sf, x < h.size ∧ Safe Z EL T.vm h x) (hy : y.cls ≠ "java/lang/invoke/MethodHandle" ∧ y.cls ≠ "java/lang/invoke/VarHandle") (hf : rm.frames + 1 ≤ R.frames) (hl : W + (maxL + 11) + rm.locals ≤ R.locals) (hc : cells + rm.cells ≤ R.cells) (hs : slots + rm.slots ≤ R.slots)
    (hsz : L.size = ml) (hp : parseMethodDescriptor y.desc = some ⟨ps, rt⟩) (hlen : argsL.length = ps.length) (hW : (rest.map fun v => v.category).sum ≤ W) (hd : decode b pc = .ok (.invokevirtual index, 3)) :
    ∃ v T' h', NwW Z EL n0 h' p l e R s m args below meth c T' (cells + rm.cells) (slots + rm.slots) ∧ CHr Z EL T.vm h T'.vm h' ∧ Q v h' ∧ Ld p e below T (mkF m pc L (argsL.reverse ++ .ref a :: rest)) T' (mkF m (pc + 3) L (v.toList ++ rest)) := by
  obtain ⟨Lc, k0, X, eT, r, q, hZ, hS, hk, hC⟩ := N
  obtain ⟨cB, kB, q1, q2, q3⟩ := isOf (s := s.setVm T.vm) hZ eT E
  obtain ⟨v, _, ⟨T', L', k', n'⟩, -, X', hS', hgr, ⟨Lc', hQ, l', y', z', hCr⟩, st⟩ := X.virtualBackS K.1 (y := y) (z := y) (by show T.vm.findClass own = _; rw [hZ.alike.findClass]; exact K.2.1) (mvT (s := s.setVm T.vm) hZ w1) (mvT (s := s.setVm T.vm) hZ w2) (notFace_of_selects (args := #[]) (mvT (s := s.setVm T.vm) hZ w5)) (mvT (s := s.setVm T.vm) hZ w5) (mvT (s := s.setVm T.vm) hZ w6) hy (backW (W := W) hM q hZ w hC hsf w4 w3 hf hl) q1 q3 (g := mkF m pc L (argsL.reverse ++ .ref a :: rest)) rfl (by rw [K.2.2.2]; exact hsz) (Steps.refl _) (argsL := argsL) (rest := rest) (lenOf hp hlen) rfl (by show 2 * 0 + _ ≤ _; omega) (hb K.2.2.1 hd) (fun _ _ => ⟨rfl, eT, hc, hs⟩)
  dsimp only [Pt.U, Pt.locs, Pt.cells, Pt.slots] at X' l' y' z' st hQ hS' hgr hCr
  subst l' y' z'
  exact ⟨v, T', T'.heap, ⟨_, _, X', rfl, Fr.app r hQ.2.1, hQ.1, State.Warmed39.trans (t := s.setVm T.vm) hZ hS'.1, hS.trans hS' (Nat.le_trans hk (by rw [← eT]; exact hgr)), Nat.le_refl _, hCr.1⟩, hCr, hQ.2.2, fun t k => st.trans k⟩
end OwnCallsW
end OwnWide
section OwnEnds
variable {p : Program} {l : Launch} {e : Env} {R : Room} {s : State} {m : MethodId} {args : Array Value} {below : List Frame} {meth : Method} {c : Code} {T T1 : State} {Z : State} {h h1 : Heap} {n0 : Nat} {g g1 : JFrame} {EL : List (String × Nat)}
/-- from here the law returns 1 -/
def EndsW (Z : State) (EL : List (String × Nat)) (n0 : Nat) (h : Heap) (p : Program) (l : Launch) (e : Env) (R : Room) (s : State) (m : MethodId) (args : Array Value) (below : List Frame) (meth : Method) (c : Code) (T : State) (g : JFrame) : Prop :=
  ∃ (T' : State) (g' : JFrame) (h' : Heap) (k n : Nat), NwW Z EL n0 h' p l e R s m args below meth c T' k n ∧ k ≤ R.cells ∧ n ≤ R.slots ∧ CHr Z EL T.vm h T'.vm h' ∧ Ld p e below T g T' g' ∧ Fn p e below m T' g' (some (.int 1))
theorem EndsW.pre (L : Ld p e below T g T1 g1) (C : CHr Z EL T.vm h T1.vm h1) (E : EndsW Z EL n0 h1 p l e R s m args below meth c T1 g1) : EndsW Z EL n0 h p l e R s m args below meth c T g := by
  obtain ⟨T', g', h', k, n, a, b, d, f, i, j⟩ := E
  exact ⟨T', g', h', k, n, a, b, d, C.trans f, L.trans i, j⟩
end OwnEnds

theorem tw {a0 : Array Value} {Z : State} (hw : ∀ d ∈ tables_1, d.before a0 Z = true) (k : Nat) {d : Jvm.Cond} (q : tables_1[k]? = some d) : d.before a0 Z = true := hw d (List.mem_of_getElem? q)
variable {p : Program} {l : Launch} {e : Env} {R : Room} {s : State} {m : MethodId} {args : Array Value} {below : List Frame} {meth : Method} {c : Code} {T : State} {cells slots : Nat} {Z : State} {a0 : Array Value} {h : Heap} {n0 : Nat}
def SF (Z : State) (z : Int32) (fm : Value) : Prop := (Sta Z Z.heap "java/lang/String" "COMPACT_STRINGS" "Z" (.int z)) ∧ (¬ z = 0) ∧ (Sta Z Z.heap "jdk/internal/util/Preconditions" "SIOOBE_FORMATTER" "Ljava/util/function/BiFunction;" fm) ∧ (fm.isRef = true)
section OwnStr
def lo8 (c : Int32) : Int32 := c.toInt8.toInt32
def hi8 (c : Int32) : Int32 := (c >>> (8 : Int32)).toInt8.toInt32
def u16 (cs : List Int32) : List Int32 := cs.flatMap fun c => [lo8 c, hi8 c]
def Ch (c : Int32) : Prop := 0 ≤ c.toInt ∧ c.toInt ≤ 65535
theorem u16_len (cs : List Int32) : (u16 cs).length = 2 * cs.length := by
  induction cs with
  | nil => rfl
  | cons c cs ih => simp only [u16, List.flatMap_cons, List.length_append, List.length_cons, List.length_nil] at ih ⊢; omega
theorem u16_cons (c : Int32) (cs : List Int32) : u16 (c :: cs) = lo8 c :: hi8 c :: u16 cs := rfl
theorem u16_lo : ∀ (cs : List Int32) (i : Nat) (c : Int32), cs[i]? = some c → (u16 cs)[2 * i]? = some (lo8 c) ∧ (u16 cs)[2 * i + 1]? = some (hi8 c)
  | [], i, c, h => by simp at h
  | d :: cs, 0, c, h => by simp at h; subst h; exact ⟨rfl, rfl⟩
  | d :: cs, i + 1, c, h => by
    have := u16_lo cs i c (by simpa using h)
    rw [u16_cons, show 2 * (i + 1) = 2 * i + 2 by omega, show 2 * i + 2 + 1 = 2 * i + 1 + 2 by omega]
    simpa using this
theorem nn_nat {x : Int32} (h0 : 0 ≤ x.toInt) : (x.toBitVec.toNat : Int) = x.toInt := by
  have : x.toInt = x.toBitVec.toInt := rfl
  rw [this] at h0 ⊢
  rw [BitVec.toInt_eq_toNat_cond] at h0 ⊢
  split at h0 <;> rename_i q
  · simp [q]
  · have := x.toBitVec.isLt; omega
theorem lo8_and (x : Int32) : (lo8 x &&& (255 : Int32)).toBitVec.toNat = x.toBitVec.toNat % 256 := by
  show (((x.toBitVec.signExtend 8).signExtend 32) &&& 255#32).toNat = _
  rw [BitVec.signExtend_eq_setWidth_of_le _ (show 8 ≤ 32 by decide)]
  have e : ((x.toBitVec.setWidth 8).signExtend 32) &&& 255#32 = (x.toBitVec.setWidth 8).setWidth 32 := by
    apply BitVec.eq_of_getLsbD_eq
    intro i hi
    rw [BitVec.getLsbD_and, BitVec.getLsbD_signExtend, BitVec.getLsbD_setWidth]
    have h255 : ∀ i, (255#32).getLsbD i = decide (i < 8) := by
      intro i
      by_cases q : i < 8
      · have : i = 0 ∨ i = 1 ∨ i = 2 ∨ i = 3 ∨ i = 4 ∨ i = 5 ∨ i = 6 ∨ i = 7 := by omega
        rcases this with rfl | rfl | rfl | rfl | rfl | rfl | rfl | rfl <;> rfl
      · rw [decide_eq_false q, BitVec.getLsbD]
        exact Nat.testBit_lt_two_pow (Nat.lt_of_lt_of_le (show 255 < 2 ^ 8 by decide) (Nat.pow_le_pow_right (by decide) (by omega)))
    rw [h255]
    by_cases q : i < 8
    · simp [q, hi]
    · simp [q, hi]
  rw [e, BitVec.toNat_setWidth, BitVec.toNat_setWidth]
  omega
theorem toC_small {x : Int32} (h : x.toBitVec.toNat < 65536) : x.toUInt32.toUInt16.toUInt32.toInt32 = x := by
  apply Int32.toBitVec_inj.mp
  apply BitVec.eq_of_toNat_eq
  show ((x.toBitVec.setWidth 16).setWidth 32).toNat = _
  rw [BitVec.toNat_setWidth, BitVec.toNat_setWidth]
  omega
theorem ch_lt {c : Int32} (h : Ch c) : c.toBitVec.toNat < 65536 := by have := nn_nat h.1; have := h.2; omega
theorem latin_back {c : Int32} (h : Ch c) (h2 : c.toInt ≤ 255) : (lo8 c &&& (255 : Int32)).toUInt32.toUInt16.toUInt32.toInt32 = c := by
  have e := lo8_and c
  have n1 := nn_nat h.1
  have e2 : lo8 c &&& (255 : Int32) = c := by
    apply Int32.toBitVec_inj.mp
    apply BitVec.eq_of_toNat_eq
    rw [e]; omega
  rw [e2]; exact toC_small (ch_lt h)
theorem shr8 {c : Int32} (h : Ch c) : (c >>> (8 : Int32)).toBitVec.toNat = c.toBitVec.toNat / 256 := by
  have n1 := ch_lt h
  show (c.toBitVec.sshiftRight' ((8#32).smod 32)).toNat = _
  have e : c.toBitVec.msb = false := by rw [BitVec.msb_eq_decide]; simp; omega
  rw [show (8#32).smod 32 = 8#32 from by decide, BitVec.sshiftRight_eq', BitVec.sshiftRight_eq_of_msb_false e]
  rw [BitVec.toNat_ushiftRight, show (8#32).toNat = 8 from rfl, Nat.shiftRight_eq_div_pow]
theorem utf_back {c : Int32} (h : Ch c) : (((lo8 c &&& (255 : Int32)) <<< ((0 : Int32) &&& 31)) ||| ((hi8 c &&& (255 : Int32)) <<< ((8 : Int32) &&& 31))).toUInt32.toUInt16.toUInt32.toInt32 = c := by
  have n1 := ch_lt h
  have a1 := lo8_and c
  have a2 : (hi8 c &&& (255 : Int32)).toBitVec.toNat = c.toBitVec.toNat / 256 := by
    have := lo8_and (c >>> (8 : Int32))
    rw [shr8 h] at this
    show (lo8 (c >>> (8 : Int32)) &&& (255 : Int32)).toBitVec.toNat = _
    rw [this]; omega
  have e : ((lo8 c &&& (255 : Int32)) <<< ((0 : Int32) &&& 31)) ||| ((hi8 c &&& (255 : Int32)) <<< ((8 : Int32) &&& 31)) = c := by
    apply Int32.toBitVec_inj.mp
    apply BitVec.eq_of_toNat_eq
    show (((lo8 c &&& (255 : Int32)).toBitVec <<< (((0 : Int32) &&& 31).toBitVec.smod 32)) ||| ((hi8 c &&& (255 : Int32)).toBitVec <<< (((8 : Int32) &&& 31).toBitVec.smod 32))).toNat = _
    rw [show ((0 : Int32) &&& 31).toBitVec.smod 32 = 0#32 from by decide, show ((8 : Int32) &&& 31).toBitVec.smod 32 = 8#32 from by decide]
    rw [BitVec.toNat_or, BitVec.shiftLeft_eq', BitVec.shiftLeft_eq', BitVec.toNat_shiftLeft, BitVec.toNat_shiftLeft, a1, a2, show (0#32).toNat = 0 from rfl, show (8#32).toNat = 8 from rfl, Nat.shiftLeft_zero, Nat.shiftLeft_eq]
    rw [Nat.mod_eq_of_lt (show c.toBitVec.toNat % 256 < 2 ^ 32 by omega), Nat.mod_eq_of_lt (show c.toBitVec.toNat / 256 * 2 ^ 8 < 2 ^ 32 by omega), Nat.or_comm, Nat.mul_comm, ← Nat.two_pow_add_eq_or_of_lt (by omega)]
    omega
  rw [e]; exact toC_small n1
theorem ch_nar (x : Int32) : Ch (nar .char x) := by
  have e : (nar .char x).toBitVec.toNat < 65536 := by
    show ((x.toBitVec.setWidth 16).setWidth 32).toNat < _
    rw [BitVec.toNat_setWidth, BitVec.toNat_setWidth]; omega
  have e2 : (nar .char x).toInt = (nar .char x).toBitVec.toNat := by
    show (nar .char x).toBitVec.toInt = _
    rw [BitVec.toInt_eq_toNat_cond, if_pos (by omega)]
  constructor <;> omega
theorem nar_ch {c : Int32} (h : Ch c) : nar .char c = c := toC_small (ch_lt h)
theorem nar_nar (x : Int32) : nar .char x.toUInt32.toUInt16.toUInt32.toInt32 = nar .char x := nar_ch (ch_nar x)
theorem nar_lo (x : Int32) : nar .byte x.toInt8.toInt32 = lo8 x := by simp [nar, lo8]
theorem sh0 (c : Int32) : c >>> ((0 : Int32) &&& 31) = c := by
  apply Int32.toBitVec_inj.mp
  show c.toBitVec.sshiftRight' (((0 : Int32) &&& 31).toBitVec.smod 32) = _
  rw [show ((0 : Int32) &&& 31).toBitVec.smod 32 = 0#32 from by decide]; simp
theorem sh8 (c : Int32) : c >>> ((8 : Int32) &&& 31) = c >>> (8 : Int32) := rfl
/-- no String of two-byte chars is made here -/
def Cd1 (Z : State) (h : Heap) (x : Addr) : Prop := False
theorem Cd1.keep {Z : State} {h h' : Heap} {x : Addr} {ws : List Addr} (F : Cd1 Z h x) (K : Keep h h' ws) (q : x ∉ ws) : Cd1 Z h' x := F
/-- the String at x, its bytes at t, spells cs -/
def Stv (Z : State) (h : Heap) (x t : Addr) (cs : List Int32) : Prop :=
  Exa Z h x "java/lang/String" ∧ (∀ c ∈ cs, Ch c) ∧ cs.length ≤ 4000 ∧ Fld Z h x "java/lang/String" "value" "[B" (.ref t) ∧
    ((Fld Z h x "java/lang/String" "coder" "B" (.int 0) ∧ (∀ c ∈ cs, c.toInt ≤ 255) ∧ Av Z h t .byte ((cs.map lo8).map Value.int)) ∨ (Cd1 Z h x ∧ Av Z h t .byte ((u16 cs).map Value.int)))
variable {Z : State} {h h' : Heap} {x t : Addr} {cs : List Int32} {ws : List Addr}
theorem Stv.keep (F : Stv Z h x t cs) (K : Keep h h' ws) (q1 : x ∉ ws) (q2 : t ∉ ws) : Stv Z h' x t cs := by
  obtain ⟨a, b, c, d, f⟩ := F
  refine ⟨a.keep K, b, c, d.keep K q1, ?_⟩
  rcases f with ⟨f1, f2, f3⟩ | ⟨f1, f3⟩
  · exact Or.inl ⟨f1.keep K q1, f2, f3.keep K q2⟩
  · exact Or.inr ⟨f1.keep K q1, f3.keep K q2⟩
theorem Stv.ext (F : Stv Z h x t cs) (K : Ext h h') : Stv Z h' x t cs := F.keep (ws := []) (keep_ext K) nin0 nin0
end OwnStr
section OwnStrW
variable {Z : State} {h h' : Heap} {a t : Addr} {k : ClassId} {ty : FieldType} {z : Int32} {vs : List Value} {dv : Value}
theorem Arv.toAv (F : Arv Z h a k ty z vs dv) (q : z.toInt = vs.length) : Av Z h a ty vs := by
  obtain ⟨c, A, -, S, -, H, -⟩ := F
  have e : c.slots.size = vs.length := by rw [S]; simp [Int32.toNatClampNeg, q]
  have hz := Int32.toInt_lt z
  refine ⟨c, A, ?_, by omega⟩
  apply List.ext_getElem?
  intro i
  rw [Array.getElem?_toList]
  by_cases hi : i < vs.length
  · rw [H i (by omega)]; simp [List.getD_eq_getElem?_getD, hi]
  · rw [Array.getElem?_eq_none (by omega), List.getElem?_eq_none (by omega)]
end OwnStrW
section OwnMask
theorem and_nat (x : Int32) : (x &&& (255 : Int32)).toBitVec.toNat ≤ 255 := by
  rw [Int32.toBitVec_and, BitVec.toNat_and]; exact Nat.and_le_right
theorem nat_int {x : Int32} (q : x.toBitVec.toNat < 2147483648) : x.toInt = x.toBitVec.toNat := by
  show x.toBitVec.toInt = _
  rw [BitVec.toInt_eq_toNat_cond, if_pos (by omega)]
theorem c255 (x : Int32) : Ch ((x &&& (255 : Int32)).toUInt32.toUInt16.toUInt32.toInt32) ∧ ((x &&& (255 : Int32)).toUInt32.toUInt16.toUInt32.toInt32).toInt ≤ 255 := by
  have q := and_nat x
  rw [toC_small (by omega)]
  have e := nat_int (x := x &&& (255 : Int32)) (by omega)
  refine ⟨⟨by omega, by omega⟩, by omega⟩
theorem nar_obj {s : String} {v : Value} (h : v.isRef = true) : narrow (.object s) v = v := by rcases ref_cases h with rfl | ⟨b, rfl⟩ <;> rfl
theorem fit_obj {s : String} {v : Value} (h : v.isRef = true) : fits (.object s) v = true := by rcases ref_cases h with rfl | ⟨b, rfl⟩ <;> rfl
end OwnMask

theorem n_shr1 {n : Nat} (q : n < 2147483648) : (Int32.ofNat n >>> ((1 : Int32) &&& 31)) = Int32.ofNat (n / 2) := by
  have e : (Int32.ofNat n).toBitVec = BitVec.ofNat 32 n := rfl
  apply Int32.toBitVec_inj.mp
  apply BitVec.eq_of_toNat_eq
  show ((Int32.ofNat n).toBitVec.sshiftRight' (((1 : Int32) &&& 31).toBitVec.smod 32)).toNat = (BitVec.ofNat 32 (n / 2)).toNat
  have m : (Int32.ofNat n).toBitVec.msb = false := by rw [e, BitVec.msb_eq_decide]; simp; omega
  rw [show ((1 : Int32) &&& 31).toBitVec.smod 32 = 1#32 from by decide, BitVec.sshiftRight_eq', BitVec.sshiftRight_eq_of_msb_false m, BitVec.toNat_ushiftRight, e, show (1#32).toNat = 1 from rfl, Nat.shiftRight_eq_div_pow, BitVec.toNat_ofNat, BitVec.toNat_ofNat]
  omega
theorem n_shl1 {n : Nat} (q : n < 1073741824) : (Int32.ofNat n <<< ((1 : Int32) &&& 31)) = Int32.ofNat (2 * n) := by
  rw [show (2 * n) = n + n by omega, Int32.ofNat_add]
  generalize Int32.ofNat n = z
  apply Int32.toBitVec_inj.mp
  show z.toBitVec <<< (((1 : Int32) &&& 31).toBitVec.smod 32) = z.toBitVec + z.toBitVec
  rw [show ((1 : Int32) &&& 31).toBitVec.smod 32 = 1#32 from by decide, BitVec.shiftLeft_eq']
  apply BitVec.eq_of_toNat_eq
  rw [BitVec.toNat_shiftLeft, BitVec.toNat_add, show (1#32).toNat = 1 from rfl, Nat.shiftLeft_eq]
  congr 1; omega
theorem n_shr0 (x : Int32) : x >>> ((0 : Int32) &&& 31) = x := sh0 x
theorem gti {xs : List Int32} {i : Nat} {c : Int32} (q : xs[i]? = some c) : (xs.map Value.int)[i]? = some (.int c) := by simp [q]
theorem pn0 : plainName "jdk/internal/util/Preconditions" = true := by first | (simp [plainName, overriddenIn]; done) | decide +kernel
theorem pd0 : parseMethodDescriptor "(IILjava/util/function/BiFunction;)I" = some ⟨[.int, .int, .object "java/util/function/BiFunction"], some (.int)⟩ := by decide +kernel
theorem pn1 : plainName "java/lang/String" = true := by first | (simp [plainName, overriddenIn]; done) | decide +kernel
theorem pd1 : parseMethodDescriptor "(II)V" = some ⟨[.int, .int], none⟩ := by decide +kernel
theorem pn2 : plainName "java/lang/StringLatin1" = true := by first | (simp [plainName, overriddenIn]; done) | decide +kernel
theorem pd2 : parseMethodDescriptor "([BI)C" = some ⟨[.array .byte, .int], some (.char)⟩ := by decide +kernel
theorem pd3 : parseMethodDescriptor "()Z" = some ⟨[], some (.boolean)⟩ := by decide +kernel
theorem pd4 : parseMethodDescriptor "(I)C" = some ⟨[.int], some (.char)⟩ := by decide +kernel
theorem lt_in {i n : Nat} (q : i < n) (r : n < 2147483648) : Int32.ofNat i < Int32.ofNat n := (n_lt (by omega) r).mpr q
set_option maxHeartbeats 1000000 in
theorem con_pcin (i n : Nat) (hi : i < n) (hn : n < 2147483648) : Con l Z n0 ⟨"jdk/internal/util/Preconditions", "checkIndex", "(IILjava/util/function/BiFunction;)I"⟩ jdk_41_method_11_code 3 (some (.int)) [] ({ frames := 0, cells := 0, slots := 0, locals := 0 } : Room) #[.int (Int32.ofNat i), .int (Int32.ofNat n), .null] h (fun v h' => v = some (.int (Int32.ofNat i)) ∧ h = h') := by
  refine Con.ofH (plainFor_of_name pn0) (L0 := #[.val (.int (Int32.ofNat i)), .val (.int (Int32.ofNat n)), .val (.null)]) (fun m => by first | (simp [entryFrame, mkF, argsToLocals, Value.category]; done) | rfl) ?_
  intro p e s m below meth c T K hret hnm N hs
  have g1 : Ld p e below T (mkF m 0 #[.val (.int (Int32.ofNat i)), .val (.int (Int32.ofNat n)), .val (.null)] []) T (mkF m 17 #[.val (.int (Int32.ofNat i)), .val (.int (Int32.ofNat n)), .val (.null)] [(.int (Int32.ofNat i))]) := goRun K N #[] [(0, .iload_n 0, 1), (1, .ifCond .lt 8, 3), (4, .iload_n 0, 1), (5, .iload_n 1, 1), (6, .if_icmp .lt 10, 3), (16, .iload_n 0, 1)] [.null, .ref 0] (P := (¬ (Int32.ofNat i) < (0 : Int32)) ∧ ((Int32.ofNat i) < (Int32.ofNat n)) ∧ True) (by decide +kernel) rfl ⟨(not_neg_of (n_ti (by omega))), (lt_in hi hn), trivial⟩
  exact ⟨_, T, _, h, _, _, N, by decide, by decide, fun q => (nomatch q), ⟨rfl, rfl⟩, g1, finI K N hret (by decide +kernel)⟩
set_option maxHeartbeats 1000000 in
theorem con_pcir (fa : Addr) (i n : Nat) (hi : i < n) (hn : n < 2147483648) : Con l Z n0 ⟨"jdk/internal/util/Preconditions", "checkIndex", "(IILjava/util/function/BiFunction;)I"⟩ jdk_41_method_11_code 3 (some (.int)) [] ({ frames := 0, cells := 0, slots := 0, locals := 0 } : Room) #[.int (Int32.ofNat i), .int (Int32.ofNat n), .ref fa] h (fun v h' => v = some (.int (Int32.ofNat i)) ∧ h = h') := by
  refine Con.ofH (plainFor_of_name pn0) (L0 := #[.val (.int (Int32.ofNat i)), .val (.int (Int32.ofNat n)), .val (.ref fa)]) (fun m => by first | (simp [entryFrame, mkF, argsToLocals, Value.category]; done) | rfl) ?_
  intro p e s m below meth c T K hret hnm N hs
  have g1 : Ld p e below T (mkF m 0 #[.val (.int (Int32.ofNat i)), .val (.int (Int32.ofNat n)), .val (.ref fa)] []) T (mkF m 17 #[.val (.int (Int32.ofNat i)), .val (.int (Int32.ofNat n)), .val (.ref fa)] [(.int (Int32.ofNat i))]) := goRun K N #[] [(0, .iload_n 0, 1), (1, .ifCond .lt 8, 3), (4, .iload_n 0, 1), (5, .iload_n 1, 1), (6, .if_icmp .lt 10, 3), (16, .iload_n 0, 1)] [.null, .ref 0] (P := (¬ (Int32.ofNat i) < (0 : Int32)) ∧ ((Int32.ofNat i) < (Int32.ofNat n)) ∧ True) (by decide +kernel) rfl ⟨(not_neg_of (n_ti (by omega))), (lt_in hi hn), trivial⟩
  exact ⟨_, T, _, h, _, _, N, by decide, by decide, fun q => (nomatch q), ⟨rfl, rfl⟩, g1, finI K N hret (by decide +kernel)⟩
set_option maxHeartbeats 1000000 in
theorem con_ci (hw : ∀ d ∈ tables_1, d.before a0 Z = true) {z : Int32} {fm : Value} (sf : SF Z z fm) (i n : Nat) (hi : i < n) (hn : n < 2147483648) (O : Old Z n0 h) : Con l Z n0 ⟨"java/lang/String", "checkIndex", "(II)V"⟩ jdk_42_method_155_code 2 none [] ({ frames := 1, cells := 0, slots := 0, locals := 14 } : Room) #[.int (Int32.ofNat i), .int (Int32.ofNat n)] h (fun v h' => v = none ∧ h = h') := by
  refine Con.ofH (plainFor_of_name pn1) (L0 := #[.val (.int (Int32.ofNat i)), .val (.int (Int32.ofNat n))]) (fun m => by first | (simp [entryFrame, mkF, argsToLocals, Value.category]; done) | rfl) ?_
  intro p e s m below meth c T K hret hnm N hs
  have O0 : Old Z n0 s.heap := by rw [hs]; exact O
  obtain ⟨fm', hfm⟩ : ∃ y, y = fm := ⟨_, rfl⟩
  have g1 : Ld p e below T (mkF m 0 #[.val (.int (Int32.ofNat i)), .val (.int (Int32.ofNat n))] []) T (mkF m 2 #[.val (.int (Int32.ofNat i)), .val (.int (Int32.ofNat n))] [(.int (Int32.ofNat n)), (.int (Int32.ofNat i))]) := goRun K N #[] [(0, .iload_n 0, 1), (1, .iload_n 1, 1)] [] (P := True) (by decide +kernel) rfl trivial
  rcases ref_cases (sf.2.2.2) with hfe | ⟨fa, hfe⟩
  · have hst := sf.2.2.1.ext (N.old O0).2
    rw [hfe] at hst
    obtain ⟨T2, N2, g2⟩ := goSta K N (tw hw 82 rfl) hst (pc := 2) (L := #[.val (.int (Int32.ofNat i)), .val (.int (Int32.ofNat n))]) (S := [(.int (Int32.ofNat n)), (.int (Int32.ofNat i))]) (by decide +kernel)
    obtain ⟨v3, T3, _, N3, ⟨rfl, rfl⟩, g3⟩ := goS K N2 (tw hw 84 rfl) (tw hw 85 rfl) (tw hw 83 rfl) (tw hw 86 rfl) (con_pcin i n hi hn) (argsL := [(.int (Int32.ofNat i)), (.int (Int32.ofNat n)), (.null)]) (W := 0) (rest := []) (by decide) (by decide) (by decide) (by decide) (by decide) (L := #[.val (.int (Int32.ofNat i)), .val (.int (Int32.ofNat n))]) rfl pd0 rfl (Nat.le_of_eq rfl) (pc := 5) (by decide +kernel)
    have g4 : Ld p e below T3 (mkF m 8 #[.val (.int (Int32.ofNat i)), .val (.int (Int32.ofNat n))] [(.int (Int32.ofNat i))]) T3 (mkF m 9 #[.val (.int (Int32.ofNat i)), .val (.int (Int32.ofNat n))] []) := goRun K N3 #[] [(8, .pop, 1)] [] (P := True) (by decide +kernel) rfl trivial
    exact ⟨none, T3, _, h, _, _, N3, by decide, by decide, fun _ => rfl, ⟨rfl, rfl⟩, g1.trans (g2.trans (g3.trans g4)), finV K N3 hret (by decide +kernel)⟩
  · have hst := sf.2.2.1.ext (N.old O0).2
    rw [hfe] at hst
    obtain ⟨T2, N2, g2⟩ := goSta K N (tw hw 82 rfl) hst (pc := 2) (L := #[.val (.int (Int32.ofNat i)), .val (.int (Int32.ofNat n))]) (S := [(.int (Int32.ofNat n)), (.int (Int32.ofNat i))]) (by decide +kernel)
    obtain ⟨v3, T3, _, N3, ⟨rfl, rfl⟩, g3⟩ := goS K N2 (tw hw 84 rfl) (tw hw 85 rfl) (tw hw 83 rfl) (tw hw 86 rfl) (con_pcir fa i n hi hn) (argsL := [(.int (Int32.ofNat i)), (.int (Int32.ofNat n)), (.ref fa)]) (W := 0) (rest := []) (by decide) (by decide) (by decide) (by decide) (by decide) (L := #[.val (.int (Int32.ofNat i)), .val (.int (Int32.ofNat n))]) rfl pd0 rfl (Nat.le_of_eq rfl) (pc := 5) (by decide +kernel)
    have g4 : Ld p e below T3 (mkF m 8 #[.val (.int (Int32.ofNat i)), .val (.int (Int32.ofNat n))] [(.int (Int32.ofNat i))]) T3 (mkF m 9 #[.val (.int (Int32.ofNat i)), .val (.int (Int32.ofNat n))] []) := goRun K N3 #[] [(8, .pop, 1)] [] (P := True) (by decide +kernel) rfl trivial
    exact ⟨none, T3, _, h, _, _, N3, by decide, by decide, fun _ => rfl, ⟨rfl, rfl⟩, g1.trans (g2.trans (g3.trans g4)), finV K N3 hret (by decide +kernel)⟩
set_option maxHeartbeats 1000000 in
theorem con_lca (hw : ∀ d ∈ tables_1, d.before a0 Z = true) {z : Int32} {fm : Value} (sf : SF Z z fm) {t : Addr} {cs : List Int32} (F : Av Z h t .byte ((cs.map lo8).map Value.int)) (hl : cs.length < 100000) {i : Nat} {cc : Int32} (hc : cs[i]? = some cc) (h1 : Ch cc) (h2 : cc.toInt ≤ 255) (O : Old Z n0 h) : Con l Z n0 ⟨"java/lang/StringLatin1", "charAt", "([BI)C"⟩ jdk_43_method_2_code 2 (some (.char)) [] ({ frames := 2, cells := 0, slots := 0, locals := 27 } : Room) #[.ref t, .int (Int32.ofNat i)] h (fun v h' => v = some (.int cc) ∧ h = h') := by
  refine Con.ofH (plainFor_of_name pn2) (L0 := #[.val (.ref t), .val (.int (Int32.ofNat i))]) (fun m => by first | (simp [entryFrame, mkF, argsToLocals, Value.category]; done) | rfl) ?_
  intro p e s m below meth c T K hret hnm N hs
  have O0 : Old Z n0 s.heap := by rw [hs]; exact O
  have hi : i < cs.length := (List.getElem?_eq_some_iff.mp hc).1
  have g1 : Ld p e below T (mkF m 0 #[.val (.ref t), .val (.int (Int32.ofNat i))] []) T (mkF m 3 #[.val (.ref t), .val (.int (Int32.ofNat i))] [(.int (Int32.ofNat cs.length)), (.int (Int32.ofNat i))]) := goRun K N #[] [(0, .iload_n 1, 1), (1, .aload_n 0, 1), (2, .arraylength, 1)] [.int (Int32.ofNat cs.length)] (P := (Ln Z h t (Int32.ofNat cs.length)) ∧ True) (by decide +kernel) rfl ⟨(F.ln (by rw [n_ti (by omega)]; simp)), trivial⟩
  obtain ⟨v2, T2, _, N2, ⟨rfl, rfl⟩, g2⟩ := goS K N (tw hw 79 rfl) (tw hw 80 rfl) (tw hw 4 rfl) (tw hw 81 rfl) (con_ci hw sf i cs.length hi (by omega) O) (argsL := [(.int (Int32.ofNat i)), (.int (Int32.ofNat cs.length))]) (W := 0) (rest := []) (by decide) (by decide) (by decide) (by decide) (by decide) (L := #[.val (.ref t), .val (.int (Int32.ofNat i))]) rfl pd1 rfl (Nat.le_of_eq rfl) (pc := 3) (by decide +kernel)
  have g3 : Ld p e below T2 (mkF m 6 #[.val (.ref t), .val (.int (Int32.ofNat i))] []) T2 (mkF m 14 #[.val (.ref t), .val (.int (Int32.ofNat i))] [(.int (((lo8 cc) &&& (255 : Int32)).toUInt32.toUInt16.toUInt32.toInt32))]) := goRun K N2 #[] [(6, .aload_n 0, 1), (7, .iload_n 1, 1), (8, .baload, 1), (9, .sipush 255, 3), (12, .iand, 1), (13, .i2c, 1)] [.int (lo8 cc)] (P := (Rd Z h t .byte (Int32.ofNat i) (.int (lo8 cc))) ∧ True) (by decide +kernel) rfl ⟨(F.rd (n_ti (by omega)) (gti (by simp [hc]))), trivial⟩
  rw [latin_back h1 h2] at g3
  exact ⟨_, T2, _, h, _, _, N2, by decide, by decide, fun q => (nomatch q), ⟨by rw [nar_ch h1], rfl⟩, g1.trans (g2.trans g3), finN K N2 hret (Or.inr (Or.inr (Or.inl rfl))) (by decide +kernel)⟩
set_option maxHeartbeats 1000000 in
theorem con_il0 (hw : ∀ d ∈ tables_1, d.before a0 Z = true) {z : Int32} {fm : Value} (sf : SF Z z fm) {a : Addr} (F : Fld Z h a "java/lang/String" "coder" "B" (.int 0)) (O : Old Z n0 h) : Con l Z n0 ⟨"java/lang/String", "isLatin1", "()Z"⟩ jdk_42_method_154_code 1 (some (.boolean)) [] ({ frames := 0, cells := 0, slots := 0, locals := 0 } : Room) #[.ref a] h (fun v h' => v = some (.int 1) ∧ h = h') := by
  refine Con.ofH (plainFor_of_name pn1) (L0 := #[.val (.ref a)]) (fun m => by first | (simp [entryFrame, mkF, argsToLocals, Value.category]; done) | rfl) ?_
  intro p e s m below meth c T K hret hnm N hs
  have O0 : Old Z n0 s.heap := by rw [hs]; exact O
  obtain ⟨T1, N1, g1⟩ := goSta K N (tw hw 37 rfl) (sf.1.ext (N.old O0).2) (pc := 0) (L := #[.val (.ref a)]) (S := []) (by decide +kernel)
  have g2 : Ld p e below T1 (mkF m 3 #[.val (.ref a)] [(.int z)]) T1 (mkF m 7 #[.val (.ref a)] [(.ref a)]) := goRun K N1 #[] [(3, .ifCond .eq 14, 3), (6, .aload_n 0, 1)] [.null] (P := (¬ z = (0 : Int32)) ∧ True) (by decide +kernel) rfl ⟨sf.2.1, trivial⟩
  obtain ⟨T3, N3, g3⟩ := goGet K N1 (tw hw 22 rfl) F (pc := 7) (L := #[.val (.ref a)]) (S := []) (by decide +kernel)
  have g4 : Ld p e below T3 (mkF m 10 #[.val (.ref a)] [(.int (0 : Int32))]) T3 (mkF m 18 #[.val (.ref a)] [(.int (1 : Int32))]) := goRun K N3 #[] [(10, .ifCond .ne 7, 3), (13, .iconst 1, 1), (14, .goto 4, 3)] [.null] (P := ((0 : Int32) = (0 : Int32)) ∧ True) (by decide +kernel) rfl ⟨rfl, trivial⟩
  exact ⟨_, T3, _, h, _, _, N3, by decide, by decide, fun q => (nomatch q), ⟨sb1, rfl⟩, g1.trans (g2.trans (g3.trans g4)), finN K N3 hret (Or.inl rfl) (by decide +kernel)⟩
set_option maxHeartbeats 1000000 in
theorem con_ca (hw : ∀ d ∈ tables_1, d.before a0 Z = true) {z : Int32} {fm : Value} (sf : SF Z z fm) {a t : Addr} {cs : List Int32} (F : Stv Z h a t cs) {i : Nat} {cc : Int32} (hc : cs[i]? = some cc) (O : Old Z n0 h) : Con l Z n0 ⟨"java/lang/String", "charAt", "(I)C"⟩ jdk_42_method_56_code 2 (some (.char)) [] ({ frames := 3, cells := 0, slots := 0, locals := 40 } : Room) #[.ref a, .int (Int32.ofNat i)] h (fun v h' => v = some (.int cc) ∧ h = h') := by
  refine Con.ofH (plainFor_of_name pn1) (L0 := #[.val (.ref a), .val (.int (Int32.ofNat i))]) (fun m => by first | (simp [entryFrame, mkF, argsToLocals, Value.category]; done) | rfl) ?_
  intro p e s m below meth c T K hret hnm N hs
  have O0 : Old Z n0 s.heap := by rw [hs]; exact O
  obtain ⟨X, f1, f2, f3, f4⟩ := F
  have h1 : Ch cc := f1 _ (List.mem_of_getElem? hc)
  have g1 : Ld p e below T (mkF m 0 #[.val (.ref a), .val (.int (Int32.ofNat i))] []) T (mkF m 1 #[.val (.ref a), .val (.int (Int32.ofNat i))] [(.ref a)]) := goRun K N #[] [(0, .aload_n 0, 1)] [] (P := True) (by decide +kernel) rfl trivial
  rcases f4 with ⟨f5, f6, f7⟩ | ⟨f5, f7⟩
  · obtain ⟨v2, T2, _, N2, ⟨rfl, rfl⟩, g2⟩ := goVi K N (a := a) X (tw hw 70 rfl) (tw hw 71 rfl) (tw hw 73 rfl) (tw hw 72 rfl) (tw hw 4 rfl) (tw hw 74 rfl) (con_il0 hw sf f5 O) (argsL := []) (W := 0) (rest := []) (by decide) (by decide) (by decide) (by decide) (by decide) (L := #[.val (.ref a), .val (.int (Int32.ofNat i))]) rfl pd3 rfl (Nat.le_of_eq rfl) (pc := 1) (by decide +kernel)
    have g3 : Ld p e below T2 (mkF m 4 #[.val (.ref a), .val (.int (Int32.ofNat i))] [(.int (1 : Int32))]) T2 (mkF m 8 #[.val (.ref a), .val (.int (Int32.ofNat i))] [(.ref a)]) := goRun K N2 #[] [(4, .ifCond .eq 12, 3), (7, .aload_n 0, 1)] [.null] (P := (¬ (1 : Int32) = (0 : Int32)) ∧ True) (by decide +kernel) rfl ⟨(by decide), trivial⟩
    obtain ⟨T4, N4, g4⟩ := goGet K N2 (tw hw 21 rfl) f3 (pc := 8) (L := #[.val (.ref a), .val (.int (Int32.ofNat i))]) (S := []) (by decide +kernel)
    have g5 : Ld p e below T4 (mkF m 11 #[.val (.ref a), .val (.int (Int32.ofNat i))] [(.ref t)]) T4 (mkF m 12 #[.val (.ref a), .val (.int (Int32.ofNat i))] [(.int (Int32.ofNat i)), (.ref t)]) := goRun K N4 #[] [(11, .iload_n 1, 1)] [] (P := True) (by decide +kernel) rfl trivial
    obtain ⟨v6, T6, _, N6, ⟨rfl, rfl⟩, g6⟩ := goS K N4 (tw hw 75 rfl) (tw hw 76 rfl) (tw hw 77 rfl) (tw hw 78 rfl) (con_lca hw sf f7 (by omega) hc h1 (f6 _ (List.mem_of_getElem? hc)) O) (argsL := [(.ref t), (.int (Int32.ofNat i))]) (W := 0) (rest := []) (by decide) (by decide) (by decide) (by decide) (by decide) (L := #[.val (.ref a), .val (.int (Int32.ofNat i))]) rfl pd2 rfl (Nat.le_of_eq rfl) (pc := 12) (by decide +kernel)
    exact ⟨_, T6, _, h, _, _, N6, by decide, by decide, fun q => (nomatch q), ⟨by rw [nar_ch h1], rfl⟩, g1.trans (g2.trans (g3.trans (g4.trans (g5.trans g6)))), finN K N6 hret (Or.inr (Or.inr (Or.inl rfl))) (by decide +kernel)⟩
  · exact False.elim f5
theorem take_succ_of {α : Type} {cs : List α} {i : Nat} {c : α} (q : cs[i]? = some c) : cs.take (i + 1) = cs.take i ++ [c] := by
  rw [List.take_add_one, q]; rfl
theorem u16_app (a b : List Int32) : u16 (a ++ b) = u16 a ++ u16 b := by simp [u16]
def wv (cs : List Int32) (i : Nat) : List Value := (u16 (cs.take i)).map Value.int ++ List.replicate (2 * (cs.length - i)) (.int 0)
theorem wv_len {cs : List Int32} {i : Nat} (q : i ≤ cs.length) : (wv cs i).length = 2 * cs.length := by
  simp only [wv, List.length_append, List.length_map, u16_len, List.length_take, List.length_replicate]; omega
theorem wv_0 (cs : List Int32) : wv cs 0 = List.replicate (2 * cs.length) (.int 0) := by simp [wv, u16]
theorem wv_n (cs : List Int32) : wv cs cs.length = (u16 cs).map Value.int := by simp [wv]
theorem set2 {α : Type} (A R : List α) (z1 z2 x y : α) {k : Nat} (hk : k = A.length) : ((A ++ z1 :: z2 :: R).set k x).set (k + 1) y = A ++ x :: y :: R := by
  subst hk; simp
theorem set1 {α : Type} (A R : List α) (z x : α) {k : Nat} (hk : k = A.length) : (A ++ z :: R).set k x = A ++ x :: R := by
  subst hk; simp
theorem wv_set {cs : List Int32} {i : Nat} {c : Int32} (q : cs[i]? = some c) : ((wv cs i).set (2 * i) (.int (lo8 c))).set (2 * i + 1) (.int (hi8 c)) = wv cs (i + 1) := by
  have hi : i < cs.length := (List.getElem?_eq_some_iff.mp q).1
  unfold wv
  rw [show 2 * (cs.length - i) = (2 * (cs.length - (i + 1))) + 1 + 1 by omega, List.replicate_succ, List.replicate_succ]
  rw [set2 _ _ _ _ _ _ (by rw [List.length_map, u16_len, List.length_take]; omega), take_succ_of q, u16_app]
  simp [u16]
def bv (cs : List Int32) (i : Nat) : List Value := ((cs.take i).map lo8).map Value.int ++ List.replicate (cs.length - i) (.int 0)
theorem bv_len {cs : List Int32} {i : Nat} (q : i ≤ cs.length) : (bv cs i).length = cs.length := by
  simp only [bv, List.length_append, List.length_map, List.length_take, List.length_replicate]; omega
theorem bv_0 (cs : List Int32) : bv cs 0 = List.replicate cs.length (.int 0) := by simp [bv]
theorem bv_n (cs : List Int32) : bv cs cs.length = (cs.map lo8).map Value.int := by simp [bv]
theorem bv_set {cs : List Int32} {i : Nat} {c : Int32} (q : cs[i]? = some c) : (bv cs i).set i (.int (lo8 c)) = bv cs (i + 1) := by
  have hi : i < cs.length := (List.getElem?_eq_some_iff.mp q).1
  unfold bv
  rw [show cs.length - i = (cs.length - (i + 1)) + 1 by omega, List.replicate_succ, take_succ_of q]
  rw [set1 _ _ _ _ (by simp; omega)]
  simp
theorem ushr_0 (n : Nat) : XT.ushr (Int32.ofNat n - Int32.ofNat n) (31 : Int32) = 0 := by rw [Int32.sub_self]; decide
theorem ushr_1 {n : Nat} (q : 0 < n) (r : n < 1073741824) : XT.ushr (Int32.ofNat n - Int32.ofNat (2 * n)) (31 : Int32) = 1 := by
  apply Int32.toBitVec_inj.mp
  apply BitVec.eq_of_toNat_eq
  show (((BitVec.ofNat 32 n) - (BitVec.ofNat 32 (2 * n))) >>> (((31 : Int32) &&& 31).toBitVec.toNat)).toNat = 1
  rw [show ((31 : Int32) &&& 31).toBitVec.toNat = 31 from by decide, BitVec.toNat_ushiftRight, BitVec.toNat_sub, BitVec.toNat_ofNat, BitVec.toNat_ofNat, Nat.shiftRight_eq_div_pow]
  omega
theorem gt255 {c : Int32} (h : ¬ c.toInt ≤ 255) : ¬ ¬ (255 : Int32) < c := fun z => z (by rw [Int32.lt_iff_toInt_lt, show (255 : Int32).toInt = 255 from rfl]; omega)
theorem le255 {c : Int32} (h : c.toInt ≤ 255) : ¬ (255 : Int32) < c := by rw [Int32.lt_iff_toInt_lt, show (255 : Int32).toInt = 255 from rfl]; omega
theorem pn3 : plainName "java/lang/StringUTF16" = true := by first | (simp [plainName, overriddenIn]; done) | decide +kernel
theorem pd5 : parseMethodDescriptor "([CI[BII)I" = some ⟨[.array .char, .int, .array .byte, .int, .int], some (.int)⟩ := by decide +kernel
theorem pd6 : parseMethodDescriptor "([CII)[B" = some ⟨[.array .char, .int, .int], some (.array .byte)⟩ := by decide +kernel
theorem pd7 : parseMethodDescriptor "([BI)B" = some ⟨[.array .byte, .int], some (.byte)⟩ := by decide +kernel
theorem pd8 : parseMethodDescriptor "([CIILjava/lang/Void;)V" = some ⟨[.array .char, .int, .int, .object "java/lang/Void"], none⟩ := by decide +kernel
theorem pd9 : parseMethodDescriptor "([C)V" = some ⟨[.array .char], none⟩ := by decide +kernel
def One (q : Slot) : Prop := q = .unset ∨ ∃ i, q = .val (.int i)
/-- what compress leaves: all fits, or place k does not -/
def cmQ (Z : State) (h h' : Heap) (ba : Addr) (cs : List Int32) (v : Option Value) : Prop := Keep h h' [ba] ∧ ((v = some (.int (Int32.ofNat cs.length)) ∧ (∀ c ∈ cs, c.toInt ≤ 255) ∧ Av Z h' ba .byte ((cs.map lo8).map Value.int)) ∨ ∃ (k : Nat) (cc : Int32), v = some (.int (Int32.ofNat k)) ∧ cs[k]? = some cc ∧ ¬ cc.toInt ≤ 255)
set_option maxHeartbeats 1000000 in
theorem cm_loop (K : Cx Z "java/lang/StringUTF16" jdk_52_method_21_code 7 p m c) {ca ba : Addr} {cs : List Int32} (hl : cs.length ≤ 4000) (ha : n0 ≤ ba) (hret : meth.sig.returnType = some .int) : ∀ (k i : Nat) (q6 : Slot) (T : State) (h : Heap), i + k = cs.length → One q6 → Nw Z n0 h p l e R s m args below meth c T cells slots → Av Z h ca .char (cs.map Value.int) → Av Z h ba .byte (bv cs i) → (∀ c ∈ cs.take i, c.toInt ≤ 255) →
    ∃ v T' h' g', Nw Z n0 h' p l e R s m args below meth c T' cells slots ∧ cmQ Z h h' ba cs v ∧ Ld p e below T (mkF m 3 #[.val (.ref ca), .val (.int (Int32.ofNat i)), .val (.ref ba), .val (.int (Int32.ofNat i)), .val (.int (Int32.ofNat cs.length)), .val (.int (Int32.ofNat i)), q6] []) T' g' ∧ Fn p e below m T' g' v := by
  intro k
  induction k with
  | zero =>
    intro i q6 T h hi h6 N C A hs
    have g1 : Ld p e below T (mkF m 3 #[.val (.ref ca), .val (.int (Int32.ofNat i)), .val (.ref ba), .val (.int (Int32.ofNat i)), .val (.int (Int32.ofNat cs.length)), .val (.int (Int32.ofNat i)), q6] []) T (mkF m 46 #[.val (.ref ca), .val (.int (Int32.ofNat i)), .val (.ref ba), .val (.int (Int32.ofNat i)), .val (.int (Int32.ofNat cs.length)), .val (.int (Int32.ofNat i)), q6] [(.int (Int32.ofNat cs.length))]) := goRun K N #[] [(3, .iload 5, 2), (5, .iload 4, 2), (7, .if_icmp .ge 37, 3), (44, .iload 4, 2)] [.ref 0] (P := (¬ (Int32.ofNat i) < (Int32.ofNat cs.length)) ∧ True) (by decide +kernel) rfl ⟨(by rw [n_lt (by omega) (by omega)]; omega), trivial⟩
    obtain rfl : i = cs.length := by omega
    rw [bv_n] at A
    rw [List.take_length] at hs
    exact ⟨_, T, h, _, N, ⟨Keep.refl _ _, Or.inl ⟨rfl, hs, A⟩⟩, g1, finI K N hret (by decide +kernel)⟩
  | succ k ih =>
    intro i q6 T h hi h6 N C A hs
    obtain ⟨cc, hc⟩ : ∃ cc, cs[i]? = some cc := ⟨cs[i]'(by omega), List.getElem?_eq_getElem (by omega)⟩
    have hrd : Rd Z h ca .char (Int32.ofNat i) (.int cc) := C.rd (n_ti (by omega)) (gti hc)
    have hlt : Int32.ofNat i < Int32.ofNat cs.length := (n_lt (by omega) (by omega)).mpr (by omega)
    by_cases hg : cc.toInt ≤ 255
    · rcases h6 with rfl | ⟨i6, rfl⟩
      · have g1 : Ld p e below T (mkF m 3 #[.val (.ref ca), .val (.int (Int32.ofNat i)), .val (.ref ba), .val (.int (Int32.ofNat i)), .val (.int (Int32.ofNat cs.length)), .val (.int (Int32.ofNat i)), .unset] []) T (mkF m 31 #[.val (.ref ca), .val (.int (Int32.ofNat i)), .val (.ref ba), .val (.int (Int32.ofNat i)), .val (.int (Int32.ofNat cs.length)), .val (.int (Int32.ofNat i)), .val (.int cc)] [(.int cc.toInt8.toInt32), (.int (Int32.ofNat i)), (.ref ba)]) := goRun K N #[] [(3, .iload 5, 2), (5, .iload 4, 2), (7, .if_icmp .ge 37, 3), (10, .aload_n 0, 1), (11, .iload_n 1, 1), (12, .caload, 1), (13, .istore 6, 2), (15, .iload 6, 2), (17, .sipush 255, 3), (20, .if_icmp .le 6, 3), (26, .aload_n 2, 1), (27, .iload_n 3, 1), (28, .iload 6, 2), (30, .i2b, 1)] [.null, .int cc, .ref 0] (P := ((Int32.ofNat i) < (Int32.ofNat cs.length)) ∧ (Rd Z h ca .char (Int32.ofNat i) (.int cc)) ∧ (¬ (255 : Int32) < cc) ∧ True) (by decide +kernel) rfl ⟨hlt, hrd, (le255 hg), trivial⟩
        obtain ⟨T2, h2, N2, K2, A2, g2⟩ := avStB K N A (j := Int32.ofNat i) (i := i) (x := cc.toInt8.toInt32) (n_ti (by omega)) (by rw [bv_len (by omega)]; omega) ha (pc := 31) (L := #[.val (.ref ca), .val (.int (Int32.ofNat i)), .val (.ref ba), .val (.int (Int32.ofNat i)), .val (.int (Int32.ofNat cs.length)), .val (.int (Int32.ofNat i)), .val (.int cc)]) (S := []) (by decide +kernel)
        rw [nar_lo, bv_set hc] at A2
        have g3 : Ld p e below T2 (mkF m 32 #[.val (.ref ca), .val (.int (Int32.ofNat i)), .val (.ref ba), .val (.int (Int32.ofNat i)), .val (.int (Int32.ofNat cs.length)), .val (.int (Int32.ofNat i)), .val (.int cc)] []) T2 (mkF m 3 #[.val (.ref ca), .val (.int ((Int32.ofNat i) + (1 : Int32))), .val (.ref ba), .val (.int ((Int32.ofNat i) + (1 : Int32))), .val (.int (Int32.ofNat cs.length)), .val (.int ((Int32.ofNat i) + (1 : Int32))), .val (.int cc)] []) := goRun K N2 #[] [(32, .iinc 1 1, 3), (35, .iinc 3 1, 3), (38, .iinc 5 1, 3), (41, .goto (-38), 3)] [] (P := True) (by decide +kernel) rfl trivial
        rw [n_one] at g3
        obtain ⟨v, T9, h9, g', N9, ⟨K9, q9⟩, g9, f9⟩ := ih (i + 1) _ T2 h2 (by omega) (Or.inr ⟨_, rfl⟩) N2 (C.keep K2 (ninS (C.ne A (by decide)) nin0)) A2 (fun c hc' => by
          rw [take_succ_of hc] at hc'
          rcases List.mem_append.mp hc' with z | z
          · exact hs c z
          · rw [List.mem_singleton.mp z]; exact hg)
        exact ⟨v, T9, h9, g', N9, ⟨K2.trans K9 (fun y hy => Or.inl hy), q9⟩, g1.trans (g2.trans (g3.trans g9)), f9⟩
      · have g1 : Ld p e below T (mkF m 3 #[.val (.ref ca), .val (.int (Int32.ofNat i)), .val (.ref ba), .val (.int (Int32.ofNat i)), .val (.int (Int32.ofNat cs.length)), .val (.int (Int32.ofNat i)), .val (.int i6)] []) T (mkF m 31 #[.val (.ref ca), .val (.int (Int32.ofNat i)), .val (.ref ba), .val (.int (Int32.ofNat i)), .val (.int (Int32.ofNat cs.length)), .val (.int (Int32.ofNat i)), .val (.int cc)] [(.int cc.toInt8.toInt32), (.int (Int32.ofNat i)), (.ref ba)]) := goRun K N #[] [(3, .iload 5, 2), (5, .iload 4, 2), (7, .if_icmp .ge 37, 3), (10, .aload_n 0, 1), (11, .iload_n 1, 1), (12, .caload, 1), (13, .istore 6, 2), (15, .iload 6, 2), (17, .sipush 255, 3), (20, .if_icmp .le 6, 3), (26, .aload_n 2, 1), (27, .iload_n 3, 1), (28, .iload 6, 2), (30, .i2b, 1)] [.null, .int cc, .ref 0] (P := ((Int32.ofNat i) < (Int32.ofNat cs.length)) ∧ (Rd Z h ca .char (Int32.ofNat i) (.int cc)) ∧ (¬ (255 : Int32) < cc) ∧ True) (by decide +kernel) rfl ⟨hlt, hrd, (le255 hg), trivial⟩
        obtain ⟨T2, h2, N2, K2, A2, g2⟩ := avStB K N A (j := Int32.ofNat i) (i := i) (x := cc.toInt8.toInt32) (n_ti (by omega)) (by rw [bv_len (by omega)]; omega) ha (pc := 31) (L := #[.val (.ref ca), .val (.int (Int32.ofNat i)), .val (.ref ba), .val (.int (Int32.ofNat i)), .val (.int (Int32.ofNat cs.length)), .val (.int (Int32.ofNat i)), .val (.int cc)]) (S := []) (by decide +kernel)
        rw [nar_lo, bv_set hc] at A2
        have g3 : Ld p e below T2 (mkF m 32 #[.val (.ref ca), .val (.int (Int32.ofNat i)), .val (.ref ba), .val (.int (Int32.ofNat i)), .val (.int (Int32.ofNat cs.length)), .val (.int (Int32.ofNat i)), .val (.int cc)] []) T2 (mkF m 3 #[.val (.ref ca), .val (.int ((Int32.ofNat i) + (1 : Int32))), .val (.ref ba), .val (.int ((Int32.ofNat i) + (1 : Int32))), .val (.int (Int32.ofNat cs.length)), .val (.int ((Int32.ofNat i) + (1 : Int32))), .val (.int cc)] []) := goRun K N2 #[] [(32, .iinc 1 1, 3), (35, .iinc 3 1, 3), (38, .iinc 5 1, 3), (41, .goto (-38), 3)] [] (P := True) (by decide +kernel) rfl trivial
        rw [n_one] at g3
        obtain ⟨v, T9, h9, g', N9, ⟨K9, q9⟩, g9, f9⟩ := ih (i + 1) _ T2 h2 (by omega) (Or.inr ⟨_, rfl⟩) N2 (C.keep K2 (ninS (C.ne A (by decide)) nin0)) A2 (fun c hc' => by
          rw [take_succ_of hc] at hc'
          rcases List.mem_append.mp hc' with z | z
          · exact hs c z
          · rw [List.mem_singleton.mp z]; exact hg)
        exact ⟨v, T9, h9, g', N9, ⟨K2.trans K9 (fun y hy => Or.inl hy), q9⟩, g1.trans (g2.trans (g3.trans g9)), f9⟩
    · rcases h6 with rfl | ⟨i6, rfl⟩
      · have g1 : Ld p e below T (mkF m 3 #[.val (.ref ca), .val (.int (Int32.ofNat i)), .val (.ref ba), .val (.int (Int32.ofNat i)), .val (.int (Int32.ofNat cs.length)), .val (.int (Int32.ofNat i)), .unset] []) T (mkF m 25 #[.val (.ref ca), .val (.int (Int32.ofNat i)), .val (.ref ba), .val (.int (Int32.ofNat i)), .val (.int (Int32.ofNat cs.length)), .val (.int (Int32.ofNat i)), .val (.int cc)] [(.int (Int32.ofNat i))]) := goRun K N #[] [(3, .iload 5, 2), (5, .iload 4, 2), (7, .if_icmp .ge 37, 3), (10, .aload_n 0, 1), (11, .iload_n 1, 1), (12, .caload, 1), (13, .istore 6, 2), (15, .iload 6, 2), (17, .sipush 255, 3), (20, .if_icmp .le 6, 3), (23, .iload 5, 2)] [.null, .int cc, .null] (P := ((Int32.ofNat i) < (Int32.ofNat cs.length)) ∧ (Rd Z h ca .char (Int32.ofNat i) (.int cc)) ∧ ((255 : Int32) < cc) ∧ True) (by decide +kernel) rfl ⟨hlt, hrd, (Decidable.not_not.mp (gt255 hg)), trivial⟩
        exact ⟨_, T, h, _, N, ⟨Keep.refl _ _, Or.inr ⟨i, cc, rfl, hc, hg⟩⟩, g1, finI K N hret (by decide +kernel)⟩
      · have g1 : Ld p e below T (mkF m 3 #[.val (.ref ca), .val (.int (Int32.ofNat i)), .val (.ref ba), .val (.int (Int32.ofNat i)), .val (.int (Int32.ofNat cs.length)), .val (.int (Int32.ofNat i)), .val (.int i6)] []) T (mkF m 25 #[.val (.ref ca), .val (.int (Int32.ofNat i)), .val (.ref ba), .val (.int (Int32.ofNat i)), .val (.int (Int32.ofNat cs.length)), .val (.int (Int32.ofNat i)), .val (.int cc)] [(.int (Int32.ofNat i))]) := goRun K N #[] [(3, .iload 5, 2), (5, .iload 4, 2), (7, .if_icmp .ge 37, 3), (10, .aload_n 0, 1), (11, .iload_n 1, 1), (12, .caload, 1), (13, .istore 6, 2), (15, .iload 6, 2), (17, .sipush 255, 3), (20, .if_icmp .le 6, 3), (23, .iload 5, 2)] [.null, .int cc, .null] (P := ((Int32.ofNat i) < (Int32.ofNat cs.length)) ∧ (Rd Z h ca .char (Int32.ofNat i) (.int cc)) ∧ ((255 : Int32) < cc) ∧ True) (by decide +kernel) rfl ⟨hlt, hrd, (Decidable.not_not.mp (gt255 hg)), trivial⟩
        exact ⟨_, T, h, _, N, ⟨Keep.refl _ _, Or.inr ⟨i, cc, rfl, hc, hg⟩⟩, g1, finI K N hret (by decide +kernel)⟩
set_option maxHeartbeats 1000000 in
theorem con_cm {ca ba : Addr} {cs : List Int32} (C : Av Z h ca .char (cs.map Value.int)) (A : Av Z h ba .byte (List.replicate cs.length (.int 0))) (hl : cs.length ≤ 4000) (ha : n0 ≤ ba) : Con l Z n0 ⟨"java/lang/StringUTF16", "compress", "([CI[BII)I"⟩ jdk_52_method_21_code 7 (some (.int)) [] ({ frames := 0, cells := 0, slots := 0, locals := 0 } : Room) #[.ref ca, .int (0 : Int32), .ref ba, .int (0 : Int32), .int (Int32.ofNat cs.length)] h (fun v h' => cmQ Z h h' ba cs v) := by
  refine Con.ofH (plainFor_of_name pn3) (L0 := #[.val (.ref ca), .val (.int (0 : Int32)), .val (.ref ba), .val (.int (0 : Int32)), .val (.int (Int32.ofNat cs.length)), .unset, .unset]) (fun m => by first | (simp [entryFrame, mkF, argsToLocals, Value.category]; done) | rfl) ?_
  intro p e s m below meth c T K hret hnm N hs
  have g1 : Ld p e below T (mkF m 0 #[.val (.ref ca), .val (.int (0 : Int32)), .val (.ref ba), .val (.int (0 : Int32)), .val (.int (Int32.ofNat cs.length)), .unset, .unset] []) T (mkF m 3 #[.val (.ref ca), .val (.int (0 : Int32)), .val (.ref ba), .val (.int (0 : Int32)), .val (.int (Int32.ofNat cs.length)), .val (.int (0 : Int32)), .unset] []) := goRun K N #[] [(0, .iconst 0, 1), (1, .istore 5, 2)] [] (P := True) (by decide +kernel) rfl trivial
  obtain ⟨v, T9, h9, g', N9, q9, g9, f9⟩ := cm_loop K hl ha hret cs.length 0 _ T h (by omega) (Or.inl rfl) N C (by rw [bv_0]; exact A) (fun c hc => by simp at hc)
  exact ⟨v, T9, g', h9, _, _, N9, by decide, by decide, fun q => (nomatch q), q9, g1.trans g9, f9⟩
set_option maxHeartbeats 1000000 in
theorem con_cp (hw : ∀ d ∈ tables_1, d.before a0 Z = true) {z : Int32} {fm : Value} (sf : SF Z z fm) {ca : Addr} {cs : List Int32} (C : Av Z h ca .char (cs.map Value.int)) (hl : cs.length ≤ 13) (hch : ∀ c ∈ cs, Ch c) (hlat : ∀ c ∈ cs, c.toInt ≤ 255) (O : Old Z n0 h) : Con l Z n0 ⟨"java/lang/StringUTF16", "compress", "([CII)[B"⟩ jdk_52_method_16_code 6 (some (.array .byte)) [] ({ frames := 1, cells := 1, slots := 13, locals := 18 } : Room) #[.ref ca, .int (0 : Int32), .int (Int32.ofNat cs.length)] h (fun v h' => ∃ t, v = some (.ref t) ∧ h.size ≤ t ∧ Keep h h' [] ∧ (((∀ c ∈ cs, c.toInt ≤ 255) ∧ Av Z h' t .byte ((cs.map lo8).map Value.int)))) := by
  refine Con.ofH (plainFor_of_name pn3) (L0 := #[.val (.ref ca), .val (.int (0 : Int32)), .val (.int (Int32.ofNat cs.length)), .unset, .unset, .unset]) (fun m => by first | (simp [entryFrame, mkF, argsToLocals, Value.category]; done) | rfl) ?_
  intro p e s m below meth c T K hret hnm N hs
  have O0 : Old Z n0 s.heap := by rw [hs]; exact O
  have hn1 : (Int32.ofNat cs.length).toInt = ((cs.length : Nat) : Int) := n_ti (by omega)
  have g1 : Ld p e below T (mkF m 0 #[.val (.ref ca), .val (.int (0 : Int32)), .val (.int (Int32.ofNat cs.length)), .unset, .unset, .unset] []) T (mkF m 1 #[.val (.ref ca), .val (.int (0 : Int32)), .val (.int (Int32.ofNat cs.length)), .unset, .unset, .unset] [(.int (Int32.ofNat cs.length))]) := goRun K N #[] [(0, .iload_n 2, 1)] [] (P := True) (by decide +kernel) rfl trivial
  obtain ⟨T2, h2, a2, cA2, ea2, N2, E2, A2, g2⟩ := goNewP K N (aty := .byte) (tw hw 16 rfl) (n := Int32.ofNat cs.length) (not_neg_of hn1) (cap := 13) (by rw [clamp_of hn1]; omega) (by decide) (by decide) (by decide) (pc := 1) (L := #[.val (.ref ca), .val (.int (0 : Int32)), .val (.int (Int32.ofNat cs.length)), .unset, .unset, .unset]) (S := []) (by decide +kernel)
  have A2 := Av.new A2 (not_neg_of hn1) hn1
  have ha2 : n0 ≤ a2 := ea2 ▸ N.size
  have g3 : Ld p e below T2 (mkF m 3 #[.val (.ref ca), .val (.int (0 : Int32)), .val (.int (Int32.ofNat cs.length)), .unset, .unset, .unset] [(.ref a2)]) T2 (mkF m 9 #[.val (.ref ca), .val (.int (0 : Int32)), .val (.int (Int32.ofNat cs.length)), .val (.ref a2), .unset, .unset] [(.int (Int32.ofNat cs.length)), (.int (0 : Int32)), (.ref a2), (.int (0 : Int32)), (.ref ca)]) := goRun K N2 #[] [(3, .astore_n 3, 1), (4, .aload_n 0, 1), (5, .iload_n 1, 1), (6, .aload_n 3, 1), (7, .iconst 0, 1), (8, .iload_n 2, 1)] [] (P := True) (by decide +kernel) rfl trivial
  obtain ⟨v4, T4, h4, N4, ⟨K1, q1⟩, g4⟩ := goS K N2 (tw hw 59 rfl) (tw hw 60 rfl) (tw hw 57 rfl) (tw hw 61 rfl) (con_cm (C.ext E2) A2 (by omega) ha2) (argsL := [(.ref ca), (.int (0 : Int32)), (.ref a2), (.int (0 : Int32)), (.int (Int32.ofNat cs.length))]) (W := 0) (rest := []) (by decide) (by decide) (by decide) (by decide) (by decide) (L := #[.val (.ref ca), .val (.int (0 : Int32)), .val (.int (Int32.ofNat cs.length)), .val (.ref a2), .unset, .unset]) rfl pd5 rfl (Nat.le_of_eq rfl) (pc := 9) (by decide +kernel)
  have KK := (keep_ext (ws := []) E2).trans K1 (allS (Or.inr (Nat.le_of_eq ea2.symm)) all0)
  obtain ⟨rfl, hall, A1⟩ | ⟨j, cc, rfl, hj, hgt⟩ := q1
  · have g5 : Ld p e below T4 (mkF m 12 #[.val (.ref ca), .val (.int (0 : Int32)), .val (.int (Int32.ofNat cs.length)), .val (.ref a2), .unset, .unset] [(.int (Int32.ofNat cs.length))]) T4 (mkF m 58 #[.val (.ref ca), .val (.int (0 : Int32)), .val (.int (Int32.ofNat cs.length)), .val (.ref a2), .val (.int (Int32.ofNat cs.length)), .unset] [(.ref a2)]) := goRun K N4 #[] [(12, .istore 4, 2), (14, .iload 4, 2), (16, .iload_n 2, 1), (17, .if_icmp .eq 40, 3), (57, .aload_n 3, 1)] [.ref 0] (P := ((Int32.ofNat cs.length) = (Int32.ofNat cs.length)) ∧ True) (by decide +kernel) rfl ⟨rfl, trivial⟩
    exact ⟨_, T4, _, h4, _, _, N4, by decide, by decide, fun q => (nomatch q), ⟨_, rfl, Nat.le_of_eq ea2.symm, KK, ⟨hall, A1⟩⟩, g1.trans (g2.trans (g3.trans (g4.trans g5))), finA K N4 hret rfl rfl rfl (by decide +kernel)⟩
  · exact absurd (hlat _ (List.mem_of_getElem? hj)) hgt
theorem nar8_0 : nar .byte ((0 : Int32).toInt8.toInt32) = 0 := by decide
theorem nar8_1 : nar .byte ((1 : Int32).toInt8.toInt32) = 1 := by decide
set_option maxHeartbeats 1000000 in
theorem con_cf0 {t : Addr} {vs : List Value} {n : Nat} (F : Av Z h t .byte vs) (hl : vs.length = n) (hn : n < 100000) : Con l Z n0 ⟨"java/lang/StringUTF16", "coderFromArrayLen", "([BI)B"⟩ jdk_52_method_15_code 2 (some (.byte)) [] ({ frames := 0, cells := 0, slots := 0, locals := 0 } : Room) #[.ref t, .int (Int32.ofNat n)] h (fun v h' => v = some (.int 0) ∧ h = h') := by
  refine Con.ofH (plainFor_of_name pn3) (L0 := #[.val (.ref t), .val (.int (Int32.ofNat n))]) (fun m => by first | (simp [entryFrame, mkF, argsToLocals, Value.category]; done) | rfl) ?_
  intro p e s m below meth c T K hret hnm N hs
  have g1 : Ld p e below T (mkF m 0 #[.val (.ref t), .val (.int (Int32.ofNat n))] []) T (mkF m 8 #[.val (.ref t), .val (.int (Int32.ofNat n))] [(.int ((XT.ushr ((Int32.ofNat n) - (Int32.ofNat (n))) (31 : Int32)).toInt8.toInt32))]) := goRun K N #[] [(0, .iload_n 1, 1), (1, .aload_n 0, 1), (2, .arraylength, 1), (3, .isub, 1), (4, .bipush 31, 2), (6, .iushr, 1), (7, .i2b, 1)] [.int (Int32.ofNat (n))] (P := (Ln Z h t (Int32.ofNat (n))) ∧ True) (by decide +kernel) rfl ⟨(F.ln (by rw [n_ti (by omega), hl])), trivial⟩
  rw [ushr_0] at g1
  exact ⟨_, T, _, h, _, _, N, by decide, by decide, fun q => (nomatch q), ⟨by rw [nar8_0], rfl⟩, g1, finN K N hret (Or.inr (Or.inl rfl)) (by decide +kernel)⟩
set_option maxHeartbeats 1000000 in
theorem con_s4 (hw : ∀ d ∈ tables_1, d.before a0 Z = true) {z : Int32} {fm : Value} (sf : SF Z z fm) {a ca : Addr} {cs : List Int32} (X : Exa Z h a "java/lang/String") (V : Fld Z h a "java/lang/String" "value" "[B" .null) (D : Fld Z h a "java/lang/String" "coder" "B" (.int 0)) (C : Av Z h ca .char (cs.map Value.int)) (hl : cs.length ≤ 13) (hl0 : 0 < cs.length) (hch : ∀ c ∈ cs, Ch c) (hlat : ∀ c ∈ cs, c.toInt ≤ 255) (ha : n0 ≤ a) (O : Old Z n0 h) : Con l Z n0 ⟨"java/lang/String", "<init>", "([CIILjava/lang/Void;)V"⟩ jdk_42_method_149_code 6 none [] ({ frames := 2, cells := 1, slots := 13, locals := 35 } : Room) #[.ref a, .ref ca, .int (0 : Int32), .int (Int32.ofNat cs.length), .null] h (fun v h' => v = none ∧ Keep h h' [a] ∧ ∃ t, h.size ≤ t ∧ Stv Z h' a t cs) := by
  refine Con.ofH (plainFor_of_name pn1) (L0 := #[.val (.ref a), .val (.ref ca), .val (.int (0 : Int32)), .val (.int (Int32.ofNat cs.length)), .val (.null), .unset]) (fun m => by first | (simp [entryFrame, mkF, argsToLocals, Value.category]; done) | rfl) ?_
  intro p e s m below meth c T K hret hnm N hs
  have O0 : Old Z n0 s.heap := by rw [hs]; exact O
  have s12 := slot_ne (Or.inr (tw hw 17 rfl) : Laid Z a0 "java/lang/String" "java/lang/String" "value" "[B") (Or.inr (tw hw 18 rfl) : Laid Z a0 "java/lang/String" "java/lang/String" "coder" "B") (by decide) (t := .array .byte) (t' := .byte) (by decide) (by decide)
  have g1 : Ld p e below T (mkF m 0 #[.val (.ref a), .val (.ref ca), .val (.int (0 : Int32)), .val (.int (Int32.ofNat cs.length)), .val (.null), .unset] []) T (mkF m 1 #[.val (.ref a), .val (.ref ca), .val (.int (0 : Int32)), .val (.int (Int32.ofNat cs.length)), .val (.null), .unset] [(.ref a)]) := goRun K N #[] [(0, .aload_n 0, 1)] [] (P := True) (by decide +kernel) rfl trivial
  obtain ⟨T2, N2, g2⟩ := goInit K N (tw hw 12 rfl) (tw hw 13 rfl) (tw hw 14 rfl) rfl (a := a) (pc := 1) (L := #[.val (.ref a), .val (.ref ca), .val (.int (0 : Int32)), .val (.int (Int32.ofNat cs.length)), .val (.null), .unset]) (S := []) rfl (by decide +kernel) (by decide) (W := 0) (Nat.le_of_eq rfl) (by decide)
  have g3 : Ld p e below T2 (mkF m 4 #[.val (.ref a), .val (.ref ca), .val (.int (0 : Int32)), .val (.int (Int32.ofNat cs.length)), .val (.null), .unset] []) T2 (mkF m 27 #[.val (.ref a), .val (.ref ca), .val (.int (0 : Int32)), .val (.int (Int32.ofNat cs.length)), .val (.null), .unset] []) := goRun K N2 #[] [(4, .iload_n 3, 1), (5, .ifCond .ne 22, 3)] [.ref 0] (P := (¬ (Int32.ofNat cs.length) = (0 : Int32)) ∧ True) (by decide +kernel) rfl ⟨(by show ¬ Int32.ofNat cs.length = Int32.ofNat 0; rw [n_eq (by omega) (by omega)]; omega), trivial⟩
  obtain ⟨T4, N4, g4⟩ := goSta K N2 (tw hw 37 rfl) (sf.1.ext (N2.old O0).2) (pc := 27) (L := #[.val (.ref a), .val (.ref ca), .val (.int (0 : Int32)), .val (.int (Int32.ofNat cs.length)), .val (.null), .unset]) (S := []) (by decide +kernel)
  have g5 : Ld p e below T4 (mkF m 30 #[.val (.ref a), .val (.ref ca), .val (.int (0 : Int32)), .val (.int (Int32.ofNat cs.length)), .val (.null), .unset] [(.int z)]) T4 (mkF m 36 #[.val (.ref a), .val (.ref ca), .val (.int (0 : Int32)), .val (.int (Int32.ofNat cs.length)), .val (.null), .unset] [(.int (Int32.ofNat cs.length)), (.int (0 : Int32)), (.ref ca)]) := goRun K N4 #[] [(30, .ifCond .eq 28, 3), (33, .aload_n 1, 1), (34, .iload_n 2, 1), (35, .iload_n 3, 1)] [.null] (P := (¬ z = (0 : Int32)) ∧ True) (by decide +kernel) rfl ⟨sf.2.1, trivial⟩
  obtain ⟨v6, T6, h6, N6, ⟨t, rfl, ht, K1, q1⟩, g6⟩ := goS K N4 (tw hw 55 rfl) (tw hw 56 rfl) (tw hw 57 rfl) (tw hw 58 rfl) (con_cp hw sf C hl hch hlat O) (argsL := [(.ref ca), (.int (0 : Int32)), (.int (Int32.ofNat cs.length))]) (W := 0) (rest := []) (by decide) (by decide) (by decide) (by decide) (by decide) (L := #[.val (.ref a), .val (.ref ca), .val (.int (0 : Int32)), .val (.int (Int32.ofNat cs.length)), .val (.null), .unset]) rfl pd6 rfl (Nat.le_of_eq rfl) (pc := 36) (by decide +kernel)
  have na : a ≠ t := Nat.ne_of_lt (Nat.lt_of_lt_of_le X.lt ht)
  have g7 : Ld p e below T6 (mkF m 39 #[.val (.ref a), .val (.ref ca), .val (.int (0 : Int32)), .val (.int (Int32.ofNat cs.length)), .val (.null), .unset] [(.ref t)]) T6 (mkF m 45 #[.val (.ref a), .val (.ref ca), .val (.int (0 : Int32)), .val (.int (Int32.ofNat cs.length)), .val (.null), .val (.ref t)] [(.int (Int32.ofNat cs.length)), (.ref t), (.ref a)]) := goRun K N6 #[] [(39, .astore 5, 2), (41, .aload_n 0, 1), (42, .aload 5, 2), (44, .iload_n 3, 1)] [] (P := True) (by decide +kernel) rfl trivial
  obtain ⟨hall, A1⟩ := q1
  obtain ⟨v8, T8, _, N8, ⟨rfl, rfl⟩, g8⟩ := goS K N6 (tw hw 62 rfl) (tw hw 63 rfl) (tw hw 57 rfl) (tw hw 64 rfl) (con_cf0 A1 (by simp) (by omega)) (argsL := [(.ref t), (.int (Int32.ofNat cs.length))]) (W := 1) (rest := [(.ref a)]) (by decide) (by decide) (by decide) (by decide) (by decide) (L := #[.val (.ref a), .val (.ref ca), .val (.int (0 : Int32)), .val (.int (Int32.ofNat cs.length)), .val (.null), .val (.ref t)]) rfl pd7 rfl (Nat.le_of_eq rfl) (pc := 45) (by decide +kernel)
  obtain ⟨T9, h9, N9, W9, g9⟩ := goPut K N8 (C := "java/lang/String") (tw hw 22 rfl) (D.keep K1 nin0) (X.keep K1) (Or.inr ⟨(tw hw 18 rfl), rfl, hnm⟩) (tw hw 3 rfl) (ty := .byte) (v := .int (0 : Int32)) (by decide) rfl rfl ha (pc := 48) (L := #[.val (.ref a), .val (.ref ca), .val (.int (0 : Int32)), .val (.int (Int32.ofNat cs.length)), .val (.null), .val (.ref t)]) (S := []) (by decide +kernel)
  have g10 : Ld p e below T9 (mkF m 51 #[.val (.ref a), .val (.ref ca), .val (.int (0 : Int32)), .val (.int (Int32.ofNat cs.length)), .val (.null), .val (.ref t)] []) T9 (mkF m 54 #[.val (.ref a), .val (.ref ca), .val (.int (0 : Int32)), .val (.int (Int32.ofNat cs.length)), .val (.null), .val (.ref t)] [(.ref t), (.ref a)]) := goRun K N9 #[] [(51, .aload_n 0, 1), (52, .aload 5, 2)] [] (P := True) (by decide +kernel) rfl trivial
  obtain ⟨T11, h11, N11, W11, g11⟩ := goPut K N9 (C := "java/lang/String") (tw hw 21 rfl) ((V.keep K1 nin0).other W9 (Or.inr s12)) ((X.keep K1).wr W9) (Or.inr ⟨(tw hw 17 rfl), rfl, hnm⟩) (tw hw 3 rfl) (ty := .array .byte) (v := .ref t) (by decide) rfl rfl ha (pc := 54) (L := #[.val (.ref a), .val (.ref ca), .val (.int (0 : Int32)), .val (.int (Int32.ofNat cs.length)), .val (.null), .val (.ref t)]) (S := []) (by decide +kernel)
  have KK : Keep h h11 [a] := (((Keep.refl h [a]).trans K1 all0).wr W9 (Or.inl (List.mem_cons_self ..))).wr W11 (Or.inl (List.mem_cons_self ..))
  exact ⟨none, T11, _, h11, _, _, N11, by decide, by decide, fun _ => rfl, ⟨rfl, KK, t, ht, ((X.keep K1).wr W9).wr W11, hch, by omega, ((V.keep K1 nin0).other W9 (Or.inr s12)).same W11, Or.inl ⟨((D.keep K1 nin0).same W9).other W11 (Or.inr (Ne.symm s12)), hall, (A1.other W9 (Ne.symm na)).other W11 (Ne.symm na)⟩⟩, g1.trans (g2.trans (g3.trans (g4.trans (g5.trans (g6.trans (g7.trans (g8.trans (g9.trans (g10.trans g11))))))))), finV K N11 hret (by decide +kernel)⟩
set_option maxHeartbeats 1000000 in
theorem con_si (hw : ∀ d ∈ tables_1, d.before a0 Z = true) {z : Int32} {fm : Value} (sf : SF Z z fm) {a ca : Addr} {cs : List Int32} (X : Exa Z h a "java/lang/String") (V : Fld Z h a "java/lang/String" "value" "[B" .null) (D : Fld Z h a "java/lang/String" "coder" "B" (.int 0)) (C : Av Z h ca .char (cs.map Value.int)) (hl : cs.length ≤ 13) (hl0 : 0 < cs.length) (hch : ∀ c ∈ cs, Ch c) (hlat : ∀ c ∈ cs, c.toInt ≤ 255) (ha : n0 ≤ a) (O : Old Z n0 h) : Con l Z n0 ⟨"java/lang/String", "<init>", "([C)V"⟩ jdk_42_method_3_code 2 none [] ({ frames := 3, cells := 1, slots := 13, locals := 52 } : Room) #[.ref a, .ref ca] h (fun v h' => v = none ∧ Keep h h' [a] ∧ ∃ t, h.size ≤ t ∧ Stv Z h' a t cs) := by
  refine Con.ofH (plainFor_of_name pn1) (L0 := #[.val (.ref a), .val (.ref ca)]) (fun m => by first | (simp [entryFrame, mkF, argsToLocals, Value.category]; done) | rfl) ?_
  intro p e s m below meth c T K hret hnm N hs
  have O0 : Old Z n0 s.heap := by rw [hs]; exact O
  have g1 : Ld p e below T (mkF m 0 #[.val (.ref a), .val (.ref ca)] []) T (mkF m 6 #[.val (.ref a), .val (.ref ca)] [(.null), (.int (Int32.ofNat cs.length)), (.int (0 : Int32)), (.ref ca), (.ref a)]) := goRun K N #[] [(0, .aload_n 0, 1), (1, .aload_n 1, 1), (2, .iconst 0, 1), (3, .aload_n 1, 1), (4, .arraylength, 1), (5, .aconst_null, 1)] [.int (Int32.ofNat cs.length)] (P := (Ln Z h ca (Int32.ofNat cs.length)) ∧ True) (by decide +kernel) rfl ⟨(C.ln (by rw [n_ti (by omega), List.length_map])), trivial⟩
  obtain ⟨v2, T2, h2, N2, ⟨rfl, K1, t, ht, F1⟩, g2⟩ := goSp K N (a := a) (tw hw 8 rfl) (tw hw 9 rfl) (tw hw 4 rfl) (tw hw 11 rfl) (con_s4 hw sf X V D C hl hl0 hch hlat ha O) rfl (by decide) (argsL := [(.ref ca), (.int (0 : Int32)), (.int (Int32.ofNat cs.length)), (.null)]) (W := 0) (rest := []) (by decide) (by decide) (by decide) (by decide) (L := #[.val (.ref a), .val (.ref ca)]) rfl pd8 rfl (Nat.le_of_eq rfl) (pc := 6) (by decide +kernel)
  exact ⟨none, T2, _, h2, _, _, N2, by decide, by decide, fun _ => rfl, ⟨rfl, K1, t, ht, F1⟩, g1.trans g2, finV K N2 hret (by decide +kernel)⟩
theorem pd10 : parseMethodDescriptor "()B" = some ⟨[], some (.byte)⟩ := by decide +kernel
theorem pd11 : parseMethodDescriptor "()I" = some ⟨[], some (.int)⟩ := by decide +kernel
theorem nb8_0 : nar .byte (0 : Int32) = 0 := by decide
theorem nb8_1 : nar .byte (1 : Int32) = 1 := by decide
set_option maxHeartbeats 1000000 in
theorem con_cd0 (hw : ∀ d ∈ tables_1, d.before a0 Z = true) {z : Int32} {fm : Value} (sf : SF Z z fm) {a : Addr} (F : Fld Z h a "java/lang/String" "coder" "B" (.int 0)) (O : Old Z n0 h) : Con l Z n0 ⟨"java/lang/String", "coder", "()B"⟩ jdk_42_method_152_code 1 (some (.byte)) [] ({ frames := 0, cells := 0, slots := 0, locals := 0 } : Room) #[.ref a] h (fun v h' => v = some (.int 0) ∧ h = h') := by
  refine Con.ofH (plainFor_of_name pn1) (L0 := #[.val (.ref a)]) (fun m => by first | (simp [entryFrame, mkF, argsToLocals, Value.category]; done) | rfl) ?_
  intro p e s m below meth c T K hret hnm N hs
  have O0 : Old Z n0 s.heap := by rw [hs]; exact O
  obtain ⟨T1, N1, g1⟩ := goSta K N (tw hw 37 rfl) (sf.1.ext (N.old O0).2) (pc := 0) (L := #[.val (.ref a)]) (S := []) (by decide +kernel)
  have g2 : Ld p e below T1 (mkF m 3 #[.val (.ref a)] [(.int z)]) T1 (mkF m 7 #[.val (.ref a)] [(.ref a)]) := goRun K N1 #[] [(3, .ifCond .eq 10, 3), (6, .aload_n 0, 1)] [.null] (P := (¬ z = (0 : Int32)) ∧ True) (by decide +kernel) rfl ⟨sf.2.1, trivial⟩
  obtain ⟨T3, N3, g3⟩ := goGet K N1 (tw hw 22 rfl) F (pc := 7) (L := #[.val (.ref a)]) (S := []) (by decide +kernel)
  have g4 : Ld p e below T3 (mkF m 10 #[.val (.ref a)] [(.int (0 : Int32))]) T3 (mkF m 14 #[.val (.ref a)] [(.int (0 : Int32))]) := goRun K N3 #[] [(10, .goto 4, 3)] [] (P := True) (by decide +kernel) rfl trivial
  exact ⟨_, T3, _, h, _, _, N3, by decide, by decide, fun q => (nomatch q), ⟨by rw [nb8_0], rfl⟩, g1.trans (g2.trans (g3.trans g4)), finN K N3 hret (Or.inr (Or.inl rfl)) (by decide +kernel)⟩
set_option maxHeartbeats 1000000 in
theorem con_len (hw : ∀ d ∈ tables_1, d.before a0 Z = true) {z : Int32} {fm : Value} (sf : SF Z z fm) {a t : Addr} {cs : List Int32} (F : Stv Z h a t cs) (O : Old Z n0 h) : Con l Z n0 ⟨"java/lang/String", "length", "()I"⟩ jdk_42_method_54_code 1 (some (.int)) [] ({ frames := 1, cells := 0, slots := 0, locals := 13 } : Room) #[.ref a] h (fun v h' => v = some (.int (Int32.ofNat cs.length)) ∧ h = h') := by
  refine Con.ofH (plainFor_of_name pn1) (L0 := #[.val (.ref a)]) (fun m => by first | (simp [entryFrame, mkF, argsToLocals, Value.category]; done) | rfl) ?_
  intro p e s m below meth c T K hret hnm N hs
  have O0 : Old Z n0 s.heap := by rw [hs]; exact O
  obtain ⟨X, f1, f2, f3, f4⟩ := F
  have g1 : Ld p e below T (mkF m 0 #[.val (.ref a)] []) T (mkF m 1 #[.val (.ref a)] [(.ref a)]) := goRun K N #[] [(0, .aload_n 0, 1)] [] (P := True) (by decide +kernel) rfl trivial
  obtain ⟨T2, N2, g2⟩ := goGet K N (tw hw 21 rfl) f3 (pc := 1) (L := #[.val (.ref a)]) (S := []) (by decide +kernel)
  rcases f4 with ⟨f5, f6, f7⟩ | ⟨f5, f7⟩
  · have g3 : Ld p e below T2 (mkF m 4 #[.val (.ref a)] [(.ref t)]) T2 (mkF m 6 #[.val (.ref a)] [(.ref a), (.int (Int32.ofNat cs.length))]) := goRun K N2 #[] [(4, .arraylength, 1), (5, .aload_n 0, 1)] [.int (Int32.ofNat cs.length)] (P := (Ln Z h t (Int32.ofNat cs.length)) ∧ True) (by decide +kernel) rfl ⟨(f7.ln (by rw [n_ti (by omega)]; simp)), trivial⟩
    obtain ⟨v4, T4, _, N4, ⟨rfl, rfl⟩, g4⟩ := goVi K N2 (a := a) X (tw hw 32 rfl) (tw hw 33 rfl) (tw hw 35 rfl) (tw hw 34 rfl) (tw hw 4 rfl) (tw hw 36 rfl) (con_cd0 hw sf f5 O) (argsL := []) (W := 1) (rest := [(.int (Int32.ofNat cs.length))]) (by decide) (by decide) (by decide) (by decide) (by decide) (L := #[.val (.ref a)]) rfl pd10 rfl (Nat.le_of_eq rfl) (pc := 6) (by decide +kernel)
    have g5 : Ld p e below T4 (mkF m 9 #[.val (.ref a)] [(.int (0 : Int32)), (.int (Int32.ofNat cs.length))]) T4 (mkF m 10 #[.val (.ref a)] [(.int ((Int32.ofNat cs.length) >>> ((0 : Int32) &&& 31)))]) := goRun K N4 #[] [(9, .ishr, 1)] [] (P := True) (by decide +kernel) rfl trivial
    rw [n_shr0] at g5
    exact ⟨_, T4, _, h, _, _, N4, by decide, by decide, fun q => (nomatch q), ⟨rfl, rfl⟩, g1.trans (g2.trans (g3.trans (g4.trans g5))), finI K N4 hret (by decide +kernel)⟩
  · exact False.elim f5
theorem ew0 (hw : ∀ d ∈ tables_1, d.before a0 Z = true) : EW Z a0 consts_1 := EW.cons (tw hw 15 rfl) (by decide) (EW.nil)
theorem wSt (hw : ∀ d ∈ tables_1, d.before a0 Z = true) : ∀ d ∈ Bundle.stringAtoms, d.before a0 Z = true := by
  intro d hd
  simp only [Bundle.stringAtoms, List.mem_cons, List.not_mem_nil, or_false] at hd
  rcases hd with rfl | rfl | rfl | rfl | rfl | rfl | rfl
  · exact (tw hw 4 rfl)
  · exact (tw hw 3 rfl)
  · exact (tw hw 16 rfl)
  · exact (tw hw 17 rfl)
  · exact (tw hw 18 rfl)
  · exact (tw hw 19 rfl)
  · exact (tw hw 20 rfl)
theorem av_safe {EL : List (String × Nat)} {vm : Vm} {a : Addr} {ty : FieldType} {vs : List Value} (hal : Z.vm.Alike vm) (F : Av Z h a ty vs) (q : ty ≠ .byte) : Safe Z EL vm h a := by
  obtain ⟨c, A, -⟩ := F; exact Safe.arr hal A q
set_option maxHeartbeats 1000000 in
theorem con_s4e (hw : ∀ d ∈ tables_1, d.before a0 Z = true) {a ca : Addr} (X : Exa Z h a "java/lang/String") (V : Fld Z h a "java/lang/String" "value" "[B" .null) (D : Fld Z h a "java/lang/String" "coder" "B" (.int 0)) (ha : n0 ≤ a) : ConW l Z consts_1 n0 ⟨"java/lang/String", "<init>", "([CIILjava/lang/Void;)V"⟩ jdk_42_method_149_code 6 none [] ({ frames := 1, cells := 4, slots := 8, locals := 12 } : Room) #[.ref a, .ref ca, .int (0 : Int32), .int (0 : Int32), .null] h [a] (fun v h' => v = none ∧ Keep h h' [a] ∧ ∃ t, Stv Z h' a t []) := by
  have ew := ew0 hw
  refine ConW.of pn1 (L0 := #[.val (.ref a), .val (.ref ca), .val (.int (0 : Int32)), .val (.int (0 : Int32)), .val (.null), .unset]) (fun m => by first | (simp [entryFrame, mkF, argsToLocals, Value.category]; done) | rfl) ?_
  intro p e s m below meth c T K hret hnm N hsf hs
  have s12 := slot_ne (Or.inr (tw hw 17 rfl) : Laid Z a0 "java/lang/String" "java/lang/String" "value" "[B") (Or.inr (tw hw 18 rfl) : Laid Z a0 "java/lang/String" "java/lang/String" "coder" "B") (by decide) (t := .array .byte) (t' := .byte) (by decide) (by decide)
  have sa0 := (hsf a (List.mem_cons_self ..)).2
  have hlt := (hsf a (List.mem_cons_self ..)).1
  have g1 : Ld p e below T (mkF m 0 #[.val (.ref a), .val (.ref ca), .val (.int (0 : Int32)), .val (.int (0 : Int32)), .val (.null), .unset] []) T (mkF m 1 #[.val (.ref a), .val (.ref ca), .val (.int (0 : Int32)), .val (.int (0 : Int32)), .val (.null), .unset] [(.ref a)]) := goRun K (N.nar) #[] [(0, .aload_n 0, 1)] [] (P := True) (by decide +kernel) rfl trivial
  obtain ⟨T2, N2, g2⟩ := goInit K N.nar (tw hw 12 rfl) (tw hw 13 rfl) (tw hw 14 rfl) rfl (a := a) (pc := 1) (L := #[.val (.ref a), .val (.ref ca), .val (.int (0 : Int32)), .val (.int (0 : Int32)), .val (.null), .unset]) (S := []) rfl (by decide +kernel) (by decide) (W := 0) (Nat.le_of_eq rfl) (by decide)
  obtain ⟨M2, c2⟩ := N.back ew N2 (CHr.refl N.ch)
  have g3 : Ld p e below T2 (mkF m 4 #[.val (.ref a), .val (.ref ca), .val (.int (0 : Int32)), .val (.int (0 : Int32)), .val (.null), .unset] []) T2 (mkF m 9 #[.val (.ref a), .val (.ref ca), .val (.int (0 : Int32)), .val (.int (0 : Int32)), .val (.null), .unset] [(.ref a)]) := goRun K (M2.nar) #[] [(4, .iload_n 3, 1), (5, .ifCond .ne 22, 3), (8, .aload_n 0, 1)] [.null] (P := ((0 : Int32) = (0 : Int32)) ∧ True) (by decide +kernel) rfl ⟨rfl, trivial⟩
  obtain ⟨l4, T4, h4, b4, kb4, M4, c4, E4, X4, D4, V4, A4, Z4, g4⟩ := goLdc K ew M2 (tw hw 15 rfl) (wSt hw) (by decide) (vs := []) (by decide) (z := 0) (by decide) (by decide) (pc := 9) (L := #[.val (.ref a), .val (.ref ca), .val (.int (0 : Int32)), .val (.int (0 : Int32)), .val (.null), .unset]) (S := [(.ref a)]) (by decide +kernel) (n := 0) (by decide) (by decide) (by decide) (by decide)
  have A4 := Arv.toAv A4 (by rfl)
  have sa1 := (c2.trans c4).safe hlt sa0
  obtain ⟨T5, N5, g5⟩ := goGet K M4.nar (tw hw 21 rfl) V4 (pc := 11) (L := #[.val (.ref a), .val (.ref ca), .val (.int (0 : Int32)), .val (.int (0 : Int32)), .val (.null), .unset]) (S := [(.ref a)]) (by decide +kernel)
  obtain ⟨M5, c5⟩ := M4.back ew N5 (CHr.refl M4.ch)
  have sa2 := (c2.trans (c4.trans c5)).safe hlt sa0
  obtain ⟨T6, h6, N6, W6, g6⟩ := goPut K M5.nar (C := "java/lang/String") (tw hw 21 rfl) (V.ext E4) (X.ext E4) (Or.inr ⟨(tw hw 17 rfl), rfl, hnm⟩) (tw hw 3 rfl) (ty := .array .byte) (v := .ref b4) (by decide) rfl rfl ha (pc := 14) (L := #[.val (.ref a), .val (.ref ca), .val (.int (0 : Int32)), .val (.int (0 : Int32)), .val (.null), .unset]) (S := []) (by decide +kernel)
  obtain ⟨M6, c6⟩ := M5.back ew N6 (CHr.wr W6 (sa2) M5.ch)
  have ne := Z4 a sa1
  have g7 : Ld p e below T6 (mkF m 17 #[.val (.ref a), .val (.ref ca), .val (.int (0 : Int32)), .val (.int (0 : Int32)), .val (.null), .unset] []) T6 (mkF m 18 #[.val (.ref a), .val (.ref ca), .val (.int (0 : Int32)), .val (.int (0 : Int32)), .val (.null), .unset] [(.ref a)]) := goRun K (M6.nar) #[] [(17, .aload_n 0, 1)] [] (P := True) (by decide +kernel) rfl trivial
  obtain ⟨l8, T8, h8, b8, kb8, M8, c8, E8, X8, D8, V8, A8, Z8, g8⟩ := goLdc K ew M6 (tw hw 15 rfl) (wSt hw) (by decide) (vs := []) (by decide) (z := 0) (by decide) (by decide) (pc := 18) (L := #[.val (.ref a), .val (.ref ca), .val (.int (0 : Int32)), .val (.int (0 : Int32)), .val (.null), .unset]) (S := [(.ref a)]) (by decide +kernel) (n := 0) (by decide) (by decide) (by decide) (by decide)
  have A8 := Arv.toAv A8 (by rfl)
  have sa3 := (c2.trans (c4.trans (c5.trans (c6.trans c8)))).safe hlt sa0
  obtain ⟨T9, N9, g9⟩ := goGet K M8.nar (tw hw 22 rfl) D8 (pc := 20) (L := #[.val (.ref a), .val (.ref ca), .val (.int (0 : Int32)), .val (.int (0 : Int32)), .val (.null), .unset]) (S := [(.ref a)]) (by decide +kernel)
  obtain ⟨M9, c9⟩ := M8.back ew N9 (CHr.refl M8.ch)
  have sa4 := (c2.trans (c4.trans (c5.trans (c6.trans (c8.trans c9))))).safe hlt sa0
  obtain ⟨T10, h10, N10, W10, g10⟩ := goPut K M9.nar (C := "java/lang/String") (tw hw 22 rfl) (((D.ext E4).other W6 (Or.inr (Ne.symm s12))).ext E8) (((X.ext E4).wr W6).ext E8) (Or.inr ⟨(tw hw 18 rfl), rfl, hnm⟩) (tw hw 3 rfl) (ty := .byte) (v := .int (0 : Int32)) (by decide) rfl rfl ha (pc := 23) (L := #[.val (.ref a), .val (.ref ca), .val (.int (0 : Int32)), .val (.int (0 : Int32)), .val (.null), .unset]) (S := []) (by decide +kernel)
  obtain ⟨M10, c10⟩ := M9.back ew N10 (CHr.wr W10 (sa4) M9.ch)
  have KK : Keep h h10 [a] := (((keep_ext E4).wr W6 (Or.inl (List.mem_cons_self ..))).ext E8).wr W10 (Or.inl (List.mem_cons_self ..))
  exact ⟨none, T10, _, h10, _, _, M10, by decide, by decide, fun _ => rfl, ⟨rfl, KK, b4, (((X.ext E4).wr W6).ext E8).wr W10, fun _ hc => (nomatch hc), by decide, ((((V.ext E4).same W6).ext E8).other W10 (Or.inr s12)), Or.inl ⟨(((D.ext E4).other W6 (Or.inr (Ne.symm s12))).ext E8).same W10, fun _ hc => (nomatch hc), (((A4.other W6 (Ne.symm ne.2)).ext E8).other W10 (Ne.symm ne.2))⟩⟩, (c2.trans (c4.trans (c5.trans (c6.trans (c8.trans (c9.trans c10)))))), g1.trans (g2.trans (g3.trans (g4.trans (g5.trans (g6.trans (g7.trans (g8.trans (g9.trans g10)))))))), finV K M10.nar hret (by decide +kernel)⟩
set_option maxHeartbeats 1000000 in
theorem con_sie (hw : ∀ d ∈ tables_1, d.before a0 Z = true) {a ca : Addr} (X : Exa Z h a "java/lang/String") (V : Fld Z h a "java/lang/String" "value" "[B" .null) (D : Fld Z h a "java/lang/String" "coder" "B" (.int 0)) (ha : n0 ≤ a) (C : Av Z h ca .char []) : ConW l Z consts_1 n0 ⟨"java/lang/String", "<init>", "([C)V"⟩ jdk_42_method_3_code 2 none [] ({ frames := 2, cells := 4, slots := 8, locals := 29 } : Room) #[.ref a, .ref ca] h [a] (fun v h' => v = none ∧ Keep h h' [a] ∧ ∃ t, Stv Z h' a t []) := by
  have ew := ew0 hw
  refine ConW.of pn1 (L0 := #[.val (.ref a), .val (.ref ca)]) (fun m => by first | (simp [entryFrame, mkF, argsToLocals, Value.category]; done) | rfl) ?_
  intro p e s m below meth c T K hret hnm N hsf hs
  have g1 : Ld p e below T (mkF m 0 #[.val (.ref a), .val (.ref ca)] []) T (mkF m 6 #[.val (.ref a), .val (.ref ca)] [(.null), (.int (0 : Int32)), (.int (0 : Int32)), (.ref ca), (.ref a)]) := goRun K (N.nar) #[] [(0, .aload_n 0, 1), (1, .aload_n 1, 1), (2, .iconst 0, 1), (3, .aload_n 1, 1), (4, .arraylength, 1), (5, .aconst_null, 1)] [.int (0 : Int32)] (P := (Ln Z h ca (0 : Int32)) ∧ True) (by decide +kernel) rfl ⟨(C.ln rfl), trivial⟩
  obtain ⟨v2, T2, h2, M2, c2, ⟨rfl, K1, t, F1⟩, g2⟩ := goSpW K ew N (a := a) (tw hw 8 rfl) (tw hw 9 rfl) (tw hw 4 rfl) (tw hw 11 rfl) (con_s4e hw X V D ha) hsf rfl (by decide) (argsL := [(.ref ca), (.int (0 : Int32)), (.int (0 : Int32)), (.null)]) (W := 0) (rest := []) (by decide) (by decide) (by decide) (by decide) (L := #[.val (.ref a), .val (.ref ca)]) rfl pd8 rfl (Nat.le_of_eq rfl) (pc := 6) (by decide +kernel)
  exact ⟨none, T2, _, h2, _, _, M2, by decide, by decide, fun _ => rfl, ⟨rfl, K1, t, F1⟩, (c2), g1.trans g2, finV K M2.nar hret (by decide +kernel)⟩
section OwnInt
theorem oi_add (a b : Int) : Int32.ofInt a + Int32.ofInt b = Int32.ofInt (a + b) := (Int32.ofInt_add a b).symm
theorem oi_mul (a b : Int) : Int32.ofInt a * Int32.ofInt b = Int32.ofInt (a * b) := (Int32.ofInt_mul a b).symm
theorem oi_self (c : Int32) : Int32.ofInt c.toInt = c := Int32.ofInt_toInt c
theorem oi_sub (a b : Int) : Int32.ofInt (a - b) = Int32.ofInt a - Int32.ofInt b := Int32.ofInt_sub a b
theorem oi_ti {a : Int} (h1 : -2147483648 ≤ a) (h2 : a < 2147483648) : (Int32.ofInt a).toInt = a := by
  have e : Int32.size = 4294967296 := rfl
  rw [Int32.toInt_ofInt, e]; exact Int.bmod_eq_of_le (by omega) (by omega)
theorem i_lt {a b : Int32} (h : a.toInt < b.toInt) : a < b := Int32.lt_iff_toInt_lt.mpr h
theorem i_nlt {a b : Int32} (h : b.toInt ≤ a.toInt) : ¬ a < b := fun z => by rw [Int32.lt_iff_toInt_lt] at z; omega
theorem dg_step (N : Int) (c : Int32) : Int32.ofInt N * (10 : Int32) + c - (48 : Int32) = Int32.ofInt (N * 10 + c.toInt - 48) := by
  rw [oi_sub, ← oi_add, ← oi_mul, oi_self]; rfl
theorem n_pred {n : Nat} (q : n < 2147483648) : (Int32.ofNat n - 1).toInt = n - 1 := by
  rw [Int32.toInt_sub, n_ti q, show (1 : Int32).toInt = 1 from rfl]
  apply Int.bmod_eq_of_le <;> omega
theorem n_sub1 {n : Nat} (q : 0 < n) : Int32.ofNat n - 1 = Int32.ofNat (n - 1) := by
  obtain ⟨k, rfl⟩ : ∃ k, n = k + 1 := ⟨n - 1, by omega⟩
  rw [← n_one]; simp
theorem n_subn {a b : Nat} (q : b ≤ a) : Int32.ofNat a - Int32.ofNat b = Int32.ofNat (a - b) := by
  obtain ⟨k, rfl⟩ := Nat.exists_eq_add_of_le q
  rw [Int32.ofNat_add, show b + k - b = k by omega, Int32.add_comm, Int32.add_sub_cancel]
theorem n_rem {z : Int32} {k : Nat} (hz : 0 ≤ z.toInt) (hk : 0 < k) (hk2 : k < 2147483648) : ∃ n : Nat, n < k ∧ z % Int32.ofNat k = Int32.ofNat n := by
  refine ⟨z.toInt.toNat % k, Nat.mod_lt _ hk, ?_⟩
  have hlt : z.toInt.toNat % k < k := Nat.mod_lt _ hk
  apply Int32.toInt_inj.mp
  rw [Int32.toInt_mod, n_ti hk2, n_ti (by omega), Int.tmod_eq_emod_of_nonneg hz, Int.natCast_emod, Int.toNat_of_nonneg hz]
theorem mask_nn (x : Int32) : 0 ≤ (x &&& (2147483647 : Int32)).toInt := (c_andS x 2147483647).2.2 (by decide)
theorem m255_nn (x : Int32) : 0 ≤ (x &&& (255 : Int32)).toInt := (c_andS x 255).2.2 (by decide)
end OwnInt

def digI : Int → List Int32 → Int
  | N, [] => N
  | N, c :: cs => if 48 ≤ c.toInt ∧ c.toInt ≤ 57 then digI (N * 10 + c.toInt - 48) cs else -1
theorem pd12 : parseMethodDescriptor "(II)I" = some ⟨[.int, .int], some (.int)⟩ := by decide +kernel
set_option maxHeartbeats 1000000 in
theorem con_mn (a b : Nat) (ha : a < 1000) (hb : b < 1000) : Con l Z n0 ⟨"java/lang/Math", "min", "(II)I"⟩ jdk_29_method_69_code 2 (some (.int)) [] ({ frames := 0, cells := 0, slots := 0, locals := 0 } : Room) #[.int (Int32.ofNat a), .int (Int32.ofNat b)] h (fun v h' => v = some (.int (Int32.ofNat (min a b))) ∧ h = h') := by
  refine Con.ofH (by decide +kernel) (L0 := #[.val (.int (Int32.ofNat a)), .val (.int (Int32.ofNat b))]) (fun m => by first | (simp [entryFrame, mkF, argsToLocals, Value.category]; done) | rfl) ?_
  intro p e s m below meth c T K hret hnm N hs
  by_cases q : b < a
  · have g1 : Ld p e below T (mkF m 0 #[.val (.int (Int32.ofNat a)), .val (.int (Int32.ofNat b))] []) T (mkF m 10 #[.val (.int (Int32.ofNat a)), .val (.int (Int32.ofNat b))] [(.int (Int32.ofNat b))]) := goRun K N #[] [(0, .iload_n 0, 1), (1, .iload_n 1, 1), (2, .if_icmp .gt 7, 3), (9, .iload_n 1, 1)] [.ref 0] (P := ((Int32.ofNat b) < (Int32.ofNat a)) ∧ True) (by decide +kernel) rfl ⟨((n_lt (by omega) (by omega)).mpr q), trivial⟩
    exact ⟨_, T, _, h, _, _, N, by decide, by decide, fun q => (nomatch q), ⟨by congr 3; simp [Nat.min_def]; omega, rfl⟩, g1, finI K N hret (by decide +kernel)⟩
  · have g1 : Ld p e below T (mkF m 0 #[.val (.int (Int32.ofNat a)), .val (.int (Int32.ofNat b))] []) T (mkF m 10 #[.val (.int (Int32.ofNat a)), .val (.int (Int32.ofNat b))] [(.int (Int32.ofNat a))]) := goRun K N #[] [(0, .iload_n 0, 1), (1, .iload_n 1, 1), (2, .if_icmp .gt 7, 3), (5, .iload_n 0, 1), (6, .goto 4, 3)] [.null] (P := (¬ (Int32.ofNat b) < (Int32.ofNat a)) ∧ True) (by decide +kernel) rfl ⟨(by rw [n_lt (by omega) (by omega)]; exact q), trivial⟩
    exact ⟨_, T, _, h, _, _, N, by decide, by decide, fun q => (nomatch q), ⟨by congr 3; simp [Nat.min_def]; omega, rfl⟩, g1, finI K N hret (by decide +kernel)⟩
theorem pn4 : plainName "com/example/covenantry/covenantry/IsoDate" = true := by first | (simp [plainName, overriddenIn]; done) | decide +kernel
theorem pd13 : parseMethodDescriptor "(Ljava/lang/String;II)I" = some ⟨[.object "java/lang/String", .int, .int], some (.int)⟩ := by decide +kernel
set_option maxHeartbeats 1000000 in
theorem dg_loop (hw : ∀ d ∈ tables_1, d.before a0 Z = true) {z : Int32} {fm : Value} (sf : SF Z z fm) (K : Cx Z "com/example/covenantry/covenantry/IsoDate" prog_13_method_4_code 6 p m c) {a t : Addr} {cs : List Int32} {sS : Int32} {e' : Nat} (F : Stv Z h a t cs) (he : e' ≤ cs.length) (hret : meth.sig.returnType = some .int) (hRf : 4 ≤ R.frames) (hRl : 80 ≤ R.locals) (hRc : cells ≤ R.cells) (hRs : slots ≤ R.slots) (O0 : Old Z n0 s.heap) : ∀ (k i : Nat) (NN : Int) (q5 : Slot) (T : State), i + k = e' → One q5 → Nw Z n0 h p l e R s m args below meth c T cells slots →
    ∃ T' g', Nw Z n0 h p l e R s m args below meth c T' cells slots ∧ Ld p e below T (mkF m 5 #[.val (.ref a), .val (.int sS), .val (.int (Int32.ofNat e')), .val (.int (Int32.ofInt NN)), .val (.int (Int32.ofNat i)), q5] []) T' g' ∧ Fn p e below m T' g' (some (.int (Int32.ofInt (digI NN ((cs.drop i).take k))))) := by
  have hl := F.2.2.1
  intro k
  induction k with
  | zero =>
    intro i NN q5 T hi h5 N
    have g1 : Ld p e below T (mkF m 5 #[.val (.ref a), .val (.int sS), .val (.int (Int32.ofNat e')), .val (.int (Int32.ofInt NN)), .val (.int (Int32.ofNat i)), q5] []) T (mkF m 53 #[.val (.ref a), .val (.int sS), .val (.int (Int32.ofNat e')), .val (.int (Int32.ofInt NN)), .val (.int (Int32.ofNat i)), q5] [(.int (Int32.ofInt NN))]) := goRun K N #[] [(5, .iload 4, 2), (7, .iload_n 2, 1), (8, .if_icmp .ge 44, 3), (52, .iload_n 3, 1)] [.ref 0] (P := (¬ (Int32.ofNat i) < (Int32.ofNat e')) ∧ True) (by decide +kernel) rfl ⟨(by rw [n_lt (by omega) (by omega)]; omega), trivial⟩
    exact ⟨T, _, N, g1, finI K N hret (by decide +kernel)⟩
  | succ k ih =>
    intro i NN q5 T hi h5 N
    obtain ⟨cc, hc⟩ : ∃ cc, cs[i]? = some cc := ⟨cs[i]'(by omega), List.getElem?_eq_getElem (by omega)⟩
    have hlt : Int32.ofNat i < Int32.ofNat e' := (n_lt (by omega) (by omega)).mpr (by omega)
    have hdr : (cs.drop i).take (k + 1) = cc :: (cs.drop (i + 1)).take k := by
      obtain ⟨h1, h2⟩ := List.getElem?_eq_some_iff.mp hc
      rw [List.drop_eq_getElem_cons h1, List.take_succ_cons, h2]
    rw [hdr]
    rcases h5 with rfl | ⟨i5, rfl⟩
    · have g1 : Ld p e below T (mkF m 5 #[.val (.ref a), .val (.int sS), .val (.int (Int32.ofNat e')), .val (.int (Int32.ofInt NN)), .val (.int (Int32.ofNat i)), .unset] []) T (mkF m 14 #[.val (.ref a), .val (.int sS), .val (.int (Int32.ofNat e')), .val (.int (Int32.ofInt NN)), .val (.int (Int32.ofNat i)), .unset] [(.int (Int32.ofNat i)), (.ref a)]) := goRun K N #[] [(5, .iload 4, 2), (7, .iload_n 2, 1), (8, .if_icmp .ge 44, 3), (11, .aload_n 0, 1), (12, .iload 4, 2)] [.null] (P := ((Int32.ofNat i) < (Int32.ofNat e')) ∧ True) (by decide +kernel) rfl ⟨hlt, trivial⟩
      obtain ⟨v2, T2, _, N2, ⟨rfl, rfl⟩, g2⟩ := goVi K N (a := a) F.1 (tw hw 99 rfl) (tw hw 66 rfl) (tw hw 68 rfl) (tw hw 67 rfl) (tw hw 4 rfl) (tw hw 69 rfl) (con_ca hw sf F hc (N.old O0)) (argsL := [(.int (Int32.ofNat i))]) (W := 0) (rest := []) (by decide) (Nat.le_trans (by decide) hRf) (Nat.le_trans (by decide) hRl) (by simpa using hRc) (by simpa using hRs) (L := #[.val (.ref a), .val (.int sS), .val (.int (Int32.ofNat e')), .val (.int (Int32.ofInt NN)), .val (.int (Int32.ofNat i)), .unset]) rfl pd4 rfl (Nat.le_of_eq rfl) (pc := 14) (by decide +kernel)
      by_cases q1 : 48 ≤ cc.toInt
      · by_cases q2 : cc.toInt ≤ 57
        · have g3 : Ld p e below T2 (mkF m 17 #[.val (.ref a), .val (.int sS), .val (.int (Int32.ofNat e')), .val (.int (Int32.ofInt NN)), .val (.int (Int32.ofNat i)), .unset] [(.int cc)]) T2 (mkF m 5 #[.val (.ref a), .val (.int sS), .val (.int (Int32.ofNat e')), .val (.int ((((Int32.ofInt NN) * (10 : Int32)) + cc) - (48 : Int32))), .val (.int ((Int32.ofNat i) + (1 : Int32))), .val (.int cc)] []) := goRun K N2 #[] [(17, .istore 5, 2), (19, .iload 5, 2), (21, .bipush 48, 2), (23, .if_icmp .lt 10, 3), (26, .iload 5, 2), (28, .bipush 57, 2), (30, .if_icmp .le 5, 3), (35, .iload_n 3, 1), (36, .bipush 10, 2), (38, .imul, 1), (39, .iload 5, 2), (41, .iadd, 1), (42, .bipush 48, 2), (44, .isub, 1), (45, .istore_n 3, 1), (46, .iinc 4 1, 3), (49, .goto (-44), 3)] [.null, .ref 0] (P := (¬ cc < (48 : Int32)) ∧ (¬ (57 : Int32) < cc) ∧ True) (by decide +kernel) rfl ⟨(i_nlt q1), (i_nlt q2), trivial⟩
          rw [n_one, dg_step] at g3
          obtain ⟨T9, g', N9, g9, f9⟩ := ih (i + 1) (NN * 10 + cc.toInt - 48) _ T2 (by omega) (Or.inr ⟨_, rfl⟩) N2
          refine ⟨T9, g', N9, g1.trans (g2.trans (g3.trans g9)), ?_⟩
          rw [digI, if_pos ⟨q1, q2⟩]; exact f9
        · have g3 : Ld p e below T2 (mkF m 17 #[.val (.ref a), .val (.int sS), .val (.int (Int32.ofNat e')), .val (.int (Int32.ofInt NN)), .val (.int (Int32.ofNat i)), .unset] [(.int cc)]) T2 (mkF m 34 #[.val (.ref a), .val (.int sS), .val (.int (Int32.ofNat e')), .val (.int (Int32.ofInt NN)), .val (.int (Int32.ofNat i)), .val (.int cc)] [(.int (-1 : Int32))]) := goRun K N2 #[] [(17, .istore 5, 2), (19, .iload 5, 2), (21, .bipush 48, 2), (23, .if_icmp .lt 10, 3), (26, .iload 5, 2), (28, .bipush 57, 2), (30, .if_icmp .le 5, 3), (33, .iconst (-1), 1)] [.null, .null] (P := (¬ cc < (48 : Int32)) ∧ ((57 : Int32) < cc) ∧ True) (by decide +kernel) rfl ⟨(i_nlt q1), (i_lt (by show (57 : Int) < _; omega)), trivial⟩
          refine ⟨T2, _, N2, g1.trans (g2.trans g3), ?_⟩
          rw [digI, if_neg (fun z => q2 z.2)]; exact finI K N2 hret (by decide +kernel)
      · have g3 : Ld p e below T2 (mkF m 17 #[.val (.ref a), .val (.int sS), .val (.int (Int32.ofNat e')), .val (.int (Int32.ofInt NN)), .val (.int (Int32.ofNat i)), .unset] [(.int cc)]) T2 (mkF m 34 #[.val (.ref a), .val (.int sS), .val (.int (Int32.ofNat e')), .val (.int (Int32.ofInt NN)), .val (.int (Int32.ofNat i)), .val (.int cc)] [(.int (-1 : Int32))]) := goRun K N2 #[] [(17, .istore 5, 2), (19, .iload 5, 2), (21, .bipush 48, 2), (23, .if_icmp .lt 10, 3), (33, .iconst (-1), 1)] [.ref 0] (P := (cc < (48 : Int32)) ∧ True) (by decide +kernel) rfl ⟨(i_lt (by show _ < (48 : Int); omega)), trivial⟩
        refine ⟨T2, _, N2, g1.trans (g2.trans g3), ?_⟩
        rw [digI, if_neg (fun z => q1 z.1)]; exact finI K N2 hret (by decide +kernel)
    · have g1 : Ld p e below T (mkF m 5 #[.val (.ref a), .val (.int sS), .val (.int (Int32.ofNat e')), .val (.int (Int32.ofInt NN)), .val (.int (Int32.ofNat i)), .val (.int i5)] []) T (mkF m 14 #[.val (.ref a), .val (.int sS), .val (.int (Int32.ofNat e')), .val (.int (Int32.ofInt NN)), .val (.int (Int32.ofNat i)), .val (.int i5)] [(.int (Int32.ofNat i)), (.ref a)]) := goRun K N #[] [(5, .iload 4, 2), (7, .iload_n 2, 1), (8, .if_icmp .ge 44, 3), (11, .aload_n 0, 1), (12, .iload 4, 2)] [.null] (P := ((Int32.ofNat i) < (Int32.ofNat e')) ∧ True) (by decide +kernel) rfl ⟨hlt, trivial⟩
      obtain ⟨v2, T2, _, N2, ⟨rfl, rfl⟩, g2⟩ := goVi K N (a := a) F.1 (tw hw 99 rfl) (tw hw 66 rfl) (tw hw 68 rfl) (tw hw 67 rfl) (tw hw 4 rfl) (tw hw 69 rfl) (con_ca hw sf F hc (N.old O0)) (argsL := [(.int (Int32.ofNat i))]) (W := 0) (rest := []) (by decide) (Nat.le_trans (by decide) hRf) (Nat.le_trans (by decide) hRl) (by simpa using hRc) (by simpa using hRs) (L := #[.val (.ref a), .val (.int sS), .val (.int (Int32.ofNat e')), .val (.int (Int32.ofInt NN)), .val (.int (Int32.ofNat i)), .val (.int i5)]) rfl pd4 rfl (Nat.le_of_eq rfl) (pc := 14) (by decide +kernel)
      by_cases q1 : 48 ≤ cc.toInt
      · by_cases q2 : cc.toInt ≤ 57
        · have g3 : Ld p e below T2 (mkF m 17 #[.val (.ref a), .val (.int sS), .val (.int (Int32.ofNat e')), .val (.int (Int32.ofInt NN)), .val (.int (Int32.ofNat i)), .val (.int i5)] [(.int cc)]) T2 (mkF m 5 #[.val (.ref a), .val (.int sS), .val (.int (Int32.ofNat e')), .val (.int ((((Int32.ofInt NN) * (10 : Int32)) + cc) - (48 : Int32))), .val (.int ((Int32.ofNat i) + (1 : Int32))), .val (.int cc)] []) := goRun K N2 #[] [(17, .istore 5, 2), (19, .iload 5, 2), (21, .bipush 48, 2), (23, .if_icmp .lt 10, 3), (26, .iload 5, 2), (28, .bipush 57, 2), (30, .if_icmp .le 5, 3), (35, .iload_n 3, 1), (36, .bipush 10, 2), (38, .imul, 1), (39, .iload 5, 2), (41, .iadd, 1), (42, .bipush 48, 2), (44, .isub, 1), (45, .istore_n 3, 1), (46, .iinc 4 1, 3), (49, .goto (-44), 3)] [.null, .ref 0] (P := (¬ cc < (48 : Int32)) ∧ (¬ (57 : Int32) < cc) ∧ True) (by decide +kernel) rfl ⟨(i_nlt q1), (i_nlt q2), trivial⟩
          rw [n_one, dg_step] at g3
          obtain ⟨T9, g', N9, g9, f9⟩ := ih (i + 1) (NN * 10 + cc.toInt - 48) _ T2 (by omega) (Or.inr ⟨_, rfl⟩) N2
          refine ⟨T9, g', N9, g1.trans (g2.trans (g3.trans g9)), ?_⟩
          rw [digI, if_pos ⟨q1, q2⟩]; exact f9
        · have g3 : Ld p e below T2 (mkF m 17 #[.val (.ref a), .val (.int sS), .val (.int (Int32.ofNat e')), .val (.int (Int32.ofInt NN)), .val (.int (Int32.ofNat i)), .val (.int i5)] [(.int cc)]) T2 (mkF m 34 #[.val (.ref a), .val (.int sS), .val (.int (Int32.ofNat e')), .val (.int (Int32.ofInt NN)), .val (.int (Int32.ofNat i)), .val (.int cc)] [(.int (-1 : Int32))]) := goRun K N2 #[] [(17, .istore 5, 2), (19, .iload 5, 2), (21, .bipush 48, 2), (23, .if_icmp .lt 10, 3), (26, .iload 5, 2), (28, .bipush 57, 2), (30, .if_icmp .le 5, 3), (33, .iconst (-1), 1)] [.null, .null] (P := (¬ cc < (48 : Int32)) ∧ ((57 : Int32) < cc) ∧ True) (by decide +kernel) rfl ⟨(i_nlt q1), (i_lt (by show (57 : Int) < _; omega)), trivial⟩
          refine ⟨T2, _, N2, g1.trans (g2.trans g3), ?_⟩
          rw [digI, if_neg (fun z => q2 z.2)]; exact finI K N2 hret (by decide +kernel)
      · have g3 : Ld p e below T2 (mkF m 17 #[.val (.ref a), .val (.int sS), .val (.int (Int32.ofNat e')), .val (.int (Int32.ofInt NN)), .val (.int (Int32.ofNat i)), .val (.int i5)] [(.int cc)]) T2 (mkF m 34 #[.val (.ref a), .val (.int sS), .val (.int (Int32.ofNat e')), .val (.int (Int32.ofInt NN)), .val (.int (Int32.ofNat i)), .val (.int cc)] [(.int (-1 : Int32))]) := goRun K N2 #[] [(17, .istore 5, 2), (19, .iload 5, 2), (21, .bipush 48, 2), (23, .if_icmp .lt 10, 3), (33, .iconst (-1), 1)] [.ref 0] (P := (cc < (48 : Int32)) ∧ True) (by decide +kernel) rfl ⟨(i_lt (by show _ < (48 : Int); omega)), trivial⟩
        refine ⟨T2, _, N2, g1.trans (g2.trans g3), ?_⟩
        rw [digI, if_neg (fun z => q1 z.1)]; exact finI K N2 hret (by decide +kernel)
set_option maxHeartbeats 1000000 in
theorem con_dg (hw : ∀ d ∈ tables_1, d.before a0 Z = true) {z : Int32} {fm : Value} (sf : SF Z z fm) {a t : Addr} {cs : List Int32} {s' e' : Nat} (F : Stv Z h a t cs) (he : e' ≤ cs.length) (hse : s' ≤ e') (O : Old Z n0 h) : Con l Z n0 ⟨"com/example/covenantry/covenantry/IsoDate", "digits", "(Ljava/lang/String;II)I"⟩ prog_13_method_4_code 6 (some (.int)) [] ({ frames := 4, cells := 0, slots := 0, locals := 80 } : Room) #[.ref a, .int (Int32.ofNat s'), .int (Int32.ofNat e')] h (fun v h' => v = some (.int (Int32.ofInt (digI 0 ((cs.drop s').take (e' - s'))))) ∧ h = h') := by
  refine Con.ofH (plainFor_of_name pn4) (L0 := #[.val (.ref a), .val (.int (Int32.ofNat s')), .val (.int (Int32.ofNat e')), .unset, .unset, .unset]) (fun m => by first | (simp [entryFrame, mkF, argsToLocals, Value.category]; done) | rfl) ?_
  intro p e s m below meth c T K hret hnm N hs
  have O0 : Old Z n0 s.heap := by rw [hs]; exact O
  have g1 : Ld p e below T (mkF m 0 #[.val (.ref a), .val (.int (Int32.ofNat s')), .val (.int (Int32.ofNat e')), .unset, .unset, .unset] []) T (mkF m 5 #[.val (.ref a), .val (.int (Int32.ofNat s')), .val (.int (Int32.ofNat e')), .val (.int (0 : Int32)), .val (.int (Int32.ofNat s')), .unset] []) := goRun K N #[] [(0, .iconst 0, 1), (1, .istore_n 3, 1), (2, .iload_n 1, 1), (3, .istore 4, 2)] [] (P := True) (by decide +kernel) rfl trivial
  obtain ⟨T9, g', N9, g9, f9⟩ := dg_loop hw sf K F he hret (by decide) (by decide) (by decide) (by decide) O0 (e' - s') s' 0 _ T (by omega) (Or.inl rfl) N
  exact ⟨_, T9, g', h, _, _, N9, by decide, by decide, fun q => (nomatch q), ⟨rfl, rfl⟩, g1.trans g9, f9⟩
theorem pn5 : plainName "com/example/covenantry/covenantry/FigurePlacesColumnPinLaw" = true := by first | (simp [plainName, overriddenIn]; done) | decide +kernel
theorem pd14 : parseMethodDescriptor "(IJJ)Z" = some ⟨[.int, .long, .long], some (.boolean)⟩ := by decide +kernel
theorem pd15 : parseMethodDescriptor "(JI)C" = some ⟨[.long, .int], some (.char)⟩ := by decide +kernel
theorem pd16 : parseMethodDescriptor "(C)Z" = some ⟨[.char], some (.boolean)⟩ := by decide +kernel
theorem pd17 : parseMethodDescriptor "([CIII)Z" = some ⟨[.array .char, .int, .int, .int], some (.boolean)⟩ := by decide +kernel
theorem pn6 : plainName "com/example/covenantry/covenantry/FigurePlaces" = true := by first | (simp [plainName, overriddenIn]; done) | decide +kernel
theorem pd18 : parseMethodDescriptor "(Ljava/lang/String;)J" = some ⟨[.object "java/lang/String"], some (.long)⟩ := by decide +kernel
def digB (c : Int32) : Bool := decide (48 ≤ c.toInt ∧ c.toInt ≤ 57)
def upB (c : Int32) : Bool := decide (65 ≤ c.toInt ∧ c.toInt ≤ 90)
def b2i (b : Bool) : Int32 := bif b then 1 else 0
theorem sbb (b : Bool) : some (Value.int (nar .boolean (b2i b))) = some (.int (b2i b)) := by cases b; exact sb0; exact sb1
def upAt (cs : List Int32) (i : Nat) : Bool := decide (i < cs.length) && upB (cs.getD i 0)
def atF (cs : List Int32) : Nat → Nat → Nat
  | 0, k => k
  | f + 1, k => bif upAt cs k then atF cs f (k + 1) else k
def colF (cs : List Int32) : Nat → Nat → Int64 → Int64
  | 0, _, a => a
  | f + 1, k, a => bif upAt cs k then colF cs f (k + 1) (a * 26 + (cs.getD k 0).toInt64 - 65 + 1) else a
def colV (cs : List Int32) : Int64 := if atF cs 3 0 = 0 ∨ cs.length - atF cs 3 0 = 0 ∨ 9 < cs.length - atF cs 3 0 then -1 else if digI 0 (cs.drop (atF cs 3 0)) < 1 then -1 else colF cs 3 0 0 - 1
def badB (cs : List Int32) (A i : Nat) : Bool := decide (A ≤ i) && decide (i < cs.length) && !digB (cs.getD i 0)
def nzB (cs : List Int32) (A i : Nat) : Bool := decide (A ≤ i) && decide (i < cs.length) && decide (¬ cs.getD i 0 = 48)
def orF (f : Nat → Bool) : Nat → Nat → Bool
  | 0, _ => false
  | c + 1, k => f k || orF f c (k + 1)
def expV (cs : List Int32) (A : Nat) (B Nz : Bool) : Int64 := if A = 0 ∨ cs.length - A < 1 ∨ 9 < cs.length - A ∨ B = true ∨ Nz = false then -1 else
  if A = 1 then (cs.getD 0 0 - 65).toInt64 else if A = 2 then 26 + 26 * (cs.getD 0 0 - 65).toInt64 + (cs.getD 1 0 - 65).toInt64 else 702 + 676 * (cs.getD 0 0 - 65).toInt64 + 26 * (cs.getD 1 0 - 65).toInt64 + (cs.getD 2 0 - 65).toInt64
theorem atF_le (cs : List Int32) : ∀ f k, k ≤ atF cs f k ∧ atF cs f k ≤ k + f
  | 0, k => ⟨Nat.le_refl _, Nat.le_refl _⟩
  | f + 1, k => by
    rw [atF]; cases upAt cs k
    · exact ⟨Nat.le_refl _, Nat.le_add_right ..⟩
    · have := atF_le cs f (k + 1); simp only [cond_true]; omega
theorem atF_len (cs : List Int32) : ∀ f k, k ≤ cs.length → atF cs f k ≤ cs.length
  | 0, k, h => h
  | f + 1, k, h => by
    rw [atF]; cases hu : upAt cs k
    · exact h
    · have : k < cs.length := by unfold upAt at hu; simp at hu; exact hu.1
      exact atF_len cs f (k + 1) this
theorem getD_of {cs : List Int32} {i : Nat} (h : i < cs.length) : cs[i]? = some (cs.getD i 0) := by simp [List.getD_eq_getElem?_getD, h]
/-! the plain law -/
theorem dig_bad : ∀ (l : List Int32) (N : Int), (∃ c ∈ l, digB c = false) → digI N l = -1
  | [], N, ⟨c, hc, _⟩ => (nomatch hc)
  | d :: l, N, ⟨c, hc, hb⟩ => by
    rw [digI]; split
    · rename_i hd
      rcases List.mem_cons.mp hc with rfl | hc
      · exfalso; unfold digB at hb; exact of_decide_eq_false hb hd
      · exact dig_bad l _ ⟨c, hc, hb⟩
    · rfl
theorem dig_ok : ∀ (l : List Int32) (N : Int), 0 ≤ N → (∀ c ∈ l, digB c = true) → N ≤ digI N l ∧ digI N l < (N + 1) * 10 ^ l.length ∧ (digI N l = 0 ↔ N = 0 ∧ ∀ c ∈ l, c = 48)
  | [], N, h0, _ => by simp [digI]; omega
  | d :: l, N, h0, ha => by
    have hd : 48 ≤ d.toInt ∧ d.toInt ≤ 57 := of_decide_eq_true (ha d (List.mem_cons_self ..))
    obtain ⟨a1, a2, a3⟩ := dig_ok l (N * 10 + d.toInt - 48) (by omega) (fun c hc => ha c (List.mem_cons_of_mem _ hc))
    rw [digI, if_pos hd]
    refine ⟨by omega, ?_, ?_⟩
    · refine Int.lt_of_lt_of_le a2 ?_
      rw [List.length_cons, Int.pow_succ, Int.mul_comm (10 ^ l.length) 10, ← Int.mul_assoc]
      exact Int.mul_le_mul_of_nonneg_right (by omega) (Int.pow_nonneg (by decide))
    · rw [a3]
      constructor
      · rintro ⟨h1, h2⟩
        have hN : N = 0 := by omega
        have hd2 : d.toInt = (48 : Int32).toInt := by show d.toInt = 48; omega
        exact ⟨hN, fun c hc => (List.mem_cons.mp hc).elim (fun e => e ▸ Int32.toInt_inj.mp hd2) (h2 c)⟩
      · rintro ⟨h1, h2⟩
        have : d = 48 := h2 d (List.mem_cons_self ..)
        subst this
        exact ⟨by rw [h1]; rfl, fun c hc => h2 c (List.mem_cons_of_mem _ hc)⟩
theorem orF_iff (f : Nat → Bool) : ∀ c k, orF f c k = true ↔ ∃ i, k ≤ i ∧ i < k + c ∧ f i = true
  | 0, k => by simp [orF]; omega
  | c + 1, k => by
    rw [orF, Bool.or_eq_true, orF_iff f c (k + 1)]
    constructor
    · rintro (h | ⟨i, h1, h2, h3⟩)
      · exact ⟨k, Nat.le_refl _, by omega, h⟩
      · exact ⟨i, by omega, by omega, h3⟩
    · rintro ⟨i, h1, h2, h3⟩
      rcases Nat.eq_or_lt_of_le h1 with rfl | h
      · exact Or.inl h3
      · exact Or.inr ⟨i, h, by omega, h3⟩
theorem mem_dr {cs : List Int32} {A : Nat} {c : Int32} : c ∈ cs.drop A ↔ ∃ i, A ≤ i ∧ i < cs.length ∧ cs.getD i 0 = c := by
  rw [List.mem_iff_getElem?]
  constructor
  · rintro ⟨i, hi⟩
    rw [List.getElem?_drop] at hi
    obtain ⟨h1, h2⟩ := List.getElem?_eq_some_iff.mp hi
    exact ⟨A + i, by omega, h1, by rw [List.getD_eq_getElem?_getD, hi]; rfl⟩
  · rintro ⟨i, h1, h2, rfl⟩
    exact ⟨i - A, by rw [List.getElem?_drop, show A + (i - A) = i by omega]; exact getD_of h2⟩
theorem bad_iff {cs : List Int32} {A : Nat} (hn : cs.length ≤ 13) : orF (badB cs A) 13 0 = true ↔ ∃ c ∈ cs.drop A, digB c = false := by
  rw [orF_iff]
  constructor
  · rintro ⟨i, -, -, h⟩
    simp only [badB, Bool.and_eq_true, decide_eq_true_eq, Bool.not_eq_true'] at h
    exact ⟨_, mem_dr.mpr ⟨i, h.1.1, h.1.2, rfl⟩, h.2⟩
  · rintro ⟨c, hc, hb⟩
    obtain ⟨i, h1, h2, rfl⟩ := mem_dr.mp hc
    exact ⟨i, Nat.zero_le _, by omega, by simp only [badB, h1, h2, hb]; rfl⟩
theorem nz_iff {cs : List Int32} {A : Nat} (hn : cs.length ≤ 13) : orF (nzB cs A) 13 0 = true ↔ ∃ c ∈ cs.drop A, ¬ c = 48 := by
  rw [orF_iff]
  constructor
  · rintro ⟨i, -, -, h⟩
    simp only [nzB, Bool.and_eq_true, decide_eq_true_eq] at h
    exact ⟨_, mem_dr.mpr ⟨i, h.1.1, h.1.2, rfl⟩, h.2⟩
  · rintro ⟨c, hc, hb⟩
    obtain ⟨i, h1, h2, rfl⟩ := mem_dr.mp hc
    exact ⟨i, Nat.zero_le _, by omega, by simp only [nzB, Bool.and_eq_true, decide_eq_true_eq]; exact ⟨⟨h1, h2⟩, hb⟩⟩
theorem dig_lt1 {cs : List Int32} {A : Nat} (hn : cs.length ≤ 13) : digI 0 (cs.drop A) < 1 ↔ (orF (badB cs A) 13 0 = true ∨ orF (nzB cs A) 13 0 = false) := by
  by_cases hb : ∃ c ∈ cs.drop A, digB c = false
  · rw [dig_bad _ _ hb]
    exact ⟨fun _ => Or.inl ((bad_iff hn).mpr hb), fun _ => by decide⟩
  · have hall : ∀ c ∈ cs.drop A, digB c = true := fun c hc => by
      cases q : digB c
      · exact absurd ⟨c, hc, q⟩ hb
      · rfl
    obtain ⟨a1, -, a3⟩ := dig_ok _ 0 (Int.le_refl _) hall
    have hbf : ¬ orF (badB cs A) 13 0 = true := fun q => hb ((bad_iff hn).mp q)
    constructor
    · intro h
      refine Or.inr (Bool.eq_false_iff.mpr fun q => ?_)
      obtain ⟨c, hc, hne⟩ := (nz_iff hn).mp q
      exact hne ((a3.mp (by omega)).2 c hc)
    · rintro (h | h)
      · exact absurd h hbf
      · have : digI 0 (cs.drop A) = 0 := a3.mpr ⟨rfl, fun c hc => Decidable.byContradiction fun hne => by rw [(nz_iff hn).mpr ⟨c, hc, hne⟩] at h; cases h⟩
        omega
theorem dig_rng {l : List Int32} (hl : l.length ≤ 9) : -1 ≤ digI 0 l ∧ digI 0 l < 2000000000 := by
  by_cases hb : ∃ c ∈ l, digB c = false
  · rw [dig_bad _ _ hb]; decide
  · have hall : ∀ c ∈ l, digB c = true := fun c hc => by
      cases q : digB c
      · exact absurd ⟨c, hc, q⟩ hb
      · rfl
    obtain ⟨a1, a2, -⟩ := dig_ok l 0 (Int.le_refl _) hall
    have : (10 : Int) ^ l.length ≤ 10 ^ 9 := by
      have := Nat.pow_le_pow_right (show 0 < 10 by decide) hl
      exact_mod_cast this
    have e : (10 : Int) ^ 9 = 1000000000 := by decide
    omega
theorem oj_add (a b : Int) : Int64.ofInt a + Int64.ofInt b = Int64.ofInt (a + b) := (Int64.ofInt_add a b).symm
theorem oj_mul (a b : Int) : Int64.ofInt a * Int64.ofInt b = Int64.ofInt (a * b) := (Int64.ofInt_mul a b).symm
theorem oj_sub (a b : Int) : Int64.ofInt a - Int64.ofInt b = Int64.ofInt (a - b) := (Int64.ofInt_sub a b).symm
theorem j_of (c : Int32) : c.toInt64 = Int64.ofInt c.toInt := by
  apply Int64.toInt_inj.mp
  have h1 := Int32.le_toInt c
  have h2 := Int32.toInt_lt c
  have e : Int64.size = 18446744073709551616 := rfl
  rw [Int32.toInt_toInt64, Int64.toInt_ofInt, e]
  exact (Int.bmod_eq_of_le (by omega) (by omega)).symm
theorem j_sub {c : Int32} (h : upB c = true) : (c - 65).toInt64 = Int64.ofInt (c.toInt - 65) := by
  have hd : 65 ≤ c.toInt ∧ c.toInt ≤ 90 := of_decide_eq_true h
  rw [j_of]; congr 1
  rw [Int32.toInt_sub]
  exact Int.bmod_eq_of_le (by show _ ≤ c.toInt - 65; omega) (by show c.toInt - 65 < _; omega)
theorem up_of {cs : List Int32} {i : Nat} (h : upAt cs i = true) : upB (cs.getD i 0) = true := by unfold upAt at h; simp only [Bool.and_eq_true] at h; exact h.2
theorem law_eq {cs : List Int32} (hn : cs.length ≤ 13) : colV cs = expV cs (atF cs 3 0) (orF (badB cs (atF cs 3 0)) 13 0) (orF (nzB cs (atF cs 3 0)) 13 0) := by
  have hd := dig_lt1 (cs := cs) (A := atF cs 3 0) hn
  unfold colV expV
  by_cases c1 : atF cs 3 0 = 0 ∨ cs.length - atF cs 3 0 = 0 ∨ 9 < cs.length - atF cs 3 0
  · rw [if_pos c1, if_pos (by rcases c1 with q | q | q; · exact Or.inl q
                              · exact Or.inr (Or.inl (by omega))
                              · exact Or.inr (Or.inr (Or.inl q)))]
  · rw [if_neg c1]
    by_cases c2 : digI 0 (cs.drop (atF cs 3 0)) < 1
    · rw [if_pos c2, if_pos (Or.inr (Or.inr (Or.inr (hd.mp c2))))]
    · rw [if_neg c2, if_neg (by
        rintro (q | q | q | q)
        · exact c1 (Or.inl q)
        · exact c1 (Or.inr (Or.inl (by omega)))
        · exact c1 (Or.inr (Or.inr q))
        · exact c2 (hd.mpr q))]
      have c0 : atF cs 3 0 ≠ 0 := fun q => c1 (Or.inl q)
      clear hd c1 c2
      simp only [atF, colF, Nat.reduceAdd] at c0 ⊢
      rcases Bool.eq_false_or_eq_true (upAt cs 0) with u0 | u0
      · rcases Bool.eq_false_or_eq_true (upAt cs 1) with u1 | u1
        · rcases Bool.eq_false_or_eq_true (upAt cs 2) with u2 | u2
          · simp only [u0, u1, u2, cond_true, cond_false]
            rw [if_neg (by decide), if_neg (by decide), j_sub (up_of u0), j_sub (up_of u1), j_sub (up_of u2), j_of, j_of, j_of]
            rw [show (0 : Int64) = Int64.ofInt 0 from rfl, show (26 : Int64) = Int64.ofInt 26 from rfl, show (65 : Int64) = Int64.ofInt 65 from rfl, show (1 : Int64) = Int64.ofInt 1 from rfl, show (702 : Int64) = Int64.ofInt 702 from rfl, show (676 : Int64) = Int64.ofInt 676 from rfl]
            simp only [oj_mul, oj_add, oj_sub]
            congr 1; omega
          · simp only [u0, u1, u2, cond_true, cond_false]
            rw [if_neg (by decide), if_pos trivial, j_sub (up_of u0), j_sub (up_of u1), j_of, j_of]
            rw [show (0 : Int64) = Int64.ofInt 0 from rfl, show (26 : Int64) = Int64.ofInt 26 from rfl, show (65 : Int64) = Int64.ofInt 65 from rfl, show (1 : Int64) = Int64.ofInt 1 from rfl]
            simp only [oj_mul, oj_add, oj_sub]
            congr 1; omega
        · simp only [u0, u1, cond_true, cond_false]
          rw [if_pos trivial, j_sub (up_of u0), j_of]
          rw [show (0 : Int64) = Int64.ofInt 0 from rfl, show (26 : Int64) = Int64.ofInt 26 from rfl, show (65 : Int64) = Int64.ofInt 65 from rfl, show (1 : Int64) = Int64.ofInt 1 from rfl]
          simp only [oj_mul, oj_add, oj_sub]
          congr 1; omega
      · simp only [u0, cond_false] at c0
        exact absurd rfl c0
theorem up_mk {cs : List Int32} {k : Nat} (h : k < cs.length) (u : upB (cs.getD k 0) = true) : upAt cs k = true := by unfold upAt; rw [u, decide_eq_true h]; rfl
theorem up_no {cs : List Int32} {k : Nat} (u : upB (cs.getD k 0) = false) : upAt cs k = false := by unfold upAt; rw [u, Bool.and_false]
theorem up_len {cs : List Int32} {k : Nat} (h : ¬ k < cs.length) : upAt cs k = false := by unfold upAt; rw [decide_eq_false h, Bool.false_and]
set_option maxHeartbeats 1000000 in
theorem con_up (cc : Int32) : Con l Z n0 ⟨"com/example/covenantry/covenantry/FigurePlacesColumnPinLaw", "upper", "(C)Z"⟩ method_3_code 1 (some (.boolean)) [] ({ frames := 0, cells := 0, slots := 0, locals := 0 } : Room) #[.int cc] h (fun v h' => v = some (.int (b2i (upB cc))) ∧ h = h') := by
  refine Con.ofH (plainFor_of_name pn5) (L0 := #[.val (.int cc)]) (fun m => by first | (simp [entryFrame, mkF, argsToLocals, Value.category]; done) | rfl) ?_
  intro p e s m below meth c T K hret hnm N hs
  by_cases q1 : 65 ≤ cc.toInt
  · by_cases q2 : cc.toInt ≤ 90
    · have g1 : Ld p e below T (mkF m 0 #[.val (.int cc)] []) T (mkF m 17 #[.val (.int cc)] [(.int (1 : Int32))]) := goRun K N #[] [(0, .iload_n 0, 1), (1, .bipush 65, 2), (3, .if_icmp .lt 13, 3), (6, .iload_n 0, 1), (7, .bipush 90, 2), (9, .if_icmp .gt 7, 3), (12, .iconst 1, 1), (13, .goto 4, 3)] [.null, .null] (P := (¬ cc < (65 : Int32)) ∧ (¬ (90 : Int32) < cc) ∧ True) (by decide +kernel) rfl ⟨(i_nlt q1), (i_nlt q2), trivial⟩
      exact ⟨_, T, _, h, _, _, N, by decide, by decide, fun q => (nomatch q), ⟨by rw [show upB cc = true from decide_eq_true ⟨q1, q2⟩]; exact sb1, rfl⟩, g1, finN K N hret (Or.inl rfl) (by decide +kernel)⟩
    · have g1 : Ld p e below T (mkF m 0 #[.val (.int cc)] []) T (mkF m 17 #[.val (.int cc)] [(.int (0 : Int32))]) := goRun K N #[] [(0, .iload_n 0, 1), (1, .bipush 65, 2), (3, .if_icmp .lt 13, 3), (6, .iload_n 0, 1), (7, .bipush 90, 2), (9, .if_icmp .gt 7, 3), (16, .iconst 0, 1)] [.null, .ref 0] (P := (¬ cc < (65 : Int32)) ∧ ((90 : Int32) < cc) ∧ True) (by decide +kernel) rfl ⟨(i_nlt q1), (i_lt (by show (90 : Int) < _; omega)), trivial⟩
      exact ⟨_, T, _, h, _, _, N, by decide, by decide, fun q => (nomatch q), ⟨by rw [show upB cc = false from decide_eq_false (fun z => q2 z.2)]; exact sb0, rfl⟩, g1, finN K N hret (Or.inl rfl) (by decide +kernel)⟩
  · have g1 : Ld p e below T (mkF m 0 #[.val (.int cc)] []) T (mkF m 17 #[.val (.int cc)] [(.int (0 : Int32))]) := goRun K N #[] [(0, .iload_n 0, 1), (1, .bipush 65, 2), (3, .if_icmp .lt 13, 3), (16, .iconst 0, 1)] [.ref 0] (P := (cc < (65 : Int32)) ∧ True) (by decide +kernel) rfl ⟨(i_lt (by show _ < (65 : Int); omega)), trivial⟩
    exact ⟨_, T, _, h, _, _, N, by decide, by decide, fun q => (nomatch q), ⟨by rw [show upB cc = false from decide_eq_false (fun z => q1 z.1)]; exact sb0, rfl⟩, g1, finN K N hret (Or.inl rfl) (by decide +kernel)⟩
set_option maxHeartbeats 1000000 in
theorem con_dgt (cc : Int32) : Con l Z n0 ⟨"com/example/covenantry/covenantry/FigurePlacesColumnPinLaw", "digit", "(C)Z"⟩ method_4_code 1 (some (.boolean)) [] ({ frames := 0, cells := 0, slots := 0, locals := 0 } : Room) #[.int cc] h (fun v h' => v = some (.int (b2i (digB cc))) ∧ h = h') := by
  refine Con.ofH (plainFor_of_name pn5) (L0 := #[.val (.int cc)]) (fun m => by first | (simp [entryFrame, mkF, argsToLocals, Value.category]; done) | rfl) ?_
  intro p e s m below meth c T K hret hnm N hs
  by_cases q1 : 48 ≤ cc.toInt
  · by_cases q2 : cc.toInt ≤ 57
    · have g1 : Ld p e below T (mkF m 0 #[.val (.int cc)] []) T (mkF m 17 #[.val (.int cc)] [(.int (1 : Int32))]) := goRun K N #[] [(0, .iload_n 0, 1), (1, .bipush 48, 2), (3, .if_icmp .lt 13, 3), (6, .iload_n 0, 1), (7, .bipush 57, 2), (9, .if_icmp .gt 7, 3), (12, .iconst 1, 1), (13, .goto 4, 3)] [.null, .null] (P := (¬ cc < (48 : Int32)) ∧ (¬ (57 : Int32) < cc) ∧ True) (by decide +kernel) rfl ⟨(i_nlt q1), (i_nlt q2), trivial⟩
      exact ⟨_, T, _, h, _, _, N, by decide, by decide, fun q => (nomatch q), ⟨by rw [show digB cc = true from decide_eq_true ⟨q1, q2⟩]; exact sb1, rfl⟩, g1, finN K N hret (Or.inl rfl) (by decide +kernel)⟩
    · have g1 : Ld p e below T (mkF m 0 #[.val (.int cc)] []) T (mkF m 17 #[.val (.int cc)] [(.int (0 : Int32))]) := goRun K N #[] [(0, .iload_n 0, 1), (1, .bipush 48, 2), (3, .if_icmp .lt 13, 3), (6, .iload_n 0, 1), (7, .bipush 57, 2), (9, .if_icmp .gt 7, 3), (16, .iconst 0, 1)] [.null, .ref 0] (P := (¬ cc < (48 : Int32)) ∧ ((57 : Int32) < cc) ∧ True) (by decide +kernel) rfl ⟨(i_nlt q1), (i_lt (by show (57 : Int) < _; omega)), trivial⟩
      exact ⟨_, T, _, h, _, _, N, by decide, by decide, fun q => (nomatch q), ⟨by rw [show digB cc = false from decide_eq_false (fun z => q2 z.2)]; exact sb0, rfl⟩, g1, finN K N hret (Or.inl rfl) (by decide +kernel)⟩
  · have g1 : Ld p e below T (mkF m 0 #[.val (.int cc)] []) T (mkF m 17 #[.val (.int cc)] [(.int (0 : Int32))]) := goRun K N #[] [(0, .iload_n 0, 1), (1, .bipush 48, 2), (3, .if_icmp .lt 13, 3), (16, .iconst 0, 1)] [.ref 0] (P := (cc < (48 : Int32)) ∧ True) (by decide +kernel) rfl ⟨(i_lt (by show _ < (48 : Int); omega)), trivial⟩
    exact ⟨_, T, _, h, _, _, N, by decide, by decide, fun q => (nomatch q), ⟨by rw [show digB cc = false from decide_eq_false (fun z => q1 z.1)]; exact sb0, rfl⟩, g1, finN K N hret (Or.inl rfl) (by decide +kernel)⟩
set_option maxHeartbeats 1000000 in
theorem con_bad (hw : ∀ d ∈ tables_1, d.before a0 Z = true) {ca : Addr} {cs : List Int32} (C : Av Z h ca .char (cs.map Value.int)) (hn : cs.length ≤ 13) {A i : Nat} (hA : A ≤ 3) (hi : i ≤ 12) : Con l Z n0 ⟨"com/example/covenantry/covenantry/FigurePlacesColumnPinLaw", "bad", "([CIII)Z"⟩ method_5_code 4 (some (.boolean)) [] ({ frames := 1, cells := 0, slots := 0, locals := 12 } : Room) #[.ref ca, .int (Int32.ofNat cs.length), .int (Int32.ofNat A), .int (Int32.ofNat i)] h (fun v h' => v = some (.int (b2i (badB cs A i))) ∧ h = h') := by
  refine Con.ofH (plainFor_of_name pn5) (L0 := #[.val (.ref ca), .val (.int (Int32.ofNat cs.length)), .val (.int (Int32.ofNat A)), .val (.int (Int32.ofNat i))]) (fun m => by first | (simp [entryFrame, mkF, argsToLocals, Value.category]; done) | rfl) ?_
  intro p e s m below meth c T K hret hnm N hs
  by_cases q1 : A ≤ i
  · by_cases q2 : i < cs.length
    · have g1 : Ld p e below T (mkF m 0 #[.val (.ref ca), .val (.int (Int32.ofNat cs.length)), .val (.int (Int32.ofNat A)), .val (.int (Int32.ofNat i))] []) T (mkF m 13 #[.val (.ref ca), .val (.int (Int32.ofNat cs.length)), .val (.int (Int32.ofNat A)), .val (.int (Int32.ofNat i))] [(.int (cs.getD i 0))]) := goRun K N #[] [(0, .iload_n 3, 1), (1, .iload_n 2, 1), (2, .if_icmp .lt 21, 3), (5, .iload_n 3, 1), (6, .iload_n 1, 1), (7, .if_icmp .ge 16, 3), (10, .aload_n 0, 1), (11, .iload_n 3, 1), (12, .caload, 1)] [.null, .null, .int (cs.getD i 0)] (P := (¬ (Int32.ofNat i) < (Int32.ofNat A)) ∧ ((Int32.ofNat i) < (Int32.ofNat cs.length)) ∧ (Rd Z h ca .char (Int32.ofNat i) (.int (cs.getD i 0))) ∧ True) (by decide +kernel) rfl ⟨(by rw [n_lt (by omega) (by omega)]; omega), ((n_lt (by omega) (by omega)).mpr q2), (C.rd (n_ti (by omega)) (gti (getD_of q2))), trivial⟩
      obtain ⟨v2, T2, _, N2, ⟨rfl, rfl⟩, g2⟩ := goS K N (tw hw 90 rfl) (tw hw 91 rfl) (tw hw 45 rfl) (tw hw 92 rfl) (con_dgt (cs.getD i 0)) (argsL := [(.int (cs.getD i 0))]) (W := 0) (rest := []) (by decide) (by decide) (by decide) (by decide) (by decide) (L := #[.val (.ref ca), .val (.int (Int32.ofNat cs.length)), .val (.int (Int32.ofNat A)), .val (.int (Int32.ofNat i))]) rfl pd16 rfl (Nat.le_of_eq rfl) (pc := 13) (by decide +kernel)
      cases qd : digB (cs.getD i 0)
      · rw [qd] at g2
        have g3 : Ld p e below T2 (mkF m 16 #[.val (.ref ca), .val (.int (Int32.ofNat cs.length)), .val (.int (Int32.ofNat A)), .val (.int (Int32.ofNat i))] [(.int (0 : Int32))]) T2 (mkF m 24 #[.val (.ref ca), .val (.int (Int32.ofNat cs.length)), .val (.int (Int32.ofNat A)), .val (.int (Int32.ofNat i))] [(.int (1 : Int32))]) := goRun K N2 #[] [(16, .ifCond .ne 7, 3), (19, .iconst 1, 1), (20, .goto 4, 3)] [.null] (P := ((0 : Int32) = (0 : Int32)) ∧ True) (by decide +kernel) rfl ⟨rfl, trivial⟩
        exact ⟨_, T2, _, h, _, _, N2, by decide, by decide, fun q => (nomatch q), ⟨by rw [show badB cs A i = true from by simp only [badB, q1, q2, qd]; rfl]; exact sb1, rfl⟩, g1.trans (g2.trans g3), finN K N2 hret (Or.inl rfl) (by decide +kernel)⟩
      · rw [qd] at g2
        have g3 : Ld p e below T2 (mkF m 16 #[.val (.ref ca), .val (.int (Int32.ofNat cs.length)), .val (.int (Int32.ofNat A)), .val (.int (Int32.ofNat i))] [(.int (1 : Int32))]) T2 (mkF m 24 #[.val (.ref ca), .val (.int (Int32.ofNat cs.length)), .val (.int (Int32.ofNat A)), .val (.int (Int32.ofNat i))] [(.int (0 : Int32))]) := goRun K N2 #[] [(16, .ifCond .ne 7, 3), (23, .iconst 0, 1)] [.ref 0] (P := (¬ (1 : Int32) = (0 : Int32)) ∧ True) (by decide +kernel) rfl ⟨(by decide), trivial⟩
        exact ⟨_, T2, _, h, _, _, N2, by decide, by decide, fun q => (nomatch q), ⟨by rw [show badB cs A i = false from by simp only [badB, q1, q2, qd]; rfl]; exact sb0, rfl⟩, g1.trans (g2.trans g3), finN K N2 hret (Or.inl rfl) (by decide +kernel)⟩
    · have g1 : Ld p e below T (mkF m 0 #[.val (.ref ca), .val (.int (Int32.ofNat cs.length)), .val (.int (Int32.ofNat A)), .val (.int (Int32.ofNat i))] []) T (mkF m 24 #[.val (.ref ca), .val (.int (Int32.ofNat cs.length)), .val (.int (Int32.ofNat A)), .val (.int (Int32.ofNat i))] [(.int (0 : Int32))]) := goRun K N #[] [(0, .iload_n 3, 1), (1, .iload_n 2, 1), (2, .if_icmp .lt 21, 3), (5, .iload_n 3, 1), (6, .iload_n 1, 1), (7, .if_icmp .ge 16, 3), (23, .iconst 0, 1)] [.null, .ref 0] (P := (¬ (Int32.ofNat i) < (Int32.ofNat A)) ∧ (¬ (Int32.ofNat i) < (Int32.ofNat cs.length)) ∧ True) (by decide +kernel) rfl ⟨(by rw [n_lt (by omega) (by omega)]; omega), (by rw [n_lt (by omega) (by omega)]; exact q2), trivial⟩
      exact ⟨_, T, _, h, _, _, N, by decide, by decide, fun q => (nomatch q), ⟨by rw [show badB cs A i = false from by simp only [badB, q1, q2, decide_false, Bool.and_false, Bool.false_and]]; exact sb0, rfl⟩, g1, finN K N hret (Or.inl rfl) (by decide +kernel)⟩
  · have g1 : Ld p e below T (mkF m 0 #[.val (.ref ca), .val (.int (Int32.ofNat cs.length)), .val (.int (Int32.ofNat A)), .val (.int (Int32.ofNat i))] []) T (mkF m 24 #[.val (.ref ca), .val (.int (Int32.ofNat cs.length)), .val (.int (Int32.ofNat A)), .val (.int (Int32.ofNat i))] [(.int (0 : Int32))]) := goRun K N #[] [(0, .iload_n 3, 1), (1, .iload_n 2, 1), (2, .if_icmp .lt 21, 3), (23, .iconst 0, 1)] [.ref 0] (P := ((Int32.ofNat i) < (Int32.ofNat A)) ∧ True) (by decide +kernel) rfl ⟨((n_lt (by omega) (by omega)).mpr (by omega)), trivial⟩
    exact ⟨_, T, _, h, _, _, N, by decide, by decide, fun q => (nomatch q), ⟨by rw [show badB cs A i = false from by simp only [badB, q1, decide_false, Bool.false_and]]; exact sb0, rfl⟩, g1, finN K N hret (Or.inl rfl) (by decide +kernel)⟩
set_option maxHeartbeats 1000000 in
theorem con_nz (hw : ∀ d ∈ tables_1, d.before a0 Z = true) {ca : Addr} {cs : List Int32} (C : Av Z h ca .char (cs.map Value.int)) (hn : cs.length ≤ 13) {A i : Nat} (hA : A ≤ 3) (hi : i ≤ 12) : Con l Z n0 ⟨"com/example/covenantry/covenantry/FigurePlacesColumnPinLaw", "nonzero", "([CIII)Z"⟩ method_6_code 4 (some (.boolean)) [] ({ frames := 0, cells := 0, slots := 0, locals := 0 } : Room) #[.ref ca, .int (Int32.ofNat cs.length), .int (Int32.ofNat A), .int (Int32.ofNat i)] h (fun v h' => v = some (.int (b2i (nzB cs A i))) ∧ h = h') := by
  refine Con.ofH (plainFor_of_name pn5) (L0 := #[.val (.ref ca), .val (.int (Int32.ofNat cs.length)), .val (.int (Int32.ofNat A)), .val (.int (Int32.ofNat i))]) (fun m => by first | (simp [entryFrame, mkF, argsToLocals, Value.category]; done) | rfl) ?_
  intro p e s m below meth c T K hret hnm N hs
  by_cases q1 : A ≤ i
  · by_cases q2 : i < cs.length
    · by_cases q3 : cs.getD i 0 = 48
      · have g1 : Ld p e below T (mkF m 0 #[.val (.ref ca), .val (.int (Int32.ofNat cs.length)), .val (.int (Int32.ofNat A)), .val (.int (Int32.ofNat i))] []) T (mkF m 23 #[.val (.ref ca), .val (.int (Int32.ofNat cs.length)), .val (.int (Int32.ofNat A)), .val (.int (Int32.ofNat i))] [(.int (0 : Int32))]) := goRun K N #[] [(0, .iload_n 3, 1), (1, .iload_n 2, 1), (2, .if_icmp .lt 20, 3), (5, .iload_n 3, 1), (6, .iload_n 1, 1), (7, .if_icmp .ge 15, 3), (10, .aload_n 0, 1), (11, .iload_n 3, 1), (12, .caload, 1), (13, .bipush 48, 2), (15, .if_icmp .eq 7, 3), (22, .iconst 0, 1)] [.null, .null, .int (cs.getD i 0), .ref 0] (P := (¬ (Int32.ofNat i) < (Int32.ofNat A)) ∧ ((Int32.ofNat i) < (Int32.ofNat cs.length)) ∧ (Rd Z h ca .char (Int32.ofNat i) (.int (cs.getD i 0))) ∧ ((cs.getD i 0) = (48 : Int32)) ∧ True) (by decide +kernel) rfl ⟨(by rw [n_lt (by omega) (by omega)]; omega), ((n_lt (by omega) (by omega)).mpr q2), (C.rd (n_ti (by omega)) (gti (getD_of q2))), q3, trivial⟩
        exact ⟨_, T, _, h, _, _, N, by decide, by decide, fun q => (nomatch q), ⟨by rw [show nzB cs A i = false from by simp only [nzB, q1, q2, q3]; rfl]; exact sb0, rfl⟩, g1, finN K N hret (Or.inl rfl) (by decide +kernel)⟩
      · have g1 : Ld p e below T (mkF m 0 #[.val (.ref ca), .val (.int (Int32.ofNat cs.length)), .val (.int (Int32.ofNat A)), .val (.int (Int32.ofNat i))] []) T (mkF m 23 #[.val (.ref ca), .val (.int (Int32.ofNat cs.length)), .val (.int (Int32.ofNat A)), .val (.int (Int32.ofNat i))] [(.int (1 : Int32))]) := goRun K N #[] [(0, .iload_n 3, 1), (1, .iload_n 2, 1), (2, .if_icmp .lt 20, 3), (5, .iload_n 3, 1), (6, .iload_n 1, 1), (7, .if_icmp .ge 15, 3), (10, .aload_n 0, 1), (11, .iload_n 3, 1), (12, .caload, 1), (13, .bipush 48, 2), (15, .if_icmp .eq 7, 3), (18, .iconst 1, 1), (19, .goto 4, 3)] [.null, .null, .int (cs.getD i 0), .null] (P := (¬ (Int32.ofNat i) < (Int32.ofNat A)) ∧ ((Int32.ofNat i) < (Int32.ofNat cs.length)) ∧ (Rd Z h ca .char (Int32.ofNat i) (.int (cs.getD i 0))) ∧ (¬ (cs.getD i 0) = (48 : Int32)) ∧ True) (by decide +kernel) rfl ⟨(by rw [n_lt (by omega) (by omega)]; omega), ((n_lt (by omega) (by omega)).mpr q2), (C.rd (n_ti (by omega)) (gti (getD_of q2))), q3, trivial⟩
        exact ⟨_, T, _, h, _, _, N, by decide, by decide, fun q => (nomatch q), ⟨by rw [show nzB cs A i = true from by simp only [nzB, q1, q2, q3]; rfl]; exact sb1, rfl⟩, g1, finN K N hret (Or.inl rfl) (by decide +kernel)⟩
    · have g1 : Ld p e below T (mkF m 0 #[.val (.ref ca), .val (.int (Int32.ofNat cs.length)), .val (.int (Int32.ofNat A)), .val (.int (Int32.ofNat i))] []) T (mkF m 23 #[.val (.ref ca), .val (.int (Int32.ofNat cs.length)), .val (.int (Int32.ofNat A)), .val (.int (Int32.ofNat i))] [(.int (0 : Int32))]) := goRun K N #[] [(0, .iload_n 3, 1), (1, .iload_n 2, 1), (2, .if_icmp .lt 20, 3), (5, .iload_n 3, 1), (6, .iload_n 1, 1), (7, .if_icmp .ge 15, 3), (22, .iconst 0, 1)] [.null, .ref 0] (P := (¬ (Int32.ofNat i) < (Int32.ofNat A)) ∧ (¬ (Int32.ofNat i) < (Int32.ofNat cs.length)) ∧ True) (by decide +kernel) rfl ⟨(by rw [n_lt (by omega) (by omega)]; omega), (by rw [n_lt (by omega) (by omega)]; exact q2), trivial⟩
      exact ⟨_, T, _, h, _, _, N, by decide, by decide, fun q => (nomatch q), ⟨by rw [show nzB cs A i = false from by simp only [nzB, q1, q2, decide_false, Bool.and_false, Bool.false_and]]; exact sb0, rfl⟩, g1, finN K N hret (Or.inl rfl) (by decide +kernel)⟩
  · have g1 : Ld p e below T (mkF m 0 #[.val (.ref ca), .val (.int (Int32.ofNat cs.length)), .val (.int (Int32.ofNat A)), .val (.int (Int32.ofNat i))] []) T (mkF m 23 #[.val (.ref ca), .val (.int (Int32.ofNat cs.length)), .val (.int (Int32.ofNat A)), .val (.int (Int32.ofNat i))] [(.int (0 : Int32))]) := goRun K N #[] [(0, .iload_n 3, 1), (1, .iload_n 2, 1), (2, .if_icmp .lt 20, 3), (22, .iconst 0, 1)] [.ref 0] (P := ((Int32.ofNat i) < (Int32.ofNat A)) ∧ True) (by decide +kernel) rfl ⟨((n_lt (by omega) (by omega)).mpr (by omega)), trivial⟩
    exact ⟨_, T, _, h, _, _, N, by decide, by decide, fun q => (nomatch q), ⟨by rw [show nzB cs A i = false from by simp only [nzB, q1, decide_false, Bool.false_and]]; exact sb0, rfl⟩, g1, finN K N hret (Or.inl rfl) (by decide +kernel)⟩
theorem and_le {x m : Int32} {k : Nat} (hm : m.toBitVec.toNat = k) : (x &&& m).toBitVec.toNat ≤ k := by
  rw [Int32.toBitVec_and, BitVec.toNat_and, hm]; exact Nat.and_le_right
theorem ch_small {x : Int32} (h : x.toBitVec.toNat ≤ 255) : Ch (nar .char x) ∧ (nar .char x).toInt ≤ 255 := by
  have e : nar .char x = x := toC_small (by omega)
  have e2 := nat_int (x := x) (by omega)
  rw [e]; exact ⟨⟨by omega, by omega⟩, by omega⟩
theorem rem_small {z : Int32} {k : Nat} (hz : 0 ≤ z.toInt) (hk : 0 < k) (hk2 : k < 100) (a : Nat) (ha : a ≤ 65) : (Int32.ofNat a + z % Int32.ofNat k).toBitVec.toNat ≤ 255 := by
  obtain ⟨n, hn, e⟩ := n_rem hz hk (by omega)
  rw [e, ← Int32.ofNat_add]
  show (BitVec.ofNat 32 (a + n)).toNat ≤ 255
  rw [BitVec.toNat_ofNat]; omega
theorem ushr1_nn (x : Int32) : 0 ≤ (XT.ushr x (1 : Int32)).toInt := by
  have e : (XT.ushr x (1 : Int32)).toBitVec.toNat = x.toBitVec.toNat / 2 := by
    show (x.toBitVec >>> ((1 : Int32) &&& 31).toBitVec.toNat).toNat = _
    rw [show ((1 : Int32) &&& 31).toBitVec.toNat = 1 from by decide, BitVec.toNat_ushiftRight, Nat.shiftRight_eq_div_pow]
  have := x.toBitVec.isLt
  rw [nat_int (by omega)]; omega
set_option maxHeartbeats 1000000 in
theorem con_pk (hw : ∀ d ∈ tables_1, d.before a0 Z = true) (w : Int64) (k : Int32) : Con l Z n0 ⟨"com/example/covenantry/covenantry/FigurePlacesColumnPinLaw", "pick", "(JI)C"⟩ method_2_code 5 (some (.char)) [] ({ frames := 0, cells := 0, slots := 0, locals := 0 } : Room) #[.long w, .int k] h (fun v h' => (∃ cc, v = some (.int cc) ∧ Ch cc ∧ cc.toInt ≤ 255) ∧ h = h') := by
  refine Con.ofH (plainFor_of_name pn5) (L0 := #[.val (.long w), .second, .val (.int k), .unset, .unset]) (fun m => by first | (simp [entryFrame, mkF, argsToLocals, Value.category]; done) | rfl) ?_
  intro p e s m below meth c T K hret hnm N hs
  have g1 : Ld p e below T (mkF m 0 #[.val (.long w), .second, .val (.int k), .unset, .unset] []) T (mkF m 24 #[.val (.long w), .second, .val (.int k), .val (.int (((XT.ushrL w ((9 : Int32) * k)) &&& (511 : Int64)).toInt32)), .val (.int ((((XT.ushrL w ((9 : Int32) * k)) &&& (511 : Int64)).toInt32) &&& (255 : Int32)))] [(.int ((((XT.ushrL w ((9 : Int32) * k)) &&& (511 : Int64)).toInt32) &&& (256 : Int32)))]) := goRun K N a0 [(0, .lload_n 0, 1), (1, .bipush 9, 2), (3, .iload_n 2, 1), (4, .imul, 1), (5, .lushr, 1), (6, .ldc2_w 7, 3), (9, .land, 1), (10, .l2i, 1), (11, .istore_n 3, 1), (12, .iload_n 3, 1), (13, .sipush 255, 3), (16, .iand, 1), (17, .istore 4, 2), (19, .iload_n 3, 1), (20, .sipush 256, 3), (23, .iand, 1)] [.long (511 : Int64)] (P := ((Jvm.Cond.constantLong "com/example/covenantry/covenantry/FigurePlacesColumnPinLaw" 7 (511 : Int64)).before a0 Z = true) ∧ True) (by decide +kernel) rfl ⟨(tw hw 54 rfl), trivial⟩
  generalize ((XT.ushrL w ((9 : Int32) * k)) &&& (511 : Int64)).toInt32 = bt at g1
  by_cases q : bt &&& (256 : Int32) = 0
  · have g2 : Ld p e below T (mkF m 24 #[.val (.long w), .second, .val (.int k), .val (.int bt), .val (.int (bt &&& (255 : Int32)))] [(.int (bt &&& (256 : Int32)))]) T (mkF m 30 #[.val (.long w), .second, .val (.int k), .val (.int bt), .val (.int (bt &&& (255 : Int32)))] [(.int ((bt &&& (255 : Int32)).toUInt32.toUInt16.toUInt32.toInt32))]) := goRun K N #[] [(24, .ifCond .ne 7, 3), (27, .iload 4, 2), (29, .i2c, 1)] [.null] (P := ((bt &&& (256 : Int32)) = (0 : Int32)) ∧ True) (by decide +kernel) rfl ⟨q, trivial⟩
    exact ⟨_, T, _, h, _, _, N, by decide, by decide, fun q => (nomatch q), ⟨⟨_, rfl, by rw [nar_nar]; exact ch_small (and_nat bt)⟩, rfl⟩, g1.trans g2, finN K N hret (Or.inr (Or.inr (Or.inl rfl))) (by decide +kernel)⟩
  · by_cases q2 : (bt &&& (255 : Int32)) &&& (1 : Int32) = 0
    · have g2 : Ld p e below T (mkF m 24 #[.val (.long w), .second, .val (.int k), .val (.int bt), .val (.int (bt &&& (255 : Int32)))] [(.int (bt &&& (256 : Int32)))]) T (mkF m 49 #[.val (.long w), .second, .val (.int k), .val (.int bt), .val (.int (bt &&& (255 : Int32)))] [(.int (((65 : Int32) + ((XT.ushr (bt &&& (255 : Int32)) (1 : Int32)) % (26 : Int32))).toUInt32.toUInt16.toUInt32.toInt32))]) := goRun K N #[] [(24, .ifCond .ne 7, 3), (31, .iload 4, 2), (33, .iconst 1, 1), (34, .iand, 1), (35, .ifCond .ne 15, 3), (38, .bipush 65, 2), (40, .iload 4, 2), (42, .iconst 1, 1), (43, .iushr, 1), (44, .bipush 26, 2), (46, .irem, 1), (47, .iadd, 1), (48, .i2c, 1)] [.ref 0, .null] (P := (¬ (bt &&& (256 : Int32)) = (0 : Int32)) ∧ (((bt &&& (255 : Int32)) &&& (1 : Int32)) = (0 : Int32)) ∧ ((26 : Int32) ≠ 0) ∧ True) (by decide +kernel) rfl ⟨q, q2, (by decide), trivial⟩
      exact ⟨_, T, _, h, _, _, N, by decide, by decide, fun q => (nomatch q), ⟨⟨_, rfl, by rw [nar_nar]; exact ch_small (rem_small (k := 26) (ushr1_nn _) (by decide) (by decide) 65 (by decide))⟩, rfl⟩, g1.trans g2, finN K N hret (Or.inr (Or.inr (Or.inl rfl))) (by decide +kernel)⟩
    · have g2 : Ld p e below T (mkF m 24 #[.val (.long w), .second, .val (.int k), .val (.int bt), .val (.int (bt &&& (255 : Int32)))] [(.int (bt &&& (256 : Int32)))]) T (mkF m 61 #[.val (.long w), .second, .val (.int k), .val (.int bt), .val (.int (bt &&& (255 : Int32)))] [(.int (((48 : Int32) + ((XT.ushr (bt &&& (255 : Int32)) (1 : Int32)) % (10 : Int32))).toUInt32.toUInt16.toUInt32.toInt32))]) := goRun K N #[] [(24, .ifCond .ne 7, 3), (31, .iload 4, 2), (33, .iconst 1, 1), (34, .iand, 1), (35, .ifCond .ne 15, 3), (50, .bipush 48, 2), (52, .iload 4, 2), (54, .iconst 1, 1), (55, .iushr, 1), (56, .bipush 10, 2), (58, .irem, 1), (59, .iadd, 1), (60, .i2c, 1)] [.ref 0, .ref 0] (P := (¬ (bt &&& (256 : Int32)) = (0 : Int32)) ∧ (¬ ((bt &&& (255 : Int32)) &&& (1 : Int32)) = (0 : Int32)) ∧ ((10 : Int32) ≠ 0) ∧ True) (by decide +kernel) rfl ⟨q, q2, (by decide), trivial⟩
      exact ⟨_, T, _, h, _, _, N, by decide, by decide, fun q => (nomatch q), ⟨⟨_, rfl, by rw [nar_nar]; exact ch_small (rem_small (k := 10) (ushr1_nn _) (by decide) (by decide) 48 (by decide))⟩, rfl⟩, g1.trans g2, finN K N hret (Or.inr (Or.inr (Or.inl rfl))) (by decide +kernel)⟩
set_option maxHeartbeats 1000000 in
theorem col_loop (hw : ∀ d ∈ tables_1, d.before a0 Z = true) {z : Int32} {fm : Value} (sf : SF Z z fm) (K : Cx Z "com/example/covenantry/covenantry/FigurePlaces" prog_6_method_5_code 5 p m c) {a t : Addr} {cs : List Int32} (F : Stv Z h a t cs) (hn : cs.length ≤ 13) (hRf : 4 ≤ R.frames) (hRl : 80 ≤ R.locals) (hRc : cells ≤ R.cells) (hRs : slots ≤ R.slots) (O0 : Old Z n0 s.heap) : ∀ (f k : Nat) (acc : Int64) (q4 : Slot) (T : State), k + f = 3 → One q4 → Nw Z n0 h p l e R s m args below meth c T cells slots →
    ∃ T' q4', One q4' ∧ Nw Z n0 h p l e R s m args below meth c T' cells slots ∧ Ld p e below T (mkF m 4 #[.val (.ref a), .val (.long acc), .second, .val (.int (Int32.ofNat k)), q4] []) T' (mkF m 62 #[.val (.ref a), .val (.long (colF cs f k acc)), .second, .val (.int (Int32.ofNat (atF cs f k))), q4'] []) := by
  intro f
  induction f with
  | zero =>
    intro k acc q4 T hk h4 N
    have g1 : Ld p e below T (mkF m 4 #[.val (.ref a), .val (.long acc), .second, .val (.int (Int32.ofNat k)), q4] []) T (mkF m 6 #[.val (.ref a), .val (.long acc), .second, .val (.int (Int32.ofNat k)), q4] [(.ref a), (.int (Int32.ofNat k))]) := goRun K N #[] [(4, .iload_n 3, 1), (5, .aload_n 0, 1)] [] (P := True) (by decide +kernel) rfl trivial
    obtain ⟨v2, T2, _, N2, ⟨rfl, rfl⟩, g2⟩ := goVi K N (a := a) F.1 (tw hw 27 rfl) (tw hw 28 rfl) (tw hw 30 rfl) (tw hw 29 rfl) (tw hw 4 rfl) (tw hw 31 rfl) (con_len hw sf F (N.old O0)) (argsL := []) (W := 1) (rest := [(.int (Int32.ofNat k))]) (by decide) (Nat.le_trans (by decide) hRf) (Nat.le_trans (by decide) hRl) (by simpa using hRc) (by simpa using hRs) (L := #[.val (.ref a), .val (.long acc), .second, .val (.int (Int32.ofNat k)), q4]) rfl pd11 rfl (Nat.le_of_eq rfl) (pc := 6) (by decide +kernel)
    have g3 : Ld p e below T2 (mkF m 9 #[.val (.ref a), .val (.long acc), .second, .val (.int (Int32.ofNat k)), q4] [(.int (Int32.ofNat cs.length)), (.int (Int32.ofNat k))]) T2 (mkF m 10 #[.val (.ref a), .val (.long acc), .second, .val (.int (Int32.ofNat k)), q4] [(.int (3 : Int32)), (.int (Int32.ofNat cs.length)), (.int (Int32.ofNat k))]) := goRun K N2 #[] [(9, .iconst 3, 1)] [] (P := True) (by decide +kernel) rfl trivial
    obtain ⟨v4, T4, _, N4, ⟨rfl, rfl⟩, g4⟩ := goS K N2 (tw hw 38 rfl) (tw hw 39 rfl) (tw hw 40 rfl) (tw hw 41 rfl) (con_mn cs.length 3 (by omega) (by decide)) (argsL := [(.int (Int32.ofNat cs.length)), (.int (3 : Int32))]) (W := 1) (rest := [(.int (Int32.ofNat k))]) (by decide) (Nat.le_trans (by decide) hRf) (Nat.le_trans (by decide) hRl) (by simpa using hRc) (by simpa using hRs) (L := #[.val (.ref a), .val (.long acc), .second, .val (.int (Int32.ofNat k)), q4]) rfl pd12 rfl (Nat.le_of_eq rfl) (pc := 10) (by decide +kernel)
    have g5 : Ld p e below T4 (mkF m 13 #[.val (.ref a), .val (.long acc), .second, .val (.int (Int32.ofNat k)), q4] [(.int (Int32.ofNat (min cs.length 3))), (.int (Int32.ofNat k))]) T4 (mkF m 62 #[.val (.ref a), .val (.long acc), .second, .val (.int (Int32.ofNat k)), q4] []) := goRun K N4 #[] [(13, .if_icmp .ge 49, 3)] [.ref 0] (P := (¬ (Int32.ofNat k) < (Int32.ofNat (min cs.length 3))) ∧ True) (by decide +kernel) rfl ⟨(by rw [n_lt (by omega) (by omega)]; omega), trivial⟩
    exact ⟨T4, _, h4, N4, g1.trans (g2.trans (g3.trans (g4.trans g5)))⟩
  | succ f ih =>
    intro k acc q4 T hk h4 N
    have g1 : Ld p e below T (mkF m 4 #[.val (.ref a), .val (.long acc), .second, .val (.int (Int32.ofNat k)), q4] []) T (mkF m 6 #[.val (.ref a), .val (.long acc), .second, .val (.int (Int32.ofNat k)), q4] [(.ref a), (.int (Int32.ofNat k))]) := goRun K N #[] [(4, .iload_n 3, 1), (5, .aload_n 0, 1)] [] (P := True) (by decide +kernel) rfl trivial
    obtain ⟨v2, T2, _, N2, ⟨rfl, rfl⟩, g2⟩ := goVi K N (a := a) F.1 (tw hw 27 rfl) (tw hw 28 rfl) (tw hw 30 rfl) (tw hw 29 rfl) (tw hw 4 rfl) (tw hw 31 rfl) (con_len hw sf F (N.old O0)) (argsL := []) (W := 1) (rest := [(.int (Int32.ofNat k))]) (by decide) (Nat.le_trans (by decide) hRf) (Nat.le_trans (by decide) hRl) (by simpa using hRc) (by simpa using hRs) (L := #[.val (.ref a), .val (.long acc), .second, .val (.int (Int32.ofNat k)), q4]) rfl pd11 rfl (Nat.le_of_eq rfl) (pc := 6) (by decide +kernel)
    have g3 : Ld p e below T2 (mkF m 9 #[.val (.ref a), .val (.long acc), .second, .val (.int (Int32.ofNat k)), q4] [(.int (Int32.ofNat cs.length)), (.int (Int32.ofNat k))]) T2 (mkF m 10 #[.val (.ref a), .val (.long acc), .second, .val (.int (Int32.ofNat k)), q4] [(.int (3 : Int32)), (.int (Int32.ofNat cs.length)), (.int (Int32.ofNat k))]) := goRun K N2 #[] [(9, .iconst 3, 1)] [] (P := True) (by decide +kernel) rfl trivial
    obtain ⟨v4, T4, _, N4, ⟨rfl, rfl⟩, g4⟩ := goS K N2 (tw hw 38 rfl) (tw hw 39 rfl) (tw hw 40 rfl) (tw hw 41 rfl) (con_mn cs.length 3 (by omega) (by decide)) (argsL := [(.int (Int32.ofNat cs.length)), (.int (3 : Int32))]) (W := 1) (rest := [(.int (Int32.ofNat k))]) (by decide) (Nat.le_trans (by decide) hRf) (Nat.le_trans (by decide) hRl) (by simpa using hRc) (by simpa using hRs) (L := #[.val (.ref a), .val (.long acc), .second, .val (.int (Int32.ofNat k)), q4]) rfl pd12 rfl (Nat.le_of_eq rfl) (pc := 10) (by decide +kernel)
    by_cases hkl : k < cs.length
    · have g5 : Ld p e below T4 (mkF m 13 #[.val (.ref a), .val (.long acc), .second, .val (.int (Int32.ofNat k)), q4] [(.int (Int32.ofNat (min cs.length 3))), (.int (Int32.ofNat k))]) T4 (mkF m 18 #[.val (.ref a), .val (.long acc), .second, .val (.int (Int32.ofNat k)), q4] [(.int (Int32.ofNat k)), (.ref a)]) := goRun K N4 #[] [(13, .if_icmp .ge 49, 3), (16, .aload_n 0, 1), (17, .iload_n 3, 1)] [.null] (P := ((Int32.ofNat k) < (Int32.ofNat (min cs.length 3))) ∧ True) (by decide +kernel) rfl ⟨((n_lt (by omega) (by omega)).mpr (by omega)), trivial⟩
      obtain ⟨v6, T6, _, N6, ⟨rfl, rfl⟩, g6⟩ := goVi K N4 (a := a) F.1 (tw hw 65 rfl) (tw hw 66 rfl) (tw hw 68 rfl) (tw hw 67 rfl) (tw hw 4 rfl) (tw hw 69 rfl) (con_ca hw sf F (getD_of hkl) (N.old O0)) (argsL := [(.int (Int32.ofNat k))]) (W := 0) (rest := []) (by decide) (Nat.le_trans (by decide) hRf) (Nat.le_trans (by decide) hRl) (by simpa using hRc) (by simpa using hRs) (L := #[.val (.ref a), .val (.long acc), .second, .val (.int (Int32.ofNat k)), q4]) rfl pd4 rfl (Nat.le_of_eq rfl) (pc := 18) (by decide +kernel)
      rcases h4 with rfl | ⟨i4, rfl⟩
      · by_cases q1 : 65 ≤ (cs.getD k 0).toInt
        · by_cases q2 : (cs.getD k 0).toInt ≤ 90
          · have hu : upAt cs k = true := up_mk hkl (decide_eq_true ⟨q1, q2⟩)
            have g7 : Ld p e below T6 (mkF m 21 #[.val (.ref a), .val (.long acc), .second, .val (.int (Int32.ofNat k)), .unset] [(.int (cs.getD k 0))]) T6 (mkF m 4 #[.val (.ref a), .val (.long ((((acc * (26 : Int64)) + ((cs.getD k 0).toInt64)) - (65 : Int64)) + (1 : Int64))), .second, .val (.int ((Int32.ofNat k) + (1 : Int32))), .val (.int (cs.getD k 0))] []) := goRun K N6 a0 [(21, .istore 4, 2), (23, .iload 4, 2), (25, .bipush 65, 2), (27, .if_icmp .lt 35, 3), (30, .iload 4, 2), (32, .bipush 90, 2), (34, .if_icmp .le 6, 3), (40, .lload_n 1, 1), (41, .ldc2_w 104, 3), (44, .lmul, 1), (45, .iload 4, 2), (47, .i2l, 1), (48, .ladd, 1), (49, .ldc2_w 106, 3), (52, .lsub, 1), (53, .lconst 1, 1), (54, .ladd, 1), (55, .lstore_n 1, 1), (56, .iinc 3 1, 3), (59, .goto (-55), 3)] [.null, .ref 0, .long (26 : Int64), .long (65 : Int64)] (P := (¬ (cs.getD k 0) < (65 : Int32)) ∧ (¬ (90 : Int32) < (cs.getD k 0)) ∧ ((Jvm.Cond.constantLong "com/example/covenantry/covenantry/FigurePlaces" 104 (26 : Int64)).before a0 Z = true) ∧ ((Jvm.Cond.constantLong "com/example/covenantry/covenantry/FigurePlaces" 106 (65 : Int64)).before a0 Z = true) ∧ True) (by decide +kernel) rfl ⟨(i_nlt q1), (i_nlt q2), (tw hw 93 rfl), (tw hw 94 rfl), trivial⟩
            rw [n_one] at g7
            obtain ⟨T9, q9, hq9, N9, g9⟩ := ih (k + 1) _ _ T6 (by omega) (Or.inr ⟨_, rfl⟩) N6
            rw [atF, colF, hu]
            exact ⟨T9, q9, hq9, N9, g1.trans (g2.trans (g3.trans (g4.trans (g5.trans (g6.trans (g7.trans g9))))))⟩
          · have hu : upAt cs k = false := up_no (decide_eq_false (fun z => q2 z.2))
            have g7 : Ld p e below T6 (mkF m 21 #[.val (.ref a), .val (.long acc), .second, .val (.int (Int32.ofNat k)), .unset] [(.int (cs.getD k 0))]) T6 (mkF m 62 #[.val (.ref a), .val (.long acc), .second, .val (.int (Int32.ofNat k)), .val (.int (cs.getD k 0))] []) := goRun K N6 #[] [(21, .istore 4, 2), (23, .iload 4, 2), (25, .bipush 65, 2), (27, .if_icmp .lt 35, 3), (30, .iload 4, 2), (32, .bipush 90, 2), (34, .if_icmp .le 6, 3), (37, .goto 25, 3)] [.null, .null] (P := (¬ (cs.getD k 0) < (65 : Int32)) ∧ ((90 : Int32) < (cs.getD k 0)) ∧ True) (by decide +kernel) rfl ⟨(i_nlt q1), (i_lt (by show (90 : Int) < _; omega)), trivial⟩
            rw [atF, colF, hu]
            exact ⟨T6, _, Or.inr ⟨_, rfl⟩, N6, g1.trans (g2.trans (g3.trans (g4.trans (g5.trans (g6.trans g7)))))⟩
        · have hu : upAt cs k = false := up_no (decide_eq_false (fun z => q1 z.1))
          have g7 : Ld p e below T6 (mkF m 21 #[.val (.ref a), .val (.long acc), .second, .val (.int (Int32.ofNat k)), .unset] [(.int (cs.getD k 0))]) T6 (mkF m 62 #[.val (.ref a), .val (.long acc), .second, .val (.int (Int32.ofNat k)), .val (.int (cs.getD k 0))] []) := goRun K N6 #[] [(21, .istore 4, 2), (23, .iload 4, 2), (25, .bipush 65, 2), (27, .if_icmp .lt 35, 3)] [.ref 0] (P := ((cs.getD k 0) < (65 : Int32)) ∧ True) (by decide +kernel) rfl ⟨(i_lt (by show _ < (65 : Int); omega)), trivial⟩
          rw [atF, colF, hu]
          exact ⟨T6, _, Or.inr ⟨_, rfl⟩, N6, g1.trans (g2.trans (g3.trans (g4.trans (g5.trans (g6.trans g7)))))⟩
      · by_cases q1 : 65 ≤ (cs.getD k 0).toInt
        · by_cases q2 : (cs.getD k 0).toInt ≤ 90
          · have hu : upAt cs k = true := up_mk hkl (decide_eq_true ⟨q1, q2⟩)
            have g7 : Ld p e below T6 (mkF m 21 #[.val (.ref a), .val (.long acc), .second, .val (.int (Int32.ofNat k)), .val (.int i4)] [(.int (cs.getD k 0))]) T6 (mkF m 4 #[.val (.ref a), .val (.long ((((acc * (26 : Int64)) + ((cs.getD k 0).toInt64)) - (65 : Int64)) + (1 : Int64))), .second, .val (.int ((Int32.ofNat k) + (1 : Int32))), .val (.int (cs.getD k 0))] []) := goRun K N6 a0 [(21, .istore 4, 2), (23, .iload 4, 2), (25, .bipush 65, 2), (27, .if_icmp .lt 35, 3), (30, .iload 4, 2), (32, .bipush 90, 2), (34, .if_icmp .le 6, 3), (40, .lload_n 1, 1), (41, .ldc2_w 104, 3), (44, .lmul, 1), (45, .iload 4, 2), (47, .i2l, 1), (48, .ladd, 1), (49, .ldc2_w 106, 3), (52, .lsub, 1), (53, .lconst 1, 1), (54, .ladd, 1), (55, .lstore_n 1, 1), (56, .iinc 3 1, 3), (59, .goto (-55), 3)] [.null, .ref 0, .long (26 : Int64), .long (65 : Int64)] (P := (¬ (cs.getD k 0) < (65 : Int32)) ∧ (¬ (90 : Int32) < (cs.getD k 0)) ∧ ((Jvm.Cond.constantLong "com/example/covenantry/covenantry/FigurePlaces" 104 (26 : Int64)).before a0 Z = true) ∧ ((Jvm.Cond.constantLong "com/example/covenantry/covenantry/FigurePlaces" 106 (65 : Int64)).before a0 Z = true) ∧ True) (by decide +kernel) rfl ⟨(i_nlt q1), (i_nlt q2), (tw hw 93 rfl), (tw hw 94 rfl), trivial⟩
            rw [n_one] at g7
            obtain ⟨T9, q9, hq9, N9, g9⟩ := ih (k + 1) _ _ T6 (by omega) (Or.inr ⟨_, rfl⟩) N6
            rw [atF, colF, hu]
            exact ⟨T9, q9, hq9, N9, g1.trans (g2.trans (g3.trans (g4.trans (g5.trans (g6.trans (g7.trans g9))))))⟩
          · have hu : upAt cs k = false := up_no (decide_eq_false (fun z => q2 z.2))
            have g7 : Ld p e below T6 (mkF m 21 #[.val (.ref a), .val (.long acc), .second, .val (.int (Int32.ofNat k)), .val (.int i4)] [(.int (cs.getD k 0))]) T6 (mkF m 62 #[.val (.ref a), .val (.long acc), .second, .val (.int (Int32.ofNat k)), .val (.int (cs.getD k 0))] []) := goRun K N6 #[] [(21, .istore 4, 2), (23, .iload 4, 2), (25, .bipush 65, 2), (27, .if_icmp .lt 35, 3), (30, .iload 4, 2), (32, .bipush 90, 2), (34, .if_icmp .le 6, 3), (37, .goto 25, 3)] [.null, .null] (P := (¬ (cs.getD k 0) < (65 : Int32)) ∧ ((90 : Int32) < (cs.getD k 0)) ∧ True) (by decide +kernel) rfl ⟨(i_nlt q1), (i_lt (by show (90 : Int) < _; omega)), trivial⟩
            rw [atF, colF, hu]
            exact ⟨T6, _, Or.inr ⟨_, rfl⟩, N6, g1.trans (g2.trans (g3.trans (g4.trans (g5.trans (g6.trans g7)))))⟩
        · have hu : upAt cs k = false := up_no (decide_eq_false (fun z => q1 z.1))
          have g7 : Ld p e below T6 (mkF m 21 #[.val (.ref a), .val (.long acc), .second, .val (.int (Int32.ofNat k)), .val (.int i4)] [(.int (cs.getD k 0))]) T6 (mkF m 62 #[.val (.ref a), .val (.long acc), .second, .val (.int (Int32.ofNat k)), .val (.int (cs.getD k 0))] []) := goRun K N6 #[] [(21, .istore 4, 2), (23, .iload 4, 2), (25, .bipush 65, 2), (27, .if_icmp .lt 35, 3)] [.ref 0] (P := ((cs.getD k 0) < (65 : Int32)) ∧ True) (by decide +kernel) rfl ⟨(i_lt (by show _ < (65 : Int); omega)), trivial⟩
          rw [atF, colF, hu]
          exact ⟨T6, _, Or.inr ⟨_, rfl⟩, N6, g1.trans (g2.trans (g3.trans (g4.trans (g5.trans (g6.trans g7)))))⟩
    · have hu : upAt cs k = false := by simp only [upAt, hkl, decide_false, Bool.false_and]
      have g5 : Ld p e below T4 (mkF m 13 #[.val (.ref a), .val (.long acc), .second, .val (.int (Int32.ofNat k)), q4] [(.int (Int32.ofNat (min cs.length 3))), (.int (Int32.ofNat k))]) T4 (mkF m 62 #[.val (.ref a), .val (.long acc), .second, .val (.int (Int32.ofNat k)), q4] []) := goRun K N4 #[] [(13, .if_icmp .ge 49, 3)] [.ref 0] (P := (¬ (Int32.ofNat k) < (Int32.ofNat (min cs.length 3))) ∧ True) (by decide +kernel) rfl ⟨(by rw [n_lt (by omega) (by omega)]; omega), trivial⟩
      rw [atF, colF, hu]
      exact ⟨T4, _, h4, N4, g1.trans (g2.trans (g3.trans (g4.trans g5)))⟩
set_option maxHeartbeats 1000000 in
theorem con_col (hw : ∀ d ∈ tables_1, d.before a0 Z = true) {z : Int32} {fm : Value} (sf : SF Z z fm) {a t : Addr} {cs : List Int32} (F : Stv Z h a t cs) (hn : cs.length ≤ 13) (O : Old Z n0 h) : Con l Z n0 ⟨"com/example/covenantry/covenantry/FigurePlaces", "column", "(Ljava/lang/String;)J"⟩ prog_6_method_5_code 5 (some (.long)) [] ({ frames := 5, cells := 0, slots := 0, locals := 97 } : Room) #[.ref a] h (fun v h' => v = some (.long (colV cs)) ∧ h = h') := by
  refine Con.ofH (plainFor_of_name pn6) (L0 := #[.val (.ref a), .unset, .unset, .unset, .unset]) (fun m => by first | (simp [entryFrame, mkF, argsToLocals, Value.category]; done) | rfl) ?_
  intro p e s m below meth c T K hret hnm N hs
  have O0 : Old Z n0 s.heap := by rw [hs]; exact O
  have g1 : Ld p e below T (mkF m 0 #[.val (.ref a), .unset, .unset, .unset, .unset] []) T (mkF m 4 #[.val (.ref a), .val (.long (0 : Int64)), .second, .val (.int (0 : Int32)), .unset] []) := goRun K N #[] [(0, .lconst 0, 1), (1, .lstore_n 1, 1), (2, .iconst 0, 1), (3, .istore_n 3, 1)] [] (P := True) (by decide +kernel) rfl trivial
  obtain ⟨T9, q9, hq9, N9, g9⟩ := col_loop hw sf K F hn (by decide) (by decide) (by decide) (by decide) O0 3 0 0 _ T rfl (Or.inl rfl) N
  have hA3 := (atF_le cs 3 0).2
  have hAl := atF_len cs 3 0 (Nat.zero_le _)
  obtain ⟨A, eA⟩ : ∃ A, A = atF cs 3 0 := ⟨_, rfl⟩
  obtain ⟨cl, ec⟩ : ∃ cl, cl = colF cs 3 0 0 := ⟨_, rfl⟩
  rw [← eA, ← ec] at g9
  rw [← eA] at hA3 hAl
  have hcv : colV cs = if A = 0 ∨ cs.length - A = 0 ∨ 9 < cs.length - A then -1 else if digI 0 (cs.drop A) < 1 then -1 else cl - 1 := by rw [eA, ec]; rfl
  rcases hq9 with rfl | ⟨i4, rfl⟩
  · have g21 : Ld p e below T9 (mkF m 62 #[.val (.ref a), .val (.long cl), .second, .val (.int (Int32.ofNat A)), .unset] []) T9 (mkF m 63 #[.val (.ref a), .val (.long cl), .second, .val (.int (Int32.ofNat A)), .unset] [(.ref a)]) := goRun K N9 #[] [(62, .aload_n 0, 1)] [] (P := True) (by decide +kernel) rfl trivial
    obtain ⟨v22, T22, _, N22, ⟨rfl, rfl⟩, g22⟩ := goVi K N9 (a := a) F.1 (tw hw 27 rfl) (tw hw 28 rfl) (tw hw 30 rfl) (tw hw 29 rfl) (tw hw 4 rfl) (tw hw 31 rfl) (con_len hw sf F O) (argsL := []) (W := 0) (rest := []) (by decide) (by decide) (by decide) (by decide) (by decide) (L := #[.val (.ref a), .val (.long cl), .second, .val (.int (Int32.ofNat A)), .unset]) rfl pd11 rfl (Nat.le_of_eq rfl) (pc := 63) (by decide +kernel)
    have g23 : Ld p e below T22 (mkF m 66 #[.val (.ref a), .val (.long cl), .second, .val (.int (Int32.ofNat A)), .unset] [(.int (Int32.ofNat cs.length))]) T22 (mkF m 70 #[.val (.ref a), .val (.long cl), .second, .val (.int (Int32.ofNat A)), .val (.int ((Int32.ofNat cs.length) - (Int32.ofNat A)))] []) := goRun K N22 #[] [(66, .iload_n 3, 1), (67, .isub, 1), (68, .istore 4, 2)] [] (P := True) (by decide +kernel) rfl trivial
    rw [n_subn hAl] at g23
    by_cases c1 : A = 0
    · have g24 : Ld p e below T22 (mkF m 70 #[.val (.ref a), .val (.long cl), .second, .val (.int (Int32.ofNat A)), .val (.int (Int32.ofNat (cs.length - A)))] []) T22 (mkF m 89 #[.val (.ref a), .val (.long cl), .second, .val (.int (Int32.ofNat A)), .val (.int (Int32.ofNat (cs.length - A)))] [(.long (-1 : Int64))]) := goRun K N22 a0 [(70, .iload_n 3, 1), (71, .ifCond .eq 15, 3), (86, .ldc2_w 108, 3)] [.ref 0, .long (-1 : Int64)] (P := ((Int32.ofNat A) = (0 : Int32)) ∧ ((Jvm.Cond.constantLong "com/example/covenantry/covenantry/FigurePlaces" 108 (-1 : Int64)).before a0 Z = true) ∧ True) (by decide +kernel) rfl ⟨(by rw [c1]; rfl), (tw hw 42 rfl), trivial⟩
      exact ⟨_, T22, _, h, _, _, N22, by decide, by decide, fun q => (nomatch q), ⟨by rw [hcv, if_pos (Or.inl c1)], rfl⟩, g1.trans (g9.trans (g21.trans (g22.trans (g23.trans g24)))), finJ K N22 hret (by decide +kernel)⟩
    · by_cases c2 : cs.length - A = 0
      · have g24 : Ld p e below T22 (mkF m 70 #[.val (.ref a), .val (.long cl), .second, .val (.int (Int32.ofNat A)), .val (.int (Int32.ofNat (cs.length - A)))] []) T22 (mkF m 89 #[.val (.ref a), .val (.long cl), .second, .val (.int (Int32.ofNat A)), .val (.int (Int32.ofNat (cs.length - A)))] [(.long (-1 : Int64))]) := goRun K N22 a0 [(70, .iload_n 3, 1), (71, .ifCond .eq 15, 3), (74, .iload 4, 2), (76, .ifCond .eq 10, 3), (86, .ldc2_w 108, 3)] [.null, .ref 0, .long (-1 : Int64)] (P := (¬ (Int32.ofNat A) = (0 : Int32)) ∧ ((Int32.ofNat (cs.length - A)) = (0 : Int32)) ∧ ((Jvm.Cond.constantLong "com/example/covenantry/covenantry/FigurePlaces" 108 (-1 : Int64)).before a0 Z = true) ∧ True) (by decide +kernel) rfl ⟨(by show ¬ Int32.ofNat A = Int32.ofNat 0; rw [n_eq (by omega) (by omega)]; exact c1), (by rw [c2]; rfl), (tw hw 42 rfl), trivial⟩
        exact ⟨_, T22, _, h, _, _, N22, by decide, by decide, fun q => (nomatch q), ⟨by rw [hcv, if_pos (Or.inr (Or.inl c2))], rfl⟩, g1.trans (g9.trans (g21.trans (g22.trans (g23.trans g24)))), finJ K N22 hret (by decide +kernel)⟩
      · by_cases c3 : 9 < cs.length - A
        · have g24 : Ld p e below T22 (mkF m 70 #[.val (.ref a), .val (.long cl), .second, .val (.int (Int32.ofNat A)), .val (.int (Int32.ofNat (cs.length - A)))] []) T22 (mkF m 89 #[.val (.ref a), .val (.long cl), .second, .val (.int (Int32.ofNat A)), .val (.int (Int32.ofNat (cs.length - A)))] [(.long (-1 : Int64))]) := goRun K N22 a0 [(70, .iload_n 3, 1), (71, .ifCond .eq 15, 3), (74, .iload 4, 2), (76, .ifCond .eq 10, 3), (79, .iload 4, 2), (81, .bipush 9, 2), (83, .if_icmp .le 7, 3), (86, .ldc2_w 108, 3)] [.null, .null, .null, .long (-1 : Int64)] (P := (¬ (Int32.ofNat A) = (0 : Int32)) ∧ (¬ (Int32.ofNat (cs.length - A)) = (0 : Int32)) ∧ ((9 : Int32) < (Int32.ofNat (cs.length - A))) ∧ ((Jvm.Cond.constantLong "com/example/covenantry/covenantry/FigurePlaces" 108 (-1 : Int64)).before a0 Z = true) ∧ True) (by decide +kernel) rfl ⟨(by show ¬ Int32.ofNat A = Int32.ofNat 0; rw [n_eq (by omega) (by omega)]; exact c1), (by show ¬ Int32.ofNat (cs.length - A) = Int32.ofNat 0; rw [n_eq (by omega) (by omega)]; exact c2), ((n_lt (i := 9) (by omega) (by omega)).mpr c3), (tw hw 42 rfl), trivial⟩
          exact ⟨_, T22, _, h, _, _, N22, by decide, by decide, fun q => (nomatch q), ⟨by rw [hcv, if_pos (Or.inr (Or.inr c3))], rfl⟩, g1.trans (g9.trans (g21.trans (g22.trans (g23.trans g24)))), finJ K N22 hret (by decide +kernel)⟩
        · have g24 : Ld p e below T22 (mkF m 70 #[.val (.ref a), .val (.long cl), .second, .val (.int (Int32.ofNat A)), .val (.int (Int32.ofNat (cs.length - A)))] []) T22 (mkF m 93 #[.val (.ref a), .val (.long cl), .second, .val (.int (Int32.ofNat A)), .val (.int (Int32.ofNat (cs.length - A)))] [(.ref a), (.int (Int32.ofNat A)), (.ref a)]) := goRun K N22 #[] [(70, .iload_n 3, 1), (71, .ifCond .eq 15, 3), (74, .iload 4, 2), (76, .ifCond .eq 10, 3), (79, .iload 4, 2), (81, .bipush 9, 2), (83, .if_icmp .le 7, 3), (90, .aload_n 0, 1), (91, .iload_n 3, 1), (92, .aload_n 0, 1)] [.null, .null, .ref 0] (P := (¬ (Int32.ofNat A) = (0 : Int32)) ∧ (¬ (Int32.ofNat (cs.length - A)) = (0 : Int32)) ∧ (¬ (9 : Int32) < (Int32.ofNat (cs.length - A))) ∧ True) (by decide +kernel) rfl ⟨(by show ¬ Int32.ofNat A = Int32.ofNat 0; rw [n_eq (by omega) (by omega)]; exact c1), (by show ¬ Int32.ofNat (cs.length - A) = Int32.ofNat 0; rw [n_eq (by omega) (by omega)]; exact c2), (fun z => c3 ((n_lt (i := 9) (by omega) (by omega)).mp z)), trivial⟩
          obtain ⟨v25, T25, _, N25, ⟨rfl, rfl⟩, g25⟩ := goVi K N22 (a := a) F.1 (tw hw 27 rfl) (tw hw 28 rfl) (tw hw 30 rfl) (tw hw 29 rfl) (tw hw 4 rfl) (tw hw 31 rfl) (con_len hw sf F O) (argsL := []) (W := 2) (rest := [(.int (Int32.ofNat A)), (.ref a)]) (by decide) (by decide) (by decide) (by decide) (by decide) (L := #[.val (.ref a), .val (.long cl), .second, .val (.int (Int32.ofNat A)), .val (.int (Int32.ofNat (cs.length - A)))]) rfl pd11 rfl (Nat.le_of_eq rfl) (pc := 93) (by decide +kernel)
          have htk : (cs.drop A).take (cs.length - A) = cs.drop A := List.take_of_length_le (by rw [List.length_drop]; exact Nat.le_refl _)
          have hdc := con_dg (l := l) hw sf F (s' := A) (e' := cs.length) (Nat.le_refl _) hAl O
          rw [htk] at hdc
          obtain ⟨v26, T26, _, N26, ⟨rfl, rfl⟩, g26⟩ := goS K N25 (tw hw 95 rfl) (tw hw 96 rfl) (tw hw 97 rfl) (tw hw 98 rfl) hdc (argsL := [(.ref a), (.int (Int32.ofNat A)), (.int (Int32.ofNat cs.length))]) (W := 0) (rest := []) (by decide) (by decide) (by decide) (by decide) (by decide) (L := #[.val (.ref a), .val (.long cl), .second, .val (.int (Int32.ofNat A)), .val (.int (Int32.ofNat (cs.length - A)))]) rfl pd13 rfl (Nat.le_of_eq rfl) (pc := 96) (by decide +kernel)
          obtain ⟨r1, r2⟩ := dig_rng (l := cs.drop A) (by rw [List.length_drop]; omega)
          have hti : (Int32.ofInt (digI 0 (cs.drop A))).toInt = digI 0 (cs.drop A) := oi_ti (by omega) (by omega)
          have hno : ¬ (A = 0 ∨ cs.length - A = 0 ∨ 9 < cs.length - A) := fun q => q.elim c1 (fun q => q.elim c2 c3)
          by_cases c4 : digI 0 (cs.drop A) < 1
          · have g27 : Ld p e below T26 (mkF m 99 #[.val (.ref a), .val (.long cl), .second, .val (.int (Int32.ofNat A)), .val (.int (Int32.ofNat (cs.length - A)))] [(.int (Int32.ofInt (digI 0 (cs.drop A))))]) T26 (mkF m 112 #[.val (.ref a), .val (.long cl), .second, .val (.int (Int32.ofNat A)), .val (.int (Int32.ofNat (cs.length - A)))] [(.long (-1 : Int64))]) := goRun K N26 a0 [(99, .iconst 1, 1), (100, .if_icmp .ge 9, 3), (103, .ldc2_w 108, 3), (106, .goto 6, 3)] [.null, .long (-1 : Int64)] (P := ((Int32.ofInt (digI 0 (cs.drop A))) < (1 : Int32)) ∧ ((Jvm.Cond.constantLong "com/example/covenantry/covenantry/FigurePlaces" 108 (-1 : Int64)).before a0 Z = true) ∧ True) (by decide +kernel) rfl ⟨(i_lt (by rw [hti]; exact c4)), (tw hw 42 rfl), trivial⟩
            exact ⟨_, T26, _, h, _, _, N26, by decide, by decide, fun q => (nomatch q), ⟨by rw [hcv, if_neg hno, if_pos c4], rfl⟩, g1.trans (g9.trans (g21.trans (g22.trans (g23.trans (g24.trans (g25.trans (g26.trans g27))))))), finJ K N26 hret (by decide +kernel)⟩
          · have g27 : Ld p e below T26 (mkF m 99 #[.val (.ref a), .val (.long cl), .second, .val (.int (Int32.ofNat A)), .val (.int (Int32.ofNat (cs.length - A)))] [(.int (Int32.ofInt (digI 0 (cs.drop A))))]) T26 (mkF m 112 #[.val (.ref a), .val (.long cl), .second, .val (.int (Int32.ofNat A)), .val (.int (Int32.ofNat (cs.length - A)))] [(.long (cl - (1 : Int64)))]) := goRun K N26 #[] [(99, .iconst 1, 1), (100, .if_icmp .ge 9, 3), (109, .lload_n 1, 1), (110, .lconst 1, 1), (111, .lsub, 1)] [.ref 0] (P := (¬ (Int32.ofInt (digI 0 (cs.drop A))) < (1 : Int32)) ∧ True) (by decide +kernel) rfl ⟨(fun z => c4 (by rw [Int32.lt_iff_toInt_lt, hti] at z; exact z)), trivial⟩
            exact ⟨_, T26, _, h, _, _, N26, by decide, by decide, fun q => (nomatch q), ⟨by rw [hcv, if_neg hno, if_neg c4], rfl⟩, g1.trans (g9.trans (g21.trans (g22.trans (g23.trans (g24.trans (g25.trans (g26.trans g27))))))), finJ K N26 hret (by decide +kernel)⟩
  · have g21 : Ld p e below T9 (mkF m 62 #[.val (.ref a), .val (.long cl), .second, .val (.int (Int32.ofNat A)), .val (.int i4)] []) T9 (mkF m 63 #[.val (.ref a), .val (.long cl), .second, .val (.int (Int32.ofNat A)), .val (.int i4)] [(.ref a)]) := goRun K N9 #[] [(62, .aload_n 0, 1)] [] (P := True) (by decide +kernel) rfl trivial
    obtain ⟨v22, T22, _, N22, ⟨rfl, rfl⟩, g22⟩ := goVi K N9 (a := a) F.1 (tw hw 27 rfl) (tw hw 28 rfl) (tw hw 30 rfl) (tw hw 29 rfl) (tw hw 4 rfl) (tw hw 31 rfl) (con_len hw sf F O) (argsL := []) (W := 0) (rest := []) (by decide) (by decide) (by decide) (by decide) (by decide) (L := #[.val (.ref a), .val (.long cl), .second, .val (.int (Int32.ofNat A)), .val (.int i4)]) rfl pd11 rfl (Nat.le_of_eq rfl) (pc := 63) (by decide +kernel)
    have g23 : Ld p e below T22 (mkF m 66 #[.val (.ref a), .val (.long cl), .second, .val (.int (Int32.ofNat A)), .val (.int i4)] [(.int (Int32.ofNat cs.length))]) T22 (mkF m 70 #[.val (.ref a), .val (.long cl), .second, .val (.int (Int32.ofNat A)), .val (.int ((Int32.ofNat cs.length) - (Int32.ofNat A)))] []) := goRun K N22 #[] [(66, .iload_n 3, 1), (67, .isub, 1), (68, .istore 4, 2)] [] (P := True) (by decide +kernel) rfl trivial
    rw [n_subn hAl] at g23
    by_cases c1 : A = 0
    · have g24 : Ld p e below T22 (mkF m 70 #[.val (.ref a), .val (.long cl), .second, .val (.int (Int32.ofNat A)), .val (.int (Int32.ofNat (cs.length - A)))] []) T22 (mkF m 89 #[.val (.ref a), .val (.long cl), .second, .val (.int (Int32.ofNat A)), .val (.int (Int32.ofNat (cs.length - A)))] [(.long (-1 : Int64))]) := goRun K N22 a0 [(70, .iload_n 3, 1), (71, .ifCond .eq 15, 3), (86, .ldc2_w 108, 3)] [.ref 0, .long (-1 : Int64)] (P := ((Int32.ofNat A) = (0 : Int32)) ∧ ((Jvm.Cond.constantLong "com/example/covenantry/covenantry/FigurePlaces" 108 (-1 : Int64)).before a0 Z = true) ∧ True) (by decide +kernel) rfl ⟨(by rw [c1]; rfl), (tw hw 42 rfl), trivial⟩
      exact ⟨_, T22, _, h, _, _, N22, by decide, by decide, fun q => (nomatch q), ⟨by rw [hcv, if_pos (Or.inl c1)], rfl⟩, g1.trans (g9.trans (g21.trans (g22.trans (g23.trans g24)))), finJ K N22 hret (by decide +kernel)⟩
    · by_cases c2 : cs.length - A = 0
      · have g24 : Ld p e below T22 (mkF m 70 #[.val (.ref a), .val (.long cl), .second, .val (.int (Int32.ofNat A)), .val (.int (Int32.ofNat (cs.length - A)))] []) T22 (mkF m 89 #[.val (.ref a), .val (.long cl), .second, .val (.int (Int32.ofNat A)), .val (.int (Int32.ofNat (cs.length - A)))] [(.long (-1 : Int64))]) := goRun K N22 a0 [(70, .iload_n 3, 1), (71, .ifCond .eq 15, 3), (74, .iload 4, 2), (76, .ifCond .eq 10, 3), (86, .ldc2_w 108, 3)] [.null, .ref 0, .long (-1 : Int64)] (P := (¬ (Int32.ofNat A) = (0 : Int32)) ∧ ((Int32.ofNat (cs.length - A)) = (0 : Int32)) ∧ ((Jvm.Cond.constantLong "com/example/covenantry/covenantry/FigurePlaces" 108 (-1 : Int64)).before a0 Z = true) ∧ True) (by decide +kernel) rfl ⟨(by show ¬ Int32.ofNat A = Int32.ofNat 0; rw [n_eq (by omega) (by omega)]; exact c1), (by rw [c2]; rfl), (tw hw 42 rfl), trivial⟩
        exact ⟨_, T22, _, h, _, _, N22, by decide, by decide, fun q => (nomatch q), ⟨by rw [hcv, if_pos (Or.inr (Or.inl c2))], rfl⟩, g1.trans (g9.trans (g21.trans (g22.trans (g23.trans g24)))), finJ K N22 hret (by decide +kernel)⟩
      · by_cases c3 : 9 < cs.length - A
        · have g24 : Ld p e below T22 (mkF m 70 #[.val (.ref a), .val (.long cl), .second, .val (.int (Int32.ofNat A)), .val (.int (Int32.ofNat (cs.length - A)))] []) T22 (mkF m 89 #[.val (.ref a), .val (.long cl), .second, .val (.int (Int32.ofNat A)), .val (.int (Int32.ofNat (cs.length - A)))] [(.long (-1 : Int64))]) := goRun K N22 a0 [(70, .iload_n 3, 1), (71, .ifCond .eq 15, 3), (74, .iload 4, 2), (76, .ifCond .eq 10, 3), (79, .iload 4, 2), (81, .bipush 9, 2), (83, .if_icmp .le 7, 3), (86, .ldc2_w 108, 3)] [.null, .null, .null, .long (-1 : Int64)] (P := (¬ (Int32.ofNat A) = (0 : Int32)) ∧ (¬ (Int32.ofNat (cs.length - A)) = (0 : Int32)) ∧ ((9 : Int32) < (Int32.ofNat (cs.length - A))) ∧ ((Jvm.Cond.constantLong "com/example/covenantry/covenantry/FigurePlaces" 108 (-1 : Int64)).before a0 Z = true) ∧ True) (by decide +kernel) rfl ⟨(by show ¬ Int32.ofNat A = Int32.ofNat 0; rw [n_eq (by omega) (by omega)]; exact c1), (by show ¬ Int32.ofNat (cs.length - A) = Int32.ofNat 0; rw [n_eq (by omega) (by omega)]; exact c2), ((n_lt (i := 9) (by omega) (by omega)).mpr c3), (tw hw 42 rfl), trivial⟩
          exact ⟨_, T22, _, h, _, _, N22, by decide, by decide, fun q => (nomatch q), ⟨by rw [hcv, if_pos (Or.inr (Or.inr c3))], rfl⟩, g1.trans (g9.trans (g21.trans (g22.trans (g23.trans g24)))), finJ K N22 hret (by decide +kernel)⟩
        · have g24 : Ld p e below T22 (mkF m 70 #[.val (.ref a), .val (.long cl), .second, .val (.int (Int32.ofNat A)), .val (.int (Int32.ofNat (cs.length - A)))] []) T22 (mkF m 93 #[.val (.ref a), .val (.long cl), .second, .val (.int (Int32.ofNat A)), .val (.int (Int32.ofNat (cs.length - A)))] [(.ref a), (.int (Int32.ofNat A)), (.ref a)]) := goRun K N22 #[] [(70, .iload_n 3, 1), (71, .ifCond .eq 15, 3), (74, .iload 4, 2), (76, .ifCond .eq 10, 3), (79, .iload 4, 2), (81, .bipush 9, 2), (83, .if_icmp .le 7, 3), (90, .aload_n 0, 1), (91, .iload_n 3, 1), (92, .aload_n 0, 1)] [.null, .null, .ref 0] (P := (¬ (Int32.ofNat A) = (0 : Int32)) ∧ (¬ (Int32.ofNat (cs.length - A)) = (0 : Int32)) ∧ (¬ (9 : Int32) < (Int32.ofNat (cs.length - A))) ∧ True) (by decide +kernel) rfl ⟨(by show ¬ Int32.ofNat A = Int32.ofNat 0; rw [n_eq (by omega) (by omega)]; exact c1), (by show ¬ Int32.ofNat (cs.length - A) = Int32.ofNat 0; rw [n_eq (by omega) (by omega)]; exact c2), (fun z => c3 ((n_lt (i := 9) (by omega) (by omega)).mp z)), trivial⟩
          obtain ⟨v25, T25, _, N25, ⟨rfl, rfl⟩, g25⟩ := goVi K N22 (a := a) F.1 (tw hw 27 rfl) (tw hw 28 rfl) (tw hw 30 rfl) (tw hw 29 rfl) (tw hw 4 rfl) (tw hw 31 rfl) (con_len hw sf F O) (argsL := []) (W := 2) (rest := [(.int (Int32.ofNat A)), (.ref a)]) (by decide) (by decide) (by decide) (by decide) (by decide) (L := #[.val (.ref a), .val (.long cl), .second, .val (.int (Int32.ofNat A)), .val (.int (Int32.ofNat (cs.length - A)))]) rfl pd11 rfl (Nat.le_of_eq rfl) (pc := 93) (by decide +kernel)
          have htk : (cs.drop A).take (cs.length - A) = cs.drop A := List.take_of_length_le (by rw [List.length_drop]; exact Nat.le_refl _)
          have hdc := con_dg (l := l) hw sf F (s' := A) (e' := cs.length) (Nat.le_refl _) hAl O
          rw [htk] at hdc
          obtain ⟨v26, T26, _, N26, ⟨rfl, rfl⟩, g26⟩ := goS K N25 (tw hw 95 rfl) (tw hw 96 rfl) (tw hw 97 rfl) (tw hw 98 rfl) hdc (argsL := [(.ref a), (.int (Int32.ofNat A)), (.int (Int32.ofNat cs.length))]) (W := 0) (rest := []) (by decide) (by decide) (by decide) (by decide) (by decide) (L := #[.val (.ref a), .val (.long cl), .second, .val (.int (Int32.ofNat A)), .val (.int (Int32.ofNat (cs.length - A)))]) rfl pd13 rfl (Nat.le_of_eq rfl) (pc := 96) (by decide +kernel)
          obtain ⟨r1, r2⟩ := dig_rng (l := cs.drop A) (by rw [List.length_drop]; omega)
          have hti : (Int32.ofInt (digI 0 (cs.drop A))).toInt = digI 0 (cs.drop A) := oi_ti (by omega) (by omega)
          have hno : ¬ (A = 0 ∨ cs.length - A = 0 ∨ 9 < cs.length - A) := fun q => q.elim c1 (fun q => q.elim c2 c3)
          by_cases c4 : digI 0 (cs.drop A) < 1
          · have g27 : Ld p e below T26 (mkF m 99 #[.val (.ref a), .val (.long cl), .second, .val (.int (Int32.ofNat A)), .val (.int (Int32.ofNat (cs.length - A)))] [(.int (Int32.ofInt (digI 0 (cs.drop A))))]) T26 (mkF m 112 #[.val (.ref a), .val (.long cl), .second, .val (.int (Int32.ofNat A)), .val (.int (Int32.ofNat (cs.length - A)))] [(.long (-1 : Int64))]) := goRun K N26 a0 [(99, .iconst 1, 1), (100, .if_icmp .ge 9, 3), (103, .ldc2_w 108, 3), (106, .goto 6, 3)] [.null, .long (-1 : Int64)] (P := ((Int32.ofInt (digI 0 (cs.drop A))) < (1 : Int32)) ∧ ((Jvm.Cond.constantLong "com/example/covenantry/covenantry/FigurePlaces" 108 (-1 : Int64)).before a0 Z = true) ∧ True) (by decide +kernel) rfl ⟨(i_lt (by rw [hti]; exact c4)), (tw hw 42 rfl), trivial⟩
            exact ⟨_, T26, _, h, _, _, N26, by decide, by decide, fun q => (nomatch q), ⟨by rw [hcv, if_neg hno, if_pos c4], rfl⟩, g1.trans (g9.trans (g21.trans (g22.trans (g23.trans (g24.trans (g25.trans (g26.trans g27))))))), finJ K N26 hret (by decide +kernel)⟩
          · have g27 : Ld p e below T26 (mkF m 99 #[.val (.ref a), .val (.long cl), .second, .val (.int (Int32.ofNat A)), .val (.int (Int32.ofNat (cs.length - A)))] [(.int (Int32.ofInt (digI 0 (cs.drop A))))]) T26 (mkF m 112 #[.val (.ref a), .val (.long cl), .second, .val (.int (Int32.ofNat A)), .val (.int (Int32.ofNat (cs.length - A)))] [(.long (cl - (1 : Int64)))]) := goRun K N26 #[] [(99, .iconst 1, 1), (100, .if_icmp .ge 9, 3), (109, .lload_n 1, 1), (110, .lconst 1, 1), (111, .lsub, 1)] [.ref 0] (P := (¬ (Int32.ofInt (digI 0 (cs.drop A))) < (1 : Int32)) ∧ True) (by decide +kernel) rfl ⟨(fun z => c4 (by rw [Int32.lt_iff_toInt_lt, hti] at z; exact z)), trivial⟩
            exact ⟨_, T26, _, h, _, _, N26, by decide, by decide, fun q => (nomatch q), ⟨by rw [hcv, if_neg hno, if_neg c4], rfl⟩, g1.trans (g9.trans (g21.trans (g22.trans (g23.trans (g24.trans (g25.trans (g26.trans g27))))))), finJ K N26 hret (by decide +kernel)⟩
theorem cmp_self (x : Int64) : XT.cmpL x x = 0 := by simp [XT.cmpL]
theorem at3 (cs : List Int32) : atF cs 3 0 = bif upAt cs 0 then (bif upAt cs 1 then (bif upAt cs 2 then 3 else 2) else 1) else 0 := rfl
theorem orN {f : Nat → Bool} {c k : Nat} (q : f k = false) : orF f (c + 1) k = orF f c (k + 1) := by rw [orF, q]; rfl
theorem orY {f : Nat → Bool} {c k : Nat} (q : f k = true) : orF f (c + 1) k = true := by rw [orF, q]; rfl
theorem ok_set {cs : List Int32} {k : Nat} {d : Int32} (hok : ∀ c ∈ cs, Ch c ∧ c.toInt ≤ 255) (r1 : Ch d) (r2 : d.toInt ≤ 255) : ∀ c ∈ cs.set k d, Ch c ∧ c.toInt ≤ 255 := fun c hc => by
  rcases List.mem_or_eq_of_mem_set hc with q | rfl
  · exact hok c q
  · exact ⟨r1, r2⟩
/-- from here the law returns 1, the heap stays -/
def EndsN (Z : State) (n0 : Nat) (h : Heap) (p : Program) (l : Launch) (e : Env) (R : Room) (s : State) (m : MethodId) (args : Array Value) (below : List Frame) (meth : Method) (c : Code) (T : State) (g : JFrame) : Prop :=
  ∃ (T' : State) (g' : JFrame), Nw Z n0 h p l e R s m args below meth c T' 8 200 ∧ Ld p e below T g T' g' ∧ Fn p e below m T' g' (some (.int 1))
theorem EndsN.pre {R : Room} {T1 : State} {g g1 : JFrame} (L : Ld p e below T g T1 g1) (E : EndsN Z n0 h p l e R s m args below meth c T1 g1) : EndsN Z n0 h p l e R s m args below meth c T g := by
  obtain ⟨T', g', a, i, j⟩ := E
  exact ⟨T', g', a, L.trans i, j⟩
set_option maxHeartbeats 4000000 in
theorem cmp (hw : ∀ d ∈ tables_1, d.before a0 Z = true) {z : Int32} {fm : Value} (sf : SF Z z fm) (K : Cx Z "com/example/covenantry/covenantry/FigurePlacesColumnPinLaw" code maxLocals p m c) (hret : meth.sig.returnType = ret) (O0 : Old Z n0 s.heap) (N : Nw Z n0 h p l e room_1 s m args below meth c T 8 200) (i0 : Int32) (i1 i2 : Int64) {ca sa : Addr} {cs : List Int32} (C : Av Z h ca .char (cs.map Value.int)) (hn : cs.length ≤ 13) (got : Int64) (u0 u1 u2 : Int32) {A : Nat} (hA3 : A ≤ 3) (hAl : A ≤ cs.length) (B Nz : Bool) (hg : got = expV cs A B Nz) :
    EndsN Z n0 h p l e room_1 s m args below meth c T (mkF m 723 #[.val (.int i0), .val (.long i1), .second, .val (.long i2), .second, .val (.int (Int32.ofNat cs.length)), .val (.ref ca), .val (.ref sa), .val (.long got), .second, .val (.int u0), .val (.int u1), .val (.int u2), .val (.int (Int32.ofNat A)), .val (.int (Int32.ofNat (cs.length - A))), .val (.int (b2i B)), .val (.int (b2i Nz)), .unset, .unset, .unset, .unset] []) := by
  by_cases c1 : A = 0
  · have hx : got = -1 := by rw [hg]; exact if_pos (Or.inl c1)
    have g1 : Ld p e below T (mkF m 723 #[.val (.int i0), .val (.long i1), .second, .val (.long i2), .second, .val (.int (Int32.ofNat cs.length)), .val (.ref ca), .val (.ref sa), .val (.long got), .second, .val (.int u0), .val (.int u1), .val (.int u2), .val (.int (Int32.ofNat A)), .val (.int (Int32.ofNat (cs.length - A))), .val (.int (b2i B)), .val (.int (b2i Nz)), .unset, .unset, .unset, .unset] []) T (mkF m 859 #[.val (.int i0), .val (.long i1), .second, .val (.long i2), .second, .val (.int (Int32.ofNat cs.length)), .val (.ref ca), .val (.ref sa), .val (.long got), .second, .val (.int u0), .val (.int u1), .val (.int u2), .val (.int (Int32.ofNat A)), .val (.int (Int32.ofNat (cs.length - A))), .val (.int (b2i B)), .val (.int (b2i Nz)), .val (.long (-1 : Int64)), .second, .unset, .unset] [(.int (1 : Int32))]) := goRun K N a0 [(723, .iload 13, 2), (725, .ifCond .eq 26, 3), (751, .ldc2_w 41, 3), (754, .lstore 17, 2), (756, .goto 90, 3), (846, .lload 8, 2), (848, .lload 17, 2), (850, .lcmp, 1), (851, .ifCond .ne 7, 3), (854, .iconst 1, 1), (855, .goto 4, 3)] [.ref 0, .long (-1 : Int64), .null] (P := ((Int32.ofNat A) = (0 : Int32)) ∧ ((Jvm.Cond.constantLong "com/example/covenantry/covenantry/FigurePlacesColumnPinLaw" 41 (-1 : Int64)).before a0 Z = true) ∧ ((XT.cmpL got (-1 : Int64)) = (0 : Int32)) ∧ True) (by decide +kernel) rfl ⟨(by rw [c1]; rfl), (tw hw 50 rfl), (by rw [hx]; exact cmp_self _), trivial⟩
    exact ⟨T, _, N, g1, sb1 ▸ finN K N hret (Or.inl rfl) (by decide +kernel)⟩
  · by_cases c2 : cs.length - A < 1
    · have hx : got = -1 := by rw [hg]; exact if_pos (Or.inr (Or.inl c2))
      have g1 : Ld p e below T (mkF m 723 #[.val (.int i0), .val (.long i1), .second, .val (.long i2), .second, .val (.int (Int32.ofNat cs.length)), .val (.ref ca), .val (.ref sa), .val (.long got), .second, .val (.int u0), .val (.int u1), .val (.int u2), .val (.int (Int32.ofNat A)), .val (.int (Int32.ofNat (cs.length - A))), .val (.int (b2i B)), .val (.int (b2i Nz)), .unset, .unset, .unset, .unset] []) T (mkF m 859 #[.val (.int i0), .val (.long i1), .second, .val (.long i2), .second, .val (.int (Int32.ofNat cs.length)), .val (.ref ca), .val (.ref sa), .val (.long got), .second, .val (.int u0), .val (.int u1), .val (.int u2), .val (.int (Int32.ofNat A)), .val (.int (Int32.ofNat (cs.length - A))), .val (.int (b2i B)), .val (.int (b2i Nz)), .val (.long (-1 : Int64)), .second, .unset, .unset] [(.int (1 : Int32))]) := goRun K N a0 [(723, .iload 13, 2), (725, .ifCond .eq 26, 3), (728, .iload 14, 2), (730, .iconst 1, 1), (731, .if_icmp .lt 20, 3), (751, .ldc2_w 41, 3), (754, .lstore 17, 2), (756, .goto 90, 3), (846, .lload 8, 2), (848, .lload 17, 2), (850, .lcmp, 1), (851, .ifCond .ne 7, 3), (854, .iconst 1, 1), (855, .goto 4, 3)] [.null, .ref 0, .long (-1 : Int64), .null] (P := (¬ (Int32.ofNat A) = (0 : Int32)) ∧ ((Int32.ofNat (cs.length - A)) < (1 : Int32)) ∧ ((Jvm.Cond.constantLong "com/example/covenantry/covenantry/FigurePlacesColumnPinLaw" 41 (-1 : Int64)).before a0 Z = true) ∧ ((XT.cmpL got (-1 : Int64)) = (0 : Int32)) ∧ True) (by decide +kernel) rfl ⟨(by show ¬ Int32.ofNat A = Int32.ofNat 0; rw [n_eq (by omega) (by omega)]; exact c1), ((n_lt (i := cs.length - A) (j := 1) (by omega) (by omega)).mpr c2), (tw hw 50 rfl), (by rw [hx]; exact cmp_self _), trivial⟩
      exact ⟨T, _, N, g1, sb1 ▸ finN K N hret (Or.inl rfl) (by decide +kernel)⟩
    · by_cases c3 : 9 < cs.length - A
      · have hx : got = -1 := by rw [hg]; exact if_pos (Or.inr (Or.inr (Or.inl c3)))
        have g1 : Ld p e below T (mkF m 723 #[.val (.int i0), .val (.long i1), .second, .val (.long i2), .second, .val (.int (Int32.ofNat cs.length)), .val (.ref ca), .val (.ref sa), .val (.long got), .second, .val (.int u0), .val (.int u1), .val (.int u2), .val (.int (Int32.ofNat A)), .val (.int (Int32.ofNat (cs.length - A))), .val (.int (b2i B)), .val (.int (b2i Nz)), .unset, .unset, .unset, .unset] []) T (mkF m 859 #[.val (.int i0), .val (.long i1), .second, .val (.long i2), .second, .val (.int (Int32.ofNat cs.length)), .val (.ref ca), .val (.ref sa), .val (.long got), .second, .val (.int u0), .val (.int u1), .val (.int u2), .val (.int (Int32.ofNat A)), .val (.int (Int32.ofNat (cs.length - A))), .val (.int (b2i B)), .val (.int (b2i Nz)), .val (.long (-1 : Int64)), .second, .unset, .unset] [(.int (1 : Int32))]) := goRun K N a0 [(723, .iload 13, 2), (725, .ifCond .eq 26, 3), (728, .iload 14, 2), (730, .iconst 1, 1), (731, .if_icmp .lt 20, 3), (734, .iload 14, 2), (736, .bipush 9, 2), (738, .if_icmp .gt 13, 3), (751, .ldc2_w 41, 3), (754, .lstore 17, 2), (756, .goto 90, 3), (846, .lload 8, 2), (848, .lload 17, 2), (850, .lcmp, 1), (851, .ifCond .ne 7, 3), (854, .iconst 1, 1), (855, .goto 4, 3)] [.null, .null, .ref 0, .long (-1 : Int64), .null] (P := (¬ (Int32.ofNat A) = (0 : Int32)) ∧ (¬ (Int32.ofNat (cs.length - A)) < (1 : Int32)) ∧ ((9 : Int32) < (Int32.ofNat (cs.length - A))) ∧ ((Jvm.Cond.constantLong "com/example/covenantry/covenantry/FigurePlacesColumnPinLaw" 41 (-1 : Int64)).before a0 Z = true) ∧ ((XT.cmpL got (-1 : Int64)) = (0 : Int32)) ∧ True) (by decide +kernel) rfl ⟨(by show ¬ Int32.ofNat A = Int32.ofNat 0; rw [n_eq (by omega) (by omega)]; exact c1), (fun z => c2 ((n_lt (i := cs.length - A) (j := 1) (by omega) (by omega)).mp z)), ((n_lt (i := 9) (j := cs.length - A) (by omega) (by omega)).mpr c3), (tw hw 50 rfl), (by rw [hx]; exact cmp_self _), trivial⟩
        exact ⟨T, _, N, g1, sb1 ▸ finN K N hret (Or.inl rfl) (by decide +kernel)⟩
      · cases B
        · cases Nz
          · have hx : got = -1 := by rw [hg]; exact if_pos (Or.inr (Or.inr (Or.inr (Or.inr rfl))))
            have g1 : Ld p e below T (mkF m 723 #[.val (.int i0), .val (.long i1), .second, .val (.long i2), .second, .val (.int (Int32.ofNat cs.length)), .val (.ref ca), .val (.ref sa), .val (.long got), .second, .val (.int u0), .val (.int u1), .val (.int u2), .val (.int (Int32.ofNat A)), .val (.int (Int32.ofNat (cs.length - A))), .val (.int (b2i false)), .val (.int (b2i false)), .unset, .unset, .unset, .unset] []) T (mkF m 859 #[.val (.int i0), .val (.long i1), .second, .val (.long i2), .second, .val (.int (Int32.ofNat cs.length)), .val (.ref ca), .val (.ref sa), .val (.long got), .second, .val (.int u0), .val (.int u1), .val (.int u2), .val (.int (Int32.ofNat A)), .val (.int (Int32.ofNat (cs.length - A))), .val (.int (b2i false)), .val (.int (b2i false)), .val (.long (-1 : Int64)), .second, .unset, .unset] [(.int (1 : Int32))]) := goRun K N a0 [(723, .iload 13, 2), (725, .ifCond .eq 26, 3), (728, .iload 14, 2), (730, .iconst 1, 1), (731, .if_icmp .lt 20, 3), (734, .iload 14, 2), (736, .bipush 9, 2), (738, .if_icmp .gt 13, 3), (741, .iload 15, 2), (743, .ifCond .ne 8, 3), (746, .iload 16, 2), (748, .ifCond .ne 11, 3), (751, .ldc2_w 41, 3), (754, .lstore 17, 2), (756, .goto 90, 3), (846, .lload 8, 2), (848, .lload 17, 2), (850, .lcmp, 1), (851, .ifCond .ne 7, 3), (854, .iconst 1, 1), (855, .goto 4, 3)] [.null, .null, .null, .null, .null, .long (-1 : Int64), .null] (P := (¬ (Int32.ofNat A) = (0 : Int32)) ∧ (¬ (Int32.ofNat (cs.length - A)) < (1 : Int32)) ∧ (¬ (9 : Int32) < (Int32.ofNat (cs.length - A))) ∧ ((b2i false) = (0 : Int32)) ∧ ((b2i false) = (0 : Int32)) ∧ ((Jvm.Cond.constantLong "com/example/covenantry/covenantry/FigurePlacesColumnPinLaw" 41 (-1 : Int64)).before a0 Z = true) ∧ ((XT.cmpL got (-1 : Int64)) = (0 : Int32)) ∧ True) (by decide +kernel) rfl ⟨(by show ¬ Int32.ofNat A = Int32.ofNat 0; rw [n_eq (by omega) (by omega)]; exact c1), (fun z => c2 ((n_lt (i := cs.length - A) (j := 1) (by omega) (by omega)).mp z)), (fun z => c3 ((n_lt (i := 9) (j := cs.length - A) (by omega) (by omega)).mp z)), rfl, rfl, (tw hw 50 rfl), (by rw [hx]; exact cmp_self _), trivial⟩
            exact ⟨T, _, N, g1, sb1 ▸ finN K N hret (Or.inl rfl) (by decide +kernel)⟩
          · have hno : ¬ (A = 0 ∨ cs.length - A < 1 ∨ 9 < cs.length - A ∨ false = true ∨ true = false) := fun q => q.elim c1 (fun q => q.elim c2 (fun q => q.elim c3 (fun q => q.elim (fun z => Bool.noConfusion z) (fun z => Bool.noConfusion z))))
            rw [expV, if_neg hno] at hg
            by_cases c4 : A = 1
            · have hx := hg.trans (if_pos c4)
              have g1 : Ld p e below T (mkF m 723 #[.val (.int i0), .val (.long i1), .second, .val (.long i2), .second, .val (.int (Int32.ofNat cs.length)), .val (.ref ca), .val (.ref sa), .val (.long got), .second, .val (.int u0), .val (.int u1), .val (.int u2), .val (.int (Int32.ofNat A)), .val (.int (Int32.ofNat (cs.length - A))), .val (.int (b2i false)), .val (.int (b2i true)), .unset, .unset, .unset, .unset] []) T (mkF m 859 #[.val (.int i0), .val (.long i1), .second, .val (.long i2), .second, .val (.int (Int32.ofNat cs.length)), .val (.ref ca), .val (.ref sa), .val (.long got), .second, .val (.int u0), .val (.int u1), .val (.int u2), .val (.int (Int32.ofNat A)), .val (.int (Int32.ofNat (cs.length - A))), .val (.int (b2i false)), .val (.int (b2i true)), .val (.long (((cs.getD 0 0) - (65 : Int32)).toInt64)), .second, .val (.long (((cs.getD 0 0) - (65 : Int32)).toInt64)), .second] [(.int (1 : Int32))]) := goRun K N #[] [(723, .iload 13, 2), (725, .ifCond .eq 26, 3), (728, .iload 14, 2), (730, .iconst 1, 1), (731, .if_icmp .lt 20, 3), (734, .iload 14, 2), (736, .bipush 9, 2), (738, .if_icmp .gt 13, 3), (741, .iload 15, 2), (743, .ifCond .ne 8, 3), (746, .iload 16, 2), (748, .ifCond .ne 11, 3), (759, .aload 6, 2), (761, .iconst 0, 1), (762, .caload, 1), (763, .bipush 65, 2), (765, .isub, 1), (766, .i2l, 1), (767, .lstore 19, 2), (769, .iload 13, 2), (771, .iconst 1, 1), (772, .if_icmp .ne 10, 3), (775, .lload 19, 2), (777, .lstore 17, 2), (779, .goto 67, 3), (846, .lload 8, 2), (848, .lload 17, 2), (850, .lcmp, 1), (851, .ifCond .ne 7, 3), (854, .iconst 1, 1), (855, .goto 4, 3)] [.null, .null, .null, .null, .ref 0, .int (cs.getD 0 0), .null, .null] (P := (¬ (Int32.ofNat A) = (0 : Int32)) ∧ (¬ (Int32.ofNat (cs.length - A)) < (1 : Int32)) ∧ (¬ (9 : Int32) < (Int32.ofNat (cs.length - A))) ∧ ((b2i false) = (0 : Int32)) ∧ (¬ (b2i true) = (0 : Int32)) ∧ (Rd Z h ca .char (0 : Int32) (.int (cs.getD 0 0))) ∧ ((Int32.ofNat A) = (1 : Int32)) ∧ ((XT.cmpL got (((cs.getD 0 0) - (65 : Int32)).toInt64)) = (0 : Int32)) ∧ True) (by decide +kernel) rfl ⟨(by show ¬ Int32.ofNat A = Int32.ofNat 0; rw [n_eq (by omega) (by omega)]; exact c1), (fun z => c2 ((n_lt (i := cs.length - A) (j := 1) (by omega) (by omega)).mp z)), (fun z => c3 ((n_lt (i := 9) (j := cs.length - A) (by omega) (by omega)).mp z)), rfl, (by decide), (C.rd (i := 0) (by decide) (gti (getD_of (by omega)))), (by rw [c4]; rfl), (by rw [hx]; exact cmp_self _), trivial⟩
              exact ⟨T, _, N, g1, sb1 ▸ finN K N hret (Or.inl rfl) (by decide +kernel)⟩
            · rw [if_neg c4] at hg
              by_cases c5 : A = 2
              · have hx := hg.trans (if_pos c5)
                have g1 : Ld p e below T (mkF m 723 #[.val (.int i0), .val (.long i1), .second, .val (.long i2), .second, .val (.int (Int32.ofNat cs.length)), .val (.ref ca), .val (.ref sa), .val (.long got), .second, .val (.int u0), .val (.int u1), .val (.int u2), .val (.int (Int32.ofNat A)), .val (.int (Int32.ofNat (cs.length - A))), .val (.int (b2i false)), .val (.int (b2i true)), .unset, .unset, .unset, .unset] []) T (mkF m 859 #[.val (.int i0), .val (.long i1), .second, .val (.long i2), .second, .val (.int (Int32.ofNat cs.length)), .val (.ref ca), .val (.ref sa), .val (.long got), .second, .val (.int u0), .val (.int u1), .val (.int u2), .val (.int (Int32.ofNat A)), .val (.int (Int32.ofNat (cs.length - A))), .val (.int (b2i false)), .val (.int (b2i true)), .val (.long (((26 : Int64) + ((26 : Int64) * (((cs.getD 0 0) - (65 : Int32)).toInt64))) + (((cs.getD 1 0) - (65 : Int32)).toInt64))), .second, .val (.long (((cs.getD 0 0) - (65 : Int32)).toInt64)), .second] [(.int (1 : Int32))]) := goRun K N a0 [(723, .iload 13, 2), (725, .ifCond .eq 26, 3), (728, .iload 14, 2), (730, .iconst 1, 1), (731, .if_icmp .lt 20, 3), (734, .iload 14, 2), (736, .bipush 9, 2), (738, .if_icmp .gt 13, 3), (741, .iload 15, 2), (743, .ifCond .ne 8, 3), (746, .iload 16, 2), (748, .ifCond .ne 11, 3), (759, .aload 6, 2), (761, .iconst 0, 1), (762, .caload, 1), (763, .bipush 65, 2), (765, .isub, 1), (766, .i2l, 1), (767, .lstore 19, 2), (769, .iload 13, 2), (771, .iconst 1, 1), (772, .if_icmp .ne 10, 3), (782, .iload 13, 2), (784, .iconst 2, 1), (785, .if_icmp .ne 27, 3), (788, .ldc2_w 43, 3), (791, .ldc2_w 43, 3), (794, .lload 19, 2), (796, .lmul, 1), (797, .ladd, 1), (798, .aload 6, 2), (800, .iconst 1, 1), (801, .caload, 1), (802, .bipush 65, 2), (804, .isub, 1), (805, .i2l, 1), (806, .ladd, 1), (807, .lstore 17, 2), (809, .goto 37, 3), (846, .lload 8, 2), (848, .lload 17, 2), (850, .lcmp, 1), (851, .ifCond .ne 7, 3), (854, .iconst 1, 1), (855, .goto 4, 3)] [.null, .null, .null, .null, .ref 0, .int (cs.getD 0 0), .ref 0, .null, .long (26 : Int64), .long (26 : Int64), .int (cs.getD 1 0), .null] (P := (¬ (Int32.ofNat A) = (0 : Int32)) ∧ (¬ (Int32.ofNat (cs.length - A)) < (1 : Int32)) ∧ (¬ (9 : Int32) < (Int32.ofNat (cs.length - A))) ∧ ((b2i false) = (0 : Int32)) ∧ (¬ (b2i true) = (0 : Int32)) ∧ (Rd Z h ca .char (0 : Int32) (.int (cs.getD 0 0))) ∧ (¬ (Int32.ofNat A) = (1 : Int32)) ∧ ((Int32.ofNat A) = (2 : Int32)) ∧ ((Jvm.Cond.constantLong "com/example/covenantry/covenantry/FigurePlacesColumnPinLaw" 43 (26 : Int64)).before a0 Z = true) ∧ ((Jvm.Cond.constantLong "com/example/covenantry/covenantry/FigurePlacesColumnPinLaw" 43 (26 : Int64)).before a0 Z = true) ∧ (Rd Z h ca .char (1 : Int32) (.int (cs.getD 1 0))) ∧ ((XT.cmpL got (((26 : Int64) + ((26 : Int64) * (((cs.getD 0 0) - (65 : Int32)).toInt64))) + (((cs.getD 1 0) - (65 : Int32)).toInt64))) = (0 : Int32)) ∧ True) (by decide +kernel) rfl ⟨(by show ¬ Int32.ofNat A = Int32.ofNat 0; rw [n_eq (by omega) (by omega)]; exact c1), (fun z => c2 ((n_lt (i := cs.length - A) (j := 1) (by omega) (by omega)).mp z)), (fun z => c3 ((n_lt (i := 9) (j := cs.length - A) (by omega) (by omega)).mp z)), rfl, (by decide), (C.rd (i := 0) (by decide) (gti (getD_of (by omega)))), (by show ¬ Int32.ofNat A = Int32.ofNat 1; rw [n_eq (by omega) (by omega)]; exact c4), (by rw [c5]; rfl), (tw hw 100 rfl), (tw hw 100 rfl), (C.rd (i := 1) (by decide) (gti (getD_of (by omega)))), (by rw [hx]; exact cmp_self _), trivial⟩
                exact ⟨T, _, N, g1, sb1 ▸ finN K N hret (Or.inl rfl) (by decide +kernel)⟩
              · have hx := hg.trans (if_neg c5)
                have g1 : Ld p e below T (mkF m 723 #[.val (.int i0), .val (.long i1), .second, .val (.long i2), .second, .val (.int (Int32.ofNat cs.length)), .val (.ref ca), .val (.ref sa), .val (.long got), .second, .val (.int u0), .val (.int u1), .val (.int u2), .val (.int (Int32.ofNat A)), .val (.int (Int32.ofNat (cs.length - A))), .val (.int (b2i false)), .val (.int (b2i true)), .unset, .unset, .unset, .unset] []) T (mkF m 859 #[.val (.int i0), .val (.long i1), .second, .val (.long i2), .second, .val (.int (Int32.ofNat cs.length)), .val (.ref ca), .val (.ref sa), .val (.long got), .second, .val (.int u0), .val (.int u1), .val (.int u2), .val (.int (Int32.ofNat A)), .val (.int (Int32.ofNat (cs.length - A))), .val (.int (b2i false)), .val (.int (b2i true)), .val (.long ((((702 : Int64) + ((676 : Int64) * (((cs.getD 0 0) - (65 : Int32)).toInt64))) + ((26 : Int64) * (((cs.getD 1 0) - (65 : Int32)).toInt64))) + (((cs.getD 2 0) - (65 : Int32)).toInt64))), .second, .val (.long (((cs.getD 0 0) - (65 : Int32)).toInt64)), .second] [(.int (1 : Int32))]) := goRun K N a0 [(723, .iload 13, 2), (725, .ifCond .eq 26, 3), (728, .iload 14, 2), (730, .iconst 1, 1), (731, .if_icmp .lt 20, 3), (734, .iload 14, 2), (736, .bipush 9, 2), (738, .if_icmp .gt 13, 3), (741, .iload 15, 2), (743, .ifCond .ne 8, 3), (746, .iload 16, 2), (748, .ifCond .ne 11, 3), (759, .aload 6, 2), (761, .iconst 0, 1), (762, .caload, 1), (763, .bipush 65, 2), (765, .isub, 1), (766, .i2l, 1), (767, .lstore 19, 2), (769, .iload 13, 2), (771, .iconst 1, 1), (772, .if_icmp .ne 10, 3), (782, .iload 13, 2), (784, .iconst 2, 1), (785, .if_icmp .ne 27, 3), (812, .ldc2_w 45, 3), (815, .ldc2_w 47, 3), (818, .lload 19, 2), (820, .lmul, 1), (821, .ladd, 1), (822, .ldc2_w 43, 3), (825, .aload 6, 2), (827, .iconst 1, 1), (828, .caload, 1), (829, .bipush 65, 2), (831, .isub, 1), (832, .i2l, 1), (833, .lmul, 1), (834, .ladd, 1), (835, .aload 6, 2), (837, .iconst 2, 1), (838, .caload, 1), (839, .bipush 65, 2), (841, .isub, 1), (842, .i2l, 1), (843, .ladd, 1), (844, .lstore 17, 2), (846, .lload 8, 2), (848, .lload 17, 2), (850, .lcmp, 1), (851, .ifCond .ne 7, 3), (854, .iconst 1, 1), (855, .goto 4, 3)] [.null, .null, .null, .null, .ref 0, .int (cs.getD 0 0), .ref 0, .ref 0, .long (702 : Int64), .long (676 : Int64), .long (26 : Int64), .int (cs.getD 1 0), .int (cs.getD 2 0), .null] (P := (¬ (Int32.ofNat A) = (0 : Int32)) ∧ (¬ (Int32.ofNat (cs.length - A)) < (1 : Int32)) ∧ (¬ (9 : Int32) < (Int32.ofNat (cs.length - A))) ∧ ((b2i false) = (0 : Int32)) ∧ (¬ (b2i true) = (0 : Int32)) ∧ (Rd Z h ca .char (0 : Int32) (.int (cs.getD 0 0))) ∧ (¬ (Int32.ofNat A) = (1 : Int32)) ∧ (¬ (Int32.ofNat A) = (2 : Int32)) ∧ ((Jvm.Cond.constantLong "com/example/covenantry/covenantry/FigurePlacesColumnPinLaw" 45 (702 : Int64)).before a0 Z = true) ∧ ((Jvm.Cond.constantLong "com/example/covenantry/covenantry/FigurePlacesColumnPinLaw" 47 (676 : Int64)).before a0 Z = true) ∧ ((Jvm.Cond.constantLong "com/example/covenantry/covenantry/FigurePlacesColumnPinLaw" 43 (26 : Int64)).before a0 Z = true) ∧ (Rd Z h ca .char (1 : Int32) (.int (cs.getD 1 0))) ∧ (Rd Z h ca .char (2 : Int32) (.int (cs.getD 2 0))) ∧ ((XT.cmpL got ((((702 : Int64) + ((676 : Int64) * (((cs.getD 0 0) - (65 : Int32)).toInt64))) + ((26 : Int64) * (((cs.getD 1 0) - (65 : Int32)).toInt64))) + (((cs.getD 2 0) - (65 : Int32)).toInt64))) = (0 : Int32)) ∧ True) (by decide +kernel) rfl ⟨(by show ¬ Int32.ofNat A = Int32.ofNat 0; rw [n_eq (by omega) (by omega)]; exact c1), (fun z => c2 ((n_lt (i := cs.length - A) (j := 1) (by omega) (by omega)).mp z)), (fun z => c3 ((n_lt (i := 9) (j := cs.length - A) (by omega) (by omega)).mp z)), rfl, (by decide), (C.rd (i := 0) (by decide) (gti (getD_of (by omega)))), (by show ¬ Int32.ofNat A = Int32.ofNat 1; rw [n_eq (by omega) (by omega)]; exact c4), (by show ¬ Int32.ofNat A = Int32.ofNat 2; rw [n_eq (by omega) (by omega)]; exact c5), (tw hw 101 rfl), (tw hw 102 rfl), (tw hw 100 rfl), (C.rd (i := 1) (by decide) (gti (getD_of (by omega)))), (C.rd (i := 2) (by decide) (gti (getD_of (by omega)))), (by rw [hx]; exact cmp_self _), trivial⟩
                exact ⟨T, _, N, g1, sb1 ▸ finN K N hret (Or.inl rfl) (by decide +kernel)⟩
        · have hx : got = -1 := by rw [hg]; exact if_pos (Or.inr (Or.inr (Or.inr (Or.inl rfl))))
          have g1 : Ld p e below T (mkF m 723 #[.val (.int i0), .val (.long i1), .second, .val (.long i2), .second, .val (.int (Int32.ofNat cs.length)), .val (.ref ca), .val (.ref sa), .val (.long got), .second, .val (.int u0), .val (.int u1), .val (.int u2), .val (.int (Int32.ofNat A)), .val (.int (Int32.ofNat (cs.length - A))), .val (.int (b2i true)), .val (.int (b2i Nz)), .unset, .unset, .unset, .unset] []) T (mkF m 859 #[.val (.int i0), .val (.long i1), .second, .val (.long i2), .second, .val (.int (Int32.ofNat cs.length)), .val (.ref ca), .val (.ref sa), .val (.long got), .second, .val (.int u0), .val (.int u1), .val (.int u2), .val (.int (Int32.ofNat A)), .val (.int (Int32.ofNat (cs.length - A))), .val (.int (b2i true)), .val (.int (b2i Nz)), .val (.long (-1 : Int64)), .second, .unset, .unset] [(.int (1 : Int32))]) := goRun K N a0 [(723, .iload 13, 2), (725, .ifCond .eq 26, 3), (728, .iload 14, 2), (730, .iconst 1, 1), (731, .if_icmp .lt 20, 3), (734, .iload 14, 2), (736, .bipush 9, 2), (738, .if_icmp .gt 13, 3), (741, .iload 15, 2), (743, .ifCond .ne 8, 3), (751, .ldc2_w 41, 3), (754, .lstore 17, 2), (756, .goto 90, 3), (846, .lload 8, 2), (848, .lload 17, 2), (850, .lcmp, 1), (851, .ifCond .ne 7, 3), (854, .iconst 1, 1), (855, .goto 4, 3)] [.null, .null, .null, .ref 0, .long (-1 : Int64), .null] (P := (¬ (Int32.ofNat A) = (0 : Int32)) ∧ (¬ (Int32.ofNat (cs.length - A)) < (1 : Int32)) ∧ (¬ (9 : Int32) < (Int32.ofNat (cs.length - A))) ∧ (¬ (b2i true) = (0 : Int32)) ∧ ((Jvm.Cond.constantLong "com/example/covenantry/covenantry/FigurePlacesColumnPinLaw" 41 (-1 : Int64)).before a0 Z = true) ∧ ((XT.cmpL got (-1 : Int64)) = (0 : Int32)) ∧ True) (by decide +kernel) rfl ⟨(by show ¬ Int32.ofNat A = Int32.ofNat 0; rw [n_eq (by omega) (by omega)]; exact c1), (fun z => c2 ((n_lt (i := cs.length - A) (j := 1) (by omega) (by omega)).mp z)), (fun z => c3 ((n_lt (i := 9) (j := cs.length - A) (by omega) (by omega)).mp z)), (by decide), (tw hw 50 rfl), (by rw [hx]; exact cmp_self _), trivial⟩
          exact ⟨T, _, N, g1, sb1 ▸ finN K N hret (Or.inl rfl) (by decide +kernel)⟩
set_option maxHeartbeats 4000000 in
theorem nzc_12 (hw : ∀ d ∈ tables_1, d.before a0 Z = true) {z : Int32} {fm : Value} (sf : SF Z z fm) (K : Cx Z "com/example/covenantry/covenantry/FigurePlacesColumnPinLaw" code maxLocals p m c) (hret : meth.sig.returnType = ret) (O0 : Old Z n0 s.heap) (N : Nw Z n0 h p l e room_1 s m args below meth c T 8 200) (i0 : Int32) (i1 i2 : Int64) {ca sa : Addr} {cs : List Int32} (C : Av Z h ca .char (cs.map Value.int)) (hn : cs.length ≤ 13) (got : Int64) (u0 u1 u2 : Int32) {A : Nat} (hA3 : A ≤ 3) (hAl : A ≤ cs.length) (hA : A = atF cs 3 0) (hg : got = colV cs) (B : Bool) (hB : orF (badB cs A) 13 0 = B) (hp : orF (nzB cs A) 13 0 = orF (nzB cs A) 1 12) :
    EndsN Z n0 h p l e room_1 s m args below meth c T (mkF m 702 #[.val (.int i0), .val (.long i1), .second, .val (.long i2), .second, .val (.int (Int32.ofNat cs.length)), .val (.ref ca), .val (.ref sa), .val (.long got), .second, .val (.int u0), .val (.int u1), .val (.int u2), .val (.int (Int32.ofNat A)), .val (.int (Int32.ofNat (cs.length - A))), .val (.int (b2i B)), .unset, .unset, .unset, .unset, .unset] []) := by
  have g1 : Ld p e below T (mkF m 702 #[.val (.int i0), .val (.long i1), .second, .val (.long i2), .second, .val (.int (Int32.ofNat cs.length)), .val (.ref ca), .val (.ref sa), .val (.long got), .second, .val (.int u0), .val (.int u1), .val (.int u2), .val (.int (Int32.ofNat A)), .val (.int (Int32.ofNat (cs.length - A))), .val (.int (b2i B)), .unset, .unset, .unset, .unset, .unset] []) T (mkF m 710 #[.val (.int i0), .val (.long i1), .second, .val (.long i2), .second, .val (.int (Int32.ofNat cs.length)), .val (.ref ca), .val (.ref sa), .val (.long got), .second, .val (.int u0), .val (.int u1), .val (.int u2), .val (.int (Int32.ofNat A)), .val (.int (Int32.ofNat (cs.length - A))), .val (.int (b2i B)), .unset, .unset, .unset, .unset, .unset] [(.int (12 : Int32)), (.int (Int32.ofNat A)), (.int (Int32.ofNat cs.length)), (.ref ca)]) := goRun K N #[] [(702, .aload 6, 2), (704, .iload 5, 2), (706, .iload 13, 2), (708, .bipush 12, 2)] [] (P := True) (by decide +kernel) rfl trivial
  obtain ⟨v2, T2, _, N2, ⟨rfl, rfl⟩, g2⟩ := goS K N (tw hw 47 rfl) (tw hw 48 rfl) (tw hw 45 rfl) (tw hw 49 rfl) (con_nz hw C hn (A := A) (i := 12) hA3 (by decide)) (argsL := [(.ref ca), (.int (Int32.ofNat cs.length)), (.int (Int32.ofNat A)), (.int (12 : Int32))]) (W := 0) (rest := []) (by decide) (by decide) (by decide) (by decide) (by decide) (L := #[.val (.int i0), .val (.long i1), .second, .val (.long i2), .second, .val (.int (Int32.ofNat cs.length)), .val (.ref ca), .val (.ref sa), .val (.long got), .second, .val (.int u0), .val (.int u1), .val (.int u2), .val (.int (Int32.ofNat A)), .val (.int (Int32.ofNat (cs.length - A))), .val (.int (b2i B)), .unset, .unset, .unset, .unset, .unset]) rfl pd17 rfl (Nat.le_of_eq rfl) (pc := 710) (by decide +kernel)
  cases q : nzB cs A 12
  · rw [q] at g2
    have g3 : Ld p e below T2 (mkF m 713 #[.val (.int i0), .val (.long i1), .second, .val (.long i2), .second, .val (.int (Int32.ofNat cs.length)), .val (.ref ca), .val (.ref sa), .val (.long got), .second, .val (.int u0), .val (.int u1), .val (.int u2), .val (.int (Int32.ofNat A)), .val (.int (Int32.ofNat (cs.length - A))), .val (.int (b2i B)), .unset, .unset, .unset, .unset, .unset] [(.int (0 : Int32))]) T2 (mkF m 723 #[.val (.int i0), .val (.long i1), .second, .val (.long i2), .second, .val (.int (Int32.ofNat cs.length)), .val (.ref ca), .val (.ref sa), .val (.long got), .second, .val (.int u0), .val (.int u1), .val (.int u2), .val (.int (Int32.ofNat A)), .val (.int (Int32.ofNat (cs.length - A))), .val (.int (b2i B)), .val (.int (0 : Int32)), .unset, .unset, .unset, .unset] []) := goRun K N2 #[] [(713, .ifCond .eq 7, 3), (720, .iconst 0, 1), (721, .istore 16, 2)] [.ref 0] (P := ((0 : Int32) = (0 : Int32)) ∧ True) (by decide +kernel) rfl ⟨rfl, trivial⟩
    exact EndsN.pre (g1.trans (g2.trans g3)) (cmp hw sf K hret O0 N2 i0 i1 i2 C hn got u0 u1 u2 hA3 hAl B false (by rw [hg, law_eq hn, ← hA, hB, show orF (nzB cs A) 13 0 = false from (hp.trans (orN (c := 0) q))]))
  · rw [q] at g2
    have g3 : Ld p e below T2 (mkF m 713 #[.val (.int i0), .val (.long i1), .second, .val (.long i2), .second, .val (.int (Int32.ofNat cs.length)), .val (.ref ca), .val (.ref sa), .val (.long got), .second, .val (.int u0), .val (.int u1), .val (.int u2), .val (.int (Int32.ofNat A)), .val (.int (Int32.ofNat (cs.length - A))), .val (.int (b2i B)), .unset, .unset, .unset, .unset, .unset] [(.int (1 : Int32))]) T2 (mkF m 723 #[.val (.int i0), .val (.long i1), .second, .val (.long i2), .second, .val (.int (Int32.ofNat cs.length)), .val (.ref ca), .val (.ref sa), .val (.long got), .second, .val (.int u0), .val (.int u1), .val (.int u2), .val (.int (Int32.ofNat A)), .val (.int (Int32.ofNat (cs.length - A))), .val (.int (b2i B)), .val (.int (1 : Int32)), .unset, .unset, .unset, .unset] []) := goRun K N2 #[] [(713, .ifCond .eq 7, 3), (716, .iconst 1, 1), (717, .goto 4, 3), (721, .istore 16, 2)] [.null] (P := (¬ (1 : Int32) = (0 : Int32)) ∧ True) (by decide +kernel) rfl ⟨(by decide), trivial⟩
    exact EndsN.pre (g1.trans (g2.trans g3)) (cmp hw sf K hret O0 N2 i0 i1 i2 C hn got u0 u1 u2 hA3 hAl B true (by rw [hg, law_eq hn, ← hA, hB, show orF (nzB cs A) 13 0 = true from (hp.trans (orY (c := 0) q))]))
set_option maxHeartbeats 4000000 in
theorem nzc_11 (hw : ∀ d ∈ tables_1, d.before a0 Z = true) {z : Int32} {fm : Value} (sf : SF Z z fm) (K : Cx Z "com/example/covenantry/covenantry/FigurePlacesColumnPinLaw" code maxLocals p m c) (hret : meth.sig.returnType = ret) (O0 : Old Z n0 s.heap) (N : Nw Z n0 h p l e room_1 s m args below meth c T 8 200) (i0 : Int32) (i1 i2 : Int64) {ca sa : Addr} {cs : List Int32} (C : Av Z h ca .char (cs.map Value.int)) (hn : cs.length ≤ 13) (got : Int64) (u0 u1 u2 : Int32) {A : Nat} (hA3 : A ≤ 3) (hAl : A ≤ cs.length) (hA : A = atF cs 3 0) (hg : got = colV cs) (B : Bool) (hB : orF (badB cs A) 13 0 = B) (hp : orF (nzB cs A) 13 0 = orF (nzB cs A) 2 11) :
    EndsN Z n0 h p l e room_1 s m args below meth c T (mkF m 688 #[.val (.int i0), .val (.long i1), .second, .val (.long i2), .second, .val (.int (Int32.ofNat cs.length)), .val (.ref ca), .val (.ref sa), .val (.long got), .second, .val (.int u0), .val (.int u1), .val (.int u2), .val (.int (Int32.ofNat A)), .val (.int (Int32.ofNat (cs.length - A))), .val (.int (b2i B)), .unset, .unset, .unset, .unset, .unset] []) := by
  have g1 : Ld p e below T (mkF m 688 #[.val (.int i0), .val (.long i1), .second, .val (.long i2), .second, .val (.int (Int32.ofNat cs.length)), .val (.ref ca), .val (.ref sa), .val (.long got), .second, .val (.int u0), .val (.int u1), .val (.int u2), .val (.int (Int32.ofNat A)), .val (.int (Int32.ofNat (cs.length - A))), .val (.int (b2i B)), .unset, .unset, .unset, .unset, .unset] []) T (mkF m 696 #[.val (.int i0), .val (.long i1), .second, .val (.long i2), .second, .val (.int (Int32.ofNat cs.length)), .val (.ref ca), .val (.ref sa), .val (.long got), .second, .val (.int u0), .val (.int u1), .val (.int u2), .val (.int (Int32.ofNat A)), .val (.int (Int32.ofNat (cs.length - A))), .val (.int (b2i B)), .unset, .unset, .unset, .unset, .unset] [(.int (11 : Int32)), (.int (Int32.ofNat A)), (.int (Int32.ofNat cs.length)), (.ref ca)]) := goRun K N #[] [(688, .aload 6, 2), (690, .iload 5, 2), (692, .iload 13, 2), (694, .bipush 11, 2)] [] (P := True) (by decide +kernel) rfl trivial
  obtain ⟨v2, T2, _, N2, ⟨rfl, rfl⟩, g2⟩ := goS K N (tw hw 47 rfl) (tw hw 48 rfl) (tw hw 45 rfl) (tw hw 49 rfl) (con_nz hw C hn (A := A) (i := 11) hA3 (by decide)) (argsL := [(.ref ca), (.int (Int32.ofNat cs.length)), (.int (Int32.ofNat A)), (.int (11 : Int32))]) (W := 0) (rest := []) (by decide) (by decide) (by decide) (by decide) (by decide) (L := #[.val (.int i0), .val (.long i1), .second, .val (.long i2), .second, .val (.int (Int32.ofNat cs.length)), .val (.ref ca), .val (.ref sa), .val (.long got), .second, .val (.int u0), .val (.int u1), .val (.int u2), .val (.int (Int32.ofNat A)), .val (.int (Int32.ofNat (cs.length - A))), .val (.int (b2i B)), .unset, .unset, .unset, .unset, .unset]) rfl pd17 rfl (Nat.le_of_eq rfl) (pc := 696) (by decide +kernel)
  cases q : nzB cs A 11
  · rw [q] at g2
    have g3 : Ld p e below T2 (mkF m 699 #[.val (.int i0), .val (.long i1), .second, .val (.long i2), .second, .val (.int (Int32.ofNat cs.length)), .val (.ref ca), .val (.ref sa), .val (.long got), .second, .val (.int u0), .val (.int u1), .val (.int u2), .val (.int (Int32.ofNat A)), .val (.int (Int32.ofNat (cs.length - A))), .val (.int (b2i B)), .unset, .unset, .unset, .unset, .unset] [(.int (0 : Int32))]) T2 (mkF m 702 #[.val (.int i0), .val (.long i1), .second, .val (.long i2), .second, .val (.int (Int32.ofNat cs.length)), .val (.ref ca), .val (.ref sa), .val (.long got), .second, .val (.int u0), .val (.int u1), .val (.int u2), .val (.int (Int32.ofNat A)), .val (.int (Int32.ofNat (cs.length - A))), .val (.int (b2i B)), .unset, .unset, .unset, .unset, .unset] []) := goRun K N2 #[] [(699, .ifCond .ne 17, 3)] [.null] (P := ((0 : Int32) = (0 : Int32)) ∧ True) (by decide +kernel) rfl ⟨rfl, trivial⟩
    exact EndsN.pre (g1.trans (g2.trans g3)) (nzc_12 hw sf K hret O0 N2 i0 i1 i2 C hn got u0 u1 u2 hA3 hAl hA hg B hB (hp.trans (orN (c := 1) q)))
  · rw [q] at g2
    have g3 : Ld p e below T2 (mkF m 699 #[.val (.int i0), .val (.long i1), .second, .val (.long i2), .second, .val (.int (Int32.ofNat cs.length)), .val (.ref ca), .val (.ref sa), .val (.long got), .second, .val (.int u0), .val (.int u1), .val (.int u2), .val (.int (Int32.ofNat A)), .val (.int (Int32.ofNat (cs.length - A))), .val (.int (b2i B)), .unset, .unset, .unset, .unset, .unset] [(.int (1 : Int32))]) T2 (mkF m 723 #[.val (.int i0), .val (.long i1), .second, .val (.long i2), .second, .val (.int (Int32.ofNat cs.length)), .val (.ref ca), .val (.ref sa), .val (.long got), .second, .val (.int u0), .val (.int u1), .val (.int u2), .val (.int (Int32.ofNat A)), .val (.int (Int32.ofNat (cs.length - A))), .val (.int (b2i B)), .val (.int (1 : Int32)), .unset, .unset, .unset, .unset] []) := goRun K N2 #[] [(699, .ifCond .ne 17, 3), (716, .iconst 1, 1), (717, .goto 4, 3), (721, .istore 16, 2)] [.ref 0] (P := (¬ (1 : Int32) = (0 : Int32)) ∧ True) (by decide +kernel) rfl ⟨(by decide), trivial⟩
    exact EndsN.pre (g1.trans (g2.trans g3)) (cmp hw sf K hret O0 N2 i0 i1 i2 C hn got u0 u1 u2 hA3 hAl B true (by rw [hg, law_eq hn, ← hA, hB, show orF (nzB cs A) 13 0 = true from (hp.trans (orY (c := 1) q))]))
set_option maxHeartbeats 4000000 in
theorem nzc_10 (hw : ∀ d ∈ tables_1, d.before a0 Z = true) {z : Int32} {fm : Value} (sf : SF Z z fm) (K : Cx Z "com/example/covenantry/covenantry/FigurePlacesColumnPinLaw" code maxLocals p m c) (hret : meth.sig.returnType = ret) (O0 : Old Z n0 s.heap) (N : Nw Z n0 h p l e room_1 s m args below meth c T 8 200) (i0 : Int32) (i1 i2 : Int64) {ca sa : Addr} {cs : List Int32} (C : Av Z h ca .char (cs.map Value.int)) (hn : cs.length ≤ 13) (got : Int64) (u0 u1 u2 : Int32) {A : Nat} (hA3 : A ≤ 3) (hAl : A ≤ cs.length) (hA : A = atF cs 3 0) (hg : got = colV cs) (B : Bool) (hB : orF (badB cs A) 13 0 = B) (hp : orF (nzB cs A) 13 0 = orF (nzB cs A) 3 10) :
    EndsN Z n0 h p l e room_1 s m args below meth c T (mkF m 674 #[.val (.int i0), .val (.long i1), .second, .val (.long i2), .second, .val (.int (Int32.ofNat cs.length)), .val (.ref ca), .val (.ref sa), .val (.long got), .second, .val (.int u0), .val (.int u1), .val (.int u2), .val (.int (Int32.ofNat A)), .val (.int (Int32.ofNat (cs.length - A))), .val (.int (b2i B)), .unset, .unset, .unset, .unset, .unset] []) := by
  have g1 : Ld p e below T (mkF m 674 #[.val (.int i0), .val (.long i1), .second, .val (.long i2), .second, .val (.int (Int32.ofNat cs.length)), .val (.ref ca), .val (.ref sa), .val (.long got), .second, .val (.int u0), .val (.int u1), .val (.int u2), .val (.int (Int32.ofNat A)), .val (.int (Int32.ofNat (cs.length - A))), .val (.int (b2i B)), .unset, .unset, .unset, .unset, .unset] []) T (mkF m 682 #[.val (.int i0), .val (.long i1), .second, .val (.long i2), .second, .val (.int (Int32.ofNat cs.length)), .val (.ref ca), .val (.ref sa), .val (.long got), .second, .val (.int u0), .val (.int u1), .val (.int u2), .val (.int (Int32.ofNat A)), .val (.int (Int32.ofNat (cs.length - A))), .val (.int (b2i B)), .unset, .unset, .unset, .unset, .unset] [(.int (10 : Int32)), (.int (Int32.ofNat A)), (.int (Int32.ofNat cs.length)), (.ref ca)]) := goRun K N #[] [(674, .aload 6, 2), (676, .iload 5, 2), (678, .iload 13, 2), (680, .bipush 10, 2)] [] (P := True) (by decide +kernel) rfl trivial
  obtain ⟨v2, T2, _, N2, ⟨rfl, rfl⟩, g2⟩ := goS K N (tw hw 47 rfl) (tw hw 48 rfl) (tw hw 45 rfl) (tw hw 49 rfl) (con_nz hw C hn (A := A) (i := 10) hA3 (by decide)) (argsL := [(.ref ca), (.int (Int32.ofNat cs.length)), (.int (Int32.ofNat A)), (.int (10 : Int32))]) (W := 0) (rest := []) (by decide) (by decide) (by decide) (by decide) (by decide) (L := #[.val (.int i0), .val (.long i1), .second, .val (.long i2), .second, .val (.int (Int32.ofNat cs.length)), .val (.ref ca), .val (.ref sa), .val (.long got), .second, .val (.int u0), .val (.int u1), .val (.int u2), .val (.int (Int32.ofNat A)), .val (.int (Int32.ofNat (cs.length - A))), .val (.int (b2i B)), .unset, .unset, .unset, .unset, .unset]) rfl pd17 rfl (Nat.le_of_eq rfl) (pc := 682) (by decide +kernel)
  cases q : nzB cs A 10
  · rw [q] at g2
    have g3 : Ld p e below T2 (mkF m 685 #[.val (.int i0), .val (.long i1), .second, .val (.long i2), .second, .val (.int (Int32.ofNat cs.length)), .val (.ref ca), .val (.ref sa), .val (.long got), .second, .val (.int u0), .val (.int u1), .val (.int u2), .val (.int (Int32.ofNat A)), .val (.int (Int32.ofNat (cs.length - A))), .val (.int (b2i B)), .unset, .unset, .unset, .unset, .unset] [(.int (0 : Int32))]) T2 (mkF m 688 #[.val (.int i0), .val (.long i1), .second, .val (.long i2), .second, .val (.int (Int32.ofNat cs.length)), .val (.ref ca), .val (.ref sa), .val (.long got), .second, .val (.int u0), .val (.int u1), .val (.int u2), .val (.int (Int32.ofNat A)), .val (.int (Int32.ofNat (cs.length - A))), .val (.int (b2i B)), .unset, .unset, .unset, .unset, .unset] []) := goRun K N2 #[] [(685, .ifCond .ne 31, 3)] [.null] (P := ((0 : Int32) = (0 : Int32)) ∧ True) (by decide +kernel) rfl ⟨rfl, trivial⟩
    exact EndsN.pre (g1.trans (g2.trans g3)) (nzc_11 hw sf K hret O0 N2 i0 i1 i2 C hn got u0 u1 u2 hA3 hAl hA hg B hB (hp.trans (orN (c := 2) q)))
  · rw [q] at g2
    have g3 : Ld p e below T2 (mkF m 685 #[.val (.int i0), .val (.long i1), .second, .val (.long i2), .second, .val (.int (Int32.ofNat cs.length)), .val (.ref ca), .val (.ref sa), .val (.long got), .second, .val (.int u0), .val (.int u1), .val (.int u2), .val (.int (Int32.ofNat A)), .val (.int (Int32.ofNat (cs.length - A))), .val (.int (b2i B)), .unset, .unset, .unset, .unset, .unset] [(.int (1 : Int32))]) T2 (mkF m 723 #[.val (.int i0), .val (.long i1), .second, .val (.long i2), .second, .val (.int (Int32.ofNat cs.length)), .val (.ref ca), .val (.ref sa), .val (.long got), .second, .val (.int u0), .val (.int u1), .val (.int u2), .val (.int (Int32.ofNat A)), .val (.int (Int32.ofNat (cs.length - A))), .val (.int (b2i B)), .val (.int (1 : Int32)), .unset, .unset, .unset, .unset] []) := goRun K N2 #[] [(685, .ifCond .ne 31, 3), (716, .iconst 1, 1), (717, .goto 4, 3), (721, .istore 16, 2)] [.ref 0] (P := (¬ (1 : Int32) = (0 : Int32)) ∧ True) (by decide +kernel) rfl ⟨(by decide), trivial⟩
    exact EndsN.pre (g1.trans (g2.trans g3)) (cmp hw sf K hret O0 N2 i0 i1 i2 C hn got u0 u1 u2 hA3 hAl B true (by rw [hg, law_eq hn, ← hA, hB, show orF (nzB cs A) 13 0 = true from (hp.trans (orY (c := 2) q))]))
set_option maxHeartbeats 4000000 in
theorem nzc_9 (hw : ∀ d ∈ tables_1, d.before a0 Z = true) {z : Int32} {fm : Value} (sf : SF Z z fm) (K : Cx Z "com/example/covenantry/covenantry/FigurePlacesColumnPinLaw" code maxLocals p m c) (hret : meth.sig.returnType = ret) (O0 : Old Z n0 s.heap) (N : Nw Z n0 h p l e room_1 s m args below meth c T 8 200) (i0 : Int32) (i1 i2 : Int64) {ca sa : Addr} {cs : List Int32} (C : Av Z h ca .char (cs.map Value.int)) (hn : cs.length ≤ 13) (got : Int64) (u0 u1 u2 : Int32) {A : Nat} (hA3 : A ≤ 3) (hAl : A ≤ cs.length) (hA : A = atF cs 3 0) (hg : got = colV cs) (B : Bool) (hB : orF (badB cs A) 13 0 = B) (hp : orF (nzB cs A) 13 0 = orF (nzB cs A) 4 9) :
    EndsN Z n0 h p l e room_1 s m args below meth c T (mkF m 660 #[.val (.int i0), .val (.long i1), .second, .val (.long i2), .second, .val (.int (Int32.ofNat cs.length)), .val (.ref ca), .val (.ref sa), .val (.long got), .second, .val (.int u0), .val (.int u1), .val (.int u2), .val (.int (Int32.ofNat A)), .val (.int (Int32.ofNat (cs.length - A))), .val (.int (b2i B)), .unset, .unset, .unset, .unset, .unset] []) := by
  have g1 : Ld p e below T (mkF m 660 #[.val (.int i0), .val (.long i1), .second, .val (.long i2), .second, .val (.int (Int32.ofNat cs.length)), .val (.ref ca), .val (.ref sa), .val (.long got), .second, .val (.int u0), .val (.int u1), .val (.int u2), .val (.int (Int32.ofNat A)), .val (.int (Int32.ofNat (cs.length - A))), .val (.int (b2i B)), .unset, .unset, .unset, .unset, .unset] []) T (mkF m 668 #[.val (.int i0), .val (.long i1), .second, .val (.long i2), .second, .val (.int (Int32.ofNat cs.length)), .val (.ref ca), .val (.ref sa), .val (.long got), .second, .val (.int u0), .val (.int u1), .val (.int u2), .val (.int (Int32.ofNat A)), .val (.int (Int32.ofNat (cs.length - A))), .val (.int (b2i B)), .unset, .unset, .unset, .unset, .unset] [(.int (9 : Int32)), (.int (Int32.ofNat A)), (.int (Int32.ofNat cs.length)), (.ref ca)]) := goRun K N #[] [(660, .aload 6, 2), (662, .iload 5, 2), (664, .iload 13, 2), (666, .bipush 9, 2)] [] (P := True) (by decide +kernel) rfl trivial
  obtain ⟨v2, T2, _, N2, ⟨rfl, rfl⟩, g2⟩ := goS K N (tw hw 47 rfl) (tw hw 48 rfl) (tw hw 45 rfl) (tw hw 49 rfl) (con_nz hw C hn (A := A) (i := 9) hA3 (by decide)) (argsL := [(.ref ca), (.int (Int32.ofNat cs.length)), (.int (Int32.ofNat A)), (.int (9 : Int32))]) (W := 0) (rest := []) (by decide) (by decide) (by decide) (by decide) (by decide) (L := #[.val (.int i0), .val (.long i1), .second, .val (.long i2), .second, .val (.int (Int32.ofNat cs.length)), .val (.ref ca), .val (.ref sa), .val (.long got), .second, .val (.int u0), .val (.int u1), .val (.int u2), .val (.int (Int32.ofNat A)), .val (.int (Int32.ofNat (cs.length - A))), .val (.int (b2i B)), .unset, .unset, .unset, .unset, .unset]) rfl pd17 rfl (Nat.le_of_eq rfl) (pc := 668) (by decide +kernel)
  cases q : nzB cs A 9
  · rw [q] at g2
    have g3 : Ld p e below T2 (mkF m 671 #[.val (.int i0), .val (.long i1), .second, .val (.long i2), .second, .val (.int (Int32.ofNat cs.length)), .val (.ref ca), .val (.ref sa), .val (.long got), .second, .val (.int u0), .val (.int u1), .val (.int u2), .val (.int (Int32.ofNat A)), .val (.int (Int32.ofNat (cs.length - A))), .val (.int (b2i B)), .unset, .unset, .unset, .unset, .unset] [(.int (0 : Int32))]) T2 (mkF m 674 #[.val (.int i0), .val (.long i1), .second, .val (.long i2), .second, .val (.int (Int32.ofNat cs.length)), .val (.ref ca), .val (.ref sa), .val (.long got), .second, .val (.int u0), .val (.int u1), .val (.int u2), .val (.int (Int32.ofNat A)), .val (.int (Int32.ofNat (cs.length - A))), .val (.int (b2i B)), .unset, .unset, .unset, .unset, .unset] []) := goRun K N2 #[] [(671, .ifCond .ne 45, 3)] [.null] (P := ((0 : Int32) = (0 : Int32)) ∧ True) (by decide +kernel) rfl ⟨rfl, trivial⟩
    exact EndsN.pre (g1.trans (g2.trans g3)) (nzc_10 hw sf K hret O0 N2 i0 i1 i2 C hn got u0 u1 u2 hA3 hAl hA hg B hB (hp.trans (orN (c := 3) q)))
  · rw [q] at g2
    have g3 : Ld p e below T2 (mkF m 671 #[.val (.int i0), .val (.long i1), .second, .val (.long i2), .second, .val (.int (Int32.ofNat cs.length)), .val (.ref ca), .val (.ref sa), .val (.long got), .second, .val (.int u0), .val (.int u1), .val (.int u2), .val (.int (Int32.ofNat A)), .val (.int (Int32.ofNat (cs.length - A))), .val (.int (b2i B)), .unset, .unset, .unset, .unset, .unset] [(.int (1 : Int32))]) T2 (mkF m 723 #[.val (.int i0), .val (.long i1), .second, .val (.long i2), .second, .val (.int (Int32.ofNat cs.length)), .val (.ref ca), .val (.ref sa), .val (.long got), .second, .val (.int u0), .val (.int u1), .val (.int u2), .val (.int (Int32.ofNat A)), .val (.int (Int32.ofNat (cs.length - A))), .val (.int (b2i B)), .val (.int (1 : Int32)), .unset, .unset, .unset, .unset] []) := goRun K N2 #[] [(671, .ifCond .ne 45, 3), (716, .iconst 1, 1), (717, .goto 4, 3), (721, .istore 16, 2)] [.ref 0] (P := (¬ (1 : Int32) = (0 : Int32)) ∧ True) (by decide +kernel) rfl ⟨(by decide), trivial⟩
    exact EndsN.pre (g1.trans (g2.trans g3)) (cmp hw sf K hret O0 N2 i0 i1 i2 C hn got u0 u1 u2 hA3 hAl B true (by rw [hg, law_eq hn, ← hA, hB, show orF (nzB cs A) 13 0 = true from (hp.trans (orY (c := 3) q))]))
set_option maxHeartbeats 4000000 in
theorem nzc_8 (hw : ∀ d ∈ tables_1, d.before a0 Z = true) {z : Int32} {fm : Value} (sf : SF Z z fm) (K : Cx Z "com/example/covenantry/covenantry/FigurePlacesColumnPinLaw" code maxLocals p m c) (hret : meth.sig.returnType = ret) (O0 : Old Z n0 s.heap) (N : Nw Z n0 h p l e room_1 s m args below meth c T 8 200) (i0 : Int32) (i1 i2 : Int64) {ca sa : Addr} {cs : List Int32} (C : Av Z h ca .char (cs.map Value.int)) (hn : cs.length ≤ 13) (got : Int64) (u0 u1 u2 : Int32) {A : Nat} (hA3 : A ≤ 3) (hAl : A ≤ cs.length) (hA : A = atF cs 3 0) (hg : got = colV cs) (B : Bool) (hB : orF (badB cs A) 13 0 = B) (hp : orF (nzB cs A) 13 0 = orF (nzB cs A) 5 8) :
    EndsN Z n0 h p l e room_1 s m args below meth c T (mkF m 646 #[.val (.int i0), .val (.long i1), .second, .val (.long i2), .second, .val (.int (Int32.ofNat cs.length)), .val (.ref ca), .val (.ref sa), .val (.long got), .second, .val (.int u0), .val (.int u1), .val (.int u2), .val (.int (Int32.ofNat A)), .val (.int (Int32.ofNat (cs.length - A))), .val (.int (b2i B)), .unset, .unset, .unset, .unset, .unset] []) := by
  have g1 : Ld p e below T (mkF m 646 #[.val (.int i0), .val (.long i1), .second, .val (.long i2), .second, .val (.int (Int32.ofNat cs.length)), .val (.ref ca), .val (.ref sa), .val (.long got), .second, .val (.int u0), .val (.int u1), .val (.int u2), .val (.int (Int32.ofNat A)), .val (.int (Int32.ofNat (cs.length - A))), .val (.int (b2i B)), .unset, .unset, .unset, .unset, .unset] []) T (mkF m 654 #[.val (.int i0), .val (.long i1), .second, .val (.long i2), .second, .val (.int (Int32.ofNat cs.length)), .val (.ref ca), .val (.ref sa), .val (.long got), .second, .val (.int u0), .val (.int u1), .val (.int u2), .val (.int (Int32.ofNat A)), .val (.int (Int32.ofNat (cs.length - A))), .val (.int (b2i B)), .unset, .unset, .unset, .unset, .unset] [(.int (8 : Int32)), (.int (Int32.ofNat A)), (.int (Int32.ofNat cs.length)), (.ref ca)]) := goRun K N #[] [(646, .aload 6, 2), (648, .iload 5, 2), (650, .iload 13, 2), (652, .bipush 8, 2)] [] (P := True) (by decide +kernel) rfl trivial
  obtain ⟨v2, T2, _, N2, ⟨rfl, rfl⟩, g2⟩ := goS K N (tw hw 47 rfl) (tw hw 48 rfl) (tw hw 45 rfl) (tw hw 49 rfl) (con_nz hw C hn (A := A) (i := 8) hA3 (by decide)) (argsL := [(.ref ca), (.int (Int32.ofNat cs.length)), (.int (Int32.ofNat A)), (.int (8 : Int32))]) (W := 0) (rest := []) (by decide) (by decide) (by decide) (by decide) (by decide) (L := #[.val (.int i0), .val (.long i1), .second, .val (.long i2), .second, .val (.int (Int32.ofNat cs.length)), .val (.ref ca), .val (.ref sa), .val (.long got), .second, .val (.int u0), .val (.int u1), .val (.int u2), .val (.int (Int32.ofNat A)), .val (.int (Int32.ofNat (cs.length - A))), .val (.int (b2i B)), .unset, .unset, .unset, .unset, .unset]) rfl pd17 rfl (Nat.le_of_eq rfl) (pc := 654) (by decide +kernel)
  cases q : nzB cs A 8
  · rw [q] at g2
    have g3 : Ld p e below T2 (mkF m 657 #[.val (.int i0), .val (.long i1), .second, .val (.long i2), .second, .val (.int (Int32.ofNat cs.length)), .val (.ref ca), .val (.ref sa), .val (.long got), .second, .val (.int u0), .val (.int u1), .val (.int u2), .val (.int (Int32.ofNat A)), .val (.int (Int32.ofNat (cs.length - A))), .val (.int (b2i B)), .unset, .unset, .unset, .unset, .unset] [(.int (0 : Int32))]) T2 (mkF m 660 #[.val (.int i0), .val (.long i1), .second, .val (.long i2), .second, .val (.int (Int32.ofNat cs.length)), .val (.ref ca), .val (.ref sa), .val (.long got), .second, .val (.int u0), .val (.int u1), .val (.int u2), .val (.int (Int32.ofNat A)), .val (.int (Int32.ofNat (cs.length - A))), .val (.int (b2i B)), .unset, .unset, .unset, .unset, .unset] []) := goRun K N2 #[] [(657, .ifCond .ne 59, 3)] [.null] (P := ((0 : Int32) = (0 : Int32)) ∧ True) (by decide +kernel) rfl ⟨rfl, trivial⟩
    exact EndsN.pre (g1.trans (g2.trans g3)) (nzc_9 hw sf K hret O0 N2 i0 i1 i2 C hn got u0 u1 u2 hA3 hAl hA hg B hB (hp.trans (orN (c := 4) q)))
  · rw [q] at g2
    have g3 : Ld p e below T2 (mkF m 657 #[.val (.int i0), .val (.long i1), .second, .val (.long i2), .second, .val (.int (Int32.ofNat cs.length)), .val (.ref ca), .val (.ref sa), .val (.long got), .second, .val (.int u0), .val (.int u1), .val (.int u2), .val (.int (Int32.ofNat A)), .val (.int (Int32.ofNat (cs.length - A))), .val (.int (b2i B)), .unset, .unset, .unset, .unset, .unset] [(.int (1 : Int32))]) T2 (mkF m 723 #[.val (.int i0), .val (.long i1), .second, .val (.long i2), .second, .val (.int (Int32.ofNat cs.length)), .val (.ref ca), .val (.ref sa), .val (.long got), .second, .val (.int u0), .val (.int u1), .val (.int u2), .val (.int (Int32.ofNat A)), .val (.int (Int32.ofNat (cs.length - A))), .val (.int (b2i B)), .val (.int (1 : Int32)), .unset, .unset, .unset, .unset] []) := goRun K N2 #[] [(657, .ifCond .ne 59, 3), (716, .iconst 1, 1), (717, .goto 4, 3), (721, .istore 16, 2)] [.ref 0] (P := (¬ (1 : Int32) = (0 : Int32)) ∧ True) (by decide +kernel) rfl ⟨(by decide), trivial⟩
    exact EndsN.pre (g1.trans (g2.trans g3)) (cmp hw sf K hret O0 N2 i0 i1 i2 C hn got u0 u1 u2 hA3 hAl B true (by rw [hg, law_eq hn, ← hA, hB, show orF (nzB cs A) 13 0 = true from (hp.trans (orY (c := 4) q))]))
set_option maxHeartbeats 4000000 in
theorem nzc_7 (hw : ∀ d ∈ tables_1, d.before a0 Z = true) {z : Int32} {fm : Value} (sf : SF Z z fm) (K : Cx Z "com/example/covenantry/covenantry/FigurePlacesColumnPinLaw" code maxLocals p m c) (hret : meth.sig.returnType = ret) (O0 : Old Z n0 s.heap) (N : Nw Z n0 h p l e room_1 s m args below meth c T 8 200) (i0 : Int32) (i1 i2 : Int64) {ca sa : Addr} {cs : List Int32} (C : Av Z h ca .char (cs.map Value.int)) (hn : cs.length ≤ 13) (got : Int64) (u0 u1 u2 : Int32) {A : Nat} (hA3 : A ≤ 3) (hAl : A ≤ cs.length) (hA : A = atF cs 3 0) (hg : got = colV cs) (B : Bool) (hB : orF (badB cs A) 13 0 = B) (hp : orF (nzB cs A) 13 0 = orF (nzB cs A) 6 7) :
    EndsN Z n0 h p l e room_1 s m args below meth c T (mkF m 632 #[.val (.int i0), .val (.long i1), .second, .val (.long i2), .second, .val (.int (Int32.ofNat cs.length)), .val (.ref ca), .val (.ref sa), .val (.long got), .second, .val (.int u0), .val (.int u1), .val (.int u2), .val (.int (Int32.ofNat A)), .val (.int (Int32.ofNat (cs.length - A))), .val (.int (b2i B)), .unset, .unset, .unset, .unset, .unset] []) := by
  have g1 : Ld p e below T (mkF m 632 #[.val (.int i0), .val (.long i1), .second, .val (.long i2), .second, .val (.int (Int32.ofNat cs.length)), .val (.ref ca), .val (.ref sa), .val (.long got), .second, .val (.int u0), .val (.int u1), .val (.int u2), .val (.int (Int32.ofNat A)), .val (.int (Int32.ofNat (cs.length - A))), .val (.int (b2i B)), .unset, .unset, .unset, .unset, .unset] []) T (mkF m 640 #[.val (.int i0), .val (.long i1), .second, .val (.long i2), .second, .val (.int (Int32.ofNat cs.length)), .val (.ref ca), .val (.ref sa), .val (.long got), .second, .val (.int u0), .val (.int u1), .val (.int u2), .val (.int (Int32.ofNat A)), .val (.int (Int32.ofNat (cs.length - A))), .val (.int (b2i B)), .unset, .unset, .unset, .unset, .unset] [(.int (7 : Int32)), (.int (Int32.ofNat A)), (.int (Int32.ofNat cs.length)), (.ref ca)]) := goRun K N #[] [(632, .aload 6, 2), (634, .iload 5, 2), (636, .iload 13, 2), (638, .bipush 7, 2)] [] (P := True) (by decide +kernel) rfl trivial
  obtain ⟨v2, T2, _, N2, ⟨rfl, rfl⟩, g2⟩ := goS K N (tw hw 47 rfl) (tw hw 48 rfl) (tw hw 45 rfl) (tw hw 49 rfl) (con_nz hw C hn (A := A) (i := 7) hA3 (by decide)) (argsL := [(.ref ca), (.int (Int32.ofNat cs.length)), (.int (Int32.ofNat A)), (.int (7 : Int32))]) (W := 0) (rest := []) (by decide) (by decide) (by decide) (by decide) (by decide) (L := #[.val (.int i0), .val (.long i1), .second, .val (.long i2), .second, .val (.int (Int32.ofNat cs.length)), .val (.ref ca), .val (.ref sa), .val (.long got), .second, .val (.int u0), .val (.int u1), .val (.int u2), .val (.int (Int32.ofNat A)), .val (.int (Int32.ofNat (cs.length - A))), .val (.int (b2i B)), .unset, .unset, .unset, .unset, .unset]) rfl pd17 rfl (Nat.le_of_eq rfl) (pc := 640) (by decide +kernel)
  cases q : nzB cs A 7
  · rw [q] at g2
    have g3 : Ld p e below T2 (mkF m 643 #[.val (.int i0), .val (.long i1), .second, .val (.long i2), .second, .val (.int (Int32.ofNat cs.length)), .val (.ref ca), .val (.ref sa), .val (.long got), .second, .val (.int u0), .val (.int u1), .val (.int u2), .val (.int (Int32.ofNat A)), .val (.int (Int32.ofNat (cs.length - A))), .val (.int (b2i B)), .unset, .unset, .unset, .unset, .unset] [(.int (0 : Int32))]) T2 (mkF m 646 #[.val (.int i0), .val (.long i1), .second, .val (.long i2), .second, .val (.int (Int32.ofNat cs.length)), .val (.ref ca), .val (.ref sa), .val (.long got), .second, .val (.int u0), .val (.int u1), .val (.int u2), .val (.int (Int32.ofNat A)), .val (.int (Int32.ofNat (cs.length - A))), .val (.int (b2i B)), .unset, .unset, .unset, .unset, .unset] []) := goRun K N2 #[] [(643, .ifCond .ne 73, 3)] [.null] (P := ((0 : Int32) = (0 : Int32)) ∧ True) (by decide +kernel) rfl ⟨rfl, trivial⟩
    exact EndsN.pre (g1.trans (g2.trans g3)) (nzc_8 hw sf K hret O0 N2 i0 i1 i2 C hn got u0 u1 u2 hA3 hAl hA hg B hB (hp.trans (orN (c := 5) q)))
  · rw [q] at g2
    have g3 : Ld p e below T2 (mkF m 643 #[.val (.int i0), .val (.long i1), .second, .val (.long i2), .second, .val (.int (Int32.ofNat cs.length)), .val (.ref ca), .val (.ref sa), .val (.long got), .second, .val (.int u0), .val (.int u1), .val (.int u2), .val (.int (Int32.ofNat A)), .val (.int (Int32.ofNat (cs.length - A))), .val (.int (b2i B)), .unset, .unset, .unset, .unset, .unset] [(.int (1 : Int32))]) T2 (mkF m 723 #[.val (.int i0), .val (.long i1), .second, .val (.long i2), .second, .val (.int (Int32.ofNat cs.length)), .val (.ref ca), .val (.ref sa), .val (.long got), .second, .val (.int u0), .val (.int u1), .val (.int u2), .val (.int (Int32.ofNat A)), .val (.int (Int32.ofNat (cs.length - A))), .val (.int (b2i B)), .val (.int (1 : Int32)), .unset, .unset, .unset, .unset] []) := goRun K N2 #[] [(643, .ifCond .ne 73, 3), (716, .iconst 1, 1), (717, .goto 4, 3), (721, .istore 16, 2)] [.ref 0] (P := (¬ (1 : Int32) = (0 : Int32)) ∧ True) (by decide +kernel) rfl ⟨(by decide), trivial⟩
    exact EndsN.pre (g1.trans (g2.trans g3)) (cmp hw sf K hret O0 N2 i0 i1 i2 C hn got u0 u1 u2 hA3 hAl B true (by rw [hg, law_eq hn, ← hA, hB, show orF (nzB cs A) 13 0 = true from (hp.trans (orY (c := 5) q))]))
set_option maxHeartbeats 4000000 in
theorem nzc_6 (hw : ∀ d ∈ tables_1, d.before a0 Z = true) {z : Int32} {fm : Value} (sf : SF Z z fm) (K : Cx Z "com/example/covenantry/covenantry/FigurePlacesColumnPinLaw" code maxLocals p m c) (hret : meth.sig.returnType = ret) (O0 : Old Z n0 s.heap) (N : Nw Z n0 h p l e room_1 s m args below meth c T 8 200) (i0 : Int32) (i1 i2 : Int64) {ca sa : Addr} {cs : List Int32} (C : Av Z h ca .char (cs.map Value.int)) (hn : cs.length ≤ 13) (got : Int64) (u0 u1 u2 : Int32) {A : Nat} (hA3 : A ≤ 3) (hAl : A ≤ cs.length) (hA : A = atF cs 3 0) (hg : got = colV cs) (B : Bool) (hB : orF (badB cs A) 13 0 = B) (hp : orF (nzB cs A) 13 0 = orF (nzB cs A) 7 6) :
    EndsN Z n0 h p l e room_1 s m args below meth c T (mkF m 618 #[.val (.int i0), .val (.long i1), .second, .val (.long i2), .second, .val (.int (Int32.ofNat cs.length)), .val (.ref ca), .val (.ref sa), .val (.long got), .second, .val (.int u0), .val (.int u1), .val (.int u2), .val (.int (Int32.ofNat A)), .val (.int (Int32.ofNat (cs.length - A))), .val (.int (b2i B)), .unset, .unset, .unset, .unset, .unset] []) := by
  have g1 : Ld p e below T (mkF m 618 #[.val (.int i0), .val (.long i1), .second, .val (.long i2), .second, .val (.int (Int32.ofNat cs.length)), .val (.ref ca), .val (.ref sa), .val (.long got), .second, .val (.int u0), .val (.int u1), .val (.int u2), .val (.int (Int32.ofNat A)), .val (.int (Int32.ofNat (cs.length - A))), .val (.int (b2i B)), .unset, .unset, .unset, .unset, .unset] []) T (mkF m 626 #[.val (.int i0), .val (.long i1), .second, .val (.long i2), .second, .val (.int (Int32.ofNat cs.length)), .val (.ref ca), .val (.ref sa), .val (.long got), .second, .val (.int u0), .val (.int u1), .val (.int u2), .val (.int (Int32.ofNat A)), .val (.int (Int32.ofNat (cs.length - A))), .val (.int (b2i B)), .unset, .unset, .unset, .unset, .unset] [(.int (6 : Int32)), (.int (Int32.ofNat A)), (.int (Int32.ofNat cs.length)), (.ref ca)]) := goRun K N #[] [(618, .aload 6, 2), (620, .iload 5, 2), (622, .iload 13, 2), (624, .bipush 6, 2)] [] (P := True) (by decide +kernel) rfl trivial
  obtain ⟨v2, T2, _, N2, ⟨rfl, rfl⟩, g2⟩ := goS K N (tw hw 47 rfl) (tw hw 48 rfl) (tw hw 45 rfl) (tw hw 49 rfl) (con_nz hw C hn (A := A) (i := 6) hA3 (by decide)) (argsL := [(.ref ca), (.int (Int32.ofNat cs.length)), (.int (Int32.ofNat A)), (.int (6 : Int32))]) (W := 0) (rest := []) (by decide) (by decide) (by decide) (by decide) (by decide) (L := #[.val (.int i0), .val (.long i1), .second, .val (.long i2), .second, .val (.int (Int32.ofNat cs.length)), .val (.ref ca), .val (.ref sa), .val (.long got), .second, .val (.int u0), .val (.int u1), .val (.int u2), .val (.int (Int32.ofNat A)), .val (.int (Int32.ofNat (cs.length - A))), .val (.int (b2i B)), .unset, .unset, .unset, .unset, .unset]) rfl pd17 rfl (Nat.le_of_eq rfl) (pc := 626) (by decide +kernel)
  cases q : nzB cs A 6
  · rw [q] at g2
    have g3 : Ld p e below T2 (mkF m 629 #[.val (.int i0), .val (.long i1), .second, .val (.long i2), .second, .val (.int (Int32.ofNat cs.length)), .val (.ref ca), .val (.ref sa), .val (.long got), .second, .val (.int u0), .val (.int u1), .val (.int u2), .val (.int (Int32.ofNat A)), .val (.int (Int32.ofNat (cs.length - A))), .val (.int (b2i B)), .unset, .unset, .unset, .unset, .unset] [(.int (0 : Int32))]) T2 (mkF m 632 #[.val (.int i0), .val (.long i1), .second, .val (.long i2), .second, .val (.int (Int32.ofNat cs.length)), .val (.ref ca), .val (.ref sa), .val (.long got), .second, .val (.int u0), .val (.int u1), .val (.int u2), .val (.int (Int32.ofNat A)), .val (.int (Int32.ofNat (cs.length - A))), .val (.int (b2i B)), .unset, .unset, .unset, .unset, .unset] []) := goRun K N2 #[] [(629, .ifCond .ne 87, 3)] [.null] (P := ((0 : Int32) = (0 : Int32)) ∧ True) (by decide +kernel) rfl ⟨rfl, trivial⟩
    exact EndsN.pre (g1.trans (g2.trans g3)) (nzc_7 hw sf K hret O0 N2 i0 i1 i2 C hn got u0 u1 u2 hA3 hAl hA hg B hB (hp.trans (orN (c := 6) q)))
  · rw [q] at g2
    have g3 : Ld p e below T2 (mkF m 629 #[.val (.int i0), .val (.long i1), .second, .val (.long i2), .second, .val (.int (Int32.ofNat cs.length)), .val (.ref ca), .val (.ref sa), .val (.long got), .second, .val (.int u0), .val (.int u1), .val (.int u2), .val (.int (Int32.ofNat A)), .val (.int (Int32.ofNat (cs.length - A))), .val (.int (b2i B)), .unset, .unset, .unset, .unset, .unset] [(.int (1 : Int32))]) T2 (mkF m 723 #[.val (.int i0), .val (.long i1), .second, .val (.long i2), .second, .val (.int (Int32.ofNat cs.length)), .val (.ref ca), .val (.ref sa), .val (.long got), .second, .val (.int u0), .val (.int u1), .val (.int u2), .val (.int (Int32.ofNat A)), .val (.int (Int32.ofNat (cs.length - A))), .val (.int (b2i B)), .val (.int (1 : Int32)), .unset, .unset, .unset, .unset] []) := goRun K N2 #[] [(629, .ifCond .ne 87, 3), (716, .iconst 1, 1), (717, .goto 4, 3), (721, .istore 16, 2)] [.ref 0] (P := (¬ (1 : Int32) = (0 : Int32)) ∧ True) (by decide +kernel) rfl ⟨(by decide), trivial⟩
    exact EndsN.pre (g1.trans (g2.trans g3)) (cmp hw sf K hret O0 N2 i0 i1 i2 C hn got u0 u1 u2 hA3 hAl B true (by rw [hg, law_eq hn, ← hA, hB, show orF (nzB cs A) 13 0 = true from (hp.trans (orY (c := 6) q))]))
set_option maxHeartbeats 4000000 in
theorem nzc_5 (hw : ∀ d ∈ tables_1, d.before a0 Z = true) {z : Int32} {fm : Value} (sf : SF Z z fm) (K : Cx Z "com/example/covenantry/covenantry/FigurePlacesColumnPinLaw" code maxLocals p m c) (hret : meth.sig.returnType = ret) (O0 : Old Z n0 s.heap) (N : Nw Z n0 h p l e room_1 s m args below meth c T 8 200) (i0 : Int32) (i1 i2 : Int64) {ca sa : Addr} {cs : List Int32} (C : Av Z h ca .char (cs.map Value.int)) (hn : cs.length ≤ 13) (got : Int64) (u0 u1 u2 : Int32) {A : Nat} (hA3 : A ≤ 3) (hAl : A ≤ cs.length) (hA : A = atF cs 3 0) (hg : got = colV cs) (B : Bool) (hB : orF (badB cs A) 13 0 = B) (hp : orF (nzB cs A) 13 0 = orF (nzB cs A) 8 5) :
    EndsN Z n0 h p l e room_1 s m args below meth c T (mkF m 605 #[.val (.int i0), .val (.long i1), .second, .val (.long i2), .second, .val (.int (Int32.ofNat cs.length)), .val (.ref ca), .val (.ref sa), .val (.long got), .second, .val (.int u0), .val (.int u1), .val (.int u2), .val (.int (Int32.ofNat A)), .val (.int (Int32.ofNat (cs.length - A))), .val (.int (b2i B)), .unset, .unset, .unset, .unset, .unset] []) := by
  have g1 : Ld p e below T (mkF m 605 #[.val (.int i0), .val (.long i1), .second, .val (.long i2), .second, .val (.int (Int32.ofNat cs.length)), .val (.ref ca), .val (.ref sa), .val (.long got), .second, .val (.int u0), .val (.int u1), .val (.int u2), .val (.int (Int32.ofNat A)), .val (.int (Int32.ofNat (cs.length - A))), .val (.int (b2i B)), .unset, .unset, .unset, .unset, .unset] []) T (mkF m 612 #[.val (.int i0), .val (.long i1), .second, .val (.long i2), .second, .val (.int (Int32.ofNat cs.length)), .val (.ref ca), .val (.ref sa), .val (.long got), .second, .val (.int u0), .val (.int u1), .val (.int u2), .val (.int (Int32.ofNat A)), .val (.int (Int32.ofNat (cs.length - A))), .val (.int (b2i B)), .unset, .unset, .unset, .unset, .unset] [(.int (5 : Int32)), (.int (Int32.ofNat A)), (.int (Int32.ofNat cs.length)), (.ref ca)]) := goRun K N #[] [(605, .aload 6, 2), (607, .iload 5, 2), (609, .iload 13, 2), (611, .iconst 5, 1)] [] (P := True) (by decide +kernel) rfl trivial
  obtain ⟨v2, T2, _, N2, ⟨rfl, rfl⟩, g2⟩ := goS K N (tw hw 47 rfl) (tw hw 48 rfl) (tw hw 45 rfl) (tw hw 49 rfl) (con_nz hw C hn (A := A) (i := 5) hA3 (by decide)) (argsL := [(.ref ca), (.int (Int32.ofNat cs.length)), (.int (Int32.ofNat A)), (.int (5 : Int32))]) (W := 0) (rest := []) (by decide) (by decide) (by decide) (by decide) (by decide) (L := #[.val (.int i0), .val (.long i1), .second, .val (.long i2), .second, .val (.int (Int32.ofNat cs.length)), .val (.ref ca), .val (.ref sa), .val (.long got), .second, .val (.int u0), .val (.int u1), .val (.int u2), .val (.int (Int32.ofNat A)), .val (.int (Int32.ofNat (cs.length - A))), .val (.int (b2i B)), .unset, .unset, .unset, .unset, .unset]) rfl pd17 rfl (Nat.le_of_eq rfl) (pc := 612) (by decide +kernel)
  cases q : nzB cs A 5
  · rw [q] at g2
    have g3 : Ld p e below T2 (mkF m 615 #[.val (.int i0), .val (.long i1), .second, .val (.long i2), .second, .val (.int (Int32.ofNat cs.length)), .val (.ref ca), .val (.ref sa), .val (.long got), .second, .val (.int u0), .val (.int u1), .val (.int u2), .val (.int (Int32.ofNat A)), .val (.int (Int32.ofNat (cs.length - A))), .val (.int (b2i B)), .unset, .unset, .unset, .unset, .unset] [(.int (0 : Int32))]) T2 (mkF m 618 #[.val (.int i0), .val (.long i1), .second, .val (.long i2), .second, .val (.int (Int32.ofNat cs.length)), .val (.ref ca), .val (.ref sa), .val (.long got), .second, .val (.int u0), .val (.int u1), .val (.int u2), .val (.int (Int32.ofNat A)), .val (.int (Int32.ofNat (cs.length - A))), .val (.int (b2i B)), .unset, .unset, .unset, .unset, .unset] []) := goRun K N2 #[] [(615, .ifCond .ne 101, 3)] [.null] (P := ((0 : Int32) = (0 : Int32)) ∧ True) (by decide +kernel) rfl ⟨rfl, trivial⟩
    exact EndsN.pre (g1.trans (g2.trans g3)) (nzc_6 hw sf K hret O0 N2 i0 i1 i2 C hn got u0 u1 u2 hA3 hAl hA hg B hB (hp.trans (orN (c := 7) q)))
  · rw [q] at g2
    have g3 : Ld p e below T2 (mkF m 615 #[.val (.int i0), .val (.long i1), .second, .val (.long i2), .second, .val (.int (Int32.ofNat cs.length)), .val (.ref ca), .val (.ref sa), .val (.long got), .second, .val (.int u0), .val (.int u1), .val (.int u2), .val (.int (Int32.ofNat A)), .val (.int (Int32.ofNat (cs.length - A))), .val (.int (b2i B)), .unset, .unset, .unset, .unset, .unset] [(.int (1 : Int32))]) T2 (mkF m 723 #[.val (.int i0), .val (.long i1), .second, .val (.long i2), .second, .val (.int (Int32.ofNat cs.length)), .val (.ref ca), .val (.ref sa), .val (.long got), .second, .val (.int u0), .val (.int u1), .val (.int u2), .val (.int (Int32.ofNat A)), .val (.int (Int32.ofNat (cs.length - A))), .val (.int (b2i B)), .val (.int (1 : Int32)), .unset, .unset, .unset, .unset] []) := goRun K N2 #[] [(615, .ifCond .ne 101, 3), (716, .iconst 1, 1), (717, .goto 4, 3), (721, .istore 16, 2)] [.ref 0] (P := (¬ (1 : Int32) = (0 : Int32)) ∧ True) (by decide +kernel) rfl ⟨(by decide), trivial⟩
    exact EndsN.pre (g1.trans (g2.trans g3)) (cmp hw sf K hret O0 N2 i0 i1 i2 C hn got u0 u1 u2 hA3 hAl B true (by rw [hg, law_eq hn, ← hA, hB, show orF (nzB cs A) 13 0 = true from (hp.trans (orY (c := 7) q))]))
set_option maxHeartbeats 4000000 in
theorem nzc_4 (hw : ∀ d ∈ tables_1, d.before a0 Z = true) {z : Int32} {fm : Value} (sf : SF Z z fm) (K : Cx Z "com/example/covenantry/covenantry/FigurePlacesColumnPinLaw" code maxLocals p m c) (hret : meth.sig.returnType = ret) (O0 : Old Z n0 s.heap) (N : Nw Z n0 h p l e room_1 s m args below meth c T 8 200) (i0 : Int32) (i1 i2 : Int64) {ca sa : Addr} {cs : List Int32} (C : Av Z h ca .char (cs.map Value.int)) (hn : cs.length ≤ 13) (got : Int64) (u0 u1 u2 : Int32) {A : Nat} (hA3 : A ≤ 3) (hAl : A ≤ cs.length) (hA : A = atF cs 3 0) (hg : got = colV cs) (B : Bool) (hB : orF (badB cs A) 13 0 = B) (hp : orF (nzB cs A) 13 0 = orF (nzB cs A) 9 4) :
    EndsN Z n0 h p l e room_1 s m args below meth c T (mkF m 592 #[.val (.int i0), .val (.long i1), .second, .val (.long i2), .second, .val (.int (Int32.ofNat cs.length)), .val (.ref ca), .val (.ref sa), .val (.long got), .second, .val (.int u0), .val (.int u1), .val (.int u2), .val (.int (Int32.ofNat A)), .val (.int (Int32.ofNat (cs.length - A))), .val (.int (b2i B)), .unset, .unset, .unset, .unset, .unset] []) := by
  have g1 : Ld p e below T (mkF m 592 #[.val (.int i0), .val (.long i1), .second, .val (.long i2), .second, .val (.int (Int32.ofNat cs.length)), .val (.ref ca), .val (.ref sa), .val (.long got), .second, .val (.int u0), .val (.int u1), .val (.int u2), .val (.int (Int32.ofNat A)), .val (.int (Int32.ofNat (cs.length - A))), .val (.int (b2i B)), .unset, .unset, .unset, .unset, .unset] []) T (mkF m 599 #[.val (.int i0), .val (.long i1), .second, .val (.long i2), .second, .val (.int (Int32.ofNat cs.length)), .val (.ref ca), .val (.ref sa), .val (.long got), .second, .val (.int u0), .val (.int u1), .val (.int u2), .val (.int (Int32.ofNat A)), .val (.int (Int32.ofNat (cs.length - A))), .val (.int (b2i B)), .unset, .unset, .unset, .unset, .unset] [(.int (4 : Int32)), (.int (Int32.ofNat A)), (.int (Int32.ofNat cs.length)), (.ref ca)]) := goRun K N #[] [(592, .aload 6, 2), (594, .iload 5, 2), (596, .iload 13, 2), (598, .iconst 4, 1)] [] (P := True) (by decide +kernel) rfl trivial
  obtain ⟨v2, T2, _, N2, ⟨rfl, rfl⟩, g2⟩ := goS K N (tw hw 47 rfl) (tw hw 48 rfl) (tw hw 45 rfl) (tw hw 49 rfl) (con_nz hw C hn (A := A) (i := 4) hA3 (by decide)) (argsL := [(.ref ca), (.int (Int32.ofNat cs.length)), (.int (Int32.ofNat A)), (.int (4 : Int32))]) (W := 0) (rest := []) (by decide) (by decide) (by decide) (by decide) (by decide) (L := #[.val (.int i0), .val (.long i1), .second, .val (.long i2), .second, .val (.int (Int32.ofNat cs.length)), .val (.ref ca), .val (.ref sa), .val (.long got), .second, .val (.int u0), .val (.int u1), .val (.int u2), .val (.int (Int32.ofNat A)), .val (.int (Int32.ofNat (cs.length - A))), .val (.int (b2i B)), .unset, .unset, .unset, .unset, .unset]) rfl pd17 rfl (Nat.le_of_eq rfl) (pc := 599) (by decide +kernel)
  cases q : nzB cs A 4
  · rw [q] at g2
    have g3 : Ld p e below T2 (mkF m 602 #[.val (.int i0), .val (.long i1), .second, .val (.long i2), .second, .val (.int (Int32.ofNat cs.length)), .val (.ref ca), .val (.ref sa), .val (.long got), .second, .val (.int u0), .val (.int u1), .val (.int u2), .val (.int (Int32.ofNat A)), .val (.int (Int32.ofNat (cs.length - A))), .val (.int (b2i B)), .unset, .unset, .unset, .unset, .unset] [(.int (0 : Int32))]) T2 (mkF m 605 #[.val (.int i0), .val (.long i1), .second, .val (.long i2), .second, .val (.int (Int32.ofNat cs.length)), .val (.ref ca), .val (.ref sa), .val (.long got), .second, .val (.int u0), .val (.int u1), .val (.int u2), .val (.int (Int32.ofNat A)), .val (.int (Int32.ofNat (cs.length - A))), .val (.int (b2i B)), .unset, .unset, .unset, .unset, .unset] []) := goRun K N2 #[] [(602, .ifCond .ne 114, 3)] [.null] (P := ((0 : Int32) = (0 : Int32)) ∧ True) (by decide +kernel) rfl ⟨rfl, trivial⟩
    exact EndsN.pre (g1.trans (g2.trans g3)) (nzc_5 hw sf K hret O0 N2 i0 i1 i2 C hn got u0 u1 u2 hA3 hAl hA hg B hB (hp.trans (orN (c := 8) q)))
  · rw [q] at g2
    have g3 : Ld p e below T2 (mkF m 602 #[.val (.int i0), .val (.long i1), .second, .val (.long i2), .second, .val (.int (Int32.ofNat cs.length)), .val (.ref ca), .val (.ref sa), .val (.long got), .second, .val (.int u0), .val (.int u1), .val (.int u2), .val (.int (Int32.ofNat A)), .val (.int (Int32.ofNat (cs.length - A))), .val (.int (b2i B)), .unset, .unset, .unset, .unset, .unset] [(.int (1 : Int32))]) T2 (mkF m 723 #[.val (.int i0), .val (.long i1), .second, .val (.long i2), .second, .val (.int (Int32.ofNat cs.length)), .val (.ref ca), .val (.ref sa), .val (.long got), .second, .val (.int u0), .val (.int u1), .val (.int u2), .val (.int (Int32.ofNat A)), .val (.int (Int32.ofNat (cs.length - A))), .val (.int (b2i B)), .val (.int (1 : Int32)), .unset, .unset, .unset, .unset] []) := goRun K N2 #[] [(602, .ifCond .ne 114, 3), (716, .iconst 1, 1), (717, .goto 4, 3), (721, .istore 16, 2)] [.ref 0] (P := (¬ (1 : Int32) = (0 : Int32)) ∧ True) (by decide +kernel) rfl ⟨(by decide), trivial⟩
    exact EndsN.pre (g1.trans (g2.trans g3)) (cmp hw sf K hret O0 N2 i0 i1 i2 C hn got u0 u1 u2 hA3 hAl B true (by rw [hg, law_eq hn, ← hA, hB, show orF (nzB cs A) 13 0 = true from (hp.trans (orY (c := 8) q))]))
set_option maxHeartbeats 4000000 in
theorem nzc_3 (hw : ∀ d ∈ tables_1, d.before a0 Z = true) {z : Int32} {fm : Value} (sf : SF Z z fm) (K : Cx Z "com/example/covenantry/covenantry/FigurePlacesColumnPinLaw" code maxLocals p m c) (hret : meth.sig.returnType = ret) (O0 : Old Z n0 s.heap) (N : Nw Z n0 h p l e room_1 s m args below meth c T 8 200) (i0 : Int32) (i1 i2 : Int64) {ca sa : Addr} {cs : List Int32} (C : Av Z h ca .char (cs.map Value.int)) (hn : cs.length ≤ 13) (got : Int64) (u0 u1 u2 : Int32) {A : Nat} (hA3 : A ≤ 3) (hAl : A ≤ cs.length) (hA : A = atF cs 3 0) (hg : got = colV cs) (B : Bool) (hB : orF (badB cs A) 13 0 = B) (hp : orF (nzB cs A) 13 0 = orF (nzB cs A) 10 3) :
    EndsN Z n0 h p l e room_1 s m args below meth c T (mkF m 579 #[.val (.int i0), .val (.long i1), .second, .val (.long i2), .second, .val (.int (Int32.ofNat cs.length)), .val (.ref ca), .val (.ref sa), .val (.long got), .second, .val (.int u0), .val (.int u1), .val (.int u2), .val (.int (Int32.ofNat A)), .val (.int (Int32.ofNat (cs.length - A))), .val (.int (b2i B)), .unset, .unset, .unset, .unset, .unset] []) := by
  have g1 : Ld p e below T (mkF m 579 #[.val (.int i0), .val (.long i1), .second, .val (.long i2), .second, .val (.int (Int32.ofNat cs.length)), .val (.ref ca), .val (.ref sa), .val (.long got), .second, .val (.int u0), .val (.int u1), .val (.int u2), .val (.int (Int32.ofNat A)), .val (.int (Int32.ofNat (cs.length - A))), .val (.int (b2i B)), .unset, .unset, .unset, .unset, .unset] []) T (mkF m 586 #[.val (.int i0), .val (.long i1), .second, .val (.long i2), .second, .val (.int (Int32.ofNat cs.length)), .val (.ref ca), .val (.ref sa), .val (.long got), .second, .val (.int u0), .val (.int u1), .val (.int u2), .val (.int (Int32.ofNat A)), .val (.int (Int32.ofNat (cs.length - A))), .val (.int (b2i B)), .unset, .unset, .unset, .unset, .unset] [(.int (3 : Int32)), (.int (Int32.ofNat A)), (.int (Int32.ofNat cs.length)), (.ref ca)]) := goRun K N #[] [(579, .aload 6, 2), (581, .iload 5, 2), (583, .iload 13, 2), (585, .iconst 3, 1)] [] (P := True) (by decide +kernel) rfl trivial
  obtain ⟨v2, T2, _, N2, ⟨rfl, rfl⟩, g2⟩ := goS K N (tw hw 47 rfl) (tw hw 48 rfl) (tw hw 45 rfl) (tw hw 49 rfl) (con_nz hw C hn (A := A) (i := 3) hA3 (by decide)) (argsL := [(.ref ca), (.int (Int32.ofNat cs.length)), (.int (Int32.ofNat A)), (.int (3 : Int32))]) (W := 0) (rest := []) (by decide) (by decide) (by decide) (by decide) (by decide) (L := #[.val (.int i0), .val (.long i1), .second, .val (.long i2), .second, .val (.int (Int32.ofNat cs.length)), .val (.ref ca), .val (.ref sa), .val (.long got), .second, .val (.int u0), .val (.int u1), .val (.int u2), .val (.int (Int32.ofNat A)), .val (.int (Int32.ofNat (cs.length - A))), .val (.int (b2i B)), .unset, .unset, .unset, .unset, .unset]) rfl pd17 rfl (Nat.le_of_eq rfl) (pc := 586) (by decide +kernel)
  cases q : nzB cs A 3
  · rw [q] at g2
    have g3 : Ld p e below T2 (mkF m 589 #[.val (.int i0), .val (.long i1), .second, .val (.long i2), .second, .val (.int (Int32.ofNat cs.length)), .val (.ref ca), .val (.ref sa), .val (.long got), .second, .val (.int u0), .val (.int u1), .val (.int u2), .val (.int (Int32.ofNat A)), .val (.int (Int32.ofNat (cs.length - A))), .val (.int (b2i B)), .unset, .unset, .unset, .unset, .unset] [(.int (0 : Int32))]) T2 (mkF m 592 #[.val (.int i0), .val (.long i1), .second, .val (.long i2), .second, .val (.int (Int32.ofNat cs.length)), .val (.ref ca), .val (.ref sa), .val (.long got), .second, .val (.int u0), .val (.int u1), .val (.int u2), .val (.int (Int32.ofNat A)), .val (.int (Int32.ofNat (cs.length - A))), .val (.int (b2i B)), .unset, .unset, .unset, .unset, .unset] []) := goRun K N2 #[] [(589, .ifCond .ne 127, 3)] [.null] (P := ((0 : Int32) = (0 : Int32)) ∧ True) (by decide +kernel) rfl ⟨rfl, trivial⟩
    exact EndsN.pre (g1.trans (g2.trans g3)) (nzc_4 hw sf K hret O0 N2 i0 i1 i2 C hn got u0 u1 u2 hA3 hAl hA hg B hB (hp.trans (orN (c := 9) q)))
  · rw [q] at g2
    have g3 : Ld p e below T2 (mkF m 589 #[.val (.int i0), .val (.long i1), .second, .val (.long i2), .second, .val (.int (Int32.ofNat cs.length)), .val (.ref ca), .val (.ref sa), .val (.long got), .second, .val (.int u0), .val (.int u1), .val (.int u2), .val (.int (Int32.ofNat A)), .val (.int (Int32.ofNat (cs.length - A))), .val (.int (b2i B)), .unset, .unset, .unset, .unset, .unset] [(.int (1 : Int32))]) T2 (mkF m 723 #[.val (.int i0), .val (.long i1), .second, .val (.long i2), .second, .val (.int (Int32.ofNat cs.length)), .val (.ref ca), .val (.ref sa), .val (.long got), .second, .val (.int u0), .val (.int u1), .val (.int u2), .val (.int (Int32.ofNat A)), .val (.int (Int32.ofNat (cs.length - A))), .val (.int (b2i B)), .val (.int (1 : Int32)), .unset, .unset, .unset, .unset] []) := goRun K N2 #[] [(589, .ifCond .ne 127, 3), (716, .iconst 1, 1), (717, .goto 4, 3), (721, .istore 16, 2)] [.ref 0] (P := (¬ (1 : Int32) = (0 : Int32)) ∧ True) (by decide +kernel) rfl ⟨(by decide), trivial⟩
    exact EndsN.pre (g1.trans (g2.trans g3)) (cmp hw sf K hret O0 N2 i0 i1 i2 C hn got u0 u1 u2 hA3 hAl B true (by rw [hg, law_eq hn, ← hA, hB, show orF (nzB cs A) 13 0 = true from (hp.trans (orY (c := 9) q))]))
set_option maxHeartbeats 4000000 in
theorem nzc_2 (hw : ∀ d ∈ tables_1, d.before a0 Z = true) {z : Int32} {fm : Value} (sf : SF Z z fm) (K : Cx Z "com/example/covenantry/covenantry/FigurePlacesColumnPinLaw" code maxLocals p m c) (hret : meth.sig.returnType = ret) (O0 : Old Z n0 s.heap) (N : Nw Z n0 h p l e room_1 s m args below meth c T 8 200) (i0 : Int32) (i1 i2 : Int64) {ca sa : Addr} {cs : List Int32} (C : Av Z h ca .char (cs.map Value.int)) (hn : cs.length ≤ 13) (got : Int64) (u0 u1 u2 : Int32) {A : Nat} (hA3 : A ≤ 3) (hAl : A ≤ cs.length) (hA : A = atF cs 3 0) (hg : got = colV cs) (B : Bool) (hB : orF (badB cs A) 13 0 = B) (hp : orF (nzB cs A) 13 0 = orF (nzB cs A) 11 2) :
    EndsN Z n0 h p l e room_1 s m args below meth c T (mkF m 566 #[.val (.int i0), .val (.long i1), .second, .val (.long i2), .second, .val (.int (Int32.ofNat cs.length)), .val (.ref ca), .val (.ref sa), .val (.long got), .second, .val (.int u0), .val (.int u1), .val (.int u2), .val (.int (Int32.ofNat A)), .val (.int (Int32.ofNat (cs.length - A))), .val (.int (b2i B)), .unset, .unset, .unset, .unset, .unset] []) := by
  have g1 : Ld p e below T (mkF m 566 #[.val (.int i0), .val (.long i1), .second, .val (.long i2), .second, .val (.int (Int32.ofNat cs.length)), .val (.ref ca), .val (.ref sa), .val (.long got), .second, .val (.int u0), .val (.int u1), .val (.int u2), .val (.int (Int32.ofNat A)), .val (.int (Int32.ofNat (cs.length - A))), .val (.int (b2i B)), .unset, .unset, .unset, .unset, .unset] []) T (mkF m 573 #[.val (.int i0), .val (.long i1), .second, .val (.long i2), .second, .val (.int (Int32.ofNat cs.length)), .val (.ref ca), .val (.ref sa), .val (.long got), .second, .val (.int u0), .val (.int u1), .val (.int u2), .val (.int (Int32.ofNat A)), .val (.int (Int32.ofNat (cs.length - A))), .val (.int (b2i B)), .unset, .unset, .unset, .unset, .unset] [(.int (2 : Int32)), (.int (Int32.ofNat A)), (.int (Int32.ofNat cs.length)), (.ref ca)]) := goRun K N #[] [(566, .aload 6, 2), (568, .iload 5, 2), (570, .iload 13, 2), (572, .iconst 2, 1)] [] (P := True) (by decide +kernel) rfl trivial
  obtain ⟨v2, T2, _, N2, ⟨rfl, rfl⟩, g2⟩ := goS K N (tw hw 47 rfl) (tw hw 48 rfl) (tw hw 45 rfl) (tw hw 49 rfl) (con_nz hw C hn (A := A) (i := 2) hA3 (by decide)) (argsL := [(.ref ca), (.int (Int32.ofNat cs.length)), (.int (Int32.ofNat A)), (.int (2 : Int32))]) (W := 0) (rest := []) (by decide) (by decide) (by decide) (by decide) (by decide) (L := #[.val (.int i0), .val (.long i1), .second, .val (.long i2), .second, .val (.int (Int32.ofNat cs.length)), .val (.ref ca), .val (.ref sa), .val (.long got), .second, .val (.int u0), .val (.int u1), .val (.int u2), .val (.int (Int32.ofNat A)), .val (.int (Int32.ofNat (cs.length - A))), .val (.int (b2i B)), .unset, .unset, .unset, .unset, .unset]) rfl pd17 rfl (Nat.le_of_eq rfl) (pc := 573) (by decide +kernel)
  cases q : nzB cs A 2
  · rw [q] at g2
    have g3 : Ld p e below T2 (mkF m 576 #[.val (.int i0), .val (.long i1), .second, .val (.long i2), .second, .val (.int (Int32.ofNat cs.length)), .val (.ref ca), .val (.ref sa), .val (.long got), .second, .val (.int u0), .val (.int u1), .val (.int u2), .val (.int (Int32.ofNat A)), .val (.int (Int32.ofNat (cs.length - A))), .val (.int (b2i B)), .unset, .unset, .unset, .unset, .unset] [(.int (0 : Int32))]) T2 (mkF m 579 #[.val (.int i0), .val (.long i1), .second, .val (.long i2), .second, .val (.int (Int32.ofNat cs.length)), .val (.ref ca), .val (.ref sa), .val (.long got), .second, .val (.int u0), .val (.int u1), .val (.int u2), .val (.int (Int32.ofNat A)), .val (.int (Int32.ofNat (cs.length - A))), .val (.int (b2i B)), .unset, .unset, .unset, .unset, .unset] []) := goRun K N2 #[] [(576, .ifCond .ne 140, 3)] [.null] (P := ((0 : Int32) = (0 : Int32)) ∧ True) (by decide +kernel) rfl ⟨rfl, trivial⟩
    exact EndsN.pre (g1.trans (g2.trans g3)) (nzc_3 hw sf K hret O0 N2 i0 i1 i2 C hn got u0 u1 u2 hA3 hAl hA hg B hB (hp.trans (orN (c := 10) q)))
  · rw [q] at g2
    have g3 : Ld p e below T2 (mkF m 576 #[.val (.int i0), .val (.long i1), .second, .val (.long i2), .second, .val (.int (Int32.ofNat cs.length)), .val (.ref ca), .val (.ref sa), .val (.long got), .second, .val (.int u0), .val (.int u1), .val (.int u2), .val (.int (Int32.ofNat A)), .val (.int (Int32.ofNat (cs.length - A))), .val (.int (b2i B)), .unset, .unset, .unset, .unset, .unset] [(.int (1 : Int32))]) T2 (mkF m 723 #[.val (.int i0), .val (.long i1), .second, .val (.long i2), .second, .val (.int (Int32.ofNat cs.length)), .val (.ref ca), .val (.ref sa), .val (.long got), .second, .val (.int u0), .val (.int u1), .val (.int u2), .val (.int (Int32.ofNat A)), .val (.int (Int32.ofNat (cs.length - A))), .val (.int (b2i B)), .val (.int (1 : Int32)), .unset, .unset, .unset, .unset] []) := goRun K N2 #[] [(576, .ifCond .ne 140, 3), (716, .iconst 1, 1), (717, .goto 4, 3), (721, .istore 16, 2)] [.ref 0] (P := (¬ (1 : Int32) = (0 : Int32)) ∧ True) (by decide +kernel) rfl ⟨(by decide), trivial⟩
    exact EndsN.pre (g1.trans (g2.trans g3)) (cmp hw sf K hret O0 N2 i0 i1 i2 C hn got u0 u1 u2 hA3 hAl B true (by rw [hg, law_eq hn, ← hA, hB, show orF (nzB cs A) 13 0 = true from (hp.trans (orY (c := 10) q))]))
set_option maxHeartbeats 4000000 in
theorem nzc_1 (hw : ∀ d ∈ tables_1, d.before a0 Z = true) {z : Int32} {fm : Value} (sf : SF Z z fm) (K : Cx Z "com/example/covenantry/covenantry/FigurePlacesColumnPinLaw" code maxLocals p m c) (hret : meth.sig.returnType = ret) (O0 : Old Z n0 s.heap) (N : Nw Z n0 h p l e room_1 s m args below meth c T 8 200) (i0 : Int32) (i1 i2 : Int64) {ca sa : Addr} {cs : List Int32} (C : Av Z h ca .char (cs.map Value.int)) (hn : cs.length ≤ 13) (got : Int64) (u0 u1 u2 : Int32) {A : Nat} (hA3 : A ≤ 3) (hAl : A ≤ cs.length) (hA : A = atF cs 3 0) (hg : got = colV cs) (B : Bool) (hB : orF (badB cs A) 13 0 = B) (hp : orF (nzB cs A) 13 0 = orF (nzB cs A) 12 1) :
    EndsN Z n0 h p l e room_1 s m args below meth c T (mkF m 553 #[.val (.int i0), .val (.long i1), .second, .val (.long i2), .second, .val (.int (Int32.ofNat cs.length)), .val (.ref ca), .val (.ref sa), .val (.long got), .second, .val (.int u0), .val (.int u1), .val (.int u2), .val (.int (Int32.ofNat A)), .val (.int (Int32.ofNat (cs.length - A))), .val (.int (b2i B)), .unset, .unset, .unset, .unset, .unset] []) := by
  have g1 : Ld p e below T (mkF m 553 #[.val (.int i0), .val (.long i1), .second, .val (.long i2), .second, .val (.int (Int32.ofNat cs.length)), .val (.ref ca), .val (.ref sa), .val (.long got), .second, .val (.int u0), .val (.int u1), .val (.int u2), .val (.int (Int32.ofNat A)), .val (.int (Int32.ofNat (cs.length - A))), .val (.int (b2i B)), .unset, .unset, .unset, .unset, .unset] []) T (mkF m 560 #[.val (.int i0), .val (.long i1), .second, .val (.long i2), .second, .val (.int (Int32.ofNat cs.length)), .val (.ref ca), .val (.ref sa), .val (.long got), .second, .val (.int u0), .val (.int u1), .val (.int u2), .val (.int (Int32.ofNat A)), .val (.int (Int32.ofNat (cs.length - A))), .val (.int (b2i B)), .unset, .unset, .unset, .unset, .unset] [(.int (1 : Int32)), (.int (Int32.ofNat A)), (.int (Int32.ofNat cs.length)), (.ref ca)]) := goRun K N #[] [(553, .aload 6, 2), (555, .iload 5, 2), (557, .iload 13, 2), (559, .iconst 1, 1)] [] (P := True) (by decide +kernel) rfl trivial
  obtain ⟨v2, T2, _, N2, ⟨rfl, rfl⟩, g2⟩ := goS K N (tw hw 47 rfl) (tw hw 48 rfl) (tw hw 45 rfl) (tw hw 49 rfl) (con_nz hw C hn (A := A) (i := 1) hA3 (by decide)) (argsL := [(.ref ca), (.int (Int32.ofNat cs.length)), (.int (Int32.ofNat A)), (.int (1 : Int32))]) (W := 0) (rest := []) (by decide) (by decide) (by decide) (by decide) (by decide) (L := #[.val (.int i0), .val (.long i1), .second, .val (.long i2), .second, .val (.int (Int32.ofNat cs.length)), .val (.ref ca), .val (.ref sa), .val (.long got), .second, .val (.int u0), .val (.int u1), .val (.int u2), .val (.int (Int32.ofNat A)), .val (.int (Int32.ofNat (cs.length - A))), .val (.int (b2i B)), .unset, .unset, .unset, .unset, .unset]) rfl pd17 rfl (Nat.le_of_eq rfl) (pc := 560) (by decide +kernel)
  cases q : nzB cs A 1
  · rw [q] at g2
    have g3 : Ld p e below T2 (mkF m 563 #[.val (.int i0), .val (.long i1), .second, .val (.long i2), .second, .val (.int (Int32.ofNat cs.length)), .val (.ref ca), .val (.ref sa), .val (.long got), .second, .val (.int u0), .val (.int u1), .val (.int u2), .val (.int (Int32.ofNat A)), .val (.int (Int32.ofNat (cs.length - A))), .val (.int (b2i B)), .unset, .unset, .unset, .unset, .unset] [(.int (0 : Int32))]) T2 (mkF m 566 #[.val (.int i0), .val (.long i1), .second, .val (.long i2), .second, .val (.int (Int32.ofNat cs.length)), .val (.ref ca), .val (.ref sa), .val (.long got), .second, .val (.int u0), .val (.int u1), .val (.int u2), .val (.int (Int32.ofNat A)), .val (.int (Int32.ofNat (cs.length - A))), .val (.int (b2i B)), .unset, .unset, .unset, .unset, .unset] []) := goRun K N2 #[] [(563, .ifCond .ne 153, 3)] [.null] (P := ((0 : Int32) = (0 : Int32)) ∧ True) (by decide +kernel) rfl ⟨rfl, trivial⟩
    exact EndsN.pre (g1.trans (g2.trans g3)) (nzc_2 hw sf K hret O0 N2 i0 i1 i2 C hn got u0 u1 u2 hA3 hAl hA hg B hB (hp.trans (orN (c := 11) q)))
  · rw [q] at g2
    have g3 : Ld p e below T2 (mkF m 563 #[.val (.int i0), .val (.long i1), .second, .val (.long i2), .second, .val (.int (Int32.ofNat cs.length)), .val (.ref ca), .val (.ref sa), .val (.long got), .second, .val (.int u0), .val (.int u1), .val (.int u2), .val (.int (Int32.ofNat A)), .val (.int (Int32.ofNat (cs.length - A))), .val (.int (b2i B)), .unset, .unset, .unset, .unset, .unset] [(.int (1 : Int32))]) T2 (mkF m 723 #[.val (.int i0), .val (.long i1), .second, .val (.long i2), .second, .val (.int (Int32.ofNat cs.length)), .val (.ref ca), .val (.ref sa), .val (.long got), .second, .val (.int u0), .val (.int u1), .val (.int u2), .val (.int (Int32.ofNat A)), .val (.int (Int32.ofNat (cs.length - A))), .val (.int (b2i B)), .val (.int (1 : Int32)), .unset, .unset, .unset, .unset] []) := goRun K N2 #[] [(563, .ifCond .ne 153, 3), (716, .iconst 1, 1), (717, .goto 4, 3), (721, .istore 16, 2)] [.ref 0] (P := (¬ (1 : Int32) = (0 : Int32)) ∧ True) (by decide +kernel) rfl ⟨(by decide), trivial⟩
    exact EndsN.pre (g1.trans (g2.trans g3)) (cmp hw sf K hret O0 N2 i0 i1 i2 C hn got u0 u1 u2 hA3 hAl B true (by rw [hg, law_eq hn, ← hA, hB, show orF (nzB cs A) 13 0 = true from (hp.trans (orY (c := 11) q))]))
set_option maxHeartbeats 4000000 in
theorem nzc_0 (hw : ∀ d ∈ tables_1, d.before a0 Z = true) {z : Int32} {fm : Value} (sf : SF Z z fm) (K : Cx Z "com/example/covenantry/covenantry/FigurePlacesColumnPinLaw" code maxLocals p m c) (hret : meth.sig.returnType = ret) (O0 : Old Z n0 s.heap) (N : Nw Z n0 h p l e room_1 s m args below meth c T 8 200) (i0 : Int32) (i1 i2 : Int64) {ca sa : Addr} {cs : List Int32} (C : Av Z h ca .char (cs.map Value.int)) (hn : cs.length ≤ 13) (got : Int64) (u0 u1 u2 : Int32) {A : Nat} (hA3 : A ≤ 3) (hAl : A ≤ cs.length) (hA : A = atF cs 3 0) (hg : got = colV cs) (B : Bool) (hB : orF (badB cs A) 13 0 = B) (hp : orF (nzB cs A) 13 0 = orF (nzB cs A) 13 0) :
    EndsN Z n0 h p l e room_1 s m args below meth c T (mkF m 540 #[.val (.int i0), .val (.long i1), .second, .val (.long i2), .second, .val (.int (Int32.ofNat cs.length)), .val (.ref ca), .val (.ref sa), .val (.long got), .second, .val (.int u0), .val (.int u1), .val (.int u2), .val (.int (Int32.ofNat A)), .val (.int (Int32.ofNat (cs.length - A))), .val (.int (b2i B)), .unset, .unset, .unset, .unset, .unset] []) := by
  have g1 : Ld p e below T (mkF m 540 #[.val (.int i0), .val (.long i1), .second, .val (.long i2), .second, .val (.int (Int32.ofNat cs.length)), .val (.ref ca), .val (.ref sa), .val (.long got), .second, .val (.int u0), .val (.int u1), .val (.int u2), .val (.int (Int32.ofNat A)), .val (.int (Int32.ofNat (cs.length - A))), .val (.int (b2i B)), .unset, .unset, .unset, .unset, .unset] []) T (mkF m 547 #[.val (.int i0), .val (.long i1), .second, .val (.long i2), .second, .val (.int (Int32.ofNat cs.length)), .val (.ref ca), .val (.ref sa), .val (.long got), .second, .val (.int u0), .val (.int u1), .val (.int u2), .val (.int (Int32.ofNat A)), .val (.int (Int32.ofNat (cs.length - A))), .val (.int (b2i B)), .unset, .unset, .unset, .unset, .unset] [(.int (0 : Int32)), (.int (Int32.ofNat A)), (.int (Int32.ofNat cs.length)), (.ref ca)]) := goRun K N #[] [(540, .aload 6, 2), (542, .iload 5, 2), (544, .iload 13, 2), (546, .iconst 0, 1)] [] (P := True) (by decide +kernel) rfl trivial
  obtain ⟨v2, T2, _, N2, ⟨rfl, rfl⟩, g2⟩ := goS K N (tw hw 47 rfl) (tw hw 48 rfl) (tw hw 45 rfl) (tw hw 49 rfl) (con_nz hw C hn (A := A) (i := 0) hA3 (by decide)) (argsL := [(.ref ca), (.int (Int32.ofNat cs.length)), (.int (Int32.ofNat A)), (.int (0 : Int32))]) (W := 0) (rest := []) (by decide) (by decide) (by decide) (by decide) (by decide) (L := #[.val (.int i0), .val (.long i1), .second, .val (.long i2), .second, .val (.int (Int32.ofNat cs.length)), .val (.ref ca), .val (.ref sa), .val (.long got), .second, .val (.int u0), .val (.int u1), .val (.int u2), .val (.int (Int32.ofNat A)), .val (.int (Int32.ofNat (cs.length - A))), .val (.int (b2i B)), .unset, .unset, .unset, .unset, .unset]) rfl pd17 rfl (Nat.le_of_eq rfl) (pc := 547) (by decide +kernel)
  cases q : nzB cs A 0
  · rw [q] at g2
    have g3 : Ld p e below T2 (mkF m 550 #[.val (.int i0), .val (.long i1), .second, .val (.long i2), .second, .val (.int (Int32.ofNat cs.length)), .val (.ref ca), .val (.ref sa), .val (.long got), .second, .val (.int u0), .val (.int u1), .val (.int u2), .val (.int (Int32.ofNat A)), .val (.int (Int32.ofNat (cs.length - A))), .val (.int (b2i B)), .unset, .unset, .unset, .unset, .unset] [(.int (0 : Int32))]) T2 (mkF m 553 #[.val (.int i0), .val (.long i1), .second, .val (.long i2), .second, .val (.int (Int32.ofNat cs.length)), .val (.ref ca), .val (.ref sa), .val (.long got), .second, .val (.int u0), .val (.int u1), .val (.int u2), .val (.int (Int32.ofNat A)), .val (.int (Int32.ofNat (cs.length - A))), .val (.int (b2i B)), .unset, .unset, .unset, .unset, .unset] []) := goRun K N2 #[] [(550, .ifCond .ne 166, 3)] [.null] (P := ((0 : Int32) = (0 : Int32)) ∧ True) (by decide +kernel) rfl ⟨rfl, trivial⟩
    exact EndsN.pre (g1.trans (g2.trans g3)) (nzc_1 hw sf K hret O0 N2 i0 i1 i2 C hn got u0 u1 u2 hA3 hAl hA hg B hB (hp.trans (orN (c := 12) q)))
  · rw [q] at g2
    have g3 : Ld p e below T2 (mkF m 550 #[.val (.int i0), .val (.long i1), .second, .val (.long i2), .second, .val (.int (Int32.ofNat cs.length)), .val (.ref ca), .val (.ref sa), .val (.long got), .second, .val (.int u0), .val (.int u1), .val (.int u2), .val (.int (Int32.ofNat A)), .val (.int (Int32.ofNat (cs.length - A))), .val (.int (b2i B)), .unset, .unset, .unset, .unset, .unset] [(.int (1 : Int32))]) T2 (mkF m 723 #[.val (.int i0), .val (.long i1), .second, .val (.long i2), .second, .val (.int (Int32.ofNat cs.length)), .val (.ref ca), .val (.ref sa), .val (.long got), .second, .val (.int u0), .val (.int u1), .val (.int u2), .val (.int (Int32.ofNat A)), .val (.int (Int32.ofNat (cs.length - A))), .val (.int (b2i B)), .val (.int (1 : Int32)), .unset, .unset, .unset, .unset] []) := goRun K N2 #[] [(550, .ifCond .ne 166, 3), (716, .iconst 1, 1), (717, .goto 4, 3), (721, .istore 16, 2)] [.ref 0] (P := (¬ (1 : Int32) = (0 : Int32)) ∧ True) (by decide +kernel) rfl ⟨(by decide), trivial⟩
    exact EndsN.pre (g1.trans (g2.trans g3)) (cmp hw sf K hret O0 N2 i0 i1 i2 C hn got u0 u1 u2 hA3 hAl B true (by rw [hg, law_eq hn, ← hA, hB, show orF (nzB cs A) 13 0 = true from (hp.trans (orY (c := 12) q))]))
set_option maxHeartbeats 4000000 in
theorem badc_12 (hw : ∀ d ∈ tables_1, d.before a0 Z = true) {z : Int32} {fm : Value} (sf : SF Z z fm) (K : Cx Z "com/example/covenantry/covenantry/FigurePlacesColumnPinLaw" code maxLocals p m c) (hret : meth.sig.returnType = ret) (O0 : Old Z n0 s.heap) (N : Nw Z n0 h p l e room_1 s m args below meth c T 8 200) (i0 : Int32) (i1 i2 : Int64) {ca sa : Addr} {cs : List Int32} (C : Av Z h ca .char (cs.map Value.int)) (hn : cs.length ≤ 13) (got : Int64) (u0 u1 u2 : Int32) {A : Nat} (hA3 : A ≤ 3) (hAl : A ≤ cs.length) (hA : A = atF cs 3 0) (hg : got = colV cs) (hp : orF (badB cs A) 13 0 = orF (badB cs A) 1 12) :
    EndsN Z n0 h p l e room_1 s m args below meth c T (mkF m 519 #[.val (.int i0), .val (.long i1), .second, .val (.long i2), .second, .val (.int (Int32.ofNat cs.length)), .val (.ref ca), .val (.ref sa), .val (.long got), .second, .val (.int u0), .val (.int u1), .val (.int u2), .val (.int (Int32.ofNat A)), .val (.int (Int32.ofNat (cs.length - A))), .unset, .unset, .unset, .unset, .unset, .unset] []) := by
  have g1 : Ld p e below T (mkF m 519 #[.val (.int i0), .val (.long i1), .second, .val (.long i2), .second, .val (.int (Int32.ofNat cs.length)), .val (.ref ca), .val (.ref sa), .val (.long got), .second, .val (.int u0), .val (.int u1), .val (.int u2), .val (.int (Int32.ofNat A)), .val (.int (Int32.ofNat (cs.length - A))), .unset, .unset, .unset, .unset, .unset, .unset] []) T (mkF m 527 #[.val (.int i0), .val (.long i1), .second, .val (.long i2), .second, .val (.int (Int32.ofNat cs.length)), .val (.ref ca), .val (.ref sa), .val (.long got), .second, .val (.int u0), .val (.int u1), .val (.int u2), .val (.int (Int32.ofNat A)), .val (.int (Int32.ofNat (cs.length - A))), .unset, .unset, .unset, .unset, .unset, .unset] [(.int (12 : Int32)), (.int (Int32.ofNat A)), (.int (Int32.ofNat cs.length)), (.ref ca)]) := goRun K N #[] [(519, .aload 6, 2), (521, .iload 5, 2), (523, .iload 13, 2), (525, .bipush 12, 2)] [] (P := True) (by decide +kernel) rfl trivial
  obtain ⟨v2, T2, _, N2, ⟨rfl, rfl⟩, g2⟩ := goS K N (tw hw 43 rfl) (tw hw 44 rfl) (tw hw 45 rfl) (tw hw 46 rfl) (con_bad hw C hn (A := A) (i := 12) hA3 (by decide)) (argsL := [(.ref ca), (.int (Int32.ofNat cs.length)), (.int (Int32.ofNat A)), (.int (12 : Int32))]) (W := 0) (rest := []) (by decide) (by decide) (by decide) (by decide) (by decide) (L := #[.val (.int i0), .val (.long i1), .second, .val (.long i2), .second, .val (.int (Int32.ofNat cs.length)), .val (.ref ca), .val (.ref sa), .val (.long got), .second, .val (.int u0), .val (.int u1), .val (.int u2), .val (.int (Int32.ofNat A)), .val (.int (Int32.ofNat (cs.length - A))), .unset, .unset, .unset, .unset, .unset, .unset]) rfl pd17 rfl (Nat.le_of_eq rfl) (pc := 527) (by decide +kernel)
  cases q : badB cs A 12
  · rw [q] at g2
    have g3 : Ld p e below T2 (mkF m 530 #[.val (.int i0), .val (.long i1), .second, .val (.long i2), .second, .val (.int (Int32.ofNat cs.length)), .val (.ref ca), .val (.ref sa), .val (.long got), .second, .val (.int u0), .val (.int u1), .val (.int u2), .val (.int (Int32.ofNat A)), .val (.int (Int32.ofNat (cs.length - A))), .unset, .unset, .unset, .unset, .unset, .unset] [(.int (0 : Int32))]) T2 (mkF m 540 #[.val (.int i0), .val (.long i1), .second, .val (.long i2), .second, .val (.int (Int32.ofNat cs.length)), .val (.ref ca), .val (.ref sa), .val (.long got), .second, .val (.int u0), .val (.int u1), .val (.int u2), .val (.int (Int32.ofNat A)), .val (.int (Int32.ofNat (cs.length - A))), .val (.int (0 : Int32)), .unset, .unset, .unset, .unset, .unset] []) := goRun K N2 #[] [(530, .ifCond .eq 7, 3), (537, .iconst 0, 1), (538, .istore 15, 2)] [.ref 0] (P := ((0 : Int32) = (0 : Int32)) ∧ True) (by decide +kernel) rfl ⟨rfl, trivial⟩
    exact EndsN.pre (g1.trans (g2.trans g3)) (nzc_0 hw sf K hret O0 N2 i0 i1 i2 C hn got u0 u1 u2 hA3 hAl hA hg false (hp.trans (orN (c := 0) q)) rfl)
  · rw [q] at g2
    have g3 : Ld p e below T2 (mkF m 530 #[.val (.int i0), .val (.long i1), .second, .val (.long i2), .second, .val (.int (Int32.ofNat cs.length)), .val (.ref ca), .val (.ref sa), .val (.long got), .second, .val (.int u0), .val (.int u1), .val (.int u2), .val (.int (Int32.ofNat A)), .val (.int (Int32.ofNat (cs.length - A))), .unset, .unset, .unset, .unset, .unset, .unset] [(.int (1 : Int32))]) T2 (mkF m 540 #[.val (.int i0), .val (.long i1), .second, .val (.long i2), .second, .val (.int (Int32.ofNat cs.length)), .val (.ref ca), .val (.ref sa), .val (.long got), .second, .val (.int u0), .val (.int u1), .val (.int u2), .val (.int (Int32.ofNat A)), .val (.int (Int32.ofNat (cs.length - A))), .val (.int (1 : Int32)), .unset, .unset, .unset, .unset, .unset] []) := goRun K N2 #[] [(530, .ifCond .eq 7, 3), (533, .iconst 1, 1), (534, .goto 4, 3), (538, .istore 15, 2)] [.null] (P := (¬ (1 : Int32) = (0 : Int32)) ∧ True) (by decide +kernel) rfl ⟨(by decide), trivial⟩
    exact EndsN.pre (g1.trans (g2.trans g3)) (nzc_0 hw sf K hret O0 N2 i0 i1 i2 C hn got u0 u1 u2 hA3 hAl hA hg true (hp.trans (orY (c := 0) q)) rfl)
set_option maxHeartbeats 4000000 in
theorem badc_11 (hw : ∀ d ∈ tables_1, d.before a0 Z = true) {z : Int32} {fm : Value} (sf : SF Z z fm) (K : Cx Z "com/example/covenantry/covenantry/FigurePlacesColumnPinLaw" code maxLocals p m c) (hret : meth.sig.returnType = ret) (O0 : Old Z n0 s.heap) (N : Nw Z n0 h p l e room_1 s m args below meth c T 8 200) (i0 : Int32) (i1 i2 : Int64) {ca sa : Addr} {cs : List Int32} (C : Av Z h ca .char (cs.map Value.int)) (hn : cs.length ≤ 13) (got : Int64) (u0 u1 u2 : Int32) {A : Nat} (hA3 : A ≤ 3) (hAl : A ≤ cs.length) (hA : A = atF cs 3 0) (hg : got = colV cs) (hp : orF (badB cs A) 13 0 = orF (badB cs A) 2 11) :
    EndsN Z n0 h p l e room_1 s m args below meth c T (mkF m 505 #[.val (.int i0), .val (.long i1), .second, .val (.long i2), .second, .val (.int (Int32.ofNat cs.length)), .val (.ref ca), .val (.ref sa), .val (.long got), .second, .val (.int u0), .val (.int u1), .val (.int u2), .val (.int (Int32.ofNat A)), .val (.int (Int32.ofNat (cs.length - A))), .unset, .unset, .unset, .unset, .unset, .unset] []) := by
  have g1 : Ld p e below T (mkF m 505 #[.val (.int i0), .val (.long i1), .second, .val (.long i2), .second, .val (.int (Int32.ofNat cs.length)), .val (.ref ca), .val (.ref sa), .val (.long got), .second, .val (.int u0), .val (.int u1), .val (.int u2), .val (.int (Int32.ofNat A)), .val (.int (Int32.ofNat (cs.length - A))), .unset, .unset, .unset, .unset, .unset, .unset] []) T (mkF m 513 #[.val (.int i0), .val (.long i1), .second, .val (.long i2), .second, .val (.int (Int32.ofNat cs.length)), .val (.ref ca), .val (.ref sa), .val (.long got), .second, .val (.int u0), .val (.int u1), .val (.int u2), .val (.int (Int32.ofNat A)), .val (.int (Int32.ofNat (cs.length - A))), .unset, .unset, .unset, .unset, .unset, .unset] [(.int (11 : Int32)), (.int (Int32.ofNat A)), (.int (Int32.ofNat cs.length)), (.ref ca)]) := goRun K N #[] [(505, .aload 6, 2), (507, .iload 5, 2), (509, .iload 13, 2), (511, .bipush 11, 2)] [] (P := True) (by decide +kernel) rfl trivial
  obtain ⟨v2, T2, _, N2, ⟨rfl, rfl⟩, g2⟩ := goS K N (tw hw 43 rfl) (tw hw 44 rfl) (tw hw 45 rfl) (tw hw 46 rfl) (con_bad hw C hn (A := A) (i := 11) hA3 (by decide)) (argsL := [(.ref ca), (.int (Int32.ofNat cs.length)), (.int (Int32.ofNat A)), (.int (11 : Int32))]) (W := 0) (rest := []) (by decide) (by decide) (by decide) (by decide) (by decide) (L := #[.val (.int i0), .val (.long i1), .second, .val (.long i2), .second, .val (.int (Int32.ofNat cs.length)), .val (.ref ca), .val (.ref sa), .val (.long got), .second, .val (.int u0), .val (.int u1), .val (.int u2), .val (.int (Int32.ofNat A)), .val (.int (Int32.ofNat (cs.length - A))), .unset, .unset, .unset, .unset, .unset, .unset]) rfl pd17 rfl (Nat.le_of_eq rfl) (pc := 513) (by decide +kernel)
  cases q : badB cs A 11
  · rw [q] at g2
    have g3 : Ld p e below T2 (mkF m 516 #[.val (.int i0), .val (.long i1), .second, .val (.long i2), .second, .val (.int (Int32.ofNat cs.length)), .val (.ref ca), .val (.ref sa), .val (.long got), .second, .val (.int u0), .val (.int u1), .val (.int u2), .val (.int (Int32.ofNat A)), .val (.int (Int32.ofNat (cs.length - A))), .unset, .unset, .unset, .unset, .unset, .unset] [(.int (0 : Int32))]) T2 (mkF m 519 #[.val (.int i0), .val (.long i1), .second, .val (.long i2), .second, .val (.int (Int32.ofNat cs.length)), .val (.ref ca), .val (.ref sa), .val (.long got), .second, .val (.int u0), .val (.int u1), .val (.int u2), .val (.int (Int32.ofNat A)), .val (.int (Int32.ofNat (cs.length - A))), .unset, .unset, .unset, .unset, .unset, .unset] []) := goRun K N2 #[] [(516, .ifCond .ne 17, 3)] [.null] (P := ((0 : Int32) = (0 : Int32)) ∧ True) (by decide +kernel) rfl ⟨rfl, trivial⟩
    exact EndsN.pre (g1.trans (g2.trans g3)) (badc_12 hw sf K hret O0 N2 i0 i1 i2 C hn got u0 u1 u2 hA3 hAl hA hg (hp.trans (orN (c := 1) q)))
  · rw [q] at g2
    have g3 : Ld p e below T2 (mkF m 516 #[.val (.int i0), .val (.long i1), .second, .val (.long i2), .second, .val (.int (Int32.ofNat cs.length)), .val (.ref ca), .val (.ref sa), .val (.long got), .second, .val (.int u0), .val (.int u1), .val (.int u2), .val (.int (Int32.ofNat A)), .val (.int (Int32.ofNat (cs.length - A))), .unset, .unset, .unset, .unset, .unset, .unset] [(.int (1 : Int32))]) T2 (mkF m 540 #[.val (.int i0), .val (.long i1), .second, .val (.long i2), .second, .val (.int (Int32.ofNat cs.length)), .val (.ref ca), .val (.ref sa), .val (.long got), .second, .val (.int u0), .val (.int u1), .val (.int u2), .val (.int (Int32.ofNat A)), .val (.int (Int32.ofNat (cs.length - A))), .val (.int (1 : Int32)), .unset, .unset, .unset, .unset, .unset] []) := goRun K N2 #[] [(516, .ifCond .ne 17, 3), (533, .iconst 1, 1), (534, .goto 4, 3), (538, .istore 15, 2)] [.ref 0] (P := (¬ (1 : Int32) = (0 : Int32)) ∧ True) (by decide +kernel) rfl ⟨(by decide), trivial⟩
    exact EndsN.pre (g1.trans (g2.trans g3)) (nzc_0 hw sf K hret O0 N2 i0 i1 i2 C hn got u0 u1 u2 hA3 hAl hA hg true (hp.trans (orY (c := 1) q)) rfl)
set_option maxHeartbeats 4000000 in
theorem badc_10 (hw : ∀ d ∈ tables_1, d.before a0 Z = true) {z : Int32} {fm : Value} (sf : SF Z z fm) (K : Cx Z "com/example/covenantry/covenantry/FigurePlacesColumnPinLaw" code maxLocals p m c) (hret : meth.sig.returnType = ret) (O0 : Old Z n0 s.heap) (N : Nw Z n0 h p l e room_1 s m args below meth c T 8 200) (i0 : Int32) (i1 i2 : Int64) {ca sa : Addr} {cs : List Int32} (C : Av Z h ca .char (cs.map Value.int)) (hn : cs.length ≤ 13) (got : Int64) (u0 u1 u2 : Int32) {A : Nat} (hA3 : A ≤ 3) (hAl : A ≤ cs.length) (hA : A = atF cs 3 0) (hg : got = colV cs) (hp : orF (badB cs A) 13 0 = orF (badB cs A) 3 10) :
    EndsN Z n0 h p l e room_1 s m args below meth c T (mkF m 491 #[.val (.int i0), .val (.long i1), .second, .val (.long i2), .second, .val (.int (Int32.ofNat cs.length)), .val (.ref ca), .val (.ref sa), .val (.long got), .second, .val (.int u0), .val (.int u1), .val (.int u2), .val (.int (Int32.ofNat A)), .val (.int (Int32.ofNat (cs.length - A))), .unset, .unset, .unset, .unset, .unset, .unset] []) := by
  have g1 : Ld p e below T (mkF m 491 #[.val (.int i0), .val (.long i1), .second, .val (.long i2), .second, .val (.int (Int32.ofNat cs.length)), .val (.ref ca), .val (.ref sa), .val (.long got), .second, .val (.int u0), .val (.int u1), .val (.int u2), .val (.int (Int32.ofNat A)), .val (.int (Int32.ofNat (cs.length - A))), .unset, .unset, .unset, .unset, .unset, .unset] []) T (mkF m 499 #[.val (.int i0), .val (.long i1), .second, .val (.long i2), .second, .val (.int (Int32.ofNat cs.length)), .val (.ref ca), .val (.ref sa), .val (.long got), .second, .val (.int u0), .val (.int u1), .val (.int u2), .val (.int (Int32.ofNat A)), .val (.int (Int32.ofNat (cs.length - A))), .unset, .unset, .unset, .unset, .unset, .unset] [(.int (10 : Int32)), (.int (Int32.ofNat A)), (.int (Int32.ofNat cs.length)), (.ref ca)]) := goRun K N #[] [(491, .aload 6, 2), (493, .iload 5, 2), (495, .iload 13, 2), (497, .bipush 10, 2)] [] (P := True) (by decide +kernel) rfl trivial
  obtain ⟨v2, T2, _, N2, ⟨rfl, rfl⟩, g2⟩ := goS K N (tw hw 43 rfl) (tw hw 44 rfl) (tw hw 45 rfl) (tw hw 46 rfl) (con_bad hw C hn (A := A) (i := 10) hA3 (by decide)) (argsL := [(.ref ca), (.int (Int32.ofNat cs.length)), (.int (Int32.ofNat A)), (.int (10 : Int32))]) (W := 0) (rest := []) (by decide) (by decide) (by decide) (by decide) (by decide) (L := #[.val (.int i0), .val (.long i1), .second, .val (.long i2), .second, .val (.int (Int32.ofNat cs.length)), .val (.ref ca), .val (.ref sa), .val (.long got), .second, .val (.int u0), .val (.int u1), .val (.int u2), .val (.int (Int32.ofNat A)), .val (.int (Int32.ofNat (cs.length - A))), .unset, .unset, .unset, .unset, .unset, .unset]) rfl pd17 rfl (Nat.le_of_eq rfl) (pc := 499) (by decide +kernel)
  cases q : badB cs A 10
  · rw [q] at g2
    have g3 : Ld p e below T2 (mkF m 502 #[.val (.int i0), .val (.long i1), .second, .val (.long i2), .second, .val (.int (Int32.ofNat cs.length)), .val (.ref ca), .val (.ref sa), .val (.long got), .second, .val (.int u0), .val (.int u1), .val (.int u2), .val (.int (Int32.ofNat A)), .val (.int (Int32.ofNat (cs.length - A))), .unset, .unset, .unset, .unset, .unset, .unset] [(.int (0 : Int32))]) T2 (mkF m 505 #[.val (.int i0), .val (.long i1), .second, .val (.long i2), .second, .val (.int (Int32.ofNat cs.length)), .val (.ref ca), .val (.ref sa), .val (.long got), .second, .val (.int u0), .val (.int u1), .val (.int u2), .val (.int (Int32.ofNat A)), .val (.int (Int32.ofNat (cs.length - A))), .unset, .unset, .unset, .unset, .unset, .unset] []) := goRun K N2 #[] [(502, .ifCond .ne 31, 3)] [.null] (P := ((0 : Int32) = (0 : Int32)) ∧ True) (by decide +kernel) rfl ⟨rfl, trivial⟩
    exact EndsN.pre (g1.trans (g2.trans g3)) (badc_11 hw sf K hret O0 N2 i0 i1 i2 C hn got u0 u1 u2 hA3 hAl hA hg (hp.trans (orN (c := 2) q)))
  · rw [q] at g2
    have g3 : Ld p e below T2 (mkF m 502 #[.val (.int i0), .val (.long i1), .second, .val (.long i2), .second, .val (.int (Int32.ofNat cs.length)), .val (.ref ca), .val (.ref sa), .val (.long got), .second, .val (.int u0), .val (.int u1), .val (.int u2), .val (.int (Int32.ofNat A)), .val (.int (Int32.ofNat (cs.length - A))), .unset, .unset, .unset, .unset, .unset, .unset] [(.int (1 : Int32))]) T2 (mkF m 540 #[.val (.int i0), .val (.long i1), .second, .val (.long i2), .second, .val (.int (Int32.ofNat cs.length)), .val (.ref ca), .val (.ref sa), .val (.long got), .second, .val (.int u0), .val (.int u1), .val (.int u2), .val (.int (Int32.ofNat A)), .val (.int (Int32.ofNat (cs.length - A))), .val (.int (1 : Int32)), .unset, .unset, .unset, .unset, .unset] []) := goRun K N2 #[] [(502, .ifCond .ne 31, 3), (533, .iconst 1, 1), (534, .goto 4, 3), (538, .istore 15, 2)] [.ref 0] (P := (¬ (1 : Int32) = (0 : Int32)) ∧ True) (by decide +kernel) rfl ⟨(by decide), trivial⟩
    exact EndsN.pre (g1.trans (g2.trans g3)) (nzc_0 hw sf K hret O0 N2 i0 i1 i2 C hn got u0 u1 u2 hA3 hAl hA hg true (hp.trans (orY (c := 2) q)) rfl)
set_option maxHeartbeats 4000000 in
theorem badc_9 (hw : ∀ d ∈ tables_1, d.before a0 Z = true) {z : Int32} {fm : Value} (sf : SF Z z fm) (K : Cx Z "com/example/covenantry/covenantry/FigurePlacesColumnPinLaw" code maxLocals p m c) (hret : meth.sig.returnType = ret) (O0 : Old Z n0 s.heap) (N : Nw Z n0 h p l e room_1 s m args below meth c T 8 200) (i0 : Int32) (i1 i2 : Int64) {ca sa : Addr} {cs : List Int32} (C : Av Z h ca .char (cs.map Value.int)) (hn : cs.length ≤ 13) (got : Int64) (u0 u1 u2 : Int32) {A : Nat} (hA3 : A ≤ 3) (hAl : A ≤ cs.length) (hA : A = atF cs 3 0) (hg : got = colV cs) (hp : orF (badB cs A) 13 0 = orF (badB cs A) 4 9) :
    EndsN Z n0 h p l e room_1 s m args below meth c T (mkF m 477 #[.val (.int i0), .val (.long i1), .second, .val (.long i2), .second, .val (.int (Int32.ofNat cs.length)), .val (.ref ca), .val (.ref sa), .val (.long got), .second, .val (.int u0), .val (.int u1), .val (.int u2), .val (.int (Int32.ofNat A)), .val (.int (Int32.ofNat (cs.length - A))), .unset, .unset, .unset, .unset, .unset, .unset] []) := by
  have g1 : Ld p e below T (mkF m 477 #[.val (.int i0), .val (.long i1), .second, .val (.long i2), .second, .val (.int (Int32.ofNat cs.length)), .val (.ref ca), .val (.ref sa), .val (.long got), .second, .val (.int u0), .val (.int u1), .val (.int u2), .val (.int (Int32.ofNat A)), .val (.int (Int32.ofNat (cs.length - A))), .unset, .unset, .unset, .unset, .unset, .unset] []) T (mkF m 485 #[.val (.int i0), .val (.long i1), .second, .val (.long i2), .second, .val (.int (Int32.ofNat cs.length)), .val (.ref ca), .val (.ref sa), .val (.long got), .second, .val (.int u0), .val (.int u1), .val (.int u2), .val (.int (Int32.ofNat A)), .val (.int (Int32.ofNat (cs.length - A))), .unset, .unset, .unset, .unset, .unset, .unset] [(.int (9 : Int32)), (.int (Int32.ofNat A)), (.int (Int32.ofNat cs.length)), (.ref ca)]) := goRun K N #[] [(477, .aload 6, 2), (479, .iload 5, 2), (481, .iload 13, 2), (483, .bipush 9, 2)] [] (P := True) (by decide +kernel) rfl trivial
  obtain ⟨v2, T2, _, N2, ⟨rfl, rfl⟩, g2⟩ := goS K N (tw hw 43 rfl) (tw hw 44 rfl) (tw hw 45 rfl) (tw hw 46 rfl) (con_bad hw C hn (A := A) (i := 9) hA3 (by decide)) (argsL := [(.ref ca), (.int (Int32.ofNat cs.length)), (.int (Int32.ofNat A)), (.int (9 : Int32))]) (W := 0) (rest := []) (by decide) (by decide) (by decide) (by decide) (by decide) (L := #[.val (.int i0), .val (.long i1), .second, .val (.long i2), .second, .val (.int (Int32.ofNat cs.length)), .val (.ref ca), .val (.ref sa), .val (.long got), .second, .val (.int u0), .val (.int u1), .val (.int u2), .val (.int (Int32.ofNat A)), .val (.int (Int32.ofNat (cs.length - A))), .unset, .unset, .unset, .unset, .unset, .unset]) rfl pd17 rfl (Nat.le_of_eq rfl) (pc := 485) (by decide +kernel)
  cases q : badB cs A 9
  · rw [q] at g2
    have g3 : Ld p e below T2 (mkF m 488 #[.val (.int i0), .val (.long i1), .second, .val (.long i2), .second, .val (.int (Int32.ofNat cs.length)), .val (.ref ca), .val (.ref sa), .val (.long got), .second, .val (.int u0), .val (.int u1), .val (.int u2), .val (.int (Int32.ofNat A)), .val (.int (Int32.ofNat (cs.length - A))), .unset, .unset, .unset, .unset, .unset, .unset] [(.int (0 : Int32))]) T2 (mkF m 491 #[.val (.int i0), .val (.long i1), .second, .val (.long i2), .second, .val (.int (Int32.ofNat cs.length)), .val (.ref ca), .val (.ref sa), .val (.long got), .second, .val (.int u0), .val (.int u1), .val (.int u2), .val (.int (Int32.ofNat A)), .val (.int (Int32.ofNat (cs.length - A))), .unset, .unset, .unset, .unset, .unset, .unset] []) := goRun K N2 #[] [(488, .ifCond .ne 45, 3)] [.null] (P := ((0 : Int32) = (0 : Int32)) ∧ True) (by decide +kernel) rfl ⟨rfl, trivial⟩
    exact EndsN.pre (g1.trans (g2.trans g3)) (badc_10 hw sf K hret O0 N2 i0 i1 i2 C hn got u0 u1 u2 hA3 hAl hA hg (hp.trans (orN (c := 3) q)))
  · rw [q] at g2
    have g3 : Ld p e below T2 (mkF m 488 #[.val (.int i0), .val (.long i1), .second, .val (.long i2), .second, .val (.int (Int32.ofNat cs.length)), .val (.ref ca), .val (.ref sa), .val (.long got), .second, .val (.int u0), .val (.int u1), .val (.int u2), .val (.int (Int32.ofNat A)), .val (.int (Int32.ofNat (cs.length - A))), .unset, .unset, .unset, .unset, .unset, .unset] [(.int (1 : Int32))]) T2 (mkF m 540 #[.val (.int i0), .val (.long i1), .second, .val (.long i2), .second, .val (.int (Int32.ofNat cs.length)), .val (.ref ca), .val (.ref sa), .val (.long got), .second, .val (.int u0), .val (.int u1), .val (.int u2), .val (.int (Int32.ofNat A)), .val (.int (Int32.ofNat (cs.length - A))), .val (.int (1 : Int32)), .unset, .unset, .unset, .unset, .unset] []) := goRun K N2 #[] [(488, .ifCond .ne 45, 3), (533, .iconst 1, 1), (534, .goto 4, 3), (538, .istore 15, 2)] [.ref 0] (P := (¬ (1 : Int32) = (0 : Int32)) ∧ True) (by decide +kernel) rfl ⟨(by decide), trivial⟩
    exact EndsN.pre (g1.trans (g2.trans g3)) (nzc_0 hw sf K hret O0 N2 i0 i1 i2 C hn got u0 u1 u2 hA3 hAl hA hg true (hp.trans (orY (c := 3) q)) rfl)
set_option maxHeartbeats 4000000 in
theorem badc_8 (hw : ∀ d ∈ tables_1, d.before a0 Z = true) {z : Int32} {fm : Value} (sf : SF Z z fm) (K : Cx Z "com/example/covenantry/covenantry/FigurePlacesColumnPinLaw" code maxLocals p m c) (hret : meth.sig.returnType = ret) (O0 : Old Z n0 s.heap) (N : Nw Z n0 h p l e room_1 s m args below meth c T 8 200) (i0 : Int32) (i1 i2 : Int64) {ca sa : Addr} {cs : List Int32} (C : Av Z h ca .char (cs.map Value.int)) (hn : cs.length ≤ 13) (got : Int64) (u0 u1 u2 : Int32) {A : Nat} (hA3 : A ≤ 3) (hAl : A ≤ cs.length) (hA : A = atF cs 3 0) (hg : got = colV cs) (hp : orF (badB cs A) 13 0 = orF (badB cs A) 5 8) :
    EndsN Z n0 h p l e room_1 s m args below meth c T (mkF m 463 #[.val (.int i0), .val (.long i1), .second, .val (.long i2), .second, .val (.int (Int32.ofNat cs.length)), .val (.ref ca), .val (.ref sa), .val (.long got), .second, .val (.int u0), .val (.int u1), .val (.int u2), .val (.int (Int32.ofNat A)), .val (.int (Int32.ofNat (cs.length - A))), .unset, .unset, .unset, .unset, .unset, .unset] []) := by
  have g1 : Ld p e below T (mkF m 463 #[.val (.int i0), .val (.long i1), .second, .val (.long i2), .second, .val (.int (Int32.ofNat cs.length)), .val (.ref ca), .val (.ref sa), .val (.long got), .second, .val (.int u0), .val (.int u1), .val (.int u2), .val (.int (Int32.ofNat A)), .val (.int (Int32.ofNat (cs.length - A))), .unset, .unset, .unset, .unset, .unset, .unset] []) T (mkF m 471 #[.val (.int i0), .val (.long i1), .second, .val (.long i2), .second, .val (.int (Int32.ofNat cs.length)), .val (.ref ca), .val (.ref sa), .val (.long got), .second, .val (.int u0), .val (.int u1), .val (.int u2), .val (.int (Int32.ofNat A)), .val (.int (Int32.ofNat (cs.length - A))), .unset, .unset, .unset, .unset, .unset, .unset] [(.int (8 : Int32)), (.int (Int32.ofNat A)), (.int (Int32.ofNat cs.length)), (.ref ca)]) := goRun K N #[] [(463, .aload 6, 2), (465, .iload 5, 2), (467, .iload 13, 2), (469, .bipush 8, 2)] [] (P := True) (by decide +kernel) rfl trivial
  obtain ⟨v2, T2, _, N2, ⟨rfl, rfl⟩, g2⟩ := goS K N (tw hw 43 rfl) (tw hw 44 rfl) (tw hw 45 rfl) (tw hw 46 rfl) (con_bad hw C hn (A := A) (i := 8) hA3 (by decide)) (argsL := [(.ref ca), (.int (Int32.ofNat cs.length)), (.int (Int32.ofNat A)), (.int (8 : Int32))]) (W := 0) (rest := []) (by decide) (by decide) (by decide) (by decide) (by decide) (L := #[.val (.int i0), .val (.long i1), .second, .val (.long i2), .second, .val (.int (Int32.ofNat cs.length)), .val (.ref ca), .val (.ref sa), .val (.long got), .second, .val (.int u0), .val (.int u1), .val (.int u2), .val (.int (Int32.ofNat A)), .val (.int (Int32.ofNat (cs.length - A))), .unset, .unset, .unset, .unset, .unset, .unset]) rfl pd17 rfl (Nat.le_of_eq rfl) (pc := 471) (by decide +kernel)
  cases q : badB cs A 8
  · rw [q] at g2
    have g3 : Ld p e below T2 (mkF m 474 #[.val (.int i0), .val (.long i1), .second, .val (.long i2), .second, .val (.int (Int32.ofNat cs.length)), .val (.ref ca), .val (.ref sa), .val (.long got), .second, .val (.int u0), .val (.int u1), .val (.int u2), .val (.int (Int32.ofNat A)), .val (.int (Int32.ofNat (cs.length - A))), .unset, .unset, .unset, .unset, .unset, .unset] [(.int (0 : Int32))]) T2 (mkF m 477 #[.val (.int i0), .val (.long i1), .second, .val (.long i2), .second, .val (.int (Int32.ofNat cs.length)), .val (.ref ca), .val (.ref sa), .val (.long got), .second, .val (.int u0), .val (.int u1), .val (.int u2), .val (.int (Int32.ofNat A)), .val (.int (Int32.ofNat (cs.length - A))), .unset, .unset, .unset, .unset, .unset, .unset] []) := goRun K N2 #[] [(474, .ifCond .ne 59, 3)] [.null] (P := ((0 : Int32) = (0 : Int32)) ∧ True) (by decide +kernel) rfl ⟨rfl, trivial⟩
    exact EndsN.pre (g1.trans (g2.trans g3)) (badc_9 hw sf K hret O0 N2 i0 i1 i2 C hn got u0 u1 u2 hA3 hAl hA hg (hp.trans (orN (c := 4) q)))
  · rw [q] at g2
    have g3 : Ld p e below T2 (mkF m 474 #[.val (.int i0), .val (.long i1), .second, .val (.long i2), .second, .val (.int (Int32.ofNat cs.length)), .val (.ref ca), .val (.ref sa), .val (.long got), .second, .val (.int u0), .val (.int u1), .val (.int u2), .val (.int (Int32.ofNat A)), .val (.int (Int32.ofNat (cs.length - A))), .unset, .unset, .unset, .unset, .unset, .unset] [(.int (1 : Int32))]) T2 (mkF m 540 #[.val (.int i0), .val (.long i1), .second, .val (.long i2), .second, .val (.int (Int32.ofNat cs.length)), .val (.ref ca), .val (.ref sa), .val (.long got), .second, .val (.int u0), .val (.int u1), .val (.int u2), .val (.int (Int32.ofNat A)), .val (.int (Int32.ofNat (cs.length - A))), .val (.int (1 : Int32)), .unset, .unset, .unset, .unset, .unset] []) := goRun K N2 #[] [(474, .ifCond .ne 59, 3), (533, .iconst 1, 1), (534, .goto 4, 3), (538, .istore 15, 2)] [.ref 0] (P := (¬ (1 : Int32) = (0 : Int32)) ∧ True) (by decide +kernel) rfl ⟨(by decide), trivial⟩
    exact EndsN.pre (g1.trans (g2.trans g3)) (nzc_0 hw sf K hret O0 N2 i0 i1 i2 C hn got u0 u1 u2 hA3 hAl hA hg true (hp.trans (orY (c := 4) q)) rfl)
set_option maxHeartbeats 4000000 in
theorem badc_7 (hw : ∀ d ∈ tables_1, d.before a0 Z = true) {z : Int32} {fm : Value} (sf : SF Z z fm) (K : Cx Z "com/example/covenantry/covenantry/FigurePlacesColumnPinLaw" code maxLocals p m c) (hret : meth.sig.returnType = ret) (O0 : Old Z n0 s.heap) (N : Nw Z n0 h p l e room_1 s m args below meth c T 8 200) (i0 : Int32) (i1 i2 : Int64) {ca sa : Addr} {cs : List Int32} (C : Av Z h ca .char (cs.map Value.int)) (hn : cs.length ≤ 13) (got : Int64) (u0 u1 u2 : Int32) {A : Nat} (hA3 : A ≤ 3) (hAl : A ≤ cs.length) (hA : A = atF cs 3 0) (hg : got = colV cs) (hp : orF (badB cs A) 13 0 = orF (badB cs A) 6 7) :
    EndsN Z n0 h p l e room_1 s m args below meth c T (mkF m 449 #[.val (.int i0), .val (.long i1), .second, .val (.long i2), .second, .val (.int (Int32.ofNat cs.length)), .val (.ref ca), .val (.ref sa), .val (.long got), .second, .val (.int u0), .val (.int u1), .val (.int u2), .val (.int (Int32.ofNat A)), .val (.int (Int32.ofNat (cs.length - A))), .unset, .unset, .unset, .unset, .unset, .unset] []) := by
  have g1 : Ld p e below T (mkF m 449 #[.val (.int i0), .val (.long i1), .second, .val (.long i2), .second, .val (.int (Int32.ofNat cs.length)), .val (.ref ca), .val (.ref sa), .val (.long got), .second, .val (.int u0), .val (.int u1), .val (.int u2), .val (.int (Int32.ofNat A)), .val (.int (Int32.ofNat (cs.length - A))), .unset, .unset, .unset, .unset, .unset, .unset] []) T (mkF m 457 #[.val (.int i0), .val (.long i1), .second, .val (.long i2), .second, .val (.int (Int32.ofNat cs.length)), .val (.ref ca), .val (.ref sa), .val (.long got), .second, .val (.int u0), .val (.int u1), .val (.int u2), .val (.int (Int32.ofNat A)), .val (.int (Int32.ofNat (cs.length - A))), .unset, .unset, .unset, .unset, .unset, .unset] [(.int (7 : Int32)), (.int (Int32.ofNat A)), (.int (Int32.ofNat cs.length)), (.ref ca)]) := goRun K N #[] [(449, .aload 6, 2), (451, .iload 5, 2), (453, .iload 13, 2), (455, .bipush 7, 2)] [] (P := True) (by decide +kernel) rfl trivial
  obtain ⟨v2, T2, _, N2, ⟨rfl, rfl⟩, g2⟩ := goS K N (tw hw 43 rfl) (tw hw 44 rfl) (tw hw 45 rfl) (tw hw 46 rfl) (con_bad hw C hn (A := A) (i := 7) hA3 (by decide)) (argsL := [(.ref ca), (.int (Int32.ofNat cs.length)), (.int (Int32.ofNat A)), (.int (7 : Int32))]) (W := 0) (rest := []) (by decide) (by decide) (by decide) (by decide) (by decide) (L := #[.val (.int i0), .val (.long i1), .second, .val (.long i2), .second, .val (.int (Int32.ofNat cs.length)), .val (.ref ca), .val (.ref sa), .val (.long got), .second, .val (.int u0), .val (.int u1), .val (.int u2), .val (.int (Int32.ofNat A)), .val (.int (Int32.ofNat (cs.length - A))), .unset, .unset, .unset, .unset, .unset, .unset]) rfl pd17 rfl (Nat.le_of_eq rfl) (pc := 457) (by decide +kernel)
  cases q : badB cs A 7
  · rw [q] at g2
    have g3 : Ld p e below T2 (mkF m 460 #[.val (.int i0), .val (.long i1), .second, .val (.long i2), .second, .val (.int (Int32.ofNat cs.length)), .val (.ref ca), .val (.ref sa), .val (.long got), .second, .val (.int u0), .val (.int u1), .val (.int u2), .val (.int (Int32.ofNat A)), .val (.int (Int32.ofNat (cs.length - A))), .unset, .unset, .unset, .unset, .unset, .unset] [(.int (0 : Int32))]) T2 (mkF m 463 #[.val (.int i0), .val (.long i1), .second, .val (.long i2), .second, .val (.int (Int32.ofNat cs.length)), .val (.ref ca), .val (.ref sa), .val (.long got), .second, .val (.int u0), .val (.int u1), .val (.int u2), .val (.int (Int32.ofNat A)), .val (.int (Int32.ofNat (cs.length - A))), .unset, .unset, .unset, .unset, .unset, .unset] []) := goRun K N2 #[] [(460, .ifCond .ne 73, 3)] [.null] (P := ((0 : Int32) = (0 : Int32)) ∧ True) (by decide +kernel) rfl ⟨rfl, trivial⟩
    exact EndsN.pre (g1.trans (g2.trans g3)) (badc_8 hw sf K hret O0 N2 i0 i1 i2 C hn got u0 u1 u2 hA3 hAl hA hg (hp.trans (orN (c := 5) q)))
  · rw [q] at g2
    have g3 : Ld p e below T2 (mkF m 460 #[.val (.int i0), .val (.long i1), .second, .val (.long i2), .second, .val (.int (Int32.ofNat cs.length)), .val (.ref ca), .val (.ref sa), .val (.long got), .second, .val (.int u0), .val (.int u1), .val (.int u2), .val (.int (Int32.ofNat A)), .val (.int (Int32.ofNat (cs.length - A))), .unset, .unset, .unset, .unset, .unset, .unset] [(.int (1 : Int32))]) T2 (mkF m 540 #[.val (.int i0), .val (.long i1), .second, .val (.long i2), .second, .val (.int (Int32.ofNat cs.length)), .val (.ref ca), .val (.ref sa), .val (.long got), .second, .val (.int u0), .val (.int u1), .val (.int u2), .val (.int (Int32.ofNat A)), .val (.int (Int32.ofNat (cs.length - A))), .val (.int (1 : Int32)), .unset, .unset, .unset, .unset, .unset] []) := goRun K N2 #[] [(460, .ifCond .ne 73, 3), (533, .iconst 1, 1), (534, .goto 4, 3), (538, .istore 15, 2)] [.ref 0] (P := (¬ (1 : Int32) = (0 : Int32)) ∧ True) (by decide +kernel) rfl ⟨(by decide), trivial⟩
    exact EndsN.pre (g1.trans (g2.trans g3)) (nzc_0 hw sf K hret O0 N2 i0 i1 i2 C hn got u0 u1 u2 hA3 hAl hA hg true (hp.trans (orY (c := 5) q)) rfl)
set_option maxHeartbeats 4000000 in
theorem badc_6 (hw : ∀ d ∈ tables_1, d.before a0 Z = true) {z : Int32} {fm : Value} (sf : SF Z z fm) (K : Cx Z "com/example/covenantry/covenantry/FigurePlacesColumnPinLaw" code maxLocals p m c) (hret : meth.sig.returnType = ret) (O0 : Old Z n0 s.heap) (N : Nw Z n0 h p l e room_1 s m args below meth c T 8 200) (i0 : Int32) (i1 i2 : Int64) {ca sa : Addr} {cs : List Int32} (C : Av Z h ca .char (cs.map Value.int)) (hn : cs.length ≤ 13) (got : Int64) (u0 u1 u2 : Int32) {A : Nat} (hA3 : A ≤ 3) (hAl : A ≤ cs.length) (hA : A = atF cs 3 0) (hg : got = colV cs) (hp : orF (badB cs A) 13 0 = orF (badB cs A) 7 6) :
    EndsN Z n0 h p l e room_1 s m args below meth c T (mkF m 435 #[.val (.int i0), .val (.long i1), .second, .val (.long i2), .second, .val (.int (Int32.ofNat cs.length)), .val (.ref ca), .val (.ref sa), .val (.long got), .second, .val (.int u0), .val (.int u1), .val (.int u2), .val (.int (Int32.ofNat A)), .val (.int (Int32.ofNat (cs.length - A))), .unset, .unset, .unset, .unset, .unset, .unset] []) := by
  have g1 : Ld p e below T (mkF m 435 #[.val (.int i0), .val (.long i1), .second, .val (.long i2), .second, .val (.int (Int32.ofNat cs.length)), .val (.ref ca), .val (.ref sa), .val (.long got), .second, .val (.int u0), .val (.int u1), .val (.int u2), .val (.int (Int32.ofNat A)), .val (.int (Int32.ofNat (cs.length - A))), .unset, .unset, .unset, .unset, .unset, .unset] []) T (mkF m 443 #[.val (.int i0), .val (.long i1), .second, .val (.long i2), .second, .val (.int (Int32.ofNat cs.length)), .val (.ref ca), .val (.ref sa), .val (.long got), .second, .val (.int u0), .val (.int u1), .val (.int u2), .val (.int (Int32.ofNat A)), .val (.int (Int32.ofNat (cs.length - A))), .unset, .unset, .unset, .unset, .unset, .unset] [(.int (6 : Int32)), (.int (Int32.ofNat A)), (.int (Int32.ofNat cs.length)), (.ref ca)]) := goRun K N #[] [(435, .aload 6, 2), (437, .iload 5, 2), (439, .iload 13, 2), (441, .bipush 6, 2)] [] (P := True) (by decide +kernel) rfl trivial
  obtain ⟨v2, T2, _, N2, ⟨rfl, rfl⟩, g2⟩ := goS K N (tw hw 43 rfl) (tw hw 44 rfl) (tw hw 45 rfl) (tw hw 46 rfl) (con_bad hw C hn (A := A) (i := 6) hA3 (by decide)) (argsL := [(.ref ca), (.int (Int32.ofNat cs.length)), (.int (Int32.ofNat A)), (.int (6 : Int32))]) (W := 0) (rest := []) (by decide) (by decide) (by decide) (by decide) (by decide) (L := #[.val (.int i0), .val (.long i1), .second, .val (.long i2), .second, .val (.int (Int32.ofNat cs.length)), .val (.ref ca), .val (.ref sa), .val (.long got), .second, .val (.int u0), .val (.int u1), .val (.int u2), .val (.int (Int32.ofNat A)), .val (.int (Int32.ofNat (cs.length - A))), .unset, .unset, .unset, .unset, .unset, .unset]) rfl pd17 rfl (Nat.le_of_eq rfl) (pc := 443) (by decide +kernel)
  cases q : badB cs A 6
  · rw [q] at g2
    have g3 : Ld p e below T2 (mkF m 446 #[.val (.int i0), .val (.long i1), .second, .val (.long i2), .second, .val (.int (Int32.ofNat cs.length)), .val (.ref ca), .val (.ref sa), .val (.long got), .second, .val (.int u0), .val (.int u1), .val (.int u2), .val (.int (Int32.ofNat A)), .val (.int (Int32.ofNat (cs.length - A))), .unset, .unset, .unset, .unset, .unset, .unset] [(.int (0 : Int32))]) T2 (mkF m 449 #[.val (.int i0), .val (.long i1), .second, .val (.long i2), .second, .val (.int (Int32.ofNat cs.length)), .val (.ref ca), .val (.ref sa), .val (.long got), .second, .val (.int u0), .val (.int u1), .val (.int u2), .val (.int (Int32.ofNat A)), .val (.int (Int32.ofNat (cs.length - A))), .unset, .unset, .unset, .unset, .unset, .unset] []) := goRun K N2 #[] [(446, .ifCond .ne 87, 3)] [.null] (P := ((0 : Int32) = (0 : Int32)) ∧ True) (by decide +kernel) rfl ⟨rfl, trivial⟩
    exact EndsN.pre (g1.trans (g2.trans g3)) (badc_7 hw sf K hret O0 N2 i0 i1 i2 C hn got u0 u1 u2 hA3 hAl hA hg (hp.trans (orN (c := 6) q)))
  · rw [q] at g2
    have g3 : Ld p e below T2 (mkF m 446 #[.val (.int i0), .val (.long i1), .second, .val (.long i2), .second, .val (.int (Int32.ofNat cs.length)), .val (.ref ca), .val (.ref sa), .val (.long got), .second, .val (.int u0), .val (.int u1), .val (.int u2), .val (.int (Int32.ofNat A)), .val (.int (Int32.ofNat (cs.length - A))), .unset, .unset, .unset, .unset, .unset, .unset] [(.int (1 : Int32))]) T2 (mkF m 540 #[.val (.int i0), .val (.long i1), .second, .val (.long i2), .second, .val (.int (Int32.ofNat cs.length)), .val (.ref ca), .val (.ref sa), .val (.long got), .second, .val (.int u0), .val (.int u1), .val (.int u2), .val (.int (Int32.ofNat A)), .val (.int (Int32.ofNat (cs.length - A))), .val (.int (1 : Int32)), .unset, .unset, .unset, .unset, .unset] []) := goRun K N2 #[] [(446, .ifCond .ne 87, 3), (533, .iconst 1, 1), (534, .goto 4, 3), (538, .istore 15, 2)] [.ref 0] (P := (¬ (1 : Int32) = (0 : Int32)) ∧ True) (by decide +kernel) rfl ⟨(by decide), trivial⟩
    exact EndsN.pre (g1.trans (g2.trans g3)) (nzc_0 hw sf K hret O0 N2 i0 i1 i2 C hn got u0 u1 u2 hA3 hAl hA hg true (hp.trans (orY (c := 6) q)) rfl)
set_option maxHeartbeats 4000000 in
theorem badc_5 (hw : ∀ d ∈ tables_1, d.before a0 Z = true) {z : Int32} {fm : Value} (sf : SF Z z fm) (K : Cx Z "com/example/covenantry/covenantry/FigurePlacesColumnPinLaw" code maxLocals p m c) (hret : meth.sig.returnType = ret) (O0 : Old Z n0 s.heap) (N : Nw Z n0 h p l e room_1 s m args below meth c T 8 200) (i0 : Int32) (i1 i2 : Int64) {ca sa : Addr} {cs : List Int32} (C : Av Z h ca .char (cs.map Value.int)) (hn : cs.length ≤ 13) (got : Int64) (u0 u1 u2 : Int32) {A : Nat} (hA3 : A ≤ 3) (hAl : A ≤ cs.length) (hA : A = atF cs 3 0) (hg : got = colV cs) (hp : orF (badB cs A) 13 0 = orF (badB cs A) 8 5) :
    EndsN Z n0 h p l e room_1 s m args below meth c T (mkF m 422 #[.val (.int i0), .val (.long i1), .second, .val (.long i2), .second, .val (.int (Int32.ofNat cs.length)), .val (.ref ca), .val (.ref sa), .val (.long got), .second, .val (.int u0), .val (.int u1), .val (.int u2), .val (.int (Int32.ofNat A)), .val (.int (Int32.ofNat (cs.length - A))), .unset, .unset, .unset, .unset, .unset, .unset] []) := by
  have g1 : Ld p e below T (mkF m 422 #[.val (.int i0), .val (.long i1), .second, .val (.long i2), .second, .val (.int (Int32.ofNat cs.length)), .val (.ref ca), .val (.ref sa), .val (.long got), .second, .val (.int u0), .val (.int u1), .val (.int u2), .val (.int (Int32.ofNat A)), .val (.int (Int32.ofNat (cs.length - A))), .unset, .unset, .unset, .unset, .unset, .unset] []) T (mkF m 429 #[.val (.int i0), .val (.long i1), .second, .val (.long i2), .second, .val (.int (Int32.ofNat cs.length)), .val (.ref ca), .val (.ref sa), .val (.long got), .second, .val (.int u0), .val (.int u1), .val (.int u2), .val (.int (Int32.ofNat A)), .val (.int (Int32.ofNat (cs.length - A))), .unset, .unset, .unset, .unset, .unset, .unset] [(.int (5 : Int32)), (.int (Int32.ofNat A)), (.int (Int32.ofNat cs.length)), (.ref ca)]) := goRun K N #[] [(422, .aload 6, 2), (424, .iload 5, 2), (426, .iload 13, 2), (428, .iconst 5, 1)] [] (P := True) (by decide +kernel) rfl trivial
  obtain ⟨v2, T2, _, N2, ⟨rfl, rfl⟩, g2⟩ := goS K N (tw hw 43 rfl) (tw hw 44 rfl) (tw hw 45 rfl) (tw hw 46 rfl) (con_bad hw C hn (A := A) (i := 5) hA3 (by decide)) (argsL := [(.ref ca), (.int (Int32.ofNat cs.length)), (.int (Int32.ofNat A)), (.int (5 : Int32))]) (W := 0) (rest := []) (by decide) (by decide) (by decide) (by decide) (by decide) (L := #[.val (.int i0), .val (.long i1), .second, .val (.long i2), .second, .val (.int (Int32.ofNat cs.length)), .val (.ref ca), .val (.ref sa), .val (.long got), .second, .val (.int u0), .val (.int u1), .val (.int u2), .val (.int (Int32.ofNat A)), .val (.int (Int32.ofNat (cs.length - A))), .unset, .unset, .unset, .unset, .unset, .unset]) rfl pd17 rfl (Nat.le_of_eq rfl) (pc := 429) (by decide +kernel)
  cases q : badB cs A 5
  · rw [q] at g2
    have g3 : Ld p e below T2 (mkF m 432 #[.val (.int i0), .val (.long i1), .second, .val (.long i2), .second, .val (.int (Int32.ofNat cs.length)), .val (.ref ca), .val (.ref sa), .val (.long got), .second, .val (.int u0), .val (.int u1), .val (.int u2), .val (.int (Int32.ofNat A)), .val (.int (Int32.ofNat (cs.length - A))), .unset, .unset, .unset, .unset, .unset, .unset] [(.int (0 : Int32))]) T2 (mkF m 435 #[.val (.int i0), .val (.long i1), .second, .val (.long i2), .second, .val (.int (Int32.ofNat cs.length)), .val (.ref ca), .val (.ref sa), .val (.long got), .second, .val (.int u0), .val (.int u1), .val (.int u2), .val (.int (Int32.ofNat A)), .val (.int (Int32.ofNat (cs.length - A))), .unset, .unset, .unset, .unset, .unset, .unset] []) := goRun K N2 #[] [(432, .ifCond .ne 101, 3)] [.null] (P := ((0 : Int32) = (0 : Int32)) ∧ True) (by decide +kernel) rfl ⟨rfl, trivial⟩
    exact EndsN.pre (g1.trans (g2.trans g3)) (badc_6 hw sf K hret O0 N2 i0 i1 i2 C hn got u0 u1 u2 hA3 hAl hA hg (hp.trans (orN (c := 7) q)))
  · rw [q] at g2
    have g3 : Ld p e below T2 (mkF m 432 #[.val (.int i0), .val (.long i1), .second, .val (.long i2), .second, .val (.int (Int32.ofNat cs.length)), .val (.ref ca), .val (.ref sa), .val (.long got), .second, .val (.int u0), .val (.int u1), .val (.int u2), .val (.int (Int32.ofNat A)), .val (.int (Int32.ofNat (cs.length - A))), .unset, .unset, .unset, .unset, .unset, .unset] [(.int (1 : Int32))]) T2 (mkF m 540 #[.val (.int i0), .val (.long i1), .second, .val (.long i2), .second, .val (.int (Int32.ofNat cs.length)), .val (.ref ca), .val (.ref sa), .val (.long got), .second, .val (.int u0), .val (.int u1), .val (.int u2), .val (.int (Int32.ofNat A)), .val (.int (Int32.ofNat (cs.length - A))), .val (.int (1 : Int32)), .unset, .unset, .unset, .unset, .unset] []) := goRun K N2 #[] [(432, .ifCond .ne 101, 3), (533, .iconst 1, 1), (534, .goto 4, 3), (538, .istore 15, 2)] [.ref 0] (P := (¬ (1 : Int32) = (0 : Int32)) ∧ True) (by decide +kernel) rfl ⟨(by decide), trivial⟩
    exact EndsN.pre (g1.trans (g2.trans g3)) (nzc_0 hw sf K hret O0 N2 i0 i1 i2 C hn got u0 u1 u2 hA3 hAl hA hg true (hp.trans (orY (c := 7) q)) rfl)
set_option maxHeartbeats 4000000 in
theorem badc_4 (hw : ∀ d ∈ tables_1, d.before a0 Z = true) {z : Int32} {fm : Value} (sf : SF Z z fm) (K : Cx Z "com/example/covenantry/covenantry/FigurePlacesColumnPinLaw" code maxLocals p m c) (hret : meth.sig.returnType = ret) (O0 : Old Z n0 s.heap) (N : Nw Z n0 h p l e room_1 s m args below meth c T 8 200) (i0 : Int32) (i1 i2 : Int64) {ca sa : Addr} {cs : List Int32} (C : Av Z h ca .char (cs.map Value.int)) (hn : cs.length ≤ 13) (got : Int64) (u0 u1 u2 : Int32) {A : Nat} (hA3 : A ≤ 3) (hAl : A ≤ cs.length) (hA : A = atF cs 3 0) (hg : got = colV cs) (hp : orF (badB cs A) 13 0 = orF (badB cs A) 9 4) :
    EndsN Z n0 h p l e room_1 s m args below meth c T (mkF m 409 #[.val (.int i0), .val (.long i1), .second, .val (.long i2), .second, .val (.int (Int32.ofNat cs.length)), .val (.ref ca), .val (.ref sa), .val (.long got), .second, .val (.int u0), .val (.int u1), .val (.int u2), .val (.int (Int32.ofNat A)), .val (.int (Int32.ofNat (cs.length - A))), .unset, .unset, .unset, .unset, .unset, .unset] []) := by
  have g1 : Ld p e below T (mkF m 409 #[.val (.int i0), .val (.long i1), .second, .val (.long i2), .second, .val (.int (Int32.ofNat cs.length)), .val (.ref ca), .val (.ref sa), .val (.long got), .second, .val (.int u0), .val (.int u1), .val (.int u2), .val (.int (Int32.ofNat A)), .val (.int (Int32.ofNat (cs.length - A))), .unset, .unset, .unset, .unset, .unset, .unset] []) T (mkF m 416 #[.val (.int i0), .val (.long i1), .second, .val (.long i2), .second, .val (.int (Int32.ofNat cs.length)), .val (.ref ca), .val (.ref sa), .val (.long got), .second, .val (.int u0), .val (.int u1), .val (.int u2), .val (.int (Int32.ofNat A)), .val (.int (Int32.ofNat (cs.length - A))), .unset, .unset, .unset, .unset, .unset, .unset] [(.int (4 : Int32)), (.int (Int32.ofNat A)), (.int (Int32.ofNat cs.length)), (.ref ca)]) := goRun K N #[] [(409, .aload 6, 2), (411, .iload 5, 2), (413, .iload 13, 2), (415, .iconst 4, 1)] [] (P := True) (by decide +kernel) rfl trivial
  obtain ⟨v2, T2, _, N2, ⟨rfl, rfl⟩, g2⟩ := goS K N (tw hw 43 rfl) (tw hw 44 rfl) (tw hw 45 rfl) (tw hw 46 rfl) (con_bad hw C hn (A := A) (i := 4) hA3 (by decide)) (argsL := [(.ref ca), (.int (Int32.ofNat cs.length)), (.int (Int32.ofNat A)), (.int (4 : Int32))]) (W := 0) (rest := []) (by decide) (by decide) (by decide) (by decide) (by decide) (L := #[.val (.int i0), .val (.long i1), .second, .val (.long i2), .second, .val (.int (Int32.ofNat cs.length)), .val (.ref ca), .val (.ref sa), .val (.long got), .second, .val (.int u0), .val (.int u1), .val (.int u2), .val (.int (Int32.ofNat A)), .val (.int (Int32.ofNat (cs.length - A))), .unset, .unset, .unset, .unset, .unset, .unset]) rfl pd17 rfl (Nat.le_of_eq rfl) (pc := 416) (by decide +kernel)
  cases q : badB cs A 4
  · rw [q] at g2
    have g3 : Ld p e below T2 (mkF m 419 #[.val (.int i0), .val (.long i1), .second, .val (.long i2), .second, .val (.int (Int32.ofNat cs.length)), .val (.ref ca), .val (.ref sa), .val (.long got), .second, .val (.int u0), .val (.int u1), .val (.int u2), .val (.int (Int32.ofNat A)), .val (.int (Int32.ofNat (cs.length - A))), .unset, .unset, .unset, .unset, .unset, .unset] [(.int (0 : Int32))]) T2 (mkF m 422 #[.val (.int i0), .val (.long i1), .second, .val (.long i2), .second, .val (.int (Int32.ofNat cs.length)), .val (.ref ca), .val (.ref sa), .val (.long got), .second, .val (.int u0), .val (.int u1), .val (.int u2), .val (.int (Int32.ofNat A)), .val (.int (Int32.ofNat (cs.length - A))), .unset, .unset, .unset, .unset, .unset, .unset] []) := goRun K N2 #[] [(419, .ifCond .ne 114, 3)] [.null] (P := ((0 : Int32) = (0 : Int32)) ∧ True) (by decide +kernel) rfl ⟨rfl, trivial⟩
    exact EndsN.pre (g1.trans (g2.trans g3)) (badc_5 hw sf K hret O0 N2 i0 i1 i2 C hn got u0 u1 u2 hA3 hAl hA hg (hp.trans (orN (c := 8) q)))
  · rw [q] at g2
    have g3 : Ld p e below T2 (mkF m 419 #[.val (.int i0), .val (.long i1), .second, .val (.long i2), .second, .val (.int (Int32.ofNat cs.length)), .val (.ref ca), .val (.ref sa), .val (.long got), .second, .val (.int u0), .val (.int u1), .val (.int u2), .val (.int (Int32.ofNat A)), .val (.int (Int32.ofNat (cs.length - A))), .unset, .unset, .unset, .unset, .unset, .unset] [(.int (1 : Int32))]) T2 (mkF m 540 #[.val (.int i0), .val (.long i1), .second, .val (.long i2), .second, .val (.int (Int32.ofNat cs.length)), .val (.ref ca), .val (.ref sa), .val (.long got), .second, .val (.int u0), .val (.int u1), .val (.int u2), .val (.int (Int32.ofNat A)), .val (.int (Int32.ofNat (cs.length - A))), .val (.int (1 : Int32)), .unset, .unset, .unset, .unset, .unset] []) := goRun K N2 #[] [(419, .ifCond .ne 114, 3), (533, .iconst 1, 1), (534, .goto 4, 3), (538, .istore 15, 2)] [.ref 0] (P := (¬ (1 : Int32) = (0 : Int32)) ∧ True) (by decide +kernel) rfl ⟨(by decide), trivial⟩
    exact EndsN.pre (g1.trans (g2.trans g3)) (nzc_0 hw sf K hret O0 N2 i0 i1 i2 C hn got u0 u1 u2 hA3 hAl hA hg true (hp.trans (orY (c := 8) q)) rfl)
set_option maxHeartbeats 4000000 in
theorem badc_3 (hw : ∀ d ∈ tables_1, d.before a0 Z = true) {z : Int32} {fm : Value} (sf : SF Z z fm) (K : Cx Z "com/example/covenantry/covenantry/FigurePlacesColumnPinLaw" code maxLocals p m c) (hret : meth.sig.returnType = ret) (O0 : Old Z n0 s.heap) (N : Nw Z n0 h p l e room_1 s m args below meth c T 8 200) (i0 : Int32) (i1 i2 : Int64) {ca sa : Addr} {cs : List Int32} (C : Av Z h ca .char (cs.map Value.int)) (hn : cs.length ≤ 13) (got : Int64) (u0 u1 u2 : Int32) {A : Nat} (hA3 : A ≤ 3) (hAl : A ≤ cs.length) (hA : A = atF cs 3 0) (hg : got = colV cs) (hp : orF (badB cs A) 13 0 = orF (badB cs A) 10 3) :
    EndsN Z n0 h p l e room_1 s m args below meth c T (mkF m 396 #[.val (.int i0), .val (.long i1), .second, .val (.long i2), .second, .val (.int (Int32.ofNat cs.length)), .val (.ref ca), .val (.ref sa), .val (.long got), .second, .val (.int u0), .val (.int u1), .val (.int u2), .val (.int (Int32.ofNat A)), .val (.int (Int32.ofNat (cs.length - A))), .unset, .unset, .unset, .unset, .unset, .unset] []) := by
  have g1 : Ld p e below T (mkF m 396 #[.val (.int i0), .val (.long i1), .second, .val (.long i2), .second, .val (.int (Int32.ofNat cs.length)), .val (.ref ca), .val (.ref sa), .val (.long got), .second, .val (.int u0), .val (.int u1), .val (.int u2), .val (.int (Int32.ofNat A)), .val (.int (Int32.ofNat (cs.length - A))), .unset, .unset, .unset, .unset, .unset, .unset] []) T (mkF m 403 #[.val (.int i0), .val (.long i1), .second, .val (.long i2), .second, .val (.int (Int32.ofNat cs.length)), .val (.ref ca), .val (.ref sa), .val (.long got), .second, .val (.int u0), .val (.int u1), .val (.int u2), .val (.int (Int32.ofNat A)), .val (.int (Int32.ofNat (cs.length - A))), .unset, .unset, .unset, .unset, .unset, .unset] [(.int (3 : Int32)), (.int (Int32.ofNat A)), (.int (Int32.ofNat cs.length)), (.ref ca)]) := goRun K N #[] [(396, .aload 6, 2), (398, .iload 5, 2), (400, .iload 13, 2), (402, .iconst 3, 1)] [] (P := True) (by decide +kernel) rfl trivial
  obtain ⟨v2, T2, _, N2, ⟨rfl, rfl⟩, g2⟩ := goS K N (tw hw 43 rfl) (tw hw 44 rfl) (tw hw 45 rfl) (tw hw 46 rfl) (con_bad hw C hn (A := A) (i := 3) hA3 (by decide)) (argsL := [(.ref ca), (.int (Int32.ofNat cs.length)), (.int (Int32.ofNat A)), (.int (3 : Int32))]) (W := 0) (rest := []) (by decide) (by decide) (by decide) (by decide) (by decide) (L := #[.val (.int i0), .val (.long i1), .second, .val (.long i2), .second, .val (.int (Int32.ofNat cs.length)), .val (.ref ca), .val (.ref sa), .val (.long got), .second, .val (.int u0), .val (.int u1), .val (.int u2), .val (.int (Int32.ofNat A)), .val (.int (Int32.ofNat (cs.length - A))), .unset, .unset, .unset, .unset, .unset, .unset]) rfl pd17 rfl (Nat.le_of_eq rfl) (pc := 403) (by decide +kernel)
  cases q : badB cs A 3
  · rw [q] at g2
    have g3 : Ld p e below T2 (mkF m 406 #[.val (.int i0), .val (.long i1), .second, .val (.long i2), .second, .val (.int (Int32.ofNat cs.length)), .val (.ref ca), .val (.ref sa), .val (.long got), .second, .val (.int u0), .val (.int u1), .val (.int u2), .val (.int (Int32.ofNat A)), .val (.int (Int32.ofNat (cs.length - A))), .unset, .unset, .unset, .unset, .unset, .unset] [(.int (0 : Int32))]) T2 (mkF m 409 #[.val (.int i0), .val (.long i1), .second, .val (.long i2), .second, .val (.int (Int32.ofNat cs.length)), .val (.ref ca), .val (.ref sa), .val (.long got), .second, .val (.int u0), .val (.int u1), .val (.int u2), .val (.int (Int32.ofNat A)), .val (.int (Int32.ofNat (cs.length - A))), .unset, .unset, .unset, .unset, .unset, .unset] []) := goRun K N2 #[] [(406, .ifCond .ne 127, 3)] [.null] (P := ((0 : Int32) = (0 : Int32)) ∧ True) (by decide +kernel) rfl ⟨rfl, trivial⟩
    exact EndsN.pre (g1.trans (g2.trans g3)) (badc_4 hw sf K hret O0 N2 i0 i1 i2 C hn got u0 u1 u2 hA3 hAl hA hg (hp.trans (orN (c := 9) q)))
  · rw [q] at g2
    have g3 : Ld p e below T2 (mkF m 406 #[.val (.int i0), .val (.long i1), .second, .val (.long i2), .second, .val (.int (Int32.ofNat cs.length)), .val (.ref ca), .val (.ref sa), .val (.long got), .second, .val (.int u0), .val (.int u1), .val (.int u2), .val (.int (Int32.ofNat A)), .val (.int (Int32.ofNat (cs.length - A))), .unset, .unset, .unset, .unset, .unset, .unset] [(.int (1 : Int32))]) T2 (mkF m 540 #[.val (.int i0), .val (.long i1), .second, .val (.long i2), .second, .val (.int (Int32.ofNat cs.length)), .val (.ref ca), .val (.ref sa), .val (.long got), .second, .val (.int u0), .val (.int u1), .val (.int u2), .val (.int (Int32.ofNat A)), .val (.int (Int32.ofNat (cs.length - A))), .val (.int (1 : Int32)), .unset, .unset, .unset, .unset, .unset] []) := goRun K N2 #[] [(406, .ifCond .ne 127, 3), (533, .iconst 1, 1), (534, .goto 4, 3), (538, .istore 15, 2)] [.ref 0] (P := (¬ (1 : Int32) = (0 : Int32)) ∧ True) (by decide +kernel) rfl ⟨(by decide), trivial⟩
    exact EndsN.pre (g1.trans (g2.trans g3)) (nzc_0 hw sf K hret O0 N2 i0 i1 i2 C hn got u0 u1 u2 hA3 hAl hA hg true (hp.trans (orY (c := 9) q)) rfl)
set_option maxHeartbeats 4000000 in
theorem badc_2 (hw : ∀ d ∈ tables_1, d.before a0 Z = true) {z : Int32} {fm : Value} (sf : SF Z z fm) (K : Cx Z "com/example/covenantry/covenantry/FigurePlacesColumnPinLaw" code maxLocals p m c) (hret : meth.sig.returnType = ret) (O0 : Old Z n0 s.heap) (N : Nw Z n0 h p l e room_1 s m args below meth c T 8 200) (i0 : Int32) (i1 i2 : Int64) {ca sa : Addr} {cs : List Int32} (C : Av Z h ca .char (cs.map Value.int)) (hn : cs.length ≤ 13) (got : Int64) (u0 u1 u2 : Int32) {A : Nat} (hA3 : A ≤ 3) (hAl : A ≤ cs.length) (hA : A = atF cs 3 0) (hg : got = colV cs) (hp : orF (badB cs A) 13 0 = orF (badB cs A) 11 2) :
    EndsN Z n0 h p l e room_1 s m args below meth c T (mkF m 383 #[.val (.int i0), .val (.long i1), .second, .val (.long i2), .second, .val (.int (Int32.ofNat cs.length)), .val (.ref ca), .val (.ref sa), .val (.long got), .second, .val (.int u0), .val (.int u1), .val (.int u2), .val (.int (Int32.ofNat A)), .val (.int (Int32.ofNat (cs.length - A))), .unset, .unset, .unset, .unset, .unset, .unset] []) := by
  have g1 : Ld p e below T (mkF m 383 #[.val (.int i0), .val (.long i1), .second, .val (.long i2), .second, .val (.int (Int32.ofNat cs.length)), .val (.ref ca), .val (.ref sa), .val (.long got), .second, .val (.int u0), .val (.int u1), .val (.int u2), .val (.int (Int32.ofNat A)), .val (.int (Int32.ofNat (cs.length - A))), .unset, .unset, .unset, .unset, .unset, .unset] []) T (mkF m 390 #[.val (.int i0), .val (.long i1), .second, .val (.long i2), .second, .val (.int (Int32.ofNat cs.length)), .val (.ref ca), .val (.ref sa), .val (.long got), .second, .val (.int u0), .val (.int u1), .val (.int u2), .val (.int (Int32.ofNat A)), .val (.int (Int32.ofNat (cs.length - A))), .unset, .unset, .unset, .unset, .unset, .unset] [(.int (2 : Int32)), (.int (Int32.ofNat A)), (.int (Int32.ofNat cs.length)), (.ref ca)]) := goRun K N #[] [(383, .aload 6, 2), (385, .iload 5, 2), (387, .iload 13, 2), (389, .iconst 2, 1)] [] (P := True) (by decide +kernel) rfl trivial
  obtain ⟨v2, T2, _, N2, ⟨rfl, rfl⟩, g2⟩ := goS K N (tw hw 43 rfl) (tw hw 44 rfl) (tw hw 45 rfl) (tw hw 46 rfl) (con_bad hw C hn (A := A) (i := 2) hA3 (by decide)) (argsL := [(.ref ca), (.int (Int32.ofNat cs.length)), (.int (Int32.ofNat A)), (.int (2 : Int32))]) (W := 0) (rest := []) (by decide) (by decide) (by decide) (by decide) (by decide) (L := #[.val (.int i0), .val (.long i1), .second, .val (.long i2), .second, .val (.int (Int32.ofNat cs.length)), .val (.ref ca), .val (.ref sa), .val (.long got), .second, .val (.int u0), .val (.int u1), .val (.int u2), .val (.int (Int32.ofNat A)), .val (.int (Int32.ofNat (cs.length - A))), .unset, .unset, .unset, .unset, .unset, .unset]) rfl pd17 rfl (Nat.le_of_eq rfl) (pc := 390) (by decide +kernel)
  cases q : badB cs A 2
  · rw [q] at g2
    have g3 : Ld p e below T2 (mkF m 393 #[.val (.int i0), .val (.long i1), .second, .val (.long i2), .second, .val (.int (Int32.ofNat cs.length)), .val (.ref ca), .val (.ref sa), .val (.long got), .second, .val (.int u0), .val (.int u1), .val (.int u2), .val (.int (Int32.ofNat A)), .val (.int (Int32.ofNat (cs.length - A))), .unset, .unset, .unset, .unset, .unset, .unset] [(.int (0 : Int32))]) T2 (mkF m 396 #[.val (.int i0), .val (.long i1), .second, .val (.long i2), .second, .val (.int (Int32.ofNat cs.length)), .val (.ref ca), .val (.ref sa), .val (.long got), .second, .val (.int u0), .val (.int u1), .val (.int u2), .val (.int (Int32.ofNat A)), .val (.int (Int32.ofNat (cs.length - A))), .unset, .unset, .unset, .unset, .unset, .unset] []) := goRun K N2 #[] [(393, .ifCond .ne 140, 3)] [.null] (P := ((0 : Int32) = (0 : Int32)) ∧ True) (by decide +kernel) rfl ⟨rfl, trivial⟩
    exact EndsN.pre (g1.trans (g2.trans g3)) (badc_3 hw sf K hret O0 N2 i0 i1 i2 C hn got u0 u1 u2 hA3 hAl hA hg (hp.trans (orN (c := 10) q)))
  · rw [q] at g2
    have g3 : Ld p e below T2 (mkF m 393 #[.val (.int i0), .val (.long i1), .second, .val (.long i2), .second, .val (.int (Int32.ofNat cs.length)), .val (.ref ca), .val (.ref sa), .val (.long got), .second, .val (.int u0), .val (.int u1), .val (.int u2), .val (.int (Int32.ofNat A)), .val (.int (Int32.ofNat (cs.length - A))), .unset, .unset, .unset, .unset, .unset, .unset] [(.int (1 : Int32))]) T2 (mkF m 540 #[.val (.int i0), .val (.long i1), .second, .val (.long i2), .second, .val (.int (Int32.ofNat cs.length)), .val (.ref ca), .val (.ref sa), .val (.long got), .second, .val (.int u0), .val (.int u1), .val (.int u2), .val (.int (Int32.ofNat A)), .val (.int (Int32.ofNat (cs.length - A))), .val (.int (1 : Int32)), .unset, .unset, .unset, .unset, .unset] []) := goRun K N2 #[] [(393, .ifCond .ne 140, 3), (533, .iconst 1, 1), (534, .goto 4, 3), (538, .istore 15, 2)] [.ref 0] (P := (¬ (1 : Int32) = (0 : Int32)) ∧ True) (by decide +kernel) rfl ⟨(by decide), trivial⟩
    exact EndsN.pre (g1.trans (g2.trans g3)) (nzc_0 hw sf K hret O0 N2 i0 i1 i2 C hn got u0 u1 u2 hA3 hAl hA hg true (hp.trans (orY (c := 10) q)) rfl)
set_option maxHeartbeats 4000000 in
theorem badc_1 (hw : ∀ d ∈ tables_1, d.before a0 Z = true) {z : Int32} {fm : Value} (sf : SF Z z fm) (K : Cx Z "com/example/covenantry/covenantry/FigurePlacesColumnPinLaw" code maxLocals p m c) (hret : meth.sig.returnType = ret) (O0 : Old Z n0 s.heap) (N : Nw Z n0 h p l e room_1 s m args below meth c T 8 200) (i0 : Int32) (i1 i2 : Int64) {ca sa : Addr} {cs : List Int32} (C : Av Z h ca .char (cs.map Value.int)) (hn : cs.length ≤ 13) (got : Int64) (u0 u1 u2 : Int32) {A : Nat} (hA3 : A ≤ 3) (hAl : A ≤ cs.length) (hA : A = atF cs 3 0) (hg : got = colV cs) (hp : orF (badB cs A) 13 0 = orF (badB cs A) 12 1) :
    EndsN Z n0 h p l e room_1 s m args below meth c T (mkF m 370 #[.val (.int i0), .val (.long i1), .second, .val (.long i2), .second, .val (.int (Int32.ofNat cs.length)), .val (.ref ca), .val (.ref sa), .val (.long got), .second, .val (.int u0), .val (.int u1), .val (.int u2), .val (.int (Int32.ofNat A)), .val (.int (Int32.ofNat (cs.length - A))), .unset, .unset, .unset, .unset, .unset, .unset] []) := by
  have g1 : Ld p e below T (mkF m 370 #[.val (.int i0), .val (.long i1), .second, .val (.long i2), .second, .val (.int (Int32.ofNat cs.length)), .val (.ref ca), .val (.ref sa), .val (.long got), .second, .val (.int u0), .val (.int u1), .val (.int u2), .val (.int (Int32.ofNat A)), .val (.int (Int32.ofNat (cs.length - A))), .unset, .unset, .unset, .unset, .unset, .unset] []) T (mkF m 377 #[.val (.int i0), .val (.long i1), .second, .val (.long i2), .second, .val (.int (Int32.ofNat cs.length)), .val (.ref ca), .val (.ref sa), .val (.long got), .second, .val (.int u0), .val (.int u1), .val (.int u2), .val (.int (Int32.ofNat A)), .val (.int (Int32.ofNat (cs.length - A))), .unset, .unset, .unset, .unset, .unset, .unset] [(.int (1 : Int32)), (.int (Int32.ofNat A)), (.int (Int32.ofNat cs.length)), (.ref ca)]) := goRun K N #[] [(370, .aload 6, 2), (372, .iload 5, 2), (374, .iload 13, 2), (376, .iconst 1, 1)] [] (P := True) (by decide +kernel) rfl trivial
  obtain ⟨v2, T2, _, N2, ⟨rfl, rfl⟩, g2⟩ := goS K N (tw hw 43 rfl) (tw hw 44 rfl) (tw hw 45 rfl) (tw hw 46 rfl) (con_bad hw C hn (A := A) (i := 1) hA3 (by decide)) (argsL := [(.ref ca), (.int (Int32.ofNat cs.length)), (.int (Int32.ofNat A)), (.int (1 : Int32))]) (W := 0) (rest := []) (by decide) (by decide) (by decide) (by decide) (by decide) (L := #[.val (.int i0), .val (.long i1), .second, .val (.long i2), .second, .val (.int (Int32.ofNat cs.length)), .val (.ref ca), .val (.ref sa), .val (.long got), .second, .val (.int u0), .val (.int u1), .val (.int u2), .val (.int (Int32.ofNat A)), .val (.int (Int32.ofNat (cs.length - A))), .unset, .unset, .unset, .unset, .unset, .unset]) rfl pd17 rfl (Nat.le_of_eq rfl) (pc := 377) (by decide +kernel)
  cases q : badB cs A 1
  · rw [q] at g2
    have g3 : Ld p e below T2 (mkF m 380 #[.val (.int i0), .val (.long i1), .second, .val (.long i2), .second, .val (.int (Int32.ofNat cs.length)), .val (.ref ca), .val (.ref sa), .val (.long got), .second, .val (.int u0), .val (.int u1), .val (.int u2), .val (.int (Int32.ofNat A)), .val (.int (Int32.ofNat (cs.length - A))), .unset, .unset, .unset, .unset, .unset, .unset] [(.int (0 : Int32))]) T2 (mkF m 383 #[.val (.int i0), .val (.long i1), .second, .val (.long i2), .second, .val (.int (Int32.ofNat cs.length)), .val (.ref ca), .val (.ref sa), .val (.long got), .second, .val (.int u0), .val (.int u1), .val (.int u2), .val (.int (Int32.ofNat A)), .val (.int (Int32.ofNat (cs.length - A))), .unset, .unset, .unset, .unset, .unset, .unset] []) := goRun K N2 #[] [(380, .ifCond .ne 153, 3)] [.null] (P := ((0 : Int32) = (0 : Int32)) ∧ True) (by decide +kernel) rfl ⟨rfl, trivial⟩
    exact EndsN.pre (g1.trans (g2.trans g3)) (badc_2 hw sf K hret O0 N2 i0 i1 i2 C hn got u0 u1 u2 hA3 hAl hA hg (hp.trans (orN (c := 11) q)))
  · rw [q] at g2
    have g3 : Ld p e below T2 (mkF m 380 #[.val (.int i0), .val (.long i1), .second, .val (.long i2), .second, .val (.int (Int32.ofNat cs.length)), .val (.ref ca), .val (.ref sa), .val (.long got), .second, .val (.int u0), .val (.int u1), .val (.int u2), .val (.int (Int32.ofNat A)), .val (.int (Int32.ofNat (cs.length - A))), .unset, .unset, .unset, .unset, .unset, .unset] [(.int (1 : Int32))]) T2 (mkF m 540 #[.val (.int i0), .val (.long i1), .second, .val (.long i2), .second, .val (.int (Int32.ofNat cs.length)), .val (.ref ca), .val (.ref sa), .val (.long got), .second, .val (.int u0), .val (.int u1), .val (.int u2), .val (.int (Int32.ofNat A)), .val (.int (Int32.ofNat (cs.length - A))), .val (.int (1 : Int32)), .unset, .unset, .unset, .unset, .unset] []) := goRun K N2 #[] [(380, .ifCond .ne 153, 3), (533, .iconst 1, 1), (534, .goto 4, 3), (538, .istore 15, 2)] [.ref 0] (P := (¬ (1 : Int32) = (0 : Int32)) ∧ True) (by decide +kernel) rfl ⟨(by decide), trivial⟩
    exact EndsN.pre (g1.trans (g2.trans g3)) (nzc_0 hw sf K hret O0 N2 i0 i1 i2 C hn got u0 u1 u2 hA3 hAl hA hg true (hp.trans (orY (c := 11) q)) rfl)
set_option maxHeartbeats 4000000 in
theorem badc_0 (hw : ∀ d ∈ tables_1, d.before a0 Z = true) {z : Int32} {fm : Value} (sf : SF Z z fm) (K : Cx Z "com/example/covenantry/covenantry/FigurePlacesColumnPinLaw" code maxLocals p m c) (hret : meth.sig.returnType = ret) (O0 : Old Z n0 s.heap) (N : Nw Z n0 h p l e room_1 s m args below meth c T 8 200) (i0 : Int32) (i1 i2 : Int64) {ca sa : Addr} {cs : List Int32} (C : Av Z h ca .char (cs.map Value.int)) (hn : cs.length ≤ 13) (got : Int64) (u0 u1 u2 : Int32) {A : Nat} (hA3 : A ≤ 3) (hAl : A ≤ cs.length) (hA : A = atF cs 3 0) (hg : got = colV cs) (hp : orF (badB cs A) 13 0 = orF (badB cs A) 13 0) :
    EndsN Z n0 h p l e room_1 s m args below meth c T (mkF m 357 #[.val (.int i0), .val (.long i1), .second, .val (.long i2), .second, .val (.int (Int32.ofNat cs.length)), .val (.ref ca), .val (.ref sa), .val (.long got), .second, .val (.int u0), .val (.int u1), .val (.int u2), .val (.int (Int32.ofNat A)), .val (.int (Int32.ofNat (cs.length - A))), .unset, .unset, .unset, .unset, .unset, .unset] []) := by
  have g1 : Ld p e below T (mkF m 357 #[.val (.int i0), .val (.long i1), .second, .val (.long i2), .second, .val (.int (Int32.ofNat cs.length)), .val (.ref ca), .val (.ref sa), .val (.long got), .second, .val (.int u0), .val (.int u1), .val (.int u2), .val (.int (Int32.ofNat A)), .val (.int (Int32.ofNat (cs.length - A))), .unset, .unset, .unset, .unset, .unset, .unset] []) T (mkF m 364 #[.val (.int i0), .val (.long i1), .second, .val (.long i2), .second, .val (.int (Int32.ofNat cs.length)), .val (.ref ca), .val (.ref sa), .val (.long got), .second, .val (.int u0), .val (.int u1), .val (.int u2), .val (.int (Int32.ofNat A)), .val (.int (Int32.ofNat (cs.length - A))), .unset, .unset, .unset, .unset, .unset, .unset] [(.int (0 : Int32)), (.int (Int32.ofNat A)), (.int (Int32.ofNat cs.length)), (.ref ca)]) := goRun K N #[] [(357, .aload 6, 2), (359, .iload 5, 2), (361, .iload 13, 2), (363, .iconst 0, 1)] [] (P := True) (by decide +kernel) rfl trivial
  obtain ⟨v2, T2, _, N2, ⟨rfl, rfl⟩, g2⟩ := goS K N (tw hw 43 rfl) (tw hw 44 rfl) (tw hw 45 rfl) (tw hw 46 rfl) (con_bad hw C hn (A := A) (i := 0) hA3 (by decide)) (argsL := [(.ref ca), (.int (Int32.ofNat cs.length)), (.int (Int32.ofNat A)), (.int (0 : Int32))]) (W := 0) (rest := []) (by decide) (by decide) (by decide) (by decide) (by decide) (L := #[.val (.int i0), .val (.long i1), .second, .val (.long i2), .second, .val (.int (Int32.ofNat cs.length)), .val (.ref ca), .val (.ref sa), .val (.long got), .second, .val (.int u0), .val (.int u1), .val (.int u2), .val (.int (Int32.ofNat A)), .val (.int (Int32.ofNat (cs.length - A))), .unset, .unset, .unset, .unset, .unset, .unset]) rfl pd17 rfl (Nat.le_of_eq rfl) (pc := 364) (by decide +kernel)
  cases q : badB cs A 0
  · rw [q] at g2
    have g3 : Ld p e below T2 (mkF m 367 #[.val (.int i0), .val (.long i1), .second, .val (.long i2), .second, .val (.int (Int32.ofNat cs.length)), .val (.ref ca), .val (.ref sa), .val (.long got), .second, .val (.int u0), .val (.int u1), .val (.int u2), .val (.int (Int32.ofNat A)), .val (.int (Int32.ofNat (cs.length - A))), .unset, .unset, .unset, .unset, .unset, .unset] [(.int (0 : Int32))]) T2 (mkF m 370 #[.val (.int i0), .val (.long i1), .second, .val (.long i2), .second, .val (.int (Int32.ofNat cs.length)), .val (.ref ca), .val (.ref sa), .val (.long got), .second, .val (.int u0), .val (.int u1), .val (.int u2), .val (.int (Int32.ofNat A)), .val (.int (Int32.ofNat (cs.length - A))), .unset, .unset, .unset, .unset, .unset, .unset] []) := goRun K N2 #[] [(367, .ifCond .ne 166, 3)] [.null] (P := ((0 : Int32) = (0 : Int32)) ∧ True) (by decide +kernel) rfl ⟨rfl, trivial⟩
    exact EndsN.pre (g1.trans (g2.trans g3)) (badc_1 hw sf K hret O0 N2 i0 i1 i2 C hn got u0 u1 u2 hA3 hAl hA hg (hp.trans (orN (c := 12) q)))
  · rw [q] at g2
    have g3 : Ld p e below T2 (mkF m 367 #[.val (.int i0), .val (.long i1), .second, .val (.long i2), .second, .val (.int (Int32.ofNat cs.length)), .val (.ref ca), .val (.ref sa), .val (.long got), .second, .val (.int u0), .val (.int u1), .val (.int u2), .val (.int (Int32.ofNat A)), .val (.int (Int32.ofNat (cs.length - A))), .unset, .unset, .unset, .unset, .unset, .unset] [(.int (1 : Int32))]) T2 (mkF m 540 #[.val (.int i0), .val (.long i1), .second, .val (.long i2), .second, .val (.int (Int32.ofNat cs.length)), .val (.ref ca), .val (.ref sa), .val (.long got), .second, .val (.int u0), .val (.int u1), .val (.int u2), .val (.int (Int32.ofNat A)), .val (.int (Int32.ofNat (cs.length - A))), .val (.int (1 : Int32)), .unset, .unset, .unset, .unset, .unset] []) := goRun K N2 #[] [(367, .ifCond .ne 166, 3), (533, .iconst 1, 1), (534, .goto 4, 3), (538, .istore 15, 2)] [.ref 0] (P := (¬ (1 : Int32) = (0 : Int32)) ∧ True) (by decide +kernel) rfl ⟨(by decide), trivial⟩
    exact EndsN.pre (g1.trans (g2.trans g3)) (nzc_0 hw sf K hret O0 N2 i0 i1 i2 C hn got u0 u1 u2 hA3 hAl hA hg true (hp.trans (orY (c := 12) q)) rfl)
set_option maxHeartbeats 4000000 in
theorem rowp (hw : ∀ d ∈ tables_1, d.before a0 Z = true) {z : Int32} {fm : Value} (sf : SF Z z fm) (K : Cx Z "com/example/covenantry/covenantry/FigurePlacesColumnPinLaw" code maxLocals p m c) (hret : meth.sig.returnType = ret) (O0 : Old Z n0 s.heap) (N : Nw Z n0 h p l e room_1 s m args below meth c T 8 200) (i0 : Int32) (i1 i2 : Int64) {ca sa : Addr} {cs : List Int32} (C : Av Z h ca .char (cs.map Value.int)) (hn : cs.length ≤ 13) (got : Int64) (u0 u1 u2 : Int32) {A : Nat} (hA3 : A ≤ 3) (hAl : A ≤ cs.length) (hA : A = atF cs 3 0) (hg : got = colV cs) :
    EndsN Z n0 h p l e room_1 s m args below meth c T (mkF m 350 #[.val (.int i0), .val (.long i1), .second, .val (.long i2), .second, .val (.int (Int32.ofNat cs.length)), .val (.ref ca), .val (.ref sa), .val (.long got), .second, .val (.int u0), .val (.int u1), .val (.int u2), .val (.int (Int32.ofNat A)), .unset, .unset, .unset, .unset, .unset, .unset, .unset] []) := by
  have g1 : Ld p e below T (mkF m 350 #[.val (.int i0), .val (.long i1), .second, .val (.long i2), .second, .val (.int (Int32.ofNat cs.length)), .val (.ref ca), .val (.ref sa), .val (.long got), .second, .val (.int u0), .val (.int u1), .val (.int u2), .val (.int (Int32.ofNat A)), .unset, .unset, .unset, .unset, .unset, .unset, .unset] []) T (mkF m 357 #[.val (.int i0), .val (.long i1), .second, .val (.long i2), .second, .val (.int (Int32.ofNat cs.length)), .val (.ref ca), .val (.ref sa), .val (.long got), .second, .val (.int u0), .val (.int u1), .val (.int u2), .val (.int (Int32.ofNat A)), .val (.int ((Int32.ofNat cs.length) - (Int32.ofNat A))), .unset, .unset, .unset, .unset, .unset, .unset] []) := goRun K N #[] [(350, .iload 5, 2), (352, .iload 13, 2), (354, .isub, 1), (355, .istore 14, 2)] [] (P := True) (by decide +kernel) rfl trivial
  rw [n_subn hAl] at g1
  exact EndsN.pre (g1) (badc_0 hw sf K hret O0 N i0 i1 i2 C hn got u0 u1 u2 hA3 hAl hA hg rfl)
set_option maxHeartbeats 4000000 in
theorem resty (hw : ∀ d ∈ tables_1, d.before a0 Z = true) {z : Int32} {fm : Value} (sf : SF Z z fm) (K : Cx Z "com/example/covenantry/covenantry/FigurePlacesColumnPinLaw" code maxLocals p m c) (hret : meth.sig.returnType = ret) (O0 : Old Z n0 s.heap) (N : Nw Z n0 h p l e room_1 s m args below meth c T 8 200) (i0 : Int32) (i1 i2 : Int64) {ca sa : Addr} {cs : List Int32} (C : Av Z h ca .char (cs.map Value.int)) (hn : cs.length ≤ 13) {t : Addr} (F : Stv Z h sa t cs) :
    EndsN Z n0 h p l e room_1 s m args below meth c T (mkF m 233 #[.val (.int i0), .val (.long i1), .second, .val (.long i2), .second, .val (.int (Int32.ofNat cs.length)), .val (.ref ca), .unset, .unset, .unset, .unset, .unset, .unset, .unset, .unset, .unset, .unset, .unset, .unset, .unset, .unset] [(.ref sa)]) := by
  have g1 : Ld p e below T (mkF m 233 #[.val (.int i0), .val (.long i1), .second, .val (.long i2), .second, .val (.int (Int32.ofNat cs.length)), .val (.ref ca), .unset, .unset, .unset, .unset, .unset, .unset, .unset, .unset, .unset, .unset, .unset, .unset, .unset, .unset] [(.ref sa)]) T (mkF m 237 #[.val (.int i0), .val (.long i1), .second, .val (.long i2), .second, .val (.int (Int32.ofNat cs.length)), .val (.ref ca), .val (.ref sa), .unset, .unset, .unset, .unset, .unset, .unset, .unset, .unset, .unset, .unset, .unset, .unset, .unset] [(.ref sa)]) := goRun K N #[] [(233, .astore 7, 2), (235, .aload 7, 2)] [] (P := True) (by decide +kernel) rfl trivial
  obtain ⟨v2, T2, _, N2, ⟨rfl, rfl⟩, g2⟩ := goS K N (tw hw 23 rfl) (tw hw 24 rfl) (tw hw 25 rfl) (tw hw 26 rfl) (con_col hw sf F hn (N.old O0)) (argsL := [(.ref sa)]) (W := 0) (rest := []) (by decide) (by decide) (by decide) (by decide) (by decide) (L := #[.val (.int i0), .val (.long i1), .second, .val (.long i2), .second, .val (.int (Int32.ofNat cs.length)), .val (.ref ca), .val (.ref sa), .unset, .unset, .unset, .unset, .unset, .unset, .unset, .unset, .unset, .unset, .unset, .unset, .unset]) rfl pd18 rfl (Nat.le_of_eq rfl) (pc := 237) (by decide +kernel)
  have g3 : Ld p e below T2 (mkF m 240 #[.val (.int i0), .val (.long i1), .second, .val (.long i2), .second, .val (.int (Int32.ofNat cs.length)), .val (.ref ca), .val (.ref sa), .unset, .unset, .unset, .unset, .unset, .unset, .unset, .unset, .unset, .unset, .unset, .unset, .unset] [(.long (colV cs))]) T2 (mkF m 242 #[.val (.int i0), .val (.long i1), .second, .val (.long i2), .second, .val (.int (Int32.ofNat cs.length)), .val (.ref ca), .val (.ref sa), .val (.long (colV cs)), .second, .unset, .unset, .unset, .unset, .unset, .unset, .unset, .unset, .unset, .unset, .unset] []) := goRun K N2 #[] [(240, .lstore 8, 2)] [] (P := True) (by decide +kernel) rfl trivial
  by_cases p0 : 0 < cs.length
  · have g4 : Ld p e below T2 (mkF m 242 #[.val (.int i0), .val (.long i1), .second, .val (.long i2), .second, .val (.int (Int32.ofNat cs.length)), .val (.ref ca), .val (.ref sa), .val (.long (colV cs)), .second, .unset, .unset, .unset, .unset, .unset, .unset, .unset, .unset, .unset, .unset, .unset] []) T2 (mkF m 251 #[.val (.int i0), .val (.long i1), .second, .val (.long i2), .second, .val (.int (Int32.ofNat cs.length)), .val (.ref ca), .val (.ref sa), .val (.long (colV cs)), .second, .unset, .unset, .unset, .unset, .unset, .unset, .unset, .unset, .unset, .unset, .unset] [(.int (cs.getD 0 0))]) := goRun K N2 #[] [(242, .iload 5, 2), (244, .ifCond .le 17, 3), (247, .aload 6, 2), (249, .iconst 0, 1), (250, .caload, 1)] [.null, .int (cs.getD 0 0)] (P := ((0 : Int32) < (Int32.ofNat cs.length)) ∧ (Rd Z h ca .char (0 : Int32) (.int (cs.getD 0 0))) ∧ True) (by decide +kernel) rfl ⟨((n_lt (i := 0) (by omega) (by omega)).mpr p0), (C.rd (i := 0) (by decide) (gti (getD_of p0))), trivial⟩
    obtain ⟨v5, T5, _, N5, ⟨rfl, rfl⟩, g5⟩ := goS K N2 (tw hw 87 rfl) (tw hw 88 rfl) (tw hw 45 rfl) (tw hw 89 rfl) (con_up (cs.getD 0 0)) (argsL := [(.int (cs.getD 0 0))]) (W := 0) (rest := []) (by decide) (by decide) (by decide) (by decide) (by decide) (L := #[.val (.int i0), .val (.long i1), .second, .val (.long i2), .second, .val (.int (Int32.ofNat cs.length)), .val (.ref ca), .val (.ref sa), .val (.long (colV cs)), .second, .unset, .unset, .unset, .unset, .unset, .unset, .unset, .unset, .unset, .unset, .unset]) rfl pd16 rfl (Nat.le_of_eq rfl) (pc := 251) (by decide +kernel)
    cases qu0 : upB (cs.getD 0 0)
    · rw [qu0] at g5
      have v0 := up_no qu0
      have g6 : Ld p e below T5 (mkF m 254 #[.val (.int i0), .val (.long i1), .second, .val (.long i2), .second, .val (.int (Int32.ofNat cs.length)), .val (.ref ca), .val (.ref sa), .val (.long (colV cs)), .second, .unset, .unset, .unset, .unset, .unset, .unset, .unset, .unset, .unset, .unset, .unset] [(.int (0 : Int32))]) T5 (mkF m 350 #[.val (.int i0), .val (.long i1), .second, .val (.long i2), .second, .val (.int (Int32.ofNat cs.length)), .val (.ref ca), .val (.ref sa), .val (.long (colV cs)), .second, .val (.int (0 : Int32)), .val (.int (0 : Int32)), .val (.int (0 : Int32)), .val (.int (0 : Int32)), .unset, .unset, .unset, .unset, .unset, .unset, .unset] []) := goRun K N5 #[] [(254, .ifCond .eq 7, 3), (261, .iconst 0, 1), (262, .istore 10, 2), (264, .iload 10, 2), (266, .ifCond .eq 23, 3), (289, .iconst 0, 1), (290, .istore 11, 2), (292, .iload 11, 2), (294, .ifCond .eq 23, 3), (317, .iconst 0, 1), (318, .istore 12, 2), (320, .iload 12, 2), (322, .ifCond .eq 7, 3), (329, .iload 11, 2), (331, .ifCond .eq 7, 3), (338, .iload 10, 2), (340, .ifCond .eq 7, 3), (347, .iconst 0, 1), (348, .istore 13, 2)] [.ref 0, .ref 0, .ref 0, .ref 0, .ref 0, .ref 0] (P := ((0 : Int32) = (0 : Int32)) ∧ ((0 : Int32) = (0 : Int32)) ∧ ((0 : Int32) = (0 : Int32)) ∧ ((0 : Int32) = (0 : Int32)) ∧ ((0 : Int32) = (0 : Int32)) ∧ ((0 : Int32) = (0 : Int32)) ∧ True) (by decide +kernel) rfl ⟨rfl, rfl, rfl, rfl, rfl, rfl, trivial⟩
      exact EndsN.pre (g1.trans (g2.trans (g3.trans (g4.trans (g5.trans g6))))) (rowp hw sf K hret O0 N5 i0 i1 i2 C hn (colV cs) (0 : Int32) (0 : Int32) (0 : Int32) (A := 0) (by decide) (Nat.zero_le _) (by rw [at3, v0]; rfl) rfl)
    · rw [qu0] at g5
      have v0 := up_mk p0 qu0
      by_cases p1 : 1 < cs.length
      · have g6 : Ld p e below T5 (mkF m 254 #[.val (.int i0), .val (.long i1), .second, .val (.long i2), .second, .val (.int (Int32.ofNat cs.length)), .val (.ref ca), .val (.ref sa), .val (.long (colV cs)), .second, .unset, .unset, .unset, .unset, .unset, .unset, .unset, .unset, .unset, .unset, .unset] [(.int (1 : Int32))]) T5 (mkF m 279 #[.val (.int i0), .val (.long i1), .second, .val (.long i2), .second, .val (.int (Int32.ofNat cs.length)), .val (.ref ca), .val (.ref sa), .val (.long (colV cs)), .second, .val (.int (1 : Int32)), .unset, .unset, .unset, .unset, .unset, .unset, .unset, .unset, .unset, .unset] [(.int (cs.getD 1 0))]) := goRun K N5 #[] [(254, .ifCond .eq 7, 3), (257, .iconst 1, 1), (258, .goto 4, 3), (262, .istore 10, 2), (264, .iload 10, 2), (266, .ifCond .eq 23, 3), (269, .iload 5, 2), (271, .iconst 1, 1), (272, .if_icmp .le 17, 3), (275, .aload 6, 2), (277, .iconst 1, 1), (278, .caload, 1)] [.null, .null, .null, .int (cs.getD 1 0)] (P := (¬ (1 : Int32) = (0 : Int32)) ∧ (¬ (1 : Int32) = (0 : Int32)) ∧ ((1 : Int32) < (Int32.ofNat cs.length)) ∧ (Rd Z h ca .char (1 : Int32) (.int (cs.getD 1 0))) ∧ True) (by decide +kernel) rfl ⟨(by decide), (by decide), ((n_lt (i := 1) (by omega) (by omega)).mpr p1), (C.rd (i := 1) (by decide) (gti (getD_of p1))), trivial⟩
        obtain ⟨v7, T7, _, N7, ⟨rfl, rfl⟩, g7⟩ := goS K N5 (tw hw 87 rfl) (tw hw 88 rfl) (tw hw 45 rfl) (tw hw 89 rfl) (con_up (cs.getD 1 0)) (argsL := [(.int (cs.getD 1 0))]) (W := 0) (rest := []) (by decide) (by decide) (by decide) (by decide) (by decide) (L := #[.val (.int i0), .val (.long i1), .second, .val (.long i2), .second, .val (.int (Int32.ofNat cs.length)), .val (.ref ca), .val (.ref sa), .val (.long (colV cs)), .second, .val (.int (1 : Int32)), .unset, .unset, .unset, .unset, .unset, .unset, .unset, .unset, .unset, .unset]) rfl pd16 rfl (Nat.le_of_eq rfl) (pc := 279) (by decide +kernel)
        cases qu1 : upB (cs.getD 1 0)
        · rw [qu1] at g7
          have v1 := up_no qu1
          have g8 : Ld p e below T7 (mkF m 282 #[.val (.int i0), .val (.long i1), .second, .val (.long i2), .second, .val (.int (Int32.ofNat cs.length)), .val (.ref ca), .val (.ref sa), .val (.long (colV cs)), .second, .val (.int (1 : Int32)), .unset, .unset, .unset, .unset, .unset, .unset, .unset, .unset, .unset, .unset] [(.int (0 : Int32))]) T7 (mkF m 350 #[.val (.int i0), .val (.long i1), .second, .val (.long i2), .second, .val (.int (Int32.ofNat cs.length)), .val (.ref ca), .val (.ref sa), .val (.long (colV cs)), .second, .val (.int (1 : Int32)), .val (.int (0 : Int32)), .val (.int (0 : Int32)), .val (.int (1 : Int32)), .unset, .unset, .unset, .unset, .unset, .unset, .unset] []) := goRun K N7 #[] [(282, .ifCond .eq 7, 3), (289, .iconst 0, 1), (290, .istore 11, 2), (292, .iload 11, 2), (294, .ifCond .eq 23, 3), (317, .iconst 0, 1), (318, .istore 12, 2), (320, .iload 12, 2), (322, .ifCond .eq 7, 3), (329, .iload 11, 2), (331, .ifCond .eq 7, 3), (338, .iload 10, 2), (340, .ifCond .eq 7, 3), (343, .iconst 1, 1), (344, .goto 4, 3), (348, .istore 13, 2)] [.ref 0, .ref 0, .ref 0, .ref 0, .null] (P := ((0 : Int32) = (0 : Int32)) ∧ ((0 : Int32) = (0 : Int32)) ∧ ((0 : Int32) = (0 : Int32)) ∧ ((0 : Int32) = (0 : Int32)) ∧ (¬ (1 : Int32) = (0 : Int32)) ∧ True) (by decide +kernel) rfl ⟨rfl, rfl, rfl, rfl, (by decide), trivial⟩
          exact EndsN.pre (g1.trans (g2.trans (g3.trans (g4.trans (g5.trans (g6.trans (g7.trans g8))))))) (rowp hw sf K hret O0 N7 i0 i1 i2 C hn (colV cs) (1 : Int32) (0 : Int32) (0 : Int32) (A := 1) (by decide) p0 (by rw [at3, v0, v1]; rfl) rfl)
        · rw [qu1] at g7
          have v1 := up_mk p1 qu1
          by_cases p2 : 2 < cs.length
          · have g8 : Ld p e below T7 (mkF m 282 #[.val (.int i0), .val (.long i1), .second, .val (.long i2), .second, .val (.int (Int32.ofNat cs.length)), .val (.ref ca), .val (.ref sa), .val (.long (colV cs)), .second, .val (.int (1 : Int32)), .unset, .unset, .unset, .unset, .unset, .unset, .unset, .unset, .unset, .unset] [(.int (1 : Int32))]) T7 (mkF m 307 #[.val (.int i0), .val (.long i1), .second, .val (.long i2), .second, .val (.int (Int32.ofNat cs.length)), .val (.ref ca), .val (.ref sa), .val (.long (colV cs)), .second, .val (.int (1 : Int32)), .val (.int (1 : Int32)), .unset, .unset, .unset, .unset, .unset, .unset, .unset, .unset, .unset] [(.int (cs.getD 2 0))]) := goRun K N7 #[] [(282, .ifCond .eq 7, 3), (285, .iconst 1, 1), (286, .goto 4, 3), (290, .istore 11, 2), (292, .iload 11, 2), (294, .ifCond .eq 23, 3), (297, .iload 5, 2), (299, .iconst 2, 1), (300, .if_icmp .le 17, 3), (303, .aload 6, 2), (305, .iconst 2, 1), (306, .caload, 1)] [.null, .null, .null, .int (cs.getD 2 0)] (P := (¬ (1 : Int32) = (0 : Int32)) ∧ (¬ (1 : Int32) = (0 : Int32)) ∧ ((2 : Int32) < (Int32.ofNat cs.length)) ∧ (Rd Z h ca .char (2 : Int32) (.int (cs.getD 2 0))) ∧ True) (by decide +kernel) rfl ⟨(by decide), (by decide), ((n_lt (i := 2) (by omega) (by omega)).mpr p2), (C.rd (i := 2) (by decide) (gti (getD_of p2))), trivial⟩
            obtain ⟨v9, T9, _, N9, ⟨rfl, rfl⟩, g9⟩ := goS K N7 (tw hw 87 rfl) (tw hw 88 rfl) (tw hw 45 rfl) (tw hw 89 rfl) (con_up (cs.getD 2 0)) (argsL := [(.int (cs.getD 2 0))]) (W := 0) (rest := []) (by decide) (by decide) (by decide) (by decide) (by decide) (L := #[.val (.int i0), .val (.long i1), .second, .val (.long i2), .second, .val (.int (Int32.ofNat cs.length)), .val (.ref ca), .val (.ref sa), .val (.long (colV cs)), .second, .val (.int (1 : Int32)), .val (.int (1 : Int32)), .unset, .unset, .unset, .unset, .unset, .unset, .unset, .unset, .unset]) rfl pd16 rfl (Nat.le_of_eq rfl) (pc := 307) (by decide +kernel)
            cases qu2 : upB (cs.getD 2 0)
            · rw [qu2] at g9
              have v2 := up_no qu2
              have g10 : Ld p e below T9 (mkF m 310 #[.val (.int i0), .val (.long i1), .second, .val (.long i2), .second, .val (.int (Int32.ofNat cs.length)), .val (.ref ca), .val (.ref sa), .val (.long (colV cs)), .second, .val (.int (1 : Int32)), .val (.int (1 : Int32)), .unset, .unset, .unset, .unset, .unset, .unset, .unset, .unset, .unset] [(.int (0 : Int32))]) T9 (mkF m 350 #[.val (.int i0), .val (.long i1), .second, .val (.long i2), .second, .val (.int (Int32.ofNat cs.length)), .val (.ref ca), .val (.ref sa), .val (.long (colV cs)), .second, .val (.int (1 : Int32)), .val (.int (1 : Int32)), .val (.int (0 : Int32)), .val (.int (2 : Int32)), .unset, .unset, .unset, .unset, .unset, .unset, .unset] []) := goRun K N9 #[] [(310, .ifCond .eq 7, 3), (317, .iconst 0, 1), (318, .istore 12, 2), (320, .iload 12, 2), (322, .ifCond .eq 7, 3), (329, .iload 11, 2), (331, .ifCond .eq 7, 3), (334, .iconst 2, 1), (335, .goto 13, 3), (348, .istore 13, 2)] [.ref 0, .ref 0, .null] (P := ((0 : Int32) = (0 : Int32)) ∧ ((0 : Int32) = (0 : Int32)) ∧ (¬ (1 : Int32) = (0 : Int32)) ∧ True) (by decide +kernel) rfl ⟨rfl, rfl, (by decide), trivial⟩
              exact EndsN.pre (g1.trans (g2.trans (g3.trans (g4.trans (g5.trans (g6.trans (g7.trans (g8.trans (g9.trans g10))))))))) (rowp hw sf K hret O0 N9 i0 i1 i2 C hn (colV cs) (1 : Int32) (1 : Int32) (0 : Int32) (A := 2) (by decide) p1 (by rw [at3, v0, v1, v2]; rfl) rfl)
            · rw [qu2] at g9
              have v2 := up_mk p2 qu2
              have g10 : Ld p e below T9 (mkF m 310 #[.val (.int i0), .val (.long i1), .second, .val (.long i2), .second, .val (.int (Int32.ofNat cs.length)), .val (.ref ca), .val (.ref sa), .val (.long (colV cs)), .second, .val (.int (1 : Int32)), .val (.int (1 : Int32)), .unset, .unset, .unset, .unset, .unset, .unset, .unset, .unset, .unset] [(.int (1 : Int32))]) T9 (mkF m 350 #[.val (.int i0), .val (.long i1), .second, .val (.long i2), .second, .val (.int (Int32.ofNat cs.length)), .val (.ref ca), .val (.ref sa), .val (.long (colV cs)), .second, .val (.int (1 : Int32)), .val (.int (1 : Int32)), .val (.int (1 : Int32)), .val (.int (3 : Int32)), .unset, .unset, .unset, .unset, .unset, .unset, .unset] []) := goRun K N9 #[] [(310, .ifCond .eq 7, 3), (313, .iconst 1, 1), (314, .goto 4, 3), (318, .istore 12, 2), (320, .iload 12, 2), (322, .ifCond .eq 7, 3), (325, .iconst 3, 1), (326, .goto 22, 3), (348, .istore 13, 2)] [.null, .null] (P := (¬ (1 : Int32) = (0 : Int32)) ∧ (¬ (1 : Int32) = (0 : Int32)) ∧ True) (by decide +kernel) rfl ⟨(by decide), (by decide), trivial⟩
              exact EndsN.pre (g1.trans (g2.trans (g3.trans (g4.trans (g5.trans (g6.trans (g7.trans (g8.trans (g9.trans g10))))))))) (rowp hw sf K hret O0 N9 i0 i1 i2 C hn (colV cs) (1 : Int32) (1 : Int32) (1 : Int32) (A := 3) (by decide) p2 (by rw [at3, v0, v1, v2]; rfl) rfl)
          · have v2 := up_len p2
            have g8 : Ld p e below T7 (mkF m 282 #[.val (.int i0), .val (.long i1), .second, .val (.long i2), .second, .val (.int (Int32.ofNat cs.length)), .val (.ref ca), .val (.ref sa), .val (.long (colV cs)), .second, .val (.int (1 : Int32)), .unset, .unset, .unset, .unset, .unset, .unset, .unset, .unset, .unset, .unset] [(.int (1 : Int32))]) T7 (mkF m 350 #[.val (.int i0), .val (.long i1), .second, .val (.long i2), .second, .val (.int (Int32.ofNat cs.length)), .val (.ref ca), .val (.ref sa), .val (.long (colV cs)), .second, .val (.int (1 : Int32)), .val (.int (1 : Int32)), .val (.int (0 : Int32)), .val (.int (2 : Int32)), .unset, .unset, .unset, .unset, .unset, .unset, .unset] []) := goRun K N7 #[] [(282, .ifCond .eq 7, 3), (285, .iconst 1, 1), (286, .goto 4, 3), (290, .istore 11, 2), (292, .iload 11, 2), (294, .ifCond .eq 23, 3), (297, .iload 5, 2), (299, .iconst 2, 1), (300, .if_icmp .le 17, 3), (317, .iconst 0, 1), (318, .istore 12, 2), (320, .iload 12, 2), (322, .ifCond .eq 7, 3), (329, .iload 11, 2), (331, .ifCond .eq 7, 3), (334, .iconst 2, 1), (335, .goto 13, 3), (348, .istore 13, 2)] [.null, .null, .ref 0, .ref 0, .null] (P := (¬ (1 : Int32) = (0 : Int32)) ∧ (¬ (1 : Int32) = (0 : Int32)) ∧ (¬ (2 : Int32) < (Int32.ofNat cs.length)) ∧ ((0 : Int32) = (0 : Int32)) ∧ (¬ (1 : Int32) = (0 : Int32)) ∧ True) (by decide +kernel) rfl ⟨(by decide), (by decide), (fun z => p2 ((n_lt (i := 2) (by omega) (by omega)).mp z)), rfl, (by decide), trivial⟩
            exact EndsN.pre (g1.trans (g2.trans (g3.trans (g4.trans (g5.trans (g6.trans (g7.trans g8))))))) (rowp hw sf K hret O0 N7 i0 i1 i2 C hn (colV cs) (1 : Int32) (1 : Int32) (0 : Int32) (A := 2) (by decide) p1 (by rw [at3, v0, v1, v2]; rfl) rfl)
      · have v1 := up_len p1
        have g6 : Ld p e below T5 (mkF m 254 #[.val (.int i0), .val (.long i1), .second, .val (.long i2), .second, .val (.int (Int32.ofNat cs.length)), .val (.ref ca), .val (.ref sa), .val (.long (colV cs)), .second, .unset, .unset, .unset, .unset, .unset, .unset, .unset, .unset, .unset, .unset, .unset] [(.int (1 : Int32))]) T5 (mkF m 350 #[.val (.int i0), .val (.long i1), .second, .val (.long i2), .second, .val (.int (Int32.ofNat cs.length)), .val (.ref ca), .val (.ref sa), .val (.long (colV cs)), .second, .val (.int (1 : Int32)), .val (.int (0 : Int32)), .val (.int (0 : Int32)), .val (.int (1 : Int32)), .unset, .unset, .unset, .unset, .unset, .unset, .unset] []) := goRun K N5 #[] [(254, .ifCond .eq 7, 3), (257, .iconst 1, 1), (258, .goto 4, 3), (262, .istore 10, 2), (264, .iload 10, 2), (266, .ifCond .eq 23, 3), (269, .iload 5, 2), (271, .iconst 1, 1), (272, .if_icmp .le 17, 3), (289, .iconst 0, 1), (290, .istore 11, 2), (292, .iload 11, 2), (294, .ifCond .eq 23, 3), (317, .iconst 0, 1), (318, .istore 12, 2), (320, .iload 12, 2), (322, .ifCond .eq 7, 3), (329, .iload 11, 2), (331, .ifCond .eq 7, 3), (338, .iload 10, 2), (340, .ifCond .eq 7, 3), (343, .iconst 1, 1), (344, .goto 4, 3), (348, .istore 13, 2)] [.null, .null, .ref 0, .ref 0, .ref 0, .ref 0, .null] (P := (¬ (1 : Int32) = (0 : Int32)) ∧ (¬ (1 : Int32) = (0 : Int32)) ∧ (¬ (1 : Int32) < (Int32.ofNat cs.length)) ∧ ((0 : Int32) = (0 : Int32)) ∧ ((0 : Int32) = (0 : Int32)) ∧ ((0 : Int32) = (0 : Int32)) ∧ (¬ (1 : Int32) = (0 : Int32)) ∧ True) (by decide +kernel) rfl ⟨(by decide), (by decide), (fun z => p1 ((n_lt (i := 1) (by omega) (by omega)).mp z)), rfl, rfl, rfl, (by decide), trivial⟩
        exact EndsN.pre (g1.trans (g2.trans (g3.trans (g4.trans (g5.trans g6))))) (rowp hw sf K hret O0 N5 i0 i1 i2 C hn (colV cs) (1 : Int32) (0 : Int32) (0 : Int32) (A := 1) (by decide) p0 (by rw [at3, v0, v1]; rfl) rfl)
  · have v0 := up_len p0
    have g4 : Ld p e below T2 (mkF m 242 #[.val (.int i0), .val (.long i1), .second, .val (.long i2), .second, .val (.int (Int32.ofNat cs.length)), .val (.ref ca), .val (.ref sa), .val (.long (colV cs)), .second, .unset, .unset, .unset, .unset, .unset, .unset, .unset, .unset, .unset, .unset, .unset] []) T2 (mkF m 350 #[.val (.int i0), .val (.long i1), .second, .val (.long i2), .second, .val (.int (Int32.ofNat cs.length)), .val (.ref ca), .val (.ref sa), .val (.long (colV cs)), .second, .val (.int (0 : Int32)), .val (.int (0 : Int32)), .val (.int (0 : Int32)), .val (.int (0 : Int32)), .unset, .unset, .unset, .unset, .unset, .unset, .unset] []) := goRun K N2 #[] [(242, .iload 5, 2), (244, .ifCond .le 17, 3), (261, .iconst 0, 1), (262, .istore 10, 2), (264, .iload 10, 2), (266, .ifCond .eq 23, 3), (289, .iconst 0, 1), (290, .istore 11, 2), (292, .iload 11, 2), (294, .ifCond .eq 23, 3), (317, .iconst 0, 1), (318, .istore 12, 2), (320, .iload 12, 2), (322, .ifCond .eq 7, 3), (329, .iload 11, 2), (331, .ifCond .eq 7, 3), (338, .iload 10, 2), (340, .ifCond .eq 7, 3), (347, .iconst 0, 1), (348, .istore 13, 2)] [.ref 0, .ref 0, .ref 0, .ref 0, .ref 0, .ref 0] (P := (¬ (0 : Int32) < (Int32.ofNat cs.length)) ∧ ((0 : Int32) = (0 : Int32)) ∧ ((0 : Int32) = (0 : Int32)) ∧ ((0 : Int32) = (0 : Int32)) ∧ ((0 : Int32) = (0 : Int32)) ∧ ((0 : Int32) = (0 : Int32)) ∧ True) (by decide +kernel) rfl ⟨(fun z => p0 ((n_lt (i := 0) (by omega) (by omega)).mp z)), rfl, rfl, rfl, rfl, rfl, trivial⟩
    exact EndsN.pre (g1.trans (g2.trans (g3.trans g4))) (rowp hw sf K hret O0 N2 i0 i1 i2 C hn (colV cs) (0 : Int32) (0 : Int32) (0 : Int32) (A := 0) (by decide) (Nat.zero_le _) (by rw [at3, v0]; rfl) rfl)
set_option maxHeartbeats 4000000 in
theorem mks (hw : ∀ d ∈ tables_1, d.before a0 Z = true) {z : Int32} {fm : Value} (sf : SF Z z fm) (K : Cx Z "com/example/covenantry/covenantry/FigurePlacesColumnPinLaw" code maxLocals p m c) (hret : meth.sig.returnType = ret) (O0 : Old Z n0 s.heap) (N : NwW Z consts_1 n0 h p l e room_1 s m args below meth c T 1 13) (i0 : Int32) (i1 i2 : Int64) {n : Nat} (hn : n ≤ 13) {ca : Addr} {cs : List Int32} (C : Av Z h ca .char (cs.map Value.int)) (hl : cs.length = n) (hok : ∀ c ∈ cs, Ch c ∧ c.toInt ≤ 255) (ha : n0 ≤ ca) :
    EndsW Z consts_1 n0 h p l e room_1 s m args below meth c T (mkF m 224 #[.val (.int i0), .val (.long i1), .second, .val (.long i2), .second, .val (.int (Int32.ofNat n)), .val (.ref ca), .unset, .unset, .unset, .unset, .unset, .unset, .unset, .unset, .unset, .unset, .unset, .unset, .unset, .unset] []) := by
  have ew := ew0 hw
  subst hl
  have hca : ca < h.size := by obtain ⟨cl, AA, -⟩ := C; exact (Array.getElem?_eq_some_iff.mp AA.1).1
  obtain ⟨T1, h1, a1, ea1, N1, E1, X1, D1, g1⟩ := goNew K N.nar (C := "java/lang/String") (tw hw 2 rfl) (tw hw 3 rfl) (tw hw 4 rfl) (pc := 224) (L := #[.val (.int i0), .val (.long i1), .second, .val (.long i2), .second, .val (.int (Int32.ofNat cs.length)), .val (.ref ca), .unset, .unset, .unset, .unset, .unset, .unset, .unset, .unset, .unset, .unset, .unset, .unset, .unset, .unset]) (S := []) (by decide +kernel) (by decide) (by decide)
  have ha1 : n0 ≤ a1 := ea1 ▸ N.nar.size
  obtain ⟨⟨M1, c1⟩, sN1⟩ := N.backE ew N1 E1
  have V1 : Fld Z h1 a1 "java/lang/String" "value" "[B" .null := D1 (Or.inr (tw hw 17 rfl)) (ty := .array .byte) (by decide)
  have C1 : Fld Z h1 a1 "java/lang/String" "coder" "B" (.int 0) := D1 (Or.inr (tw hw 18 rfl)) (ty := .byte) (by decide)
  have g2 : Ld p e below T1 (mkF m 227 #[.val (.int i0), .val (.long i1), .second, .val (.long i2), .second, .val (.int (Int32.ofNat cs.length)), .val (.ref ca), .unset, .unset, .unset, .unset, .unset, .unset, .unset, .unset, .unset, .unset, .unset, .unset, .unset, .unset] [(.ref a1)]) T1 (mkF m 230 #[.val (.int i0), .val (.long i1), .second, .val (.long i2), .second, .val (.int (Int32.ofNat cs.length)), .val (.ref ca), .unset, .unset, .unset, .unset, .unset, .unset, .unset, .unset, .unset, .unset, .unset, .unset, .unset, .unset] [(.ref ca), (.ref a1), (.ref a1)]) := goRun K (M1.nar) #[] [(227, .dup, 1), (228, .aload 6, 2)] [] (P := True) (by decide +kernel) rfl trivial
  have nca : ca ≠ a1 := ea1 ▸ Nat.ne_of_lt hca
  have SS := sN1 _ (Nat.le_of_eq ea1.symm)
  by_cases q0 : cs.length = 0
  · have hnil : cs = [] := List.eq_nil_of_length_eq_zero q0
    have Cz : Av Z h ca .char [] := by rw [hnil] at C; exact C
    obtain ⟨v3, T3, h3, M3, c3, ⟨rfl, KC, tC, FC⟩, g3⟩ := goSpW K ew M1 (a := a1) (tw hw 5 rfl) (tw hw 6 rfl) (tw hw 4 rfl) (tw hw 7 rfl) (con_sie hw X1 V1 C1 ha1 (Cz.ext E1)) (allS ⟨X1.lt, SS⟩ all0) rfl (by decide) (argsL := [(.ref ca)]) (W := 1) (rest := [(.ref a1)]) (by decide) (by decide) (by decide) (by decide) (L := #[.val (.int i0), .val (.long i1), .second, .val (.long i2), .second, .val (.int (Int32.ofNat cs.length)), .val (.ref ca), .unset, .unset, .unset, .unset, .unset, .unset, .unset, .unset, .unset, .unset, .unset, .unset, .unset, .unset]) rfl pd9 rfl (Nat.le_of_eq rfl) (pc := 230) (by decide +kernel)
    rw [← hnil] at FC
    have CE := (C.ext E1).keep KC (ninS nca nin0)
    have NN := Nw.mono (cells' := 8) (slots' := 200) M3.nar (by decide) (by decide)
    obtain ⟨T9, g9, N9, l9, f9⟩ := resty (s := s.setVm T3.vm) hw sf K hret O0 NN i0 i1 i2 CE hn FC
    obtain ⟨M9, c9⟩ := M3.back ew N9 (CHr.refl M3.ch)
    exact ⟨T9, g9, h3, 8, 200, M9, by decide, by decide, ((c1.trans c3)).trans c9, (g1.trans (g2.trans g3)).trans l9, f9⟩
  · obtain ⟨v3, T3, h3, N3, ⟨rfl, KC, tC, htC, FC⟩, g3⟩ := goSp K M1.nar (a := a1) (tw hw 5 rfl) (tw hw 6 rfl) (tw hw 4 rfl) (tw hw 7 rfl) (con_si hw sf X1 V1 C1 (C.ext E1) hn (by omega) (fun c hc => (hok c hc).1) (fun c hc => (hok c hc).2) ha1 (M1.nar.old O0)) rfl (by decide) (argsL := [(.ref ca)]) (W := 1) (rest := [(.ref a1)]) (by decide) (by decide) (by decide) (by decide) (L := #[.val (.int i0), .val (.long i1), .second, .val (.long i2), .second, .val (.int (Int32.ofNat cs.length)), .val (.ref ca), .unset, .unset, .unset, .unset, .unset, .unset, .unset, .unset, .unset, .unset, .unset, .unset, .unset, .unset]) rfl pd9 rfl (Nat.le_of_eq rfl) (pc := 230) (by decide +kernel)
    obtain ⟨M3, c3⟩ := M1.back ew N3 (CHr.keep KC (sfS SS sf0) M1.ch)
    have CE := (C.ext E1).keep KC (ninS nca nin0)
    have NN := Nw.mono (cells' := 8) (slots' := 200) M3.nar (by decide) (by decide)
    obtain ⟨T9, g9, N9, l9, f9⟩ := resty (s := s.setVm T3.vm) hw sf K hret O0 NN i0 i1 i2 CE hn FC
    obtain ⟨M9, c9⟩ := M3.back ew N9 (CHr.refl M3.ch)
    exact ⟨T9, g9, h3, 8, 200, M9, by decide, by decide, ((c1.trans c3)).trans c9, (g1.trans (g2.trans g3)).trans l9, f9⟩
set_option maxHeartbeats 4000000 in
theorem fill_12 (hw : ∀ d ∈ tables_1, d.before a0 Z = true) {z : Int32} {fm : Value} (sf : SF Z z fm) (K : Cx Z "com/example/covenantry/covenantry/FigurePlacesColumnPinLaw" code maxLocals p m c) (hret : meth.sig.returnType = ret) (O0 : Old Z n0 s.heap) (N : NwW Z consts_1 n0 h p l e room_1 s m args below meth c T 1 13) (i0 : Int32) (i1 i2 : Int64) {n : Nat} (hn : n ≤ 13) {ca : Addr} {cs : List Int32} (C : Av Z h ca .char (cs.map Value.int)) (hl : cs.length = n) (hok : ∀ c ∈ cs, Ch c ∧ c.toInt ≤ 255) (ha : n0 ≤ ca) :
    EndsW Z consts_1 n0 h p l e room_1 s m args below meth c T (mkF m 207 #[.val (.int i0), .val (.long i1), .second, .val (.long i2), .second, .val (.int (Int32.ofNat n)), .val (.ref ca), .unset, .unset, .unset, .unset, .unset, .unset, .unset, .unset, .unset, .unset, .unset, .unset, .unset, .unset] []) := by
  have ew := ew0 hw
  by_cases q : 12 < n
  · have g1 : Ld p e below T (mkF m 207 #[.val (.int i0), .val (.long i1), .second, .val (.long i2), .second, .val (.int (Int32.ofNat n)), .val (.ref ca), .unset, .unset, .unset, .unset, .unset, .unset, .unset, .unset, .unset, .unset, .unset, .unset, .unset, .unset] []) T (mkF m 220 #[.val (.int i0), .val (.long i1), .second, .val (.long i2), .second, .val (.int (Int32.ofNat n)), .val (.ref ca), .unset, .unset, .unset, .unset, .unset, .unset, .unset, .unset, .unset, .unset, .unset, .unset, .unset, .unset] [(.int (5 : Int32)), (.long i2), (.int (12 : Int32)), (.ref ca)]) := goRun K (N.nar) #[] [(207, .iload 5, 2), (209, .bipush 12, 2), (211, .if_icmp .le 13, 3), (214, .aload 6, 2), (216, .bipush 12, 2), (218, .lload_n 3, 1), (219, .iconst 5, 1)] [.null] (P := ((12 : Int32) < (Int32.ofNat n)) ∧ True) (by decide +kernel) rfl ⟨((n_lt (i := 12) (by omega) (by omega)).mpr q), trivial⟩
    obtain ⟨v2, T2, _, N2, ⟨⟨d9, rfl, r1, r2⟩, rfl⟩, g2⟩ := goS K N.nar (tw hw 51 rfl) (tw hw 52 rfl) (tw hw 45 rfl) (tw hw 53 rfl) (con_pk hw i2 (5 : Int32)) (argsL := [(.long i2), (.int (5 : Int32))]) (W := 2) (rest := [(.int (12 : Int32)), (.ref ca)]) (by decide) (by decide) (by decide) (by decide) (by decide) (L := #[.val (.int i0), .val (.long i1), .second, .val (.long i2), .second, .val (.int (Int32.ofNat n)), .val (.ref ca), .unset, .unset, .unset, .unset, .unset, .unset, .unset, .unset, .unset, .unset, .unset, .unset, .unset, .unset]) rfl pd15 rfl (Nat.le_of_eq rfl) (pc := 220) (by decide +kernel)
    obtain ⟨M2, c2⟩ := N.back ew N2 (CHr.refl N.ch)
    obtain ⟨T3, h3, N3, K3, A3, g3⟩ := avStC K M2.nar C (j := (12 : Int32)) (i := 12) (x := d9) rfl (by rw [List.length_map]; omega) ha (pc := 223) (L := #[.val (.int i0), .val (.long i1), .second, .val (.long i2), .second, .val (.int (Int32.ofNat n)), .val (.ref ca), .unset, .unset, .unset, .unset, .unset, .unset, .unset, .unset, .unset, .unset, .unset, .unset, .unset, .unset]) (S := []) (by decide +kernel)
    obtain ⟨M3, c3⟩ := M2.back ew N3 (CHr.keep K3 (sfS (av_safe M2.al C (by decide)) sf0) M2.ch)
    have C2 : Av Z h3 ca .char ((cs.set 12 d9).map Value.int) := by rw [nar_ch r1] at A3; rw [List.map_set]; exact A3
    exact EndsW.pre (g1.trans (g2.trans g3)) (c2.trans c3) (mks hw sf K hret O0 M3 i0 i1 i2 hn C2 (by rw [List.length_set]; exact hl) (ok_set hok r1 r2) ha)
  · have g1 : Ld p e below T (mkF m 207 #[.val (.int i0), .val (.long i1), .second, .val (.long i2), .second, .val (.int (Int32.ofNat n)), .val (.ref ca), .unset, .unset, .unset, .unset, .unset, .unset, .unset, .unset, .unset, .unset, .unset, .unset, .unset, .unset] []) T (mkF m 224 #[.val (.int i0), .val (.long i1), .second, .val (.long i2), .second, .val (.int (Int32.ofNat n)), .val (.ref ca), .unset, .unset, .unset, .unset, .unset, .unset, .unset, .unset, .unset, .unset, .unset, .unset, .unset, .unset] []) := goRun K (N.nar) #[] [(207, .iload 5, 2), (209, .bipush 12, 2), (211, .if_icmp .le 13, 3)] [.ref 0] (P := (¬ (12 : Int32) < (Int32.ofNat n)) ∧ True) (by decide +kernel) rfl ⟨(fun z => q ((n_lt (i := 12) (by omega) (by omega)).mp z)), trivial⟩
    exact EndsW.pre (g1) (CHr.refl N.ch) (mks hw sf K hret O0 N i0 i1 i2 hn C hl hok ha)
set_option maxHeartbeats 4000000 in
theorem fill_11 (hw : ∀ d ∈ tables_1, d.before a0 Z = true) {z : Int32} {fm : Value} (sf : SF Z z fm) (K : Cx Z "com/example/covenantry/covenantry/FigurePlacesColumnPinLaw" code maxLocals p m c) (hret : meth.sig.returnType = ret) (O0 : Old Z n0 s.heap) (N : NwW Z consts_1 n0 h p l e room_1 s m args below meth c T 1 13) (i0 : Int32) (i1 i2 : Int64) {n : Nat} (hn : n ≤ 13) {ca : Addr} {cs : List Int32} (C : Av Z h ca .char (cs.map Value.int)) (hl : cs.length = n) (hok : ∀ c ∈ cs, Ch c ∧ c.toInt ≤ 255) (ha : n0 ≤ ca) :
    EndsW Z consts_1 n0 h p l e room_1 s m args below meth c T (mkF m 190 #[.val (.int i0), .val (.long i1), .second, .val (.long i2), .second, .val (.int (Int32.ofNat n)), .val (.ref ca), .unset, .unset, .unset, .unset, .unset, .unset, .unset, .unset, .unset, .unset, .unset, .unset, .unset, .unset] []) := by
  have ew := ew0 hw
  by_cases q : 11 < n
  · have g1 : Ld p e below T (mkF m 190 #[.val (.int i0), .val (.long i1), .second, .val (.long i2), .second, .val (.int (Int32.ofNat n)), .val (.ref ca), .unset, .unset, .unset, .unset, .unset, .unset, .unset, .unset, .unset, .unset, .unset, .unset, .unset, .unset] []) T (mkF m 203 #[.val (.int i0), .val (.long i1), .second, .val (.long i2), .second, .val (.int (Int32.ofNat n)), .val (.ref ca), .unset, .unset, .unset, .unset, .unset, .unset, .unset, .unset, .unset, .unset, .unset, .unset, .unset, .unset] [(.int (4 : Int32)), (.long i2), (.int (11 : Int32)), (.ref ca)]) := goRun K (N.nar) #[] [(190, .iload 5, 2), (192, .bipush 11, 2), (194, .if_icmp .le 13, 3), (197, .aload 6, 2), (199, .bipush 11, 2), (201, .lload_n 3, 1), (202, .iconst 4, 1)] [.null] (P := ((11 : Int32) < (Int32.ofNat n)) ∧ True) (by decide +kernel) rfl ⟨((n_lt (i := 11) (by omega) (by omega)).mpr q), trivial⟩
    obtain ⟨v2, T2, _, N2, ⟨⟨d9, rfl, r1, r2⟩, rfl⟩, g2⟩ := goS K N.nar (tw hw 51 rfl) (tw hw 52 rfl) (tw hw 45 rfl) (tw hw 53 rfl) (con_pk hw i2 (4 : Int32)) (argsL := [(.long i2), (.int (4 : Int32))]) (W := 2) (rest := [(.int (11 : Int32)), (.ref ca)]) (by decide) (by decide) (by decide) (by decide) (by decide) (L := #[.val (.int i0), .val (.long i1), .second, .val (.long i2), .second, .val (.int (Int32.ofNat n)), .val (.ref ca), .unset, .unset, .unset, .unset, .unset, .unset, .unset, .unset, .unset, .unset, .unset, .unset, .unset, .unset]) rfl pd15 rfl (Nat.le_of_eq rfl) (pc := 203) (by decide +kernel)
    obtain ⟨M2, c2⟩ := N.back ew N2 (CHr.refl N.ch)
    obtain ⟨T3, h3, N3, K3, A3, g3⟩ := avStC K M2.nar C (j := (11 : Int32)) (i := 11) (x := d9) rfl (by rw [List.length_map]; omega) ha (pc := 206) (L := #[.val (.int i0), .val (.long i1), .second, .val (.long i2), .second, .val (.int (Int32.ofNat n)), .val (.ref ca), .unset, .unset, .unset, .unset, .unset, .unset, .unset, .unset, .unset, .unset, .unset, .unset, .unset, .unset]) (S := []) (by decide +kernel)
    obtain ⟨M3, c3⟩ := M2.back ew N3 (CHr.keep K3 (sfS (av_safe M2.al C (by decide)) sf0) M2.ch)
    have C2 : Av Z h3 ca .char ((cs.set 11 d9).map Value.int) := by rw [nar_ch r1] at A3; rw [List.map_set]; exact A3
    exact EndsW.pre (g1.trans (g2.trans g3)) (c2.trans c3) (fill_12 hw sf K hret O0 M3 i0 i1 i2 hn C2 (by rw [List.length_set]; exact hl) (ok_set hok r1 r2) ha)
  · have g1 : Ld p e below T (mkF m 190 #[.val (.int i0), .val (.long i1), .second, .val (.long i2), .second, .val (.int (Int32.ofNat n)), .val (.ref ca), .unset, .unset, .unset, .unset, .unset, .unset, .unset, .unset, .unset, .unset, .unset, .unset, .unset, .unset] []) T (mkF m 207 #[.val (.int i0), .val (.long i1), .second, .val (.long i2), .second, .val (.int (Int32.ofNat n)), .val (.ref ca), .unset, .unset, .unset, .unset, .unset, .unset, .unset, .unset, .unset, .unset, .unset, .unset, .unset, .unset] []) := goRun K (N.nar) #[] [(190, .iload 5, 2), (192, .bipush 11, 2), (194, .if_icmp .le 13, 3)] [.ref 0] (P := (¬ (11 : Int32) < (Int32.ofNat n)) ∧ True) (by decide +kernel) rfl ⟨(fun z => q ((n_lt (i := 11) (by omega) (by omega)).mp z)), trivial⟩
    exact EndsW.pre (g1) (CHr.refl N.ch) (fill_12 hw sf K hret O0 N i0 i1 i2 hn C hl hok ha)
set_option maxHeartbeats 4000000 in
theorem fill_10 (hw : ∀ d ∈ tables_1, d.before a0 Z = true) {z : Int32} {fm : Value} (sf : SF Z z fm) (K : Cx Z "com/example/covenantry/covenantry/FigurePlacesColumnPinLaw" code maxLocals p m c) (hret : meth.sig.returnType = ret) (O0 : Old Z n0 s.heap) (N : NwW Z consts_1 n0 h p l e room_1 s m args below meth c T 1 13) (i0 : Int32) (i1 i2 : Int64) {n : Nat} (hn : n ≤ 13) {ca : Addr} {cs : List Int32} (C : Av Z h ca .char (cs.map Value.int)) (hl : cs.length = n) (hok : ∀ c ∈ cs, Ch c ∧ c.toInt ≤ 255) (ha : n0 ≤ ca) :
    EndsW Z consts_1 n0 h p l e room_1 s m args below meth c T (mkF m 173 #[.val (.int i0), .val (.long i1), .second, .val (.long i2), .second, .val (.int (Int32.ofNat n)), .val (.ref ca), .unset, .unset, .unset, .unset, .unset, .unset, .unset, .unset, .unset, .unset, .unset, .unset, .unset, .unset] []) := by
  have ew := ew0 hw
  by_cases q : 10 < n
  · have g1 : Ld p e below T (mkF m 173 #[.val (.int i0), .val (.long i1), .second, .val (.long i2), .second, .val (.int (Int32.ofNat n)), .val (.ref ca), .unset, .unset, .unset, .unset, .unset, .unset, .unset, .unset, .unset, .unset, .unset, .unset, .unset, .unset] []) T (mkF m 186 #[.val (.int i0), .val (.long i1), .second, .val (.long i2), .second, .val (.int (Int32.ofNat n)), .val (.ref ca), .unset, .unset, .unset, .unset, .unset, .unset, .unset, .unset, .unset, .unset, .unset, .unset, .unset, .unset] [(.int (3 : Int32)), (.long i2), (.int (10 : Int32)), (.ref ca)]) := goRun K (N.nar) #[] [(173, .iload 5, 2), (175, .bipush 10, 2), (177, .if_icmp .le 13, 3), (180, .aload 6, 2), (182, .bipush 10, 2), (184, .lload_n 3, 1), (185, .iconst 3, 1)] [.null] (P := ((10 : Int32) < (Int32.ofNat n)) ∧ True) (by decide +kernel) rfl ⟨((n_lt (i := 10) (by omega) (by omega)).mpr q), trivial⟩
    obtain ⟨v2, T2, _, N2, ⟨⟨d9, rfl, r1, r2⟩, rfl⟩, g2⟩ := goS K N.nar (tw hw 51 rfl) (tw hw 52 rfl) (tw hw 45 rfl) (tw hw 53 rfl) (con_pk hw i2 (3 : Int32)) (argsL := [(.long i2), (.int (3 : Int32))]) (W := 2) (rest := [(.int (10 : Int32)), (.ref ca)]) (by decide) (by decide) (by decide) (by decide) (by decide) (L := #[.val (.int i0), .val (.long i1), .second, .val (.long i2), .second, .val (.int (Int32.ofNat n)), .val (.ref ca), .unset, .unset, .unset, .unset, .unset, .unset, .unset, .unset, .unset, .unset, .unset, .unset, .unset, .unset]) rfl pd15 rfl (Nat.le_of_eq rfl) (pc := 186) (by decide +kernel)
    obtain ⟨M2, c2⟩ := N.back ew N2 (CHr.refl N.ch)
    obtain ⟨T3, h3, N3, K3, A3, g3⟩ := avStC K M2.nar C (j := (10 : Int32)) (i := 10) (x := d9) rfl (by rw [List.length_map]; omega) ha (pc := 189) (L := #[.val (.int i0), .val (.long i1), .second, .val (.long i2), .second, .val (.int (Int32.ofNat n)), .val (.ref ca), .unset, .unset, .unset, .unset, .unset, .unset, .unset, .unset, .unset, .unset, .unset, .unset, .unset, .unset]) (S := []) (by decide +kernel)
    obtain ⟨M3, c3⟩ := M2.back ew N3 (CHr.keep K3 (sfS (av_safe M2.al C (by decide)) sf0) M2.ch)
    have C2 : Av Z h3 ca .char ((cs.set 10 d9).map Value.int) := by rw [nar_ch r1] at A3; rw [List.map_set]; exact A3
    exact EndsW.pre (g1.trans (g2.trans g3)) (c2.trans c3) (fill_11 hw sf K hret O0 M3 i0 i1 i2 hn C2 (by rw [List.length_set]; exact hl) (ok_set hok r1 r2) ha)
  · have g1 : Ld p e below T (mkF m 173 #[.val (.int i0), .val (.long i1), .second, .val (.long i2), .second, .val (.int (Int32.ofNat n)), .val (.ref ca), .unset, .unset, .unset, .unset, .unset, .unset, .unset, .unset, .unset, .unset, .unset, .unset, .unset, .unset] []) T (mkF m 190 #[.val (.int i0), .val (.long i1), .second, .val (.long i2), .second, .val (.int (Int32.ofNat n)), .val (.ref ca), .unset, .unset, .unset, .unset, .unset, .unset, .unset, .unset, .unset, .unset, .unset, .unset, .unset, .unset] []) := goRun K (N.nar) #[] [(173, .iload 5, 2), (175, .bipush 10, 2), (177, .if_icmp .le 13, 3)] [.ref 0] (P := (¬ (10 : Int32) < (Int32.ofNat n)) ∧ True) (by decide +kernel) rfl ⟨(fun z => q ((n_lt (i := 10) (by omega) (by omega)).mp z)), trivial⟩
    exact EndsW.pre (g1) (CHr.refl N.ch) (fill_11 hw sf K hret O0 N i0 i1 i2 hn C hl hok ha)
set_option maxHeartbeats 4000000 in
theorem fill_9 (hw : ∀ d ∈ tables_1, d.before a0 Z = true) {z : Int32} {fm : Value} (sf : SF Z z fm) (K : Cx Z "com/example/covenantry/covenantry/FigurePlacesColumnPinLaw" code maxLocals p m c) (hret : meth.sig.returnType = ret) (O0 : Old Z n0 s.heap) (N : NwW Z consts_1 n0 h p l e room_1 s m args below meth c T 1 13) (i0 : Int32) (i1 i2 : Int64) {n : Nat} (hn : n ≤ 13) {ca : Addr} {cs : List Int32} (C : Av Z h ca .char (cs.map Value.int)) (hl : cs.length = n) (hok : ∀ c ∈ cs, Ch c ∧ c.toInt ≤ 255) (ha : n0 ≤ ca) :
    EndsW Z consts_1 n0 h p l e room_1 s m args below meth c T (mkF m 156 #[.val (.int i0), .val (.long i1), .second, .val (.long i2), .second, .val (.int (Int32.ofNat n)), .val (.ref ca), .unset, .unset, .unset, .unset, .unset, .unset, .unset, .unset, .unset, .unset, .unset, .unset, .unset, .unset] []) := by
  have ew := ew0 hw
  by_cases q : 9 < n
  · have g1 : Ld p e below T (mkF m 156 #[.val (.int i0), .val (.long i1), .second, .val (.long i2), .second, .val (.int (Int32.ofNat n)), .val (.ref ca), .unset, .unset, .unset, .unset, .unset, .unset, .unset, .unset, .unset, .unset, .unset, .unset, .unset, .unset] []) T (mkF m 169 #[.val (.int i0), .val (.long i1), .second, .val (.long i2), .second, .val (.int (Int32.ofNat n)), .val (.ref ca), .unset, .unset, .unset, .unset, .unset, .unset, .unset, .unset, .unset, .unset, .unset, .unset, .unset, .unset] [(.int (2 : Int32)), (.long i2), (.int (9 : Int32)), (.ref ca)]) := goRun K (N.nar) #[] [(156, .iload 5, 2), (158, .bipush 9, 2), (160, .if_icmp .le 13, 3), (163, .aload 6, 2), (165, .bipush 9, 2), (167, .lload_n 3, 1), (168, .iconst 2, 1)] [.null] (P := ((9 : Int32) < (Int32.ofNat n)) ∧ True) (by decide +kernel) rfl ⟨((n_lt (i := 9) (by omega) (by omega)).mpr q), trivial⟩
    obtain ⟨v2, T2, _, N2, ⟨⟨d9, rfl, r1, r2⟩, rfl⟩, g2⟩ := goS K N.nar (tw hw 51 rfl) (tw hw 52 rfl) (tw hw 45 rfl) (tw hw 53 rfl) (con_pk hw i2 (2 : Int32)) (argsL := [(.long i2), (.int (2 : Int32))]) (W := 2) (rest := [(.int (9 : Int32)), (.ref ca)]) (by decide) (by decide) (by decide) (by decide) (by decide) (L := #[.val (.int i0), .val (.long i1), .second, .val (.long i2), .second, .val (.int (Int32.ofNat n)), .val (.ref ca), .unset, .unset, .unset, .unset, .unset, .unset, .unset, .unset, .unset, .unset, .unset, .unset, .unset, .unset]) rfl pd15 rfl (Nat.le_of_eq rfl) (pc := 169) (by decide +kernel)
    obtain ⟨M2, c2⟩ := N.back ew N2 (CHr.refl N.ch)
    obtain ⟨T3, h3, N3, K3, A3, g3⟩ := avStC K M2.nar C (j := (9 : Int32)) (i := 9) (x := d9) rfl (by rw [List.length_map]; omega) ha (pc := 172) (L := #[.val (.int i0), .val (.long i1), .second, .val (.long i2), .second, .val (.int (Int32.ofNat n)), .val (.ref ca), .unset, .unset, .unset, .unset, .unset, .unset, .unset, .unset, .unset, .unset, .unset, .unset, .unset, .unset]) (S := []) (by decide +kernel)
    obtain ⟨M3, c3⟩ := M2.back ew N3 (CHr.keep K3 (sfS (av_safe M2.al C (by decide)) sf0) M2.ch)
    have C2 : Av Z h3 ca .char ((cs.set 9 d9).map Value.int) := by rw [nar_ch r1] at A3; rw [List.map_set]; exact A3
    exact EndsW.pre (g1.trans (g2.trans g3)) (c2.trans c3) (fill_10 hw sf K hret O0 M3 i0 i1 i2 hn C2 (by rw [List.length_set]; exact hl) (ok_set hok r1 r2) ha)
  · have g1 : Ld p e below T (mkF m 156 #[.val (.int i0), .val (.long i1), .second, .val (.long i2), .second, .val (.int (Int32.ofNat n)), .val (.ref ca), .unset, .unset, .unset, .unset, .unset, .unset, .unset, .unset, .unset, .unset, .unset, .unset, .unset, .unset] []) T (mkF m 173 #[.val (.int i0), .val (.long i1), .second, .val (.long i2), .second, .val (.int (Int32.ofNat n)), .val (.ref ca), .unset, .unset, .unset, .unset, .unset, .unset, .unset, .unset, .unset, .unset, .unset, .unset, .unset, .unset] []) := goRun K (N.nar) #[] [(156, .iload 5, 2), (158, .bipush 9, 2), (160, .if_icmp .le 13, 3)] [.ref 0] (P := (¬ (9 : Int32) < (Int32.ofNat n)) ∧ True) (by decide +kernel) rfl ⟨(fun z => q ((n_lt (i := 9) (by omega) (by omega)).mp z)), trivial⟩
    exact EndsW.pre (g1) (CHr.refl N.ch) (fill_10 hw sf K hret O0 N i0 i1 i2 hn C hl hok ha)
set_option maxHeartbeats 4000000 in
theorem fill_8 (hw : ∀ d ∈ tables_1, d.before a0 Z = true) {z : Int32} {fm : Value} (sf : SF Z z fm) (K : Cx Z "com/example/covenantry/covenantry/FigurePlacesColumnPinLaw" code maxLocals p m c) (hret : meth.sig.returnType = ret) (O0 : Old Z n0 s.heap) (N : NwW Z consts_1 n0 h p l e room_1 s m args below meth c T 1 13) (i0 : Int32) (i1 i2 : Int64) {n : Nat} (hn : n ≤ 13) {ca : Addr} {cs : List Int32} (C : Av Z h ca .char (cs.map Value.int)) (hl : cs.length = n) (hok : ∀ c ∈ cs, Ch c ∧ c.toInt ≤ 255) (ha : n0 ≤ ca) :
    EndsW Z consts_1 n0 h p l e room_1 s m args below meth c T (mkF m 139 #[.val (.int i0), .val (.long i1), .second, .val (.long i2), .second, .val (.int (Int32.ofNat n)), .val (.ref ca), .unset, .unset, .unset, .unset, .unset, .unset, .unset, .unset, .unset, .unset, .unset, .unset, .unset, .unset] []) := by
  have ew := ew0 hw
  by_cases q : 8 < n
  · have g1 : Ld p e below T (mkF m 139 #[.val (.int i0), .val (.long i1), .second, .val (.long i2), .second, .val (.int (Int32.ofNat n)), .val (.ref ca), .unset, .unset, .unset, .unset, .unset, .unset, .unset, .unset, .unset, .unset, .unset, .unset, .unset, .unset] []) T (mkF m 152 #[.val (.int i0), .val (.long i1), .second, .val (.long i2), .second, .val (.int (Int32.ofNat n)), .val (.ref ca), .unset, .unset, .unset, .unset, .unset, .unset, .unset, .unset, .unset, .unset, .unset, .unset, .unset, .unset] [(.int (1 : Int32)), (.long i2), (.int (8 : Int32)), (.ref ca)]) := goRun K (N.nar) #[] [(139, .iload 5, 2), (141, .bipush 8, 2), (143, .if_icmp .le 13, 3), (146, .aload 6, 2), (148, .bipush 8, 2), (150, .lload_n 3, 1), (151, .iconst 1, 1)] [.null] (P := ((8 : Int32) < (Int32.ofNat n)) ∧ True) (by decide +kernel) rfl ⟨((n_lt (i := 8) (by omega) (by omega)).mpr q), trivial⟩
    obtain ⟨v2, T2, _, N2, ⟨⟨d9, rfl, r1, r2⟩, rfl⟩, g2⟩ := goS K N.nar (tw hw 51 rfl) (tw hw 52 rfl) (tw hw 45 rfl) (tw hw 53 rfl) (con_pk hw i2 (1 : Int32)) (argsL := [(.long i2), (.int (1 : Int32))]) (W := 2) (rest := [(.int (8 : Int32)), (.ref ca)]) (by decide) (by decide) (by decide) (by decide) (by decide) (L := #[.val (.int i0), .val (.long i1), .second, .val (.long i2), .second, .val (.int (Int32.ofNat n)), .val (.ref ca), .unset, .unset, .unset, .unset, .unset, .unset, .unset, .unset, .unset, .unset, .unset, .unset, .unset, .unset]) rfl pd15 rfl (Nat.le_of_eq rfl) (pc := 152) (by decide +kernel)
    obtain ⟨M2, c2⟩ := N.back ew N2 (CHr.refl N.ch)
    obtain ⟨T3, h3, N3, K3, A3, g3⟩ := avStC K M2.nar C (j := (8 : Int32)) (i := 8) (x := d9) rfl (by rw [List.length_map]; omega) ha (pc := 155) (L := #[.val (.int i0), .val (.long i1), .second, .val (.long i2), .second, .val (.int (Int32.ofNat n)), .val (.ref ca), .unset, .unset, .unset, .unset, .unset, .unset, .unset, .unset, .unset, .unset, .unset, .unset, .unset, .unset]) (S := []) (by decide +kernel)
    obtain ⟨M3, c3⟩ := M2.back ew N3 (CHr.keep K3 (sfS (av_safe M2.al C (by decide)) sf0) M2.ch)
    have C2 : Av Z h3 ca .char ((cs.set 8 d9).map Value.int) := by rw [nar_ch r1] at A3; rw [List.map_set]; exact A3
    exact EndsW.pre (g1.trans (g2.trans g3)) (c2.trans c3) (fill_9 hw sf K hret O0 M3 i0 i1 i2 hn C2 (by rw [List.length_set]; exact hl) (ok_set hok r1 r2) ha)
  · have g1 : Ld p e below T (mkF m 139 #[.val (.int i0), .val (.long i1), .second, .val (.long i2), .second, .val (.int (Int32.ofNat n)), .val (.ref ca), .unset, .unset, .unset, .unset, .unset, .unset, .unset, .unset, .unset, .unset, .unset, .unset, .unset, .unset] []) T (mkF m 156 #[.val (.int i0), .val (.long i1), .second, .val (.long i2), .second, .val (.int (Int32.ofNat n)), .val (.ref ca), .unset, .unset, .unset, .unset, .unset, .unset, .unset, .unset, .unset, .unset, .unset, .unset, .unset, .unset] []) := goRun K (N.nar) #[] [(139, .iload 5, 2), (141, .bipush 8, 2), (143, .if_icmp .le 13, 3)] [.ref 0] (P := (¬ (8 : Int32) < (Int32.ofNat n)) ∧ True) (by decide +kernel) rfl ⟨(fun z => q ((n_lt (i := 8) (by omega) (by omega)).mp z)), trivial⟩
    exact EndsW.pre (g1) (CHr.refl N.ch) (fill_9 hw sf K hret O0 N i0 i1 i2 hn C hl hok ha)
set_option maxHeartbeats 4000000 in
theorem fill_7 (hw : ∀ d ∈ tables_1, d.before a0 Z = true) {z : Int32} {fm : Value} (sf : SF Z z fm) (K : Cx Z "com/example/covenantry/covenantry/FigurePlacesColumnPinLaw" code maxLocals p m c) (hret : meth.sig.returnType = ret) (O0 : Old Z n0 s.heap) (N : NwW Z consts_1 n0 h p l e room_1 s m args below meth c T 1 13) (i0 : Int32) (i1 i2 : Int64) {n : Nat} (hn : n ≤ 13) {ca : Addr} {cs : List Int32} (C : Av Z h ca .char (cs.map Value.int)) (hl : cs.length = n) (hok : ∀ c ∈ cs, Ch c ∧ c.toInt ≤ 255) (ha : n0 ≤ ca) :
    EndsW Z consts_1 n0 h p l e room_1 s m args below meth c T (mkF m 122 #[.val (.int i0), .val (.long i1), .second, .val (.long i2), .second, .val (.int (Int32.ofNat n)), .val (.ref ca), .unset, .unset, .unset, .unset, .unset, .unset, .unset, .unset, .unset, .unset, .unset, .unset, .unset, .unset] []) := by
  have ew := ew0 hw
  by_cases q : 7 < n
  · have g1 : Ld p e below T (mkF m 122 #[.val (.int i0), .val (.long i1), .second, .val (.long i2), .second, .val (.int (Int32.ofNat n)), .val (.ref ca), .unset, .unset, .unset, .unset, .unset, .unset, .unset, .unset, .unset, .unset, .unset, .unset, .unset, .unset] []) T (mkF m 135 #[.val (.int i0), .val (.long i1), .second, .val (.long i2), .second, .val (.int (Int32.ofNat n)), .val (.ref ca), .unset, .unset, .unset, .unset, .unset, .unset, .unset, .unset, .unset, .unset, .unset, .unset, .unset, .unset] [(.int (0 : Int32)), (.long i2), (.int (7 : Int32)), (.ref ca)]) := goRun K (N.nar) #[] [(122, .iload 5, 2), (124, .bipush 7, 2), (126, .if_icmp .le 13, 3), (129, .aload 6, 2), (131, .bipush 7, 2), (133, .lload_n 3, 1), (134, .iconst 0, 1)] [.null] (P := ((7 : Int32) < (Int32.ofNat n)) ∧ True) (by decide +kernel) rfl ⟨((n_lt (i := 7) (by omega) (by omega)).mpr q), trivial⟩
    obtain ⟨v2, T2, _, N2, ⟨⟨d9, rfl, r1, r2⟩, rfl⟩, g2⟩ := goS K N.nar (tw hw 51 rfl) (tw hw 52 rfl) (tw hw 45 rfl) (tw hw 53 rfl) (con_pk hw i2 (0 : Int32)) (argsL := [(.long i2), (.int (0 : Int32))]) (W := 2) (rest := [(.int (7 : Int32)), (.ref ca)]) (by decide) (by decide) (by decide) (by decide) (by decide) (L := #[.val (.int i0), .val (.long i1), .second, .val (.long i2), .second, .val (.int (Int32.ofNat n)), .val (.ref ca), .unset, .unset, .unset, .unset, .unset, .unset, .unset, .unset, .unset, .unset, .unset, .unset, .unset, .unset]) rfl pd15 rfl (Nat.le_of_eq rfl) (pc := 135) (by decide +kernel)
    obtain ⟨M2, c2⟩ := N.back ew N2 (CHr.refl N.ch)
    obtain ⟨T3, h3, N3, K3, A3, g3⟩ := avStC K M2.nar C (j := (7 : Int32)) (i := 7) (x := d9) rfl (by rw [List.length_map]; omega) ha (pc := 138) (L := #[.val (.int i0), .val (.long i1), .second, .val (.long i2), .second, .val (.int (Int32.ofNat n)), .val (.ref ca), .unset, .unset, .unset, .unset, .unset, .unset, .unset, .unset, .unset, .unset, .unset, .unset, .unset, .unset]) (S := []) (by decide +kernel)
    obtain ⟨M3, c3⟩ := M2.back ew N3 (CHr.keep K3 (sfS (av_safe M2.al C (by decide)) sf0) M2.ch)
    have C2 : Av Z h3 ca .char ((cs.set 7 d9).map Value.int) := by rw [nar_ch r1] at A3; rw [List.map_set]; exact A3
    exact EndsW.pre (g1.trans (g2.trans g3)) (c2.trans c3) (fill_8 hw sf K hret O0 M3 i0 i1 i2 hn C2 (by rw [List.length_set]; exact hl) (ok_set hok r1 r2) ha)
  · have g1 : Ld p e below T (mkF m 122 #[.val (.int i0), .val (.long i1), .second, .val (.long i2), .second, .val (.int (Int32.ofNat n)), .val (.ref ca), .unset, .unset, .unset, .unset, .unset, .unset, .unset, .unset, .unset, .unset, .unset, .unset, .unset, .unset] []) T (mkF m 139 #[.val (.int i0), .val (.long i1), .second, .val (.long i2), .second, .val (.int (Int32.ofNat n)), .val (.ref ca), .unset, .unset, .unset, .unset, .unset, .unset, .unset, .unset, .unset, .unset, .unset, .unset, .unset, .unset] []) := goRun K (N.nar) #[] [(122, .iload 5, 2), (124, .bipush 7, 2), (126, .if_icmp .le 13, 3)] [.ref 0] (P := (¬ (7 : Int32) < (Int32.ofNat n)) ∧ True) (by decide +kernel) rfl ⟨(fun z => q ((n_lt (i := 7) (by omega) (by omega)).mp z)), trivial⟩
    exact EndsW.pre (g1) (CHr.refl N.ch) (fill_8 hw sf K hret O0 N i0 i1 i2 hn C hl hok ha)
set_option maxHeartbeats 4000000 in
theorem fill_6 (hw : ∀ d ∈ tables_1, d.before a0 Z = true) {z : Int32} {fm : Value} (sf : SF Z z fm) (K : Cx Z "com/example/covenantry/covenantry/FigurePlacesColumnPinLaw" code maxLocals p m c) (hret : meth.sig.returnType = ret) (O0 : Old Z n0 s.heap) (N : NwW Z consts_1 n0 h p l e room_1 s m args below meth c T 1 13) (i0 : Int32) (i1 i2 : Int64) {n : Nat} (hn : n ≤ 13) {ca : Addr} {cs : List Int32} (C : Av Z h ca .char (cs.map Value.int)) (hl : cs.length = n) (hok : ∀ c ∈ cs, Ch c ∧ c.toInt ≤ 255) (ha : n0 ≤ ca) :
    EndsW Z consts_1 n0 h p l e room_1 s m args below meth c T (mkF m 104 #[.val (.int i0), .val (.long i1), .second, .val (.long i2), .second, .val (.int (Int32.ofNat n)), .val (.ref ca), .unset, .unset, .unset, .unset, .unset, .unset, .unset, .unset, .unset, .unset, .unset, .unset, .unset, .unset] []) := by
  have ew := ew0 hw
  by_cases q : 6 < n
  · have g1 : Ld p e below T (mkF m 104 #[.val (.int i0), .val (.long i1), .second, .val (.long i2), .second, .val (.int (Int32.ofNat n)), .val (.ref ca), .unset, .unset, .unset, .unset, .unset, .unset, .unset, .unset, .unset, .unset, .unset, .unset, .unset, .unset] []) T (mkF m 118 #[.val (.int i0), .val (.long i1), .second, .val (.long i2), .second, .val (.int (Int32.ofNat n)), .val (.ref ca), .unset, .unset, .unset, .unset, .unset, .unset, .unset, .unset, .unset, .unset, .unset, .unset, .unset, .unset] [(.int (6 : Int32)), (.long i1), (.int (6 : Int32)), (.ref ca)]) := goRun K (N.nar) #[] [(104, .iload 5, 2), (106, .bipush 6, 2), (108, .if_icmp .le 14, 3), (111, .aload 6, 2), (113, .bipush 6, 2), (115, .lload_n 1, 1), (116, .bipush 6, 2)] [.null] (P := ((6 : Int32) < (Int32.ofNat n)) ∧ True) (by decide +kernel) rfl ⟨((n_lt (i := 6) (by omega) (by omega)).mpr q), trivial⟩
    obtain ⟨v2, T2, _, N2, ⟨⟨d9, rfl, r1, r2⟩, rfl⟩, g2⟩ := goS K N.nar (tw hw 51 rfl) (tw hw 52 rfl) (tw hw 45 rfl) (tw hw 53 rfl) (con_pk hw i1 (6 : Int32)) (argsL := [(.long i1), (.int (6 : Int32))]) (W := 2) (rest := [(.int (6 : Int32)), (.ref ca)]) (by decide) (by decide) (by decide) (by decide) (by decide) (L := #[.val (.int i0), .val (.long i1), .second, .val (.long i2), .second, .val (.int (Int32.ofNat n)), .val (.ref ca), .unset, .unset, .unset, .unset, .unset, .unset, .unset, .unset, .unset, .unset, .unset, .unset, .unset, .unset]) rfl pd15 rfl (Nat.le_of_eq rfl) (pc := 118) (by decide +kernel)
    obtain ⟨M2, c2⟩ := N.back ew N2 (CHr.refl N.ch)
    obtain ⟨T3, h3, N3, K3, A3, g3⟩ := avStC K M2.nar C (j := (6 : Int32)) (i := 6) (x := d9) rfl (by rw [List.length_map]; omega) ha (pc := 121) (L := #[.val (.int i0), .val (.long i1), .second, .val (.long i2), .second, .val (.int (Int32.ofNat n)), .val (.ref ca), .unset, .unset, .unset, .unset, .unset, .unset, .unset, .unset, .unset, .unset, .unset, .unset, .unset, .unset]) (S := []) (by decide +kernel)
    obtain ⟨M3, c3⟩ := M2.back ew N3 (CHr.keep K3 (sfS (av_safe M2.al C (by decide)) sf0) M2.ch)
    have C2 : Av Z h3 ca .char ((cs.set 6 d9).map Value.int) := by rw [nar_ch r1] at A3; rw [List.map_set]; exact A3
    exact EndsW.pre (g1.trans (g2.trans g3)) (c2.trans c3) (fill_7 hw sf K hret O0 M3 i0 i1 i2 hn C2 (by rw [List.length_set]; exact hl) (ok_set hok r1 r2) ha)
  · have g1 : Ld p e below T (mkF m 104 #[.val (.int i0), .val (.long i1), .second, .val (.long i2), .second, .val (.int (Int32.ofNat n)), .val (.ref ca), .unset, .unset, .unset, .unset, .unset, .unset, .unset, .unset, .unset, .unset, .unset, .unset, .unset, .unset] []) T (mkF m 122 #[.val (.int i0), .val (.long i1), .second, .val (.long i2), .second, .val (.int (Int32.ofNat n)), .val (.ref ca), .unset, .unset, .unset, .unset, .unset, .unset, .unset, .unset, .unset, .unset, .unset, .unset, .unset, .unset] []) := goRun K (N.nar) #[] [(104, .iload 5, 2), (106, .bipush 6, 2), (108, .if_icmp .le 14, 3)] [.ref 0] (P := (¬ (6 : Int32) < (Int32.ofNat n)) ∧ True) (by decide +kernel) rfl ⟨(fun z => q ((n_lt (i := 6) (by omega) (by omega)).mp z)), trivial⟩
    exact EndsW.pre (g1) (CHr.refl N.ch) (fill_7 hw sf K hret O0 N i0 i1 i2 hn C hl hok ha)
set_option maxHeartbeats 4000000 in
theorem fill_5 (hw : ∀ d ∈ tables_1, d.before a0 Z = true) {z : Int32} {fm : Value} (sf : SF Z z fm) (K : Cx Z "com/example/covenantry/covenantry/FigurePlacesColumnPinLaw" code maxLocals p m c) (hret : meth.sig.returnType = ret) (O0 : Old Z n0 s.heap) (N : NwW Z consts_1 n0 h p l e room_1 s m args below meth c T 1 13) (i0 : Int32) (i1 i2 : Int64) {n : Nat} (hn : n ≤ 13) {ca : Addr} {cs : List Int32} (C : Av Z h ca .char (cs.map Value.int)) (hl : cs.length = n) (hok : ∀ c ∈ cs, Ch c ∧ c.toInt ≤ 255) (ha : n0 ≤ ca) :
    EndsW Z consts_1 n0 h p l e room_1 s m args below meth c T (mkF m 89 #[.val (.int i0), .val (.long i1), .second, .val (.long i2), .second, .val (.int (Int32.ofNat n)), .val (.ref ca), .unset, .unset, .unset, .unset, .unset, .unset, .unset, .unset, .unset, .unset, .unset, .unset, .unset, .unset] []) := by
  have ew := ew0 hw
  by_cases q : 5 < n
  · have g1 : Ld p e below T (mkF m 89 #[.val (.int i0), .val (.long i1), .second, .val (.long i2), .second, .val (.int (Int32.ofNat n)), .val (.ref ca), .unset, .unset, .unset, .unset, .unset, .unset, .unset, .unset, .unset, .unset, .unset, .unset, .unset, .unset] []) T (mkF m 100 #[.val (.int i0), .val (.long i1), .second, .val (.long i2), .second, .val (.int (Int32.ofNat n)), .val (.ref ca), .unset, .unset, .unset, .unset, .unset, .unset, .unset, .unset, .unset, .unset, .unset, .unset, .unset, .unset] [(.int (5 : Int32)), (.long i1), (.int (5 : Int32)), (.ref ca)]) := goRun K (N.nar) #[] [(89, .iload 5, 2), (91, .iconst 5, 1), (92, .if_icmp .le 12, 3), (95, .aload 6, 2), (97, .iconst 5, 1), (98, .lload_n 1, 1), (99, .iconst 5, 1)] [.null] (P := ((5 : Int32) < (Int32.ofNat n)) ∧ True) (by decide +kernel) rfl ⟨((n_lt (i := 5) (by omega) (by omega)).mpr q), trivial⟩
    obtain ⟨v2, T2, _, N2, ⟨⟨d9, rfl, r1, r2⟩, rfl⟩, g2⟩ := goS K N.nar (tw hw 51 rfl) (tw hw 52 rfl) (tw hw 45 rfl) (tw hw 53 rfl) (con_pk hw i1 (5 : Int32)) (argsL := [(.long i1), (.int (5 : Int32))]) (W := 2) (rest := [(.int (5 : Int32)), (.ref ca)]) (by decide) (by decide) (by decide) (by decide) (by decide) (L := #[.val (.int i0), .val (.long i1), .second, .val (.long i2), .second, .val (.int (Int32.ofNat n)), .val (.ref ca), .unset, .unset, .unset, .unset, .unset, .unset, .unset, .unset, .unset, .unset, .unset, .unset, .unset, .unset]) rfl pd15 rfl (Nat.le_of_eq rfl) (pc := 100) (by decide +kernel)
    obtain ⟨M2, c2⟩ := N.back ew N2 (CHr.refl N.ch)
    obtain ⟨T3, h3, N3, K3, A3, g3⟩ := avStC K M2.nar C (j := (5 : Int32)) (i := 5) (x := d9) rfl (by rw [List.length_map]; omega) ha (pc := 103) (L := #[.val (.int i0), .val (.long i1), .second, .val (.long i2), .second, .val (.int (Int32.ofNat n)), .val (.ref ca), .unset, .unset, .unset, .unset, .unset, .unset, .unset, .unset, .unset, .unset, .unset, .unset, .unset, .unset]) (S := []) (by decide +kernel)
    obtain ⟨M3, c3⟩ := M2.back ew N3 (CHr.keep K3 (sfS (av_safe M2.al C (by decide)) sf0) M2.ch)
    have C2 : Av Z h3 ca .char ((cs.set 5 d9).map Value.int) := by rw [nar_ch r1] at A3; rw [List.map_set]; exact A3
    exact EndsW.pre (g1.trans (g2.trans g3)) (c2.trans c3) (fill_6 hw sf K hret O0 M3 i0 i1 i2 hn C2 (by rw [List.length_set]; exact hl) (ok_set hok r1 r2) ha)
  · have g1 : Ld p e below T (mkF m 89 #[.val (.int i0), .val (.long i1), .second, .val (.long i2), .second, .val (.int (Int32.ofNat n)), .val (.ref ca), .unset, .unset, .unset, .unset, .unset, .unset, .unset, .unset, .unset, .unset, .unset, .unset, .unset, .unset] []) T (mkF m 104 #[.val (.int i0), .val (.long i1), .second, .val (.long i2), .second, .val (.int (Int32.ofNat n)), .val (.ref ca), .unset, .unset, .unset, .unset, .unset, .unset, .unset, .unset, .unset, .unset, .unset, .unset, .unset, .unset] []) := goRun K (N.nar) #[] [(89, .iload 5, 2), (91, .iconst 5, 1), (92, .if_icmp .le 12, 3)] [.ref 0] (P := (¬ (5 : Int32) < (Int32.ofNat n)) ∧ True) (by decide +kernel) rfl ⟨(fun z => q ((n_lt (i := 5) (by omega) (by omega)).mp z)), trivial⟩
    exact EndsW.pre (g1) (CHr.refl N.ch) (fill_6 hw sf K hret O0 N i0 i1 i2 hn C hl hok ha)
set_option maxHeartbeats 4000000 in
theorem fill_4 (hw : ∀ d ∈ tables_1, d.before a0 Z = true) {z : Int32} {fm : Value} (sf : SF Z z fm) (K : Cx Z "com/example/covenantry/covenantry/FigurePlacesColumnPinLaw" code maxLocals p m c) (hret : meth.sig.returnType = ret) (O0 : Old Z n0 s.heap) (N : NwW Z consts_1 n0 h p l e room_1 s m args below meth c T 1 13) (i0 : Int32) (i1 i2 : Int64) {n : Nat} (hn : n ≤ 13) {ca : Addr} {cs : List Int32} (C : Av Z h ca .char (cs.map Value.int)) (hl : cs.length = n) (hok : ∀ c ∈ cs, Ch c ∧ c.toInt ≤ 255) (ha : n0 ≤ ca) :
    EndsW Z consts_1 n0 h p l e room_1 s m args below meth c T (mkF m 74 #[.val (.int i0), .val (.long i1), .second, .val (.long i2), .second, .val (.int (Int32.ofNat n)), .val (.ref ca), .unset, .unset, .unset, .unset, .unset, .unset, .unset, .unset, .unset, .unset, .unset, .unset, .unset, .unset] []) := by
  have ew := ew0 hw
  by_cases q : 4 < n
  · have g1 : Ld p e below T (mkF m 74 #[.val (.int i0), .val (.long i1), .second, .val (.long i2), .second, .val (.int (Int32.ofNat n)), .val (.ref ca), .unset, .unset, .unset, .unset, .unset, .unset, .unset, .unset, .unset, .unset, .unset, .unset, .unset, .unset] []) T (mkF m 85 #[.val (.int i0), .val (.long i1), .second, .val (.long i2), .second, .val (.int (Int32.ofNat n)), .val (.ref ca), .unset, .unset, .unset, .unset, .unset, .unset, .unset, .unset, .unset, .unset, .unset, .unset, .unset, .unset] [(.int (4 : Int32)), (.long i1), (.int (4 : Int32)), (.ref ca)]) := goRun K (N.nar) #[] [(74, .iload 5, 2), (76, .iconst 4, 1), (77, .if_icmp .le 12, 3), (80, .aload 6, 2), (82, .iconst 4, 1), (83, .lload_n 1, 1), (84, .iconst 4, 1)] [.null] (P := ((4 : Int32) < (Int32.ofNat n)) ∧ True) (by decide +kernel) rfl ⟨((n_lt (i := 4) (by omega) (by omega)).mpr q), trivial⟩
    obtain ⟨v2, T2, _, N2, ⟨⟨d9, rfl, r1, r2⟩, rfl⟩, g2⟩ := goS K N.nar (tw hw 51 rfl) (tw hw 52 rfl) (tw hw 45 rfl) (tw hw 53 rfl) (con_pk hw i1 (4 : Int32)) (argsL := [(.long i1), (.int (4 : Int32))]) (W := 2) (rest := [(.int (4 : Int32)), (.ref ca)]) (by decide) (by decide) (by decide) (by decide) (by decide) (L := #[.val (.int i0), .val (.long i1), .second, .val (.long i2), .second, .val (.int (Int32.ofNat n)), .val (.ref ca), .unset, .unset, .unset, .unset, .unset, .unset, .unset, .unset, .unset, .unset, .unset, .unset, .unset, .unset]) rfl pd15 rfl (Nat.le_of_eq rfl) (pc := 85) (by decide +kernel)
    obtain ⟨M2, c2⟩ := N.back ew N2 (CHr.refl N.ch)
    obtain ⟨T3, h3, N3, K3, A3, g3⟩ := avStC K M2.nar C (j := (4 : Int32)) (i := 4) (x := d9) rfl (by rw [List.length_map]; omega) ha (pc := 88) (L := #[.val (.int i0), .val (.long i1), .second, .val (.long i2), .second, .val (.int (Int32.ofNat n)), .val (.ref ca), .unset, .unset, .unset, .unset, .unset, .unset, .unset, .unset, .unset, .unset, .unset, .unset, .unset, .unset]) (S := []) (by decide +kernel)
    obtain ⟨M3, c3⟩ := M2.back ew N3 (CHr.keep K3 (sfS (av_safe M2.al C (by decide)) sf0) M2.ch)
    have C2 : Av Z h3 ca .char ((cs.set 4 d9).map Value.int) := by rw [nar_ch r1] at A3; rw [List.map_set]; exact A3
    exact EndsW.pre (g1.trans (g2.trans g3)) (c2.trans c3) (fill_5 hw sf K hret O0 M3 i0 i1 i2 hn C2 (by rw [List.length_set]; exact hl) (ok_set hok r1 r2) ha)
  · have g1 : Ld p e below T (mkF m 74 #[.val (.int i0), .val (.long i1), .second, .val (.long i2), .second, .val (.int (Int32.ofNat n)), .val (.ref ca), .unset, .unset, .unset, .unset, .unset, .unset, .unset, .unset, .unset, .unset, .unset, .unset, .unset, .unset] []) T (mkF m 89 #[.val (.int i0), .val (.long i1), .second, .val (.long i2), .second, .val (.int (Int32.ofNat n)), .val (.ref ca), .unset, .unset, .unset, .unset, .unset, .unset, .unset, .unset, .unset, .unset, .unset, .unset, .unset, .unset] []) := goRun K (N.nar) #[] [(74, .iload 5, 2), (76, .iconst 4, 1), (77, .if_icmp .le 12, 3)] [.ref 0] (P := (¬ (4 : Int32) < (Int32.ofNat n)) ∧ True) (by decide +kernel) rfl ⟨(fun z => q ((n_lt (i := 4) (by omega) (by omega)).mp z)), trivial⟩
    exact EndsW.pre (g1) (CHr.refl N.ch) (fill_5 hw sf K hret O0 N i0 i1 i2 hn C hl hok ha)
set_option maxHeartbeats 4000000 in
theorem fill_3 (hw : ∀ d ∈ tables_1, d.before a0 Z = true) {z : Int32} {fm : Value} (sf : SF Z z fm) (K : Cx Z "com/example/covenantry/covenantry/FigurePlacesColumnPinLaw" code maxLocals p m c) (hret : meth.sig.returnType = ret) (O0 : Old Z n0 s.heap) (N : NwW Z consts_1 n0 h p l e room_1 s m args below meth c T 1 13) (i0 : Int32) (i1 i2 : Int64) {n : Nat} (hn : n ≤ 13) {ca : Addr} {cs : List Int32} (C : Av Z h ca .char (cs.map Value.int)) (hl : cs.length = n) (hok : ∀ c ∈ cs, Ch c ∧ c.toInt ≤ 255) (ha : n0 ≤ ca) :
    EndsW Z consts_1 n0 h p l e room_1 s m args below meth c T (mkF m 59 #[.val (.int i0), .val (.long i1), .second, .val (.long i2), .second, .val (.int (Int32.ofNat n)), .val (.ref ca), .unset, .unset, .unset, .unset, .unset, .unset, .unset, .unset, .unset, .unset, .unset, .unset, .unset, .unset] []) := by
  have ew := ew0 hw
  by_cases q : 3 < n
  · have g1 : Ld p e below T (mkF m 59 #[.val (.int i0), .val (.long i1), .second, .val (.long i2), .second, .val (.int (Int32.ofNat n)), .val (.ref ca), .unset, .unset, .unset, .unset, .unset, .unset, .unset, .unset, .unset, .unset, .unset, .unset, .unset, .unset] []) T (mkF m 70 #[.val (.int i0), .val (.long i1), .second, .val (.long i2), .second, .val (.int (Int32.ofNat n)), .val (.ref ca), .unset, .unset, .unset, .unset, .unset, .unset, .unset, .unset, .unset, .unset, .unset, .unset, .unset, .unset] [(.int (3 : Int32)), (.long i1), (.int (3 : Int32)), (.ref ca)]) := goRun K (N.nar) #[] [(59, .iload 5, 2), (61, .iconst 3, 1), (62, .if_icmp .le 12, 3), (65, .aload 6, 2), (67, .iconst 3, 1), (68, .lload_n 1, 1), (69, .iconst 3, 1)] [.null] (P := ((3 : Int32) < (Int32.ofNat n)) ∧ True) (by decide +kernel) rfl ⟨((n_lt (i := 3) (by omega) (by omega)).mpr q), trivial⟩
    obtain ⟨v2, T2, _, N2, ⟨⟨d9, rfl, r1, r2⟩, rfl⟩, g2⟩ := goS K N.nar (tw hw 51 rfl) (tw hw 52 rfl) (tw hw 45 rfl) (tw hw 53 rfl) (con_pk hw i1 (3 : Int32)) (argsL := [(.long i1), (.int (3 : Int32))]) (W := 2) (rest := [(.int (3 : Int32)), (.ref ca)]) (by decide) (by decide) (by decide) (by decide) (by decide) (L := #[.val (.int i0), .val (.long i1), .second, .val (.long i2), .second, .val (.int (Int32.ofNat n)), .val (.ref ca), .unset, .unset, .unset, .unset, .unset, .unset, .unset, .unset, .unset, .unset, .unset, .unset, .unset, .unset]) rfl pd15 rfl (Nat.le_of_eq rfl) (pc := 70) (by decide +kernel)
    obtain ⟨M2, c2⟩ := N.back ew N2 (CHr.refl N.ch)
    obtain ⟨T3, h3, N3, K3, A3, g3⟩ := avStC K M2.nar C (j := (3 : Int32)) (i := 3) (x := d9) rfl (by rw [List.length_map]; omega) ha (pc := 73) (L := #[.val (.int i0), .val (.long i1), .second, .val (.long i2), .second, .val (.int (Int32.ofNat n)), .val (.ref ca), .unset, .unset, .unset, .unset, .unset, .unset, .unset, .unset, .unset, .unset, .unset, .unset, .unset, .unset]) (S := []) (by decide +kernel)
    obtain ⟨M3, c3⟩ := M2.back ew N3 (CHr.keep K3 (sfS (av_safe M2.al C (by decide)) sf0) M2.ch)
    have C2 : Av Z h3 ca .char ((cs.set 3 d9).map Value.int) := by rw [nar_ch r1] at A3; rw [List.map_set]; exact A3
    exact EndsW.pre (g1.trans (g2.trans g3)) (c2.trans c3) (fill_4 hw sf K hret O0 M3 i0 i1 i2 hn C2 (by rw [List.length_set]; exact hl) (ok_set hok r1 r2) ha)
  · have g1 : Ld p e below T (mkF m 59 #[.val (.int i0), .val (.long i1), .second, .val (.long i2), .second, .val (.int (Int32.ofNat n)), .val (.ref ca), .unset, .unset, .unset, .unset, .unset, .unset, .unset, .unset, .unset, .unset, .unset, .unset, .unset, .unset] []) T (mkF m 74 #[.val (.int i0), .val (.long i1), .second, .val (.long i2), .second, .val (.int (Int32.ofNat n)), .val (.ref ca), .unset, .unset, .unset, .unset, .unset, .unset, .unset, .unset, .unset, .unset, .unset, .unset, .unset, .unset] []) := goRun K (N.nar) #[] [(59, .iload 5, 2), (61, .iconst 3, 1), (62, .if_icmp .le 12, 3)] [.ref 0] (P := (¬ (3 : Int32) < (Int32.ofNat n)) ∧ True) (by decide +kernel) rfl ⟨(fun z => q ((n_lt (i := 3) (by omega) (by omega)).mp z)), trivial⟩
    exact EndsW.pre (g1) (CHr.refl N.ch) (fill_4 hw sf K hret O0 N i0 i1 i2 hn C hl hok ha)
set_option maxHeartbeats 4000000 in
theorem fill_2 (hw : ∀ d ∈ tables_1, d.before a0 Z = true) {z : Int32} {fm : Value} (sf : SF Z z fm) (K : Cx Z "com/example/covenantry/covenantry/FigurePlacesColumnPinLaw" code maxLocals p m c) (hret : meth.sig.returnType = ret) (O0 : Old Z n0 s.heap) (N : NwW Z consts_1 n0 h p l e room_1 s m args below meth c T 1 13) (i0 : Int32) (i1 i2 : Int64) {n : Nat} (hn : n ≤ 13) {ca : Addr} {cs : List Int32} (C : Av Z h ca .char (cs.map Value.int)) (hl : cs.length = n) (hok : ∀ c ∈ cs, Ch c ∧ c.toInt ≤ 255) (ha : n0 ≤ ca) :
    EndsW Z consts_1 n0 h p l e room_1 s m args below meth c T (mkF m 44 #[.val (.int i0), .val (.long i1), .second, .val (.long i2), .second, .val (.int (Int32.ofNat n)), .val (.ref ca), .unset, .unset, .unset, .unset, .unset, .unset, .unset, .unset, .unset, .unset, .unset, .unset, .unset, .unset] []) := by
  have ew := ew0 hw
  by_cases q : 2 < n
  · have g1 : Ld p e below T (mkF m 44 #[.val (.int i0), .val (.long i1), .second, .val (.long i2), .second, .val (.int (Int32.ofNat n)), .val (.ref ca), .unset, .unset, .unset, .unset, .unset, .unset, .unset, .unset, .unset, .unset, .unset, .unset, .unset, .unset] []) T (mkF m 55 #[.val (.int i0), .val (.long i1), .second, .val (.long i2), .second, .val (.int (Int32.ofNat n)), .val (.ref ca), .unset, .unset, .unset, .unset, .unset, .unset, .unset, .unset, .unset, .unset, .unset, .unset, .unset, .unset] [(.int (2 : Int32)), (.long i1), (.int (2 : Int32)), (.ref ca)]) := goRun K (N.nar) #[] [(44, .iload 5, 2), (46, .iconst 2, 1), (47, .if_icmp .le 12, 3), (50, .aload 6, 2), (52, .iconst 2, 1), (53, .lload_n 1, 1), (54, .iconst 2, 1)] [.null] (P := ((2 : Int32) < (Int32.ofNat n)) ∧ True) (by decide +kernel) rfl ⟨((n_lt (i := 2) (by omega) (by omega)).mpr q), trivial⟩
    obtain ⟨v2, T2, _, N2, ⟨⟨d9, rfl, r1, r2⟩, rfl⟩, g2⟩ := goS K N.nar (tw hw 51 rfl) (tw hw 52 rfl) (tw hw 45 rfl) (tw hw 53 rfl) (con_pk hw i1 (2 : Int32)) (argsL := [(.long i1), (.int (2 : Int32))]) (W := 2) (rest := [(.int (2 : Int32)), (.ref ca)]) (by decide) (by decide) (by decide) (by decide) (by decide) (L := #[.val (.int i0), .val (.long i1), .second, .val (.long i2), .second, .val (.int (Int32.ofNat n)), .val (.ref ca), .unset, .unset, .unset, .unset, .unset, .unset, .unset, .unset, .unset, .unset, .unset, .unset, .unset, .unset]) rfl pd15 rfl (Nat.le_of_eq rfl) (pc := 55) (by decide +kernel)
    obtain ⟨M2, c2⟩ := N.back ew N2 (CHr.refl N.ch)
    obtain ⟨T3, h3, N3, K3, A3, g3⟩ := avStC K M2.nar C (j := (2 : Int32)) (i := 2) (x := d9) rfl (by rw [List.length_map]; omega) ha (pc := 58) (L := #[.val (.int i0), .val (.long i1), .second, .val (.long i2), .second, .val (.int (Int32.ofNat n)), .val (.ref ca), .unset, .unset, .unset, .unset, .unset, .unset, .unset, .unset, .unset, .unset, .unset, .unset, .unset, .unset]) (S := []) (by decide +kernel)
    obtain ⟨M3, c3⟩ := M2.back ew N3 (CHr.keep K3 (sfS (av_safe M2.al C (by decide)) sf0) M2.ch)
    have C2 : Av Z h3 ca .char ((cs.set 2 d9).map Value.int) := by rw [nar_ch r1] at A3; rw [List.map_set]; exact A3
    exact EndsW.pre (g1.trans (g2.trans g3)) (c2.trans c3) (fill_3 hw sf K hret O0 M3 i0 i1 i2 hn C2 (by rw [List.length_set]; exact hl) (ok_set hok r1 r2) ha)
  · have g1 : Ld p e below T (mkF m 44 #[.val (.int i0), .val (.long i1), .second, .val (.long i2), .second, .val (.int (Int32.ofNat n)), .val (.ref ca), .unset, .unset, .unset, .unset, .unset, .unset, .unset, .unset, .unset, .unset, .unset, .unset, .unset, .unset] []) T (mkF m 59 #[.val (.int i0), .val (.long i1), .second, .val (.long i2), .second, .val (.int (Int32.ofNat n)), .val (.ref ca), .unset, .unset, .unset, .unset, .unset, .unset, .unset, .unset, .unset, .unset, .unset, .unset, .unset, .unset] []) := goRun K (N.nar) #[] [(44, .iload 5, 2), (46, .iconst 2, 1), (47, .if_icmp .le 12, 3)] [.ref 0] (P := (¬ (2 : Int32) < (Int32.ofNat n)) ∧ True) (by decide +kernel) rfl ⟨(fun z => q ((n_lt (i := 2) (by omega) (by omega)).mp z)), trivial⟩
    exact EndsW.pre (g1) (CHr.refl N.ch) (fill_3 hw sf K hret O0 N i0 i1 i2 hn C hl hok ha)
set_option maxHeartbeats 4000000 in
theorem fill_1 (hw : ∀ d ∈ tables_1, d.before a0 Z = true) {z : Int32} {fm : Value} (sf : SF Z z fm) (K : Cx Z "com/example/covenantry/covenantry/FigurePlacesColumnPinLaw" code maxLocals p m c) (hret : meth.sig.returnType = ret) (O0 : Old Z n0 s.heap) (N : NwW Z consts_1 n0 h p l e room_1 s m args below meth c T 1 13) (i0 : Int32) (i1 i2 : Int64) {n : Nat} (hn : n ≤ 13) {ca : Addr} {cs : List Int32} (C : Av Z h ca .char (cs.map Value.int)) (hl : cs.length = n) (hok : ∀ c ∈ cs, Ch c ∧ c.toInt ≤ 255) (ha : n0 ≤ ca) :
    EndsW Z consts_1 n0 h p l e room_1 s m args below meth c T (mkF m 29 #[.val (.int i0), .val (.long i1), .second, .val (.long i2), .second, .val (.int (Int32.ofNat n)), .val (.ref ca), .unset, .unset, .unset, .unset, .unset, .unset, .unset, .unset, .unset, .unset, .unset, .unset, .unset, .unset] []) := by
  have ew := ew0 hw
  by_cases q : 1 < n
  · have g1 : Ld p e below T (mkF m 29 #[.val (.int i0), .val (.long i1), .second, .val (.long i2), .second, .val (.int (Int32.ofNat n)), .val (.ref ca), .unset, .unset, .unset, .unset, .unset, .unset, .unset, .unset, .unset, .unset, .unset, .unset, .unset, .unset] []) T (mkF m 40 #[.val (.int i0), .val (.long i1), .second, .val (.long i2), .second, .val (.int (Int32.ofNat n)), .val (.ref ca), .unset, .unset, .unset, .unset, .unset, .unset, .unset, .unset, .unset, .unset, .unset, .unset, .unset, .unset] [(.int (1 : Int32)), (.long i1), (.int (1 : Int32)), (.ref ca)]) := goRun K (N.nar) #[] [(29, .iload 5, 2), (31, .iconst 1, 1), (32, .if_icmp .le 12, 3), (35, .aload 6, 2), (37, .iconst 1, 1), (38, .lload_n 1, 1), (39, .iconst 1, 1)] [.null] (P := ((1 : Int32) < (Int32.ofNat n)) ∧ True) (by decide +kernel) rfl ⟨((n_lt (i := 1) (by omega) (by omega)).mpr q), trivial⟩
    obtain ⟨v2, T2, _, N2, ⟨⟨d9, rfl, r1, r2⟩, rfl⟩, g2⟩ := goS K N.nar (tw hw 51 rfl) (tw hw 52 rfl) (tw hw 45 rfl) (tw hw 53 rfl) (con_pk hw i1 (1 : Int32)) (argsL := [(.long i1), (.int (1 : Int32))]) (W := 2) (rest := [(.int (1 : Int32)), (.ref ca)]) (by decide) (by decide) (by decide) (by decide) (by decide) (L := #[.val (.int i0), .val (.long i1), .second, .val (.long i2), .second, .val (.int (Int32.ofNat n)), .val (.ref ca), .unset, .unset, .unset, .unset, .unset, .unset, .unset, .unset, .unset, .unset, .unset, .unset, .unset, .unset]) rfl pd15 rfl (Nat.le_of_eq rfl) (pc := 40) (by decide +kernel)
    obtain ⟨M2, c2⟩ := N.back ew N2 (CHr.refl N.ch)
    obtain ⟨T3, h3, N3, K3, A3, g3⟩ := avStC K M2.nar C (j := (1 : Int32)) (i := 1) (x := d9) rfl (by rw [List.length_map]; omega) ha (pc := 43) (L := #[.val (.int i0), .val (.long i1), .second, .val (.long i2), .second, .val (.int (Int32.ofNat n)), .val (.ref ca), .unset, .unset, .unset, .unset, .unset, .unset, .unset, .unset, .unset, .unset, .unset, .unset, .unset, .unset]) (S := []) (by decide +kernel)
    obtain ⟨M3, c3⟩ := M2.back ew N3 (CHr.keep K3 (sfS (av_safe M2.al C (by decide)) sf0) M2.ch)
    have C2 : Av Z h3 ca .char ((cs.set 1 d9).map Value.int) := by rw [nar_ch r1] at A3; rw [List.map_set]; exact A3
    exact EndsW.pre (g1.trans (g2.trans g3)) (c2.trans c3) (fill_2 hw sf K hret O0 M3 i0 i1 i2 hn C2 (by rw [List.length_set]; exact hl) (ok_set hok r1 r2) ha)
  · have g1 : Ld p e below T (mkF m 29 #[.val (.int i0), .val (.long i1), .second, .val (.long i2), .second, .val (.int (Int32.ofNat n)), .val (.ref ca), .unset, .unset, .unset, .unset, .unset, .unset, .unset, .unset, .unset, .unset, .unset, .unset, .unset, .unset] []) T (mkF m 44 #[.val (.int i0), .val (.long i1), .second, .val (.long i2), .second, .val (.int (Int32.ofNat n)), .val (.ref ca), .unset, .unset, .unset, .unset, .unset, .unset, .unset, .unset, .unset, .unset, .unset, .unset, .unset, .unset] []) := goRun K (N.nar) #[] [(29, .iload 5, 2), (31, .iconst 1, 1), (32, .if_icmp .le 12, 3)] [.ref 0] (P := (¬ (1 : Int32) < (Int32.ofNat n)) ∧ True) (by decide +kernel) rfl ⟨(fun z => q ((n_lt (i := 1) (by omega) (by omega)).mp z)), trivial⟩
    exact EndsW.pre (g1) (CHr.refl N.ch) (fill_2 hw sf K hret O0 N i0 i1 i2 hn C hl hok ha)
set_option maxHeartbeats 4000000 in
theorem fill_0 (hw : ∀ d ∈ tables_1, d.before a0 Z = true) {z : Int32} {fm : Value} (sf : SF Z z fm) (K : Cx Z "com/example/covenantry/covenantry/FigurePlacesColumnPinLaw" code maxLocals p m c) (hret : meth.sig.returnType = ret) (O0 : Old Z n0 s.heap) (N : NwW Z consts_1 n0 h p l e room_1 s m args below meth c T 1 13) (i0 : Int32) (i1 i2 : Int64) {n : Nat} (hn : n ≤ 13) {ca : Addr} {cs : List Int32} (C : Av Z h ca .char (cs.map Value.int)) (hl : cs.length = n) (hok : ∀ c ∈ cs, Ch c ∧ c.toInt ≤ 255) (ha : n0 ≤ ca) :
    EndsW Z consts_1 n0 h p l e room_1 s m args below meth c T (mkF m 15 #[.val (.int i0), .val (.long i1), .second, .val (.long i2), .second, .val (.int (Int32.ofNat n)), .val (.ref ca), .unset, .unset, .unset, .unset, .unset, .unset, .unset, .unset, .unset, .unset, .unset, .unset, .unset, .unset] []) := by
  have ew := ew0 hw
  by_cases q : 0 < n
  · have g1 : Ld p e below T (mkF m 15 #[.val (.int i0), .val (.long i1), .second, .val (.long i2), .second, .val (.int (Int32.ofNat n)), .val (.ref ca), .unset, .unset, .unset, .unset, .unset, .unset, .unset, .unset, .unset, .unset, .unset, .unset, .unset, .unset] []) T (mkF m 25 #[.val (.int i0), .val (.long i1), .second, .val (.long i2), .second, .val (.int (Int32.ofNat n)), .val (.ref ca), .unset, .unset, .unset, .unset, .unset, .unset, .unset, .unset, .unset, .unset, .unset, .unset, .unset, .unset] [(.int (0 : Int32)), (.long i1), (.int (0 : Int32)), (.ref ca)]) := goRun K (N.nar) #[] [(15, .iload 5, 2), (17, .ifCond .le 12, 3), (20, .aload 6, 2), (22, .iconst 0, 1), (23, .lload_n 1, 1), (24, .iconst 0, 1)] [.null] (P := ((0 : Int32) < (Int32.ofNat n)) ∧ True) (by decide +kernel) rfl ⟨((n_lt (i := 0) (by omega) (by omega)).mpr q), trivial⟩
    obtain ⟨v2, T2, _, N2, ⟨⟨d9, rfl, r1, r2⟩, rfl⟩, g2⟩ := goS K N.nar (tw hw 51 rfl) (tw hw 52 rfl) (tw hw 45 rfl) (tw hw 53 rfl) (con_pk hw i1 (0 : Int32)) (argsL := [(.long i1), (.int (0 : Int32))]) (W := 2) (rest := [(.int (0 : Int32)), (.ref ca)]) (by decide) (by decide) (by decide) (by decide) (by decide) (L := #[.val (.int i0), .val (.long i1), .second, .val (.long i2), .second, .val (.int (Int32.ofNat n)), .val (.ref ca), .unset, .unset, .unset, .unset, .unset, .unset, .unset, .unset, .unset, .unset, .unset, .unset, .unset, .unset]) rfl pd15 rfl (Nat.le_of_eq rfl) (pc := 25) (by decide +kernel)
    obtain ⟨M2, c2⟩ := N.back ew N2 (CHr.refl N.ch)
    obtain ⟨T3, h3, N3, K3, A3, g3⟩ := avStC K M2.nar C (j := (0 : Int32)) (i := 0) (x := d9) rfl (by rw [List.length_map]; omega) ha (pc := 28) (L := #[.val (.int i0), .val (.long i1), .second, .val (.long i2), .second, .val (.int (Int32.ofNat n)), .val (.ref ca), .unset, .unset, .unset, .unset, .unset, .unset, .unset, .unset, .unset, .unset, .unset, .unset, .unset, .unset]) (S := []) (by decide +kernel)
    obtain ⟨M3, c3⟩ := M2.back ew N3 (CHr.keep K3 (sfS (av_safe M2.al C (by decide)) sf0) M2.ch)
    have C2 : Av Z h3 ca .char ((cs.set 0 d9).map Value.int) := by rw [nar_ch r1] at A3; rw [List.map_set]; exact A3
    exact EndsW.pre (g1.trans (g2.trans g3)) (c2.trans c3) (fill_1 hw sf K hret O0 M3 i0 i1 i2 hn C2 (by rw [List.length_set]; exact hl) (ok_set hok r1 r2) ha)
  · have g1 : Ld p e below T (mkF m 15 #[.val (.int i0), .val (.long i1), .second, .val (.long i2), .second, .val (.int (Int32.ofNat n)), .val (.ref ca), .unset, .unset, .unset, .unset, .unset, .unset, .unset, .unset, .unset, .unset, .unset, .unset, .unset, .unset] []) T (mkF m 29 #[.val (.int i0), .val (.long i1), .second, .val (.long i2), .second, .val (.int (Int32.ofNat n)), .val (.ref ca), .unset, .unset, .unset, .unset, .unset, .unset, .unset, .unset, .unset, .unset, .unset, .unset, .unset, .unset] []) := goRun K (N.nar) #[] [(15, .iload 5, 2), (17, .ifCond .le 12, 3)] [.ref 0] (P := (¬ (0 : Int32) < (Int32.ofNat n)) ∧ True) (by decide +kernel) rfl ⟨(fun z => q ((n_lt (i := 0) (by omega) (by omega)).mp z)), trivial⟩
    exact EndsW.pre (g1) (CHr.refl N.ch) (fill_1 hw sf K hret O0 N i0 i1 i2 hn C hl hok ha)
set_option maxHeartbeats 4000000 in
theorem con_law (hw : ∀ d ∈ tables_1, d.before a0 Z = true) {z : Int32} {fm : Value} (sf : SF Z z fm) (i0 : Int32) (i1 i2 : Int64) (O : Old Z n0 h) (ws : List Jvm.Cond) : ConW l Z consts_1 n0 x code maxLocals ret ws room_1 #[.int i0, .long i1, .long i2] h [] (fun v _ => v = some (.int 1)) := by
  have ew := ew0 hw
  refine ConW.of pn5 (L0 := #[.val (.int i0), .val (.long i1), .second, .val (.long i2), .second, .unset, .unset, .unset, .unset, .unset, .unset, .unset, .unset, .unset, .unset, .unset, .unset, .unset, .unset, .unset, .unset]) (fun m => by first | (simp [entryFrame, mkF, argsToLocals, Value.category, maxLocals]; done) | rfl) ?_
  intro p e s m below meth c T K hret hnm N hsf hs
  have K : Cx Z "com/example/covenantry/covenantry/FigurePlacesColumnPinLaw" code maxLocals p m c := K
  have O0 : Old Z n0 s.heap := by rw [hs]; exact O
  have fin : EndsW Z consts_1 n0 h p l e room_1 s m #[.int i0, .long i1, .long i2] below meth c T (mkF m 0 #[.val (.int i0), .val (.long i1), .second, .val (.long i2), .second, .unset, .unset, .unset, .unset, .unset, .unset, .unset, .unset, .unset, .unset, .unset, .unset, .unset, .unset, .unset, .unset] []) := by
    obtain ⟨n, hn, en⟩ := n_rem (mask_nn i0) (k := 14) (by decide) (by decide)
    have en : (i0 &&& (2147483647 : Int32)) % (14 : Int32) = Int32.ofNat n := en
    have g1 : Ld p e below T (mkF m 0 #[.val (.int i0), .val (.long i1), .second, .val (.long i2), .second, .unset, .unset, .unset, .unset, .unset, .unset, .unset, .unset, .unset, .unset, .unset, .unset, .unset, .unset, .unset, .unset] []) T (mkF m 11 #[.val (.int i0), .val (.long i1), .second, .val (.long i2), .second, .val (.int ((i0 &&& (2147483647 : Int32)) % (14 : Int32))), .unset, .unset, .unset, .unset, .unset, .unset, .unset, .unset, .unset, .unset, .unset, .unset, .unset, .unset, .unset] [(.int ((i0 &&& (2147483647 : Int32)) % (14 : Int32)))]) := goRun K (N.nar) a0 [(0, .iload_n 0, 1), (1, .ldc 15, 2), (3, .iand, 1), (4, .bipush 14, 2), (6, .irem, 1), (7, .istore 5, 2), (9, .iload 5, 2)] [.int (2147483647 : Int32)] (P := ((Jvm.Cond.constant "com/example/covenantry/covenantry/FigurePlacesColumnPinLaw" 15 (2147483647 : Int32)).before a0 Z = true) ∧ ((14 : Int32) ≠ 0) ∧ True) (by decide +kernel) rfl ⟨(tw hw 0 rfl), (by decide), trivial⟩
    rw [en] at g1
    have hn5 : (Int32.ofNat n).toInt = (n : Int) := n_ti (by omega)
    obtain ⟨T2, h2, a2, cA2, ea2, N2, E2, A2, g2⟩ := goNewP K N.nar (aty := .char) (tw hw 1 rfl) (n := Int32.ofNat n) (not_neg_of hn5) (cap := 13) (by rw [clamp_of hn5]; omega) (by decide) (by decide) (by decide) (pc := 11) (L := #[.val (.int i0), .val (.long i1), .second, .val (.long i2), .second, .val (.int (Int32.ofNat n)), .unset, .unset, .unset, .unset, .unset, .unset, .unset, .unset, .unset, .unset, .unset, .unset, .unset, .unset, .unset]) (S := []) (by decide +kernel)
    have A2 := Av.new A2 (not_neg_of hn5) hn5
    have ha2 : n0 ≤ a2 := ea2 ▸ N.nar.size
    obtain ⟨⟨M2, c2⟩, sN2⟩ := N.backE ew N2 E2
    have C2 : Av Z h2 a2 .char ((List.replicate n (0 : Int32)).map Value.int) := by rw [List.map_replicate]; exact A2
    have g3 : Ld p e below T2 (mkF m 13 #[.val (.int i0), .val (.long i1), .second, .val (.long i2), .second, .val (.int (Int32.ofNat n)), .unset, .unset, .unset, .unset, .unset, .unset, .unset, .unset, .unset, .unset, .unset, .unset, .unset, .unset, .unset] [(.ref a2)]) T2 (mkF m 15 #[.val (.int i0), .val (.long i1), .second, .val (.long i2), .second, .val (.int (Int32.ofNat n)), .val (.ref a2), .unset, .unset, .unset, .unset, .unset, .unset, .unset, .unset, .unset, .unset, .unset, .unset, .unset, .unset] []) := goRun K (M2.nar) #[] [(13, .astore 6, 2)] [] (P := True) (by decide +kernel) rfl trivial
    exact EndsW.pre (g1.trans (g2.trans g3)) (c2) (fill_0 hw sf K hret O0 M2 i0 i1 i2 (by omega) C2 List.length_replicate (fun c hc => by rw [List.eq_of_mem_replicate hc]; exact ⟨by constructor <;> decide, by decide⟩) ha2)
  obtain ⟨T', g', h', k, n, a1, a2, a3, a4, a5, a6⟩ := fin
  exact ⟨_, T', g', h', k, n, a1, a2, a3, fun q => (nomatch q), rfl, a4, a5, a6⟩
theorem own_int {args : Array Value} {first s : State} {o : Option Outcome} {idx : List Nat} {t : Term} {k : Int32} (h : (Jvm.Cond.eq t (.int k)).value args first o s idx = some true) : t.eval args first o idx s = some (.int k) := by
  simp only [Cond.value, Term.eval] at h
  cases ht : t.eval args first o idx s with
  | none => simp [ht] at h
  | some x => cases x <;> simp [ht] at h ⊢; exact h
set_option maxRecDepth 65536 in
set_option maxHeartbeats 4000000 in
theorem comes_1 {Post : Tables → Env → Array Value → State → Outcome → State → Prop} (hpost : ∀ tb e args s v u, (limb_1_1.after args s (.returned v) u = true ∧ limb_1_2.after args s (.returned v) u = true ∧ True) → FramedW s (.returned v) u (Jvm.fieldLocs frame_1_writes args s ++ Jvm.arrayLocs frame_1_arrays args s ++ Jvm.staticLocs frame_1_statics s) 16 1152 → Post tb e args s (.returned v) u) :
    ArmFor flags0 classFile x code maxLocals ret World_1 tables_1 room_1 Calls_1 rest_1 Pre_1 Post := by
  intro l hfl _ _ p e ha hc hk s m args below hf hA hF happ hP
  obtain ⟨hcalls, hrest, hpre⟩ := hP
  obtain ⟨-, -, -, hnamed, -, -, -, hat⟩ := (Spec.applies_iff hf).mp happ
  obtain ⟨hg, hn⟩ := and_e (Cond.before_iff.mp (show (Jvm.Cond.and given_1 narrow_1).before args s = true from hpre))
  obtain ⟨hcnt, u0⟩ := and_e hg
  obtain ⟨k0, u1⟩ := and_e u0
  obtain ⟨k1, u2⟩ := and_e u1
  have k2 := u2
  obtain ⟨w0, w1, w2, rfl⟩ : ∃ w0 w1 w2 : Value, args = #[w0, w1, w2] := by
    have hs : args.size = 3 := by simpa [Cond.value, given_1] using hcnt
    obtain ⟨L⟩ := args
    match L, hs with
    | [w0, w1, w2], _ => exact ⟨w0, w1, w2, rfl⟩
  have hw := fun d (hd : d ∈ tables_1) => atoms_spec (ws := Jvm.Cond.code x code maxLocals ret :: tables_1) hat d (List.mem_cons_of_mem _ hd)
  obtain ⟨i0, ei0⟩ := is_v k0
  obtain rfl : w0 = (.int i0) := Option.some.inj ei0
  obtain ⟨i1, ei1⟩ := isL_v k1
  obtain rfl : w1 = (.long i1) := Option.some.inj ei1
  obtain ⟨i2, ei2⟩ := isL_v k2
  obtain rfl : w2 = (.long i2) := Option.some.inj ei2
  obtain ⟨hsets, hown0⟩ := atoms_of _ (rest_1_c_eq ▸ (show rest_1_c.before _ s = true from hrest))
  have nz := not_v (Cond.before_iff.mp (hsets _ (List.mem_of_getElem? (i := 2) rfl)))
  obtain ⟨z, ez⟩ := is_v (Cond.before_iff.mp (hsets _ (List.mem_of_getElem? (i := 1) rfl)))
  have S1 : Sta s s.heap "java/lang/String" "COMPACT_STRINGS" "Z" (.int z) := Sta.start ez (Or.inl (hsets _ (List.mem_of_getElem? (i := 0) rfl)))
  have S2 : ¬ (z = (0 : Int32)) := gotF (Cond.eq_ints ez (Term.int_eval (0))) nz
  obtain ⟨fm, efm, rfm⟩ := isR_v (Cond.before_iff.mp (hsets _ (List.mem_of_getElem? (i := 8) rfl)))
  have S3 : Sta s s.heap "jdk/internal/util/Preconditions" "SIOOBE_FORMATTER" "Ljava/util/function/BiFunction;" fm := Sta.start efm (Or.inl (hsets _ (List.mem_of_getElem? (i := 7) rfl)))
  have sf : SF s z fm := ⟨S1, S2, S3, rfm⟩
  have hcw : Jvm.Lit.compactW.before #[.int i0, .long i1, .long i2] s = true := hsets _ (List.mem_of_getElem? (i := 2) rfl)
  have hCH : CHv s consts_1 s.vm s.heap := CHv.start (ew0 hw) (fun p hp => hcalls.1 p hp) hcw (tw hw 16 rfl) (tw hw 3 rfl)
  obtain ⟨n, o, h1, h2, h3, _, L, rfl, ⟨_, N, rfl⟩, -, hq⟩ := (con_law (l := l) (Z := s) (n0 := s.heap.size) (h := s.heap) hw sf i0 i1 i2 (Old.start s) tables_1) (Nat.le_refl _) p e ha hc hk s m _ below hf ((Spec.applies_iff_loose hf).mp happ).1 ⟨rfl, State.Warmed39.refl s, rfl, hCH, fun _ hx => (nomatch hx)⟩ trivial
  refine ⟨n, _, h1, h2, h3, hpost _ _ _ _ _ _ ⟨Cond.after_iff.mpr rfl, Cond.after_iff.mpr (eq_i res_at (Term.int_eval (1)) rfl), trivial⟩ ⟨hq.1, hq.2.1, hq.2.2.1, (hq.2.2.2.sift fun y hy => Or.inr (N y hy)).mono (by decide) (by decide)⟩⟩
theorem main_1_1 : Claimed_1_1 := comes_1 fun _ _ _ _ _ _ h hF => ⟨h.1, hF⟩
theorem main_1_2 : Claimed_1_2 := comes_1 fun _ _ _ _ _ _ h hF => ⟨h.2.1, hF⟩
end Jvm.Pilot.@@N@@
namespace Jvm.Pilot.@@N@@
open Jvm Jvm.ClassFile Sem Op Lib Jvm.Free Jvm.Stand Jvm.Pilot.@@N@@.Jvm.D
/-! MADE BY PROGRAM (witnessworld.py) out of the Statement's table words and the real class files: 22 classes; the members and pool entries that the words name. The judged class is class 1, her method 6. -/
namespace start1
open Jvm.ClassFile
def u (s : String) : CpInfo := .utf8 (stringToUtf16 s)
/-- a pool by its gaps: so many unusable entries, then the entry; so many at the end -/
def gap : Nat → List CpInfo → List CpInfo
  | 0, r => r
  | n + 1, r => .unusable :: gap n r
def poolList (es : List (Nat × CpInfo)) (last : Nat) : List CpInfo := es.foldr (fun e r => gap e.1 (e.2 :: r)) (gap last [])
def pool (es : List (Nat × CpInfo)) (last : Nat) : Array CpInfo := ⟨poolList es last⟩
def fileOf (pool : Array CpInfo) (this : Nat) (attrs : Array Attribute := #[]) (ms : Array MethodInfo := #[]) (fl : Nat := 33) (sup : Nat := 0) (ifs : Array Nat := #[]) (fds : Array FieldInfo := #[]) : ClassFile where
  minorVersion := 0
  majorVersion := 65
  constantPool := pool
  accessFlags := fl
  thisClass := this
  superClass := sup
  interfaces := ifs
  fields := fds
  methods := ms
  attributes := attrs
def plain (name : String) (sup : Option ClassId) : Class where
  name := name
  kind := .ordinary
  loader := none
  accessFlags := 33
  super := sup
  interfaces := #[]
  cf := none
  fields := #[]
  methods := #[]
  instanceTypes := #[]
  staticTypes := #[]
  resolved := #[]
  callSites := []
  init := .initialized
  statics := none
  mirror := none

def pool0 : Array CpInfo := pool [(5, u "<init>"), (0, u "()V"), (1, .class_ 10), (1, u "java/lang/Object")] 113

def k0c0 : Code := { maxStack := 0, maxLocals := 1, code := object_method_1_code, exceptionTable := #[], attributes := #[] }
def k0m0 : Method := { name := "<init>", desc := "()V", sig := { parameters := [], returnType := none }, accessFlags := 1, code := some k0c0 }
/-- java/lang/Object -/
def k0 : Class := { plain "java/lang/Object" none with
  accessFlags := 33
  interfaces := #[]
  cf := some (fileOf pool0 8 #[] #[{ accessFlags := 1, nameIndex := 5, descriptorIndex := 6, attributes := #[] }] 33 0 #[] #[])
  fields := #[]
  methods := #[k0m0]
  instanceTypes := #[]
  staticTypes := #[]
  resolved := Array.replicate 124 none
  statics := none }

def pool1 : Array CpInfo := pool [(2, .class_ 4), (1, u "java/lang/Object"), (0, u "<init>"), (0, u "()V"), (0, .long 511), (1, .methodref 10 11), (0, .class_ 12), (0, .nameAndType 13 14), (0, u "com/example/covenantry/covenantry/FigurePlacesColumnPinLaw"), (0, u "digit"), (0, u "(C)Z"), (0, .integer 2147483647), (0, .methodref 10 17), (0, .nameAndType 18 19), (0, u "pick"), (0, u "(JI)C"), (0, .class_ 21), (0, u "java/lang/String"), (0, .methodref 20 23), (0, .nameAndType 5 24), (0, u "([C)V"), (0, .methodref 26 27), (0, .class_ 28), (0, .nameAndType 29 30), (0, u "com/example/covenantry/covenantry/FigurePlaces"), (0, u "column"), (0, u "(Ljava/lang/String;)J"), (0, .methodref 10 32), (0, .nameAndType 33 14), (0, u "upper"), (0, .methodref 10 35), (0, .nameAndType 36 37), (0, u "bad"), (0, u "([CIII)Z"), (0, .methodref 10 39), (0, .nameAndType 40 37), (0, u "nonzero"), (0, .long 18446744073709551615), (1, .long 26), (1, .long 702), (1, .long 676), (4, u "law"), (0, u "(IJJ)Z")] 4

def k1m0 : Method := { name := "<init>", desc := "()V", sig := { parameters := [], returnType := none }, accessFlags := 1, code := none }
def k1c1 : Code := { maxStack := 4, maxLocals := 5, code := method_2_code, exceptionTable := #[], attributes := #[] }
def k1m1 : Method := { name := "pick", desc := "(JI)C", sig := { parameters := [.long, .int], returnType := some .char }, accessFlags := 10, code := some k1c1 }
def k1c2 : Code := { maxStack := 2, maxLocals := 1, code := method_3_code, exceptionTable := #[], attributes := #[] }
def k1m2 : Method := { name := "upper", desc := "(C)Z", sig := { parameters := [.char], returnType := some .boolean }, accessFlags := 10, code := some k1c2 }
def k1c3 : Code := { maxStack := 2, maxLocals := 1, code := method_4_code, exceptionTable := #[], attributes := #[] }
def k1m3 : Method := { name := "digit", desc := "(C)Z", sig := { parameters := [.char], returnType := some .boolean }, accessFlags := 10, code := some k1c3 }
def k1c4 : Code := { maxStack := 2, maxLocals := 4, code := method_5_code, exceptionTable := #[], attributes := #[] }
def k1m4 : Method := { name := "bad", desc := "([CIII)Z", sig := { parameters := [(.array .char), .int, .int, .int], returnType := some .boolean }, accessFlags := 10, code := some k1c4 }
def k1c5 : Code := { maxStack := 2, maxLocals := 4, code := method_6_code, exceptionTable := #[], attributes := #[] }
def k1m5 : Method := { name := "nonzero", desc := "([CIII)Z", sig := { parameters := [(.array .char), .int, .int, .int], returnType := some .boolean }, accessFlags := 10, code := some k1c5 }
def k1c6 : Code := { maxStack := 6, maxLocals := 21, code := code, exceptionTable := #[], attributes := #[] }
def k1m6 : Method := { name := "law", desc := "(IJJ)Z", sig := { parameters := [.int, .long, .long], returnType := some .boolean }, accessFlags := 9, code := some k1c6 }
/-- com/example/covenantry/covenantry/FigurePlacesColumnPinLaw -/
def k1 : Class := { plain "com/example/covenantry/covenantry/FigurePlacesColumnPinLaw" (some 0) with
  accessFlags := 49
  interfaces := #[]
  cf := some (fileOf pool1 10 #[] #[{ accessFlags := 1, nameIndex := 5, descriptorIndex := 6, attributes := #[] }, { accessFlags := 10, nameIndex := 18, descriptorIndex := 19, attributes := #[] }, { accessFlags := 10, nameIndex := 33, descriptorIndex := 14, attributes := #[] }, { accessFlags := 10, nameIndex := 13, descriptorIndex := 14, attributes := #[] }, { accessFlags := 10, nameIndex := 36, descriptorIndex := 37, attributes := #[] }, { accessFlags := 10, nameIndex := 40, descriptorIndex := 37, attributes := #[] }, { accessFlags := 9, nameIndex := 52, descriptorIndex := 53, attributes := #[] }] 49 2 #[] #[])
  fields := #[]
  methods := #[k1m0, k1m1, k1m2, k1m3, k1m4, k1m5, k1m6]
  instanceTypes := #[]
  staticTypes := #[]
  resolved := Array.replicate 58 none
  statics := none }

def pool2 : Array CpInfo := pool [(1, .class_ 2), (0, u "java/io/Serializable"), (0, .class_ 4), (0, u "java/lang/Object")] 2

/-- java/io/Serializable -/
def k2 : Class := { plain "java/io/Serializable" (some 0) with
  accessFlags := 1537
  interfaces := #[]
  cf := some (fileOf pool2 1 #[] #[] 1537 3 #[] #[])
  fields := #[]
  methods := #[]
  instanceTypes := #[]
  staticTypes := #[]
  resolved := Array.replicate 7 none
  statics := none }

def pool3 : Array CpInfo := pool [(1, .class_ 2), (0, u "java/lang/Comparable"), (0, .class_ 4), (0, u "java/lang/Object")] 7

/-- java/lang/Comparable -/
def k3 : Class := { plain "java/lang/Comparable" (some 0) with
  accessFlags := 1537
  interfaces := #[]
  cf := some (fileOf pool3 1 #[] #[] 1537 3 #[] #[])
  fields := #[]
  methods := #[]
  instanceTypes := #[]
  staticTypes := #[]
  resolved := Array.replicate 12 none
  statics := none }

def pool4 : Array CpInfo := pool [(2, .class_ 4), (1, u "java/lang/CharSequence"), (42, .class_ 48), (0, u "java/lang/CharSequence$1CodePointIterator"), (10, .class_ 60), (0, u "java/lang/CharSequence$1CharIterator"), (5, .class_ 67), (0, u "java/lang/Object")] 63

/-- java/lang/CharSequence -/
def k4 : Class := { plain "java/lang/CharSequence" (some 0) with
  accessFlags := 1537
  interfaces := #[]
  cf := some (fileOf pool4 2 #[.nestMembers #[47, 59]] #[] 1537 66 #[] #[])
  fields := #[]
  methods := #[]
  instanceTypes := #[]
  staticTypes := #[]
  resolved := Array.replicate 131 none
  statics := none }

def pool5 : Array CpInfo := pool [(1, .class_ 2), (0, u "java/lang/constant/Constable"), (0, .class_ 4), (0, u "java/lang/Object")] 6

/-- java/lang/constant/Constable -/
def k5 : Class := { plain "java/lang/constant/Constable" (some 0) with
  accessFlags := 1537
  interfaces := #[]
  cf := some (fileOf pool5 1 #[] #[] 1537 3 #[] #[])
  fields := #[]
  methods := #[]
  instanceTypes := #[]
  staticTypes := #[]
  resolved := Array.replicate 11 none
  statics := none }

def pool6 : Array CpInfo := pool [(1, .class_ 2), (0, u "java/lang/constant/ConstantDesc"), (0, .class_ 4), (0, u "java/lang/Object")] 32

/-- java/lang/constant/ConstantDesc -/
def k6 : Class := { plain "java/lang/constant/ConstantDesc" (some 0) with
  accessFlags := 1537
  interfaces := #[]
  cf := some (fileOf pool6 1 #[] #[] 1537 3 #[] #[])
  fields := #[]
  methods := #[]
  instanceTypes := #[]
  staticTypes := #[]
  resolved := Array.replicate 37 none
  statics := none }

def pool7 : Array CpInfo := pool [(1, .methodref 2 3), (0, .class_ 4), (0, .nameAndType 5 6), (0, u "java/lang/Object"), (0, u "<init>"), (0, u "()V"), (0, .string 8), (0, u ""), (0, .fieldref 10 11), (0, .class_ 12), (0, .nameAndType 13 14), (0, u "java/lang/String"), (0, u "value"), (0, u "[B"), (0, .fieldref 10 16), (0, .nameAndType 17 18), (0, u "coder"), (0, u "B"), (2, u "hash"), (0, u "I"), (2, u "hashIsZero"), (0, u "Z"), (0, .methodref 10 28), (0, .nameAndType 5 29), (0, u "([CIILjava/lang/Void;)V"), (8, .fieldref 10 39), (0, .nameAndType 40 26), (0, u "COMPACT_STRINGS"), (1, .class_ 44), (1, u "java/lang/StringUTF16"), (0, u "compress"), (1, .methodref 42 48), (0, .nameAndType 49 50), (0, u "coderFromArrayLen"), (0, u "([BI)B"), (56, .class_ 109), (1, u "java/lang/StringLatin1"), (32, u "()Z"), (34, .methodref 42 178), (0, .nameAndType 45 179), (0, u "([CII)[B"), (154, u "()I"), (0, .methodref 10 336), (0, .nameAndType 17 337), (0, u "()B"), (25, u "([BI)C"), (27, u "(II)V"), (35, u "(I)C"), (64, .methodref 10 493), (0, .nameAndType 494 142), (0, u "isLatin1"), (0, .methodref 107 496), (0, .nameAndType 497 363), (0, u "charAt"), (3, u "checkIndex"), (5, u "length"), (67, .class_ 576), (0, u "java/lang/CharSequence"), (22, u "CASE_INSENSITIVE_ORDER"), (0, u "Ljava/util/Comparator;"), (409, u "([C)V"), (42, .fieldref 1054 1055), (0, .class_ 1056), (0, .nameAndType 1057 1058), (0, u "jdk/internal/util/Preconditions"), (0, u "SIOOBE_FORMATTER"), (0, u "Ljava/util/function/BiFunction;"), (0, .methodref 1054 1060), (0, .nameAndType 501 1061), (0, u "(IILjava/util/function/BiFunction;)I"), (39, u "serialPersistentFields"), (0, u "[Ljava/io/ObjectStreamField;"), (0, .class_ 1104), (0, u "java/lang/String$CaseInsensitiveComparator"), (1, .class_ 1107), (0, u "java/io/Serializable"), (0, .class_ 1109), (0, u "java/lang/Comparable"), (0, .class_ 1111), (0, u "java/lang/constant/Constable"), (0, .class_ 1113), (0, u "java/lang/constant/ConstantDesc"), (2, u "serialVersionUID"), (0, u "J"), (3, u "REPL"), (0, u "C"), (2, u "LATIN1"), (1, u "UTF16")] 323

def k7m0 : Method := { name := "<init>", desc := "()V", sig := { parameters := [], returnType := none }, accessFlags := 1, code := none }
def k7c1 : Code := { maxStack := 5, maxLocals := 2, code := jdk_42_method_3_code, exceptionTable := #[], attributes := #[] }
def k7m1 : Method := { name := "<init>", desc := "([C)V", sig := { parameters := [(.array .char)], returnType := none }, accessFlags := 1, code := some k7c1 }
def k7c2 : Code := { maxStack := 2, maxLocals := 1, code := jdk_42_method_54_code, exceptionTable := #[], attributes := #[] }
def k7m2 : Method := { name := "length", desc := "()I", sig := { parameters := [], returnType := some .int }, accessFlags := 1, code := some k7c2 }
def k7c3 : Code := { maxStack := 2, maxLocals := 2, code := jdk_42_method_56_code, exceptionTable := #[], attributes := #[] }
def k7m3 : Method := { name := "charAt", desc := "(I)C", sig := { parameters := [.int], returnType := some .char }, accessFlags := 1, code := some k7c3 }
def k7c4 : Code := { maxStack := 4, maxLocals := 6, code := jdk_42_method_149_code, exceptionTable := #[], attributes := #[] }
def k7m4 : Method := { name := "<init>", desc := "([CIILjava/lang/Void;)V", sig := { parameters := [(.array .char), .int, .int, (.object "java/lang/Void")], returnType := none }, accessFlags := 2, code := some k7c4 }
def k7c5 : Code := { maxStack := 1, maxLocals := 1, code := jdk_42_method_152_code, exceptionTable := #[], attributes := #[] }
def k7m5 : Method := { name := "coder", desc := "()B", sig := { parameters := [], returnType := some .byte }, accessFlags := 0, code := some k7c5 }
def k7c6 : Code := { maxStack := 1, maxLocals := 1, code := jdk_42_method_154_code, exceptionTable := #[], attributes := #[] }
def k7m6 : Method := { name := "isLatin1", desc := "()Z", sig := { parameters := [], returnType := some .boolean }, accessFlags := 0, code := some k7c6 }
def k7c7 : Code := { maxStack := 3, maxLocals := 2, code := jdk_42_method_155_code, exceptionTable := #[], attributes := #[] }
def k7m7 : Method := { name := "checkIndex", desc := "(II)V", sig := { parameters := [.int, .int], returnType := none }, accessFlags := 8, code := some k7c7 }
/-- java/lang/String -/
def k7 : Class := { plain "java/lang/String" (some 0) with
  accessFlags := 49
  interfaces := #[2, 3, 4, 5, 6]
  cf := some (fileOf pool7 10 #[.nestMembers #[1103]] #[{ accessFlags := 1, nameIndex := 5, descriptorIndex := 6, attributes := #[] }, { accessFlags := 1, nameIndex := 5, descriptorIndex := 1010, attributes := #[] }, { accessFlags := 1, nameIndex := 507, descriptorIndex := 334, attributes := #[] }, { accessFlags := 1, nameIndex := 497, descriptorIndex := 427, attributes := #[] }, { accessFlags := 2, nameIndex := 5, descriptorIndex := 29, attributes := #[] }, { accessFlags := 0, nameIndex := 17, descriptorIndex := 337, attributes := #[] }, { accessFlags := 0, nameIndex := 494, descriptorIndex := 142, attributes := #[] }, { accessFlags := 8, nameIndex := 501, descriptorIndex := 391, attributes := #[] }] 49 2 #[1106, 1108, 575, 1110, 1112] #[{ accessFlags := 18, nameIndex := 13, descriptorIndex := 14, attributes := #[] }, { accessFlags := 18, nameIndex := 17, descriptorIndex := 18, attributes := #[] }, { accessFlags := 2, nameIndex := 21, descriptorIndex := 22, attributes := #[] }, { accessFlags := 2, nameIndex := 25, descriptorIndex := 26, attributes := #[] }, { accessFlags := 26, nameIndex := 1116, descriptorIndex := 1117, attributes := #[] }, { accessFlags := 24, nameIndex := 40, descriptorIndex := 26, attributes := #[] }, { accessFlags := 26, nameIndex := 1101, descriptorIndex := 1102, attributes := #[] }, { accessFlags := 26, nameIndex := 1121, descriptorIndex := 1122, attributes := #[] }, { accessFlags := 25, nameIndex := 599, descriptorIndex := 600, attributes := #[] }, { accessFlags := 24, nameIndex := 1125, descriptorIndex := 18, attributes := #[] }, { accessFlags := 24, nameIndex := 1127, descriptorIndex := 18, attributes := #[] }])
  fields := #[{ name := "value", type := (.array .byte), accessFlags := 18, slot := 0, constantValue := 0 }, { name := "coder", type := .byte, accessFlags := 18, slot := 1, constantValue := 0 }, { name := "hash", type := .int, accessFlags := 2, slot := 2, constantValue := 0 }, { name := "hashIsZero", type := .boolean, accessFlags := 2, slot := 3, constantValue := 0 }, { name := "serialVersionUID", type := .long, accessFlags := 26, slot := 0, constantValue := 0 }, { name := "COMPACT_STRINGS", type := .boolean, accessFlags := 24, slot := 1, constantValue := 0 }, { name := "serialPersistentFields", type := (.array (.object "java/io/ObjectStreamField")), accessFlags := 26, slot := 2, constantValue := 0 }, { name := "REPL", type := .char, accessFlags := 26, slot := 3, constantValue := 0 }, { name := "CASE_INSENSITIVE_ORDER", type := (.object "java/util/Comparator"), accessFlags := 25, slot := 4, constantValue := 0 }, { name := "LATIN1", type := .byte, accessFlags := 24, slot := 5, constantValue := 0 }, { name := "UTF16", type := .byte, accessFlags := 24, slot := 6, constantValue := 0 }]
  methods := #[k7m0, k7m1, k7m2, k7m3, k7m4, k7m5, k7m6, k7m7]
  instanceTypes := #[(.array .byte), .byte, .int, .boolean]
  staticTypes := #[.long, .boolean, (.array (.object "java/io/ObjectStreamField")), .char, (.object "java/util/Comparator"), .byte, .byte]
  resolved := Array.replicate 1451 none
  statics := some 0 }

def pool8 : Array CpInfo := pool [(2, .class_ 4), (1, u "java/lang/Object"), (3, .class_ 10), (1, u "com/example/covenantry/covenantry/FigurePlaces"), (0, u "sheet"), (0, u "Ljava/lang/String;"), (1, .class_ 16), (1, u "java/lang/String"), (4, .methodref 14 22), (0, .nameAndType 23 24), (0, u "length"), (0, u "()I"), (3, .methodref 14 29), (0, .nameAndType 30 31), (0, u "charAt"), (0, u "(I)C"), (52, u "column"), (13, .methodref 99 100), (0, .class_ 101), (0, .nameAndType 102 103), (0, u "java/lang/Math"), (0, u "min"), (0, u "(II)I"), (0, .long 26), (1, .long 65), (1, .long 18446744073709551615), (1, .methodref 111 112), (0, .class_ 113), (0, .nameAndType 114 115), (0, u "com/example/covenantry/covenantry/IsoDate"), (0, u "digits"), (0, u "(Ljava/lang/String;II)I"), (7, u "LINES"), (0, u "Lcom/example/covenantry/covenantry/FigurePlaces;"), (0, u "PERIOD_END"), (0, u "I"), (2, u "ITEM"), (1, u "AMOUNT"), (1, u "FIELDS"), (1, u "LETTERS"), (1, u "COLUMN_LETTERS"), (0, u "ROW_DIGITS"), (12, u "(Ljava/lang/String;)J")] 26

def k8c0 : Code := { maxStack := 4, maxLocals := 5, code := prog_6_method_5_code, exceptionTable := #[], attributes := #[] }
def k8m0 : Method := { name := "column", desc := "(Ljava/lang/String;)J", sig := { parameters := [(.object "java/lang/String")], returnType := some .long }, accessFlags := 8, code := some k8c0 }
/-- com/example/covenantry/covenantry/FigurePlaces -/
def k8 : Class := { plain "com/example/covenantry/covenantry/FigurePlaces" (some 0) with
  accessFlags := 32
  interfaces := #[]
  cf := some (fileOf pool8 8 #[] #[{ accessFlags := 8, nameIndex := 84, descriptorIndex := 151, attributes := #[] }] 32 2 #[] #[{ accessFlags := 24, nameIndex := 125, descriptorIndex := 126, attributes := #[] }, { accessFlags := 24, nameIndex := 129, descriptorIndex := 126, attributes := #[] }, { accessFlags := 24, nameIndex := 131, descriptorIndex := 126, attributes := #[] }, { accessFlags := 24, nameIndex := 133, descriptorIndex := 126, attributes := #[] }, { accessFlags := 24, nameIndex := 123, descriptorIndex := 124, attributes := #[] }, { accessFlags := 26, nameIndex := 135, descriptorIndex := 126, attributes := #[] }, { accessFlags := 26, nameIndex := 137, descriptorIndex := 126, attributes := #[] }, { accessFlags := 26, nameIndex := 138, descriptorIndex := 126, attributes := #[] }, { accessFlags := 18, nameIndex := 11, descriptorIndex := 12, attributes := #[] }])
  fields := #[{ name := "PERIOD_END", type := .int, accessFlags := 24, slot := 0, constantValue := 0 }, { name := "ITEM", type := .int, accessFlags := 24, slot := 1, constantValue := 0 }, { name := "AMOUNT", type := .int, accessFlags := 24, slot := 2, constantValue := 0 }, { name := "FIELDS", type := .int, accessFlags := 24, slot := 3, constantValue := 0 }, { name := "LINES", type := (.object "com/example/covenantry/covenantry/FigurePlaces"), accessFlags := 24, slot := 4, constantValue := 0 }, { name := "LETTERS", type := .int, accessFlags := 26, slot := 5, constantValue := 0 }, { name := "COLUMN_LETTERS", type := .int, accessFlags := 26, slot := 6, constantValue := 0 }, { name := "ROW_DIGITS", type := .int, accessFlags := 26, slot := 7, constantValue := 0 }, { name := "sheet", type := (.object "java/lang/String"), accessFlags := 18, slot := 0, constantValue := 0 }]
  methods := #[k8m0]
  instanceTypes := #[(.object "java/lang/String")]
  staticTypes := #[.int, .int, .int, .int, (.object "com/example/covenantry/covenantry/FigurePlaces"), .int, .int, .int]
  resolved := Array.replicate 178 none
  statics := none }

def pool9 : Array CpInfo := pool [(1, .class_ 2), (0, u "java/lang/Math"), (1, .class_ 6), (1, u "java/lang/Object"), (0, u "<init>"), (0, u "()V"), (89, .class_ 100), (1, u "java/lang/Math$RandomNumberGeneratorHolder"), (71, u "negativeZeroFloatBits"), (0, u "J"), (2, u "negativeZeroDoubleBits"), (24, u "min"), (43, u "$assertionsDisabled"), (0, u "Z"), (88, u "(II)I"), (2, u "twoToTheDoubleScaleDown"), (0, u "D"), (4, u "twoToTheDoubleScaleUp"), (9, u "E"), (3, u "PI"), (2, u "TAU"), (2, u "DEGREES_TO_RADIANS"), (0, u "RADIANS_TO_DEGREES")] 94

def k9m0 : Method := { name := "<init>", desc := "()V", sig := { parameters := [], returnType := none }, accessFlags := 2, code := none }
def k9c1 : Code := { maxStack := 2, maxLocals := 2, code := jdk_29_method_69_code, exceptionTable := #[], attributes := #[] }
def k9m1 : Method := { name := "min", desc := "(II)I", sig := { parameters := [.int, .int], returnType := some .int }, accessFlags := 9, code := some k9c1 }
/-- java/lang/Math -/
def k9 : Class := { plain "java/lang/Math" (some 0) with
  accessFlags := 49
  interfaces := #[]
  cf := some (fileOf pool9 1 #[.nestMembers #[98]] #[{ accessFlags := 2, nameIndex := 7, descriptorIndex := 8, attributes := #[] }, { accessFlags := 9, nameIndex := 201, descriptorIndex := 335, attributes := #[] }] 49 4 #[] #[{ accessFlags := 25, nameIndex := 354, descriptorIndex := 339, attributes := #[] }, { accessFlags := 25, nameIndex := 358, descriptorIndex := 339, attributes := #[] }, { accessFlags := 25, nameIndex := 361, descriptorIndex := 339, attributes := #[] }, { accessFlags := 26, nameIndex := 364, descriptorIndex := 339, attributes := #[] }, { accessFlags := 26, nameIndex := 365, descriptorIndex := 339, attributes := #[] }, { accessFlags := 26, nameIndex := 172, descriptorIndex := 173, attributes := #[] }, { accessFlags := 26, nameIndex := 176, descriptorIndex := 173, attributes := #[] }, { accessFlags := 8, nameIndex := 344, descriptorIndex := 339, attributes := #[] }, { accessFlags := 8, nameIndex := 338, descriptorIndex := 339, attributes := #[] }, { accessFlags := 4120, nameIndex := 245, descriptorIndex := 246, attributes := #[] }])
  fields := #[{ name := "E", type := .double, accessFlags := 25, slot := 0, constantValue := 0 }, { name := "PI", type := .double, accessFlags := 25, slot := 1, constantValue := 0 }, { name := "TAU", type := .double, accessFlags := 25, slot := 2, constantValue := 0 }, { name := "DEGREES_TO_RADIANS", type := .double, accessFlags := 26, slot := 3, constantValue := 0 }, { name := "RADIANS_TO_DEGREES", type := .double, accessFlags := 26, slot := 4, constantValue := 0 }, { name := "negativeZeroFloatBits", type := .long, accessFlags := 26, slot := 5, constantValue := 0 }, { name := "negativeZeroDoubleBits", type := .long, accessFlags := 26, slot := 6, constantValue := 0 }, { name := "twoToTheDoubleScaleUp", type := .double, accessFlags := 8, slot := 7, constantValue := 0 }, { name := "twoToTheDoubleScaleDown", type := .double, accessFlags := 8, slot := 8, constantValue := 0 }, { name := "$assertionsDisabled", type := .boolean, accessFlags := 4120, slot := 9, constantValue := 0 }]
  methods := #[k9m0, k9m1]
  instanceTypes := #[]
  staticTypes := #[.double, .double, .double, .double, .double, .long, .long, .double, .double, .boolean]
  resolved := Array.replicate 460 none
  statics := none }

def pool10 : Array CpInfo := pool [(6, .class_ 8), (1, u "java/lang/Object"), (0, u "<init>"), (0, u "()V"), (1, .class_ 14), (1, u "java/lang/StringUTF16"), (31, u "$assertionsDisabled"), (0, u "Z"), (13, u "HI_BYTE_SHIFT"), (0, u "I"), (2, u "LO_BYTE_SHIFT"), (49, .methodref 12 116), (0, .nameAndType 117 118), (0, u "compress"), (0, u "([CI[BII)I"), (3, u "([CII)[B"), (138, u "coderFromArrayLen"), (0, u "([BI)B"), (106, .class_ 371), (1, u "java/lang/StringUTF16$LinesSpliterator"), (58, u "MAX_LENGTH"), (196, .class_ 628), (0, u "java/lang/StringUTF16$CodePointsSpliterator"), (0, .class_ 630), (0, u "java/lang/StringUTF16$CharsSpliterator")] 4

def k10m0 : Method := { name := "<init>", desc := "()V", sig := { parameters := [], returnType := none }, accessFlags := 0, code := none }
def k10c1 : Code := { maxStack := 2, maxLocals := 2, code := jdk_52_method_15_code, exceptionTable := #[], attributes := #[] }
def k10m1 : Method := { name := "coderFromArrayLen", desc := "([BI)B", sig := { parameters := [(.array .byte), .int], returnType := some .byte }, accessFlags := 8, code := some k10c1 }
def k10c2 : Code := { maxStack := 5, maxLocals := 6, code := jdk_52_method_16_code, exceptionTable := #[], attributes := #[] }
def k10m2 : Method := { name := "compress", desc := "([CII)[B", sig := { parameters := [(.array .char), .int, .int], returnType := some (.array .byte) }, accessFlags := 9, code := some k10c2 }
def k10c3 : Code := { maxStack := 3, maxLocals := 7, code := jdk_52_method_21_code, exceptionTable := #[], attributes := #[] }
def k10m3 : Method := { name := "compress", desc := "([CI[BII)I", sig := { parameters := [(.array .char), .int, (.array .byte), .int, .int], returnType := some .int }, accessFlags := 9, code := some k10c3 }
/-- java/lang/StringUTF16 -/
def k10 : Class := { plain "java/lang/StringUTF16" (some 0) with
  accessFlags := 48
  interfaces := #[]
  cf := some (fileOf pool10 12 #[.nestMembers #[627, 629, 369]] #[{ accessFlags := 0, nameIndex := 9, descriptorIndex := 10, attributes := #[] }, { accessFlags := 8, nameIndex := 261, descriptorIndex := 262, attributes := #[] }, { accessFlags := 9, nameIndex := 117, descriptorIndex := 122, attributes := #[] }, { accessFlags := 9, nameIndex := 117, descriptorIndex := 118, attributes := #[] }] 48 6 #[] #[{ accessFlags := 26, nameIndex := 61, descriptorIndex := 62, attributes := #[] }, { accessFlags := 26, nameIndex := 65, descriptorIndex := 62, attributes := #[] }, { accessFlags := 24, nameIndex := 430, descriptorIndex := 62, attributes := #[] }, { accessFlags := 4120, nameIndex := 46, descriptorIndex := 47, attributes := #[] }])
  fields := #[{ name := "HI_BYTE_SHIFT", type := .int, accessFlags := 26, slot := 0, constantValue := 0 }, { name := "LO_BYTE_SHIFT", type := .int, accessFlags := 26, slot := 1, constantValue := 0 }, { name := "MAX_LENGTH", type := .int, accessFlags := 24, slot := 2, constantValue := 0 }, { name := "$assertionsDisabled", type := .boolean, accessFlags := 4120, slot := 3, constantValue := 0 }]
  methods := #[k10m0, k10m1, k10m2, k10m3]
  instanceTypes := #[]
  staticTypes := #[.int, .int, .int, .boolean]
  resolved := Array.replicate 635 none
  statics := none }

def pool11 : Array CpInfo := pool [(1, .class_ 2), (0, u "java/lang/String"), (1, .class_ 6), (1, u "java/lang/Object"), (0, u "<init>"), (0, u "()V"), (0, .methodref 1 10), (0, .nameAndType 11 12), (0, u "checkIndex"), (0, u "(II)V"), (1, .class_ 16), (1, u "java/lang/StringLatin1"), (36, u "([BI)C"), (67, u "$assertionsDisabled"), (0, u "Z"), (98, .class_ 223), (1, u "java/lang/StringLatin1$LinesSpliterator"), (28, u "charAt"), (137, .class_ 391), (0, u "java/lang/StringLatin1$CharsSpliterator")] 3

def k11m0 : Method := { name := "<init>", desc := "()V", sig := { parameters := [], returnType := none }, accessFlags := 0, code := none }
def k11c1 : Code := { maxStack := 2, maxLocals := 2, code := jdk_43_method_2_code, exceptionTable := #[], attributes := #[] }
def k11m1 : Method := { name := "charAt", desc := "([BI)C", sig := { parameters := [(.array .byte), .int], returnType := some .char }, accessFlags := 9, code := some k11c1 }
/-- java/lang/StringLatin1 -/
def k11 : Class := { plain "java/lang/StringLatin1" (some 0) with
  accessFlags := 48
  interfaces := #[]
  cf := some (fileOf pool11 14 #[.nestMembers #[390, 221]] #[{ accessFlags := 0, nameIndex := 7, descriptorIndex := 8, attributes := #[] }, { accessFlags := 9, nameIndex := 252, descriptorIndex := 53, attributes := #[] }] 48 4 #[] #[{ accessFlags := 4120, nameIndex := 121, descriptorIndex := 122, attributes := #[] }])
  fields := #[{ name := "$assertionsDisabled", type := .boolean, accessFlags := 4120, slot := 0, constantValue := 0 }]
  methods := #[k11m0, k11m1]
  instanceTypes := #[]
  staticTypes := #[.boolean]
  resolved := Array.replicate 395 none
  statics := none }

def pool12 : Array CpInfo := pool [(2, .class_ 4), (1, u "java/lang/Object"), (0, u "<init>"), (0, u "()V"), (17, .class_ 26), (1, u "jdk/internal/util/Preconditions"), (6, u "checkIndex"), (21, .class_ 56), (0, u "jdk/internal/util/Preconditions$4"), (57, .class_ 115), (0, u "jdk/internal/util/Preconditions$1"), (7, u "SIOOBE_FORMATTER"), (0, u "Ljava/util/function/BiFunction;"), (0, .class_ 126), (0, u "jdk/internal/util/Preconditions$2"), (3, u "AIOOBE_FORMATTER"), (0, .class_ 132), (0, u "jdk/internal/util/Preconditions$3"), (3, u "IOOBE_FORMATTER"), (41, u "(IILjava/util/function/BiFunction;)I")] 15

def k12m0 : Method := { name := "<init>", desc := "()V", sig := { parameters := [], returnType := none }, accessFlags := 1, code := none }
def k12c1 : Code := { maxStack := 3, maxLocals := 3, code := jdk_41_method_11_code, exceptionTable := #[], attributes := #[] }
def k12m1 : Method := { name := "checkIndex", desc := "(IILjava/util/function/BiFunction;)I", sig := { parameters := [.int, .int, (.object "java/util/function/BiFunction")], returnType := some .int }, accessFlags := 9, code := some k12c1 }
/-- jdk/internal/util/Preconditions -/
def k12 : Class := { plain "jdk/internal/util/Preconditions" (some 0) with
  accessFlags := 33
  interfaces := #[]
  cf := some (fileOf pool12 24 #[.nestMembers #[55, 131, 125, 114]] #[{ accessFlags := 1, nameIndex := 5, descriptorIndex := 6, attributes := #[] }, { accessFlags := 9, nameIndex := 33, descriptorIndex := 178, attributes := #[] }] 33 2 #[] #[{ accessFlags := 25, nameIndex := 123, descriptorIndex := 124, attributes := #[] }, { accessFlags := 25, nameIndex := 130, descriptorIndex := 124, attributes := #[] }, { accessFlags := 25, nameIndex := 136, descriptorIndex := 124, attributes := #[] }])
  fields := #[{ name := "SIOOBE_FORMATTER", type := (.object "java/util/function/BiFunction"), accessFlags := 25, slot := 0, constantValue := 0 }, { name := "AIOOBE_FORMATTER", type := (.object "java/util/function/BiFunction"), accessFlags := 25, slot := 1, constantValue := 0 }, { name := "IOOBE_FORMATTER", type := (.object "java/util/function/BiFunction"), accessFlags := 25, slot := 2, constantValue := 0 }]
  methods := #[k12m0, k12m1]
  instanceTypes := #[]
  staticTypes := #[(.object "java/util/function/BiFunction"), (.object "java/util/function/BiFunction"), (.object "java/util/function/BiFunction")]
  resolved := Array.replicate 194 none
  statics := some 1 }

def pool13 : Array CpInfo := pool [(2, .class_ 4), (1, u "java/lang/Object"), (0, u "<init>"), (0, u "()V"), (1, .class_ 10), (1, u "java/lang/String"), (2, .class_ 14), (0, u "com/example/covenantry/covenantry/IsoDate"), (0, .methodref 8 16), (0, .nameAndType 17 18), (0, u "charAt"), (0, u "(I)C"), (8, u "digits"), (0, u "(Ljava/lang/String;II)I"), (15, u "LENGTH"), (0, u "I")] 27

def k13m0 : Method := { name := "<init>", desc := "()V", sig := { parameters := [], returnType := none }, accessFlags := 2, code := none }
def k13c1 : Code := { maxStack := 2, maxLocals := 6, code := prog_13_method_4_code, exceptionTable := #[], attributes := #[] }
def k13m1 : Method := { name := "digits", desc := "(Ljava/lang/String;II)I", sig := { parameters := [(.object "java/lang/String"), .int, .int], returnType := some .int }, accessFlags := 8, code := some k13c1 }
/-- com/example/covenantry/covenantry/IsoDate -/
def k13 : Class := { plain "com/example/covenantry/covenantry/IsoDate" (some 0) with
  accessFlags := 33
  interfaces := #[]
  cf := some (fileOf pool13 13 #[] #[{ accessFlags := 2, nameIndex := 5, descriptorIndex := 6, attributes := #[] }, { accessFlags := 8, nameIndex := 27, descriptorIndex := 28, attributes := #[] }] 33 2 #[] #[{ accessFlags := 24, nameIndex := 44, descriptorIndex := 45, attributes := #[] }])
  fields := #[{ name := "LENGTH", type := .int, accessFlags := 24, slot := 0, constantValue := 0 }]
  methods := #[k13m0, k13m1]
  instanceTypes := #[]
  staticTypes := #[.int]
  resolved := Array.replicate 73 none
  statics := none }

def pool14 : Array CpInfo := pool [(9, u "<init>"), (6, .class_ 18), (1, u "java/lang/Object"), (0, u "()V"), (1, .class_ 23), (1, u "jdk/internal/util/ArraysSupport"), (0, u "LOG2_ARRAY_LONG_INDEX_SCALE"), (0, u "I"), (2, u "U"), (0, u "Ljdk/internal/misc/Unsafe;"), (8, u "BIG_ENDIAN"), (0, u "Z"), (8, u "LOG2_BYTE_BIT_SIZE"), (4, u "LOG2_ARRAY_INT_INDEX_SCALE"), (54, u "JLA"), (0, u "Ljdk/internal/access/JavaLangAccess;"), (11, u "LOG2_ARRAY_BOOLEAN_INDEX_SCALE"), (9, u "LOG2_ARRAY_BYTE_INDEX_SCALE"), (5, u "LOG2_ARRAY_CHAR_INDEX_SCALE"), (5, u "LOG2_ARRAY_SHORT_INDEX_SCALE"), (18, u "LOG2_ARRAY_FLOAT_INDEX_SCALE"), (24, u "LOG2_ARRAY_DOUBLE_INDEX_SCALE"), (89, u "T_BOOLEAN"), (2, u "T_CHAR"), (1, u "T_FLOAT"), (1, u "T_DOUBLE"), (1, u "T_BYTE"), (1, u "T_SHORT"), (1, u "T_INT"), (1, u "T_LONG"), (1, u "SOFT_MAX_ARRAY_LENGTH")] 83

def k14m0 : Method := { name := "<init>", desc := "()V", sig := { parameters := [], returnType := none }, accessFlags := 2, code := none }
/-- jdk/internal/util/ArraysSupport -/
def k14 : Class := { plain "jdk/internal/util/ArraysSupport" (some 0) with
  accessFlags := 33
  interfaces := #[]
  cf := some (fileOf pool14 21 #[] #[{ accessFlags := 2, nameIndex := 9, descriptorIndex := 19, attributes := #[] }] 33 16 #[] #[{ accessFlags := 24, nameIndex := 28, descriptorIndex := 29, attributes := #[] }, { accessFlags := 26, nameIndex := 38, descriptorIndex := 39, attributes := #[] }, { accessFlags := 25, nameIndex := 121, descriptorIndex := 25, attributes := #[] }, { accessFlags := 25, nameIndex := 131, descriptorIndex := 25, attributes := #[] }, { accessFlags := 25, nameIndex := 137, descriptorIndex := 25, attributes := #[] }, { accessFlags := 25, nameIndex := 143, descriptorIndex := 25, attributes := #[] }, { accessFlags := 25, nameIndex := 53, descriptorIndex := 25, attributes := #[] }, { accessFlags := 25, nameIndex := 24, descriptorIndex := 25, attributes := #[] }, { accessFlags := 25, nameIndex := 162, descriptorIndex := 25, attributes := #[] }, { accessFlags := 25, nameIndex := 187, descriptorIndex := 25, attributes := #[] }, { accessFlags := 26, nameIndex := 48, descriptorIndex := 25, attributes := #[] }, { accessFlags := 25, nameIndex := 277, descriptorIndex := 25, attributes := #[] }, { accessFlags := 25, nameIndex := 280, descriptorIndex := 25, attributes := #[] }, { accessFlags := 25, nameIndex := 282, descriptorIndex := 25, attributes := #[] }, { accessFlags := 25, nameIndex := 284, descriptorIndex := 25, attributes := #[] }, { accessFlags := 25, nameIndex := 286, descriptorIndex := 25, attributes := #[] }, { accessFlags := 25, nameIndex := 288, descriptorIndex := 25, attributes := #[] }, { accessFlags := 25, nameIndex := 290, descriptorIndex := 25, attributes := #[] }, { accessFlags := 25, nameIndex := 292, descriptorIndex := 25, attributes := #[] }, { accessFlags := 26, nameIndex := 108, descriptorIndex := 109, attributes := #[] }, { accessFlags := 25, nameIndex := 294, descriptorIndex := 25, attributes := #[] }])
  fields := #[{ name := "U", type := (.object "jdk/internal/misc/Unsafe"), accessFlags := 24, slot := 0, constantValue := 0 }, { name := "BIG_ENDIAN", type := .boolean, accessFlags := 26, slot := 1, constantValue := 0 }, { name := "LOG2_ARRAY_BOOLEAN_INDEX_SCALE", type := .int, accessFlags := 25, slot := 2, constantValue := 0 }, { name := "LOG2_ARRAY_BYTE_INDEX_SCALE", type := .int, accessFlags := 25, slot := 3, constantValue := 0 }, { name := "LOG2_ARRAY_CHAR_INDEX_SCALE", type := .int, accessFlags := 25, slot := 4, constantValue := 0 }, { name := "LOG2_ARRAY_SHORT_INDEX_SCALE", type := .int, accessFlags := 25, slot := 5, constantValue := 0 }, { name := "LOG2_ARRAY_INT_INDEX_SCALE", type := .int, accessFlags := 25, slot := 6, constantValue := 0 }, { name := "LOG2_ARRAY_LONG_INDEX_SCALE", type := .int, accessFlags := 25, slot := 7, constantValue := 0 }, { name := "LOG2_ARRAY_FLOAT_INDEX_SCALE", type := .int, accessFlags := 25, slot := 8, constantValue := 0 }, { name := "LOG2_ARRAY_DOUBLE_INDEX_SCALE", type := .int, accessFlags := 25, slot := 9, constantValue := 0 }, { name := "LOG2_BYTE_BIT_SIZE", type := .int, accessFlags := 26, slot := 10, constantValue := 0 }, { name := "T_BOOLEAN", type := .int, accessFlags := 25, slot := 11, constantValue := 0 }, { name := "T_CHAR", type := .int, accessFlags := 25, slot := 12, constantValue := 0 }, { name := "T_FLOAT", type := .int, accessFlags := 25, slot := 13, constantValue := 0 }, { name := "T_DOUBLE", type := .int, accessFlags := 25, slot := 14, constantValue := 0 }, { name := "T_BYTE", type := .int, accessFlags := 25, slot := 15, constantValue := 0 }, { name := "T_SHORT", type := .int, accessFlags := 25, slot := 16, constantValue := 0 }, { name := "T_INT", type := .int, accessFlags := 25, slot := 17, constantValue := 0 }, { name := "T_LONG", type := .int, accessFlags := 25, slot := 18, constantValue := 0 }, { name := "JLA", type := (.object "jdk/internal/access/JavaLangAccess"), accessFlags := 26, slot := 19, constantValue := 0 }, { name := "SOFT_MAX_ARRAY_LENGTH", type := .int, accessFlags := 25, slot := 20, constantValue := 0 }]
  methods := #[k14m0]
  instanceTypes := #[]
  staticTypes := #[(.object "jdk/internal/misc/Unsafe"), .boolean, .int, .int, .int, .int, .int, .int, .int, .int, .int, .int, .int, .int, .int, .int, .int, .int, .int, (.object "jdk/internal/access/JavaLangAccess"), .int]
  resolved := Array.replicate 378 none
  statics := none }

def pool15 : Array CpInfo := pool [(1, u "java/lang/Cloneable"), (0, .class_ 1), (0, u "java/lang/Object"), (0, .class_ 3)] 3

/-- java/lang/Cloneable -/
def k15 : Class := { plain "java/lang/Cloneable" (some 0) with
  accessFlags := 1537
  interfaces := #[]
  cf := some (fileOf pool15 2 #[] #[] 1537 4 #[] #[])
  fields := #[]
  methods := #[]
  instanceTypes := #[]
  staticTypes := #[]
  resolved := Array.replicate 8 none
  statics := none }

/-- the primitive byte -/
def k16 : Class := { plain "byte" none with kind := .primitive 'B', accessFlags := 0x411 }
/-- [B -/
def k17 : Class := { plain "[B" (some 0) with kind := .array 16 .byte, interfaces := #[15, 2], accessFlags := 1041 }

/-- the primitive char -/
def k18 : Class := { plain "char" none with kind := .primitive 'C', accessFlags := 0x411 }
/-- [C -/
def k19 : Class := { plain "[C" (some 0) with kind := .array 18 .char, interfaces := #[15, 2], accessFlags := 1041 }

/-- the primitive int -/
def k20 : Class := { plain "int" none with kind := .primitive 'I', accessFlags := 0x411 }
/-- [I -/
def k21 : Class := { plain "[I" (some 0) with kind := .array 20 .int, interfaces := #[15, 2], accessFlags := 1041 }

def heap : Heap := #[{ cls := 7, slots := #[.long 0, .int 1, .null, .int 0, .null, .int 0, .int 0], vm := .statics 7 },
  { cls := 12, slots := #[.null, .null, .null], vm := .statics 12 }]
def classes : Array Class := #[k0, k1, k2, k3, k4, k5, k6, k7, k8, k9, k10, k11, k12, k13, k14, k15, k16, k17, k18, k19, k20, k21]
def interned : List (Array UInt16 × Addr) := []
def slotsUsed : Nat := 10
def theMethod : MethodId := ⟨1, 6⟩
def args0 : Array Value := #[.int 5, .long 6, .long 7]
def aboutOver (below : List Frame) : State where
  vm := { classes := classes, interned := interned.toArray }
  heap := heap
  slotsUsed := slotsUsed
  threads := #[{ frames := .invoking theMethod args0 :: below }]
def below0 : List Frame := [.native { method := ⟨0, 0⟩, args := #[] }]
def about1 : State := aboutOver below0
def p0 : Program := .bare "" "" ""
def e0 : Env := launch0.env 0 0 0
theorem w_frames : about1.frames = Frame.invoking theMethod args0 :: below0 := rfl
set_option maxRecDepth 65536 in
theorem w_args : argsFit about1.vm theMethod args0 = true := by decide +kernel
set_option maxRecDepth 65536 in
theorem w_heap : heapFits about1 = true := by decide +kernel
set_option maxRecDepth 65536 in
theorem w_runnable : about1.curStatus? = some .runnable := by decide +kernel
set_option maxRecDepth 65536 in
theorem w_alone : about1.alone = true := by decide +kernel
set_option maxRecDepth 65536 in
theorem w_named : about1.methodNamed? x = some theMethod := by decide +kernel
set_option maxRecDepth 65536 in
theorem w_hears : about1.hears theMethod below0 = true := by decide +kernel
set_option maxRecDepth 65536 in
theorem w_ripe : about1.ripe theMethod args0 below0 = true := by decide +kernel
theorem w_running : about1.status = .running := rfl
set_option maxRecDepth 65536 in
theorem w_room : about1.hasRoom e0.platform room_1 = true :=
  launch0.hasRoom_least _ room_1 (by decide +kernel) (by decide +kernel) (by decide +kernel) (by decide +kernel) (by decide +kernel) (by decide +kernel)
theorem allAtoms_all (ts : List Jvm.Cond) (a : Array Jvm.Value) (st : Jvm.State) : (allAtoms ts).before a st = ts.all (fun c => c.before a st) := by
  induction ts with
  | nil => rfl
  | cons c t ih =>
    show (Jvm.Cond.and c (allAtoms t)).before a st = _
    rw [Jvm.Cond.before_and, ih, List.all_cons]
def words1 : List Jvm.Cond := Jvm.Cond.code x code maxLocals ret :: tables_1
/-- a 'code' word, met by the world's own term for the bytes: nothing is compared byte by byte -/
theorem code_word {y : MethodName} {bytes : ByteArray} {mx : Nat} {rt : Option FieldType} {a : Array Value} {s : State} {m : MethodId} {meth : Method} {c : Code} (h1 : s.methodNamed? y = some m) (h2 : s.vm.method? m = some meth) (h3 : meth.code = some c) (h4 : c.code = bytes)
    (h5 : (c.maxLocals == mx && c.exceptionTable.isEmpty && decide (c.maxStack ≤ mostOperands) && decide (meth.sig.returnType = rt) && !meth.locks && decide (parseMethodDescriptor y.desc = some meth.sig)) = true) : (Jvm.Cond.code y bytes mx rt).before a s = true := by
  simp only [Bool.and_eq_true, beq_iff_eq, Bool.not_eq_true', decide_eq_true_eq] at h5
  obtain ⟨⟨⟨⟨⟨g1, g2⟩, g3⟩, g4⟩, g5⟩, g6⟩ := h5
  simp [Cond.before, Cond.holds, Cond.value, h1, h2, h3, h4, g1, g2, g3, g4, g5, g6]
def isCode : Jvm.Cond → Bool
  | .code _ _ _ _ => true
  | _ => false
theorem all_split {L : List Jvm.Cond} {P : Jvm.Cond → Bool} (h1 : L.all (fun c => isCode c || P c) = true) (h2 : ∀ c ∈ L.filter isCode, P c = true) : L.all P = true := by
  refine List.all_eq_true.mpr fun c hc => ?_
  have h := List.all_eq_true.mp h1 c hc
  rcases Bool.eq_false_or_eq_true (isCode c) with hi | hi
  · exact h2 c (List.mem_filter.mpr ⟨hc, hi⟩)
  · simpa [hi] using h
set_option maxRecDepth 65536 in
theorem w_c0 : (Jvm.Cond.code x code maxLocals ret).before args0 about1 = true := code_word (m := ⟨1, 6⟩) (meth := k1m6) (c := k1c6) (by decide +kernel) rfl rfl rfl (by decide +kernel)
set_option maxRecDepth 65536 in
theorem w_c1 : (Jvm.Cond.code ({ cls := "java/lang/String", name := "<init>", desc := "([C)V" } : Jvm.MethodName) jdk_42_method_3_code (2 : Nat) (Option.none : Option Jvm.ClassFile.FieldType)).before args0 about1 = true := code_word (m := ⟨7, 1⟩) (meth := k7m1) (c := k7c1) (by decide +kernel) rfl rfl rfl (by decide +kernel)
set_option maxRecDepth 65536 in
theorem w_c2 : (Jvm.Cond.code ({ cls := "java/lang/String", name := "<init>", desc := "([CIILjava/lang/Void;)V" } : Jvm.MethodName) jdk_42_method_149_code (6 : Nat) (Option.none : Option Jvm.ClassFile.FieldType)).before args0 about1 = true := code_word (m := ⟨7, 4⟩) (meth := k7m4) (c := k7c4) (by decide +kernel) rfl rfl rfl (by decide +kernel)
set_option maxRecDepth 65536 in
theorem w_c3 : (Jvm.Cond.code ({ cls := "java/lang/Object", name := "<init>", desc := "()V" } : Jvm.MethodName) object_method_1_code (1 : Nat) (Option.none : Option Jvm.ClassFile.FieldType)).before args0 about1 = true := code_word (m := ⟨0, 0⟩) (meth := k0m0) (c := k0c0) (by decide +kernel) rfl rfl rfl (by decide +kernel)
set_option maxRecDepth 65536 in
theorem w_c4 : (Jvm.Cond.code ({ cls := "com/example/covenantry/covenantry/FigurePlaces", name := "column", desc := "(Ljava/lang/String;)J" } : Jvm.MethodName) prog_6_method_5_code (5 : Nat) (Option.some Jvm.ClassFile.FieldType.long)).before args0 about1 = true := code_word (m := ⟨8, 0⟩) (meth := k8m0) (c := k8c0) (by decide +kernel) rfl rfl rfl (by decide +kernel)
set_option maxRecDepth 65536 in
theorem w_c5 : (Jvm.Cond.code ({ cls := "java/lang/String", name := "length", desc := "()I" } : Jvm.MethodName) jdk_42_method_54_code (1 : Nat) (Option.some Jvm.ClassFile.FieldType.int)).before args0 about1 = true := code_word (m := ⟨7, 2⟩) (meth := k7m2) (c := k7c2) (by decide +kernel) rfl rfl rfl (by decide +kernel)
set_option maxRecDepth 65536 in
theorem w_c6 : (Jvm.Cond.code ({ cls := "java/lang/String", name := "coder", desc := "()B" } : Jvm.MethodName) jdk_42_method_152_code (1 : Nat) (Option.some Jvm.ClassFile.FieldType.byte)).before args0 about1 = true := code_word (m := ⟨7, 5⟩) (meth := k7m5) (c := k7c5) (by decide +kernel) rfl rfl rfl (by decide +kernel)
set_option maxRecDepth 65536 in
theorem w_c7 : (Jvm.Cond.code ({ cls := "java/lang/Math", name := "min", desc := "(II)I" } : Jvm.MethodName) jdk_29_method_69_code (2 : Nat) (Option.some Jvm.ClassFile.FieldType.int)).before args0 about1 = true := code_word (m := ⟨9, 1⟩) (meth := k9m1) (c := k9c1) (by decide +kernel) rfl rfl rfl (by decide +kernel)
set_option maxRecDepth 65536 in
theorem w_c8 : (Jvm.Cond.code ({ cls := "com/example/covenantry/covenantry/FigurePlacesColumnPinLaw", name := "bad", desc := "([CIII)Z" } : Jvm.MethodName) method_5_code (4 : Nat) (Option.some Jvm.ClassFile.FieldType.boolean)).before args0 about1 = true := code_word (m := ⟨1, 4⟩) (meth := k1m4) (c := k1c4) (by decide +kernel) rfl rfl rfl (by decide +kernel)
set_option maxRecDepth 65536 in
theorem w_c9 : (Jvm.Cond.code ({ cls := "com/example/covenantry/covenantry/FigurePlacesColumnPinLaw", name := "nonzero", desc := "([CIII)Z" } : Jvm.MethodName) method_6_code (4 : Nat) (Option.some Jvm.ClassFile.FieldType.boolean)).before args0 about1 = true := code_word (m := ⟨1, 5⟩) (meth := k1m5) (c := k1c5) (by decide +kernel) rfl rfl rfl (by decide +kernel)
set_option maxRecDepth 65536 in
theorem w_c10 : (Jvm.Cond.code ({ cls := "com/example/covenantry/covenantry/FigurePlacesColumnPinLaw", name := "pick", desc := "(JI)C" } : Jvm.MethodName) method_2_code (5 : Nat) (Option.some Jvm.ClassFile.FieldType.char)).before args0 about1 = true := code_word (m := ⟨1, 1⟩) (meth := k1m1) (c := k1c1) (by decide +kernel) rfl rfl rfl (by decide +kernel)
set_option maxRecDepth 65536 in
theorem w_c11 : (Jvm.Cond.code ({ cls := "java/lang/StringUTF16", name := "compress", desc := "([CII)[B" } : Jvm.MethodName) jdk_52_method_16_code (6 : Nat) (Option.some (Jvm.ClassFile.FieldType.array Jvm.ClassFile.FieldType.byte))).before args0 about1 = true := code_word (m := ⟨10, 2⟩) (meth := k10m2) (c := k10c2) (by decide +kernel) rfl rfl rfl (by decide +kernel)
set_option maxRecDepth 65536 in
theorem w_c12 : (Jvm.Cond.code ({ cls := "java/lang/StringUTF16", name := "compress", desc := "([CI[BII)I" } : Jvm.MethodName) jdk_52_method_21_code (7 : Nat) (Option.some Jvm.ClassFile.FieldType.int)).before args0 about1 = true := code_word (m := ⟨10, 3⟩) (meth := k10m3) (c := k10c3) (by decide +kernel) rfl rfl rfl (by decide +kernel)
set_option maxRecDepth 65536 in
theorem w_c13 : (Jvm.Cond.code ({ cls := "java/lang/StringUTF16", name := "coderFromArrayLen", desc := "([BI)B" } : Jvm.MethodName) jdk_52_method_15_code (2 : Nat) (Option.some Jvm.ClassFile.FieldType.byte)).before args0 about1 = true := code_word (m := ⟨10, 1⟩) (meth := k10m1) (c := k10c1) (by decide +kernel) rfl rfl rfl (by decide +kernel)
set_option maxRecDepth 65536 in
theorem w_c14 : (Jvm.Cond.code ({ cls := "java/lang/String", name := "charAt", desc := "(I)C" } : Jvm.MethodName) jdk_42_method_56_code (2 : Nat) (Option.some Jvm.ClassFile.FieldType.char)).before args0 about1 = true := code_word (m := ⟨7, 3⟩) (meth := k7m3) (c := k7c3) (by decide +kernel) rfl rfl rfl (by decide +kernel)
set_option maxRecDepth 65536 in
theorem w_c15 : (Jvm.Cond.code ({ cls := "java/lang/String", name := "isLatin1", desc := "()Z" } : Jvm.MethodName) jdk_42_method_154_code (1 : Nat) (Option.some Jvm.ClassFile.FieldType.boolean)).before args0 about1 = true := code_word (m := ⟨7, 6⟩) (meth := k7m6) (c := k7c6) (by decide +kernel) rfl rfl rfl (by decide +kernel)
set_option maxRecDepth 65536 in
theorem w_c16 : (Jvm.Cond.code ({ cls := "java/lang/StringLatin1", name := "charAt", desc := "([BI)C" } : Jvm.MethodName) jdk_43_method_2_code (2 : Nat) (Option.some Jvm.ClassFile.FieldType.char)).before args0 about1 = true := code_word (m := ⟨11, 1⟩) (meth := k11m1) (c := k11c1) (by decide +kernel) rfl rfl rfl (by decide +kernel)
set_option maxRecDepth 65536 in
theorem w_c17 : (Jvm.Cond.code ({ cls := "java/lang/String", name := "checkIndex", desc := "(II)V" } : Jvm.MethodName) jdk_42_method_155_code (2 : Nat) (Option.none : Option Jvm.ClassFile.FieldType)).before args0 about1 = true := code_word (m := ⟨7, 7⟩) (meth := k7m7) (c := k7c7) (by decide +kernel) rfl rfl rfl (by decide +kernel)
set_option maxRecDepth 65536 in
theorem w_c18 : (Jvm.Cond.code ({ cls := "jdk/internal/util/Preconditions", name := "checkIndex", desc := "(IILjava/util/function/BiFunction;)I" } : Jvm.MethodName) jdk_41_method_11_code (3 : Nat) (Option.some Jvm.ClassFile.FieldType.int)).before args0 about1 = true := code_word (m := ⟨12, 1⟩) (meth := k12m1) (c := k12c1) (by decide +kernel) rfl rfl rfl (by decide +kernel)
set_option maxRecDepth 65536 in
theorem w_c19 : (Jvm.Cond.code ({ cls := "com/example/covenantry/covenantry/FigurePlacesColumnPinLaw", name := "upper", desc := "(C)Z" } : Jvm.MethodName) method_3_code (1 : Nat) (Option.some Jvm.ClassFile.FieldType.boolean)).before args0 about1 = true := code_word (m := ⟨1, 2⟩) (meth := k1m2) (c := k1c2) (by decide +kernel) rfl rfl rfl (by decide +kernel)
set_option maxRecDepth 65536 in
theorem w_c20 : (Jvm.Cond.code ({ cls := "com/example/covenantry/covenantry/FigurePlacesColumnPinLaw", name := "digit", desc := "(C)Z" } : Jvm.MethodName) method_4_code (1 : Nat) (Option.some Jvm.ClassFile.FieldType.boolean)).before args0 about1 = true := code_word (m := ⟨1, 3⟩) (meth := k1m3) (c := k1c3) (by decide +kernel) rfl rfl rfl (by decide +kernel)
set_option maxRecDepth 65536 in
theorem w_c21 : (Jvm.Cond.code ({ cls := "com/example/covenantry/covenantry/IsoDate", name := "digits", desc := "(Ljava/lang/String;II)I" } : Jvm.MethodName) prog_13_method_4_code (6 : Nat) (Option.some Jvm.ClassFile.FieldType.int)).before args0 about1 = true := code_word (m := ⟨13, 1⟩) (meth := k13m1) (c := k13c1) (by decide +kernel) rfl rfl rfl (by decide +kernel)
def codes1 : List Jvm.Cond := [Jvm.Cond.code x code maxLocals ret, Jvm.Cond.code ({ cls := "java/lang/String", name := "<init>", desc := "([C)V" } : Jvm.MethodName) jdk_42_method_3_code (2 : Nat) (Option.none : Option Jvm.ClassFile.FieldType), Jvm.Cond.code ({ cls := "java/lang/String", name := "<init>", desc := "([CIILjava/lang/Void;)V" } : Jvm.MethodName) jdk_42_method_149_code (6 : Nat) (Option.none : Option Jvm.ClassFile.FieldType), Jvm.Cond.code ({ cls := "java/lang/Object", name := "<init>", desc := "()V" } : Jvm.MethodName) object_method_1_code (1 : Nat) (Option.none : Option Jvm.ClassFile.FieldType), Jvm.Cond.code ({ cls := "com/example/covenantry/covenantry/FigurePlaces", name := "column", desc := "(Ljava/lang/String;)J" } : Jvm.MethodName) prog_6_method_5_code (5 : Nat) (Option.some Jvm.ClassFile.FieldType.long), Jvm.Cond.code ({ cls := "java/lang/String", name := "length", desc := "()I" } : Jvm.MethodName) jdk_42_method_54_code (1 : Nat) (Option.some Jvm.ClassFile.FieldType.int), Jvm.Cond.code ({ cls := "java/lang/String", name := "coder", desc := "()B" } : Jvm.MethodName) jdk_42_method_152_code (1 : Nat) (Option.some Jvm.ClassFile.FieldType.byte), Jvm.Cond.code ({ cls := "java/lang/Math", name := "min", desc := "(II)I" } : Jvm.MethodName) jdk_29_method_69_code (2 : Nat) (Option.some Jvm.ClassFile.FieldType.int), Jvm.Cond.code ({ cls := "com/example/covenantry/covenantry/FigurePlacesColumnPinLaw", name := "bad", desc := "([CIII)Z" } : Jvm.MethodName) method_5_code (4 : Nat) (Option.some Jvm.ClassFile.FieldType.boolean), Jvm.Cond.code ({ cls := "com/example/covenantry/covenantry/FigurePlacesColumnPinLaw", name := "nonzero", desc := "([CIII)Z" } : Jvm.MethodName) method_6_code (4 : Nat) (Option.some Jvm.ClassFile.FieldType.boolean), Jvm.Cond.code ({ cls := "com/example/covenantry/covenantry/FigurePlacesColumnPinLaw", name := "pick", desc := "(JI)C" } : Jvm.MethodName) method_2_code (5 : Nat) (Option.some Jvm.ClassFile.FieldType.char), Jvm.Cond.code ({ cls := "java/lang/StringUTF16", name := "compress", desc := "([CII)[B" } : Jvm.MethodName) jdk_52_method_16_code (6 : Nat) (Option.some (Jvm.ClassFile.FieldType.array Jvm.ClassFile.FieldType.byte)), Jvm.Cond.code ({ cls := "java/lang/StringUTF16", name := "compress", desc := "([CI[BII)I" } : Jvm.MethodName) jdk_52_method_21_code (7 : Nat) (Option.some Jvm.ClassFile.FieldType.int), Jvm.Cond.code ({ cls := "java/lang/StringUTF16", name := "coderFromArrayLen", desc := "([BI)B" } : Jvm.MethodName) jdk_52_method_15_code (2 : Nat) (Option.some Jvm.ClassFile.FieldType.byte), Jvm.Cond.code ({ cls := "java/lang/String", name := "charAt", desc := "(I)C" } : Jvm.MethodName) jdk_42_method_56_code (2 : Nat) (Option.some Jvm.ClassFile.FieldType.char), Jvm.Cond.code ({ cls := "java/lang/String", name := "isLatin1", desc := "()Z" } : Jvm.MethodName) jdk_42_method_154_code (1 : Nat) (Option.some Jvm.ClassFile.FieldType.boolean), Jvm.Cond.code ({ cls := "java/lang/StringLatin1", name := "charAt", desc := "([BI)C" } : Jvm.MethodName) jdk_43_method_2_code (2 : Nat) (Option.some Jvm.ClassFile.FieldType.char), Jvm.Cond.code ({ cls := "java/lang/String", name := "checkIndex", desc := "(II)V" } : Jvm.MethodName) jdk_42_method_155_code (2 : Nat) (Option.none : Option Jvm.ClassFile.FieldType), Jvm.Cond.code ({ cls := "jdk/internal/util/Preconditions", name := "checkIndex", desc := "(IILjava/util/function/BiFunction;)I" } : Jvm.MethodName) jdk_41_method_11_code (3 : Nat) (Option.some Jvm.ClassFile.FieldType.int), Jvm.Cond.code ({ cls := "com/example/covenantry/covenantry/FigurePlacesColumnPinLaw", name := "upper", desc := "(C)Z" } : Jvm.MethodName) method_3_code (1 : Nat) (Option.some Jvm.ClassFile.FieldType.boolean), Jvm.Cond.code ({ cls := "com/example/covenantry/covenantry/FigurePlacesColumnPinLaw", name := "digit", desc := "(C)Z" } : Jvm.MethodName) method_4_code (1 : Nat) (Option.some Jvm.ClassFile.FieldType.boolean), Jvm.Cond.code ({ cls := "com/example/covenantry/covenantry/IsoDate", name := "digits", desc := "(Ljava/lang/String;II)I" } : Jvm.MethodName) prog_13_method_4_code (6 : Nat) (Option.some Jvm.ClassFile.FieldType.int)]
set_option maxRecDepth 65536 in
theorem codes_eq : words1.filter isCode = codes1 := rfl
theorem w_codes : ∀ c ∈ words1.filter isCode, c.before args0 about1 = true := by
  rw [codes_eq]
  intro c hc
  simp only [codes1, List.mem_cons, List.not_mem_nil, or_false] at hc
  rcases hc with rfl | rfl | rfl | rfl | rfl | rfl | rfl | rfl | rfl | rfl | rfl | rfl | rfl | rfl | rfl | rfl | rfl | rfl | rfl | rfl | rfl | rfl
  · exact w_c0
  · exact w_c1
  · exact w_c2
  · exact w_c3
  · exact w_c4
  · exact w_c5
  · exact w_c6
  · exact w_c7
  · exact w_c8
  · exact w_c9
  · exact w_c10
  · exact w_c11
  · exact w_c12
  · exact w_c13
  · exact w_c14
  · exact w_c15
  · exact w_c16
  · exact w_c17
  · exact w_c18
  · exact w_c19
  · exact w_c20
  · exact w_c21
set_option maxRecDepth 65536 in
theorem w_t1 : (words1.take 24).all (fun c => isCode c || c.before args0 about1) = true := by decide +kernel
set_option maxRecDepth 65536 in
theorem w_t2 : ((words1.drop 24).take 24).all (fun c => isCode c || c.before args0 about1) = true := by decide +kernel
set_option maxRecDepth 65536 in
theorem w_t3 : (((words1.drop 24).drop 24).take 24).all (fun c => isCode c || c.before args0 about1) = true := by decide +kernel
set_option maxRecDepth 65536 in
theorem w_t4 : ((((words1.drop 24).drop 24).drop 24).take 24).all (fun c => isCode c || c.before args0 about1) = true := by decide +kernel
set_option maxRecDepth 65536 in
theorem w_t5 : ((((words1.drop 24).drop 24).drop 24).drop 24).all (fun c => isCode c || c.before args0 about1) = true := by decide +kernel
theorem w_tables : (allAtoms (Jvm.Cond.code x code maxLocals ret :: tables_1)).before args0 about1 = true := by
  rw [allAtoms_all]
  show words1.all (fun c => c.before args0 about1) = true
  refine all_split ?_ w_codes
  rw [← List.take_append_drop 24 words1, List.all_append, w_t1, ← List.take_append_drop 24 (words1.drop 24), List.all_append, w_t2, ← List.take_append_drop 24 ((words1.drop 24).drop 24), List.all_append, w_t3, ← List.take_append_drop 24 (((words1.drop 24).drop 24).drop 24), List.all_append, w_t4, w_t5]
  rfl
set_option maxRecDepth 65536 in
theorem w_rest : rest_1_c.before args0 about1 = true := by decide +kernel
set_option maxRecDepth 65536 in
theorem w_case : (Jvm.Cond.and given_1 narrow_1).before args0 about1 = true := by decide +kernel
set_option maxRecDepth 65536 in
theorem w_consts : constsHeld consts_1 about1 := Jvm.Lit.constsHeldB_iff.mp (by decide +kernel)
theorem w_applies : (headSpec (Jvm.Cond.code x code maxLocals ret :: tables_1) room_1).applies x e0.platform about1 = true :=
  (Spec.applies_iff w_frames).mpr ⟨w_running, w_runnable, w_alone, w_named, w_hears, w_ripe, w_room, w_tables⟩
theorem atStart : AtStart classFile x code maxLocals ret World_1 tables_1 room_1 Calls_1 rest_1 Pre_1 launch0 p0 e0 about1 theMethod args0 below0 :=
  ⟨lists_1, trivial, launch0.admits_env _ _ _, launch0.least_env, fairChoices_fair.cas, fairChoices_fair.clock, w_frames, w_args, w_heap, w_applies, ⟨w_consts, trivial⟩, w_rest, w_case⟩
end start1
theorem witness_1 : WitnessClaimed_1 := ⟨start1.p0, start1.e0, start1.about1, start1.theMethod, start1.args0, start1.below0, start1.atStart⟩
end Jvm.Pilot.@@N@@
