import JvmDerived
import JvmDerived.Pilot.@@N@@Statement
import JvmDerived.Pilot.@@N@@Code
set_option linter.unusedVariables false
set_option linter.unusedSimpArgs false
namespace Jvm.Pilot.@@N@@
open Jvm Jvm.ClassFile Sem Op Lib Jvm.Free Jvm.Stand Jvm.LawKit Jvm.RoadKit Bundle Jvm.Pilot.@@N@@.Jvm.D
abbrev OTr := List (Nat × Instr × Nat)
abbrev OR := Option (Prop × Nat × Array Slot × List Value)
/-- place j of the array at a holds v -/
def Rd (Z : State) (h : Heap) (a : Addr) (ty : FieldType) (j : Int32) (v : Value) : Prop := ∃ c, Arr Z h a c ty ∧ ¬ (j < 0 ∨ c.slots.size ≤ j.toNatClampNeg) ∧ c.slots[j.toNatClampNeg]? = some v
/-- the array at a has n places -/
def Ln (Z : State) (h : Heap) (a : Addr) (n : Int32) : Prop := ∃ c ty, Arr Z h a c ty ∧ c.slots.size.toInt32 = n
def okB (b : ByteArray) (t : OTr) : Bool := t.all fun x => decide (decode b x.1 = .ok (x.2.1, x.2.2))
def cII : ClassFile.Cond → Bool → Int32 → Int32 → Prop
  | .eq, true, x, y => x = y
  | .eq, false, x, y => ¬ x = y
  | .ne, true, x, y => ¬ x = y
  | .ne, false, x, y => x = y
  | .lt, true, x, y => x < y
  | .lt, false, x, y => ¬ x < y
  | .ge, true, x, y => ¬ x < y
  | .ge, false, x, y => x < y
  | .gt, true, x, y => y < x
  | .gt, false, x, y => ¬ y < x
  | .le, true, x, y => ¬ y < x
  | .le, false, x, y => y < x
def cAA : ClassFile.ACond → Bool → Value → Value → Prop
  | .eq, true, x, y => x = y
  | .eq, false, x, y => ¬ x = y
  | .ne, true, x, y => ¬ x = y
  | .ne, false, x, y => x = y
def oAnd (c : Prop) (r : OR) : OR := match r with | some (P, x) => some (c ∧ P, x) | none => none
def oLdI (L : Array Slot) (x : Nat) (f : Value → OR) : OR := match L[x]? with | some (.val (.int v)) => f (.int v) | _ => none
def oLdI' (L : Array Slot) (x : Nat) (f : Int32 → OR) : OR := match L[x]? with | some (.val (.int v)) => f v | _ => none
def oLdJ (L : Array Slot) (x : Nat) (f : Value → OR) : OR := match L[x]? with | some (.val (.long v)) => f (.long v) | _ => none
def oLdA (L : Array Slot) (x : Nat) (f : Value → OR) : OR := match L[x]? with | some (.val (.ref v)) => f (.ref v) | some (.val .null) => f .null | _ => none
def oG (o : List Value) (pc : Nat) (f : List Value → OR) (g : OR) : OR := match o with | .retAddr q :: o' => (bif Nat.beq q pc then f o' else g) | _ => g
def oLdG (L : Array Slot) (x : Nat) (f : Value → OR) : OR := match L[x]? with | some (.val v) => f v | _ => none
def oTop (S : List Value) (f : Value → List Value → OR) : OR := match S with | v :: r => f v r | _ => none
def oStG (L : Array Slot) (x : Nat) (v : Value) (f : Array Slot → OR) : OR := match L[x]? with | some .unset => f (L.setIfInBounds x (.val v)) | some (.val (.int _)) => f (L.setIfInBounds x (.val v)) | some (.val (.ref _)) => f (L.setIfInBounds x (.val v)) | some (.val .null) => f (L.setIfInBounds x (.val v)) | _ => none
def oSt (L : Array Slot) (x : Nat) (v : Value) (f : Array Slot → OR) : OR := match storeLocals L x v with | some L' => f L' | none => none
def oI (S : List Value) (f : Int32 → List Value → OR) : OR := match S with | .int v :: r => f v r | _ => none
def oJ (S : List Value) (f : Int64 → List Value → OR) : OR := match S with | .long v :: r => f v r | _ => none
def oR (S : List Value) (f : Addr → List Value → OR) : OR := match S with | .ref v :: r => f v r | _ => none
def oA (S : List Value) (f : Value → List Value → OR) : OR := match S with | .ref v :: r => f (.ref v) r | .null :: r => f .null r | _ => none
def oNul (S : List Value) (f : List Value → OR) (g : Addr → List Value → OR) : OR := match S with | .null :: r => f r | .ref v :: r => g v r | _ => none
def o1 (S : List Value) (f : Value → List Value → OR) : OR := match S with | .ref v :: r => f (.ref v) r | .null :: r => f .null r | .int v :: r => f (.int v) r | _ => none
def oD2 (S : List Value) (f : Int64 → List Value → OR) (g : Value → Value → List Value → OR) : OR := match S with | .long v :: r => f v r | S => o1 S fun v r => o1 r fun w r' => g v w r'
def oII (S : List Value) (f : Int32 → Int32 → List Value → OR) : OR := match S with | .int y :: .int x :: r => f x y r | _ => none
def oJJ (S : List Value) (f : Int64 → Int64 → List Value → OR) : OR := match S with | .long y :: .long x :: r => f x y r | _ => none
def oJI (S : List Value) (f : Int64 → Int32 → List Value → OR) : OR := match S with | .int y :: .long x :: r => f x y r | _ => none
def oIR (S : List Value) (f : Int32 → Addr → List Value → OR) : OR := match S with | .int y :: .ref x :: r => f y x r | _ => none
def oB (o : List Value) (f g : List Value → OR) : OR := match o with | .ref _ :: o' => f o' | .null :: o' => g o' | _ => none
def oV (o : List Value) (f : Value → List Value → OR) : OR := match o with | v :: o' => f v o' | _ => none
def oN (o : List Value) (f : Int32 → List Value → OR) : OR := match o with | .int v :: o' => f v o' | _ => none
def oM (o : List Value) (f : Int64 → List Value → OR) : OR := match o with | .long v :: o' => f v o' | _ => none
def oTo (pc : Nat) (d : Int) (f : Nat → OR) : OR := bif decide (0 ≤ (pc : Int) + d) then f ((pc : Int) + d).toNat else none
def ost (Z : State) (h : Heap) (a0 : Array Value) (own : String) (i : Instr) (n pc : Nat) (L : Array Slot) (S : List Value) (o : List Value) (k : Nat → Array Slot → List Value → List Value → OR) : OR :=
  match i with
  | .iload x => bif Nat.beq n 2 then oLdI L x fun v => k (pc + 2) L (v :: S) o else none
  | .iload_n x => bif Nat.beq n 1 then oLdI L x.val fun v => k (pc + 1) L (v :: S) o else none
  | .lload x => bif Nat.beq n 2 then oLdJ L x fun v => k (pc + 2) L (v :: S) o else none
  | .lload_n x => bif Nat.beq n 1 then oLdJ L x.val fun v => k (pc + 1) L (v :: S) o else none
  | .aload x => bif Nat.beq n 2 then oG o pc (fun o' => oLdG L x fun v => oAnd (v.isRef = true) (k (pc + 2) L (v :: S) o')) (oLdA L x fun v => k (pc + 2) L (v :: S) o) else none
  | .aload_n x => bif Nat.beq n 1 then oG o pc (fun o' => oLdG L x.val fun v => oAnd (v.isRef = true) (k (pc + 1) L (v :: S) o')) (oLdA L x.val fun v => k (pc + 1) L (v :: S) o) else none
  | .istore x => bif Nat.beq n 2 then oI S fun v r => oSt L x (.int v) fun L' => k (pc + 2) L' r o else none
  | .istore_n x => bif Nat.beq n 1 then oI S fun v r => oSt L x.val (.int v) fun L' => k (pc + 1) L' r o else none
  | .lstore x => bif Nat.beq n 2 then oJ S fun v r => oSt L x (.long v) fun L' => k (pc + 2) L' r o else none
  | .lstore_n x => bif Nat.beq n 1 then oJ S fun v r => oSt L x.val (.long v) fun L' => k (pc + 1) L' r o else none
  | .astore x => bif Nat.beq n 2 then oG o pc (fun o' => oTop S fun v r => oAnd (v.isRef = true) (oStG L x v fun L' => k (pc + 2) L' r o')) (oA S fun v r => oSt L x v fun L' => k (pc + 2) L' r o) else none
  | .astore_n x => bif Nat.beq n 1 then oG o pc (fun o' => oTop S fun v r => oAnd (v.isRef = true) (oStG L x.val v fun L' => k (pc + 1) L' r o')) (oA S fun v r => oSt L x.val v fun L' => k (pc + 1) L' r o) else none
  | .iconst i => bif Nat.beq n 1 then k (pc + 1) L (.int (Int32.ofInt i) :: S) o else none
  | .bipush i => bif Nat.beq n 2 then k (pc + 2) L (.int (Int8.ofInt i).toInt32 :: S) o else none
  | .sipush i => bif Nat.beq n 3 then k (pc + 3) L (.int (Int16.ofInt i).toInt32 :: S) o else none
  | .lconst i => bif Nat.beq n 1 then k (pc + 1) L (.long (Int64.ofNat i) :: S) o else none
  | .aconst_null => bif Nat.beq n 1 then k (pc + 1) L (.null :: S) o else none
  | .iadd => bif Nat.beq n 1 then oII S fun x y r => k (pc + 1) L (.int (x + y) :: r) o else none
  | .isub => bif Nat.beq n 1 then oII S fun x y r => k (pc + 1) L (.int (x - y) :: r) o else none
  | .imul => bif Nat.beq n 1 then oII S fun x y r => k (pc + 1) L (.int (x * y) :: r) o else none
  | .iand => bif Nat.beq n 1 then oII S fun x y r => k (pc + 1) L (.int (x &&& y) :: r) o else none
  | .ior => bif Nat.beq n 1 then oII S fun x y r => k (pc + 1) L (.int (x ||| y) :: r) o else none
  | .ixor => bif Nat.beq n 1 then oII S fun x y r => k (pc + 1) L (.int (x ^^^ y) :: r) o else none
  | .ishl => bif Nat.beq n 1 then oII S fun x y r => k (pc + 1) L (.int (x <<< (y &&& 31)) :: r) o else none
  | .ishr => bif Nat.beq n 1 then oII S fun x y r => k (pc + 1) L (.int (x >>> (y &&& 31)) :: r) o else none
  | .iushr => bif Nat.beq n 1 then oII S fun x y r => k (pc + 1) L (.int (XT.ushr x y) :: r) o else none
  | .idiv => bif Nat.beq n 1 then oII S fun x y r => oAnd (y ≠ 0) (k (pc + 1) L (.int (x / y) :: r) o) else none
  | .irem => bif Nat.beq n 1 then oII S fun x y r => oAnd (y ≠ 0) (k (pc + 1) L (.int (x % y) :: r) o) else none
  | .ladd => bif Nat.beq n 1 then oJJ S fun x y r => k (pc + 1) L (.long (x + y) :: r) o else none
  | .lsub => bif Nat.beq n 1 then oJJ S fun x y r => k (pc + 1) L (.long (x - y) :: r) o else none
  | .lmul => bif Nat.beq n 1 then oJJ S fun x y r => k (pc + 1) L (.long (x * y) :: r) o else none
  | .land => bif Nat.beq n 1 then oJJ S fun x y r => k (pc + 1) L (.long (x &&& y) :: r) o else none
  | .lor => bif Nat.beq n 1 then oJJ S fun x y r => k (pc + 1) L (.long (x ||| y) :: r) o else none
  | .lxor => bif Nat.beq n 1 then oJJ S fun x y r => k (pc + 1) L (.long (x ^^^ y) :: r) o else none
  | .lcmp => bif Nat.beq n 1 then oJJ S fun x y r => k (pc + 1) L (.int (XT.cmpL x y) :: r) o else none
  | .ldiv => bif Nat.beq n 1 then oJJ S fun x y r => oAnd (y ≠ 0) (k (pc + 1) L (.long (x / y) :: r) o) else none
  | .lrem => bif Nat.beq n 1 then oJJ S fun x y r => oAnd (y ≠ 0) (k (pc + 1) L (.long (x % y) :: r) o) else none
  | .lshl => bif Nat.beq n 1 then oJI S fun x y r => k (pc + 1) L (.long (x <<< (y.toInt64 &&& 63)) :: r) o else none
  | .lshr => bif Nat.beq n 1 then oJI S fun x y r => k (pc + 1) L (.long (x >>> (y.toInt64 &&& 63)) :: r) o else none
  | .lushr => bif Nat.beq n 1 then oJI S fun x y r => k (pc + 1) L (.long (XT.ushrL x y) :: r) o else none
  | .ineg => bif Nat.beq n 1 then oI S fun v r => k (pc + 1) L (.int (-v) :: r) o else none
  | .i2l => bif Nat.beq n 1 then oI S fun v r => k (pc + 1) L (.long (v.toInt64) :: r) o else none
  | .i2b => bif Nat.beq n 1 then oI S fun v r => k (pc + 1) L (.int (v.toInt8.toInt32) :: r) o else none
  | .i2c => bif Nat.beq n 1 then oI S fun v r => k (pc + 1) L (.int (v.toUInt32.toUInt16.toUInt32.toInt32) :: r) o else none
  | .i2s => bif Nat.beq n 1 then oI S fun v r => k (pc + 1) L (.int (v.toInt16.toInt32) :: r) o else none
  | .lneg => bif Nat.beq n 1 then oJ S fun v r => k (pc + 1) L (.long (-v) :: r) o else none
  | .l2i => bif Nat.beq n 1 then oJ S fun v r => k (pc + 1) L (.int (v.toInt32) :: r) o else none
  | .dup => bif Nat.beq n 1 then o1 S fun v r => k (pc + 1) L (v :: v :: r) o else none
  | .pop => bif Nat.beq n 1 then o1 S fun v r => k (pc + 1) L r o else none
  | .dup_x1 => bif Nat.beq n 1 then o1 S fun v r => o1 r fun w r' => k (pc + 1) L (v :: w :: v :: r') o else none
  | .dup2 => bif Nat.beq n 1 then oD2 S (fun v r => k (pc + 1) L (.long v :: .long v :: r) o) fun v w r => k (pc + 1) L (v :: w :: v :: w :: r) o else none
  | .iinc x d => bif Nat.beq n 3 then oLdI' L x fun v => oSt L x (.int (v + Int32.ofInt d)) fun L' => k (pc + 3) L' S o else none
  | .goto d => bif Nat.beq n 3 then oTo pc d fun q => k q L S o else none
  | .ifCond cd d => bif Nat.beq n 3 then oI S fun v r => oB o (fun o' => oAnd (cII cd true v 0) (oTo pc d fun q => k q L r o')) fun o' => oAnd (cII cd false v 0) (k (pc + 3) L r o') else none
  | .if_icmp cd d => bif Nat.beq n 3 then oII S fun x y r => oB o (fun o' => oAnd (cII cd true x y) (oTo pc d fun q => k q L r o')) fun o' => oAnd (cII cd false x y) (k (pc + 3) L r o') else none
  | .ifnull d => bif Nat.beq n 3 then oNul S (fun r => oTo pc d fun q => k q L r o) fun b r => k (pc + 3) L r o else none
  | .ifnonnull d => bif Nat.beq n 3 then oNul S (fun r => k (pc + 3) L r o) fun b r => oTo pc d fun q => k q L r o else none
  | .if_acmp cd d => bif Nat.beq n 3 then oA S fun y r1 => oA r1 fun x r => oB o (fun o' => oAnd (cAA cd true x y) (oTo pc d fun q => k q L r o')) fun o' => oAnd (cAA cd false x y) (k (pc + 3) L r o') else none
  | .iaload => bif Nat.beq n 1 then oIR S fun j a r => oV o fun v o' => oAnd (Rd Z h a .int j v) (k (pc + 1) L (v :: r) o') else none
  | .laload => bif Nat.beq n 1 then oIR S fun j a r => oV o fun v o' => oAnd (Rd Z h a .long j v) (k (pc + 1) L (v :: r) o') else none
  | .caload => bif Nat.beq n 1 then oIR S fun j a r => oV o fun v o' => oAnd (Rd Z h a .char j v) (k (pc + 1) L (v :: r) o') else none
  | .baload => bif Nat.beq n 1 then oIR S fun j a r => oV o fun v o' => oAnd (Rd Z h a .byte j v) (k (pc + 1) L (v :: r) o') else none
  | .aaload => bif Nat.beq n 1 then oIR S fun j a r => oV o fun v o' => oAnd (∃ ty, ty.isReference = true ∧ Rd Z h a ty j v) (k (pc + 1) L (v :: r) o') else none
  | .arraylength => bif Nat.beq n 1 then oR S fun a r => oN o fun n o' => oAnd (Ln Z h a n) (k (pc + 1) L (.int n :: r) o') else none
  | .ldc i => bif Nat.beq n 2 then oN o fun v o' => oAnd ((Jvm.Cond.constant own i v).before a0 Z = true) (k (pc + 2) L (.int v :: S) o') else none
  | .ldc_w i => bif Nat.beq n 3 then oN o fun v o' => oAnd ((Jvm.Cond.constant own i v).before a0 Z = true) (k (pc + 3) L (.int v :: S) o') else none
  | .ldc2_w i => bif Nat.beq n 3 then oM o fun v o' => oAnd ((Jvm.Cond.constantLong own i v).before a0 Z = true) (k (pc + 3) L (.long v :: S) o') else none
  | _ => none
def orun (Z : State) (h : Heap) (a0 : Array Value) (own : String) : OTr → List Value → Nat → Array Slot → List Value → OR
  | [], _, pc, L, S => some (True, pc, L, S)
  | x :: t, o, pc, L, S => bif Nat.beq x.1 pc then ost Z h a0 own x.2.1 x.2.2 pc L S o fun pc L S o => orun Z h a0 own t o pc L S else none
section OwnLaws
variable {r : Prop × Nat × Array Slot × List Value}
theorem oAnd_ok {c : Prop} {q : OR} {P : Prop} {x : Nat × Array Slot × List Value} (h : oAnd c q = some (P, x)) (hP : P) : ∃ P', c ∧ P' ∧ q = some (P', x) := by
  unfold oAnd at h
  split at h
  · simp only [Option.some.injEq, Prod.mk.injEq] at h
    obtain ⟨rfl, rfl⟩ := h
    exact ⟨_, hP.1, hP.2, rfl⟩
  · cases h
theorem oLdI_ok {L : Array Slot} {x : Nat} {f : Value → OR} (h : oLdI L x f = some r) : ∃ v, L[x]? = some (.val (.int v)) ∧ f (.int v) = some r := by
  unfold oLdI at h
  split at h
  · exact ⟨_, by assumption, h⟩
  · cases h
theorem oLdI'_ok {L : Array Slot} {x : Nat} {f : Int32 → OR} (h : oLdI' L x f = some r) : ∃ v, L[x]? = some (.val (.int v)) ∧ f v = some r := by
  unfold oLdI' at h
  split at h
  · exact ⟨_, by assumption, h⟩
  · cases h
theorem oLdJ_ok {L : Array Slot} {x : Nat} {f : Value → OR} (h : oLdJ L x f = some r) : ∃ v, L[x]? = some (.val (.long v)) ∧ f (.long v) = some r := by
  unfold oLdJ at h
  split at h
  · exact ⟨_, by assumption, h⟩
  · cases h
theorem oLdA_ok {L : Array Slot} {x : Nat} {f : Value → OR} (h : oLdA L x f = some r) : ∃ v, L[x]? = some (.val v) ∧ v.isRef = true ∧ f v = some r := by
  unfold oLdA at h
  split at h
  · exact ⟨_, by assumption, rfl, h⟩
  · exact ⟨_, by assumption, rfl, h⟩
  · cases h
theorem oSt_ok {L : Array Slot} {x : Nat} {v : Value} {f : Array Slot → OR} (h : oSt L x v f = some r) : ∃ L', storeLocals L x v = some L' ∧ f L' = some r := by
  unfold oSt at h
  split at h
  · exact ⟨_, by assumption, h⟩
  · cases h
theorem oG_ok {o : List Value} {pc : Nat} {f : List Value → OR} {g : OR} (h : oG o pc f g = some r) : (∃ o', f o' = some r) ∨ g = some r := by
  unfold oG at h
  split at h
  · rename_i q o'
    cases hb : Nat.beq q pc
    · rw [hb] at h; exact Or.inr h
    · rw [hb] at h; exact Or.inl ⟨_, h⟩
  · exact Or.inr h
theorem oLdG_ok {L : Array Slot} {x : Nat} {f : Value → OR} (h : oLdG L x f = some r) : ∃ v, L[x]? = some (.val v) ∧ f v = some r := by
  unfold oLdG at h
  split at h
  · exact ⟨_, by assumption, h⟩
  · cases h
theorem oTop_ok {S : List Value} {f : Value → List Value → OR} (h : oTop S f = some r) : ∃ v q, S = v :: q ∧ f v q = some r := by
  unfold oTop at h
  split at h
  · exact ⟨_, _, rfl, h⟩
  · cases h
theorem oStG_ok {L : Array Slot} {x : Nat} {v : Value} {f : Array Slot → OR} (h : oStG L x v f = some r) (hv : v.isRef = true) : ∃ L', storeLocals L x v = some L' ∧ f L' = some r := by
  have c1 : v.category = 1 := by rcases ref_cases hv with rfl | ⟨b, rfl⟩ <;> rfl
  unfold oStG at h
  split at h
  · rename_i e; exact ⟨_, storeLocals_cat1 e c1 (by simp), h⟩
  · rename_i e; exact ⟨_, storeLocals_cat1 e c1 (by simp [Value.category]), h⟩
  · rename_i e; exact ⟨_, storeLocals_cat1 e c1 (by simp [Value.category]), h⟩
  · rename_i e; exact ⟨_, storeLocals_cat1 e c1 (by simp [Value.category]), h⟩
  · cases h
theorem oI_ok {S : List Value} {f : Int32 → List Value → OR} (h : oI S f = some r) : ∃ v q, S = .int v :: q ∧ f v q = some r := by
  unfold oI at h
  split at h
  · exact ⟨_, _, rfl, h⟩
  · cases h
theorem oJ_ok {S : List Value} {f : Int64 → List Value → OR} (h : oJ S f = some r) : ∃ v q, S = .long v :: q ∧ f v q = some r := by
  unfold oJ at h
  split at h
  · exact ⟨_, _, rfl, h⟩
  · cases h
theorem oR_ok {S : List Value} {f : Addr → List Value → OR} (h : oR S f = some r) : ∃ v q, S = .ref v :: q ∧ f v q = some r := by
  unfold oR at h
  split at h
  · exact ⟨_, _, rfl, h⟩
  · cases h
theorem oA_ok {S : List Value} {f : Value → List Value → OR} (h : oA S f = some r) : ∃ v q, S = v :: q ∧ v.isRef = true ∧ f v q = some r := by
  unfold oA at h
  split at h
  · exact ⟨_, _, rfl, rfl, h⟩
  · exact ⟨_, _, rfl, rfl, h⟩
  · cases h
theorem oNul_ok {S : List Value} {f : List Value → OR} {g : Addr → List Value → OR} (h : oNul S f g = some r) : (∃ q, S = .null :: q ∧ f q = some r) ∨ ∃ b q, S = .ref b :: q ∧ g b q = some r := by
  unfold oNul at h
  split at h
  · exact Or.inl ⟨_, rfl, h⟩
  · exact Or.inr ⟨_, _, rfl, h⟩
  · cases h
theorem o1_ok {S : List Value} {f : Value → List Value → OR} (h : o1 S f = some r) : ∃ v q, S = v :: q ∧ v.category = 1 ∧ f v q = some r := by
  unfold o1 at h
  split at h
  · exact ⟨_, _, rfl, rfl, h⟩
  · exact ⟨_, _, rfl, rfl, h⟩
  · exact ⟨_, _, rfl, rfl, h⟩
  · cases h
theorem oD2_ok {S : List Value} {f : Int64 → List Value → OR} {g : Value → Value → List Value → OR} (h : oD2 S f g = some r) : (∃ v q, S = .long v :: q ∧ f v q = some r) ∨ ∃ v w q, S = v :: w :: q ∧ v.category = 1 ∧ w.category = 1 ∧ g v w q = some r := by
  unfold oD2 at h
  split at h
  · exact Or.inl ⟨_, _, rfl, h⟩
  · obtain ⟨v, q, rfl, e1, e2⟩ := o1_ok h
    obtain ⟨w, q', rfl, e3, e4⟩ := o1_ok e2
    exact Or.inr ⟨_, _, _, rfl, e1, e3, e4⟩
theorem oII_ok {S : List Value} {f : Int32 → Int32 → List Value → OR} (h : oII S f = some r) : ∃ x y q, S = .int y :: .int x :: q ∧ f x y q = some r := by
  unfold oII at h
  split at h
  · exact ⟨_, _, _, rfl, h⟩
  · cases h
theorem oJJ_ok {S : List Value} {f : Int64 → Int64 → List Value → OR} (h : oJJ S f = some r) : ∃ x y q, S = .long y :: .long x :: q ∧ f x y q = some r := by
  unfold oJJ at h
  split at h
  · exact ⟨_, _, _, rfl, h⟩
  · cases h
theorem oJI_ok {S : List Value} {f : Int64 → Int32 → List Value → OR} (h : oJI S f = some r) : ∃ x y q, S = .int y :: .long x :: q ∧ f x y q = some r := by
  unfold oJI at h
  split at h
  · exact ⟨_, _, _, rfl, h⟩
  · cases h
theorem oIR_ok {S : List Value} {f : Int32 → Addr → List Value → OR} (h : oIR S f = some r) : ∃ y x q, S = .int y :: .ref x :: q ∧ f y x q = some r := by
  unfold oIR at h
  split at h
  · exact ⟨_, _, _, rfl, h⟩
  · cases h
theorem oB_ok {o : List Value} {f g : List Value → OR} (h : oB o f g = some r) : (∃ o', f o' = some r) ∨ ∃ o', g o' = some r := by
  unfold oB at h
  split at h
  · exact Or.inl ⟨_, h⟩
  · exact Or.inr ⟨_, h⟩
  · cases h
theorem oV_ok {o : List Value} {f : Value → List Value → OR} (h : oV o f = some r) : ∃ v o', f v o' = some r := by
  unfold oV at h
  split at h
  · exact ⟨_, _, h⟩
  · cases h
theorem oN_ok {o : List Value} {f : Int32 → List Value → OR} (h : oN o f = some r) : ∃ v o', f v o' = some r := by
  unfold oN at h
  split at h
  · exact ⟨_, _, h⟩
  · cases h
theorem oM_ok {o : List Value} {f : Int64 → List Value → OR} (h : oM o f = some r) : ∃ v o', f v o' = some r := by
  unfold oM at h
  split at h
  · exact ⟨_, _, h⟩
  · cases h
theorem oTo_ok {pc : Nat} {d : Int} {f : Nat → OR} (h : oTo pc d f = some r) : ∃ q, 0 ≤ (pc : Int) + d ∧ ((pc : Int) + d).toNat = q ∧ f q = some r := by
  unfold oTo at h
  by_cases q : 0 ≤ (pc : Int) + d
  · simp only [q, decide_true, cond_true] at h
    exact ⟨_, q, rfl, h⟩
  · simp [q] at h
theorem bif_ok {n n' : Nat} {q : OR} (h : (bif Nat.beq n n' then q else none) = some r) : n = n' ∧ q = some r := by
  cases hb : Nat.beq n n'
  · rw [hb] at h; cases h
  · rw [hb] at h; exact ⟨Nat.eq_of_beq_eq_true hb, h⟩
theorem cII_ok {cd : ClassFile.Cond} {b : Bool} {x y : Int32} (h : cII cd b x y) : if_icmp.holds cd x y = b := by
  cases cd <;> cases b <;> simp only [cII] at h <;> simp [if_icmp.holds, h] <;> first | done | exact Int32.not_lt.mp h | exact Int32.not_le.mpr h | exact h
theorem cI0_ok {cd : ClassFile.Cond} {b : Bool} {x : Int32} (h : cII cd b x 0) : ifCond.holds cd x = b := by
  cases cd <;> cases b <;> simp only [cII] at h <;> simp [ifCond.holds, h] <;> first | done | exact Int32.not_lt.mp h | exact Int32.not_le.mpr h | exact h
theorem cAA_ok {cd : ClassFile.ACond} {b : Bool} {x y : Value} (h : cAA cd b x y) : XT.acmp cd x y = b := by
  cases cd <;> cases b <;> simp only [cAA] at h <;> simp [XT.acmp, h]
theorem lrem_mod (x y : Int64) : x - (x / y) * y = x % y := by
  apply Int64.toInt_inj.mp
  have h1 := Int64.le_toInt (x % y)
  have h2 := Int64.toInt_lt (x % y)
  rw [Int64.toInt_sub, Int64.toInt_mul, Int64.toInt_div, Int.bmod_mul_bmod, Int.sub_bmod_bmod, Int.mul_comm (x.toInt.tdiv y.toInt), ← Int.tmod_def, ← Int64.toInt_mod]
  exact Int.bmod_eq_of_le_mul_two (by omega) (by omega)
end OwnLaws
section OwnRun
variable {p : Program} {l : Launch} {e : Env} {R : Room} {s : State} {m : MethodId} {args : Array Value} {below : List Frame} {meth : Method} {c : Code} {T : State} {locs : List Loc} {cells slots : Nat} {Z : State} {a0 : Array Value} {h : Heap} {own : String}
set_option maxHeartbeats 4000000 in
theorem ost_ok (X : Stand p l e R s m args below meth c T locs cells slots) (hx : p.tables.exec = Jvm.exec) (hZ : Z.Warmed39 s.vm) (hown : s.vm.findClass own = some m.cls) (eT : T.heap = h) {i : Instr} {n pc : Nat} {L : Array Slot} {S o : List Value} {k : Nat → Array Slot → List Value → List Value → OR} {P : Prop} {x' : Nat × Array Slot × List Value} {target : State}
    (hr : ost Z h a0 own i n pc L S o k = some (P, x')) (hP : P) (hd : decode c.code pc = .ok (i, n)) (kk : ∀ pc L S o P', k pc L S o = some (P', x') → P' → Steps p.tables e below (T.setTop (mkF m pc L S)) target) : Steps p.tables e below (T.setTop (mkF m pc L S)) target := by
  unfold ost at hr
  split at hr
  · obtain ⟨rfl, hq⟩ := bif_ok hr
    obtain ⟨v, e1, e3⟩ := oLdI_ok hq
    exact XS.iload X.here hx rfl hd e1 (kk _ _ _ _ _ e3 hP)
  · obtain ⟨rfl, hq⟩ := bif_ok hr
    obtain ⟨v, e1, e3⟩ := oLdI_ok hq
    exact XS.iloadN X.here hx rfl hd e1 (kk _ _ _ _ _ e3 hP)
  · obtain ⟨rfl, hq⟩ := bif_ok hr
    obtain ⟨v, e1, e3⟩ := oLdJ_ok hq
    exact XT.lload X.here hx rfl hd e1 (kk _ _ _ _ _ e3 hP)
  · obtain ⟨rfl, hq⟩ := bif_ok hr
    obtain ⟨v, e1, e3⟩ := oLdJ_ok hq
    exact XT.lloadN X.here hx rfl hd e1 (kk _ _ _ _ _ e3 hP)
  · obtain ⟨rfl, hq⟩ := bif_ok hr
    rcases oG_ok hq with ⟨o', hr2⟩ | hr2
    · obtain ⟨v, e1, e3⟩ := oLdG_ok hr2
      obtain ⟨P', h1, h2, e4⟩ := oAnd_ok e3 hP
      exact XS.aload X.here hx rfl hd e1 h1 (kk _ _ _ _ _ e4 h2)
    · obtain ⟨v, e1, e2, e3⟩ := oLdA_ok hr2
      exact XS.aload X.here hx rfl hd e1 e2 (kk _ _ _ _ _ e3 hP)
  · obtain ⟨rfl, hq⟩ := bif_ok hr
    rcases oG_ok hq with ⟨o', hr2⟩ | hr2
    · obtain ⟨v, e1, e3⟩ := oLdG_ok hr2
      obtain ⟨P', h1, h2, e4⟩ := oAnd_ok e3 hP
      exact XS.aloadN X.here hx rfl hd e1 h1 (kk _ _ _ _ _ e4 h2)
    · obtain ⟨v, e1, e2, e3⟩ := oLdA_ok hr2
      exact XS.aloadN X.here hx rfl hd e1 e2 (kk _ _ _ _ _ e3 hP)
  · obtain ⟨rfl, hq⟩ := bif_ok hr
    obtain ⟨v, r, rfl, e3⟩ := oI_ok hq
    obtain ⟨L', e4, e5⟩ := oSt_ok e3
    exact XS.istore X.here hx rfl hd rfl e4 (kk _ _ _ _ _ e5 hP)
  · obtain ⟨rfl, hq⟩ := bif_ok hr
    obtain ⟨v, r, rfl, e3⟩ := oI_ok hq
    obtain ⟨L', e4, e5⟩ := oSt_ok e3
    exact XS.istoreN X.here hx rfl hd rfl e4 (kk _ _ _ _ _ e5 hP)
  · obtain ⟨rfl, hq⟩ := bif_ok hr
    obtain ⟨v, r, rfl, e3⟩ := oJ_ok hq
    obtain ⟨L', e4, e5⟩ := oSt_ok e3
    exact XT.lstore X.here hx rfl hd rfl e4 (kk _ _ _ _ _ e5 hP)
  · obtain ⟨rfl, hq⟩ := bif_ok hr
    obtain ⟨v, r, rfl, e3⟩ := oJ_ok hq
    obtain ⟨L', e4, e5⟩ := oSt_ok e3
    exact XT.lstoreN X.here hx rfl hd rfl e4 (kk _ _ _ _ _ e5 hP)
  · obtain ⟨rfl, hq⟩ := bif_ok hr
    rcases oG_ok hq with ⟨o', hr2⟩ | hr2
    · obtain ⟨v, r, rfl, e3⟩ := oTop_ok hr2
      obtain ⟨P', h1, h2, e4⟩ := oAnd_ok e3 hP
      obtain ⟨L', e5, e6⟩ := oStG_ok e4 h1
      exact XS.astore X.here hx rfl hd rfl h1 e5 (kk _ _ _ _ _ e6 h2)
    · obtain ⟨v, r, rfl, e2, e3⟩ := oA_ok hr2
      obtain ⟨L', e4, e5⟩ := oSt_ok e3
      exact XS.astore X.here hx rfl hd rfl e2 e4 (kk _ _ _ _ _ e5 hP)
  · obtain ⟨rfl, hq⟩ := bif_ok hr
    rcases oG_ok hq with ⟨o', hr2⟩ | hr2
    · obtain ⟨v, r, rfl, e3⟩ := oTop_ok hr2
      obtain ⟨P', h1, h2, e4⟩ := oAnd_ok e3 hP
      obtain ⟨L', e5, e6⟩ := oStG_ok e4 h1
      exact XS.astoreN X.here hx rfl hd rfl h1 e5 (kk _ _ _ _ _ e6 h2)
    · obtain ⟨v, r, rfl, e2, e3⟩ := oA_ok hr2
      obtain ⟨L', e4, e5⟩ := oSt_ok e3
      exact XS.astoreN X.here hx rfl hd rfl e2 e4 (kk _ _ _ _ _ e5 hP)
  · obtain ⟨rfl, hq⟩ := bif_ok hr
    exact XS.iconst X.here hx rfl hd (kk _ _ _ _ _ hq hP)
  · obtain ⟨rfl, hq⟩ := bif_ok hr
    exact XS.bipush X.here hx rfl hd (kk _ _ _ _ _ hq hP)
  · obtain ⟨rfl, hq⟩ := bif_ok hr
    exact XS.sipush X.here hx rfl hd (kk _ _ _ _ _ hq hP)
  · obtain ⟨rfl, hq⟩ := bif_ok hr
    exact XT.lconst X.here hx rfl hd (kk _ _ _ _ _ hq hP)
  · obtain ⟨rfl, hq⟩ := bif_ok hr
    exact XS.aconstNull X.here hx rfl hd (kk _ _ _ _ _ hq hP)
  · obtain ⟨rfl, hq⟩ := bif_ok hr
    obtain ⟨x, y, r, rfl, e3⟩ := oII_ok hq
    exact XS.iadd X.here hx rfl hd rfl (kk _ _ _ _ _ e3 hP)
  · obtain ⟨rfl, hq⟩ := bif_ok hr
    obtain ⟨x, y, r, rfl, e3⟩ := oII_ok hq
    exact XS.isub X.here hx rfl hd rfl (kk _ _ _ _ _ e3 hP)
  · obtain ⟨rfl, hq⟩ := bif_ok hr
    obtain ⟨x, y, r, rfl, e3⟩ := oII_ok hq
    exact XS.imul X.here hx rfl hd rfl (kk _ _ _ _ _ e3 hP)
  · obtain ⟨rfl, hq⟩ := bif_ok hr
    obtain ⟨x, y, r, rfl, e3⟩ := oII_ok hq
    exact XS.iand X.here hx rfl hd rfl (kk _ _ _ _ _ e3 hP)
  · obtain ⟨rfl, hq⟩ := bif_ok hr
    obtain ⟨x, y, r, rfl, e3⟩ := oII_ok hq
    exact XT.ior X.here hx rfl hd rfl (kk _ _ _ _ _ e3 hP)
  · obtain ⟨rfl, hq⟩ := bif_ok hr
    obtain ⟨x, y, r, rfl, e3⟩ := oII_ok hq
    exact XT.ixor X.here hx rfl hd rfl (kk _ _ _ _ _ e3 hP)
  · obtain ⟨rfl, hq⟩ := bif_ok hr
    obtain ⟨x, y, r, rfl, e3⟩ := oII_ok hq
    exact XT.ishl X.here hx rfl hd rfl (kk _ _ _ _ _ e3 hP)
  · obtain ⟨rfl, hq⟩ := bif_ok hr
    obtain ⟨x, y, r, rfl, e3⟩ := oII_ok hq
    exact XT.ishr X.here hx rfl hd rfl (kk _ _ _ _ _ e3 hP)
  · obtain ⟨rfl, hq⟩ := bif_ok hr
    obtain ⟨x, y, r, rfl, e3⟩ := oII_ok hq
    exact XT.iushr X.here hx rfl hd rfl (kk _ _ _ _ _ e3 hP)
  · obtain ⟨rfl, hq⟩ := bif_ok hr
    obtain ⟨x, y, r, rfl, e3⟩ := oII_ok hq
    obtain ⟨P', h1, h2, e4⟩ := oAnd_ok e3 hP
    exact XS.idiv X.here hx rfl hd rfl h1 (kk _ _ _ _ _ e4 h2)
  · obtain ⟨rfl, hq⟩ := bif_ok hr
    obtain ⟨x, y, r, rfl, e3⟩ := oII_ok hq
    obtain ⟨P', h1, h2, e4⟩ := oAnd_ok e3 hP
    exact iremM X hx rfl hd rfl h1 (kk _ _ _ _ _ e4 h2)
  · obtain ⟨rfl, hq⟩ := bif_ok hr
    obtain ⟨x, y, r, rfl, e3⟩ := oJJ_ok hq
    exact XT.ladd X.here hx rfl hd rfl (kk _ _ _ _ _ e3 hP)
  · obtain ⟨rfl, hq⟩ := bif_ok hr
    obtain ⟨x, y, r, rfl, e3⟩ := oJJ_ok hq
    exact XT.lsub X.here hx rfl hd rfl (kk _ _ _ _ _ e3 hP)
  · obtain ⟨rfl, hq⟩ := bif_ok hr
    obtain ⟨x, y, r, rfl, e3⟩ := oJJ_ok hq
    exact XT.lmul X.here hx rfl hd rfl (kk _ _ _ _ _ e3 hP)
  · obtain ⟨rfl, hq⟩ := bif_ok hr
    obtain ⟨x, y, r, rfl, e3⟩ := oJJ_ok hq
    exact XT.land X.here hx rfl hd rfl (kk _ _ _ _ _ e3 hP)
  · obtain ⟨rfl, hq⟩ := bif_ok hr
    obtain ⟨x, y, r, rfl, e3⟩ := oJJ_ok hq
    exact XT.lor X.here hx rfl hd rfl (kk _ _ _ _ _ e3 hP)
  · obtain ⟨rfl, hq⟩ := bif_ok hr
    obtain ⟨x, y, r, rfl, e3⟩ := oJJ_ok hq
    exact XT.lxor X.here hx rfl hd rfl (kk _ _ _ _ _ e3 hP)
  · obtain ⟨rfl, hq⟩ := bif_ok hr
    obtain ⟨x, y, r, rfl, e3⟩ := oJJ_ok hq
    exact XT.lcmp X.here hx rfl hd rfl (kk _ _ _ _ _ e3 hP)
  · obtain ⟨rfl, hq⟩ := bif_ok hr
    obtain ⟨x, y, r, rfl, e3⟩ := oJJ_ok hq
    obtain ⟨P', h1, h2, e4⟩ := oAnd_ok e3 hP
    exact XT.ldiv X.here hx rfl hd rfl h1 (kk _ _ _ _ _ e4 h2)
  · obtain ⟨rfl, hq⟩ := bif_ok hr
    obtain ⟨x, y, r, rfl, e3⟩ := oJJ_ok hq
    obtain ⟨P', h1, h2, e4⟩ := oAnd_ok e3 hP
    exact XT.lrem X.here hx rfl hd rfl h1 (by rw [lrem_mod]; exact kk _ _ _ _ _ e4 h2)
  · obtain ⟨rfl, hq⟩ := bif_ok hr
    obtain ⟨x, y, r, rfl, e3⟩ := oJI_ok hq
    exact XT.lshl X.here hx rfl hd rfl (kk _ _ _ _ _ e3 hP)
  · obtain ⟨rfl, hq⟩ := bif_ok hr
    obtain ⟨x, y, r, rfl, e3⟩ := oJI_ok hq
    exact XT.lshr X.here hx rfl hd rfl (kk _ _ _ _ _ e3 hP)
  · obtain ⟨rfl, hq⟩ := bif_ok hr
    obtain ⟨x, y, r, rfl, e3⟩ := oJI_ok hq
    exact XT.lushr X.here hx rfl hd rfl (kk _ _ _ _ _ e3 hP)
  · obtain ⟨rfl, hq⟩ := bif_ok hr
    obtain ⟨v, r, rfl, e3⟩ := oI_ok hq
    exact XS.ineg X.here hx rfl hd rfl (kk _ _ _ _ _ e3 hP)
  · obtain ⟨rfl, hq⟩ := bif_ok hr
    obtain ⟨v, r, rfl, e3⟩ := oI_ok hq
    exact XT.i2l X.here hx rfl hd rfl (kk _ _ _ _ _ e3 hP)
  · obtain ⟨rfl, hq⟩ := bif_ok hr
    obtain ⟨v, r, rfl, e3⟩ := oI_ok hq
    exact XT.i2b X.here hx rfl hd rfl (kk _ _ _ _ _ e3 hP)
  · obtain ⟨rfl, hq⟩ := bif_ok hr
    obtain ⟨v, r, rfl, e3⟩ := oI_ok hq
    exact XT.i2c X.here hx rfl hd rfl (kk _ _ _ _ _ e3 hP)
  · obtain ⟨rfl, hq⟩ := bif_ok hr
    obtain ⟨v, r, rfl, e3⟩ := oI_ok hq
    exact XT.i2s X.here hx rfl hd rfl (kk _ _ _ _ _ e3 hP)
  · obtain ⟨rfl, hq⟩ := bif_ok hr
    obtain ⟨v, r, rfl, e3⟩ := oJ_ok hq
    exact XT.lneg X.here hx rfl hd rfl (kk _ _ _ _ _ e3 hP)
  · obtain ⟨rfl, hq⟩ := bif_ok hr
    obtain ⟨v, r, rfl, e3⟩ := oJ_ok hq
    exact XT.l2i X.here hx rfl hd rfl (kk _ _ _ _ _ e3 hP)
  · obtain ⟨rfl, hq⟩ := bif_ok hr
    obtain ⟨v, r, rfl, e2, e3⟩ := o1_ok hq
    exact XS.dup X.here hx rfl hd rfl e2 (kk _ _ _ _ _ e3 hP)
  · obtain ⟨rfl, hq⟩ := bif_ok hr
    obtain ⟨v, r, rfl, e2, e3⟩ := o1_ok hq
    exact XT.pop X.here hx rfl hd rfl e2 (kk _ _ _ _ _ e3 hP)
  · obtain ⟨rfl, hq⟩ := bif_ok hr
    obtain ⟨v, r, rfl, e2, e3⟩ := o1_ok hq
    obtain ⟨w, r', rfl, e4, e5⟩ := o1_ok e3
    exact XT.dupX1 X.here hx rfl hd rfl e2 e4 (kk _ _ _ _ _ e5 hP)
  · obtain ⟨rfl, hq⟩ := bif_ok hr
    rcases oD2_ok hq with ⟨v, r, rfl, e3⟩ | ⟨v, w, r, rfl, e1, e2, e3⟩
    · exact XT.dup2L X.here hx rfl hd rfl (kk _ _ _ _ _ e3 hP)
    · exact XT.dup2 X.here hx rfl hd rfl e1 e2 (kk _ _ _ _ _ e3 hP)
  · obtain ⟨rfl, hq⟩ := bif_ok hr
    obtain ⟨v, e1, e3⟩ := oLdI'_ok hq
    obtain ⟨L', e4, e5⟩ := oSt_ok e3
    exact XS.iinc X.here hx rfl hd e1 e4 (kk _ _ _ _ _ e5 hP)
  · obtain ⟨rfl, hq⟩ := bif_ok hr
    obtain ⟨q, e1, e2, e3⟩ := oTo_ok hq
    exact XS.goto X.here hx rfl rfl hd e1 e2 (kk _ _ _ _ _ e3 hP)
  · obtain ⟨rfl, hq⟩ := bif_ok hr
    obtain ⟨v, r, rfl, e3⟩ := oI_ok hq
    rcases oB_ok e3 with ⟨o', e4⟩ | ⟨o', e4⟩
    · obtain ⟨P', h1, h2, e5⟩ := oAnd_ok e4 hP
      obtain ⟨q, e6, e7, e8⟩ := oTo_ok e5
      exact XS.ifYes X.here hx rfl rfl hd rfl (cI0_ok h1) e6 e7 (kk _ _ _ _ _ e8 h2)
    · obtain ⟨P', h1, h2, e5⟩ := oAnd_ok e4 hP
      exact XS.ifNo X.here hx rfl hd rfl (cI0_ok h1) (kk _ _ _ _ _ e5 h2)
  · obtain ⟨rfl, hq⟩ := bif_ok hr
    obtain ⟨x, y, r, rfl, e3⟩ := oII_ok hq
    rcases oB_ok e3 with ⟨o', e4⟩ | ⟨o', e4⟩
    · obtain ⟨P', h1, h2, e5⟩ := oAnd_ok e4 hP
      obtain ⟨q, e6, e7, e8⟩ := oTo_ok e5
      exact XS.icmpYes X.here hx rfl rfl hd rfl (cII_ok h1) e6 e7 (kk _ _ _ _ _ e8 h2)
    · obtain ⟨P', h1, h2, e5⟩ := oAnd_ok e4 hP
      exact XS.icmpNo X.here hx rfl hd rfl (cII_ok h1) (kk _ _ _ _ _ e5 h2)
  · obtain ⟨rfl, hq⟩ := bif_ok hr
    rcases oNul_ok hq with ⟨r, rfl, e3⟩ | ⟨b, r, rfl, e3⟩
    · obtain ⟨q, e6, e7, e8⟩ := oTo_ok e3
      exact XS.ifnullYes X.here hx rfl rfl hd rfl e6 e7 (kk _ _ _ _ _ e8 hP)
    · exact XS.ifnullNo X.here hx rfl hd rfl (kk _ _ _ _ _ e3 hP)
  · obtain ⟨rfl, hq⟩ := bif_ok hr
    rcases oNul_ok hq with ⟨r, rfl, e3⟩ | ⟨b, r, rfl, e3⟩
    · exact XT.ifnonnullNo X.here hx rfl hd rfl (kk _ _ _ _ _ e3 hP)
    · obtain ⟨q, e6, e7, e8⟩ := oTo_ok e3
      exact XT.ifnonnullYes X.here hx rfl rfl hd rfl e6 e7 (kk _ _ _ _ _ e8 hP)
  · obtain ⟨rfl, hq⟩ := bif_ok hr
    obtain ⟨y, r1, rfl, ey, e2⟩ := oA_ok hq
    obtain ⟨x, r, rfl, ex, e3⟩ := oA_ok e2
    rcases oB_ok e3 with ⟨o', e4⟩ | ⟨o', e4⟩
    · obtain ⟨P', h1, h2, e5⟩ := oAnd_ok e4 hP
      obtain ⟨q, e6, e7, e8⟩ := oTo_ok e5
      exact XT.acmpYes X.here hx rfl rfl hd rfl ex ey (cAA_ok h1) e6 e7 (kk _ _ _ _ _ e8 h2)
    · obtain ⟨P', h1, h2, e5⟩ := oAnd_ok e4 hP
      exact XT.acmpNo X.here hx rfl hd rfl ex ey (cAA_ok h1) (kk _ _ _ _ _ e5 h2)
  · obtain ⟨rfl, hq⟩ := bif_ok hr
    obtain ⟨j, a, r, rfl, e3⟩ := oIR_ok hq
    obtain ⟨v, o', e4⟩ := oV_ok e3
    obtain ⟨P', ⟨cl, h1, h3, h4⟩, h2, e5⟩ := oAnd_ok e4 hP
    exact X.iaload hx (by rw [eT]; exact h1.1) (State.isArrayOf_alike hZ.alike h1.2.1) h1.2.2 h3 h4 (g := mkF m pc L _) rfl rfl hd _ (kk _ _ _ _ _ e5 h2)
  · obtain ⟨rfl, hq⟩ := bif_ok hr
    obtain ⟨j, a, r, rfl, e3⟩ := oIR_ok hq
    obtain ⟨v, o', e4⟩ := oV_ok e3
    obtain ⟨P', ⟨cl, h1, h3, h4⟩, h2, e5⟩ := oAnd_ok e4 hP
    exact X.laload hx (by rw [eT]; exact h1.1) (State.isArrayOf_alike hZ.alike h1.2.1) h1.2.2 h3 h4 (g := mkF m pc L _) rfl rfl hd _ (kk _ _ _ _ _ e5 h2)
  · obtain ⟨rfl, hq⟩ := bif_ok hr
    obtain ⟨j, a, r, rfl, e3⟩ := oIR_ok hq
    obtain ⟨v, o', e4⟩ := oV_ok e3
    obtain ⟨P', ⟨cl, h1, h3, h4⟩, h2, e5⟩ := oAnd_ok e4 hP
    exact X.caload hx (by rw [eT]; exact h1.1) (State.isArrayOf_alike hZ.alike h1.2.1) h1.2.2 h3 h4 (g := mkF m pc L _) rfl rfl hd _ (kk _ _ _ _ _ e5 h2)
  · obtain ⟨rfl, hq⟩ := bif_ok hr
    obtain ⟨j, a, r, rfl, e3⟩ := oIR_ok hq
    obtain ⟨v, o', e4⟩ := oV_ok e3
    obtain ⟨P', ⟨cl, h1, h3, h4⟩, h2, e5⟩ := oAnd_ok e4 hP
    exact X.baloadBytes hx (by rw [eT]; exact h1.1) (State.isArrayOf_alike hZ.alike h1.2.1) h1.2.2 h3 h4 (g := mkF m pc L _) rfl rfl hd _ (kk _ _ _ _ _ e5 h2)
  · obtain ⟨rfl, hq⟩ := bif_ok hr
    obtain ⟨j, a, r, rfl, e3⟩ := oIR_ok hq
    obtain ⟨v, o', e4⟩ := oV_ok e3
    obtain ⟨P', ⟨ty, hty, cl, h1, h3, h4⟩, h2, e5⟩ := oAnd_ok e4 hP
    exact X.aaload hx (by rw [eT]; exact h1.1) (State.isArrayOf_alike hZ.alike h1.2.1) hty h1.2.2 h3 h4 (g := mkF m pc L _) rfl rfl hd _ (kk _ _ _ _ _ e5 h2)
  · obtain ⟨rfl, hq⟩ := bif_ok hr
    obtain ⟨a, r, rfl, e3⟩ := oR_ok hq
    obtain ⟨n, o', e4⟩ := oN_ok e3
    obtain ⟨P', ⟨cl, ty, h1, rfl⟩, h2, e5⟩ := oAnd_ok e4 hP
    exact X.arraylength hx (by rw [eT]; exact h1.1) (State.isArrayOf_alike hZ.alike h1.2.1) (g := mkF m pc L _) rfl rfl hd _ (kk _ _ _ _ _ e5 h2)
  · obtain ⟨rfl, hq⟩ := bif_ok hr
    obtain ⟨v, o', e4⟩ := oN_ok hq
    obtain ⟨P', h1, h2, e5⟩ := oAnd_ok e4 hP
    exact Stand.ldcI X hx hown (mvT hZ h1) rfl hd (kk _ _ _ _ _ e5 h2)
  · obtain ⟨rfl, hq⟩ := bif_ok hr
    obtain ⟨v, o', e4⟩ := oN_ok hq
    obtain ⟨P', h1, h2, e5⟩ := oAnd_ok e4 hP
    exact Stand.ldcWI X hx hown (mvT hZ h1) rfl hd (kk _ _ _ _ _ e5 h2)
  · obtain ⟨rfl, hq⟩ := bif_ok hr
    obtain ⟨v, o', e4⟩ := oM_ok hq
    obtain ⟨P', h1, h2, e5⟩ := oAnd_ok e4 hP
    exact Stand.ldc2J X hx hown (mvT hZ h1) rfl hd (kk _ _ _ _ _ e5 h2)
  · cases hr
theorem orun_ok (X : Stand p l e R s m args below meth c T locs cells slots) (hx : p.tables.exec = Jvm.exec) (hZ : Z.Warmed39 s.vm) (hown : s.vm.findClass own = some m.cls) (eT : T.heap = h) {b : ByteArray} (hby : c.code = b) {target : State} : ∀ (t : OTr) (o : List Value) (pc : Nat) (L : Array Slot) (S : List Value) (P : Prop) (pc' : Nat) (L' : Array Slot) (S' : List Value),
    okB b t = true → orun Z h a0 own t o pc L S = some (P, pc', L', S') → P → Steps p.tables e below (T.setTop (mkF m pc' L' S')) target → Steps p.tables e below (T.setTop (mkF m pc L S)) target
  | [], o, pc, L, S, P, pc', L', S', _, hr, _, hs => by
    simp only [orun, Option.some.injEq, Prod.mk.injEq] at hr
    obtain ⟨-, rfl, rfl, rfl⟩ := hr
    exact hs
  | y :: t, o, pc, L, S, P, pc', L', S', hok, hr, hP, hs => by
    simp only [okB, List.all_cons, Bool.and_eq_true, decide_eq_true_eq] at hok
    obtain ⟨h1, h2⟩ := bif_ok hr
    subst h1
    exact ost_ok X hx hZ hown eT h2 hP (hb hby hok.1) fun pc L S o P' q hP' => orun_ok X hx hZ hown eT hby t o pc L S P' pc' L' S' hok.2 q hP' hs
end OwnRun
theorem nb1 : nar .boolean (1 : Int32) = 1 := by decide
theorem nb0 : nar .boolean (0 : Int32) = 0 := by decide
theorem sb1 : some (Value.int (nar .boolean (1 : Int32))) = some (.int 1) := by rw [nb1]
theorem sb0 : some (Value.int (nar .boolean (0 : Int32))) = some (.int 0) := by rw [nb0]
section OwnGo
/-- where the run stands (the narrow frame): its heap is h; what was written lies in new cells -/
def Nw (Z : State) (n0 : Nat) (h : Heap) (p : Program) (l : Launch) (e : Env) (R : Room) (s : State) (m : MethodId) (args : Array Value) (below : List Frame) (meth : Method) (c : Code) (T : State) (cells slots : Nat) : Prop :=
  ∃ locs, Stand p l e R s m args below meth c T locs cells slots ∧ T.heap = h ∧ Fr n0 locs ∧ n0 ≤ h.size ∧ Z.Warmed39 s.vm
def Cx (Z : State) (own : String) (b : ByteArray) (ml : Nat) (p : Program) (m : MethodId) (c : Code) : Prop := p.tables.exec = Jvm.exec ∧ Z.vm.findClass own = some m.cls ∧ c.code = b ∧ c.maxLocals = ml
def Ld (p : Program) (e : Env) (below : List Frame) (T : State) (g : JFrame) (T' : State) (g' : JFrame) : Prop := ∀ target, Steps p.tables e below (T'.setTop g') target → Steps p.tables e below (T.setTop g) target
/-- the frame returns v -/
def Fn (p : Program) (e : Env) (below : List Frame) (m : MethodId) (T : State) (g : JFrame) (v : Option Value) : Prop :=
  ∀ fs : List Frame, (∀ (f : JFrame) (acts : List Action), f.method = m → f.locked = none → f.entered = [] → (doReturn e (T.setTop f) acts v).1 = T.setFrames fs) → Steps p.tables e below (T.setTop g) (T.setFrames fs)
variable {p : Program} {l : Launch} {e : Env} {R : Room} {s : State} {m : MethodId} {args : Array Value} {below : List Frame} {meth : Method} {c : Code} {T T1 T2 : State} {cells slots : Nat} {Z : State} {a0 : Array Value} {h h1 h2 : Heap} {own : String} {n0 : Nat} {b : ByteArray} {ml : Nat} {g g1 g2 : JFrame}
theorem Ld.refl : Ld p e below T g T g := fun _ k => k
theorem Ld.trans (A : Ld p e below T g T1 g1) (B : Ld p e below T1 g1 T2 g2) : Ld p e below T g T2 g2 := fun t k => A t (B t k)
theorem Ld.cast {g' : JFrame} (A : Ld p e below T g T1 g1) (q : g1 = g') : Ld p e below T g T1 g' := q ▸ A
theorem Nw.size (N : Nw Z n0 h p l e R s m args below meth c T cells slots) : n0 ≤ h.size := by obtain ⟨_, _, _, _, q, _⟩ := N; exact q
theorem Nw.mono {cells' slots' : Nat} (N : Nw Z n0 h p l e R s m args below meth c T cells slots) (q1 : cells ≤ cells') (q2 : slots ≤ slots') : Nw Z n0 h p l e R s m args below meth c T cells' slots' := by
  obtain ⟨L, X, r⟩ := N; exact ⟨L, X.mono q1 q2, r⟩
theorem Nw.old (N : Nw Z n0 h p l e R s m args below meth c T cells slots) (O : Old Z n0 s.heap) : Old Z n0 h := by
  obtain ⟨locs, X, eT, F, q, hZ⟩ := N
  subst eT
  obtain ⟨-, s2, -, -, -, s6⟩ := X.same
  refine ⟨O.1, Nat.le_trans O.2.1 s2, fun a c hc => ?_⟩
  obtain ⟨c', h1, h2, h3, h4⟩ := s6 a c (O.2.2 a c hc)
  have ha : a < n0 := O.1 ▸ (Array.getElem?_eq_some_iff.mp hc).1
  have e : c'.slots = c.slots := Array.ext_getElem? fun i => h4 i fun q => absurd (F _ q) (Nat.not_le.mpr ha)
  rw [e] at h2
  exact h1.trans (by rw [h2])
theorem cx_own (K : Cx Z own b ml p m c) (hZ : Z.Warmed39 s.vm) : s.vm.findClass own = some m.cls := by rw [hZ.alike.findClass]; exact K.2.1
theorem goRun (K : Cx Z own b ml p m c) (N : Nw Z n0 h p l e R s m args below meth c T cells slots) (a0 : Array Value) (t : OTr) (o : List Value) {pc : Nat} {L : Array Slot} {S : List Value} {P : Prop} {pc' : Nat} {L' : Array Slot} {S' : List Value}
    (ok : okB b t = true) (hr : orun Z h a0 own t o pc L S = some (P, pc', L', S')) (hP : P) : Ld p e below T (mkF m pc L S) T (mkF m pc' L' S') := fun _ k => by
  obtain ⟨_, X, eT, _, _, hZ⟩ := N
  exact orun_ok X K.1 hZ (cx_own K hZ) eT K.2.2.1 t o pc L S P pc' L' S' ok hr hP k
theorem goNew (K : Cx Z own b ml p m c) (N : Nw Z n0 h p l e R s m args below meth c T cells slots) {C : String} {index n : Nat} (w : (Jvm.Cond.classLink own index C).before a0 Z = true) (wi : (Jvm.Cond.instantiable C n).before a0 Z = true) (wz : (Jvm.Cond.initialized C).before a0 Z = true)
    {pc : Nat} {L : Array Slot} {S : List Value} (hd : decode b pc = .ok (.new index, 3)) (hc : cells + 1 ≤ R.cells) (hl : slots + n ≤ R.slots) :
    ∃ T' h' a, a = h.size ∧ Nw Z n0 h' p l e R s m args below meth c T' (cells + 1) (slots + n) ∧ Ext h h' ∧ Exa Z h' a C ∧ (∀ {O nm d : String} {ty : FieldType}, Laid Z a0 C O nm d → parseFieldDescriptor d = some ty → Fld Z h' a O nm d (defaultValue ty)) ∧ Ld p e below T (mkF m pc L S) T' (mkF m (pc + 3) L (.ref a :: S)) := by
  obtain ⟨Lc, X, eT, F, q, hZ⟩ := N
  obtain ⟨T', h', X', e', E, A, D, -, st⟩ := newO X K.1 hZ (cx_own K hZ) w wi wz eT (g := mkF m pc L S) rfl (hb K.2.2.1 hd) hc hl
  exact ⟨T', h', _, rfl, ⟨Lc, X', e', F, Nat.le_trans q E.1, hZ⟩, E, A, D, st⟩
theorem goGet (K : Cx Z own b ml p m c) (N : Nw Z n0 h p l e R s m args below meth c T cells slots) {O n d : String} {index : Nat} (w : (Jvm.Cond.fieldLink own index O n d).before a0 Z = true) {a : Addr} {v : Value} (F : Fld Z h a O n d v)
    {pc : Nat} {L : Array Slot} {S : List Value} (hd : decode b pc = .ok (.getfield index, 3)) : ∃ T', Nw Z n0 h p l e R s m args below meth c T' cells slots ∧ Ld p e below T (mkF m pc L (.ref a :: S)) T' (mkF m (pc + 3) L (v :: S)) := by
  obtain ⟨Lc, X, eT, r, q, hZ⟩ := N
  obtain ⟨T', X', e', st⟩ := getF X K.1 hZ (cx_own K hZ) (host := "") (Or.inl w) Via.refl eT F (g := mkF m pc L (.ref a :: S)) rfl rfl (hb K.2.2.1 hd)
  exact ⟨T', ⟨Lc, X', e', r, q, hZ⟩, st⟩
theorem goSta (K : Cx Z own b ml p m c) (N : Nw Z n0 h p l e R s m args below meth c T cells slots) {O n d : String} {index : Nat} (w : (Jvm.Cond.fieldLink own index O n d).before a0 Z = true) {v : Value} (F : Sta Z h O n d v)
    {pc : Nat} {L : Array Slot} {S : List Value} (hd : decode b pc = .ok (.getstatic index, 3)) : ∃ T', Nw Z n0 h p l e R s m args below meth c T' cells slots ∧ Ld p e below T (mkF m pc L S) T' (mkF m (pc + 3) L (v :: S)) := by
  obtain ⟨Lc, X, eT, r, q, hZ⟩ := N
  obtain ⟨T', X', e', st⟩ := getS (host := "") X K.1 hZ (cx_own K hZ) w Via.refl eT F (g := mkF m pc L S) rfl (hb K.2.2.1 hd)
  exact ⟨T', ⟨Lc, X', e', r, q, hZ⟩, st⟩
theorem goPut (K : Cx Z own b ml p m c) (N : Nw Z n0 h p l e R s m args below meth c T cells slots) {O n d C : String} {index kk : Nat} {ty : FieldType} (w : (Jvm.Cond.fieldLink own index O n d).before a0 Z = true) {a : Addr} {v old : Value} (F : Fld Z h a O n d old) (E : Exa Z h a C)
    (Ly : (Jvm.Cond.lays C O n d).before a0 Z = true ∨ ((Jvm.Cond.laysFinal C O n d).before a0 Z = true ∧ own = O ∧ meth.name = "<init>")) (wi : (Jvm.Cond.instantiable C kk).before a0 Z = true) (hty : parseFieldDescriptor d = some ty) (hn : narrow ty v = v) (hf : fits ty v = true) (ha : n0 ≤ a)
    {pc : Nat} {L : Array Slot} {S : List Value} (hd : decode b pc = .ok (.putfield index, 3)) :
    ∃ T' h', Nw Z n0 h' p l e R s m args below meth c T' cells slots ∧ Wr h h' a (Jvm.RoadKit.slotOf Z O n d) v ∧ Ld p e below T (mkF m pc L (v :: .ref a :: S)) T' (mkF m (pc + 3) L S) := by
  obtain ⟨Lc, X, eT, r, q, hZ⟩ := N
  obtain ⟨T', h', X', e', W, st⟩ := putF X K.1 hZ (cx_own K hZ) (host := "") (Or.inl w) Via.refl eT F E Ly wi hty hn hf (g := mkF m pc L (v :: .ref a :: S)) rfl rfl (hb K.2.2.1 hd)
  exact ⟨T', h', ⟨_, X', e', Fr.snoc X' r ha, by rw [W.size]; exact q, hZ⟩, W, st⟩
theorem goInit (K : Cx Z own b ml p m c) (N : Nw Z n0 h p l e R s m args below meth c T cells slots) {index : Nat} (w1 : (Jvm.Cond.methodLink own index ⟨"java/lang/Object", "<init>", "()V"⟩).before a0 Z = true) (w2 : (Jvm.Cond.instanceMethod ⟨"java/lang/Object", "<init>", "()V"⟩).before a0 Z = true) {ob : ByteArray} (w3 : (Jvm.Cond.code ⟨"java/lang/Object", "<init>", "()V"⟩ ob 1 none).before a0 Z = true) (ho : ob = ⟨#[0xb1]⟩)
    {a : Addr} {pc : Nat} {L : Array Slot} {S : List Value} (hsz : L.size = ml) (hd : decode b pc = .ok (.invokespecial index, 3)) (hf : 1 ≤ R.frames) {W : Nat} (hW : (S.map fun v => v.category).sum ≤ W) (hlo : W + 12 ≤ R.locals) :
    ∃ T', Nw Z n0 h p l e R s m args below meth c T' cells slots ∧ Ld p e below T (mkF m pc L (.ref a :: S)) T' (mkF m (pc + 3) L S) := by
  subst ho
  obtain ⟨Lc, X, eT, r, q, hZ⟩ := N
  obtain ⟨T', X', e', st⟩ := initO X K.1 hZ (cx_own K hZ) w1 w2 w3 eT (g := mkF m pc L (.ref a :: S)) rfl (by rw [K.2.2.2]; exact hsz) rfl (hb K.2.2.1 hd) hf (W := W) (by show 2 * 0 + _ ≤ _; omega) hlo
  exact ⟨T', ⟨Lc, X', e', r, q, hZ⟩, st⟩
theorem goNewP (K : Cx Z own b ml p m c) (N : Nw Z n0 h p l e R s m args below meth c T cells slots) {aty : ArrayType} (w : (Jvm.Cond.arrayClass (newarray.typeOf aty)).before a0 Z = true) {n : Int32} (hn : ¬ n < 0) {cap : Nat} (hcap : n.toNatClampNeg ≤ cap) (hbg : cap * 8 ≤ 536870912) (hc : cells + 1 ≤ R.cells) (hl : slots + cap ≤ R.slots)
    {pc : Nat} {L : Array Slot} {S : List Value} (hd : decode b pc = .ok (.newarray aty, 2)) :
    ∃ T' h' a cA, a = h.size ∧ Nw Z n0 h' p l e R s m args below meth c T' (cells + 1) (slots + cap) ∧ Ext h h' ∧ Arr Z h' a (newA cA (newarray.typeOf aty) n) (newarray.typeOf aty) ∧ Ld p e below T (mkF m pc L (.int n :: S)) T' (mkF m (pc + 2) L (.ref a :: S)) := by
  obtain ⟨Lc, X, eT, r, q, hZ⟩ := N
  obtain ⟨T', h', cA, X', e', E, A, st⟩ := newP X K.1 hZ w eT (g := mkF m pc L (.int n :: S)) rfl (hb K.2.2.1 hd) rfl hn hcap hbg hc hl
  exact ⟨T', h', _, cA, rfl, ⟨Lc, X', e', r, Nat.le_trans q E.1, hZ⟩, E, A, st⟩
theorem goStI (K : Cx Z own b ml p m c) (N : Nw Z n0 h p l e R s m args below meth c T cells slots) {a : Addr} {cl : Cell} (A : Arr Z h a cl .int) {j x : Int32} (hj : ¬ (j < 0 ∨ cl.slots.size ≤ j.toNatClampNeg)) (ha : n0 ≤ a) {pc : Nat} {L : Array Slot} {S : List Value} (hd : decode b pc = .ok (.iastore, 1)) :
    ∃ T' h', Nw Z n0 h' p l e R s m args below meth c T' cells slots ∧ Wr h h' a j.toNatClampNeg (.int x) ∧ Ld p e below T (mkF m pc L (.int x :: .int j :: .ref a :: S)) T' (mkF m (pc + 1) L S) := by
  obtain ⟨Lc, X, eT, r, q, hZ⟩ := N
  obtain ⟨T', h', X', e', W, st⟩ := stI X K.1 hZ eT A hj (g := mkF m pc L (.int x :: .int j :: .ref a :: S)) rfl rfl (hb K.2.2.1 hd)
  exact ⟨T', h', ⟨_, X', e', Fr.snoc X' r ha, by rw [W.size]; exact q, hZ⟩, W, st⟩
theorem goStJ (K : Cx Z own b ml p m c) (N : Nw Z n0 h p l e R s m args below meth c T cells slots) {a : Addr} {cl : Cell} (A : Arr Z h a cl .long) {j : Int32} {x : Int64} (hj : ¬ (j < 0 ∨ cl.slots.size ≤ j.toNatClampNeg)) (ha : n0 ≤ a) {pc : Nat} {L : Array Slot} {S : List Value} (hd : decode b pc = .ok (.lastore, 1)) :
    ∃ T' h', Nw Z n0 h' p l e R s m args below meth c T' cells slots ∧ Wr h h' a j.toNatClampNeg (.long x) ∧ Ld p e below T (mkF m pc L (.long x :: .int j :: .ref a :: S)) T' (mkF m (pc + 1) L S) := by
  obtain ⟨Lc, X, eT, r, q, hZ⟩ := N
  obtain ⟨T', h', X', e', W, st⟩ := stJ X K.1 hZ eT A hj (g := mkF m pc L (.long x :: .int j :: .ref a :: S)) rfl rfl (hb K.2.2.1 hd)
  exact ⟨T', h', ⟨_, X', e', Fr.snoc X' r ha, by rw [W.size]; exact q, hZ⟩, W, st⟩
theorem goStC (K : Cx Z own b ml p m c) (N : Nw Z n0 h p l e R s m args below meth c T cells slots) {a : Addr} {cl : Cell} (A : Arr Z h a cl .char) {j x : Int32} (hj : ¬ (j < 0 ∨ cl.slots.size ≤ j.toNatClampNeg)) (ha : n0 ≤ a) {pc : Nat} {L : Array Slot} {S : List Value} (hd : decode b pc = .ok (.castore, 1)) :
    ∃ T' h', Nw Z n0 h' p l e R s m args below meth c T' cells slots ∧ Wr h h' a j.toNatClampNeg (.int (nar .char x)) ∧ Ld p e below T (mkF m pc L (.int x :: .int j :: .ref a :: S)) T' (mkF m (pc + 1) L S) := by
  obtain ⟨Lc, X, eT, r, q, hZ⟩ := N
  obtain ⟨T', h', X', e', W, st⟩ := stC X K.1 hZ eT A hj (g := mkF m pc L (.int x :: .int j :: .ref a :: S)) rfl rfl (hb K.2.2.1 hd)
  exact ⟨T', h', ⟨_, X', e', Fr.snoc X' r ha, by rw [W.size]; exact q, hZ⟩, W, st⟩
theorem goStB (K : Cx Z own b ml p m c) (N : Nw Z n0 h p l e R s m args below meth c T cells slots) {a : Addr} {cl : Cell} (A : Arr Z h a cl .byte) {j x : Int32} (hj : ¬ (j < 0 ∨ cl.slots.size ≤ j.toNatClampNeg)) (ha : n0 ≤ a) {pc : Nat} {L : Array Slot} {S : List Value} (hd : decode b pc = .ok (.bastore, 1)) :
    ∃ T' h', Nw Z n0 h' p l e R s m args below meth c T' cells slots ∧ Wr h h' a j.toNatClampNeg (.int (nar .byte x)) ∧ Ld p e below T (mkF m pc L (.int x :: .int j :: .ref a :: S)) T' (mkF m (pc + 1) L S) := by
  obtain ⟨Lc, X, eT, r, q, hZ⟩ := N
  obtain ⟨T', h', X', e', W, st⟩ := stB X K.1 hZ eT A hj (g := mkF m pc L (.int x :: .int j :: .ref a :: S)) rfl rfl (hb K.2.2.1 hd)
  exact ⟨T', h', ⟨_, X', e', Fr.snoc X' r ha, by rw [W.size]; exact q, hZ⟩, W, st⟩
/-- what a body does: it returns v, leaves the heap h' with Q v h', writes new cells alone -/
def Con (l : Launch) (Z : State) (n0 : Nat) (y : MethodName) (bytes : ByteArray) (maxL : Nat) (ret : Option FieldType) (ws : List Jvm.Cond) (rm : Room) (as' : Array Value) (h : Heap) (Q : Option Value → Heap → Prop) : Prop :=
  n0 ≤ h.size → MetFree l y (head1 (Jvm.Cond.code y bytes maxL ret :: ws) rm) (fun a U => a = as' ∧ Z.Warmed39 U.vm ∧ U.heap = h) (fun _ _ _ _ _ => True) (fun _ U o U' => ∃ v L, o = .returned v ∧ (n0 ≤ U'.heap.size ∧ Fr n0 L ∧ Q v U'.heap) ∧ FrameEnd U o U' L rm.cells rm.slots)
theorem Con.of {y : MethodName} {bytes : ByteArray} {maxL : Nat} {ret : Option FieldType} {ws : List Jvm.Cond} {rm : Room} {as' : Array Value} {Q : Option Value → Heap → Prop} (pn : plainName y.cls = true) {L0 : Array Slot} (ef : ∀ m, entryFrame m as' maxL = mkF m 0 L0 [])
    (body : ∀ {p : Program} {e : Env} {s : State} {m : MethodId} {below : List Frame} {meth : Method} {c : Code} {T : State}, Cx Z y.cls bytes maxL p m c → meth.sig.returnType = ret → meth.name = y.name → Nw Z n0 h p l e rm s m as' below meth c T 0 0 →
      ∃ (v : Option Value) (T' : State) (g' : JFrame) (h' : Heap) (k n : Nat), Nw Z n0 h' p l e rm s m as' below meth c T' k n ∧ k ≤ rm.cells ∧ n ≤ rm.slots ∧ (ret = none → v = none) ∧ Q v h' ∧ Ld p e below T (mkF m 0 L0 []) T' g' ∧ Fn p e below m T' g' v) : Con l Z n0 y bytes maxL ret ws rm as' h Q := fun hn => by
  refine MetFree.of_bodySF (plainFor_of_name pn) hisR ?_
  intro p e s m args below meth c s₁ Bd hml0 hP hK
  obtain ⟨rfl, hZ, hh⟩ := hP
  have hown : s.vm.findClass y.cls = some m.cls := findClass_of_methodNamed Bd.named
  have X0 := Stand.of_body Bd
  have e0 : s₁.heap = h := by rw [← hh, Bd.state]; rfl
  obtain ⟨v, T', g', h', k, n, ⟨Lc, X, eT, F, q, -⟩, q1, q2, q3, hQ, hL, hF⟩ := body (T := s₁) ⟨Bd.exec, by rw [← hZ.alike.findClass]; exact hown, Bd.bytes, hml0⟩ Bd.returns (name_of_methodNamed Bd.named Bd.method).1 ⟨[], X0, e0, Fr.nil n0, hn, hZ⟩
  subst eT
  obtain ⟨fs, hr, hrun, hended, hW, hsame⟩ := X.leave (v := v) (fun q => q3 (by rw [← Bd.returns]; exact q))
  refine ⟨_, _, castTop (ef m) (hL _ (hF fs hr)), hrun, hended, v, _, rfl, ⟨q, F, hQ⟩, ⟨_, rfl⟩, hW, hsame.mono q1 q2⟩
theorem Con.ofH {y : MethodName} {bytes : ByteArray} {maxL : Nat} {ret : Option FieldType} {ws : List Jvm.Cond} {rm : Room} {as' : Array Value} {Q : Option Value → Heap → Prop} (pn : plainFor y = true) {L0 : Array Slot} (ef : ∀ m, entryFrame m as' maxL = mkF m 0 L0 [])
    (body : ∀ {p : Program} {e : Env} {s : State} {m : MethodId} {below : List Frame} {meth : Method} {c : Code} {T : State}, Cx Z y.cls bytes maxL p m c → meth.sig.returnType = ret → meth.name = y.name → Nw Z n0 h p l e rm s m as' below meth c T 0 0 → s.heap = h →
      ∃ (v : Option Value) (T' : State) (g' : JFrame) (h' : Heap) (k n : Nat), Nw Z n0 h' p l e rm s m as' below meth c T' k n ∧ k ≤ rm.cells ∧ n ≤ rm.slots ∧ (ret = none → v = none) ∧ Q v h' ∧ Ld p e below T (mkF m 0 L0 []) T' g' ∧ Fn p e below m T' g' v) : Con l Z n0 y bytes maxL ret ws rm as' h Q := fun hn => by
  refine MetFree.of_bodySF pn hisR ?_
  intro p e s m args below meth c s₁ Bd hml0 hP hK
  obtain ⟨rfl, hZ, hh⟩ := hP
  have hown : s.vm.findClass y.cls = some m.cls := findClass_of_methodNamed Bd.named
  have X0 := Stand.of_body Bd
  have e0 : s₁.heap = h := by rw [← hh, Bd.state]; rfl
  obtain ⟨v, T', g', h', k, n, ⟨Lc, X, eT, F, q, -⟩, q1, q2, q3, hQ, hL, hF⟩ := body (T := s₁) ⟨Bd.exec, by rw [← hZ.alike.findClass]; exact hown, Bd.bytes, hml0⟩ Bd.returns (name_of_methodNamed Bd.named Bd.method).1 ⟨[], X0, e0, Fr.nil n0, hn, hZ⟩ hh
  subst eT
  obtain ⟨fs, hr, hrun, hended, hW, hsame⟩ := X.leave (v := v) (fun q => q3 (by rw [← Bd.returns]; exact q))
  refine ⟨_, _, castTop (ef m) (hL _ (hF fs hr)), hrun, hended, v, _, rfl, ⟨q, F, hQ⟩, ⟨_, rfl⟩, hW, hsame.mono q1 q2⟩
theorem finI {L : Array Slot} {S : List Value} {z : Int32} {pc : Nat} (K : Cx Z own b ml p m c) (N : Nw Z n0 h p l e R s m args below meth c T cells slots) (hret : meth.sig.returnType = some .int) (hd : decode b pc = .ok (.ireturn, 1)) : Fn p e below m T (mkF m pc L (.int z :: S)) (some (.int z)) := fun fs hl => by
  obtain ⟨_, X, -⟩ := N
  exact retOut X K.1 (t := .int) (i := .ireturn) hret rfl (Or.inl ⟨rfl, Or.inl rfl, z, rfl⟩) (hb K.2.2.1 hd) hl
theorem finN {L : Array Slot} {S : List Value} {z : Int32} {t : FieldType} {pc : Nat} (K : Cx Z own b ml p m c) (N : Nw Z n0 h p l e R s m args below meth c T cells slots) (hret : meth.sig.returnType = some t) (ht : t = .boolean ∨ t = .byte ∨ t = .char ∨ t = .short) (hd : decode b pc = .ok (.ireturn, 1)) : Fn p e below m T (mkF m pc L (.int z :: S)) (some (.int (nar t z))) := fun fs hl => by
  obtain ⟨_, X, -⟩ := N
  exact retN X K.1 (t := t) hret ht (hb K.2.2.1 hd) hl
theorem finJ {L : Array Slot} {S : List Value} {z : Int64} {pc : Nat} (K : Cx Z own b ml p m c) (N : Nw Z n0 h p l e R s m args below meth c T cells slots) (hret : meth.sig.returnType = some .long) (hd : decode b pc = .ok (.lreturn, 1)) : Fn p e below m T (mkF m pc L (.long z :: S)) (some (.long z)) := fun fs hl => by
  obtain ⟨_, X, -⟩ := N
  exact retOut X K.1 (t := .long) (i := .lreturn) hret rfl (Or.inr (Or.inl ⟨rfl, rfl, z, rfl⟩)) (hb K.2.2.1 hd) hl
theorem finA {L : Array Slot} {S : List Value} {z : Value} {t : FieldType} {pc : Nat} (K : Cx Z own b ml p m c) (N : Nw Z n0 h p l e R s m args below meth c T cells slots) (hret : meth.sig.returnType = some t) (ht : t.isReference = true) (hn : narrow t z = z) (hz : z.isRef = true) (hd : decode b pc = .ok (.areturn, 1)) : Fn p e below m T (mkF m pc L (z :: S)) (some z) := fun fs hl => by
  obtain ⟨_, X, -⟩ := N
  exact retOut X K.1 (t := t) (i := .areturn) hret hn (Or.inr (Or.inr (Or.inr (Or.inr ⟨rfl, ht, hz⟩)))) (hb K.2.2.1 hd) hl
theorem finV {L : Array Slot} {pc : Nat} (K : Cx Z own b ml p m c) (N : Nw Z n0 h p l e R s m args below meth c T cells slots) (hret : meth.sig.returnType = none) (hd : decode b pc = .ok (.return_, 1)) : Fn p e below m T (mkF m pc L []) none := fun fs hl => by
  obtain ⟨_, X, -⟩ := N
  exact X.returnOut K.1 hret (hb K.2.2.1 hd) hl
section OwnCalls
variable {y : MethodName} {bytes : ByteArray} {maxL : Nat} {ret : Option FieldType} {rm : Room} {index : Nat} {argsL rest : List Value} {Q : Option Value → Heap → Prop} {pc : Nat} {L : Array Slot} {W : Nat} {ps : List FieldType} {rt : Option FieldType}
theorem goS (K : Cx Z own b ml p m c) (N : Nw Z n0 h p l e R s m args below meth c T cells slots)
    (w1 : (Jvm.Cond.methodLink own index y).before a0 Z = true) (w2 : (Jvm.Cond.static y).before a0 Z = true) (w3 : (Jvm.Cond.initialized y.cls).before a0 Z = true) (w4 : (Jvm.Cond.code y bytes maxL ret).before a0 Z = true)
    (hM : Con l Z n0 y bytes maxL ret [] rm argsL.toArray h Q) (hy : y.cls ≠ "java/lang/invoke/MethodHandle" ∧ y.cls ≠ "java/lang/invoke/VarHandle") (hf : rm.frames + 1 ≤ R.frames) (hl : W + (maxL + 11) + rm.locals ≤ R.locals) (hc : cells + rm.cells ≤ R.cells) (hs : slots + rm.slots ≤ R.slots)
    (hsz : L.size = ml) (hp : parseMethodDescriptor y.desc = some ⟨ps, rt⟩) (hlen : argsL.length = ps.length) (hW : (rest.map fun v => v.category).sum ≤ W) (hd : decode b pc = .ok (.invokestatic index, 3)) :
    ∃ v T' h', Nw Z n0 h' p l e R s m args below meth c T' (cells + rm.cells) (slots + rm.slots) ∧ Q v h' ∧ Ld p e below T (mkF m pc L (argsL.reverse ++ rest)) T' (mkF m (pc + 3) L (v.toList ++ rest)) := by
  obtain ⟨Lc, X, eT, r, q, hZ⟩ := N
  obtain ⟨v, _, ⟨T', L', k', n'⟩, -, X', ⟨Lc', hQ, l', y', z'⟩, st⟩ := Jvm.LawKit.callS X K.1 (y := y) (cx_own K hZ) (mvT hZ w1) (mvT hZ w2) (mvT hZ w3) (mvT hZ w4) hy (backOf (W := W) (Q := fun v h L => n0 ≤ h.size ∧ Fr n0 L ∧ Q v h) (hM q) hZ w4 w3 hf hl) (g := mkF m pc L (argsL.reverse ++ rest)) rfl (by rw [K.2.2.2]; exact hsz) (argsL := argsL) (rest := rest) (lenOf hp hlen) rfl (by show 2 * 0 + _ ≤ _; omega) (hb K.2.2.1 hd) (fun _ _ => ⟨rfl, eT, hc, hs⟩)
  dsimp only [Pt.U, Pt.locs, Pt.cells, Pt.slots] at X' l' y' z' st hQ
  subst l' y' z'
  exact ⟨v, T', T'.heap, ⟨_, X', rfl, Fr.app r hQ.2.1, hQ.1, hZ⟩, hQ.2.2, st⟩
theorem goSp (K : Cx Z own b ml p m c) (N : Nw Z n0 h p l e R s m args below meth c T cells slots) {a : Addr}
    (w1 : (Jvm.Cond.methodLink own index y).before a0 Z = true) (w2 : (Jvm.Cond.instanceMethod y).before a0 Z = true) (w3 : (Jvm.Cond.initialized y.cls).before a0 Z = true) (w4 : (Jvm.Cond.code y bytes maxL none).before a0 Z = true)
    (hM : Con l Z n0 y bytes maxL none [] rm (Value.ref a :: argsL).toArray h Q) (hi : y.name = "<init>") (hy : y.cls ≠ "java/lang/invoke/MethodHandle" ∧ y.cls ≠ "java/lang/invoke/VarHandle") (hf : rm.frames + 1 ≤ R.frames) (hl : W + (maxL + 11) + rm.locals ≤ R.locals) (hc : cells + rm.cells ≤ R.cells) (hs : slots + rm.slots ≤ R.slots)
    (hsz : L.size = ml) (hp : parseMethodDescriptor y.desc = some ⟨ps, rt⟩) (hlen : argsL.length = ps.length) (hW : (rest.map fun v => v.category).sum ≤ W) (hd : decode b pc = .ok (.invokespecial index, 3)) :
    ∃ v T' h', Nw Z n0 h' p l e R s m args below meth c T' (cells + rm.cells) (slots + rm.slots) ∧ Q v h' ∧ Ld p e below T (mkF m pc L (argsL.reverse ++ .ref a :: rest)) T' (mkF m (pc + 3) L (v.toList ++ rest)) := by
  obtain ⟨Lc, X, eT, r, q, hZ⟩ := N
  obtain ⟨v, _, ⟨T', L', k', n'⟩, -, X', ⟨Lc', hQ, l', y', z'⟩, st⟩ := X.specialBack K.1 (y := y) hi (cx_own K hZ) (mvT hZ w1) (mvT hZ w2) (mvT hZ w4) hy (backOf (W := W) (Q := fun v h L => n0 ≤ h.size ∧ Fr n0 L ∧ Q v h) (hM q) hZ w4 w3 hf hl) (g := mkF m pc L (argsL.reverse ++ .ref a :: rest)) rfl (by rw [K.2.2.2]; exact hsz) (Steps.refl _) (a := a) (argsL := argsL) (rest := rest) (lenOf hp hlen) rfl (by show 2 * 0 + _ ≤ _; omega) (hb K.2.2.1 hd) (fun _ _ => ⟨rfl, eT, hc, hs⟩)
  dsimp only [Pt.U, Pt.locs, Pt.cells, Pt.slots] at X' l' y' z' st hQ
  subst l' y' z'
  exact ⟨v, T', T'.heap, ⟨_, X', rfl, Fr.app r hQ.2.1, hQ.1, hZ⟩, hQ.2.2, fun t k => st.trans k⟩
theorem goVi (K : Cx Z own b ml p m c) (N : Nw Z n0 h p l e R s m args below meth c T cells slots) {a : Addr} {C : String} (E : Exa Z h a C)
    (w1 : (Jvm.Cond.methodLink own index y).before a0 Z = true) (w2 : (Jvm.Cond.declares y).before a0 Z = true) (w5 : (Jvm.Cond.selects C y y).before a0 Z = true) (w6 : (Jvm.Cond.instanceMethod y).before a0 Z = true) (w3 : (Jvm.Cond.initialized y.cls).before a0 Z = true) (w4 : (Jvm.Cond.code y bytes maxL ret).before a0 Z = true)
    (hM : Con l Z n0 y bytes maxL ret [] rm (Value.ref a :: argsL).toArray h Q) (hy : y.cls ≠ "java/lang/invoke/MethodHandle" ∧ y.cls ≠ "java/lang/invoke/VarHandle") (hf : rm.frames + 1 ≤ R.frames) (hl : W + (maxL + 11) + rm.locals ≤ R.locals) (hc : cells + rm.cells ≤ R.cells) (hs : slots + rm.slots ≤ R.slots)
    (hsz : L.size = ml) (hp : parseMethodDescriptor y.desc = some ⟨ps, rt⟩) (hlen : argsL.length = ps.length) (hW : (rest.map fun v => v.category).sum ≤ W) (hd : decode b pc = .ok (.invokevirtual index, 3)) :
    ∃ v T' h', Nw Z n0 h' p l e R s m args below meth c T' (cells + rm.cells) (slots + rm.slots) ∧ Q v h' ∧ Ld p e below T (mkF m pc L (argsL.reverse ++ .ref a :: rest)) T' (mkF m (pc + 3) L (v.toList ++ rest)) := by
  obtain ⟨Lc, X, eT, r, q, hZ⟩ := N
  obtain ⟨cB, kB, q1, q2, q3⟩ := isOf hZ eT E
  obtain ⟨v, _, ⟨T', L', k', n'⟩, -, X', ⟨Lc', hQ, l', y', z'⟩, st⟩ := X.virtualBack K.1 (y := y) (z := y) (cx_own K hZ) (mvT hZ w1) (mvT hZ w2) (notFace_of_selects (args := #[]) (mvT hZ w5)) (mvT hZ w5) (mvT hZ w6) hy (backOf (W := W) (Q := fun v h L => n0 ≤ h.size ∧ Fr n0 L ∧ Q v h) (hM q) hZ w4 w3 hf hl) q1 q3 (g := mkF m pc L (argsL.reverse ++ .ref a :: rest)) rfl (by rw [K.2.2.2]; exact hsz) (Steps.refl _) (argsL := argsL) (rest := rest) (lenOf hp hlen) rfl (by show 2 * 0 + _ ≤ _; omega) (hb K.2.2.1 hd) (fun _ _ => ⟨rfl, eT, hc, hs⟩)
  dsimp only [Pt.U, Pt.locs, Pt.cells, Pt.slots] at X' l' y' z' st hQ
  subst l' y' z'
  exact ⟨v, T', T'.heap, ⟨_, X', rfl, Fr.app r hQ.2.1, hQ.1, hZ⟩, hQ.2.2, fun t k => st.trans k⟩
end OwnCalls
end OwnGo
section OwnArr
variable {Z : State} {h h' : Heap} {a b : Addr} {ty : FieldType} {vs : List Value} {v : Value} {sl : Nat} {ws : List Addr}
/-- the array at a holds just vs -/
def Av (Z : State) (h : Heap) (a : Addr) (ty : FieldType) (vs : List Value) : Prop := ∃ c : Cell, Arr Z h a c ty ∧ c.slots.toList = vs ∧ vs.length < 2 ^ 31
theorem Av.lt (F : Av Z h a ty vs) : a < h.size := by obtain ⟨_, A, -⟩ := F; exact A.lt
theorem Av.ext (F : Av Z h a ty vs) (E : Ext h h') : Av Z h' a ty vs := by obtain ⟨c, A, r⟩ := F; exact ⟨c, A.ext E, r⟩
theorem Av.keep (F : Av Z h a ty vs) (K : Keep h h' ws) (q : a ∉ ws) : Av Z h' a ty vs := by obtain ⟨c, A, r⟩ := F; exact ⟨c, ⟨K.2.1 a c A.1 q, A.2⟩, r⟩
theorem Av.other (F : Av Z h a ty vs) (W : Wr h h' b sl v) (q : a ≠ b) : Av Z h' a ty vs := by obtain ⟨c, A, r⟩ := F; exact ⟨c, A.other W q, r⟩
theorem keep_ext (E : Ext h h') : Keep h h' ws := (Keep.refl h ws).ext E
theorem Av.new {k : ClassId} {z : Int32} {n : Nat} (A : Arr Z h a (newA k ty z) ty) (q : ¬ z < 0) (hn : z.toInt = n) : Av Z h a ty (List.replicate n (defaultValue ty)) := by
  have e : z.toNatClampNeg = n := by simp [Int32.toNatClampNeg, hn]
  refine ⟨_, A, by simp [newA, e], ?_⟩
  have := Int32.toInt_lt z
  simp only [List.length_replicate]; omega
theorem clamp_of {j : Int32} {i : Nat} (hj : j.toInt = i) : j.toNatClampNeg = i := by simp [Int32.toNatClampNeg, hj]
theorem not_neg_of {j : Int32} {i : Nat} (hj : j.toInt = i) : ¬ j < 0 := by rw [Int32.lt_iff_toInt_lt, hj]; show ¬ (i : Int) < 0; omega
theorem Av.inb {c : Cell} (e : c.slots.toList = vs) {j : Int32} {i : Nat} (hj : j.toInt = i) (hi : i < vs.length) : ¬ (j < 0 ∨ c.slots.size ≤ j.toNatClampNeg) := by
  rintro (q | q)
  · exact not_neg_of hj q
  · rw [clamp_of hj] at q; rw [← e, Array.length_toList] at hi; omega
theorem Av.rd (F : Av Z h a ty vs) {j : Int32} {i : Nat} (hj : j.toInt = i) (hv : vs[i]? = some v) : Rd Z h a ty j v := by
  obtain ⟨c, A, e, -⟩ := F
  refine ⟨c, A, Av.inb e hj (List.getElem?_eq_some_iff.mp hv).1, ?_⟩
  rw [clamp_of hj, ← hv, ← e, Array.getElem?_toList]
theorem Av.ln (F : Av Z h a ty vs) {n : Int32} (hn : n.toInt = vs.length) : Ln Z h a n := by
  obtain ⟨c, A, e, q⟩ := F
  refine ⟨c, ty, A, ?_⟩
  rw [← Array.length_toList, e]
  apply Int32.toInt_inj.mp
  rw [hn]; exact Int32.toInt_ofNat_of_lt q
theorem Av.set {c : Cell} (A : Arr Z h a c ty) (e : c.slots.toList = vs) (q : vs.length < 2 ^ 31) {j : Int32} {i : Nat} (hj : j.toInt = i) (W : Wr h h' a j.toNatClampNeg v) : Av Z h' a ty (vs.set i v) := by
  rw [clamp_of hj] at W
  refine ⟨_, A.same W, ?_, by simpa using q⟩
  simp [Cell.setSlot, e]
theorem Av.ne {a b : Addr} {ty' : FieldType} {us : List Value} (F : Av Z h a ty vs) (G : Av Z h b ty' us) (q : ty ≠ ty') : a ≠ b := fun e => by
  subst e
  obtain ⟨c, A, -⟩ := F
  obtain ⟨c', B, -⟩ := G
  cases A.1.symm.trans B.1
  obtain ⟨-, k, hk, comp, h1⟩ := A.2.1
  obtain ⟨-, k', hk', comp', h2⟩ := B.2.1
  cases hk.symm.trans hk'
  rw [h1] at h2; cases h2; exact q rfl
theorem Av.ne_exa {a0 : Array Value} {C : String} {k : Nat} (F : Av Z h a ty vs) (G : Exa Z h b C) (wi : (Jvm.Cond.instantiable C k).before a0 Z = true) : b ≠ a := by
  obtain ⟨c, A, -⟩ := F
  exact ne_arr G wi A
theorem n_ti {i : Nat} (q : i < 2147483648) : (Int32.ofNat i).toInt = i := Int32.toInt_ofNat_of_lt q
theorem n_one (i : Nat) : Int32.ofNat i + (1 : Int32) = Int32.ofNat (i + 1) := (Int32.ofNat_add i 1).symm
theorem n_lt {i j : Nat} (hi : i < 2147483648) (hj : j < 2147483648) : Int32.ofNat i < Int32.ofNat j ↔ i < j := by rw [Int32.lt_iff_toInt_lt, n_ti hi, n_ti hj]; omega
theorem n_eq {i j : Nat} (hi : i < 2147483648) (hj : j < 2147483648) : Int32.ofNat i = Int32.ofNat j ↔ i = j := by rw [← Int32.toInt_inj, n_ti hi, n_ti hj]; omega
end OwnArr
section OwnSto
variable {p : Program} {l : Launch} {e : Env} {R : Room} {s : State} {m : MethodId} {args : Array Value} {below : List Frame} {meth : Method} {c : Code} {T : State} {cells slots : Nat} {Z : State} {a0 : Array Value} {h : Heap} {own : String} {n0 : Nat} {b : ByteArray} {ml : Nat} {a : Addr} {vs : List Value} {j : Int32} {i : Nat} {pc : Nat} {L : Array Slot} {S : List Value}
theorem avStI (K : Cx Z own b ml p m c) (N : Nw Z n0 h p l e R s m args below meth c T cells slots) (F : Av Z h a .int vs) {x : Int32} (hj : j.toInt = i) (hi : i < vs.length) (ha : n0 ≤ a) (hd : decode b pc = .ok (.iastore, 1)) :
    ∃ T' h', Nw Z n0 h' p l e R s m args below meth c T' cells slots ∧ Keep h h' [a] ∧ Av Z h' a .int (vs.set i (.int x)) ∧ Ld p e below T (mkF m pc L (.int x :: .int j :: .ref a :: S)) T' (mkF m (pc + 1) L S) := by
  obtain ⟨cl, A, q1, q2⟩ := F
  obtain ⟨T', h', N', W, st⟩ := goStI K N A (Av.inb q1 hj hi) ha hd
  exact ⟨T', h', N', Keep.of_wr W, Av.set A q1 q2 hj W, st⟩
theorem avStJ (K : Cx Z own b ml p m c) (N : Nw Z n0 h p l e R s m args below meth c T cells slots) (F : Av Z h a .long vs) {x : Int64} (hj : j.toInt = i) (hi : i < vs.length) (ha : n0 ≤ a) (hd : decode b pc = .ok (.lastore, 1)) :
    ∃ T' h', Nw Z n0 h' p l e R s m args below meth c T' cells slots ∧ Keep h h' [a] ∧ Av Z h' a .long (vs.set i (.long x)) ∧ Ld p e below T (mkF m pc L (.long x :: .int j :: .ref a :: S)) T' (mkF m (pc + 1) L S) := by
  obtain ⟨cl, A, q1, q2⟩ := F
  obtain ⟨T', h', N', W, st⟩ := goStJ K N A (Av.inb q1 hj hi) ha hd
  exact ⟨T', h', N', Keep.of_wr W, Av.set A q1 q2 hj W, st⟩
theorem avStC (K : Cx Z own b ml p m c) (N : Nw Z n0 h p l e R s m args below meth c T cells slots) (F : Av Z h a .char vs) {x : Int32} (hj : j.toInt = i) (hi : i < vs.length) (ha : n0 ≤ a) (hd : decode b pc = .ok (.castore, 1)) :
    ∃ T' h', Nw Z n0 h' p l e R s m args below meth c T' cells slots ∧ Keep h h' [a] ∧ Av Z h' a .char (vs.set i (.int (nar .char x))) ∧ Ld p e below T (mkF m pc L (.int x :: .int j :: .ref a :: S)) T' (mkF m (pc + 1) L S) := by
  obtain ⟨cl, A, q1, q2⟩ := F
  obtain ⟨T', h', N', W, st⟩ := goStC K N A (Av.inb q1 hj hi) ha hd
  exact ⟨T', h', N', Keep.of_wr W, Av.set A q1 q2 hj W, st⟩
theorem avStB (K : Cx Z own b ml p m c) (N : Nw Z n0 h p l e R s m args below meth c T cells slots) (F : Av Z h a .byte vs) {x : Int32} (hj : j.toInt = i) (hi : i < vs.length) (ha : n0 ≤ a) (hd : decode b pc = .ok (.bastore, 1)) :
    ∃ T' h', Nw Z n0 h' p l e R s m args below meth c T' cells slots ∧ Keep h h' [a] ∧ Av Z h' a .byte (vs.set i (.int (nar .byte x))) ∧ Ld p e below T (mkF m pc L (.int x :: .int j :: .ref a :: S)) T' (mkF m (pc + 1) L S) := by
  obtain ⟨cl, A, q1, q2⟩ := F
  obtain ⟨T', h', N', W, st⟩ := goStB K N A (Av.inb q1 hj hi) ha hd
  exact ⟨T', h', N', Keep.of_wr W, Av.set A q1 q2 hj W, st⟩
end OwnSto
section OwnRef
variable {p : Program} {l : Launch} {e : Env} {R : Room} {s : State} {m : MethodId} {args : Array Value} {below : List Frame} {meth : Method} {c : Code} {T : State} {cells slots : Nat} {Z : State} {a0 : Array Value} {h h' : Heap} {own : String} {n0 : Nat} {b : ByteArray} {ml : Nat} {a : Addr} {vs : List Value} {j : Int32} {i : Nat} {pc : Nat} {L : Array Slot} {S : List Value} {C : String} {ws : List Addr}
/-- the array at a takes objects of C -/
def Ovc (Z : State) (h : Heap) (a : Addr) (C : String) : Prop := ∃ cell : Cell, h[a]? = some cell ∧ Ovr Z cell.cls C
theorem Ovc.keep (F : Ovc Z h a C) (K : Keep h h' ws) : Ovc Z h' a C := by
  obtain ⟨cell, h1, h2⟩ := F
  obtain ⟨c', q, r1, -⟩ := K.2.2 a cell h1
  exact ⟨c', q, r1 ▸ h2⟩
theorem goNewR (K : Cx Z own b ml p m c) (N : Nw Z n0 h p l e R s m args below meth c T cells slots) {index : Nat} (w1 : (Jvm.Cond.classLink own index C).before a0 Z = true) (w2 : (Jvm.Cond.arrayOver (.object C)).before a0 Z = true) {n : Int32} {k : Nat} (hn : n.toInt = k) {cap : Nat} (hcap : k ≤ cap) (hbg : cap * 8 ≤ 536870912) (hc : cells + 1 ≤ R.cells) (hl : slots + cap ≤ R.slots)
    (hd : decode b pc = .ok (.anewarray index, 3)) :
    ∃ T' h' a, a = h.size ∧ Nw Z n0 h' p l e R s m args below meth c T' (cells + 1) (slots + cap) ∧ Ext h h' ∧ Av Z h' a (.object C) (List.replicate k .null) ∧ Ovc Z h' a C ∧ Ld p e below T (mkF m pc L (.int n :: S)) T' (mkF m (pc + 3) L (.ref a :: S)) := by
  obtain ⟨Lc, X, eT, r, q, hZ⟩ := N
  obtain ⟨T', h', cA, X', e', E, A, O, st⟩ := newR X K.1 hZ (cx_own K hZ) w1 w2 eT (g := mkF m pc L (.int n :: S)) rfl (hb K.2.2.1 hd) rfl (not_neg_of hn) (cap := cap) (by rw [clamp_of hn]; exact hcap) hbg hc hl
  exact ⟨T', h', _, rfl, ⟨Lc, X', e', r, Nat.le_trans q E.1, hZ⟩, E, Av.new A (not_neg_of hn) hn, ⟨_, A.1, O⟩, st⟩
theorem avStR (K : Cx Z own b ml p m c) (N : Nw Z n0 h p l e R s m args below meth c T cells slots) (F : Av Z h a (.object C) vs) (O : Ovc Z h a C) {v : Value} (hv : v = .null ∨ ∃ y, v = .ref y ∧ Exa Z h y C) (hj : j.toInt = i) (hi : i < vs.length) (ha : n0 ≤ a) (hd : decode b pc = .ok (.aastore, 1)) :
    ∃ T' h', Nw Z n0 h' p l e R s m args below meth c T' cells slots ∧ Keep h h' [a] ∧ Av Z h' a (.object C) (vs.set i v) ∧ Ld p e below T (mkF m pc L (v :: .int j :: .ref a :: S)) T' (mkF m (pc + 1) L S) := by
  obtain ⟨cl, A, q1, q2⟩ := F
  obtain ⟨cell, o1, o2⟩ := O
  cases o1.symm.trans A.1
  have sto : Sto Z h a v := by
    rcases hv with rfl | ⟨y, rfl, X⟩
    · exact Or.inl rfl
    · exact Sto.of A o2 (Ins.self X)
  obtain ⟨Lc, X, eT, r, q, hZ⟩ := N
  obtain ⟨T', h', X', e', W, st⟩ := stR X K.1 hZ eT A (Av.inb q1 hj hi) rfl sto (g := mkF m pc L (v :: .int j :: .ref a :: S)) rfl rfl (hb K.2.2.1 hd)
  exact ⟨T', h', ⟨_, X', e', Fr.snoc X' r ha, by rw [W.size]; exact q, hZ⟩, Keep.of_wr W, Av.set A q1 q2 hj W, st⟩
end OwnRef
section OwnWide
/-- where the run stands (the wide frame: constants may have come into the intern table): EL: the constants whose text is followed -/
def NwW (Z : State) (EL : List (String × Nat)) (n0 : Nat) (h : Heap) (p : Program) (l : Launch) (e : Env) (R : Room) (s : State) (m : MethodId) (args : Array Value) (below : List Frame) (meth : Method) (c : Code) (T : State) (cells slots : Nat) : Prop :=
  ∃ locs k0, Stand p l e R (s.setVm T.vm) m args below meth c T locs cells slots ∧ T.heap = h ∧ Fr n0 locs ∧ n0 ≤ h.size ∧ Z.Warmed39 T.vm ∧ s.Since T.vm k0 ∧ k0 ≤ h.size ∧ CHv Z EL T.vm h
variable {p : Program} {l : Launch} {e : Env} {R : Room} {s : State} {m : MethodId} {args : Array Value} {below : List Frame} {meth : Method} {c : Code} {T T1 T2 : State} {cells slots cells' slots' : Nat} {Z : State} {a0 : Array Value} {h h1 h2 : Heap} {own : String} {n0 : Nat} {b : ByteArray} {ml : Nat} {g g1 g2 : JFrame} {EL : List (String × Nat)}
theorem NwW.nar (N : NwW Z EL n0 h p l e R s m args below meth c T cells slots) : Nw Z n0 h p l e R (s.setVm T.vm) m args below meth c T cells slots := by
  obtain ⟨L, k, X, e1, e2, e3, e4, -⟩ := N; exact ⟨L, X, e1, e2, e3, e4⟩
theorem NwW.ch (N : NwW Z EL n0 h p l e R s m args below meth c T cells slots) : CHv Z EL T.vm h := by
  obtain ⟨L, k, X, e1, e2, e3, e4, -, -, q⟩ := N; exact q
theorem NwW.size (N : NwW Z EL n0 h p l e R s m args below meth c T cells slots) : n0 ≤ h.size := N.nar.size
theorem NwW.al (N : NwW Z EL n0 h p l e R s m args below meth c T cells slots) : Z.vm.Alike T.vm := by
  obtain ⟨L, k, X, e1, e2, e3, e4, -⟩ := N; exact e4.alike
theorem NwW.mono (N : NwW Z EL n0 h p l e R s m args below meth c T cells slots) (q1 : cells ≤ cells') (q2 : slots ≤ slots') : NwW Z EL n0 h p l e R s m args below meth c T cells' slots' := by
  obtain ⟨L, k, X, r⟩ := N; exact ⟨L, k, X.mono q1 q2, r⟩
/-- a narrow law's step, said of the wide stand -/
theorem NwW.back (N : NwW Z EL n0 h p l e R s m args below meth c T cells slots) (w : EW Z a0 EL) (N' : Nw Z n0 h1 p l e R (s.setVm T.vm) m args below meth c T1 cells' slots') (H : CHr Z EL T.vm h T.vm h1) :
    NwW Z EL n0 h1 p l e R s m args below meth c T1 cells' slots' ∧ CHr Z EL T.vm h T1.vm h1 := by
  obtain ⟨L, k, X, e1, e2, e3, e4, hS, hk, hC⟩ := N
  obtain ⟨L', X', e1', e2', e3', -⟩ := N'
  have A := CHv.at X' e4 w H.1
  refine ⟨⟨L', k, X'.retabled X'.warmed.wide, e1', e2', e3', wtrans (s := s.setVm T.vm) e4 X'.warmed, ?_, Nat.le_trans hk H.2.1, A.1⟩, H.trans A⟩
  exact hS.trans (X'.warmed.since k) (Nat.le_refl _)
/-- .. of a step that makes a cell: the new ones are safe -/
theorem NwW.backE (N : NwW Z EL n0 h p l e R s m args below meth c T cells slots) (w : EW Z a0 EL) (N' : Nw Z n0 h1 p l e R (s.setVm T.vm) m args below meth c T1 cells' slots') (E : Ext h h1) :
    (NwW Z EL n0 h1 p l e R s m args below meth c T1 cells' slots' ∧ CHr Z EL T.vm h T1.vm h1) ∧ ∀ x, h.size ≤ x → Safe Z EL T1.vm h1 x := by
  refine ⟨N.back w N' (CHr.ext E N.ch), fun x hx B => ?_⟩
  have hC := N.ch
  obtain ⟨L, k, X, e1, e2, e3, e4, hS, hk, -⟩ := N
  obtain ⟨L', X', e1', e2', e3', -⟩ := N'
  have A := CHv.at X' e4 w (hC.ext E)
  rcases A.2.2 x B with q | q
  · have q2 := (hC.step fun _ _ _ z => E.2 _ _ z).2 x q
    obtain ⟨cell, z⟩ := q2.there
    have := (Array.getElem?_eq_some_iff.mp z).1; omega
  · obtain ⟨cell, z⟩ := B.there
    have := (Array.getElem?_eq_some_iff.mp z).1; omega
/-- ldc of a constant of EL -/
theorem goLdc (K : Cx Z own b ml p m c) (w : EW Z a0 EL) (N : NwW Z EL n0 h p l e R s m args below meth c T cells slots) {text : String} {index : Nat} (w1 : (Jvm.Cond.stringLink own index text).before a0 Z = true) (wS : ∀ a ∈ Bundle.stringAtoms, a.before a0 Z = true) (hm : (own, index) ∈ EL)
    {vs : List Value} (ht : (∀ c ∈ text.toList, c.toNat < 256) ∧ text.toList.map (fun c => Value.int (Jvm.Lit.byteI c.toNat.toUInt16)) = vs) {z : Int32} (hz : ¬ z < 0) (hl : z.toNatClampNeg = vs.length)
    {pc : Nat} {L : Array Slot} {S : List Value} (hd : decode b pc = .ok (.ldc index, 2)) {n : Nat} (hn : 4 * text.toList.length ≤ n) (hbig : n ≤ 536870912) (hc : cells + 2 ≤ R.cells) (hl' : slots + (n + 4) ≤ R.slots) :
    ∃ a T' h' bb k, NwW Z EL n0 h' p l e R s m args below meth c T' (cells + 2) (slots + (n + 4)) ∧ CHr Z EL T.vm h T'.vm h' ∧ Ext h h' ∧ Exa Z h' a "java/lang/String" ∧ Fld Z h' a "java/lang/String" "coder" "B" (.int 0) ∧ Fld Z h' a "java/lang/String" "value" "[B" (.ref bb) ∧ Arv Z h' bb k .byte z vs (.int 0) ∧ (∀ x, Safe Z EL T'.vm h' x → x ≠ a ∧ x ≠ bb) ∧ Ld p e below T (mkF m pc L S) T' (mkF m (pc + 2) L (.ref a :: S)) := by
  obtain ⟨Lc, k, X, e1, e2, e3, e4, hS, hk, hC⟩ := N
  obtain ⟨a, T', h', k1, bb, kb, X', e1', E, hS', hk', hW, hf, q1, q2, q3, q4, q5, q6, q7, q8, q9, st⟩ := ldcCH X K.1 e4 (by rw [e4.alike.findClass]; exact K.2.1) w1 wS e1 hS hk w hm hC ht hz hl (g := mkF m pc L S) rfl (hb K.2.2.1 hd) hn hbig hc hl'
  exact ⟨a, T', h', bb, kb, ⟨Lc, k1, X', e1', e2, Nat.le_trans e3 E.1, hW, hS', hk', q7.1⟩, q7, E, q1, q2, q3, q4, q9, st⟩
/-- what a body does, in the wide frame; sf: new Strings and byte[]s that it may write -/
def ConW (l : Launch) (Z : State) (EL : List (String × Nat)) (n0 : Nat) (y : MethodName) (bytes : ByteArray) (maxL : Nat) (ret : Option FieldType) (ws : List Jvm.Cond) (rm : Room) (as' : Array Value) (h : Heap) (sf : List Addr) (Q : Option Value → Heap → Prop) : Prop :=
  n0 ≤ h.size → MetFree l y (head1 (Jvm.Cond.code y bytes maxL ret :: ws) rm) (fun a U => a = as' ∧ Z.Warmed39 U.vm ∧ U.heap = h ∧ CHv Z EL U.vm h ∧ ∀ x ∈ sf, x < h.size ∧ Safe Z EL U.vm h x) (fun _ _ _ _ _ => True)
    (fun _ U o U' => ∃ v L, o = .returned v ∧ (n0 ≤ U'.heap.size ∧ Fr n0 L ∧ Q v U'.heap) ∧ CHr Z EL U.vm U.heap U'.vm U'.heap ∧ ReturnedEndW U o U' L rm.cells rm.slots)
theorem ConW.of {y : MethodName} {bytes : ByteArray} {maxL : Nat} {ret : Option FieldType} {ws : List Jvm.Cond} {rm : Room} {as' : Array Value} {sf : List Addr} {Q : Option Value → Heap → Prop} (pn : plainName y.cls = true) {L0 : Array Slot} (ef : ∀ m, entryFrame m as' maxL = mkF m 0 L0 [])
    (body : ∀ {p : Program} {e : Env} {s : State} {m : MethodId} {below : List Frame} {meth : Method} {c : Code} {T : State}, Cx Z y.cls bytes maxL p m c → meth.sig.returnType = ret → meth.name = y.name → NwW Z EL n0 h p l e rm s m as' below meth c T 0 0 → (∀ x ∈ sf, x < h.size ∧ Safe Z EL T.vm h x) → s.heap = h →
      ∃ (v : Option Value) (T' : State) (g' : JFrame) (h' : Heap) (k n : Nat), NwW Z EL n0 h' p l e rm s m as' below meth c T' k n ∧ k ≤ rm.cells ∧ n ≤ rm.slots ∧ (ret = none → v = none) ∧ Q v h' ∧ CHr Z EL T.vm h T'.vm h' ∧ Ld p e below T (mkF m 0 L0 []) T' g' ∧ Fn p e below m T' g' v) : ConW l Z EL n0 y bytes maxL ret ws rm as' h sf Q := fun hn => by
  refine MetFree.of_bodySF (plainFor_of_name pn) hisR ?_
  intro p e s m args below meth c s₁ Bd hml0 hP hK
  obtain ⟨rfl, hZ, hh, hC, hsf⟩ := hP
  have hown : s.vm.findClass y.cls = some m.cls := findClass_of_methodNamed Bd.named
  have X0 := Stand.of_body Bd
  have e0 : s₁.heap = h := by rw [← hh, Bd.state]; rfl
  have v0 : s₁.vm = s.vm := by rw [Bd.state]; rfl
  obtain ⟨v, T', g', h', k, n, ⟨Lc, k0, X, eT, F, q, hZ', hS, hk, hC'⟩, q1, q2, q3, hQ, hCr, hL, hF⟩ := body (T := s₁) ⟨Bd.exec, by rw [← hZ.alike.findClass]; exact hown, Bd.bytes, hml0⟩ Bd.returns (name_of_methodNamed Bd.named Bd.method).1 ⟨[], 0, X0.retabled X0.warmed.wide, e0, Fr.nil n0, hn, by rw [v0]; exact hZ, X0.warmed.since 0, Nat.zero_le _, by rw [v0]; exact hC⟩ (by rw [v0]; exact hsf) hh
  subst eT
  obtain ⟨fs, hr, hrun, hended, hW⟩ := X.leaveW hS hk (v := v) (fun q => q3 (by rw [← Bd.returns]; exact q)) Bd.notSynchronized
  refine ⟨_, _, castTop (ef m) (hL _ (hF fs hr)), hrun, hended, v, _, rfl, ⟨q, F, hQ⟩, ?_, hW.1, hW.2.1, hW.2.2.1, hW.2.2.2.mono q1 q2⟩
  rw [v0] at hCr; rw [hh]; exact hCr
section OwnCallsW
variable {y : MethodName} {bytes : ByteArray} {maxL : Nat} {ret : Option FieldType} {rm : Room} {index : Nat} {argsL rest : List Value} {Q : Option Value → Heap → Prop} {pc : Nat} {L : Array Slot} {W : Nat} {ps : List FieldType} {rt : Option FieldType} {sf : List Addr}
theorem backW {as' : Array Value} (hM : ConW l Z EL n0 y bytes maxL ret [] rm as' h sf Q) (q : n0 ≤ h.size) {len : Nat} (hZ : Z.Warmed39 T.vm) (w : EW Z a0 EL) (H : CHv Z EL T.vm h) (hsf : ∀ x ∈ sf, x < h.size ∧ Safe Z EL T.vm h x)
    (w4 : (Jvm.Cond.code y bytes maxL ret).before a0 Z = true) (w3 : (Jvm.Cond.initialized y.cls).before a0 Z = true) (hf : rm.frames + 1 ≤ R.frames) (hl : W + (maxL + 11) + rm.locals ≤ R.locals) :
    BackS l R p e below (s.setVm T.vm) args y len W (fun A a => a = as' ∧ A.U.heap = h ∧ A.cells + rm.cells ≤ R.cells ∧ A.slots + rm.slots ≤ R.slots)
      (fun A _ v B => ∃ L, (n0 ≤ B.U.heap.size ∧ Fr n0 L ∧ Q v B.U.heap) ∧ B.locs = A.locs ++ L ∧ B.cells = A.cells + rm.cells ∧ B.slots = A.slots + rm.slots ∧ CHr Z EL T.vm h B.U.vm B.U.heap) :=
  BackS.of_freeW (bytes := bytes) (maxL := maxL) (ret := ret) (E := fun _ first o t L k n => k = rm.cells ∧ n = rm.slots ∧ (∃ v, o = .returned v ∧ (n0 ≤ t.heap.size ∧ Fr n0 L ∧ Q v t.heap)) ∧ CHr Z EL first.vm first.heap t.vm t.heap) (hM q) hf hl
    (fun m meth c A a Y hp => have hU : Z.Warmed39 A.U.vm := wtrans (s := s.setVm T.vm) hZ Y.warmed
      ⟨by show (Jvm.Cond.and _ .tt).before a A.U = true; rw [Cond.before_and, mv hU w4]; rfl, mv hU w4, mv hU w3, hp.2.2.1, hp.2.2.2⟩)
    (fun m meth c A a g mk Y hp => ⟨hp.1, wtrans (s := s.setVm T.vm) hZ Y.warmed, hp.2.1, (CHv.at Y hZ w H).1, fun x hx => ⟨(hsf x hx).1, (CHv.at Y hZ w H).safe (hsf x hx).1 (hsf x hx).2⟩⟩) (fun _ _ _ _ _ _ _ _ _ => trivial)
    (fun _ _ _ _ ⟨v, L, h1, h2, h3, h4⟩ => ⟨L, _, _, h4, rfl, rfl, ⟨v, h1, h2⟩, h3⟩)
    (fun m meth c A a g mk v t L k n Y hp _ _ ⟨e1, e2, ⟨v', e3, e4⟩, e5⟩ => by
      cases e3; subst e1 e2
      refine ⟨L, e4, rfl, rfl, rfl, (CHv.at Y hZ w H).trans ?_⟩
      rw [← hp.2.1]; exact e5)
theorem goSW (K : Cx Z own b ml p m c) (w : EW Z a0 EL) (N : NwW Z EL n0 h p l e R s m args below meth c T cells slots)
    (w1 : (Jvm.Cond.methodLink own index y).before a0 Z = true) (w2 : (Jvm.Cond.static y).before a0 Z = true) (w3 : (Jvm.Cond.initialized y.cls).before a0 Z = true) (w4 : (Jvm.Cond.code y bytes maxL ret).before a0 Z = true)
    (hM : ConW l Z EL n0 y bytes maxL ret [] rm argsL.toArray h sf Q) (hsf : ∀ x ∈ sf, x < h.size ∧ Safe Z EL T.vm h x) (hy : y.cls ≠ "java/lang/invoke/MethodHandle" ∧ y.cls ≠ "java/lang/invoke/VarHandle") (hf : rm.frames + 1 ≤ R.frames) (hl : W + (maxL + 11) + rm.locals ≤ R.locals) (hc : cells + rm.cells ≤ R.cells) (hs : slots + rm.slots ≤ R.slots)
    (hsz : L.size = ml) (hp : parseMethodDescriptor y.desc = some ⟨ps, rt⟩) (hlen : argsL.length = ps.length) (hW : (rest.map fun v => v.category).sum ≤ W) (hd : decode b pc = .ok (.invokestatic index, 3)) :
    ∃ v T' h', NwW Z EL n0 h' p l e R s m args below meth c T' (cells + rm.cells) (slots + rm.slots) ∧ CHr Z EL T.vm h T'.vm h' ∧ Q v h' ∧ Ld p e below T (mkF m pc L (argsL.reverse ++ rest)) T' (mkF m (pc + 3) L (v.toList ++ rest)) := by
  obtain ⟨Lc, k0, X, eT, r, q, hZ, hS, hk, hC⟩ := N
  obtain ⟨v, _, ⟨T', L', k', n'⟩, -, X', hS', hgr, ⟨Lc', hQ, l', y', z', hCr⟩, st⟩ := callSS X K.1 (y := y) (by show T.vm.findClass own = _; rw [hZ.alike.findClass]; exact K.2.1) (mvT (s := s.setVm T.vm) hZ w1) (mvT (s := s.setVm T.vm) hZ w2) (mvT (s := s.setVm T.vm) hZ w3) (mvT (s := s.setVm T.vm) hZ w4) hy (backW (W := W) hM q hZ w hC hsf w4 w3 hf hl) (g := mkF m pc L (argsL.reverse ++ rest)) rfl (by rw [K.2.2.2]; exact hsz) (argsL := argsL) (rest := rest) (lenOf hp hlen) rfl (by show 2 * 0 + _ ≤ _; omega) (hb K.2.2.1 hd) (fun _ _ => ⟨rfl, eT, hc, hs⟩)
  dsimp only [Pt.U, Pt.locs, Pt.cells, Pt.slots] at X' l' y' z' st hQ hS' hgr hCr
  subst l' y' z'
  exact ⟨v, T', T'.heap, ⟨_, _, X', rfl, Fr.app r hQ.2.1, hQ.1, State.Warmed39.trans (t := s.setVm T.vm) hZ hS'.1, hS.trans hS' (Nat.le_trans hk (by rw [← eT]; exact hgr)), Nat.le_refl _, hCr.1⟩, hCr, hQ.2.2, fun t k => st.trans k⟩
theorem goSpW (K : Cx Z own b ml p m c) (w : EW Z a0 EL) (N : NwW Z EL n0 h p l e R s m args below meth c T cells slots) {a : Addr}
    (w1 : (Jvm.Cond.methodLink own index y).before a0 Z = true) (w2 : (Jvm.Cond.instanceMethod y).before a0 Z = true) (w3 : (Jvm.Cond.initialized y.cls).before a0 Z = true) (w4 : (Jvm.Cond.code y bytes maxL none).before a0 Z = true)
    (hM : ConW l Z EL n0 y bytes maxL none [] rm (Value.ref a :: argsL).toArray h sf Q) (hsf : ∀ x ∈ sf, x < h.size ∧ Safe Z EL T.vm h x) (hi : y.name = "<init>") (hy : y.cls ≠ "java/lang/invoke/MethodHandle" ∧ y.cls ≠ "java/lang/invoke/VarHandle") (hf : rm.frames + 1 ≤ R.frames) (hl : W + (maxL + 11) + rm.locals ≤ R.locals) (hc : cells + rm.cells ≤ R.cells) (hs : slots + rm.slots ≤ R.slots)
    (hsz : L.size = ml) (hp : parseMethodDescriptor y.desc = some ⟨ps, rt⟩) (hlen : argsL.length = ps.length) (hW : (rest.map fun v => v.category).sum ≤ W) (hd : decode b pc = .ok (.invokespecial index, 3)) :
    ∃ v T' h', NwW Z EL n0 h' p l e R s m args below meth c T' (cells + rm.cells) (slots + rm.slots) ∧ CHr Z EL T.vm h T'.vm h' ∧ Q v h' ∧ Ld p e below T (mkF m pc L (argsL.reverse ++ .ref a :: rest)) T' (mkF m (pc + 3) L (v.toList ++ rest)) := by
  obtain ⟨Lc, k0, X, eT, r, q, hZ, hS, hk, hC⟩ := N
  obtain ⟨v, _, ⟨T', L', k', n'⟩, -, X', hS', hgr, ⟨Lc', hQ, l', y', z', hCr⟩, st⟩ := X.specialBackS K.1 (y := y) hi (by show T.vm.findClass own = _; rw [hZ.alike.findClass]; exact K.2.1) (mvT (s := s.setVm T.vm) hZ w1) (mvT (s := s.setVm T.vm) hZ w2) (mvT (s := s.setVm T.vm) hZ w4) hy (backW (W := W) hM q hZ w hC hsf w4 w3 hf hl) (g := mkF m pc L (argsL.reverse ++ .ref a :: rest)) rfl (by rw [K.2.2.2]; exact hsz) (Steps.refl _) (a := a) (argsL := argsL) (rest := rest) (lenOf hp hlen) rfl (by show 2 * 0 + _ ≤ _; omega) (hb K.2.2.1 hd) (fun _ _ => ⟨rfl, eT, hc, hs⟩)
  dsimp only [Pt.U, Pt.locs, Pt.cells, Pt.slots] at X' l' y' z' st hQ hS' hgr hCr
  subst l' y' z'
  exact ⟨v, T', T'.heap, ⟨_, _, X', rfl, Fr.app r hQ.2.1, hQ.1, State.Warmed39.trans (t := s.setVm T.vm) hZ hS'.1, hS.trans hS' (Nat.le_trans hk (by rw [← eT]; exact hgr)), Nat.le_refl _, hCr.1⟩, hCr, hQ.2.2, fun t k => st.trans k⟩
theorem goViW (K : Cx Z own b ml p m c) (w : EW Z a0 EL) (N : NwW Z EL n0 h p l e R s m args below meth c T cells slots) {a : Addr} {C : String} (E : Exa Z h a C)
    (w1 : (Jvm.Cond.methodLink own index y).before a0 Z = true) (w2 : (Jvm.Cond.declares y).before a0 Z = true) (w5 : (Jvm.Cond.selects C y y).before a0 Z = true) (w6 : (Jvm.Cond.instanceMethod y).before a0 Z = true) (w3 : (Jvm.Cond.initialized y.cls).before a0 Z = true) (w4 : (Jvm.Cond.code y bytes maxL ret).before a0 Z = true)
    (hM : ConW l Z EL n0 y bytes maxL ret [] rm (Value.ref a :: argsL).toArray h sf Q) (hsf : ∀ x ∈ sf, x < h.size ∧ Safe Z EL T.vm h x) (hy : y.cls ≠ "java/lang/invoke/MethodHandle" ∧ y.cls ≠ "java/lang/invoke/VarHandle") (hf : rm.frames + 1 ≤ R.frames) (hl : W + (maxL + 11) + rm.locals ≤ R.locals) (hc : cells + rm.cells ≤ R.cells) (hs : slots + rm.slots ≤ R.slots)
    (hsz : L.size = ml) (hp : parseMethodDescriptor y.desc = some ⟨ps, rt⟩) (hlen : argsL.length = ps.length) (hW : (rest.map fun v => v.category).sum ≤ W) (hd : decode b pc = .ok (.invokevirtual index, 3)) :
    ∃ v T' h', NwW Z EL n0 h' p l e R s m args below meth c T' (cells + rm.cells) (slots + rm.slots) ∧ CHr Z EL T.vm h T'.vm h' ∧ Q v h' ∧ Ld p e below T (mkF m pc L (argsL.reverse ++ .ref a :: rest)) T' (mkF m (pc + 3) L (v.toList ++ rest)) := by
  obtain ⟨Lc, k0, X, eT, r, q, hZ, hS, hk, hC⟩ := N
  obtain ⟨cB, kB, q1, q2, q3⟩ := isOf (s := s.setVm T.vm) hZ eT E
  obtain ⟨v, _, ⟨T', L', k', n'⟩, -, X', hS', hgr, ⟨Lc', hQ, l', y', z', hCr⟩, st⟩ := X.virtualBackS K.1 (y := y) (z := y) (by show T.vm.findClass own = _; rw [hZ.alike.findClass]; exact K.2.1) (mvT (s := s.setVm T.vm) hZ w1) (mvT (s := s.setVm T.vm) hZ w2) (notFace_of_selects (args := #[]) (mvT (s := s.setVm T.vm) hZ w5)) (mvT (s := s.setVm T.vm) hZ w5) (mvT (s := s.setVm T.vm) hZ w6) hy (backW (W := W) hM q hZ w hC hsf w4 w3 hf hl) q1 q3 (g := mkF m pc L (argsL.reverse ++ .ref a :: rest)) rfl (by rw [K.2.2.2]; exact hsz) (Steps.refl _) (argsL := argsL) (rest := rest) (lenOf hp hlen) rfl (by show 2 * 0 + _ ≤ _; omega) (hb K.2.2.1 hd) (fun _ _ => ⟨rfl, eT, hc, hs⟩)
  dsimp only [Pt.U, Pt.locs, Pt.cells, Pt.slots] at X' l' y' z' st hQ hS' hgr hCr
  subst l' y' z'
  exact ⟨v, T', T'.heap, ⟨_, _, X', rfl, Fr.app r hQ.2.1, hQ.1, State.Warmed39.trans (t := s.setVm T.vm) hZ hS'.1, hS.trans hS' (Nat.le_trans hk (by rw [← eT]; exact hgr)), Nat.le_refl _, hCr.1⟩, hCr, hQ.2.2, fun t k => st.trans k⟩
end OwnCallsW
end OwnWide
section OwnEnds
variable {p : Program} {l : Launch} {e : Env} {R : Room} {s : State} {m : MethodId} {args : Array Value} {below : List Frame} {meth : Method} {c : Code} {T T1 : State} {Z : State} {h h1 : Heap} {n0 : Nat} {g g1 : JFrame} {EL : List (String × Nat)}
/-- from here the law returns 1 -/
def EndsW (Z : State) (EL : List (String × Nat)) (n0 : Nat) (h : Heap) (p : Program) (l : Launch) (e : Env) (R : Room) (s : State) (m : MethodId) (args : Array Value) (below : List Frame) (meth : Method) (c : Code) (T : State) (g : JFrame) : Prop :=
  ∃ (T' : State) (g' : JFrame) (h' : Heap) (k n : Nat), NwW Z EL n0 h' p l e R s m args below meth c T' k n ∧ k ≤ R.cells ∧ n ≤ R.slots ∧ CHr Z EL T.vm h T'.vm h' ∧ Ld p e below T g T' g' ∧ Fn p e below m T' g' (some (.int 1))
theorem EndsW.pre (L : Ld p e below T g T1 g1) (C : CHr Z EL T.vm h T1.vm h1) (E : EndsW Z EL n0 h1 p l e R s m args below meth c T1 g1) : EndsW Z EL n0 h p l e R s m args below meth c T g := by
  obtain ⟨T', g', h', k, n, a, b, d, f, i, j⟩ := E
  exact ⟨T', g', h', k, n, a, b, d, C.trans f, L.trans i, j⟩
end OwnEnds

theorem tw {a0 : Array Value} {Z : State} (hw : ∀ d ∈ tables_1, d.before a0 Z = true) (k : Nat) {d : Jvm.Cond} (q : tables_1[k]? = some d) : d.before a0 Z = true := hw d (List.mem_of_getElem? q)
variable {p : Program} {l : Launch} {e : Env} {R : Room} {s : State} {m : MethodId} {args : Array Value} {below : List Frame} {meth : Method} {c : Code} {T : State} {cells slots : Nat} {Z : State} {a0 : Array Value} {h : Heap} {n0 : Nat}
def SF (Z : State) (z : Int32) (fm : Value) : Prop := (Sta Z Z.heap "java/lang/String" "COMPACT_STRINGS" "Z" (.int z)) ∧ (¬ z = 0) ∧ (Sta Z Z.heap "jdk/internal/util/Preconditions" "SIOOBE_FORMATTER" "Ljava/util/function/BiFunction;" fm) ∧ (fm.isRef = true) ∧ (Sta Z Z.heap "java/lang/StringUTF16" "$assertionsDisabled" "Z" (.int 1)) ∧ (Sta Z Z.heap "java/lang/StringUTF16" "HI_BYTE_SHIFT" "I" (.int 0)) ∧ (Sta Z Z.heap "java/lang/StringUTF16" "LO_BYTE_SHIFT" "I" (.int 8))
section OwnStr
def lo8 (c : Int32) : Int32 := c.toInt8.toInt32
def hi8 (c : Int32) : Int32 := (c >>> (8 : Int32)).toInt8.toInt32
def u16 (cs : List Int32) : List Int32 := cs.flatMap fun c => [lo8 c, hi8 c]
def Ch (c : Int32) : Prop := 0 ≤ c.toInt ∧ c.toInt ≤ 65535
theorem u16_len (cs : List Int32) : (u16 cs).length = 2 * cs.length := by
  induction cs with
  | nil => rfl
  | cons c cs ih => simp only [u16, List.flatMap_cons, List.length_append, List.length_cons, List.length_nil] at ih ⊢; omega
theorem u16_cons (c : Int32) (cs : List Int32) : u16 (c :: cs) = lo8 c :: hi8 c :: u16 cs := rfl
theorem u16_lo : ∀ (cs : List Int32) (i : Nat) (c : Int32), cs[i]? = some c → (u16 cs)[2 * i]? = some (lo8 c) ∧ (u16 cs)[2 * i + 1]? = some (hi8 c)
  | [], i, c, h => by simp at h
  | d :: cs, 0, c, h => by simp at h; subst h; exact ⟨rfl, rfl⟩
  | d :: cs, i + 1, c, h => by
    have := u16_lo cs i c (by simpa using h)
    rw [u16_cons, show 2 * (i + 1) = 2 * i + 2 by omega, show 2 * i + 2 + 1 = 2 * i + 1 + 2 by omega]
    simpa using this
theorem nn_nat {x : Int32} (h0 : 0 ≤ x.toInt) : (x.toBitVec.toNat : Int) = x.toInt := by
  have : x.toInt = x.toBitVec.toInt := rfl
  rw [this] at h0 ⊢
  rw [BitVec.toInt_eq_toNat_cond] at h0 ⊢
  split at h0 <;> rename_i q
  · simp [q]
  · have := x.toBitVec.isLt; omega
theorem lo8_and (x : Int32) : (lo8 x &&& (255 : Int32)).toBitVec.toNat = x.toBitVec.toNat % 256 := by
  show (((x.toBitVec.signExtend 8).signExtend 32) &&& 255#32).toNat = _
  rw [BitVec.signExtend_eq_setWidth_of_le _ (show 8 ≤ 32 by decide)]
  have e : ((x.toBitVec.setWidth 8).signExtend 32) &&& 255#32 = (x.toBitVec.setWidth 8).setWidth 32 := by
    apply BitVec.eq_of_getLsbD_eq
    intro i hi
    rw [BitVec.getLsbD_and, BitVec.getLsbD_signExtend, BitVec.getLsbD_setWidth]
    have h255 : ∀ i, (255#32).getLsbD i = decide (i < 8) := by
      intro i
      by_cases q : i < 8
      · have : i = 0 ∨ i = 1 ∨ i = 2 ∨ i = 3 ∨ i = 4 ∨ i = 5 ∨ i = 6 ∨ i = 7 := by omega
        rcases this with rfl | rfl | rfl | rfl | rfl | rfl | rfl | rfl <;> rfl
      · rw [decide_eq_false q, BitVec.getLsbD]
        exact Nat.testBit_lt_two_pow (Nat.lt_of_lt_of_le (show 255 < 2 ^ 8 by decide) (Nat.pow_le_pow_right (by decide) (by omega)))
    rw [h255]
    by_cases q : i < 8
    · simp [q, hi]
    · simp [q, hi]
  rw [e, BitVec.toNat_setWidth, BitVec.toNat_setWidth]
  omega
theorem toC_small {x : Int32} (h : x.toBitVec.toNat < 65536) : x.toUInt32.toUInt16.toUInt32.toInt32 = x := by
  apply Int32.toBitVec_inj.mp
  apply BitVec.eq_of_toNat_eq
  show ((x.toBitVec.setWidth 16).setWidth 32).toNat = _
  rw [BitVec.toNat_setWidth, BitVec.toNat_setWidth]
  omega
theorem ch_lt {c : Int32} (h : Ch c) : c.toBitVec.toNat < 65536 := by have := nn_nat h.1; have := h.2; omega
theorem latin_back {c : Int32} (h : Ch c) (h2 : c.toInt ≤ 255) : (lo8 c &&& (255 : Int32)).toUInt32.toUInt16.toUInt32.toInt32 = c := by
  have e := lo8_and c
  have n1 := nn_nat h.1
  have e2 : lo8 c &&& (255 : Int32) = c := by
    apply Int32.toBitVec_inj.mp
    apply BitVec.eq_of_toNat_eq
    rw [e]; omega
  rw [e2]; exact toC_small (ch_lt h)
theorem shr8 {c : Int32} (h : Ch c) : (c >>> (8 : Int32)).toBitVec.toNat = c.toBitVec.toNat / 256 := by
  have n1 := ch_lt h
  show (c.toBitVec.sshiftRight' ((8#32).smod 32)).toNat = _
  have e : c.toBitVec.msb = false := by rw [BitVec.msb_eq_decide]; simp; omega
  rw [show (8#32).smod 32 = 8#32 from by decide, BitVec.sshiftRight_eq', BitVec.sshiftRight_eq_of_msb_false e]
  rw [BitVec.toNat_ushiftRight, show (8#32).toNat = 8 from rfl, Nat.shiftRight_eq_div_pow]
theorem utf_back {c : Int32} (h : Ch c) : (((lo8 c &&& (255 : Int32)) <<< ((0 : Int32) &&& 31)) ||| ((hi8 c &&& (255 : Int32)) <<< ((8 : Int32) &&& 31))).toUInt32.toUInt16.toUInt32.toInt32 = c := by
  have n1 := ch_lt h
  have a1 := lo8_and c
  have a2 : (hi8 c &&& (255 : Int32)).toBitVec.toNat = c.toBitVec.toNat / 256 := by
    have := lo8_and (c >>> (8 : Int32))
    rw [shr8 h] at this
    show (lo8 (c >>> (8 : Int32)) &&& (255 : Int32)).toBitVec.toNat = _
    rw [this]; omega
  have e : ((lo8 c &&& (255 : Int32)) <<< ((0 : Int32) &&& 31)) ||| ((hi8 c &&& (255 : Int32)) <<< ((8 : Int32) &&& 31)) = c := by
    apply Int32.toBitVec_inj.mp
    apply BitVec.eq_of_toNat_eq
    show (((lo8 c &&& (255 : Int32)).toBitVec <<< (((0 : Int32) &&& 31).toBitVec.smod 32)) ||| ((hi8 c &&& (255 : Int32)).toBitVec <<< (((8 : Int32) &&& 31).toBitVec.smod 32))).toNat = _
    rw [show ((0 : Int32) &&& 31).toBitVec.smod 32 = 0#32 from by decide, show ((8 : Int32) &&& 31).toBitVec.smod 32 = 8#32 from by decide]
    rw [BitVec.toNat_or, BitVec.shiftLeft_eq', BitVec.shiftLeft_eq', BitVec.toNat_shiftLeft, BitVec.toNat_shiftLeft, a1, a2, show (0#32).toNat = 0 from rfl, show (8#32).toNat = 8 from rfl, Nat.shiftLeft_zero, Nat.shiftLeft_eq]
    rw [Nat.mod_eq_of_lt (show c.toBitVec.toNat % 256 < 2 ^ 32 by omega), Nat.mod_eq_of_lt (show c.toBitVec.toNat / 256 * 2 ^ 8 < 2 ^ 32 by omega), Nat.or_comm, Nat.mul_comm, ← Nat.two_pow_add_eq_or_of_lt (by omega)]
    omega
  rw [e]; exact toC_small n1
theorem ch_nar (x : Int32) : Ch (nar .char x) := by
  have e : (nar .char x).toBitVec.toNat < 65536 := by
    show ((x.toBitVec.setWidth 16).setWidth 32).toNat < _
    rw [BitVec.toNat_setWidth, BitVec.toNat_setWidth]; omega
  have e2 : (nar .char x).toInt = (nar .char x).toBitVec.toNat := by
    show (nar .char x).toBitVec.toInt = _
    rw [BitVec.toInt_eq_toNat_cond, if_pos (by omega)]
  constructor <;> omega
theorem nar_ch {c : Int32} (h : Ch c) : nar .char c = c := toC_small (ch_lt h)
theorem nar_lo (x : Int32) : nar .byte x.toInt8.toInt32 = lo8 x := by simp [nar, lo8]
theorem sh0 (c : Int32) : c >>> ((0 : Int32) &&& 31) = c := by
  apply Int32.toBitVec_inj.mp
  show c.toBitVec.sshiftRight' (((0 : Int32) &&& 31).toBitVec.smod 32) = _
  rw [show ((0 : Int32) &&& 31).toBitVec.smod 32 = 0#32 from by decide]; simp
theorem sh8 (c : Int32) : c >>> ((8 : Int32) &&& 31) = c >>> (8 : Int32) := rfl
/-- the String at x, its bytes at t, spells cs -/
def Stv (Z : State) (h : Heap) (x t : Addr) (cs : List Int32) : Prop :=
  Exa Z h x "java/lang/String" ∧ (∀ c ∈ cs, Ch c) ∧ cs.length ≤ 4000 ∧ Fld Z h x "java/lang/String" "value" "[B" (.ref t) ∧
    ((Fld Z h x "java/lang/String" "coder" "B" (.int 0) ∧ (∀ c ∈ cs, c.toInt ≤ 255) ∧ Av Z h t .byte ((cs.map lo8).map Value.int)) ∨ (Fld Z h x "java/lang/String" "coder" "B" (.int 1) ∧ Av Z h t .byte ((u16 cs).map Value.int)))
variable {Z : State} {h h' : Heap} {x t : Addr} {cs : List Int32} {ws : List Addr}
theorem Stv.keep (F : Stv Z h x t cs) (K : Keep h h' ws) (q1 : x ∉ ws) (q2 : t ∉ ws) : Stv Z h' x t cs := by
  obtain ⟨a, b, c, d, f⟩ := F
  refine ⟨a.keep K, b, c, d.keep K q1, ?_⟩
  rcases f with ⟨f1, f2, f3⟩ | ⟨f1, f3⟩
  · exact Or.inl ⟨f1.keep K q1, f2, f3.keep K q2⟩
  · exact Or.inr ⟨f1.keep K q1, f3.keep K q2⟩
theorem Stv.ext (F : Stv Z h x t cs) (K : Ext h h') : Stv Z h' x t cs := F.keep (ws := []) (keep_ext K) nin0 nin0
end OwnStr
section OwnStrW
variable {Z : State} {h h' : Heap} {a t : Addr} {k : ClassId} {ty : FieldType} {z : Int32} {vs : List Value} {dv : Value}
theorem Arv.toAv (F : Arv Z h a k ty z vs dv) (q : z.toInt = vs.length) : Av Z h a ty vs := by
  obtain ⟨c, A, -, S, -, H, -⟩ := F
  have e : c.slots.size = vs.length := by rw [S]; simp [Int32.toNatClampNeg, q]
  have hz := Int32.toInt_lt z
  refine ⟨c, A, ?_, by omega⟩
  apply List.ext_getElem?
  intro i
  rw [Array.getElem?_toList]
  by_cases hi : i < vs.length
  · rw [H i (by omega)]; simp [List.getD_eq_getElem?_getD, hi]
  · rw [Array.getElem?_eq_none (by omega), List.getElem?_eq_none (by omega)]
end OwnStrW
section OwnMask
theorem and_nat (x : Int32) : (x &&& (255 : Int32)).toBitVec.toNat ≤ 255 := by
  rw [Int32.toBitVec_and, BitVec.toNat_and]; exact Nat.and_le_right
theorem nat_int {x : Int32} (q : x.toBitVec.toNat < 2147483648) : x.toInt = x.toBitVec.toNat := by
  show x.toBitVec.toInt = _
  rw [BitVec.toInt_eq_toNat_cond, if_pos (by omega)]
theorem c255 (x : Int32) : Ch ((x &&& (255 : Int32)).toUInt32.toUInt16.toUInt32.toInt32) ∧ ((x &&& (255 : Int32)).toUInt32.toUInt16.toUInt32.toInt32).toInt ≤ 255 := by
  have q := and_nat x
  rw [toC_small (by omega)]
  have e := nat_int (x := x &&& (255 : Int32)) (by omega)
  refine ⟨⟨by omega, by omega⟩, by omega⟩
theorem nar_obj {s : String} {v : Value} (h : v.isRef = true) : narrow (.object s) v = v := by rcases ref_cases h with rfl | ⟨b, rfl⟩ <;> rfl
theorem fit_obj {s : String} {v : Value} (h : v.isRef = true) : fits (.object s) v = true := by rcases ref_cases h with rfl | ⟨b, rfl⟩ <;> rfl
end OwnMask

theorem n_shr1 {n : Nat} (q : n < 2147483648) : (Int32.ofNat n >>> ((1 : Int32) &&& 31)) = Int32.ofNat (n / 2) := by
  have e : (Int32.ofNat n).toBitVec = BitVec.ofNat 32 n := rfl
  apply Int32.toBitVec_inj.mp
  apply BitVec.eq_of_toNat_eq
  show ((Int32.ofNat n).toBitVec.sshiftRight' (((1 : Int32) &&& 31).toBitVec.smod 32)).toNat = (BitVec.ofNat 32 (n / 2)).toNat
  have m : (Int32.ofNat n).toBitVec.msb = false := by rw [e, BitVec.msb_eq_decide]; simp; omega
  rw [show ((1 : Int32) &&& 31).toBitVec.smod 32 = 1#32 from by decide, BitVec.sshiftRight_eq', BitVec.sshiftRight_eq_of_msb_false m, BitVec.toNat_ushiftRight, e, show (1#32).toNat = 1 from rfl, Nat.shiftRight_eq_div_pow, BitVec.toNat_ofNat, BitVec.toNat_ofNat]
  omega
theorem n_shl1 {n : Nat} (q : n < 1073741824) : (Int32.ofNat n <<< ((1 : Int32) &&& 31)) = Int32.ofNat (2 * n) := by
  rw [show (2 * n) = n + n by omega, Int32.ofNat_add]
  generalize Int32.ofNat n = z
  apply Int32.toBitVec_inj.mp
  show z.toBitVec <<< (((1 : Int32) &&& 31).toBitVec.smod 32) = z.toBitVec + z.toBitVec
  rw [show ((1 : Int32) &&& 31).toBitVec.smod 32 = 1#32 from by decide, BitVec.shiftLeft_eq']
  apply BitVec.eq_of_toNat_eq
  rw [BitVec.toNat_shiftLeft, BitVec.toNat_add, show (1#32).toNat = 1 from rfl, Nat.shiftLeft_eq]
  congr 1; omega
theorem n_shr0 (x : Int32) : x >>> ((0 : Int32) &&& 31) = x := sh0 x
theorem gti {xs : List Int32} {i : Nat} {c : Int32} (q : xs[i]? = some c) : (xs.map Value.int)[i]? = some (.int c) := by simp [q]
theorem take_succ_of {α : Type} {cs : List α} {i : Nat} {c : α} (q : cs[i]? = some c) : cs.take (i + 1) = cs.take i ++ [c] := by
  rw [List.take_add_one, q]; rfl
theorem u16_app (a b : List Int32) : u16 (a ++ b) = u16 a ++ u16 b := by simp [u16]
def wv (cs : List Int32) (i : Nat) : List Value := (u16 (cs.take i)).map Value.int ++ List.replicate (2 * (cs.length - i)) (.int 0)
theorem wv_len {cs : List Int32} {i : Nat} (q : i ≤ cs.length) : (wv cs i).length = 2 * cs.length := by
  simp only [wv, List.length_append, List.length_map, u16_len, List.length_take, List.length_replicate]; omega
theorem wv_0 (cs : List Int32) : wv cs 0 = List.replicate (2 * cs.length) (.int 0) := by simp [wv, u16]
theorem wv_n (cs : List Int32) : wv cs cs.length = (u16 cs).map Value.int := by simp [wv]
theorem set2 {α : Type} (A R : List α) (z1 z2 x y : α) {k : Nat} (hk : k = A.length) : ((A ++ z1 :: z2 :: R).set k x).set (k + 1) y = A ++ x :: y :: R := by
  subst hk; simp
theorem set1 {α : Type} (A R : List α) (z x : α) {k : Nat} (hk : k = A.length) : (A ++ z :: R).set k x = A ++ x :: R := by
  subst hk; simp
theorem wv_set {cs : List Int32} {i : Nat} {c : Int32} (q : cs[i]? = some c) : ((wv cs i).set (2 * i) (.int (lo8 c))).set (2 * i + 1) (.int (hi8 c)) = wv cs (i + 1) := by
  have hi : i < cs.length := (List.getElem?_eq_some_iff.mp q).1
  unfold wv
  rw [show 2 * (cs.length - i) = (2 * (cs.length - (i + 1))) + 1 + 1 by omega, List.replicate_succ, List.replicate_succ]
  rw [set2 _ _ _ _ _ _ (by rw [List.length_map, u16_len, List.length_take]; omega), take_succ_of q, u16_app]
  simp [u16]
def bv (cs : List Int32) (i : Nat) : List Value := ((cs.take i).map lo8).map Value.int ++ List.replicate (cs.length - i) (.int 0)
theorem bv_len {cs : List Int32} {i : Nat} (q : i ≤ cs.length) : (bv cs i).length = cs.length := by
  simp only [bv, List.length_append, List.length_map, List.length_take, List.length_replicate]; omega
theorem bv_0 (cs : List Int32) : bv cs 0 = List.replicate cs.length (.int 0) := by simp [bv]
theorem bv_n (cs : List Int32) : bv cs cs.length = (cs.map lo8).map Value.int := by simp [bv]
theorem bv_set {cs : List Int32} {i : Nat} {c : Int32} (q : cs[i]? = some c) : (bv cs i).set i (.int (lo8 c)) = bv cs (i + 1) := by
  have hi : i < cs.length := (List.getElem?_eq_some_iff.mp q).1
  unfold bv
  rw [show cs.length - i = (cs.length - (i + 1)) + 1 by omega, List.replicate_succ, take_succ_of q]
  rw [set1 _ _ _ _ (by simp; omega)]
  simp
theorem ushr_0 (n : Nat) : XT.ushr (Int32.ofNat n - Int32.ofNat n) (31 : Int32) = 0 := by rw [Int32.sub_self]; decide
theorem ushr_1 {n : Nat} (q : 0 < n) (r : n < 1073741824) : XT.ushr (Int32.ofNat n - Int32.ofNat (2 * n)) (31 : Int32) = 1 := by
  apply Int32.toBitVec_inj.mp
  apply BitVec.eq_of_toNat_eq
  show (((BitVec.ofNat 32 n) - (BitVec.ofNat 32 (2 * n))) >>> (((31 : Int32) &&& 31).toBitVec.toNat)).toNat = 1
  rw [show ((31 : Int32) &&& 31).toBitVec.toNat = 31 from by decide, BitVec.toNat_ushiftRight, BitVec.toNat_sub, BitVec.toNat_ofNat, BitVec.toNat_ofNat, Nat.shiftRight_eq_div_pow]
  omega
theorem gt255 {c : Int32} (h : ¬ c.toInt ≤ 255) : ¬ ¬ (255 : Int32) < c := fun z => z (by rw [Int32.lt_iff_toInt_lt, show (255 : Int32).toInt = 255 from rfl]; omega)
theorem le255 {c : Int32} (h : c.toInt ≤ 255) : ¬ (255 : Int32) < c := by rw [Int32.lt_iff_toInt_lt, show (255 : Int32).toInt = 255 from rfl]; omega
theorem pn0 : plainName "java/lang/StringUTF16" = true := by first | (simp [plainName, overriddenIn]; done) | decide +kernel
theorem pd0 : parseMethodDescriptor "([CI[BII)I" = some ⟨[.array .char, .int, .array .byte, .int, .int], some (.int)⟩ := by decide +kernel
theorem pd1 : parseMethodDescriptor "([CII)[B" = some ⟨[.array .char, .int, .int], some (.array .byte)⟩ := by decide +kernel
theorem pd2 : parseMethodDescriptor "([BI)B" = some ⟨[.array .byte, .int], some (.byte)⟩ := by decide +kernel
theorem pn1 : plainName "java/lang/String" = true := by first | (simp [plainName, overriddenIn]; done) | decide +kernel
theorem pd3 : parseMethodDescriptor "([CIILjava/lang/Void;)V" = some ⟨[.array .char, .int, .int, .object "java/lang/Void"], none⟩ := by decide +kernel
theorem pd4 : parseMethodDescriptor "([C)V" = some ⟨[.array .char], none⟩ := by decide +kernel
theorem pd5 : parseMethodDescriptor "(I)I" = some ⟨[.int], some (.int)⟩ := by decide +kernel
theorem pd6 : parseMethodDescriptor "(I)[B" = some ⟨[.int], some (.array .byte)⟩ := by decide +kernel
theorem pd7 : parseMethodDescriptor "([BII)V" = some ⟨[.array .byte, .int, .int], none⟩ := by decide +kernel
theorem pd8 : parseMethodDescriptor "([BI)C" = some ⟨[.array .byte, .int], some (.char)⟩ := by decide +kernel
set_option maxHeartbeats 1000000 in
theorem con_gc (hw : ∀ d ∈ tables_1, d.before a0 Z = true) {z : Int32} {fm : Value} (sf : SF Z z fm) {t : Addr} {cs : List Int32} (F : Av Z h t .byte ((u16 cs).map Value.int)) (hl : cs.length < 100000) {i : Nat} {cc : Int32} (hc : cs[i]? = some cc) (h1 : Ch cc) (O : Old Z n0 h) : Con l Z n0 ⟨"java/lang/StringUTF16", "getChar", "([BI)C"⟩ jdk_52_method_5_code 2 (some (.char)) [] ({ frames := 0, cells := 0, slots := 0, locals := 0 } : Room) #[.ref t, .int (Int32.ofNat i)] h (fun v h' => v = some (.int cc) ∧ h = h') := by
  refine Con.ofH (plainFor_of_name pn0) (L0 := #[.val (.ref t), .val (.int (Int32.ofNat i))]) (fun m => by first | (simp [entryFrame, mkF, argsToLocals, Value.category]; done) | rfl) ?_
  intro p e s m below meth c T K hret hnm N hs
  have O0 : Old Z n0 s.heap := by rw [hs]; exact O
  have hi : i < cs.length := (List.getElem?_eq_some_iff.mp hc).1
  obtain ⟨u1, u2⟩ := u16_lo cs i cc hc
  obtain ⟨T1, N1, g1⟩ := goSta K N (tw hw 83 rfl) (sf.2.2.2.2.1.ext (N.old O0).2) (pc := 0) (L := #[.val (.ref t), .val (.int (Int32.ofNat i))]) (S := []) (by decide +kernel)
  have g2 : Ld p e below T1 (mkF m 3 #[.val (.ref t), .val (.int (Int32.ofNat i))] [(.int (1 : Int32))]) T1 (mkF m 32 #[.val (.ref t), .val (.int ((Int32.ofNat i) <<< ((1 : Int32) &&& 31)))] []) := goRun K N1 #[] [(3, .ifCond .ne 25, 3), (28, .iload_n 1, 1), (29, .iconst 1, 1), (30, .ishl, 1), (31, .istore_n 1, 1)] [.ref 0] (P := (¬ (1 : Int32) = (0 : Int32)) ∧ True) (by decide +kernel) rfl ⟨(by decide), trivial⟩
  rw [n_shl1 (by omega)] at g2
  have g3 : Ld p e below T1 (mkF m 32 #[.val (.ref t), .val (.int (Int32.ofNat (2 * i)))] []) T1 (mkF m 42 #[.val (.ref t), .val (.int ((Int32.ofNat (2 * i)) + (1 : Int32)))] [(.int ((lo8 cc) &&& (255 : Int32)))]) := goRun K N1 #[] [(32, .aload_n 0, 1), (33, .iload_n 1, 1), (34, .iinc 1 1, 3), (37, .baload, 1), (38, .sipush 255, 3), (41, .iand, 1)] [.int (lo8 cc)] (P := (Rd Z h t .byte (Int32.ofNat (2 * i)) (.int (lo8 cc))) ∧ True) (by decide +kernel) rfl ⟨(F.rd (n_ti (by omega)) (gti u1)), trivial⟩
  rw [n_one] at g3
  obtain ⟨T4, N4, g4⟩ := goSta K N1 (tw hw 84 rfl) (sf.2.2.2.2.2.1.ext (N1.old O0).2) (pc := 42) (L := #[.val (.ref t), .val (.int (Int32.ofNat (2 * i + 1)))]) (S := [(.int ((lo8 cc) &&& (255 : Int32)))]) (by decide +kernel)
  have g5 : Ld p e below T4 (mkF m 45 #[.val (.ref t), .val (.int (Int32.ofNat (2 * i + 1)))] [(.int (0 : Int32)), (.int ((lo8 cc) &&& (255 : Int32)))]) T4 (mkF m 53 #[.val (.ref t), .val (.int (Int32.ofNat (2 * i + 1)))] [(.int ((hi8 cc) &&& (255 : Int32))), (.int (((lo8 cc) &&& (255 : Int32)) <<< ((0 : Int32) &&& 31)))]) := goRun K N4 #[] [(45, .ishl, 1), (46, .aload_n 0, 1), (47, .iload_n 1, 1), (48, .baload, 1), (49, .sipush 255, 3), (52, .iand, 1)] [.int (hi8 cc)] (P := (Rd Z h t .byte (Int32.ofNat (2 * i + 1)) (.int (hi8 cc))) ∧ True) (by decide +kernel) rfl ⟨(F.rd (n_ti (by omega)) (gti u2)), trivial⟩
  obtain ⟨T6, N6, g6⟩ := goSta K N4 (tw hw 85 rfl) (sf.2.2.2.2.2.2.ext (N4.old O0).2) (pc := 53) (L := #[.val (.ref t), .val (.int (Int32.ofNat (2 * i + 1)))]) (S := [(.int ((hi8 cc) &&& (255 : Int32))), (.int (((lo8 cc) &&& (255 : Int32)) <<< ((0 : Int32) &&& 31)))]) (by decide +kernel)
  have g7 : Ld p e below T6 (mkF m 56 #[.val (.ref t), .val (.int (Int32.ofNat (2 * i + 1)))] [(.int (8 : Int32)), (.int ((hi8 cc) &&& (255 : Int32))), (.int (((lo8 cc) &&& (255 : Int32)) <<< ((0 : Int32) &&& 31)))]) T6 (mkF m 59 #[.val (.ref t), .val (.int (Int32.ofNat (2 * i + 1)))] [(.int (((((lo8 cc) &&& (255 : Int32)) <<< ((0 : Int32) &&& 31)) ||| (((hi8 cc) &&& (255 : Int32)) <<< ((8 : Int32) &&& 31))).toUInt32.toUInt16.toUInt32.toInt32))]) := goRun K N6 #[] [(56, .ishl, 1), (57, .ior, 1), (58, .i2c, 1)] [] (P := True) (by decide +kernel) rfl trivial
  rw [utf_back h1] at g7
  exact ⟨_, T6, _, h, _, _, N6, by decide, by decide, fun q => (nomatch q), ⟨by rw [nar_ch h1], rfl⟩, g1.trans (g2.trans (g3.trans (g4.trans (g5.trans (g6.trans g7))))), finN K N6 hret (Or.inr (Or.inr (Or.inl rfl))) (by decide +kernel)⟩
set_option maxHeartbeats 1000000 in
theorem con_nbl (hw : ∀ d ∈ tables_1, d.before a0 Z = true) (n : Nat) (hn : n < 100000) : Con l Z n0 ⟨"java/lang/StringUTF16", "newBytesLength", "(I)I"⟩ jdk_52_method_3_code 1 (some (.int)) [] ({ frames := 0, cells := 0, slots := 0, locals := 0 } : Room) #[.int (Int32.ofNat n)] h (fun v h' => v = some (.int (Int32.ofNat (2 * n))) ∧ h = h') := by
  refine Con.ofH (plainFor_of_name pn0) (L0 := #[.val (.int (Int32.ofNat n))]) (fun m => by first | (simp [entryFrame, mkF, argsToLocals, Value.category]; done) | rfl) ?_
  intro p e s m below meth c T K hret hnm N hs
  have g1 : Ld p e below T (mkF m 0 #[.val (.int (Int32.ofNat n))] []) T (mkF m 58 #[.val (.int (Int32.ofNat n))] [(.int ((Int32.ofNat n) <<< ((1 : Int32) &&& 31)))]) := goRun K N a0 [(0, .iload_n 0, 1), (1, .ifCond .ge 11, 3), (12, .iload_n 0, 1), (13, .ldc 20, 2), (15, .if_icmp .lt 40, 3), (55, .iload_n 0, 1), (56, .iconst 1, 1), (57, .ishl, 1)] [.ref 0, .int (1073741823 : Int32), .ref 0] (P := (¬ (Int32.ofNat n) < (0 : Int32)) ∧ ((Jvm.Cond.constant "java/lang/StringUTF16" 20 (1073741823 : Int32)).before a0 Z = true) ∧ ((Int32.ofNat n) < (1073741823 : Int32)) ∧ True) (by decide +kernel) rfl ⟨(not_neg_of (n_ti (by omega))), (tw hw 79 rfl), ((n_lt (i := n) (j := 1073741823) (by omega) (by omega)).mpr (by omega)), trivial⟩
  rw [n_shl1 (by omega)] at g1
  exact ⟨_, T, _, h, _, _, N, by decide, by decide, fun q => (nomatch q), ⟨rfl, rfl⟩, g1, finI K N hret (by decide +kernel)⟩
set_option maxHeartbeats 1000000 in
theorem con_nbf (hw : ∀ d ∈ tables_1, d.before a0 Z = true) (n : Nat) (hn : n ≤ 7) : Con l Z n0 ⟨"java/lang/StringUTF16", "newBytesFor", "(I)[B"⟩ jdk_52_method_2_code 1 (some (.array .byte)) [] ({ frames := 1, cells := 1, slots := 14, locals := 12 } : Room) #[.int (Int32.ofNat n)] h (fun v h' => ∃ t, v = some (.ref t) ∧ t = h.size ∧ Ext h h' ∧ Av Z h' t .byte (List.replicate (2 * n) (.int 0))) := by
  refine Con.ofH (plainFor_of_name pn0) (L0 := #[.val (.int (Int32.ofNat n))]) (fun m => by first | (simp [entryFrame, mkF, argsToLocals, Value.category]; done) | rfl) ?_
  intro p e s m below meth c T K hret hnm N hs
  have g1 : Ld p e below T (mkF m 0 #[.val (.int (Int32.ofNat n))] []) T (mkF m 1 #[.val (.int (Int32.ofNat n))] [(.int (Int32.ofNat n))]) := goRun K N #[] [(0, .iload_n 0, 1)] [] (P := True) (by decide +kernel) rfl trivial
  obtain ⟨v2, T2, _, N2, ⟨rfl, rfl⟩, g2⟩ := goS K N (tw hw 76 rfl) (tw hw 77 rfl) (tw hw 22 rfl) (tw hw 78 rfl) (con_nbl hw n (by omega)) (argsL := [(.int (Int32.ofNat n))]) (W := 0) (rest := []) (by decide) (by decide) (by decide) (by decide) (by decide) (L := #[.val (.int (Int32.ofNat n))]) rfl pd5 rfl (Nat.le_of_eq rfl) (pc := 1) (by decide +kernel)
  have hn1 : (Int32.ofNat (2 * n)).toInt = ((2 * n : Nat) : Int) := n_ti (by omega)
  obtain ⟨T3, h3, a3, cA3, ea3, N3, E3, A3, g3⟩ := goNewP K N2 (aty := .byte) (tw hw 24 rfl) (n := Int32.ofNat (2 * n)) (not_neg_of hn1) (cap := 14) (by rw [clamp_of hn1]; omega) (by decide) (by decide) (by decide) (pc := 4) (L := #[.val (.int (Int32.ofNat n))]) (S := []) (by decide +kernel)
  have A3 := Av.new A3 (not_neg_of hn1) hn1
  have ha3 : n0 ≤ a3 := ea3 ▸ N2.size
  exact ⟨_, T3, _, h3, _, _, N3, by decide, by decide, fun q => (nomatch q), ⟨_, rfl, ea3, E3, A3⟩, g1.trans (g2.trans g3), finA K N3 hret rfl rfl rfl (by decide +kernel)⟩
set_option maxHeartbeats 1000000 in
theorem con_pc (hw : ∀ d ∈ tables_1, d.before a0 Z = true) {z : Int32} {fm : Value} (sf : SF Z z fm) {t : Addr} {vs : List Value} {n : Nat} (F : Av Z h t .byte vs) (hl : vs.length = 2 * n) (hn : n < 100000) {i : Nat} (hi : i < n) (cc : Int32) (ha : n0 ≤ t) (O : Old Z n0 h) : Con l Z n0 ⟨"java/lang/StringUTF16", "putChar", "([BII)V"⟩ jdk_52_method_4_code 3 none [] ({ frames := 0, cells := 0, slots := 0, locals := 0 } : Room) #[.ref t, .int (Int32.ofNat i), .int cc] h (fun v h' => v = none ∧ Keep h h' [t] ∧ Av Z h' t .byte ((vs.set (2 * i) (.int (lo8 cc))).set (2 * i + 1) (.int (hi8 cc)))) := by
  refine Con.ofH (plainFor_of_name pn0) (L0 := #[.val (.ref t), .val (.int (Int32.ofNat i)), .val (.int cc)]) (fun m => by first | (simp [entryFrame, mkF, argsToLocals, Value.category]; done) | rfl) ?_
  intro p e s m below meth c T K hret hnm N hs
  have O0 : Old Z n0 s.heap := by rw [hs]; exact O
  obtain ⟨T1, N1, g1⟩ := goSta K N (tw hw 83 rfl) (sf.2.2.2.2.1.ext (N.old O0).2) (pc := 0) (L := #[.val (.ref t), .val (.int (Int32.ofNat i)), .val (.int cc)]) (S := []) (by decide +kernel)
  have g2 : Ld p e below T1 (mkF m 3 #[.val (.ref t), .val (.int (Int32.ofNat i)), .val (.int cc)] [(.int (1 : Int32))]) T1 (mkF m 32 #[.val (.ref t), .val (.int ((Int32.ofNat i) <<< ((1 : Int32) &&& 31))), .val (.int cc)] []) := goRun K N1 #[] [(3, .ifCond .ne 25, 3), (28, .iload_n 1, 1), (29, .iconst 1, 1), (30, .ishl, 1), (31, .istore_n 1, 1)] [.ref 0] (P := (¬ (1 : Int32) = (0 : Int32)) ∧ True) (by decide +kernel) rfl ⟨(by decide), trivial⟩
  rw [n_shl1 (by omega)] at g2
  have g3 : Ld p e below T1 (mkF m 32 #[.val (.ref t), .val (.int (Int32.ofNat (2 * i))), .val (.int cc)] []) T1 (mkF m 38 #[.val (.ref t), .val (.int ((Int32.ofNat (2 * i)) + (1 : Int32))), .val (.int cc)] [(.int cc), (.int (Int32.ofNat (2 * i))), (.ref t)]) := goRun K N1 #[] [(32, .aload_n 0, 1), (33, .iload_n 1, 1), (34, .iinc 1 1, 3), (37, .iload_n 2, 1)] [] (P := True) (by decide +kernel) rfl trivial
  rw [n_one] at g3
  obtain ⟨T4, N4, g4⟩ := goSta K N1 (tw hw 84 rfl) (sf.2.2.2.2.2.1.ext (N1.old O0).2) (pc := 38) (L := #[.val (.ref t), .val (.int (Int32.ofNat (2 * i + 1))), .val (.int cc)]) (S := [(.int cc), (.int (Int32.ofNat (2 * i))), (.ref t)]) (by decide +kernel)
  have g5 : Ld p e below T4 (mkF m 41 #[.val (.ref t), .val (.int (Int32.ofNat (2 * i + 1))), .val (.int cc)] [(.int (0 : Int32)), (.int cc), (.int (Int32.ofNat (2 * i))), (.ref t)]) T4 (mkF m 43 #[.val (.ref t), .val (.int (Int32.ofNat (2 * i + 1))), .val (.int cc)] [(.int ((cc >>> ((0 : Int32) &&& 31)).toInt8.toInt32)), (.int (Int32.ofNat (2 * i))), (.ref t)]) := goRun K N4 #[] [(41, .ishr, 1), (42, .i2b, 1)] [] (P := True) (by decide +kernel) rfl trivial
  rw [sh0] at g5
  obtain ⟨T6, h6, N6, K6, A6, g6⟩ := avStB K N4 F (j := Int32.ofNat (2 * i)) (i := 2 * i) (x := cc.toInt8.toInt32) (n_ti (by omega)) (by omega) ha (pc := 43) (L := #[.val (.ref t), .val (.int (Int32.ofNat (2 * i + 1))), .val (.int cc)]) (S := []) (by decide +kernel)
  rw [nar_lo] at A6
  have g7 : Ld p e below T6 (mkF m 44 #[.val (.ref t), .val (.int (Int32.ofNat (2 * i + 1))), .val (.int cc)] []) T6 (mkF m 47 #[.val (.ref t), .val (.int (Int32.ofNat (2 * i + 1))), .val (.int cc)] [(.int cc), (.int (Int32.ofNat (2 * i + 1))), (.ref t)]) := goRun K N6 #[] [(44, .aload_n 0, 1), (45, .iload_n 1, 1), (46, .iload_n 2, 1)] [] (P := True) (by decide +kernel) rfl trivial
  obtain ⟨T8, N8, g8⟩ := goSta K N6 (tw hw 85 rfl) (sf.2.2.2.2.2.2.ext (N6.old O0).2) (pc := 47) (L := #[.val (.ref t), .val (.int (Int32.ofNat (2 * i + 1))), .val (.int cc)]) (S := [(.int cc), (.int (Int32.ofNat (2 * i + 1))), (.ref t)]) (by decide +kernel)
  have g9 : Ld p e below T8 (mkF m 50 #[.val (.ref t), .val (.int (Int32.ofNat (2 * i + 1))), .val (.int cc)] [(.int (8 : Int32)), (.int cc), (.int (Int32.ofNat (2 * i + 1))), (.ref t)]) T8 (mkF m 52 #[.val (.ref t), .val (.int (Int32.ofNat (2 * i + 1))), .val (.int cc)] [(.int ((cc >>> ((8 : Int32) &&& 31)).toInt8.toInt32)), (.int (Int32.ofNat (2 * i + 1))), (.ref t)]) := goRun K N8 #[] [(50, .ishr, 1), (51, .i2b, 1)] [] (P := True) (by decide +kernel) rfl trivial
  rw [sh8] at g9
  obtain ⟨T10, h10, N10, K10, A10, g10⟩ := avStB K N8 A6 (j := Int32.ofNat (2 * i + 1)) (i := 2 * i + 1) (x := (cc >>> (8 : Int32)).toInt8.toInt32) (n_ti (by omega)) (by simp; omega) ha (pc := 52) (L := #[.val (.ref t), .val (.int (Int32.ofNat (2 * i + 1))), .val (.int cc)]) (S := []) (by decide +kernel)
  rw [nar_lo] at A10
  exact ⟨none, T10, _, h10, _, _, N10, by decide, by decide, fun _ => rfl, ⟨rfl, K6.trans K10 (fun y hy => Or.inl hy), A10⟩, g1.trans (g2.trans (g3.trans (g4.trans (g5.trans (g6.trans (g7.trans (g8.trans (g9.trans g10)))))))), finV K N10 hret (by decide +kernel)⟩
set_option maxHeartbeats 1000000 in
theorem tb_loop (hw : ∀ d ∈ tables_1, d.before a0 Z = true) {z : Int32} {fm : Value} (sf : SF Z z fm) (K : Cx Z "java/lang/StringUTF16" jdk_52_method_14_code 5 p m c) {ca t : Addr} {cs : List Int32} (hl : cs.length ≤ 4000) (ha : n0 ≤ t) (hRf : 2 ≤ R.frames) (hRl : 40 ≤ R.locals) (hRc : cells ≤ R.cells) (hRs : slots ≤ R.slots) (O0 : Old Z n0 s.heap) : ∀ (k i : Nat) (T : State) (h : Heap), i + k = cs.length → Nw Z n0 h p l e R s m args below meth c T cells slots → Av Z h ca .char (cs.map Value.int) → Av Z h t .byte (wv cs i) →
    ∃ T' h', Nw Z n0 h' p l e R s m args below meth c T' cells slots ∧ Keep h h' [t] ∧ Av Z h' t .byte (wv cs cs.length) ∧ Ld p e below T (mkF m 8 #[.val (.ref ca), .val (.int (Int32.ofNat i)), .val (.int (Int32.ofNat cs.length)), .val (.ref t), .val (.int (Int32.ofNat i))] []) T' (mkF m 32 #[.val (.ref ca), .val (.int (Int32.ofNat cs.length)), .val (.int (Int32.ofNat cs.length)), .val (.ref t), .val (.int (Int32.ofNat cs.length))] []) := by
  intro k
  induction k with
  | zero =>
    intro i T h hi N C A
    have g1 : Ld p e below T (mkF m 8 #[.val (.ref ca), .val (.int (Int32.ofNat i)), .val (.int (Int32.ofNat cs.length)), .val (.ref t), .val (.int (Int32.ofNat i))] []) T (mkF m 32 #[.val (.ref ca), .val (.int (Int32.ofNat i)), .val (.int (Int32.ofNat cs.length)), .val (.ref t), .val (.int (Int32.ofNat i))] []) := goRun K N #[] [(8, .iload 4, 2), (10, .iload_n 2, 1), (11, .if_icmp .ge 21, 3)] [.ref 0] (P := (¬ (Int32.ofNat i) < (Int32.ofNat cs.length)) ∧ True) (by decide +kernel) rfl ⟨(by rw [n_lt (by omega) (by omega)]; omega), trivial⟩
    obtain rfl : i = cs.length := by omega
    exact ⟨T, h, N, Keep.refl _ _, A, g1⟩
  | succ k ih =>
    intro i T h hi N C A
    obtain ⟨cc, hc⟩ : ∃ cc, cs[i]? = some cc := ⟨cs[i]'(by omega), List.getElem?_eq_getElem (by omega)⟩
    have g1 : Ld p e below T (mkF m 8 #[.val (.ref ca), .val (.int (Int32.ofNat i)), .val (.int (Int32.ofNat cs.length)), .val (.ref t), .val (.int (Int32.ofNat i))] []) T (mkF m 20 #[.val (.ref ca), .val (.int (Int32.ofNat i)), .val (.int (Int32.ofNat cs.length)), .val (.ref t), .val (.int (Int32.ofNat i))] [(.int cc), (.int (Int32.ofNat i)), (.ref t)]) := goRun K N #[] [(8, .iload 4, 2), (10, .iload_n 2, 1), (11, .if_icmp .ge 21, 3), (14, .aload_n 3, 1), (15, .iload 4, 2), (17, .aload_n 0, 1), (18, .iload_n 1, 1), (19, .caload, 1)] [.null, .int cc] (P := ((Int32.ofNat i) < (Int32.ofNat cs.length)) ∧ (Rd Z h ca .char (Int32.ofNat i) (.int cc)) ∧ True) (by decide +kernel) rfl ⟨((n_lt (by omega) (by omega)).mpr (by omega)), (C.rd (n_ti (by omega)) (gti hc)), trivial⟩
    obtain ⟨v2, T2, h2, N2, ⟨rfl, K1, A1⟩, g2⟩ := goS K N (tw hw 80 rfl) (tw hw 81 rfl) (tw hw 22 rfl) (tw hw 82 rfl) (con_pc hw sf A (wv_len (by omega)) (by omega) (i := i) (by omega) cc ha (N.old O0)) (argsL := [(.ref t), (.int (Int32.ofNat i)), (.int cc)]) (W := 0) (rest := []) (by decide) (Nat.le_trans (by decide) hRf) (Nat.le_trans (by decide) hRl) (by simpa using hRc) (by simpa using hRs) (L := #[.val (.ref ca), .val (.int (Int32.ofNat i)), .val (.int (Int32.ofNat cs.length)), .val (.ref t), .val (.int (Int32.ofNat i))]) rfl pd7 rfl (Nat.le_of_eq rfl) (pc := 20) (by decide +kernel)
    rw [wv_set hc] at A1
    have g3 : Ld p e below T2 (mkF m 23 #[.val (.ref ca), .val (.int (Int32.ofNat i)), .val (.int (Int32.ofNat cs.length)), .val (.ref t), .val (.int (Int32.ofNat i))] []) T2 (mkF m 8 #[.val (.ref ca), .val (.int ((Int32.ofNat i) + (1 : Int32))), .val (.int (Int32.ofNat cs.length)), .val (.ref t), .val (.int ((Int32.ofNat i) + (1 : Int32)))] []) := goRun K N2 #[] [(23, .iinc 1 1, 3), (26, .iinc 4 1, 3), (29, .goto (-21), 3)] [] (P := True) (by decide +kernel) rfl trivial
    rw [n_one] at g3
    have ne : ca ≠ t := C.ne A (by decide)
    obtain ⟨T9, h9, N9, K9, A9, g9⟩ := ih (i + 1) T2 h2 (by omega) N2 (C.keep K1 (ninS ne nin0)) A1
    exact ⟨T9, h9, N9, K1.trans K9 (fun y hy => Or.inl hy), A9, g1.trans (g2.trans (g3.trans g9))⟩
set_option maxHeartbeats 1000000 in
theorem con_tb (hw : ∀ d ∈ tables_1, d.before a0 Z = true) {z : Int32} {fm : Value} (sf : SF Z z fm) {ca : Addr} {cs : List Int32} (C : Av Z h ca .char (cs.map Value.int)) (hl : cs.length ≤ 7) (O : Old Z n0 h) : Con l Z n0 ⟨"java/lang/StringUTF16", "toBytes", "([CII)[B"⟩ jdk_52_method_14_code 5 (some (.array .byte)) [] ({ frames := 2, cells := 1, slots := 14, locals := 40 } : Room) #[.ref ca, .int (0 : Int32), .int (Int32.ofNat cs.length)] h (fun v h' => ∃ t, v = some (.ref t) ∧ h.size ≤ t ∧ Keep h h' [] ∧ Av Z h' t .byte ((u16 cs).map Value.int)) := by
  refine Con.ofH (plainFor_of_name pn0) (L0 := #[.val (.ref ca), .val (.int (0 : Int32)), .val (.int (Int32.ofNat cs.length)), .unset, .unset]) (fun m => by first | (simp [entryFrame, mkF, argsToLocals, Value.category]; done) | rfl) ?_
  intro p e s m below meth c T K hret hnm N hs
  have O0 : Old Z n0 s.heap := by rw [hs]; exact O
  have g1 : Ld p e below T (mkF m 0 #[.val (.ref ca), .val (.int (0 : Int32)), .val (.int (Int32.ofNat cs.length)), .unset, .unset] []) T (mkF m 1 #[.val (.ref ca), .val (.int (0 : Int32)), .val (.int (Int32.ofNat cs.length)), .unset, .unset] [(.int (Int32.ofNat cs.length))]) := goRun K N #[] [(0, .iload_n 2, 1)] [] (P := True) (by decide +kernel) rfl trivial
  obtain ⟨v2, T2, h2, N2, ⟨t, rfl, et, E1, A1⟩, g2⟩ := goS K N (tw hw 73 rfl) (tw hw 74 rfl) (tw hw 22 rfl) (tw hw 75 rfl) (con_nbf hw cs.length (by omega)) (argsL := [(.int (Int32.ofNat cs.length))]) (W := 0) (rest := []) (by decide) (by decide) (by decide) (by decide) (by decide) (L := #[.val (.ref ca), .val (.int (0 : Int32)), .val (.int (Int32.ofNat cs.length)), .unset, .unset]) rfl pd6 rfl (Nat.le_of_eq rfl) (pc := 1) (by decide +kernel)
  have ht : n0 ≤ t := et ▸ N.size
  rw [← wv_0] at A1
  have g3 : Ld p e below T2 (mkF m 4 #[.val (.ref ca), .val (.int (0 : Int32)), .val (.int (Int32.ofNat cs.length)), .unset, .unset] [(.ref t)]) T2 (mkF m 8 #[.val (.ref ca), .val (.int (0 : Int32)), .val (.int (Int32.ofNat cs.length)), .val (.ref t), .val (.int (0 : Int32))] []) := goRun K N2 #[] [(4, .astore_n 3, 1), (5, .iconst 0, 1), (6, .istore 4, 2)] [] (P := True) (by decide +kernel) rfl trivial
  obtain ⟨T9, h9, N9, K9, A9, g9⟩ := tb_loop hw sf K (ca := ca) (by omega) ht (by decide) (by decide) (by decide) (by decide) O0 cs.length 0 T2 h2 (by omega) N2 (C.ext E1) A1
  rw [wv_n] at A9
  have g21 : Ld p e below T9 (mkF m 32 #[.val (.ref ca), .val (.int (Int32.ofNat cs.length)), .val (.int (Int32.ofNat cs.length)), .val (.ref t), .val (.int (Int32.ofNat cs.length))] []) T9 (mkF m 33 #[.val (.ref ca), .val (.int (Int32.ofNat cs.length)), .val (.int (Int32.ofNat cs.length)), .val (.ref t), .val (.int (Int32.ofNat cs.length))] [(.ref t)]) := goRun K N9 #[] [(32, .aload_n 3, 1)] [] (P := True) (by decide +kernel) rfl trivial
  exact ⟨_, T9, _, h9, _, _, N9, by decide, by decide, fun q => (nomatch q), ⟨t, rfl, Nat.le_of_eq et.symm, (keep_ext E1).trans K9 (allS (Or.inr (Nat.le_of_eq et.symm)) all0), A9⟩, g1.trans (g2.trans (g3.trans (g9.trans g21))), finA K N9 hret rfl rfl rfl (by decide +kernel)⟩
def One (q : Slot) : Prop := q = .unset ∨ ∃ i, q = .val (.int i)
/-- what compress leaves: all fits, or place k does not -/
def cmQ (Z : State) (h h' : Heap) (ba : Addr) (cs : List Int32) (v : Option Value) : Prop := Keep h h' [ba] ∧ ((v = some (.int (Int32.ofNat cs.length)) ∧ (∀ c ∈ cs, c.toInt ≤ 255) ∧ Av Z h' ba .byte ((cs.map lo8).map Value.int)) ∨ ∃ (k : Nat) (cc : Int32), v = some (.int (Int32.ofNat k)) ∧ cs[k]? = some cc ∧ ¬ cc.toInt ≤ 255)
set_option maxHeartbeats 1000000 in
theorem cm_loop (K : Cx Z "java/lang/StringUTF16" jdk_52_method_21_code 7 p m c) {ca ba : Addr} {cs : List Int32} (hl : cs.length ≤ 4000) (ha : n0 ≤ ba) (hret : meth.sig.returnType = some .int) : ∀ (k i : Nat) (q6 : Slot) (T : State) (h : Heap), i + k = cs.length → One q6 → Nw Z n0 h p l e R s m args below meth c T cells slots → Av Z h ca .char (cs.map Value.int) → Av Z h ba .byte (bv cs i) → (∀ c ∈ cs.take i, c.toInt ≤ 255) →
    ∃ v T' h' g', Nw Z n0 h' p l e R s m args below meth c T' cells slots ∧ cmQ Z h h' ba cs v ∧ Ld p e below T (mkF m 3 #[.val (.ref ca), .val (.int (Int32.ofNat i)), .val (.ref ba), .val (.int (Int32.ofNat i)), .val (.int (Int32.ofNat cs.length)), .val (.int (Int32.ofNat i)), q6] []) T' g' ∧ Fn p e below m T' g' v := by
  intro k
  induction k with
  | zero =>
    intro i q6 T h hi h6 N C A hs
    have g1 : Ld p e below T (mkF m 3 #[.val (.ref ca), .val (.int (Int32.ofNat i)), .val (.ref ba), .val (.int (Int32.ofNat i)), .val (.int (Int32.ofNat cs.length)), .val (.int (Int32.ofNat i)), q6] []) T (mkF m 46 #[.val (.ref ca), .val (.int (Int32.ofNat i)), .val (.ref ba), .val (.int (Int32.ofNat i)), .val (.int (Int32.ofNat cs.length)), .val (.int (Int32.ofNat i)), q6] [(.int (Int32.ofNat cs.length))]) := goRun K N #[] [(3, .iload 5, 2), (5, .iload 4, 2), (7, .if_icmp .ge 37, 3), (44, .iload 4, 2)] [.ref 0] (P := (¬ (Int32.ofNat i) < (Int32.ofNat cs.length)) ∧ True) (by decide +kernel) rfl ⟨(by rw [n_lt (by omega) (by omega)]; omega), trivial⟩
    obtain rfl : i = cs.length := by omega
    rw [bv_n] at A
    rw [List.take_length] at hs
    exact ⟨_, T, h, _, N, ⟨Keep.refl _ _, Or.inl ⟨rfl, hs, A⟩⟩, g1, finI K N hret (by decide +kernel)⟩
  | succ k ih =>
    intro i q6 T h hi h6 N C A hs
    obtain ⟨cc, hc⟩ : ∃ cc, cs[i]? = some cc := ⟨cs[i]'(by omega), List.getElem?_eq_getElem (by omega)⟩
    have hrd : Rd Z h ca .char (Int32.ofNat i) (.int cc) := C.rd (n_ti (by omega)) (gti hc)
    have hlt : Int32.ofNat i < Int32.ofNat cs.length := (n_lt (by omega) (by omega)).mpr (by omega)
    by_cases hg : cc.toInt ≤ 255
    · rcases h6 with rfl | ⟨i6, rfl⟩
      · have g1 : Ld p e below T (mkF m 3 #[.val (.ref ca), .val (.int (Int32.ofNat i)), .val (.ref ba), .val (.int (Int32.ofNat i)), .val (.int (Int32.ofNat cs.length)), .val (.int (Int32.ofNat i)), .unset] []) T (mkF m 31 #[.val (.ref ca), .val (.int (Int32.ofNat i)), .val (.ref ba), .val (.int (Int32.ofNat i)), .val (.int (Int32.ofNat cs.length)), .val (.int (Int32.ofNat i)), .val (.int cc)] [(.int cc.toInt8.toInt32), (.int (Int32.ofNat i)), (.ref ba)]) := goRun K N #[] [(3, .iload 5, 2), (5, .iload 4, 2), (7, .if_icmp .ge 37, 3), (10, .aload_n 0, 1), (11, .iload_n 1, 1), (12, .caload, 1), (13, .istore 6, 2), (15, .iload 6, 2), (17, .sipush 255, 3), (20, .if_icmp .le 6, 3), (26, .aload_n 2, 1), (27, .iload_n 3, 1), (28, .iload 6, 2), (30, .i2b, 1)] [.null, .int cc, .ref 0] (P := ((Int32.ofNat i) < (Int32.ofNat cs.length)) ∧ (Rd Z h ca .char (Int32.ofNat i) (.int cc)) ∧ (¬ (255 : Int32) < cc) ∧ True) (by decide +kernel) rfl ⟨hlt, hrd, (le255 hg), trivial⟩
        obtain ⟨T2, h2, N2, K2, A2, g2⟩ := avStB K N A (j := Int32.ofNat i) (i := i) (x := cc.toInt8.toInt32) (n_ti (by omega)) (by rw [bv_len (by omega)]; omega) ha (pc := 31) (L := #[.val (.ref ca), .val (.int (Int32.ofNat i)), .val (.ref ba), .val (.int (Int32.ofNat i)), .val (.int (Int32.ofNat cs.length)), .val (.int (Int32.ofNat i)), .val (.int cc)]) (S := []) (by decide +kernel)
        rw [nar_lo, bv_set hc] at A2
        have g3 : Ld p e below T2 (mkF m 32 #[.val (.ref ca), .val (.int (Int32.ofNat i)), .val (.ref ba), .val (.int (Int32.ofNat i)), .val (.int (Int32.ofNat cs.length)), .val (.int (Int32.ofNat i)), .val (.int cc)] []) T2 (mkF m 3 #[.val (.ref ca), .val (.int ((Int32.ofNat i) + (1 : Int32))), .val (.ref ba), .val (.int ((Int32.ofNat i) + (1 : Int32))), .val (.int (Int32.ofNat cs.length)), .val (.int ((Int32.ofNat i) + (1 : Int32))), .val (.int cc)] []) := goRun K N2 #[] [(32, .iinc 1 1, 3), (35, .iinc 3 1, 3), (38, .iinc 5 1, 3), (41, .goto (-38), 3)] [] (P := True) (by decide +kernel) rfl trivial
        rw [n_one] at g3
        obtain ⟨v, T9, h9, g', N9, ⟨K9, q9⟩, g9, f9⟩ := ih (i + 1) _ T2 h2 (by omega) (Or.inr ⟨_, rfl⟩) N2 (C.keep K2 (ninS (C.ne A (by decide)) nin0)) A2 (fun c hc' => by
          rw [take_succ_of hc] at hc'
          rcases List.mem_append.mp hc' with z | z
          · exact hs c z
          · rw [List.mem_singleton.mp z]; exact hg)
        exact ⟨v, T9, h9, g', N9, ⟨K2.trans K9 (fun y hy => Or.inl hy), q9⟩, g1.trans (g2.trans (g3.trans g9)), f9⟩
      · have g1 : Ld p e below T (mkF m 3 #[.val (.ref ca), .val (.int (Int32.ofNat i)), .val (.ref ba), .val (.int (Int32.ofNat i)), .val (.int (Int32.ofNat cs.length)), .val (.int (Int32.ofNat i)), .val (.int i6)] []) T (mkF m 31 #[.val (.ref ca), .val (.int (Int32.ofNat i)), .val (.ref ba), .val (.int (Int32.ofNat i)), .val (.int (Int32.ofNat cs.length)), .val (.int (Int32.ofNat i)), .val (.int cc)] [(.int cc.toInt8.toInt32), (.int (Int32.ofNat i)), (.ref ba)]) := goRun K N #[] [(3, .iload 5, 2), (5, .iload 4, 2), (7, .if_icmp .ge 37, 3), (10, .aload_n 0, 1), (11, .iload_n 1, 1), (12, .caload, 1), (13, .istore 6, 2), (15, .iload 6, 2), (17, .sipush 255, 3), (20, .if_icmp .le 6, 3), (26, .aload_n 2, 1), (27, .iload_n 3, 1), (28, .iload 6, 2), (30, .i2b, 1)] [.null, .int cc, .ref 0] (P := ((Int32.ofNat i) < (Int32.ofNat cs.length)) ∧ (Rd Z h ca .char (Int32.ofNat i) (.int cc)) ∧ (¬ (255 : Int32) < cc) ∧ True) (by decide +kernel) rfl ⟨hlt, hrd, (le255 hg), trivial⟩
        obtain ⟨T2, h2, N2, K2, A2, g2⟩ := avStB K N A (j := Int32.ofNat i) (i := i) (x := cc.toInt8.toInt32) (n_ti (by omega)) (by rw [bv_len (by omega)]; omega) ha (pc := 31) (L := #[.val (.ref ca), .val (.int (Int32.ofNat i)), .val (.ref ba), .val (.int (Int32.ofNat i)), .val (.int (Int32.ofNat cs.length)), .val (.int (Int32.ofNat i)), .val (.int cc)]) (S := []) (by decide +kernel)
        rw [nar_lo, bv_set hc] at A2
        have g3 : Ld p e below T2 (mkF m 32 #[.val (.ref ca), .val (.int (Int32.ofNat i)), .val (.ref ba), .val (.int (Int32.ofNat i)), .val (.int (Int32.ofNat cs.length)), .val (.int (Int32.ofNat i)), .val (.int cc)] []) T2 (mkF m 3 #[.val (.ref ca), .val (.int ((Int32.ofNat i) + (1 : Int32))), .val (.ref ba), .val (.int ((Int32.ofNat i) + (1 : Int32))), .val (.int (Int32.ofNat cs.length)), .val (.int ((Int32.ofNat i) + (1 : Int32))), .val (.int cc)] []) := goRun K N2 #[] [(32, .iinc 1 1, 3), (35, .iinc 3 1, 3), (38, .iinc 5 1, 3), (41, .goto (-38), 3)] [] (P := True) (by decide +kernel) rfl trivial
        rw [n_one] at g3
        obtain ⟨v, T9, h9, g', N9, ⟨K9, q9⟩, g9, f9⟩ := ih (i + 1) _ T2 h2 (by omega) (Or.inr ⟨_, rfl⟩) N2 (C.keep K2 (ninS (C.ne A (by decide)) nin0)) A2 (fun c hc' => by
          rw [take_succ_of hc] at hc'
          rcases List.mem_append.mp hc' with z | z
          · exact hs c z
          · rw [List.mem_singleton.mp z]; exact hg)
        exact ⟨v, T9, h9, g', N9, ⟨K2.trans K9 (fun y hy => Or.inl hy), q9⟩, g1.trans (g2.trans (g3.trans g9)), f9⟩
    · rcases h6 with rfl | ⟨i6, rfl⟩
      · have g1 : Ld p e below T (mkF m 3 #[.val (.ref ca), .val (.int (Int32.ofNat i)), .val (.ref ba), .val (.int (Int32.ofNat i)), .val (.int (Int32.ofNat cs.length)), .val (.int (Int32.ofNat i)), .unset] []) T (mkF m 25 #[.val (.ref ca), .val (.int (Int32.ofNat i)), .val (.ref ba), .val (.int (Int32.ofNat i)), .val (.int (Int32.ofNat cs.length)), .val (.int (Int32.ofNat i)), .val (.int cc)] [(.int (Int32.ofNat i))]) := goRun K N #[] [(3, .iload 5, 2), (5, .iload 4, 2), (7, .if_icmp .ge 37, 3), (10, .aload_n 0, 1), (11, .iload_n 1, 1), (12, .caload, 1), (13, .istore 6, 2), (15, .iload 6, 2), (17, .sipush 255, 3), (20, .if_icmp .le 6, 3), (23, .iload 5, 2)] [.null, .int cc, .null] (P := ((Int32.ofNat i) < (Int32.ofNat cs.length)) ∧ (Rd Z h ca .char (Int32.ofNat i) (.int cc)) ∧ ((255 : Int32) < cc) ∧ True) (by decide +kernel) rfl ⟨hlt, hrd, (Decidable.not_not.mp (gt255 hg)), trivial⟩
        exact ⟨_, T, h, _, N, ⟨Keep.refl _ _, Or.inr ⟨i, cc, rfl, hc, hg⟩⟩, g1, finI K N hret (by decide +kernel)⟩
      · have g1 : Ld p e below T (mkF m 3 #[.val (.ref ca), .val (.int (Int32.ofNat i)), .val (.ref ba), .val (.int (Int32.ofNat i)), .val (.int (Int32.ofNat cs.length)), .val (.int (Int32.ofNat i)), .val (.int i6)] []) T (mkF m 25 #[.val (.ref ca), .val (.int (Int32.ofNat i)), .val (.ref ba), .val (.int (Int32.ofNat i)), .val (.int (Int32.ofNat cs.length)), .val (.int (Int32.ofNat i)), .val (.int cc)] [(.int (Int32.ofNat i))]) := goRun K N #[] [(3, .iload 5, 2), (5, .iload 4, 2), (7, .if_icmp .ge 37, 3), (10, .aload_n 0, 1), (11, .iload_n 1, 1), (12, .caload, 1), (13, .istore 6, 2), (15, .iload 6, 2), (17, .sipush 255, 3), (20, .if_icmp .le 6, 3), (23, .iload 5, 2)] [.null, .int cc, .null] (P := ((Int32.ofNat i) < (Int32.ofNat cs.length)) ∧ (Rd Z h ca .char (Int32.ofNat i) (.int cc)) ∧ ((255 : Int32) < cc) ∧ True) (by decide +kernel) rfl ⟨hlt, hrd, (Decidable.not_not.mp (gt255 hg)), trivial⟩
        exact ⟨_, T, h, _, N, ⟨Keep.refl _ _, Or.inr ⟨i, cc, rfl, hc, hg⟩⟩, g1, finI K N hret (by decide +kernel)⟩
set_option maxHeartbeats 1000000 in
theorem con_cm {ca ba : Addr} {cs : List Int32} (C : Av Z h ca .char (cs.map Value.int)) (A : Av Z h ba .byte (List.replicate cs.length (.int 0))) (hl : cs.length ≤ 4000) (ha : n0 ≤ ba) : Con l Z n0 ⟨"java/lang/StringUTF16", "compress", "([CI[BII)I"⟩ jdk_52_method_21_code 7 (some (.int)) [] ({ frames := 0, cells := 0, slots := 0, locals := 0 } : Room) #[.ref ca, .int (0 : Int32), .ref ba, .int (0 : Int32), .int (Int32.ofNat cs.length)] h (fun v h' => cmQ Z h h' ba cs v) := by
  refine Con.ofH (plainFor_of_name pn0) (L0 := #[.val (.ref ca), .val (.int (0 : Int32)), .val (.ref ba), .val (.int (0 : Int32)), .val (.int (Int32.ofNat cs.length)), .unset, .unset]) (fun m => by first | (simp [entryFrame, mkF, argsToLocals, Value.category]; done) | rfl) ?_
  intro p e s m below meth c T K hret hnm N hs
  have g1 : Ld p e below T (mkF m 0 #[.val (.ref ca), .val (.int (0 : Int32)), .val (.ref ba), .val (.int (0 : Int32)), .val (.int (Int32.ofNat cs.length)), .unset, .unset] []) T (mkF m 3 #[.val (.ref ca), .val (.int (0 : Int32)), .val (.ref ba), .val (.int (0 : Int32)), .val (.int (Int32.ofNat cs.length)), .val (.int (0 : Int32)), .unset] []) := goRun K N #[] [(0, .iconst 0, 1), (1, .istore 5, 2)] [] (P := True) (by decide +kernel) rfl trivial
  obtain ⟨v, T9, h9, g', N9, q9, g9, f9⟩ := cm_loop K hl ha hret cs.length 0 _ T h (by omega) (Or.inl rfl) N C (by rw [bv_0]; exact A) (fun c hc => by simp at hc)
  exact ⟨v, T9, g', h9, _, _, N9, by decide, by decide, fun q => (nomatch q), q9, g1.trans g9, f9⟩
set_option maxHeartbeats 1000000 in
theorem con_cp (hw : ∀ d ∈ tables_1, d.before a0 Z = true) {z : Int32} {fm : Value} (sf : SF Z z fm) {ca : Addr} {cs : List Int32} (C : Av Z h ca .char (cs.map Value.int)) (hl : cs.length ≤ 7) (hch : ∀ c ∈ cs, Ch c) (O : Old Z n0 h) : Con l Z n0 ⟨"java/lang/StringUTF16", "compress", "([CII)[B"⟩ jdk_52_method_16_code 6 (some (.array .byte)) [] ({ frames := 3, cells := 2, slots := 21, locals := 56 } : Room) #[.ref ca, .int (0 : Int32), .int (Int32.ofNat cs.length)] h (fun v h' => ∃ t, v = some (.ref t) ∧ h.size ≤ t ∧ Keep h h' [] ∧ (((∀ c ∈ cs, c.toInt ≤ 255) ∧ Av Z h' t .byte ((cs.map lo8).map Value.int)) ∨ ((∃ c ∈ cs, ¬ c.toInt ≤ 255) ∧ Av Z h' t .byte ((u16 cs).map Value.int)))) := by
  refine Con.ofH (plainFor_of_name pn0) (L0 := #[.val (.ref ca), .val (.int (0 : Int32)), .val (.int (Int32.ofNat cs.length)), .unset, .unset, .unset]) (fun m => by first | (simp [entryFrame, mkF, argsToLocals, Value.category]; done) | rfl) ?_
  intro p e s m below meth c T K hret hnm N hs
  have O0 : Old Z n0 s.heap := by rw [hs]; exact O
  have hn1 : (Int32.ofNat cs.length).toInt = ((cs.length : Nat) : Int) := n_ti (by omega)
  have g1 : Ld p e below T (mkF m 0 #[.val (.ref ca), .val (.int (0 : Int32)), .val (.int (Int32.ofNat cs.length)), .unset, .unset, .unset] []) T (mkF m 1 #[.val (.ref ca), .val (.int (0 : Int32)), .val (.int (Int32.ofNat cs.length)), .unset, .unset, .unset] [(.int (Int32.ofNat cs.length))]) := goRun K N #[] [(0, .iload_n 2, 1)] [] (P := True) (by decide +kernel) rfl trivial
  obtain ⟨T2, h2, a2, cA2, ea2, N2, E2, A2, g2⟩ := goNewP K N (aty := .byte) (tw hw 24 rfl) (n := Int32.ofNat cs.length) (not_neg_of hn1) (cap := 7) (by rw [clamp_of hn1]; omega) (by decide) (by decide) (by decide) (pc := 1) (L := #[.val (.ref ca), .val (.int (0 : Int32)), .val (.int (Int32.ofNat cs.length)), .unset, .unset, .unset]) (S := []) (by decide +kernel)
  have A2 := Av.new A2 (not_neg_of hn1) hn1
  have ha2 : n0 ≤ a2 := ea2 ▸ N.size
  have g3 : Ld p e below T2 (mkF m 3 #[.val (.ref ca), .val (.int (0 : Int32)), .val (.int (Int32.ofNat cs.length)), .unset, .unset, .unset] [(.ref a2)]) T2 (mkF m 9 #[.val (.ref ca), .val (.int (0 : Int32)), .val (.int (Int32.ofNat cs.length)), .val (.ref a2), .unset, .unset] [(.int (Int32.ofNat cs.length)), (.int (0 : Int32)), (.ref a2), (.int (0 : Int32)), (.ref ca)]) := goRun K N2 #[] [(3, .astore_n 3, 1), (4, .aload_n 0, 1), (5, .iload_n 1, 1), (6, .aload_n 3, 1), (7, .iconst 0, 1), (8, .iload_n 2, 1)] [] (P := True) (by decide +kernel) rfl trivial
  obtain ⟨v4, T4, h4, N4, ⟨K1, q1⟩, g4⟩ := goS K N2 (tw hw 25 rfl) (tw hw 26 rfl) (tw hw 22 rfl) (tw hw 27 rfl) (con_cm (C.ext E2) A2 (by omega) ha2) (argsL := [(.ref ca), (.int (0 : Int32)), (.ref a2), (.int (0 : Int32)), (.int (Int32.ofNat cs.length))]) (W := 0) (rest := []) (by decide) (by decide) (by decide) (by decide) (by decide) (L := #[.val (.ref ca), .val (.int (0 : Int32)), .val (.int (Int32.ofNat cs.length)), .val (.ref a2), .unset, .unset]) rfl pd0 rfl (Nat.le_of_eq rfl) (pc := 9) (by decide +kernel)
  have KK := (keep_ext (ws := []) E2).trans K1 (allS (Or.inr (Nat.le_of_eq ea2.symm)) all0)
  obtain ⟨rfl, hall, A1⟩ | ⟨j, cc, rfl, hj, hgt⟩ := q1
  · have g5 : Ld p e below T4 (mkF m 12 #[.val (.ref ca), .val (.int (0 : Int32)), .val (.int (Int32.ofNat cs.length)), .val (.ref a2), .unset, .unset] [(.int (Int32.ofNat cs.length))]) T4 (mkF m 58 #[.val (.ref ca), .val (.int (0 : Int32)), .val (.int (Int32.ofNat cs.length)), .val (.ref a2), .val (.int (Int32.ofNat cs.length)), .unset] [(.ref a2)]) := goRun K N4 #[] [(12, .istore 4, 2), (14, .iload 4, 2), (16, .iload_n 2, 1), (17, .if_icmp .eq 40, 3), (57, .aload_n 3, 1)] [.ref 0] (P := ((Int32.ofNat cs.length) = (Int32.ofNat cs.length)) ∧ True) (by decide +kernel) rfl ⟨rfl, trivial⟩
    exact ⟨_, T4, _, h4, _, _, N4, by decide, by decide, fun q => (nomatch q), ⟨_, rfl, Nat.le_of_eq ea2.symm, KK, Or.inl ⟨hall, A1⟩⟩, g1.trans (g2.trans (g3.trans (g4.trans g5))), finA K N4 hret rfl rfl rfl (by decide +kernel)⟩
  · have hj2 : j < cs.length := (List.getElem?_eq_some_iff.mp hj).1
    have g5 : Ld p e below T4 (mkF m 12 #[.val (.ref ca), .val (.int (0 : Int32)), .val (.int (Int32.ofNat cs.length)), .val (.ref a2), .unset, .unset] [(.int (Int32.ofNat j))]) T4 (mkF m 23 #[.val (.ref ca), .val (.int (0 : Int32)), .val (.int (Int32.ofNat cs.length)), .val (.ref a2), .val (.int (Int32.ofNat j)), .unset] [(.int (Int32.ofNat cs.length)), (.int (0 : Int32)), (.ref ca)]) := goRun K N4 #[] [(12, .istore 4, 2), (14, .iload 4, 2), (16, .iload_n 2, 1), (17, .if_icmp .eq 40, 3), (20, .aload_n 0, 1), (21, .iload_n 1, 1), (22, .iload_n 2, 1)] [.null] (P := (¬ (Int32.ofNat j) = (Int32.ofNat cs.length)) ∧ True) (by decide +kernel) rfl ⟨(by rw [n_eq (by omega) (by omega)]; omega), trivial⟩
    obtain ⟨v6, T6, h6, N6, ⟨t2, rfl, ht2, K2, A2⟩, g6⟩ := goS K N4 (tw hw 70 rfl) (tw hw 71 rfl) (tw hw 22 rfl) (tw hw 72 rfl) (con_tb hw sf ((C.ext E2).keep K1 (ninS (ea2 ▸ Nat.ne_of_lt C.lt) nin0)) hl (N4.old O0)) (argsL := [(.ref ca), (.int (0 : Int32)), (.int (Int32.ofNat cs.length))]) (W := 0) (rest := []) (by decide) (by decide) (by decide) (by decide) (by decide) (L := #[.val (.ref ca), .val (.int (0 : Int32)), .val (.int (Int32.ofNat cs.length)), .val (.ref a2), .val (.int (Int32.ofNat j)), .unset]) rfl pd1 rfl (Nat.le_of_eq rfl) (pc := 23) (by decide +kernel)
    have g7 : Ld p e below T6 (mkF m 26 #[.val (.ref ca), .val (.int (0 : Int32)), .val (.int (Int32.ofNat cs.length)), .val (.ref a2), .val (.int (Int32.ofNat j)), .unset] [(.ref t2)]) T6 (mkF m 32 #[.val (.ref ca), .val (.int (0 : Int32)), .val (.int (Int32.ofNat cs.length)), .val (.ref a2), .val (.int (Int32.ofNat j)), .val (.ref t2)] [(.int (Int32.ofNat j)), (.ref t2)]) := goRun K N6 #[] [(26, .astore 5, 2), (28, .aload 5, 2), (30, .iload 4, 2)] [] (P := True) (by decide +kernel) rfl trivial
    obtain ⟨v8, T8, _, N8, ⟨rfl, rfl⟩, g8⟩ := goS K N6 (tw hw 86 rfl) (tw hw 87 rfl) (tw hw 22 rfl) (tw hw 88 rfl) (con_gc hw sf A2 (by omega) hj (hch _ (List.mem_of_getElem? hj)) (N6.old O0)) (argsL := [(.ref t2), (.int (Int32.ofNat j))]) (W := 0) (rest := []) (by decide) (by decide) (by decide) (by decide) (by decide) (L := #[.val (.ref ca), .val (.int (0 : Int32)), .val (.int (Int32.ofNat cs.length)), .val (.ref a2), .val (.int (Int32.ofNat j)), .val (.ref t2)]) rfl pd8 rfl (Nat.le_of_eq rfl) (pc := 32) (by decide +kernel)
    have g9 : Ld p e below T8 (mkF m 35 #[.val (.ref ca), .val (.int (0 : Int32)), .val (.int (Int32.ofNat cs.length)), .val (.ref a2), .val (.int (Int32.ofNat j)), .val (.ref t2)] [(.int cc)]) T8 (mkF m 56 #[.val (.ref ca), .val (.int (0 : Int32)), .val (.int (Int32.ofNat cs.length)), .val (.ref a2), .val (.int (Int32.ofNat j)), .val (.ref t2)] [(.ref t2)]) := goRun K N8 #[] [(35, .sipush 255, 3), (38, .if_icmp .gt 16, 3), (54, .aload 5, 2)] [.ref 0] (P := ((255 : Int32) < cc) ∧ True) (by decide +kernel) rfl ⟨(Decidable.not_not.mp (gt255 hgt)), trivial⟩
    exact ⟨_, T8, _, h6, _, _, N8, by decide, by decide, fun q => (nomatch q), ⟨_, rfl, Nat.le_trans KK.1 ht2, KK.trans K2 all0, Or.inr ⟨⟨cc, List.mem_of_getElem? hj, hgt⟩, A2⟩⟩, g1.trans (g2.trans (g3.trans (g4.trans (g5.trans (g6.trans (g7.trans (g8.trans g9))))))), finA K N8 hret rfl rfl rfl (by decide +kernel)⟩
theorem nar8_0 : nar .byte ((0 : Int32).toInt8.toInt32) = 0 := by decide
theorem nar8_1 : nar .byte ((1 : Int32).toInt8.toInt32) = 1 := by decide
set_option maxHeartbeats 1000000 in
theorem con_cf0 {t : Addr} {vs : List Value} {n : Nat} (F : Av Z h t .byte vs) (hl : vs.length = n) (hn : n < 100000) : Con l Z n0 ⟨"java/lang/StringUTF16", "coderFromArrayLen", "([BI)B"⟩ jdk_52_method_15_code 2 (some (.byte)) [] ({ frames := 0, cells := 0, slots := 0, locals := 0 } : Room) #[.ref t, .int (Int32.ofNat n)] h (fun v h' => v = some (.int 0) ∧ h = h') := by
  refine Con.ofH (plainFor_of_name pn0) (L0 := #[.val (.ref t), .val (.int (Int32.ofNat n))]) (fun m => by first | (simp [entryFrame, mkF, argsToLocals, Value.category]; done) | rfl) ?_
  intro p e s m below meth c T K hret hnm N hs
  have g1 : Ld p e below T (mkF m 0 #[.val (.ref t), .val (.int (Int32.ofNat n))] []) T (mkF m 8 #[.val (.ref t), .val (.int (Int32.ofNat n))] [(.int ((XT.ushr ((Int32.ofNat n) - (Int32.ofNat (n))) (31 : Int32)).toInt8.toInt32))]) := goRun K N #[] [(0, .iload_n 1, 1), (1, .aload_n 0, 1), (2, .arraylength, 1), (3, .isub, 1), (4, .bipush 31, 2), (6, .iushr, 1), (7, .i2b, 1)] [.int (Int32.ofNat (n))] (P := (Ln Z h t (Int32.ofNat (n))) ∧ True) (by decide +kernel) rfl ⟨(F.ln (by rw [n_ti (by omega), hl])), trivial⟩
  rw [ushr_0] at g1
  exact ⟨_, T, _, h, _, _, N, by decide, by decide, fun q => (nomatch q), ⟨by rw [nar8_0], rfl⟩, g1, finN K N hret (Or.inr (Or.inl rfl)) (by decide +kernel)⟩
set_option maxHeartbeats 1000000 in
theorem con_cf1 {t : Addr} {vs : List Value} {n : Nat} (F : Av Z h t .byte vs) (hl : vs.length = 2 * n) (hn : n < 100000) (hn0 : 0 < n) : Con l Z n0 ⟨"java/lang/StringUTF16", "coderFromArrayLen", "([BI)B"⟩ jdk_52_method_15_code 2 (some (.byte)) [] ({ frames := 0, cells := 0, slots := 0, locals := 0 } : Room) #[.ref t, .int (Int32.ofNat n)] h (fun v h' => v = some (.int 1) ∧ h = h') := by
  refine Con.ofH (plainFor_of_name pn0) (L0 := #[.val (.ref t), .val (.int (Int32.ofNat n))]) (fun m => by first | (simp [entryFrame, mkF, argsToLocals, Value.category]; done) | rfl) ?_
  intro p e s m below meth c T K hret hnm N hs
  have g1 : Ld p e below T (mkF m 0 #[.val (.ref t), .val (.int (Int32.ofNat n))] []) T (mkF m 8 #[.val (.ref t), .val (.int (Int32.ofNat n))] [(.int ((XT.ushr ((Int32.ofNat n) - (Int32.ofNat (2 * n))) (31 : Int32)).toInt8.toInt32))]) := goRun K N #[] [(0, .iload_n 1, 1), (1, .aload_n 0, 1), (2, .arraylength, 1), (3, .isub, 1), (4, .bipush 31, 2), (6, .iushr, 1), (7, .i2b, 1)] [.int (Int32.ofNat (2 * n))] (P := (Ln Z h t (Int32.ofNat (2 * n))) ∧ True) (by decide +kernel) rfl ⟨(F.ln (by rw [n_ti (by omega), hl])), trivial⟩
  rw [ushr_1 hn0 (by omega)] at g1
  exact ⟨_, T, _, h, _, _, N, by decide, by decide, fun q => (nomatch q), ⟨by rw [nar8_1], rfl⟩, g1, finN K N hret (Or.inr (Or.inl rfl)) (by decide +kernel)⟩
set_option maxHeartbeats 1000000 in
theorem con_s4 (hw : ∀ d ∈ tables_1, d.before a0 Z = true) {z : Int32} {fm : Value} (sf : SF Z z fm) {a ca : Addr} {cs : List Int32} (X : Exa Z h a "java/lang/String") (V : Fld Z h a "java/lang/String" "value" "[B" .null) (D : Fld Z h a "java/lang/String" "coder" "B" (.int 0)) (C : Av Z h ca .char (cs.map Value.int)) (hl : cs.length ≤ 7) (hl0 : 0 < cs.length) (hch : ∀ c ∈ cs, Ch c) (ha : n0 ≤ a) (O : Old Z n0 h) : Con l Z n0 ⟨"java/lang/String", "<init>", "([CIILjava/lang/Void;)V"⟩ jdk_42_method_149_code 6 none [] ({ frames := 4, cells := 2, slots := 21, locals := 73 } : Room) #[.ref a, .ref ca, .int (0 : Int32), .int (Int32.ofNat cs.length), .null] h (fun v h' => v = none ∧ Keep h h' [a] ∧ ∃ t, h.size ≤ t ∧ Stv Z h' a t cs) := by
  refine Con.ofH (plainFor_of_name pn1) (L0 := #[.val (.ref a), .val (.ref ca), .val (.int (0 : Int32)), .val (.int (Int32.ofNat cs.length)), .val (.null), .unset]) (fun m => by first | (simp [entryFrame, mkF, argsToLocals, Value.category]; done) | rfl) ?_
  intro p e s m below meth c T K hret hnm N hs
  have O0 : Old Z n0 s.heap := by rw [hs]; exact O
  have s12 := slot_ne (Or.inr (tw hw 34 rfl) : Laid Z a0 "java/lang/String" "java/lang/String" "value" "[B") (Or.inr (tw hw 32 rfl) : Laid Z a0 "java/lang/String" "java/lang/String" "coder" "B") (by decide) (t := .array .byte) (t' := .byte) (by decide) (by decide)
  have g1 : Ld p e below T (mkF m 0 #[.val (.ref a), .val (.ref ca), .val (.int (0 : Int32)), .val (.int (Int32.ofNat cs.length)), .val (.null), .unset] []) T (mkF m 1 #[.val (.ref a), .val (.ref ca), .val (.int (0 : Int32)), .val (.int (Int32.ofNat cs.length)), .val (.null), .unset] [(.ref a)]) := goRun K N #[] [(0, .aload_n 0, 1)] [] (P := True) (by decide +kernel) rfl trivial
  obtain ⟨T2, N2, g2⟩ := goInit K N (tw hw 16 rfl) (tw hw 17 rfl) (tw hw 18 rfl) rfl (a := a) (pc := 1) (L := #[.val (.ref a), .val (.ref ca), .val (.int (0 : Int32)), .val (.int (Int32.ofNat cs.length)), .val (.null), .unset]) (S := []) rfl (by decide +kernel) (by decide) (W := 0) (Nat.le_of_eq rfl) (by decide)
  have g3 : Ld p e below T2 (mkF m 4 #[.val (.ref a), .val (.ref ca), .val (.int (0 : Int32)), .val (.int (Int32.ofNat cs.length)), .val (.null), .unset] []) T2 (mkF m 27 #[.val (.ref a), .val (.ref ca), .val (.int (0 : Int32)), .val (.int (Int32.ofNat cs.length)), .val (.null), .unset] []) := goRun K N2 #[] [(4, .iload_n 3, 1), (5, .ifCond .ne 22, 3)] [.ref 0] (P := (¬ (Int32.ofNat cs.length) = (0 : Int32)) ∧ True) (by decide +kernel) rfl ⟨(by show ¬ Int32.ofNat cs.length = Int32.ofNat 0; rw [n_eq (by omega) (by omega)]; omega), trivial⟩
  obtain ⟨T4, N4, g4⟩ := goSta K N2 (tw hw 19 rfl) (sf.1.ext (N2.old O0).2) (pc := 27) (L := #[.val (.ref a), .val (.ref ca), .val (.int (0 : Int32)), .val (.int (Int32.ofNat cs.length)), .val (.null), .unset]) (S := []) (by decide +kernel)
  have g5 : Ld p e below T4 (mkF m 30 #[.val (.ref a), .val (.ref ca), .val (.int (0 : Int32)), .val (.int (Int32.ofNat cs.length)), .val (.null), .unset] [(.int z)]) T4 (mkF m 36 #[.val (.ref a), .val (.ref ca), .val (.int (0 : Int32)), .val (.int (Int32.ofNat cs.length)), .val (.null), .unset] [(.int (Int32.ofNat cs.length)), (.int (0 : Int32)), (.ref ca)]) := goRun K N4 #[] [(30, .ifCond .eq 28, 3), (33, .aload_n 1, 1), (34, .iload_n 2, 1), (35, .iload_n 3, 1)] [.null] (P := (¬ z = (0 : Int32)) ∧ True) (by decide +kernel) rfl ⟨sf.2.1, trivial⟩
  obtain ⟨v6, T6, h6, N6, ⟨t, rfl, ht, K1, q1⟩, g6⟩ := goS K N4 (tw hw 20 rfl) (tw hw 21 rfl) (tw hw 22 rfl) (tw hw 23 rfl) (con_cp hw sf C hl hch O) (argsL := [(.ref ca), (.int (0 : Int32)), (.int (Int32.ofNat cs.length))]) (W := 0) (rest := []) (by decide) (by decide) (by decide) (by decide) (by decide) (L := #[.val (.ref a), .val (.ref ca), .val (.int (0 : Int32)), .val (.int (Int32.ofNat cs.length)), .val (.null), .unset]) rfl pd1 rfl (Nat.le_of_eq rfl) (pc := 36) (by decide +kernel)
  have na : a ≠ t := Nat.ne_of_lt (Nat.lt_of_lt_of_le X.lt ht)
  have g7 : Ld p e below T6 (mkF m 39 #[.val (.ref a), .val (.ref ca), .val (.int (0 : Int32)), .val (.int (Int32.ofNat cs.length)), .val (.null), .unset] [(.ref t)]) T6 (mkF m 45 #[.val (.ref a), .val (.ref ca), .val (.int (0 : Int32)), .val (.int (Int32.ofNat cs.length)), .val (.null), .val (.ref t)] [(.int (Int32.ofNat cs.length)), (.ref t), (.ref a)]) := goRun K N6 #[] [(39, .astore 5, 2), (41, .aload_n 0, 1), (42, .aload 5, 2), (44, .iload_n 3, 1)] [] (P := True) (by decide +kernel) rfl trivial
  rcases q1 with ⟨hall, A1⟩ | ⟨-, A1⟩
  · obtain ⟨v8, T8, _, N8, ⟨rfl, rfl⟩, g8⟩ := goS K N6 (tw hw 28 rfl) (tw hw 29 rfl) (tw hw 22 rfl) (tw hw 30 rfl) (con_cf0 A1 (by simp) (by omega)) (argsL := [(.ref t), (.int (Int32.ofNat cs.length))]) (W := 1) (rest := [(.ref a)]) (by decide) (by decide) (by decide) (by decide) (by decide) (L := #[.val (.ref a), .val (.ref ca), .val (.int (0 : Int32)), .val (.int (Int32.ofNat cs.length)), .val (.null), .val (.ref t)]) rfl pd2 rfl (Nat.le_of_eq rfl) (pc := 45) (by decide +kernel)
    obtain ⟨T9, h9, N9, W9, g9⟩ := goPut K N8 (C := "java/lang/String") (tw hw 31 rfl) (D.keep K1 nin0) (X.keep K1) (Or.inr ⟨(tw hw 32 rfl), rfl, hnm⟩) (tw hw 6 rfl) (ty := .byte) (v := .int (0 : Int32)) (by decide) rfl rfl ha (pc := 48) (L := #[.val (.ref a), .val (.ref ca), .val (.int (0 : Int32)), .val (.int (Int32.ofNat cs.length)), .val (.null), .val (.ref t)]) (S := []) (by decide +kernel)
    have g10 : Ld p e below T9 (mkF m 51 #[.val (.ref a), .val (.ref ca), .val (.int (0 : Int32)), .val (.int (Int32.ofNat cs.length)), .val (.null), .val (.ref t)] []) T9 (mkF m 54 #[.val (.ref a), .val (.ref ca), .val (.int (0 : Int32)), .val (.int (Int32.ofNat cs.length)), .val (.null), .val (.ref t)] [(.ref t), (.ref a)]) := goRun K N9 #[] [(51, .aload_n 0, 1), (52, .aload 5, 2)] [] (P := True) (by decide +kernel) rfl trivial
    obtain ⟨T11, h11, N11, W11, g11⟩ := goPut K N9 (C := "java/lang/String") (tw hw 33 rfl) ((V.keep K1 nin0).other W9 (Or.inr s12)) ((X.keep K1).wr W9) (Or.inr ⟨(tw hw 34 rfl), rfl, hnm⟩) (tw hw 6 rfl) (ty := .array .byte) (v := .ref t) (by decide) rfl rfl ha (pc := 54) (L := #[.val (.ref a), .val (.ref ca), .val (.int (0 : Int32)), .val (.int (Int32.ofNat cs.length)), .val (.null), .val (.ref t)]) (S := []) (by decide +kernel)
    have KK : Keep h h11 [a] := (((Keep.refl h [a]).trans K1 all0).wr W9 (Or.inl (List.mem_cons_self ..))).wr W11 (Or.inl (List.mem_cons_self ..))
    exact ⟨none, T11, _, h11, _, _, N11, by decide, by decide, fun _ => rfl, ⟨rfl, KK, t, ht, ((X.keep K1).wr W9).wr W11, hch, by omega, ((V.keep K1 nin0).other W9 (Or.inr s12)).same W11, Or.inl ⟨((D.keep K1 nin0).same W9).other W11 (Or.inr (Ne.symm s12)), hall, (A1.other W9 (Ne.symm na)).other W11 (Ne.symm na)⟩⟩, g1.trans (g2.trans (g3.trans (g4.trans (g5.trans (g6.trans (g7.trans (g8.trans (g9.trans (g10.trans g11))))))))), finV K N11 hret (by decide +kernel)⟩
  · obtain ⟨v8, T8, _, N8, ⟨rfl, rfl⟩, g8⟩ := goS K N6 (tw hw 28 rfl) (tw hw 29 rfl) (tw hw 22 rfl) (tw hw 30 rfl) (con_cf1 A1 (by rw [List.length_map, u16_len]) (by omega) hl0) (argsL := [(.ref t), (.int (Int32.ofNat cs.length))]) (W := 1) (rest := [(.ref a)]) (by decide) (by decide) (by decide) (by decide) (by decide) (L := #[.val (.ref a), .val (.ref ca), .val (.int (0 : Int32)), .val (.int (Int32.ofNat cs.length)), .val (.null), .val (.ref t)]) rfl pd2 rfl (Nat.le_of_eq rfl) (pc := 45) (by decide +kernel)
    obtain ⟨T9, h9, N9, W9, g9⟩ := goPut K N8 (C := "java/lang/String") (tw hw 31 rfl) (D.keep K1 nin0) (X.keep K1) (Or.inr ⟨(tw hw 32 rfl), rfl, hnm⟩) (tw hw 6 rfl) (ty := .byte) (v := .int (1 : Int32)) (by decide) rfl rfl ha (pc := 48) (L := #[.val (.ref a), .val (.ref ca), .val (.int (0 : Int32)), .val (.int (Int32.ofNat cs.length)), .val (.null), .val (.ref t)]) (S := []) (by decide +kernel)
    have g10 : Ld p e below T9 (mkF m 51 #[.val (.ref a), .val (.ref ca), .val (.int (0 : Int32)), .val (.int (Int32.ofNat cs.length)), .val (.null), .val (.ref t)] []) T9 (mkF m 54 #[.val (.ref a), .val (.ref ca), .val (.int (0 : Int32)), .val (.int (Int32.ofNat cs.length)), .val (.null), .val (.ref t)] [(.ref t), (.ref a)]) := goRun K N9 #[] [(51, .aload_n 0, 1), (52, .aload 5, 2)] [] (P := True) (by decide +kernel) rfl trivial
    obtain ⟨T11, h11, N11, W11, g11⟩ := goPut K N9 (C := "java/lang/String") (tw hw 33 rfl) ((V.keep K1 nin0).other W9 (Or.inr s12)) ((X.keep K1).wr W9) (Or.inr ⟨(tw hw 34 rfl), rfl, hnm⟩) (tw hw 6 rfl) (ty := .array .byte) (v := .ref t) (by decide) rfl rfl ha (pc := 54) (L := #[.val (.ref a), .val (.ref ca), .val (.int (0 : Int32)), .val (.int (Int32.ofNat cs.length)), .val (.null), .val (.ref t)]) (S := []) (by decide +kernel)
    have KK : Keep h h11 [a] := (((Keep.refl h [a]).trans K1 all0).wr W9 (Or.inl (List.mem_cons_self ..))).wr W11 (Or.inl (List.mem_cons_self ..))
    exact ⟨none, T11, _, h11, _, _, N11, by decide, by decide, fun _ => rfl, ⟨rfl, KK, t, ht, ((X.keep K1).wr W9).wr W11, hch, by omega, ((V.keep K1 nin0).other W9 (Or.inr s12)).same W11, Or.inr ⟨((D.keep K1 nin0).same W9).other W11 (Or.inr (Ne.symm s12)), (A1.other W9 (Ne.symm na)).other W11 (Ne.symm na)⟩⟩, g1.trans (g2.trans (g3.trans (g4.trans (g5.trans (g6.trans (g7.trans (g8.trans (g9.trans (g10.trans g11))))))))), finV K N11 hret (by decide +kernel)⟩
set_option maxHeartbeats 1000000 in
theorem con_si (hw : ∀ d ∈ tables_1, d.before a0 Z = true) {z : Int32} {fm : Value} (sf : SF Z z fm) {a ca : Addr} {cs : List Int32} (X : Exa Z h a "java/lang/String") (V : Fld Z h a "java/lang/String" "value" "[B" .null) (D : Fld Z h a "java/lang/String" "coder" "B" (.int 0)) (C : Av Z h ca .char (cs.map Value.int)) (hl : cs.length ≤ 7) (hl0 : 0 < cs.length) (hch : ∀ c ∈ cs, Ch c) (ha : n0 ≤ a) (O : Old Z n0 h) : Con l Z n0 ⟨"java/lang/String", "<init>", "([C)V"⟩ jdk_42_method_3_code 2 none [] ({ frames := 5, cells := 2, slots := 21, locals := 90 } : Room) #[.ref a, .ref ca] h (fun v h' => v = none ∧ Keep h h' [a] ∧ ∃ t, h.size ≤ t ∧ Stv Z h' a t cs) := by
  refine Con.ofH (plainFor_of_name pn1) (L0 := #[.val (.ref a), .val (.ref ca)]) (fun m => by first | (simp [entryFrame, mkF, argsToLocals, Value.category]; done) | rfl) ?_
  intro p e s m below meth c T K hret hnm N hs
  have O0 : Old Z n0 s.heap := by rw [hs]; exact O
  have g1 : Ld p e below T (mkF m 0 #[.val (.ref a), .val (.ref ca)] []) T (mkF m 6 #[.val (.ref a), .val (.ref ca)] [(.null), (.int (Int32.ofNat cs.length)), (.int (0 : Int32)), (.ref ca), (.ref a)]) := goRun K N #[] [(0, .aload_n 0, 1), (1, .aload_n 1, 1), (2, .iconst 0, 1), (3, .aload_n 1, 1), (4, .arraylength, 1), (5, .aconst_null, 1)] [.int (Int32.ofNat cs.length)] (P := (Ln Z h ca (Int32.ofNat cs.length)) ∧ True) (by decide +kernel) rfl ⟨(C.ln (by rw [n_ti (by omega), List.length_map])), trivial⟩
  obtain ⟨v2, T2, h2, N2, ⟨rfl, K1, t, ht, F1⟩, g2⟩ := goSp K N (a := a) (tw hw 12 rfl) (tw hw 13 rfl) (tw hw 7 rfl) (tw hw 15 rfl) (con_s4 hw sf X V D C hl hl0 hch ha O) rfl (by decide) (argsL := [(.ref ca), (.int (0 : Int32)), (.int (Int32.ofNat cs.length)), (.null)]) (W := 0) (rest := []) (by decide) (by decide) (by decide) (by decide) (L := #[.val (.ref a), .val (.ref ca)]) rfl pd3 rfl (Nat.le_of_eq rfl) (pc := 6) (by decide +kernel)
  exact ⟨none, T2, _, h2, _, _, N2, by decide, by decide, fun _ => rfl, ⟨rfl, K1, t, ht, F1⟩, g1.trans g2, finV K N2 hret (by decide +kernel)⟩
theorem pd9 : parseMethodDescriptor "()B" = some ⟨[], some (.byte)⟩ := by decide +kernel
theorem pd10 : parseMethodDescriptor "()I" = some ⟨[], some (.int)⟩ := by decide +kernel
theorem nb8_0 : nar .byte (0 : Int32) = 0 := by decide
theorem nb8_1 : nar .byte (1 : Int32) = 1 := by decide
set_option maxHeartbeats 1000000 in
theorem con_cd0 (hw : ∀ d ∈ tables_1, d.before a0 Z = true) {z : Int32} {fm : Value} (sf : SF Z z fm) {a : Addr} (F : Fld Z h a "java/lang/String" "coder" "B" (.int 0)) (O : Old Z n0 h) : Con l Z n0 ⟨"java/lang/String", "coder", "()B"⟩ jdk_42_method_152_code 1 (some (.byte)) [] ({ frames := 0, cells := 0, slots := 0, locals := 0 } : Room) #[.ref a] h (fun v h' => v = some (.int 0) ∧ h = h') := by
  refine Con.ofH (plainFor_of_name pn1) (L0 := #[.val (.ref a)]) (fun m => by first | (simp [entryFrame, mkF, argsToLocals, Value.category]; done) | rfl) ?_
  intro p e s m below meth c T K hret hnm N hs
  have O0 : Old Z n0 s.heap := by rw [hs]; exact O
  obtain ⟨T1, N1, g1⟩ := goSta K N (tw hw 19 rfl) (sf.1.ext (N.old O0).2) (pc := 0) (L := #[.val (.ref a)]) (S := []) (by decide +kernel)
  have g2 : Ld p e below T1 (mkF m 3 #[.val (.ref a)] [(.int z)]) T1 (mkF m 7 #[.val (.ref a)] [(.ref a)]) := goRun K N1 #[] [(3, .ifCond .eq 10, 3), (6, .aload_n 0, 1)] [.null] (P := (¬ z = (0 : Int32)) ∧ True) (by decide +kernel) rfl ⟨sf.2.1, trivial⟩
  obtain ⟨T3, N3, g3⟩ := goGet K N1 (tw hw 31 rfl) F (pc := 7) (L := #[.val (.ref a)]) (S := []) (by decide +kernel)
  have g4 : Ld p e below T3 (mkF m 10 #[.val (.ref a)] [(.int (0 : Int32))]) T3 (mkF m 14 #[.val (.ref a)] [(.int (0 : Int32))]) := goRun K N3 #[] [(10, .goto 4, 3)] [] (P := True) (by decide +kernel) rfl trivial
  exact ⟨_, T3, _, h, _, _, N3, by decide, by decide, fun q => (nomatch q), ⟨by rw [nb8_0], rfl⟩, g1.trans (g2.trans (g3.trans g4)), finN K N3 hret (Or.inr (Or.inl rfl)) (by decide +kernel)⟩
set_option maxHeartbeats 1000000 in
theorem con_cd1 (hw : ∀ d ∈ tables_1, d.before a0 Z = true) {z : Int32} {fm : Value} (sf : SF Z z fm) {a : Addr} (F : Fld Z h a "java/lang/String" "coder" "B" (.int 1)) (O : Old Z n0 h) : Con l Z n0 ⟨"java/lang/String", "coder", "()B"⟩ jdk_42_method_152_code 1 (some (.byte)) [] ({ frames := 0, cells := 0, slots := 0, locals := 0 } : Room) #[.ref a] h (fun v h' => v = some (.int 1) ∧ h = h') := by
  refine Con.ofH (plainFor_of_name pn1) (L0 := #[.val (.ref a)]) (fun m => by first | (simp [entryFrame, mkF, argsToLocals, Value.category]; done) | rfl) ?_
  intro p e s m below meth c T K hret hnm N hs
  have O0 : Old Z n0 s.heap := by rw [hs]; exact O
  obtain ⟨T1, N1, g1⟩ := goSta K N (tw hw 19 rfl) (sf.1.ext (N.old O0).2) (pc := 0) (L := #[.val (.ref a)]) (S := []) (by decide +kernel)
  have g2 : Ld p e below T1 (mkF m 3 #[.val (.ref a)] [(.int z)]) T1 (mkF m 7 #[.val (.ref a)] [(.ref a)]) := goRun K N1 #[] [(3, .ifCond .eq 10, 3), (6, .aload_n 0, 1)] [.null] (P := (¬ z = (0 : Int32)) ∧ True) (by decide +kernel) rfl ⟨sf.2.1, trivial⟩
  obtain ⟨T3, N3, g3⟩ := goGet K N1 (tw hw 31 rfl) F (pc := 7) (L := #[.val (.ref a)]) (S := []) (by decide +kernel)
  have g4 : Ld p e below T3 (mkF m 10 #[.val (.ref a)] [(.int (1 : Int32))]) T3 (mkF m 14 #[.val (.ref a)] [(.int (1 : Int32))]) := goRun K N3 #[] [(10, .goto 4, 3)] [] (P := True) (by decide +kernel) rfl trivial
  exact ⟨_, T3, _, h, _, _, N3, by decide, by decide, fun q => (nomatch q), ⟨by rw [nb8_1], rfl⟩, g1.trans (g2.trans (g3.trans g4)), finN K N3 hret (Or.inr (Or.inl rfl)) (by decide +kernel)⟩
set_option maxHeartbeats 1000000 in
theorem con_len (hw : ∀ d ∈ tables_1, d.before a0 Z = true) {z : Int32} {fm : Value} (sf : SF Z z fm) {a t : Addr} {cs : List Int32} (F : Stv Z h a t cs) (O : Old Z n0 h) : Con l Z n0 ⟨"java/lang/String", "length", "()I"⟩ jdk_42_method_54_code 1 (some (.int)) [] ({ frames := 1, cells := 0, slots := 0, locals := 13 } : Room) #[.ref a] h (fun v h' => v = some (.int (Int32.ofNat cs.length)) ∧ h = h') := by
  refine Con.ofH (plainFor_of_name pn1) (L0 := #[.val (.ref a)]) (fun m => by first | (simp [entryFrame, mkF, argsToLocals, Value.category]; done) | rfl) ?_
  intro p e s m below meth c T K hret hnm N hs
  have O0 : Old Z n0 s.heap := by rw [hs]; exact O
  obtain ⟨X, f1, f2, f3, f4⟩ := F
  have g1 : Ld p e below T (mkF m 0 #[.val (.ref a)] []) T (mkF m 1 #[.val (.ref a)] [(.ref a)]) := goRun K N #[] [(0, .aload_n 0, 1)] [] (P := True) (by decide +kernel) rfl trivial
  obtain ⟨T2, N2, g2⟩ := goGet K N (tw hw 33 rfl) f3 (pc := 1) (L := #[.val (.ref a)]) (S := []) (by decide +kernel)
  rcases f4 with ⟨f5, f6, f7⟩ | ⟨f5, f7⟩
  · have g3 : Ld p e below T2 (mkF m 4 #[.val (.ref a)] [(.ref t)]) T2 (mkF m 6 #[.val (.ref a)] [(.ref a), (.int (Int32.ofNat cs.length))]) := goRun K N2 #[] [(4, .arraylength, 1), (5, .aload_n 0, 1)] [.int (Int32.ofNat cs.length)] (P := (Ln Z h t (Int32.ofNat cs.length)) ∧ True) (by decide +kernel) rfl ⟨(f7.ln (by rw [n_ti (by omega)]; simp)), trivial⟩
    obtain ⟨v4, T4, _, N4, ⟨rfl, rfl⟩, g4⟩ := goVi K N2 (a := a) X (tw hw 62 rfl) (tw hw 63 rfl) (tw hw 65 rfl) (tw hw 64 rfl) (tw hw 7 rfl) (tw hw 66 rfl) (con_cd0 hw sf f5 O) (argsL := []) (W := 1) (rest := [(.int (Int32.ofNat cs.length))]) (by decide) (by decide) (by decide) (by decide) (by decide) (L := #[.val (.ref a)]) rfl pd9 rfl (Nat.le_of_eq rfl) (pc := 6) (by decide +kernel)
    have g5 : Ld p e below T4 (mkF m 9 #[.val (.ref a)] [(.int (0 : Int32)), (.int (Int32.ofNat cs.length))]) T4 (mkF m 10 #[.val (.ref a)] [(.int ((Int32.ofNat cs.length) >>> ((0 : Int32) &&& 31)))]) := goRun K N4 #[] [(9, .ishr, 1)] [] (P := True) (by decide +kernel) rfl trivial
    rw [n_shr0] at g5
    exact ⟨_, T4, _, h, _, _, N4, by decide, by decide, fun q => (nomatch q), ⟨rfl, rfl⟩, g1.trans (g2.trans (g3.trans (g4.trans g5))), finI K N4 hret (by decide +kernel)⟩
  · have g3 : Ld p e below T2 (mkF m 4 #[.val (.ref a)] [(.ref t)]) T2 (mkF m 6 #[.val (.ref a)] [(.ref a), (.int (Int32.ofNat (2 * cs.length)))]) := goRun K N2 #[] [(4, .arraylength, 1), (5, .aload_n 0, 1)] [.int (Int32.ofNat (2 * cs.length))] (P := (Ln Z h t (Int32.ofNat (2 * cs.length))) ∧ True) (by decide +kernel) rfl ⟨(f7.ln (by rw [n_ti (by omega), List.length_map, u16_len])), trivial⟩
    obtain ⟨v4, T4, _, N4, ⟨rfl, rfl⟩, g4⟩ := goVi K N2 (a := a) X (tw hw 62 rfl) (tw hw 63 rfl) (tw hw 65 rfl) (tw hw 64 rfl) (tw hw 7 rfl) (tw hw 66 rfl) (con_cd1 hw sf f5 O) (argsL := []) (W := 1) (rest := [(.int (Int32.ofNat (2 * cs.length)))]) (by decide) (by decide) (by decide) (by decide) (by decide) (L := #[.val (.ref a)]) rfl pd9 rfl (Nat.le_of_eq rfl) (pc := 6) (by decide +kernel)
    have g5 : Ld p e below T4 (mkF m 9 #[.val (.ref a)] [(.int (1 : Int32)), (.int (Int32.ofNat (2 * cs.length)))]) T4 (mkF m 10 #[.val (.ref a)] [(.int ((Int32.ofNat (2 * cs.length)) >>> ((1 : Int32) &&& 31)))]) := goRun K N4 #[] [(9, .ishr, 1)] [] (P := True) (by decide +kernel) rfl trivial
    rw [n_shr1 (by omega), show 2 * cs.length / 2 = cs.length by omega] at g5
    exact ⟨_, T4, _, h, _, _, N4, by decide, by decide, fun q => (nomatch q), ⟨rfl, rfl⟩, g1.trans (g2.trans (g3.trans (g4.trans g5))), finI K N4 hret (by decide +kernel)⟩
theorem ew0 (hw : ∀ d ∈ tables_1, d.before a0 Z = true) : EW Z a0 consts_1 := EW.cons (tw hw 49 rfl) (by decide) (EW.nil)
theorem wSt (hw : ∀ d ∈ tables_1, d.before a0 Z = true) : ∀ d ∈ Bundle.stringAtoms, d.before a0 Z = true := by
  intro d hd
  simp only [Bundle.stringAtoms, List.mem_cons, List.not_mem_nil, or_false] at hd
  rcases hd with rfl | rfl | rfl | rfl | rfl | rfl | rfl
  · exact (tw hw 7 rfl)
  · exact (tw hw 6 rfl)
  · exact (tw hw 24 rfl)
  · exact (tw hw 34 rfl)
  · exact (tw hw 32 rfl)
  · exact (tw hw 50 rfl)
  · exact (tw hw 51 rfl)
theorem av_safe {EL : List (String × Nat)} {vm : Vm} {a : Addr} {ty : FieldType} {vs : List Value} (hal : Z.vm.Alike vm) (F : Av Z h a ty vs) (q : ty ≠ .byte) : Safe Z EL vm h a := by
  obtain ⟨c, A, -⟩ := F; exact Safe.arr hal A q
set_option maxHeartbeats 1000000 in
theorem con_s4e (hw : ∀ d ∈ tables_1, d.before a0 Z = true) {a ca : Addr} (X : Exa Z h a "java/lang/String") (V : Fld Z h a "java/lang/String" "value" "[B" .null) (D : Fld Z h a "java/lang/String" "coder" "B" (.int 0)) (ha : n0 ≤ a) : ConW l Z consts_1 n0 ⟨"java/lang/String", "<init>", "([CIILjava/lang/Void;)V"⟩ jdk_42_method_149_code 6 none [] ({ frames := 1, cells := 4, slots := 8, locals := 12 } : Room) #[.ref a, .ref ca, .int (0 : Int32), .int (0 : Int32), .null] h [a] (fun v h' => v = none ∧ Keep h h' [a] ∧ ∃ t, Stv Z h' a t []) := by
  have ew := ew0 hw
  refine ConW.of pn1 (L0 := #[.val (.ref a), .val (.ref ca), .val (.int (0 : Int32)), .val (.int (0 : Int32)), .val (.null), .unset]) (fun m => by first | (simp [entryFrame, mkF, argsToLocals, Value.category]; done) | rfl) ?_
  intro p e s m below meth c T K hret hnm N hsf hs
  have s12 := slot_ne (Or.inr (tw hw 34 rfl) : Laid Z a0 "java/lang/String" "java/lang/String" "value" "[B") (Or.inr (tw hw 32 rfl) : Laid Z a0 "java/lang/String" "java/lang/String" "coder" "B") (by decide) (t := .array .byte) (t' := .byte) (by decide) (by decide)
  have sa0 := (hsf a (List.mem_cons_self ..)).2
  have hlt := (hsf a (List.mem_cons_self ..)).1
  have g1 : Ld p e below T (mkF m 0 #[.val (.ref a), .val (.ref ca), .val (.int (0 : Int32)), .val (.int (0 : Int32)), .val (.null), .unset] []) T (mkF m 1 #[.val (.ref a), .val (.ref ca), .val (.int (0 : Int32)), .val (.int (0 : Int32)), .val (.null), .unset] [(.ref a)]) := goRun K (N.nar) #[] [(0, .aload_n 0, 1)] [] (P := True) (by decide +kernel) rfl trivial
  obtain ⟨T2, N2, g2⟩ := goInit K N.nar (tw hw 16 rfl) (tw hw 17 rfl) (tw hw 18 rfl) rfl (a := a) (pc := 1) (L := #[.val (.ref a), .val (.ref ca), .val (.int (0 : Int32)), .val (.int (0 : Int32)), .val (.null), .unset]) (S := []) rfl (by decide +kernel) (by decide) (W := 0) (Nat.le_of_eq rfl) (by decide)
  obtain ⟨M2, c2⟩ := N.back ew N2 (CHr.refl N.ch)
  have g3 : Ld p e below T2 (mkF m 4 #[.val (.ref a), .val (.ref ca), .val (.int (0 : Int32)), .val (.int (0 : Int32)), .val (.null), .unset] []) T2 (mkF m 9 #[.val (.ref a), .val (.ref ca), .val (.int (0 : Int32)), .val (.int (0 : Int32)), .val (.null), .unset] [(.ref a)]) := goRun K (M2.nar) #[] [(4, .iload_n 3, 1), (5, .ifCond .ne 22, 3), (8, .aload_n 0, 1)] [.null] (P := ((0 : Int32) = (0 : Int32)) ∧ True) (by decide +kernel) rfl ⟨rfl, trivial⟩
  obtain ⟨l4, T4, h4, b4, kb4, M4, c4, E4, X4, D4, V4, A4, Z4, g4⟩ := goLdc K ew M2 (tw hw 49 rfl) (wSt hw) (by decide) (vs := []) (by decide) (z := 0) (by decide) (by decide) (pc := 9) (L := #[.val (.ref a), .val (.ref ca), .val (.int (0 : Int32)), .val (.int (0 : Int32)), .val (.null), .unset]) (S := [(.ref a)]) (by decide +kernel) (n := 0) (by decide) (by decide) (by decide) (by decide)
  have A4 := Arv.toAv A4 (by rfl)
  have sa1 := (c2.trans c4).safe hlt sa0
  obtain ⟨T5, N5, g5⟩ := goGet K M4.nar (tw hw 33 rfl) V4 (pc := 11) (L := #[.val (.ref a), .val (.ref ca), .val (.int (0 : Int32)), .val (.int (0 : Int32)), .val (.null), .unset]) (S := [(.ref a)]) (by decide +kernel)
  obtain ⟨M5, c5⟩ := M4.back ew N5 (CHr.refl M4.ch)
  have sa2 := (c2.trans (c4.trans c5)).safe hlt sa0
  obtain ⟨T6, h6, N6, W6, g6⟩ := goPut K M5.nar (C := "java/lang/String") (tw hw 33 rfl) (V.ext E4) (X.ext E4) (Or.inr ⟨(tw hw 34 rfl), rfl, hnm⟩) (tw hw 6 rfl) (ty := .array .byte) (v := .ref b4) (by decide) rfl rfl ha (pc := 14) (L := #[.val (.ref a), .val (.ref ca), .val (.int (0 : Int32)), .val (.int (0 : Int32)), .val (.null), .unset]) (S := []) (by decide +kernel)
  obtain ⟨M6, c6⟩ := M5.back ew N6 (CHr.wr W6 (sa2) M5.ch)
  have ne := Z4 a sa1
  have g7 : Ld p e below T6 (mkF m 17 #[.val (.ref a), .val (.ref ca), .val (.int (0 : Int32)), .val (.int (0 : Int32)), .val (.null), .unset] []) T6 (mkF m 18 #[.val (.ref a), .val (.ref ca), .val (.int (0 : Int32)), .val (.int (0 : Int32)), .val (.null), .unset] [(.ref a)]) := goRun K (M6.nar) #[] [(17, .aload_n 0, 1)] [] (P := True) (by decide +kernel) rfl trivial
  obtain ⟨l8, T8, h8, b8, kb8, M8, c8, E8, X8, D8, V8, A8, Z8, g8⟩ := goLdc K ew M6 (tw hw 49 rfl) (wSt hw) (by decide) (vs := []) (by decide) (z := 0) (by decide) (by decide) (pc := 18) (L := #[.val (.ref a), .val (.ref ca), .val (.int (0 : Int32)), .val (.int (0 : Int32)), .val (.null), .unset]) (S := [(.ref a)]) (by decide +kernel) (n := 0) (by decide) (by decide) (by decide) (by decide)
  have A8 := Arv.toAv A8 (by rfl)
  have sa3 := (c2.trans (c4.trans (c5.trans (c6.trans c8)))).safe hlt sa0
  obtain ⟨T9, N9, g9⟩ := goGet K M8.nar (tw hw 31 rfl) D8 (pc := 20) (L := #[.val (.ref a), .val (.ref ca), .val (.int (0 : Int32)), .val (.int (0 : Int32)), .val (.null), .unset]) (S := [(.ref a)]) (by decide +kernel)
  obtain ⟨M9, c9⟩ := M8.back ew N9 (CHr.refl M8.ch)
  have sa4 := (c2.trans (c4.trans (c5.trans (c6.trans (c8.trans c9))))).safe hlt sa0
  obtain ⟨T10, h10, N10, W10, g10⟩ := goPut K M9.nar (C := "java/lang/String") (tw hw 31 rfl) (((D.ext E4).other W6 (Or.inr (Ne.symm s12))).ext E8) (((X.ext E4).wr W6).ext E8) (Or.inr ⟨(tw hw 32 rfl), rfl, hnm⟩) (tw hw 6 rfl) (ty := .byte) (v := .int (0 : Int32)) (by decide) rfl rfl ha (pc := 23) (L := #[.val (.ref a), .val (.ref ca), .val (.int (0 : Int32)), .val (.int (0 : Int32)), .val (.null), .unset]) (S := []) (by decide +kernel)
  obtain ⟨M10, c10⟩ := M9.back ew N10 (CHr.wr W10 (sa4) M9.ch)
  have KK : Keep h h10 [a] := (((keep_ext E4).wr W6 (Or.inl (List.mem_cons_self ..))).ext E8).wr W10 (Or.inl (List.mem_cons_self ..))
  exact ⟨none, T10, _, h10, _, _, M10, by decide, by decide, fun _ => rfl, ⟨rfl, KK, b4, (((X.ext E4).wr W6).ext E8).wr W10, fun _ hc => (nomatch hc), by decide, ((((V.ext E4).same W6).ext E8).other W10 (Or.inr s12)), Or.inl ⟨(((D.ext E4).other W6 (Or.inr (Ne.symm s12))).ext E8).same W10, fun _ hc => (nomatch hc), (((A4.other W6 (Ne.symm ne.2)).ext E8).other W10 (Ne.symm ne.2))⟩⟩, (c2.trans (c4.trans (c5.trans (c6.trans (c8.trans (c9.trans c10)))))), g1.trans (g2.trans (g3.trans (g4.trans (g5.trans (g6.trans (g7.trans (g8.trans (g9.trans g10)))))))), finV K M10.nar hret (by decide +kernel)⟩
set_option maxHeartbeats 1000000 in
theorem con_sie (hw : ∀ d ∈ tables_1, d.before a0 Z = true) {a ca : Addr} (X : Exa Z h a "java/lang/String") (V : Fld Z h a "java/lang/String" "value" "[B" .null) (D : Fld Z h a "java/lang/String" "coder" "B" (.int 0)) (ha : n0 ≤ a) (C : Av Z h ca .char []) : ConW l Z consts_1 n0 ⟨"java/lang/String", "<init>", "([C)V"⟩ jdk_42_method_3_code 2 none [] ({ frames := 2, cells := 4, slots := 8, locals := 29 } : Room) #[.ref a, .ref ca] h [a] (fun v h' => v = none ∧ Keep h h' [a] ∧ ∃ t, Stv Z h' a t []) := by
  have ew := ew0 hw
  refine ConW.of pn1 (L0 := #[.val (.ref a), .val (.ref ca)]) (fun m => by first | (simp [entryFrame, mkF, argsToLocals, Value.category]; done) | rfl) ?_
  intro p e s m below meth c T K hret hnm N hsf hs
  have g1 : Ld p e below T (mkF m 0 #[.val (.ref a), .val (.ref ca)] []) T (mkF m 6 #[.val (.ref a), .val (.ref ca)] [(.null), (.int (0 : Int32)), (.int (0 : Int32)), (.ref ca), (.ref a)]) := goRun K (N.nar) #[] [(0, .aload_n 0, 1), (1, .aload_n 1, 1), (2, .iconst 0, 1), (3, .aload_n 1, 1), (4, .arraylength, 1), (5, .aconst_null, 1)] [.int (0 : Int32)] (P := (Ln Z h ca (0 : Int32)) ∧ True) (by decide +kernel) rfl ⟨(C.ln rfl), trivial⟩
  obtain ⟨v2, T2, h2, M2, c2, ⟨rfl, K1, t, F1⟩, g2⟩ := goSpW K ew N (a := a) (tw hw 12 rfl) (tw hw 13 rfl) (tw hw 7 rfl) (tw hw 15 rfl) (con_s4e hw X V D ha) hsf rfl (by decide) (argsL := [(.ref ca), (.int (0 : Int32)), (.int (0 : Int32)), (.null)]) (W := 0) (rest := []) (by decide) (by decide) (by decide) (by decide) (L := #[.val (.ref a), .val (.ref ca)]) rfl pd3 rfl (Nat.le_of_eq rfl) (pc := 6) (by decide +kernel)
  exact ⟨none, T2, _, h2, _, _, M2, by decide, by decide, fun _ => rfl, ⟨rfl, K1, t, F1⟩, (c2), g1.trans g2, finV K M2.nar hret (by decide +kernel)⟩
theorem pd11 : parseMethodDescriptor "(C)Ljava/lang/String;" = some ⟨[.char], some (.object "java/lang/String")⟩ := by decide +kernel
theorem pn2 : plainName "java/lang/StringLatin1" = true := by first | (simp [plainName, overriddenIn]; done) | decide +kernel
theorem pd12 : parseMethodDescriptor "(C)Z" = some ⟨[.char], some (.boolean)⟩ := by decide +kernel
theorem pd13 : parseMethodDescriptor "(C)[B" = some ⟨[.char], some (.array .byte)⟩ := by decide +kernel
theorem pd14 : parseMethodDescriptor "([BB)V" = some ⟨[.array .byte, .byte], none⟩ := by decide +kernel
set_option maxHeartbeats 1000000 in
theorem con_ce {cc : Int32} (h2 : cc.toInt ≤ 255) : Con l Z n0 ⟨"java/lang/StringLatin1", "canEncode", "(C)Z"⟩ jdk_43_method_3_code 1 (some (.boolean)) [] ({ frames := 0, cells := 0, slots := 0, locals := 0 } : Room) #[.int cc] h (fun v h' => v = some (.int 1) ∧ h = h') := by
  refine Con.ofH (plainFor_of_name pn2) (L0 := #[.val (.int cc)]) (fun m => by first | (simp [entryFrame, mkF, argsToLocals, Value.category]; done) | rfl) ?_
  intro p e s m below meth c T K hret hnm N hs
  have g1 : Ld p e below T (mkF m 0 #[.val (.int cc)] []) T (mkF m 12 #[.val (.int cc)] [(.int (1 : Int32))]) := goRun K N #[] [(0, .iload_n 0, 1), (1, .sipush 255, 3), (4, .if_icmp .gt 7, 3), (7, .iconst 1, 1), (8, .goto 4, 3)] [.null] (P := (¬ (255 : Int32) < cc) ∧ True) (by decide +kernel) rfl ⟨(le255 h2), trivial⟩
  exact ⟨_, T, _, h, _, _, N, by decide, by decide, fun q => (nomatch q), ⟨sb1, rfl⟩, g1, finN K N hret (Or.inl rfl) (by decide +kernel)⟩
set_option maxHeartbeats 1000000 in
theorem con_ce0 {cc : Int32} (h2 : ¬ cc.toInt ≤ 255) : Con l Z n0 ⟨"java/lang/StringLatin1", "canEncode", "(C)Z"⟩ jdk_43_method_3_code 1 (some (.boolean)) [] ({ frames := 0, cells := 0, slots := 0, locals := 0 } : Room) #[.int cc] h (fun v h' => v = some (.int 0) ∧ h = h') := by
  refine Con.ofH (plainFor_of_name pn2) (L0 := #[.val (.int cc)]) (fun m => by first | (simp [entryFrame, mkF, argsToLocals, Value.category]; done) | rfl) ?_
  intro p e s m below meth c T K hret hnm N hs
  have g1 : Ld p e below T (mkF m 0 #[.val (.int cc)] []) T (mkF m 12 #[.val (.int cc)] [(.int (0 : Int32))]) := goRun K N #[] [(0, .iload_n 0, 1), (1, .sipush 255, 3), (4, .if_icmp .gt 7, 3), (11, .iconst 0, 1)] [.ref 0] (P := ((255 : Int32) < cc) ∧ True) (by decide +kernel) rfl ⟨(Decidable.not_not.mp (gt255 h2)), trivial⟩
  exact ⟨_, T, _, h, _, _, N, by decide, by decide, fun q => (nomatch q), ⟨sb0, rfl⟩, g1, finN K N hret (Or.inl rfl) (by decide +kernel)⟩
set_option maxHeartbeats 1000000 in
theorem con_tbc (hw : ∀ d ∈ tables_1, d.before a0 Z = true) (cc : Int32) : Con l Z n0 ⟨"java/lang/StringLatin1", "toBytes", "(C)[B"⟩ jdk_43_method_46_code 1 (some (.array .byte)) [] ({ frames := 0, cells := 1, slots := 1, locals := 0 } : Room) #[.int cc] h (fun v h' => ∃ t, v = some (.ref t) ∧ h.size ≤ t ∧ Keep h h' [] ∧ Av Z h' t .byte [.int (lo8 cc)]) := by
  refine Con.ofH (plainFor_of_name pn2) (L0 := #[.val (.int cc)]) (fun m => by first | (simp [entryFrame, mkF, argsToLocals, Value.category]; done) | rfl) ?_
  intro p e s m below meth c T K hret hnm N hs
  have hn1 : (1 : Int32).toInt = ((1 : Nat) : Int) := rfl
  have g1 : Ld p e below T (mkF m 0 #[.val (.int cc)] []) T (mkF m 1 #[.val (.int cc)] [(.int (1 : Int32))]) := goRun K N #[] [(0, .iconst 1, 1)] [] (P := True) (by decide +kernel) rfl trivial
  obtain ⟨T2, h2, a2, cA2, ea2, N2, E2, A2, g2⟩ := goNewP K N (aty := .byte) (tw hw 24 rfl) (n := (1 : Int32)) (not_neg_of hn1) (cap := 1) (by rw [clamp_of hn1]; omega) (by decide) (by decide) (by decide) (pc := 1) (L := #[.val (.int cc)]) (S := []) (by decide +kernel)
  have A2 := Av.new A2 (not_neg_of hn1) hn1
  have ha2 : n0 ≤ a2 := ea2 ▸ N.size
  have g3 : Ld p e below T2 (mkF m 3 #[.val (.int cc)] [(.ref a2)]) T2 (mkF m 7 #[.val (.int cc)] [(.int cc.toInt8.toInt32), (.int (0 : Int32)), (.ref a2), (.ref a2)]) := goRun K N2 #[] [(3, .dup, 1), (4, .iconst 0, 1), (5, .iload_n 0, 1), (6, .i2b, 1)] [] (P := True) (by decide +kernel) rfl trivial
  obtain ⟨T4, h4, N4, K4, A4, g4⟩ := avStB K N2 A2 (j := (0 : Int32)) (i := 0) (x := cc.toInt8.toInt32) rfl (by simp) ha2 (pc := 7) (L := #[.val (.int cc)]) (S := [(.ref a2)]) (by decide +kernel)
  rw [nar_lo] at A4
  exact ⟨_, T4, _, h4, _, _, N4, by decide, by decide, fun q => (nomatch q), ⟨_, rfl, Nat.le_of_eq ea2.symm, (keep_ext E2).trans K4 (allS (Or.inr (Nat.le_of_eq ea2.symm)) all0), A4⟩, g1.trans (g2.trans (g3.trans g4)), finA K N4 hret rfl rfl rfl (by decide +kernel)⟩
set_option maxHeartbeats 1000000 in
theorem con_ib (hw : ∀ d ∈ tables_1, d.before a0 Z = true) {a t : Addr} (X : Exa Z h a "java/lang/String") (V : Fld Z h a "java/lang/String" "value" "[B" .null) (D : Fld Z h a "java/lang/String" "coder" "B" (.int 0)) (ha : n0 ≤ a) : Con l Z n0 ⟨"java/lang/String", "<init>", "([BB)V"⟩ jdk_42_method_151_code 3 none [] ({ frames := 1, cells := 0, slots := 0, locals := 12 } : Room) #[.ref a, .ref t, .int (0 : Int32)] h (fun v h' => v = none ∧ Keep h h' [a] ∧ Fld Z h' a "java/lang/String" "value" "[B" (.ref t) ∧ Fld Z h' a "java/lang/String" "coder" "B" (.int 0)) := by
  refine Con.ofH (plainFor_of_name pn1) (L0 := #[.val (.ref a), .val (.ref t), .val (.int (0 : Int32))]) (fun m => by first | (simp [entryFrame, mkF, argsToLocals, Value.category]; done) | rfl) ?_
  intro p e s m below meth c T K hret hnm N hs
  have s12 := slot_ne (Or.inr (tw hw 34 rfl) : Laid Z a0 "java/lang/String" "java/lang/String" "value" "[B") (Or.inr (tw hw 32 rfl) : Laid Z a0 "java/lang/String" "java/lang/String" "coder" "B") (by decide) (t := .array .byte) (t' := .byte) (by decide) (by decide)
  have g1 : Ld p e below T (mkF m 0 #[.val (.ref a), .val (.ref t), .val (.int (0 : Int32))] []) T (mkF m 1 #[.val (.ref a), .val (.ref t), .val (.int (0 : Int32))] [(.ref a)]) := goRun K N #[] [(0, .aload_n 0, 1)] [] (P := True) (by decide +kernel) rfl trivial
  obtain ⟨T2, N2, g2⟩ := goInit K N (tw hw 16 rfl) (tw hw 17 rfl) (tw hw 18 rfl) rfl (a := a) (pc := 1) (L := #[.val (.ref a), .val (.ref t), .val (.int (0 : Int32))]) (S := []) rfl (by decide +kernel) (by decide) (W := 0) (Nat.le_of_eq rfl) (by decide)
  have g3 : Ld p e below T2 (mkF m 4 #[.val (.ref a), .val (.ref t), .val (.int (0 : Int32))] []) T2 (mkF m 6 #[.val (.ref a), .val (.ref t), .val (.int (0 : Int32))] [(.ref t), (.ref a)]) := goRun K N2 #[] [(4, .aload_n 0, 1), (5, .aload_n 1, 1)] [] (P := True) (by decide +kernel) rfl trivial
  obtain ⟨T4, h4, N4, W4, g4⟩ := goPut K N2 (C := "java/lang/String") (tw hw 33 rfl) V X (Or.inr ⟨(tw hw 34 rfl), rfl, hnm⟩) (tw hw 6 rfl) (ty := .array .byte) (v := .ref t) (by decide) rfl rfl ha (pc := 6) (L := #[.val (.ref a), .val (.ref t), .val (.int (0 : Int32))]) (S := []) (by decide +kernel)
  have g5 : Ld p e below T4 (mkF m 9 #[.val (.ref a), .val (.ref t), .val (.int (0 : Int32))] []) T4 (mkF m 11 #[.val (.ref a), .val (.ref t), .val (.int (0 : Int32))] [(.int (0 : Int32)), (.ref a)]) := goRun K N4 #[] [(9, .aload_n 0, 1), (10, .iload_n 2, 1)] [] (P := True) (by decide +kernel) rfl trivial
  obtain ⟨T6, h6, N6, W6, g6⟩ := goPut K N4 (C := "java/lang/String") (tw hw 31 rfl) (D.other W4 (Or.inr (Ne.symm s12))) (X.wr W4) (Or.inr ⟨(tw hw 32 rfl), rfl, hnm⟩) (tw hw 6 rfl) (ty := .byte) (v := .int (0 : Int32)) (by decide) rfl rfl ha (pc := 11) (L := #[.val (.ref a), .val (.ref t), .val (.int (0 : Int32))]) (S := []) (by decide +kernel)
  exact ⟨none, T6, _, h6, _, _, N6, by decide, by decide, fun _ => rfl, ⟨rfl, ((Keep.refl h [a]).wr W4 (Or.inl (List.mem_cons_self ..))).wr W6 (Or.inl (List.mem_cons_self ..)), (V.same W4).other W6 (Or.inr s12), (D.other W4 (Or.inr (Ne.symm s12))).same W6⟩, g1.trans (g2.trans (g3.trans (g4.trans (g5.trans g6)))), finV K N6 hret (by decide +kernel)⟩
set_option maxHeartbeats 1000000 in
theorem con_ib1 (hw : ∀ d ∈ tables_1, d.before a0 Z = true) {a t : Addr} (X : Exa Z h a "java/lang/String") (V : Fld Z h a "java/lang/String" "value" "[B" .null) (D : Fld Z h a "java/lang/String" "coder" "B" (.int 0)) (ha : n0 ≤ a) : Con l Z n0 ⟨"java/lang/String", "<init>", "([BB)V"⟩ jdk_42_method_151_code 3 none [] ({ frames := 1, cells := 0, slots := 0, locals := 12 } : Room) #[.ref a, .ref t, .int (1 : Int32)] h (fun v h' => v = none ∧ Keep h h' [a] ∧ Fld Z h' a "java/lang/String" "value" "[B" (.ref t) ∧ Fld Z h' a "java/lang/String" "coder" "B" (.int 1)) := by
  refine Con.ofH (plainFor_of_name pn1) (L0 := #[.val (.ref a), .val (.ref t), .val (.int (1 : Int32))]) (fun m => by first | (simp [entryFrame, mkF, argsToLocals, Value.category]; done) | rfl) ?_
  intro p e s m below meth c T K hret hnm N hs
  have s12 := slot_ne (Or.inr (tw hw 34 rfl) : Laid Z a0 "java/lang/String" "java/lang/String" "value" "[B") (Or.inr (tw hw 32 rfl) : Laid Z a0 "java/lang/String" "java/lang/String" "coder" "B") (by decide) (t := .array .byte) (t' := .byte) (by decide) (by decide)
  have g1 : Ld p e below T (mkF m 0 #[.val (.ref a), .val (.ref t), .val (.int (1 : Int32))] []) T (mkF m 1 #[.val (.ref a), .val (.ref t), .val (.int (1 : Int32))] [(.ref a)]) := goRun K N #[] [(0, .aload_n 0, 1)] [] (P := True) (by decide +kernel) rfl trivial
  obtain ⟨T2, N2, g2⟩ := goInit K N (tw hw 16 rfl) (tw hw 17 rfl) (tw hw 18 rfl) rfl (a := a) (pc := 1) (L := #[.val (.ref a), .val (.ref t), .val (.int (1 : Int32))]) (S := []) rfl (by decide +kernel) (by decide) (W := 0) (Nat.le_of_eq rfl) (by decide)
  have g3 : Ld p e below T2 (mkF m 4 #[.val (.ref a), .val (.ref t), .val (.int (1 : Int32))] []) T2 (mkF m 6 #[.val (.ref a), .val (.ref t), .val (.int (1 : Int32))] [(.ref t), (.ref a)]) := goRun K N2 #[] [(4, .aload_n 0, 1), (5, .aload_n 1, 1)] [] (P := True) (by decide +kernel) rfl trivial
  obtain ⟨T4, h4, N4, W4, g4⟩ := goPut K N2 (C := "java/lang/String") (tw hw 33 rfl) V X (Or.inr ⟨(tw hw 34 rfl), rfl, hnm⟩) (tw hw 6 rfl) (ty := .array .byte) (v := .ref t) (by decide) rfl rfl ha (pc := 6) (L := #[.val (.ref a), .val (.ref t), .val (.int (1 : Int32))]) (S := []) (by decide +kernel)
  have g5 : Ld p e below T4 (mkF m 9 #[.val (.ref a), .val (.ref t), .val (.int (1 : Int32))] []) T4 (mkF m 11 #[.val (.ref a), .val (.ref t), .val (.int (1 : Int32))] [(.int (1 : Int32)), (.ref a)]) := goRun K N4 #[] [(9, .aload_n 0, 1), (10, .iload_n 2, 1)] [] (P := True) (by decide +kernel) rfl trivial
  obtain ⟨T6, h6, N6, W6, g6⟩ := goPut K N4 (C := "java/lang/String") (tw hw 31 rfl) (D.other W4 (Or.inr (Ne.symm s12))) (X.wr W4) (Or.inr ⟨(tw hw 32 rfl), rfl, hnm⟩) (tw hw 6 rfl) (ty := .byte) (v := .int (1 : Int32)) (by decide) rfl rfl ha (pc := 11) (L := #[.val (.ref a), .val (.ref t), .val (.int (1 : Int32))]) (S := []) (by decide +kernel)
  exact ⟨none, T6, _, h6, _, _, N6, by decide, by decide, fun _ => rfl, ⟨rfl, ((Keep.refl h [a]).wr W4 (Or.inl (List.mem_cons_self ..))).wr W6 (Or.inl (List.mem_cons_self ..)), (V.same W4).other W6 (Or.inr s12), (D.other W4 (Or.inr (Ne.symm s12))).same W6⟩, g1.trans (g2.trans (g3.trans (g4.trans (g5.trans g6)))), finV K N6 hret (by decide +kernel)⟩
set_option maxHeartbeats 1000000 in
theorem con_tbu (hw : ∀ d ∈ tables_1, d.before a0 Z = true) {z : Int32} {fm : Value} (sf : SF Z z fm) (cc : Int32) (O : Old Z n0 h) : Con l Z n0 ⟨"java/lang/StringUTF16", "toBytes", "(C)[B"⟩ jdk_52_method_24_code 2 (some (.array .byte)) [] ({ frames := 1, cells := 1, slots := 2, locals := 14 } : Room) #[.int cc] h (fun v h' => ∃ t, v = some (.ref t) ∧ h.size ≤ t ∧ Keep h h' [] ∧ Av Z h' t .byte ((u16 [cc]).map Value.int)) := by
  refine Con.ofH (plainFor_of_name pn0) (L0 := #[.val (.int cc), .unset]) (fun m => by first | (simp [entryFrame, mkF, argsToLocals, Value.category]; done) | rfl) ?_
  intro p e s m below meth c T K hret hnm N hs
  have O0 : Old Z n0 s.heap := by rw [hs]; exact O
  have hn2 : (2 : Int32).toInt = ((2 : Nat) : Int) := rfl
  have g1 : Ld p e below T (mkF m 0 #[.val (.int cc), .unset] []) T (mkF m 1 #[.val (.int cc), .unset] [(.int (2 : Int32))]) := goRun K N #[] [(0, .iconst 2, 1)] [] (P := True) (by decide +kernel) rfl trivial
  obtain ⟨T2, h2, a2, cA2, ea2, N2, E2, A2, g2⟩ := goNewP K N (aty := .byte) (tw hw 24 rfl) (n := (2 : Int32)) (not_neg_of hn2) (cap := 2) (by rw [clamp_of hn2]; omega) (by decide) (by decide) (by decide) (pc := 1) (L := #[.val (.int cc), .unset]) (S := []) (by decide +kernel)
  have A2 := Av.new A2 (not_neg_of hn2) hn2
  have ha2 : n0 ≤ a2 := ea2 ▸ N.size
  have g3 : Ld p e below T2 (mkF m 3 #[.val (.int cc), .unset] [(.ref a2)]) T2 (mkF m 7 #[.val (.int cc), .val (.ref a2)] [(.int cc), (.int (0 : Int32)), (.ref a2)]) := goRun K N2 #[] [(3, .astore_n 1, 1), (4, .aload_n 1, 1), (5, .iconst 0, 1), (6, .iload_n 0, 1)] [] (P := True) (by decide +kernel) rfl trivial
  obtain ⟨v4, T4, h4, N4, ⟨rfl, KP, AP⟩, g4⟩ := goS K N2 (tw hw 80 rfl) (tw hw 81 rfl) (tw hw 22 rfl) (tw hw 82 rfl) (con_pc hw sf A2 (n := 1) rfl (by decide) (i := 0) (by decide) cc ha2 (N2.old O0)) (argsL := [(.ref a2), (.int (0 : Int32)), (.int cc)]) (W := 0) (rest := []) (by decide) (by decide) (by decide) (by decide) (by decide) (L := #[.val (.int cc), .val (.ref a2)]) rfl pd7 rfl (Nat.le_of_eq rfl) (pc := 7) (by decide +kernel)
  have g5 : Ld p e below T4 (mkF m 10 #[.val (.int cc), .val (.ref a2)] []) T4 (mkF m 11 #[.val (.int cc), .val (.ref a2)] [(.ref a2)]) := goRun K N4 #[] [(10, .aload_n 1, 1)] [] (P := True) (by decide +kernel) rfl trivial
  exact ⟨_, T4, _, h4, _, _, N4, by decide, by decide, fun q => (nomatch q), ⟨_, rfl, Nat.le_of_eq ea2.symm, (keep_ext E2).trans KP (allS (Or.inr (Nat.le_of_eq ea2.symm)) all0), AP⟩, g1.trans (g2.trans (g3.trans (g4.trans g5))), finA K N4 hret rfl rfl rfl (by decide +kernel)⟩
set_option maxHeartbeats 1000000 in
theorem con_vo (hw : ∀ d ∈ tables_1, d.before a0 Z = true) {z : Int32} {fm : Value} (sf : SF Z z fm) {cc : Int32} (h1 : Ch cc) (O : Old Z n0 h) : Con l Z n0 ⟨"java/lang/String", "valueOf", "(C)Ljava/lang/String;"⟩ jdk_42_method_139_code 1 (some (.object "java/lang/String")) [] ({ frames := 2, cells := 2, slots := 6, locals := 29 } : Room) #[.int cc] h (fun v h' => ∃ x t, v = some (.ref x) ∧ h.size ≤ x ∧ h.size ≤ t ∧ Keep h h' [] ∧ Stv Z h' x t [cc]) := by
  refine Con.ofH (plainFor_of_name pn1) (L0 := #[.val (.int cc)]) (fun m => by first | (simp [entryFrame, mkF, argsToLocals, Value.category]; done) | rfl) ?_
  intro p e s m below meth c T K hret hnm N hs
  have O0 : Old Z n0 s.heap := by rw [hs]; exact O
  obtain ⟨T1, N1, g1⟩ := goSta K N (tw hw 19 rfl) (sf.1.ext (N.old O0).2) (pc := 0) (L := #[.val (.int cc)]) (S := []) (by decide +kernel)
  have g2 : Ld p e below T1 (mkF m 3 #[.val (.int cc)] [(.int z)]) T1 (mkF m 7 #[.val (.int cc)] [(.int cc)]) := goRun K N1 #[] [(3, .ifCond .eq 23, 3), (6, .iload_n 0, 1)] [.null] (P := (¬ z = (0 : Int32)) ∧ True) (by decide +kernel) rfl ⟨sf.2.1, trivial⟩
  by_cases h2 : cc.toInt ≤ 255
  · obtain ⟨v3, T3, _, N3, ⟨rfl, rfl⟩, g3⟩ := goS K N1 (tw hw 38 rfl) (tw hw 39 rfl) (tw hw 40 rfl) (tw hw 41 rfl) (con_ce h2) (argsL := [(.int cc)]) (W := 0) (rest := []) (by decide) (by decide) (by decide) (by decide) (by decide) (L := #[.val (.int cc)]) rfl pd12 rfl (Nat.le_of_eq rfl) (pc := 7) (by decide +kernel)
    have g4 : Ld p e below T3 (mkF m 10 #[.val (.int cc)] [(.int (1 : Int32))]) T3 (mkF m 13 #[.val (.int cc)] []) := goRun K N3 #[] [(10, .ifCond .eq 16, 3)] [.null] (P := (¬ (1 : Int32) = (0 : Int32)) ∧ True) (by decide +kernel) rfl ⟨(by decide), trivial⟩
    obtain ⟨T5, h5, a5, ea5, N5, E5, X5, D5, g5⟩ := goNew K N3 (C := "java/lang/String") (tw hw 42 rfl) (tw hw 6 rfl) (tw hw 7 rfl) (pc := 13) (L := #[.val (.int cc)]) (S := []) (by decide +kernel) (by decide) (by decide)
    have ha5 : n0 ≤ a5 := ea5 ▸ N3.size
    have V : Fld Z h5 a5 "java/lang/String" "value" "[B" .null := D5 (Or.inr (tw hw 34 rfl)) (ty := .array .byte) (by decide)
    have D : Fld Z h5 a5 "java/lang/String" "coder" "B" (.int 0) := D5 (Or.inr (tw hw 32 rfl)) (ty := .byte) (by decide)
    have g6 : Ld p e below T5 (mkF m 16 #[.val (.int cc)] [(.ref a5)]) T5 (mkF m 18 #[.val (.int cc)] [(.int cc), (.ref a5), (.ref a5)]) := goRun K N5 #[] [(16, .dup, 1), (17, .iload_n 0, 1)] [] (P := True) (by decide +kernel) rfl trivial
    obtain ⟨v7, T7, h7, N7, ⟨t, rfl, ht, K1, A1⟩, g7⟩ := goS K N5 (tw hw 43 rfl) (tw hw 44 rfl) (tw hw 40 rfl) (tw hw 45 rfl) (con_tbc hw cc) (argsL := [(.int cc)]) (W := 2) (rest := [(.ref a5), (.ref a5)]) (by decide) (by decide) (by decide) (by decide) (by decide) (L := #[.val (.int cc)]) rfl pd13 rfl (Nat.le_of_eq rfl) (pc := 18) (by decide +kernel)
    have g8 : Ld p e below T7 (mkF m 21 #[.val (.int cc)] [(.ref t), (.ref a5), (.ref a5)]) T7 (mkF m 22 #[.val (.int cc)] [(.int (0 : Int32)), (.ref t), (.ref a5), (.ref a5)]) := goRun K N7 #[] [(21, .iconst 0, 1)] [] (P := True) (by decide +kernel) rfl trivial
    obtain ⟨v9, T9, h9, N9, ⟨rfl, K2, V2, D2⟩, g9⟩ := goSp K N7 (a := a5) (tw hw 46 rfl) (tw hw 47 rfl) (tw hw 7 rfl) (tw hw 48 rfl) (con_ib hw (X5.keep K1) (V.keep K1 nin0) (D.keep K1 nin0) ha5) rfl (by decide) (argsL := [(.ref t), (.int (0 : Int32))]) (W := 1) (rest := [(.ref a5)]) (by decide) (by decide) (by decide) (by decide) (L := #[.val (.int cc)]) rfl pd14 rfl (Nat.le_of_eq rfl) (pc := 22) (by decide +kernel)
    have na : t ≠ a5 := Ne.symm (Nat.ne_of_lt (Nat.lt_of_lt_of_le X5.lt ht))
    exact ⟨_, T9, _, h9, _, _, N9, by decide, by decide, fun q => (nomatch q), ⟨_, t, rfl, Nat.le_of_eq ea5.symm, Nat.le_trans E5.1 ht, ((keep_ext E5).trans K1 all0).trans K2 (allS (Or.inr (Nat.le_of_eq ea5.symm)) all0), (X5.keep K1).keep K2, fun c hc => by rw [List.mem_singleton.mp hc]; exact h1, by simp, V2, Or.inl ⟨D2, fun c hc => by rw [List.mem_singleton.mp hc]; exact h2, A1.keep K2 (ninS na nin0)⟩⟩, g1.trans (g2.trans (g3.trans (g4.trans (g5.trans (g6.trans (g7.trans (g8.trans g9))))))), finA K N9 hret rfl rfl rfl (by decide +kernel)⟩
  · obtain ⟨v3, T3, _, N3, ⟨rfl, rfl⟩, g3⟩ := goS K N1 (tw hw 38 rfl) (tw hw 39 rfl) (tw hw 40 rfl) (tw hw 41 rfl) (con_ce0 h2) (argsL := [(.int cc)]) (W := 0) (rest := []) (by decide) (by decide) (by decide) (by decide) (by decide) (L := #[.val (.int cc)]) rfl pd12 rfl (Nat.le_of_eq rfl) (pc := 7) (by decide +kernel)
    have g4 : Ld p e below T3 (mkF m 10 #[.val (.int cc)] [(.int (0 : Int32))]) T3 (mkF m 26 #[.val (.int cc)] []) := goRun K N3 #[] [(10, .ifCond .eq 16, 3)] [.ref 0] (P := ((0 : Int32) = (0 : Int32)) ∧ True) (by decide +kernel) rfl ⟨rfl, trivial⟩
    obtain ⟨T5, h5, a5, ea5, N5, E5, X5, D5, g5⟩ := goNew K N3 (C := "java/lang/String") (tw hw 42 rfl) (tw hw 6 rfl) (tw hw 7 rfl) (pc := 26) (L := #[.val (.int cc)]) (S := []) (by decide +kernel) (by decide) (by decide)
    have ha5 : n0 ≤ a5 := ea5 ▸ N3.size
    have V : Fld Z h5 a5 "java/lang/String" "value" "[B" .null := D5 (Or.inr (tw hw 34 rfl)) (ty := .array .byte) (by decide)
    have D : Fld Z h5 a5 "java/lang/String" "coder" "B" (.int 0) := D5 (Or.inr (tw hw 32 rfl)) (ty := .byte) (by decide)
    have g6 : Ld p e below T5 (mkF m 29 #[.val (.int cc)] [(.ref a5)]) T5 (mkF m 31 #[.val (.int cc)] [(.int cc), (.ref a5), (.ref a5)]) := goRun K N5 #[] [(29, .dup, 1), (30, .iload_n 0, 1)] [] (P := True) (by decide +kernel) rfl trivial
    obtain ⟨v7, T7, h7, N7, ⟨t, rfl, ht, K1, A1⟩, g7⟩ := goS K N5 (tw hw 89 rfl) (tw hw 90 rfl) (tw hw 22 rfl) (tw hw 91 rfl) (con_tbu hw sf cc (N5.old O0)) (argsL := [(.int cc)]) (W := 2) (rest := [(.ref a5), (.ref a5)]) (by decide) (by decide) (by decide) (by decide) (by decide) (L := #[.val (.int cc)]) rfl pd13 rfl (Nat.le_of_eq rfl) (pc := 31) (by decide +kernel)
    have g8 : Ld p e below T7 (mkF m 34 #[.val (.int cc)] [(.ref t), (.ref a5), (.ref a5)]) T7 (mkF m 35 #[.val (.int cc)] [(.int (1 : Int32)), (.ref t), (.ref a5), (.ref a5)]) := goRun K N7 #[] [(34, .iconst 1, 1)] [] (P := True) (by decide +kernel) rfl trivial
    obtain ⟨v9, T9, h9, N9, ⟨rfl, K2, V2, D2⟩, g9⟩ := goSp K N7 (a := a5) (tw hw 46 rfl) (tw hw 47 rfl) (tw hw 7 rfl) (tw hw 48 rfl) (con_ib1 hw (X5.keep K1) (V.keep K1 nin0) (D.keep K1 nin0) ha5) rfl (by decide) (argsL := [(.ref t), (.int (1 : Int32))]) (W := 1) (rest := [(.ref a5)]) (by decide) (by decide) (by decide) (by decide) (L := #[.val (.int cc)]) rfl pd14 rfl (Nat.le_of_eq rfl) (pc := 35) (by decide +kernel)
    have na : t ≠ a5 := Ne.symm (Nat.ne_of_lt (Nat.lt_of_lt_of_le X5.lt ht))
    exact ⟨_, T9, _, h9, _, _, N9, by decide, by decide, fun q => (nomatch q), ⟨_, t, rfl, Nat.le_of_eq ea5.symm, Nat.le_trans E5.1 ht, ((keep_ext E5).trans K1 all0).trans K2 (allS (Or.inr (Nat.le_of_eq ea5.symm)) all0), (X5.keep K1).keep K2, fun c hc => by rw [List.mem_singleton.mp hc]; exact h1, by simp, V2, Or.inr ⟨D2, A1.keep K2 (ninS na nin0)⟩⟩, g1.trans (g2.trans (g3.trans (g4.trans (g5.trans (g6.trans (g7.trans (g8.trans g9))))))), finA K N9 hret rfl rfl rfl (by decide +kernel)⟩
theorem pn3 : plainName "com/example/admit/admit/application/KeptBytesTextsPinLaw" = true := by first | (simp [plainName, overriddenIn]; done) | decide +kernel
theorem pd15 : parseMethodDescriptor "(IIIIII)Z" = some ⟨[.int, .int, .int, .int, .int, .int], some (.boolean)⟩ := by decide +kernel
theorem pd16 : parseMethodDescriptor "(ICCCC)Ljava/lang/String;" = some ⟨[.int, .char, .char, .char, .char], some (.object "java/lang/String")⟩ := by decide +kernel
theorem pn4 : plainName "com/example/admit/admit/application/KeptBytes" = true := by first | (simp [plainName, overriddenIn]; done) | decide +kernel
theorem pd17 : parseMethodDescriptor "([Ljava/lang/String;)I" = some ⟨[.array (.object "java/lang/String")], some (.int)⟩ := by decide +kernel
def wtv (k : Int32) : Nat := if k = 1 then 40 else if k = 2 then 42 else if k = 3 then 44 else if k = 4 then 46 else if k = 5 then 48 else if k = 6 then 54 else 0
/-- v is null and weighs nothing, or a String that weighs w -/
def Wt (Z : State) (h : Heap) (v : Value) (w : Nat) : Prop := (v = .null ∧ w = 0) ∨ ∃ b t cs, v = .ref b ∧ Stv Z h b t cs ∧ w = 40 + 2 * cs.length
theorem Wt.ref {v : Value} {w : Nat} (F : Wt Z h v w) : v.isRef = true := by rcases F with ⟨rfl, -⟩ | ⟨b, t, cs, rfl, -⟩ <;> rfl
theorem Wt.sto {v : Value} {w : Nat} (F : Wt Z h v w) : v = .null ∨ ∃ y, v = .ref y ∧ Exa Z h y "java/lang/String" := by
  rcases F with ⟨rfl, -⟩ | ⟨b, t, cs, rfl, S, -⟩
  · exact Or.inl rfl
  · exact Or.inr ⟨b, rfl, S.1⟩
theorem Wt.keep0 {h' : Heap} {v : Value} {w : Nat} (F : Wt Z h v w) (K : Keep h h' []) : Wt Z h' v w := by
  rcases F with q | ⟨b, t, cs, rfl, S, e⟩
  · exact Or.inl q
  · exact Or.inr ⟨b, t, cs, rfl, S.keep K nin0 nin0, e⟩
theorem Wt.keepA {h' : Heap} {v : Value} {w : Nat} {ar : Addr} {vs : List Value} (F : Wt Z h v w) (A : Av Z h ar (.object "java/lang/String") vs) (wi : (Jvm.Cond.instantiable "java/lang/String" 4).before a0 Z = true) (K : Keep h h' [ar]) : Wt Z h' v w := by
  rcases F with q | ⟨b, t, cs, rfl, S, e⟩
  · exact Or.inl q
  · refine Or.inr ⟨b, t, cs, rfl, S.keep K (ninS (A.ne_exa S.1 wi) nin0) (ninS ?_ nin0), e⟩
    rcases S.2.2.2.2 with ⟨-, -, B⟩ | ⟨-, B⟩
    · exact B.ne A (by decide)
    · exact B.ne A (by decide)
theorem tx_step (S n : Nat) : Int32.ofNat S + ((40 : Int32) + (2 : Int32) * Int32.ofNat n) = Int32.ofNat (S + (40 + 2 * n)) := by
  rw [Int32.ofNat_add, Int32.ofNat_add, Int32.ofNat_mul]; rfl
def OneR (q : Slot) : Prop := q = .unset ∨ q = .val .null ∨ ∃ b, q = .val (.ref b)
set_option maxHeartbeats 1000000 in
theorem con_wt (k : Int32) : Con l Z n0 ⟨"com/example/admit/admit/application/KeptBytesTextsPinLaw", "weight", "(I)I"⟩ method_3_code 1 (some (.int)) [] ({ frames := 0, cells := 0, slots := 0, locals := 0 } : Room) #[.int k] h (fun v h' => v = some (.int (Int32.ofNat (wtv k))) ∧ h = h') := by
  refine Con.ofH (plainFor_of_name pn3) (L0 := #[.val (.int k)]) (fun m => by first | (simp [entryFrame, mkF, argsToLocals, Value.category]; done) | rfl) ?_
  intro p e s m below meth c T K hret hnm N hs
  by_cases z1 : k = 1
  · have g1 : Ld p e below T (mkF m 0 #[.val (.int k)] []) T (mkF m 7 #[.val (.int k)] [(.int (40 : Int32))]) := goRun K N #[] [(0, .iload_n 0, 1), (1, .iconst 1, 1), (2, .if_icmp .ne 6, 3), (5, .bipush 40, 2)] [.null] (P := (k = (1 : Int32)) ∧ True) (by decide +kernel) rfl ⟨z1, trivial⟩
    exact ⟨_, T, _, h, _, _, N, by decide, by decide, fun q => (nomatch q), ⟨by subst z1; rfl, rfl⟩, g1, finI K N hret (by decide +kernel)⟩
  · by_cases z2 : k = 2
    · have g1 : Ld p e below T (mkF m 0 #[.val (.int k)] []) T (mkF m 15 #[.val (.int k)] [(.int (42 : Int32))]) := goRun K N #[] [(0, .iload_n 0, 1), (1, .iconst 1, 1), (2, .if_icmp .ne 6, 3), (8, .iload_n 0, 1), (9, .iconst 2, 1), (10, .if_icmp .ne 6, 3), (13, .bipush 42, 2)] [.ref 0, .null] (P := (¬ k = (1 : Int32)) ∧ (k = (2 : Int32)) ∧ True) (by decide +kernel) rfl ⟨z1, z2, trivial⟩
      exact ⟨_, T, _, h, _, _, N, by decide, by decide, fun q => (nomatch q), ⟨by subst z2; rfl, rfl⟩, g1, finI K N hret (by decide +kernel)⟩
    · by_cases z3 : k = 3
      · have g1 : Ld p e below T (mkF m 0 #[.val (.int k)] []) T (mkF m 23 #[.val (.int k)] [(.int (44 : Int32))]) := goRun K N #[] [(0, .iload_n 0, 1), (1, .iconst 1, 1), (2, .if_icmp .ne 6, 3), (8, .iload_n 0, 1), (9, .iconst 2, 1), (10, .if_icmp .ne 6, 3), (16, .iload_n 0, 1), (17, .iconst 3, 1), (18, .if_icmp .ne 6, 3), (21, .bipush 44, 2)] [.ref 0, .ref 0, .null] (P := (¬ k = (1 : Int32)) ∧ (¬ k = (2 : Int32)) ∧ (k = (3 : Int32)) ∧ True) (by decide +kernel) rfl ⟨z1, z2, z3, trivial⟩
        exact ⟨_, T, _, h, _, _, N, by decide, by decide, fun q => (nomatch q), ⟨by subst z3; rfl, rfl⟩, g1, finI K N hret (by decide +kernel)⟩
      · by_cases z4 : k = 4
        · have g1 : Ld p e below T (mkF m 0 #[.val (.int k)] []) T (mkF m 31 #[.val (.int k)] [(.int (46 : Int32))]) := goRun K N #[] [(0, .iload_n 0, 1), (1, .iconst 1, 1), (2, .if_icmp .ne 6, 3), (8, .iload_n 0, 1), (9, .iconst 2, 1), (10, .if_icmp .ne 6, 3), (16, .iload_n 0, 1), (17, .iconst 3, 1), (18, .if_icmp .ne 6, 3), (24, .iload_n 0, 1), (25, .iconst 4, 1), (26, .if_icmp .ne 6, 3), (29, .bipush 46, 2)] [.ref 0, .ref 0, .ref 0, .null] (P := (¬ k = (1 : Int32)) ∧ (¬ k = (2 : Int32)) ∧ (¬ k = (3 : Int32)) ∧ (k = (4 : Int32)) ∧ True) (by decide +kernel) rfl ⟨z1, z2, z3, z4, trivial⟩
          exact ⟨_, T, _, h, _, _, N, by decide, by decide, fun q => (nomatch q), ⟨by subst z4; rfl, rfl⟩, g1, finI K N hret (by decide +kernel)⟩
        · by_cases z5 : k = 5
          · have g1 : Ld p e below T (mkF m 0 #[.val (.int k)] []) T (mkF m 39 #[.val (.int k)] [(.int (48 : Int32))]) := goRun K N #[] [(0, .iload_n 0, 1), (1, .iconst 1, 1), (2, .if_icmp .ne 6, 3), (8, .iload_n 0, 1), (9, .iconst 2, 1), (10, .if_icmp .ne 6, 3), (16, .iload_n 0, 1), (17, .iconst 3, 1), (18, .if_icmp .ne 6, 3), (24, .iload_n 0, 1), (25, .iconst 4, 1), (26, .if_icmp .ne 6, 3), (32, .iload_n 0, 1), (33, .iconst 5, 1), (34, .if_icmp .ne 6, 3), (37, .bipush 48, 2)] [.ref 0, .ref 0, .ref 0, .ref 0, .null] (P := (¬ k = (1 : Int32)) ∧ (¬ k = (2 : Int32)) ∧ (¬ k = (3 : Int32)) ∧ (¬ k = (4 : Int32)) ∧ (k = (5 : Int32)) ∧ True) (by decide +kernel) rfl ⟨z1, z2, z3, z4, z5, trivial⟩
            exact ⟨_, T, _, h, _, _, N, by decide, by decide, fun q => (nomatch q), ⟨by subst z5; rfl, rfl⟩, g1, finI K N hret (by decide +kernel)⟩
          · by_cases z6 : k = 6
            · have g1 : Ld p e below T (mkF m 0 #[.val (.int k)] []) T (mkF m 48 #[.val (.int k)] [(.int (54 : Int32))]) := goRun K N #[] [(0, .iload_n 0, 1), (1, .iconst 1, 1), (2, .if_icmp .ne 6, 3), (8, .iload_n 0, 1), (9, .iconst 2, 1), (10, .if_icmp .ne 6, 3), (16, .iload_n 0, 1), (17, .iconst 3, 1), (18, .if_icmp .ne 6, 3), (24, .iload_n 0, 1), (25, .iconst 4, 1), (26, .if_icmp .ne 6, 3), (32, .iload_n 0, 1), (33, .iconst 5, 1), (34, .if_icmp .ne 6, 3), (40, .iload_n 0, 1), (41, .bipush 6, 2), (43, .if_icmp .ne 6, 3), (46, .bipush 54, 2)] [.ref 0, .ref 0, .ref 0, .ref 0, .ref 0, .null] (P := (¬ k = (1 : Int32)) ∧ (¬ k = (2 : Int32)) ∧ (¬ k = (3 : Int32)) ∧ (¬ k = (4 : Int32)) ∧ (¬ k = (5 : Int32)) ∧ (k = (6 : Int32)) ∧ True) (by decide +kernel) rfl ⟨z1, z2, z3, z4, z5, z6, trivial⟩
              exact ⟨_, T, _, h, _, _, N, by decide, by decide, fun q => (nomatch q), ⟨by subst z6; rfl, rfl⟩, g1, finI K N hret (by decide +kernel)⟩
            · have g1 : Ld p e below T (mkF m 0 #[.val (.int k)] []) T (mkF m 50 #[.val (.int k)] [(.int (0 : Int32))]) := goRun K N #[] [(0, .iload_n 0, 1), (1, .iconst 1, 1), (2, .if_icmp .ne 6, 3), (8, .iload_n 0, 1), (9, .iconst 2, 1), (10, .if_icmp .ne 6, 3), (16, .iload_n 0, 1), (17, .iconst 3, 1), (18, .if_icmp .ne 6, 3), (24, .iload_n 0, 1), (25, .iconst 4, 1), (26, .if_icmp .ne 6, 3), (32, .iload_n 0, 1), (33, .iconst 5, 1), (34, .if_icmp .ne 6, 3), (40, .iload_n 0, 1), (41, .bipush 6, 2), (43, .if_icmp .ne 6, 3), (49, .iconst 0, 1)] [.ref 0, .ref 0, .ref 0, .ref 0, .ref 0, .ref 0] (P := (¬ k = (1 : Int32)) ∧ (¬ k = (2 : Int32)) ∧ (¬ k = (3 : Int32)) ∧ (¬ k = (4 : Int32)) ∧ (¬ k = (5 : Int32)) ∧ (¬ k = (6 : Int32)) ∧ True) (by decide +kernel) rfl ⟨z1, z2, z3, z4, z5, z6, trivial⟩
              exact ⟨_, T, _, h, _, _, N, by decide, by decide, fun q => (nomatch q), ⟨by simp only [wtv, z1, z2, z3, z4, z5, z6, if_false]; rfl, rfl⟩, g1, finI K N hret (by decide +kernel)⟩
set_option maxHeartbeats 1000000 in
theorem con_mk (hw : ∀ d ∈ tables_1, d.before a0 Z = true) {z : Int32} {fm : Value} (sf : SF Z z fm) (k : Int32) {d0 d1 d2 d3 : Int32} (r0 : Ch d0) (r1 : Ch d1) (r2 : Ch d2) (r3 : Ch d3) (O : Old Z n0 h) : ConW l Z consts_1 n0 ⟨"com/example/admit/admit/application/KeptBytesTextsPinLaw", "make", "(ICCCC)Ljava/lang/String;"⟩ method_2_code 5 (some (.object "java/lang/String")) [] ({ frames := 6, cells := 6, slots := 32, locals := 104 } : Room) #[.int k, .int d0, .int d1, .int d2, .int d3] h [] (fun v h' => ∃ vv, v = some vv ∧ Keep h h' [] ∧ Wt Z h' vv (wtv k)) := by
  have ew := ew0 hw
  refine ConW.of pn3 (L0 := #[.val (.int k), .val (.int d0), .val (.int d1), .val (.int d2), .val (.int d3)]) (fun m => by first | (simp [entryFrame, mkF, argsToLocals, Value.category]; done) | rfl) ?_
  intro p e s m below meth c T K hret hnm N hsf hs
  have O0 : Old Z n0 s.heap := by rw [hs]; exact O
  by_cases z1 : k = 1
  · have g1 : Ld p e below T (mkF m 0 #[.val (.int k), .val (.int d0), .val (.int d1), .val (.int d2), .val (.int d3)] []) T (mkF m 5 #[.val (.int k), .val (.int d0), .val (.int d1), .val (.int d2), .val (.int d3)] []) := goRun K (N.nar) #[] [(0, .iload_n 0, 1), (1, .iconst 1, 1), (2, .if_icmp .ne 14, 3)] [.null] (P := (k = (1 : Int32)) ∧ True) (by decide +kernel) rfl ⟨z1, trivial⟩
    obtain ⟨T2, h2, a2, ea2, N2, E2, X2, D2, g2⟩ := goNew K N.nar (C := "java/lang/String") (tw hw 5 rfl) (tw hw 6 rfl) (tw hw 7 rfl) (pc := 5) (L := #[.val (.int k), .val (.int d0), .val (.int d1), .val (.int d2), .val (.int d3)]) (S := []) (by decide +kernel) (by decide) (by decide)
    have ha2 : n0 ≤ a2 := ea2 ▸ N.nar.size
    obtain ⟨⟨M2, c2⟩, sN2⟩ := N.backE ew N2 E2
    have V2 : Fld Z h2 a2 "java/lang/String" "value" "[B" .null := D2 (Or.inr (tw hw 34 rfl)) (ty := .array .byte) (by decide)
    have C2 : Fld Z h2 a2 "java/lang/String" "coder" "B" (.int 0) := D2 (Or.inr (tw hw 32 rfl)) (ty := .byte) (by decide)
    have g3 : Ld p e below T2 (mkF m 8 #[.val (.int k), .val (.int d0), .val (.int d1), .val (.int d2), .val (.int d3)] [(.ref a2)]) T2 (mkF m 10 #[.val (.int k), .val (.int d0), .val (.int d1), .val (.int d2), .val (.int d3)] [(.int (0 : Int32)), (.ref a2), (.ref a2)]) := goRun K (M2.nar) #[] [(8, .dup, 1), (9, .iconst 0, 1)] [] (P := True) (by decide +kernel) rfl trivial
    have hns : (0 : Int32).toInt = ((0 : Nat) : Int) := rfl
    obtain ⟨T4, h4, a4, cA4, ea4, N4, E4, A4, g4⟩ := goNewP K M2.nar (aty := .char) (tw hw 8 rfl) (n := (0 : Int32)) (not_neg_of hns) (cap := 0) (by rw [clamp_of hns]; omega) (by decide) (by decide) (by decide) (pc := 10) (L := #[.val (.int k), .val (.int d0), .val (.int d1), .val (.int d2), .val (.int d3)]) (S := [(.ref a2), (.ref a2)]) (by decide +kernel)
    have A4 := Av.new A4 (not_neg_of hns) hns
    have ha4 : n0 ≤ a4 := ea4 ▸ M2.nar.size
    obtain ⟨⟨M4, c4⟩, sN4⟩ := M2.backE ew N4 E4
    have ARs : Av Z h4 a4 .char (([] : List Int32).map Value.int) := A4
    have Ss : Safe Z consts_1 T4.vm h4 a2 := (c4).safe X2.lt (sN2 _ (Nat.le_of_eq ea2.symm))
    obtain ⟨v5, T5, h5, M5, c5, ⟨rfl, KCs, ts, Fs⟩, g5⟩ := goSpW K ew M4 (a := a2) (tw hw 9 rfl) (tw hw 10 rfl) (tw hw 7 rfl) (tw hw 11 rfl) (con_sie hw (X2.ext E4) (V2.ext E4) (C2.ext E4) ha2 ARs) (allS ⟨(X2.ext E4).lt, Ss⟩ all0) rfl (by decide) (argsL := [(.ref a4)]) (W := 1) (rest := [(.ref a2)]) (by decide) (by decide) (by decide) (by decide) (L := #[.val (.int k), .val (.int d0), .val (.int d1), .val (.int d2), .val (.int d3)]) rfl pd4 rfl (Nat.le_of_eq rfl) (pc := 12) (by decide +kernel)
    have Ks : Keep h h5 [] := ((keep_ext (ws := []) E2).ext E4).trans KCs (allS (Or.inr (Nat.le_of_eq ea2.symm)) all0)
    exact ⟨_, T5, _, h5, _, _, M5, by decide, by decide, fun q => (nomatch q), ⟨_, rfl, Ks, Or.inr ⟨_, _, _, rfl, Fs, by subst z1; rfl⟩⟩, (c2.trans (c4.trans c5)), g1.trans (g2.trans (g3.trans (g4.trans g5))), finA K M5.nar hret rfl rfl rfl (by decide +kernel)⟩
  · by_cases z2 : k = 2
    · have g1 : Ld p e below T (mkF m 0 #[.val (.int k), .val (.int d0), .val (.int d1), .val (.int d2), .val (.int d3)] []) T (mkF m 22 #[.val (.int k), .val (.int d0), .val (.int d1), .val (.int d2), .val (.int d3)] [(.int d0)]) := goRun K (N.nar) #[] [(0, .iload_n 0, 1), (1, .iconst 1, 1), (2, .if_icmp .ne 14, 3), (16, .iload_n 0, 1), (17, .iconst 2, 1), (18, .if_icmp .ne 8, 3), (21, .iload_n 1, 1)] [.ref 0, .null] (P := (¬ k = (1 : Int32)) ∧ (k = (2 : Int32)) ∧ True) (by decide +kernel) rfl ⟨z1, z2, trivial⟩
      obtain ⟨v2, T2, h2, N2, ⟨bx, bt, rfl, hx, ht, K2, F2⟩, g2⟩ := goS K N.nar (tw hw 35 rfl) (tw hw 36 rfl) (tw hw 7 rfl) (tw hw 37 rfl) (con_vo hw sf r0 (N.nar.old O0)) (argsL := [(.int d0)]) (W := 0) (rest := []) (by decide) (by decide) (by decide) (by decide) (by decide) (L := #[.val (.int k), .val (.int d0), .val (.int d1), .val (.int d2), .val (.int d3)]) rfl pd11 rfl (Nat.le_of_eq rfl) (pc := 22) (by decide +kernel)
      obtain ⟨M2, c2⟩ := N.back ew N2 (CHr.keep K2 sf0 N.ch)
      exact ⟨_, T2, _, h2, _, _, M2, by decide, by decide, fun q => (nomatch q), ⟨_, rfl, K2, Or.inr ⟨_, _, _, rfl, F2, by subst z2; rfl⟩⟩, (c2), g1.trans g2, finA K M2.nar hret rfl rfl rfl (by decide +kernel)⟩
    · by_cases z3 : k = 3
      · have g1 : Ld p e below T (mkF m 0 #[.val (.int k), .val (.int d0), .val (.int d1), .val (.int d2), .val (.int d3)] []) T (mkF m 31 #[.val (.int k), .val (.int d0), .val (.int d1), .val (.int d2), .val (.int d3)] []) := goRun K (N.nar) #[] [(0, .iload_n 0, 1), (1, .iconst 1, 1), (2, .if_icmp .ne 14, 3), (16, .iload_n 0, 1), (17, .iconst 2, 1), (18, .if_icmp .ne 8, 3), (26, .iload_n 0, 1), (27, .iconst 3, 1), (28, .if_icmp .ne 22, 3)] [.ref 0, .ref 0, .null] (P := (¬ k = (1 : Int32)) ∧ (¬ k = (2 : Int32)) ∧ (k = (3 : Int32)) ∧ True) (by decide +kernel) rfl ⟨z1, z2, z3, trivial⟩
        obtain ⟨T2, h2, a2, ea2, N2, E2, X2, D2, g2⟩ := goNew K N.nar (C := "java/lang/String") (tw hw 5 rfl) (tw hw 6 rfl) (tw hw 7 rfl) (pc := 31) (L := #[.val (.int k), .val (.int d0), .val (.int d1), .val (.int d2), .val (.int d3)]) (S := []) (by decide +kernel) (by decide) (by decide)
        have ha2 : n0 ≤ a2 := ea2 ▸ N.nar.size
        obtain ⟨⟨M2, c2⟩, sN2⟩ := N.backE ew N2 E2
        have V2 : Fld Z h2 a2 "java/lang/String" "value" "[B" .null := D2 (Or.inr (tw hw 34 rfl)) (ty := .array .byte) (by decide)
        have C2 : Fld Z h2 a2 "java/lang/String" "coder" "B" (.int 0) := D2 (Or.inr (tw hw 32 rfl)) (ty := .byte) (by decide)
        have g3 : Ld p e below T2 (mkF m 34 #[.val (.int k), .val (.int d0), .val (.int d1), .val (.int d2), .val (.int d3)] [(.ref a2)]) T2 (mkF m 36 #[.val (.int k), .val (.int d0), .val (.int d1), .val (.int d2), .val (.int d3)] [(.int (2 : Int32)), (.ref a2), (.ref a2)]) := goRun K (M2.nar) #[] [(34, .dup, 1), (35, .iconst 2, 1)] [] (P := True) (by decide +kernel) rfl trivial
        have hns : (2 : Int32).toInt = ((2 : Nat) : Int) := rfl
        obtain ⟨T4, h4, a4, cA4, ea4, N4, E4, A4, g4⟩ := goNewP K M2.nar (aty := .char) (tw hw 8 rfl) (n := (2 : Int32)) (not_neg_of hns) (cap := 2) (by rw [clamp_of hns]; omega) (by decide) (by decide) (by decide) (pc := 36) (L := #[.val (.int k), .val (.int d0), .val (.int d1), .val (.int d2), .val (.int d3)]) (S := [(.ref a2), (.ref a2)]) (by decide +kernel)
        have A4 := Av.new A4 (not_neg_of hns) hns
        have ha4 : n0 ≤ a4 := ea4 ▸ M2.nar.size
        obtain ⟨⟨M4, c4⟩, sN4⟩ := M2.backE ew N4 E4
        have g5 : Ld p e below T4 (mkF m 38 #[.val (.int k), .val (.int d0), .val (.int d1), .val (.int d2), .val (.int d3)] [(.ref a4), (.ref a2), (.ref a2)]) T4 (mkF m 41 #[.val (.int k), .val (.int d0), .val (.int d1), .val (.int d2), .val (.int d3)] [(.int d0), (.int (0 : Int32)), (.ref a4), (.ref a4), (.ref a2), (.ref a2)]) := goRun K (M4.nar) #[] [(38, .dup, 1), (39, .iconst 0, 1), (40, .iload_n 1, 1)] [] (P := True) (by decide +kernel) rfl trivial
        obtain ⟨T6, h6, N6, K6, A6, g6⟩ := avStC K M4.nar A4 (j := (0 : Int32)) (i := 0) (x := d0) rfl (by simp) ha4 (pc := 41) (L := #[.val (.int k), .val (.int d0), .val (.int d1), .val (.int d2), .val (.int d3)]) (S := [(.ref a4), (.ref a2), (.ref a2)]) (by decide +kernel)
        obtain ⟨M6, c6⟩ := M4.back ew N6 (CHr.keep K6 (sfS (av_safe M4.al A4 (by decide)) sf0) M4.ch)
        rw [nar_ch r0] at A6
        have g7 : Ld p e below T6 (mkF m 42 #[.val (.int k), .val (.int d0), .val (.int d1), .val (.int d2), .val (.int d3)] [(.ref a4), (.ref a2), (.ref a2)]) T6 (mkF m 45 #[.val (.int k), .val (.int d0), .val (.int d1), .val (.int d2), .val (.int d3)] [(.int d1), (.int (1 : Int32)), (.ref a4), (.ref a4), (.ref a2), (.ref a2)]) := goRun K (M6.nar) #[] [(42, .dup, 1), (43, .iconst 1, 1), (44, .iload_n 2, 1)] [] (P := True) (by decide +kernel) rfl trivial
        obtain ⟨T8, h8, N8, K8, A8, g8⟩ := avStC K M6.nar A6 (j := (1 : Int32)) (i := 1) (x := d1) rfl (by simp) ha4 (pc := 45) (L := #[.val (.int k), .val (.int d0), .val (.int d1), .val (.int d2), .val (.int d3)]) (S := [(.ref a4), (.ref a2), (.ref a2)]) (by decide +kernel)
        obtain ⟨M8, c8⟩ := M6.back ew N8 (CHr.keep K8 (sfS (av_safe M6.al A6 (by decide)) sf0) M6.ch)
        rw [nar_ch r1] at A8
        have nas : a2 ≠ a4 := ea4 ▸ Nat.ne_of_lt X2.lt
        have ARs : Av Z h8 a4 .char ([d0, d1].map Value.int) := A8
        have Ss : Safe Z consts_1 T8.vm h8 a2 := (c4.trans (c6.trans c8)).safe X2.lt (sN2 _ (Nat.le_of_eq ea2.symm))
        have CHs : ∀ c ∈ [d0, d1], Ch c := (fun c hc => by
      simp only [List.mem_cons, List.not_mem_nil, or_false] at hc
      rcases hc with rfl | rfl
      · exact r0
      · exact r1)
        obtain ⟨v9, T9, h9, N9, ⟨rfl, KCs, ts, hts, Fs⟩, g9⟩ := goSp K M8.nar (a := a2) (tw hw 9 rfl) (tw hw 10 rfl) (tw hw 7 rfl) (tw hw 11 rfl) (con_si hw sf (((X2.ext E4).keep K6).keep K8) (((V2.ext E4).keep K6 (ninS nas nin0)).keep K8 (ninS nas nin0)) (((C2.ext E4).keep K6 (ninS nas nin0)).keep K8 (ninS nas nin0)) ARs (by simp) (by simp) CHs ha2 (M8.nar.old O0)) rfl (by decide) (argsL := [(.ref a4)]) (W := 1) (rest := [(.ref a2)]) (by decide) (by decide) (by decide) (by decide) (L := #[.val (.int k), .val (.int d0), .val (.int d1), .val (.int d2), .val (.int d3)]) rfl pd4 rfl (Nat.le_of_eq rfl) (pc := 46) (by decide +kernel)
        obtain ⟨M9, c9⟩ := M8.back ew N9 (CHr.keep KCs (sfS Ss sf0) M8.ch)
        have Ks : Keep h h9 [] := ((((keep_ext (ws := []) E2).ext E4).trans K6 (allS (Or.inr (Nat.le_trans E2.1 (Nat.le_of_eq ea4.symm))) all0)).trans K8 (allS (Or.inr (Nat.le_trans E2.1 (Nat.le_of_eq ea4.symm))) all0)).trans KCs (allS (Or.inr (Nat.le_of_eq ea2.symm)) all0)
        exact ⟨_, T9, _, h9, _, _, M9, by decide, by decide, fun q => (nomatch q), ⟨_, rfl, Ks, Or.inr ⟨_, _, _, rfl, Fs, by subst z3; rfl⟩⟩, (c2.trans (c4.trans (c6.trans (c8.trans c9)))), g1.trans (g2.trans (g3.trans (g4.trans (g5.trans (g6.trans (g7.trans (g8.trans g9))))))), finA K M9.nar hret rfl rfl rfl (by decide +kernel)⟩
      · by_cases z4 : k = 4
        · have g1 : Ld p e below T (mkF m 0 #[.val (.int k), .val (.int d0), .val (.int d1), .val (.int d2), .val (.int d3)] []) T (mkF m 55 #[.val (.int k), .val (.int d0), .val (.int d1), .val (.int d2), .val (.int d3)] []) := goRun K (N.nar) #[] [(0, .iload_n 0, 1), (1, .iconst 1, 1), (2, .if_icmp .ne 14, 3), (16, .iload_n 0, 1), (17, .iconst 2, 1), (18, .if_icmp .ne 8, 3), (26, .iload_n 0, 1), (27, .iconst 3, 1), (28, .if_icmp .ne 22, 3), (50, .iload_n 0, 1), (51, .iconst 4, 1), (52, .if_icmp .ne 26, 3)] [.ref 0, .ref 0, .ref 0, .null] (P := (¬ k = (1 : Int32)) ∧ (¬ k = (2 : Int32)) ∧ (¬ k = (3 : Int32)) ∧ (k = (4 : Int32)) ∧ True) (by decide +kernel) rfl ⟨z1, z2, z3, z4, trivial⟩
          obtain ⟨T2, h2, a2, ea2, N2, E2, X2, D2, g2⟩ := goNew K N.nar (C := "java/lang/String") (tw hw 5 rfl) (tw hw 6 rfl) (tw hw 7 rfl) (pc := 55) (L := #[.val (.int k), .val (.int d0), .val (.int d1), .val (.int d2), .val (.int d3)]) (S := []) (by decide +kernel) (by decide) (by decide)
          have ha2 : n0 ≤ a2 := ea2 ▸ N.nar.size
          obtain ⟨⟨M2, c2⟩, sN2⟩ := N.backE ew N2 E2
          have V2 : Fld Z h2 a2 "java/lang/String" "value" "[B" .null := D2 (Or.inr (tw hw 34 rfl)) (ty := .array .byte) (by decide)
          have C2 : Fld Z h2 a2 "java/lang/String" "coder" "B" (.int 0) := D2 (Or.inr (tw hw 32 rfl)) (ty := .byte) (by decide)
          have g3 : Ld p e below T2 (mkF m 58 #[.val (.int k), .val (.int d0), .val (.int d1), .val (.int d2), .val (.int d3)] [(.ref a2)]) T2 (mkF m 60 #[.val (.int k), .val (.int d0), .val (.int d1), .val (.int d2), .val (.int d3)] [(.int (3 : Int32)), (.ref a2), (.ref a2)]) := goRun K (M2.nar) #[] [(58, .dup, 1), (59, .iconst 3, 1)] [] (P := True) (by decide +kernel) rfl trivial
          have hns : (3 : Int32).toInt = ((3 : Nat) : Int) := rfl
          obtain ⟨T4, h4, a4, cA4, ea4, N4, E4, A4, g4⟩ := goNewP K M2.nar (aty := .char) (tw hw 8 rfl) (n := (3 : Int32)) (not_neg_of hns) (cap := 3) (by rw [clamp_of hns]; omega) (by decide) (by decide) (by decide) (pc := 60) (L := #[.val (.int k), .val (.int d0), .val (.int d1), .val (.int d2), .val (.int d3)]) (S := [(.ref a2), (.ref a2)]) (by decide +kernel)
          have A4 := Av.new A4 (not_neg_of hns) hns
          have ha4 : n0 ≤ a4 := ea4 ▸ M2.nar.size
          obtain ⟨⟨M4, c4⟩, sN4⟩ := M2.backE ew N4 E4
          have g5 : Ld p e below T4 (mkF m 62 #[.val (.int k), .val (.int d0), .val (.int d1), .val (.int d2), .val (.int d3)] [(.ref a4), (.ref a2), (.ref a2)]) T4 (mkF m 65 #[.val (.int k), .val (.int d0), .val (.int d1), .val (.int d2), .val (.int d3)] [(.int d0), (.int (0 : Int32)), (.ref a4), (.ref a4), (.ref a2), (.ref a2)]) := goRun K (M4.nar) #[] [(62, .dup, 1), (63, .iconst 0, 1), (64, .iload_n 1, 1)] [] (P := True) (by decide +kernel) rfl trivial
          obtain ⟨T6, h6, N6, K6, A6, g6⟩ := avStC K M4.nar A4 (j := (0 : Int32)) (i := 0) (x := d0) rfl (by simp) ha4 (pc := 65) (L := #[.val (.int k), .val (.int d0), .val (.int d1), .val (.int d2), .val (.int d3)]) (S := [(.ref a4), (.ref a2), (.ref a2)]) (by decide +kernel)
          obtain ⟨M6, c6⟩ := M4.back ew N6 (CHr.keep K6 (sfS (av_safe M4.al A4 (by decide)) sf0) M4.ch)
          rw [nar_ch r0] at A6
          have g7 : Ld p e below T6 (mkF m 66 #[.val (.int k), .val (.int d0), .val (.int d1), .val (.int d2), .val (.int d3)] [(.ref a4), (.ref a2), (.ref a2)]) T6 (mkF m 69 #[.val (.int k), .val (.int d0), .val (.int d1), .val (.int d2), .val (.int d3)] [(.int d1), (.int (1 : Int32)), (.ref a4), (.ref a4), (.ref a2), (.ref a2)]) := goRun K (M6.nar) #[] [(66, .dup, 1), (67, .iconst 1, 1), (68, .iload_n 2, 1)] [] (P := True) (by decide +kernel) rfl trivial
          obtain ⟨T8, h8, N8, K8, A8, g8⟩ := avStC K M6.nar A6 (j := (1 : Int32)) (i := 1) (x := d1) rfl (by simp) ha4 (pc := 69) (L := #[.val (.int k), .val (.int d0), .val (.int d1), .val (.int d2), .val (.int d3)]) (S := [(.ref a4), (.ref a2), (.ref a2)]) (by decide +kernel)
          obtain ⟨M8, c8⟩ := M6.back ew N8 (CHr.keep K8 (sfS (av_safe M6.al A6 (by decide)) sf0) M6.ch)
          rw [nar_ch r1] at A8
          have g9 : Ld p e below T8 (mkF m 70 #[.val (.int k), .val (.int d0), .val (.int d1), .val (.int d2), .val (.int d3)] [(.ref a4), (.ref a2), (.ref a2)]) T8 (mkF m 73 #[.val (.int k), .val (.int d0), .val (.int d1), .val (.int d2), .val (.int d3)] [(.int d2), (.int (2 : Int32)), (.ref a4), (.ref a4), (.ref a2), (.ref a2)]) := goRun K (M8.nar) #[] [(70, .dup, 1), (71, .iconst 2, 1), (72, .iload_n 3, 1)] [] (P := True) (by decide +kernel) rfl trivial
          obtain ⟨T10, h10, N10, K10, A10, g10⟩ := avStC K M8.nar A8 (j := (2 : Int32)) (i := 2) (x := d2) rfl (by simp) ha4 (pc := 73) (L := #[.val (.int k), .val (.int d0), .val (.int d1), .val (.int d2), .val (.int d3)]) (S := [(.ref a4), (.ref a2), (.ref a2)]) (by decide +kernel)
          obtain ⟨M10, c10⟩ := M8.back ew N10 (CHr.keep K10 (sfS (av_safe M8.al A8 (by decide)) sf0) M8.ch)
          rw [nar_ch r2] at A10
          have nas : a2 ≠ a4 := ea4 ▸ Nat.ne_of_lt X2.lt
          have ARs : Av Z h10 a4 .char ([d0, d1, d2].map Value.int) := A10
          have Ss : Safe Z consts_1 T10.vm h10 a2 := (c4.trans (c6.trans (c8.trans c10))).safe X2.lt (sN2 _ (Nat.le_of_eq ea2.symm))
          have CHs : ∀ c ∈ [d0, d1, d2], Ch c := (fun c hc => by
      simp only [List.mem_cons, List.not_mem_nil, or_false] at hc
      rcases hc with rfl | rfl | rfl
      · exact r0
      · exact r1
      · exact r2)
          obtain ⟨v11, T11, h11, N11, ⟨rfl, KCs, ts, hts, Fs⟩, g11⟩ := goSp K M10.nar (a := a2) (tw hw 9 rfl) (tw hw 10 rfl) (tw hw 7 rfl) (tw hw 11 rfl) (con_si hw sf ((((X2.ext E4).keep K6).keep K8).keep K10) ((((V2.ext E4).keep K6 (ninS nas nin0)).keep K8 (ninS nas nin0)).keep K10 (ninS nas nin0)) ((((C2.ext E4).keep K6 (ninS nas nin0)).keep K8 (ninS nas nin0)).keep K10 (ninS nas nin0)) ARs (by simp) (by simp) CHs ha2 (M10.nar.old O0)) rfl (by decide) (argsL := [(.ref a4)]) (W := 1) (rest := [(.ref a2)]) (by decide) (by decide) (by decide) (by decide) (L := #[.val (.int k), .val (.int d0), .val (.int d1), .val (.int d2), .val (.int d3)]) rfl pd4 rfl (Nat.le_of_eq rfl) (pc := 74) (by decide +kernel)
          obtain ⟨M11, c11⟩ := M10.back ew N11 (CHr.keep KCs (sfS Ss sf0) M10.ch)
          have Ks : Keep h h11 [] := (((((keep_ext (ws := []) E2).ext E4).trans K6 (allS (Or.inr (Nat.le_trans E2.1 (Nat.le_of_eq ea4.symm))) all0)).trans K8 (allS (Or.inr (Nat.le_trans E2.1 (Nat.le_of_eq ea4.symm))) all0)).trans K10 (allS (Or.inr (Nat.le_trans E2.1 (Nat.le_of_eq ea4.symm))) all0)).trans KCs (allS (Or.inr (Nat.le_of_eq ea2.symm)) all0)
          exact ⟨_, T11, _, h11, _, _, M11, by decide, by decide, fun q => (nomatch q), ⟨_, rfl, Ks, Or.inr ⟨_, _, _, rfl, Fs, by subst z4; rfl⟩⟩, (c2.trans (c4.trans (c6.trans (c8.trans (c10.trans c11))))), g1.trans (g2.trans (g3.trans (g4.trans (g5.trans (g6.trans (g7.trans (g8.trans (g9.trans (g10.trans g11))))))))), finA K M11.nar hret rfl rfl rfl (by decide +kernel)⟩
        · by_cases z5 : k = 5
          · have g1 : Ld p e below T (mkF m 0 #[.val (.int k), .val (.int d0), .val (.int d1), .val (.int d2), .val (.int d3)] []) T (mkF m 83 #[.val (.int k), .val (.int d0), .val (.int d1), .val (.int d2), .val (.int d3)] []) := goRun K (N.nar) #[] [(0, .iload_n 0, 1), (1, .iconst 1, 1), (2, .if_icmp .ne 14, 3), (16, .iload_n 0, 1), (17, .iconst 2, 1), (18, .if_icmp .ne 8, 3), (26, .iload_n 0, 1), (27, .iconst 3, 1), (28, .if_icmp .ne 22, 3), (50, .iload_n 0, 1), (51, .iconst 4, 1), (52, .if_icmp .ne 26, 3), (78, .iload_n 0, 1), (79, .iconst 5, 1), (80, .if_icmp .ne 31, 3)] [.ref 0, .ref 0, .ref 0, .ref 0, .null] (P := (¬ k = (1 : Int32)) ∧ (¬ k = (2 : Int32)) ∧ (¬ k = (3 : Int32)) ∧ (¬ k = (4 : Int32)) ∧ (k = (5 : Int32)) ∧ True) (by decide +kernel) rfl ⟨z1, z2, z3, z4, z5, trivial⟩
            obtain ⟨T2, h2, a2, ea2, N2, E2, X2, D2, g2⟩ := goNew K N.nar (C := "java/lang/String") (tw hw 5 rfl) (tw hw 6 rfl) (tw hw 7 rfl) (pc := 83) (L := #[.val (.int k), .val (.int d0), .val (.int d1), .val (.int d2), .val (.int d3)]) (S := []) (by decide +kernel) (by decide) (by decide)
            have ha2 : n0 ≤ a2 := ea2 ▸ N.nar.size
            obtain ⟨⟨M2, c2⟩, sN2⟩ := N.backE ew N2 E2
            have V2 : Fld Z h2 a2 "java/lang/String" "value" "[B" .null := D2 (Or.inr (tw hw 34 rfl)) (ty := .array .byte) (by decide)
            have C2 : Fld Z h2 a2 "java/lang/String" "coder" "B" (.int 0) := D2 (Or.inr (tw hw 32 rfl)) (ty := .byte) (by decide)
            have g3 : Ld p e below T2 (mkF m 86 #[.val (.int k), .val (.int d0), .val (.int d1), .val (.int d2), .val (.int d3)] [(.ref a2)]) T2 (mkF m 88 #[.val (.int k), .val (.int d0), .val (.int d1), .val (.int d2), .val (.int d3)] [(.int (4 : Int32)), (.ref a2), (.ref a2)]) := goRun K (M2.nar) #[] [(86, .dup, 1), (87, .iconst 4, 1)] [] (P := True) (by decide +kernel) rfl trivial
            have hns : (4 : Int32).toInt = ((4 : Nat) : Int) := rfl
            obtain ⟨T4, h4, a4, cA4, ea4, N4, E4, A4, g4⟩ := goNewP K M2.nar (aty := .char) (tw hw 8 rfl) (n := (4 : Int32)) (not_neg_of hns) (cap := 4) (by rw [clamp_of hns]; omega) (by decide) (by decide) (by decide) (pc := 88) (L := #[.val (.int k), .val (.int d0), .val (.int d1), .val (.int d2), .val (.int d3)]) (S := [(.ref a2), (.ref a2)]) (by decide +kernel)
            have A4 := Av.new A4 (not_neg_of hns) hns
            have ha4 : n0 ≤ a4 := ea4 ▸ M2.nar.size
            obtain ⟨⟨M4, c4⟩, sN4⟩ := M2.backE ew N4 E4
            have g5 : Ld p e below T4 (mkF m 90 #[.val (.int k), .val (.int d0), .val (.int d1), .val (.int d2), .val (.int d3)] [(.ref a4), (.ref a2), (.ref a2)]) T4 (mkF m 93 #[.val (.int k), .val (.int d0), .val (.int d1), .val (.int d2), .val (.int d3)] [(.int d0), (.int (0 : Int32)), (.ref a4), (.ref a4), (.ref a2), (.ref a2)]) := goRun K (M4.nar) #[] [(90, .dup, 1), (91, .iconst 0, 1), (92, .iload_n 1, 1)] [] (P := True) (by decide +kernel) rfl trivial
            obtain ⟨T6, h6, N6, K6, A6, g6⟩ := avStC K M4.nar A4 (j := (0 : Int32)) (i := 0) (x := d0) rfl (by simp) ha4 (pc := 93) (L := #[.val (.int k), .val (.int d0), .val (.int d1), .val (.int d2), .val (.int d3)]) (S := [(.ref a4), (.ref a2), (.ref a2)]) (by decide +kernel)
            obtain ⟨M6, c6⟩ := M4.back ew N6 (CHr.keep K6 (sfS (av_safe M4.al A4 (by decide)) sf0) M4.ch)
            rw [nar_ch r0] at A6
            have g7 : Ld p e below T6 (mkF m 94 #[.val (.int k), .val (.int d0), .val (.int d1), .val (.int d2), .val (.int d3)] [(.ref a4), (.ref a2), (.ref a2)]) T6 (mkF m 97 #[.val (.int k), .val (.int d0), .val (.int d1), .val (.int d2), .val (.int d3)] [(.int d1), (.int (1 : Int32)), (.ref a4), (.ref a4), (.ref a2), (.ref a2)]) := goRun K (M6.nar) #[] [(94, .dup, 1), (95, .iconst 1, 1), (96, .iload_n 2, 1)] [] (P := True) (by decide +kernel) rfl trivial
            obtain ⟨T8, h8, N8, K8, A8, g8⟩ := avStC K M6.nar A6 (j := (1 : Int32)) (i := 1) (x := d1) rfl (by simp) ha4 (pc := 97) (L := #[.val (.int k), .val (.int d0), .val (.int d1), .val (.int d2), .val (.int d3)]) (S := [(.ref a4), (.ref a2), (.ref a2)]) (by decide +kernel)
            obtain ⟨M8, c8⟩ := M6.back ew N8 (CHr.keep K8 (sfS (av_safe M6.al A6 (by decide)) sf0) M6.ch)
            rw [nar_ch r1] at A8
            have g9 : Ld p e below T8 (mkF m 98 #[.val (.int k), .val (.int d0), .val (.int d1), .val (.int d2), .val (.int d3)] [(.ref a4), (.ref a2), (.ref a2)]) T8 (mkF m 101 #[.val (.int k), .val (.int d0), .val (.int d1), .val (.int d2), .val (.int d3)] [(.int d2), (.int (2 : Int32)), (.ref a4), (.ref a4), (.ref a2), (.ref a2)]) := goRun K (M8.nar) #[] [(98, .dup, 1), (99, .iconst 2, 1), (100, .iload_n 3, 1)] [] (P := True) (by decide +kernel) rfl trivial
            obtain ⟨T10, h10, N10, K10, A10, g10⟩ := avStC K M8.nar A8 (j := (2 : Int32)) (i := 2) (x := d2) rfl (by simp) ha4 (pc := 101) (L := #[.val (.int k), .val (.int d0), .val (.int d1), .val (.int d2), .val (.int d3)]) (S := [(.ref a4), (.ref a2), (.ref a2)]) (by decide +kernel)
            obtain ⟨M10, c10⟩ := M8.back ew N10 (CHr.keep K10 (sfS (av_safe M8.al A8 (by decide)) sf0) M8.ch)
            rw [nar_ch r2] at A10
            have g11 : Ld p e below T10 (mkF m 102 #[.val (.int k), .val (.int d0), .val (.int d1), .val (.int d2), .val (.int d3)] [(.ref a4), (.ref a2), (.ref a2)]) T10 (mkF m 106 #[.val (.int k), .val (.int d0), .val (.int d1), .val (.int d2), .val (.int d3)] [(.int d3), (.int (3 : Int32)), (.ref a4), (.ref a4), (.ref a2), (.ref a2)]) := goRun K (M10.nar) #[] [(102, .dup, 1), (103, .iconst 3, 1), (104, .iload 4, 2)] [] (P := True) (by decide +kernel) rfl trivial
            obtain ⟨T12, h12, N12, K12, A12, g12⟩ := avStC K M10.nar A10 (j := (3 : Int32)) (i := 3) (x := d3) rfl (by simp) ha4 (pc := 106) (L := #[.val (.int k), .val (.int d0), .val (.int d1), .val (.int d2), .val (.int d3)]) (S := [(.ref a4), (.ref a2), (.ref a2)]) (by decide +kernel)
            obtain ⟨M12, c12⟩ := M10.back ew N12 (CHr.keep K12 (sfS (av_safe M10.al A10 (by decide)) sf0) M10.ch)
            rw [nar_ch r3] at A12
            have nas : a2 ≠ a4 := ea4 ▸ Nat.ne_of_lt X2.lt
            have ARs : Av Z h12 a4 .char ([d0, d1, d2, d3].map Value.int) := A12
            have Ss : Safe Z consts_1 T12.vm h12 a2 := (c4.trans (c6.trans (c8.trans (c10.trans c12)))).safe X2.lt (sN2 _ (Nat.le_of_eq ea2.symm))
            have CHs : ∀ c ∈ [d0, d1, d2, d3], Ch c := (fun c hc => by
      simp only [List.mem_cons, List.not_mem_nil, or_false] at hc
      rcases hc with rfl | rfl | rfl | rfl
      · exact r0
      · exact r1
      · exact r2
      · exact r3)
            obtain ⟨v13, T13, h13, N13, ⟨rfl, KCs, ts, hts, Fs⟩, g13⟩ := goSp K M12.nar (a := a2) (tw hw 9 rfl) (tw hw 10 rfl) (tw hw 7 rfl) (tw hw 11 rfl) (con_si hw sf (((((X2.ext E4).keep K6).keep K8).keep K10).keep K12) (((((V2.ext E4).keep K6 (ninS nas nin0)).keep K8 (ninS nas nin0)).keep K10 (ninS nas nin0)).keep K12 (ninS nas nin0)) (((((C2.ext E4).keep K6 (ninS nas nin0)).keep K8 (ninS nas nin0)).keep K10 (ninS nas nin0)).keep K12 (ninS nas nin0)) ARs (by simp) (by simp) CHs ha2 (M12.nar.old O0)) rfl (by decide) (argsL := [(.ref a4)]) (W := 1) (rest := [(.ref a2)]) (by decide) (by decide) (by decide) (by decide) (L := #[.val (.int k), .val (.int d0), .val (.int d1), .val (.int d2), .val (.int d3)]) rfl pd4 rfl (Nat.le_of_eq rfl) (pc := 107) (by decide +kernel)
            obtain ⟨M13, c13⟩ := M12.back ew N13 (CHr.keep KCs (sfS Ss sf0) M12.ch)
            have Ks : Keep h h13 [] := ((((((keep_ext (ws := []) E2).ext E4).trans K6 (allS (Or.inr (Nat.le_trans E2.1 (Nat.le_of_eq ea4.symm))) all0)).trans K8 (allS (Or.inr (Nat.le_trans E2.1 (Nat.le_of_eq ea4.symm))) all0)).trans K10 (allS (Or.inr (Nat.le_trans E2.1 (Nat.le_of_eq ea4.symm))) all0)).trans K12 (allS (Or.inr (Nat.le_trans E2.1 (Nat.le_of_eq ea4.symm))) all0)).trans KCs (allS (Or.inr (Nat.le_of_eq ea2.symm)) all0)
            exact ⟨_, T13, _, h13, _, _, M13, by decide, by decide, fun q => (nomatch q), ⟨_, rfl, Ks, Or.inr ⟨_, _, _, rfl, Fs, by subst z5; rfl⟩⟩, (c2.trans (c4.trans (c6.trans (c8.trans (c10.trans (c12.trans c13)))))), g1.trans (g2.trans (g3.trans (g4.trans (g5.trans (g6.trans (g7.trans (g8.trans (g9.trans (g10.trans (g11.trans (g12.trans g13))))))))))), finA K M13.nar hret rfl rfl rfl (by decide +kernel)⟩
          · by_cases z6 : k = 6
            · have g1 : Ld p e below T (mkF m 0 #[.val (.int k), .val (.int d0), .val (.int d1), .val (.int d2), .val (.int d3)] []) T (mkF m 117 #[.val (.int k), .val (.int d0), .val (.int d1), .val (.int d2), .val (.int d3)] []) := goRun K (N.nar) #[] [(0, .iload_n 0, 1), (1, .iconst 1, 1), (2, .if_icmp .ne 14, 3), (16, .iload_n 0, 1), (17, .iconst 2, 1), (18, .if_icmp .ne 8, 3), (26, .iload_n 0, 1), (27, .iconst 3, 1), (28, .if_icmp .ne 22, 3), (50, .iload_n 0, 1), (51, .iconst 4, 1), (52, .if_icmp .ne 26, 3), (78, .iload_n 0, 1), (79, .iconst 5, 1), (80, .if_icmp .ne 31, 3), (111, .iload_n 0, 1), (112, .bipush 6, 2), (114, .if_icmp .ne 45, 3)] [.ref 0, .ref 0, .ref 0, .ref 0, .ref 0, .null] (P := (¬ k = (1 : Int32)) ∧ (¬ k = (2 : Int32)) ∧ (¬ k = (3 : Int32)) ∧ (¬ k = (4 : Int32)) ∧ (¬ k = (5 : Int32)) ∧ (k = (6 : Int32)) ∧ True) (by decide +kernel) rfl ⟨z1, z2, z3, z4, z5, z6, trivial⟩
              obtain ⟨T2, h2, a2, ea2, N2, E2, X2, D2, g2⟩ := goNew K N.nar (C := "java/lang/String") (tw hw 5 rfl) (tw hw 6 rfl) (tw hw 7 rfl) (pc := 117) (L := #[.val (.int k), .val (.int d0), .val (.int d1), .val (.int d2), .val (.int d3)]) (S := []) (by decide +kernel) (by decide) (by decide)
              have ha2 : n0 ≤ a2 := ea2 ▸ N.nar.size
              obtain ⟨⟨M2, c2⟩, sN2⟩ := N.backE ew N2 E2
              have V2 : Fld Z h2 a2 "java/lang/String" "value" "[B" .null := D2 (Or.inr (tw hw 34 rfl)) (ty := .array .byte) (by decide)
              have C2 : Fld Z h2 a2 "java/lang/String" "coder" "B" (.int 0) := D2 (Or.inr (tw hw 32 rfl)) (ty := .byte) (by decide)
              have g3 : Ld p e below T2 (mkF m 120 #[.val (.int k), .val (.int d0), .val (.int d1), .val (.int d2), .val (.int d3)] [(.ref a2)]) T2 (mkF m 123 #[.val (.int k), .val (.int d0), .val (.int d1), .val (.int d2), .val (.int d3)] [(.int (7 : Int32)), (.ref a2), (.ref a2)]) := goRun K (M2.nar) #[] [(120, .dup, 1), (121, .bipush 7, 2)] [] (P := True) (by decide +kernel) rfl trivial
              have hns : (7 : Int32).toInt = ((7 : Nat) : Int) := rfl
              obtain ⟨T4, h4, a4, cA4, ea4, N4, E4, A4, g4⟩ := goNewP K M2.nar (aty := .char) (tw hw 8 rfl) (n := (7 : Int32)) (not_neg_of hns) (cap := 7) (by rw [clamp_of hns]; omega) (by decide) (by decide) (by decide) (pc := 123) (L := #[.val (.int k), .val (.int d0), .val (.int d1), .val (.int d2), .val (.int d3)]) (S := [(.ref a2), (.ref a2)]) (by decide +kernel)
              have A4 := Av.new A4 (not_neg_of hns) hns
              have ha4 : n0 ≤ a4 := ea4 ▸ M2.nar.size
              obtain ⟨⟨M4, c4⟩, sN4⟩ := M2.backE ew N4 E4
              have g5 : Ld p e below T4 (mkF m 125 #[.val (.int k), .val (.int d0), .val (.int d1), .val (.int d2), .val (.int d3)] [(.ref a4), (.ref a2), (.ref a2)]) T4 (mkF m 128 #[.val (.int k), .val (.int d0), .val (.int d1), .val (.int d2), .val (.int d3)] [(.int d0), (.int (0 : Int32)), (.ref a4), (.ref a4), (.ref a2), (.ref a2)]) := goRun K (M4.nar) #[] [(125, .dup, 1), (126, .iconst 0, 1), (127, .iload_n 1, 1)] [] (P := True) (by decide +kernel) rfl trivial
              obtain ⟨T6, h6, N6, K6, A6, g6⟩ := avStC K M4.nar A4 (j := (0 : Int32)) (i := 0) (x := d0) rfl (by simp) ha4 (pc := 128) (L := #[.val (.int k), .val (.int d0), .val (.int d1), .val (.int d2), .val (.int d3)]) (S := [(.ref a4), (.ref a2), (.ref a2)]) (by decide +kernel)
              obtain ⟨M6, c6⟩ := M4.back ew N6 (CHr.keep K6 (sfS (av_safe M4.al A4 (by decide)) sf0) M4.ch)
              rw [nar_ch r0] at A6
              have g7 : Ld p e below T6 (mkF m 129 #[.val (.int k), .val (.int d0), .val (.int d1), .val (.int d2), .val (.int d3)] [(.ref a4), (.ref a2), (.ref a2)]) T6 (mkF m 132 #[.val (.int k), .val (.int d0), .val (.int d1), .val (.int d2), .val (.int d3)] [(.int d1), (.int (1 : Int32)), (.ref a4), (.ref a4), (.ref a2), (.ref a2)]) := goRun K (M6.nar) #[] [(129, .dup, 1), (130, .iconst 1, 1), (131, .iload_n 2, 1)] [] (P := True) (by decide +kernel) rfl trivial
              obtain ⟨T8, h8, N8, K8, A8, g8⟩ := avStC K M6.nar A6 (j := (1 : Int32)) (i := 1) (x := d1) rfl (by simp) ha4 (pc := 132) (L := #[.val (.int k), .val (.int d0), .val (.int d1), .val (.int d2), .val (.int d3)]) (S := [(.ref a4), (.ref a2), (.ref a2)]) (by decide +kernel)
              obtain ⟨M8, c8⟩ := M6.back ew N8 (CHr.keep K8 (sfS (av_safe M6.al A6 (by decide)) sf0) M6.ch)
              rw [nar_ch r1] at A8
              have g9 : Ld p e below T8 (mkF m 133 #[.val (.int k), .val (.int d0), .val (.int d1), .val (.int d2), .val (.int d3)] [(.ref a4), (.ref a2), (.ref a2)]) T8 (mkF m 136 #[.val (.int k), .val (.int d0), .val (.int d1), .val (.int d2), .val (.int d3)] [(.int d2), (.int (2 : Int32)), (.ref a4), (.ref a4), (.ref a2), (.ref a2)]) := goRun K (M8.nar) #[] [(133, .dup, 1), (134, .iconst 2, 1), (135, .iload_n 3, 1)] [] (P := True) (by decide +kernel) rfl trivial
              obtain ⟨T10, h10, N10, K10, A10, g10⟩ := avStC K M8.nar A8 (j := (2 : Int32)) (i := 2) (x := d2) rfl (by simp) ha4 (pc := 136) (L := #[.val (.int k), .val (.int d0), .val (.int d1), .val (.int d2), .val (.int d3)]) (S := [(.ref a4), (.ref a2), (.ref a2)]) (by decide +kernel)
              obtain ⟨M10, c10⟩ := M8.back ew N10 (CHr.keep K10 (sfS (av_safe M8.al A8 (by decide)) sf0) M8.ch)
              rw [nar_ch r2] at A10
              have g11 : Ld p e below T10 (mkF m 137 #[.val (.int k), .val (.int d0), .val (.int d1), .val (.int d2), .val (.int d3)] [(.ref a4), (.ref a2), (.ref a2)]) T10 (mkF m 141 #[.val (.int k), .val (.int d0), .val (.int d1), .val (.int d2), .val (.int d3)] [(.int d3), (.int (3 : Int32)), (.ref a4), (.ref a4), (.ref a2), (.ref a2)]) := goRun K (M10.nar) #[] [(137, .dup, 1), (138, .iconst 3, 1), (139, .iload 4, 2)] [] (P := True) (by decide +kernel) rfl trivial
              obtain ⟨T12, h12, N12, K12, A12, g12⟩ := avStC K M10.nar A10 (j := (3 : Int32)) (i := 3) (x := d3) rfl (by simp) ha4 (pc := 141) (L := #[.val (.int k), .val (.int d0), .val (.int d1), .val (.int d2), .val (.int d3)]) (S := [(.ref a4), (.ref a2), (.ref a2)]) (by decide +kernel)
              obtain ⟨M12, c12⟩ := M10.back ew N12 (CHr.keep K12 (sfS (av_safe M10.al A10 (by decide)) sf0) M10.ch)
              rw [nar_ch r3] at A12
              have g13 : Ld p e below T12 (mkF m 142 #[.val (.int k), .val (.int d0), .val (.int d1), .val (.int d2), .val (.int d3)] [(.ref a4), (.ref a2), (.ref a2)]) T12 (mkF m 145 #[.val (.int k), .val (.int d0), .val (.int d1), .val (.int d2), .val (.int d3)] [(.int d0), (.int (4 : Int32)), (.ref a4), (.ref a4), (.ref a2), (.ref a2)]) := goRun K (M12.nar) #[] [(142, .dup, 1), (143, .iconst 4, 1), (144, .iload_n 1, 1)] [] (P := True) (by decide +kernel) rfl trivial
              obtain ⟨T14, h14, N14, K14, A14, g14⟩ := avStC K M12.nar A12 (j := (4 : Int32)) (i := 4) (x := d0) rfl (by simp) ha4 (pc := 145) (L := #[.val (.int k), .val (.int d0), .val (.int d1), .val (.int d2), .val (.int d3)]) (S := [(.ref a4), (.ref a2), (.ref a2)]) (by decide +kernel)
              obtain ⟨M14, c14⟩ := M12.back ew N14 (CHr.keep K14 (sfS (av_safe M12.al A12 (by decide)) sf0) M12.ch)
              rw [nar_ch r0] at A14
              have g15 : Ld p e below T14 (mkF m 146 #[.val (.int k), .val (.int d0), .val (.int d1), .val (.int d2), .val (.int d3)] [(.ref a4), (.ref a2), (.ref a2)]) T14 (mkF m 149 #[.val (.int k), .val (.int d0), .val (.int d1), .val (.int d2), .val (.int d3)] [(.int d1), (.int (5 : Int32)), (.ref a4), (.ref a4), (.ref a2), (.ref a2)]) := goRun K (M14.nar) #[] [(146, .dup, 1), (147, .iconst 5, 1), (148, .iload_n 2, 1)] [] (P := True) (by decide +kernel) rfl trivial
              obtain ⟨T16, h16, N16, K16, A16, g16⟩ := avStC K M14.nar A14 (j := (5 : Int32)) (i := 5) (x := d1) rfl (by simp) ha4 (pc := 149) (L := #[.val (.int k), .val (.int d0), .val (.int d1), .val (.int d2), .val (.int d3)]) (S := [(.ref a4), (.ref a2), (.ref a2)]) (by decide +kernel)
              obtain ⟨M16, c16⟩ := M14.back ew N16 (CHr.keep K16 (sfS (av_safe M14.al A14 (by decide)) sf0) M14.ch)
              rw [nar_ch r1] at A16
              have g17 : Ld p e below T16 (mkF m 150 #[.val (.int k), .val (.int d0), .val (.int d1), .val (.int d2), .val (.int d3)] [(.ref a4), (.ref a2), (.ref a2)]) T16 (mkF m 154 #[.val (.int k), .val (.int d0), .val (.int d1), .val (.int d2), .val (.int d3)] [(.int d2), (.int (6 : Int32)), (.ref a4), (.ref a4), (.ref a2), (.ref a2)]) := goRun K (M16.nar) #[] [(150, .dup, 1), (151, .bipush 6, 2), (153, .iload_n 3, 1)] [] (P := True) (by decide +kernel) rfl trivial
              obtain ⟨T18, h18, N18, K18, A18, g18⟩ := avStC K M16.nar A16 (j := (6 : Int32)) (i := 6) (x := d2) rfl (by simp) ha4 (pc := 154) (L := #[.val (.int k), .val (.int d0), .val (.int d1), .val (.int d2), .val (.int d3)]) (S := [(.ref a4), (.ref a2), (.ref a2)]) (by decide +kernel)
              obtain ⟨M18, c18⟩ := M16.back ew N18 (CHr.keep K18 (sfS (av_safe M16.al A16 (by decide)) sf0) M16.ch)
              rw [nar_ch r2] at A18
              have nas : a2 ≠ a4 := ea4 ▸ Nat.ne_of_lt X2.lt
              have ARs : Av Z h18 a4 .char ([d0, d1, d2, d3, d0, d1, d2].map Value.int) := A18
              have Ss : Safe Z consts_1 T18.vm h18 a2 := (c4.trans (c6.trans (c8.trans (c10.trans (c12.trans (c14.trans (c16.trans c18))))))).safe X2.lt (sN2 _ (Nat.le_of_eq ea2.symm))
              have CHs : ∀ c ∈ [d0, d1, d2, d3, d0, d1, d2], Ch c := (fun c hc => by
      simp only [List.mem_cons, List.not_mem_nil, or_false] at hc
      rcases hc with rfl | rfl | rfl | rfl | rfl | rfl | rfl
      · exact r0
      · exact r1
      · exact r2
      · exact r3
      · exact r0
      · exact r1
      · exact r2)
              obtain ⟨v19, T19, h19, N19, ⟨rfl, KCs, ts, hts, Fs⟩, g19⟩ := goSp K M18.nar (a := a2) (tw hw 9 rfl) (tw hw 10 rfl) (tw hw 7 rfl) (tw hw 11 rfl) (con_si hw sf ((((((((X2.ext E4).keep K6).keep K8).keep K10).keep K12).keep K14).keep K16).keep K18) ((((((((V2.ext E4).keep K6 (ninS nas nin0)).keep K8 (ninS nas nin0)).keep K10 (ninS nas nin0)).keep K12 (ninS nas nin0)).keep K14 (ninS nas nin0)).keep K16 (ninS nas nin0)).keep K18 (ninS nas nin0)) ((((((((C2.ext E4).keep K6 (ninS nas nin0)).keep K8 (ninS nas nin0)).keep K10 (ninS nas nin0)).keep K12 (ninS nas nin0)).keep K14 (ninS nas nin0)).keep K16 (ninS nas nin0)).keep K18 (ninS nas nin0)) ARs (by simp) (by simp) CHs ha2 (M18.nar.old O0)) rfl (by decide) (argsL := [(.ref a4)]) (W := 1) (rest := [(.ref a2)]) (by decide) (by decide) (by decide) (by decide) (L := #[.val (.int k), .val (.int d0), .val (.int d1), .val (.int d2), .val (.int d3)]) rfl pd4 rfl (Nat.le_of_eq rfl) (pc := 155) (by decide +kernel)
              obtain ⟨M19, c19⟩ := M18.back ew N19 (CHr.keep KCs (sfS Ss sf0) M18.ch)
              have Ks : Keep h h19 [] := (((((((((keep_ext (ws := []) E2).ext E4).trans K6 (allS (Or.inr (Nat.le_trans E2.1 (Nat.le_of_eq ea4.symm))) all0)).trans K8 (allS (Or.inr (Nat.le_trans E2.1 (Nat.le_of_eq ea4.symm))) all0)).trans K10 (allS (Or.inr (Nat.le_trans E2.1 (Nat.le_of_eq ea4.symm))) all0)).trans K12 (allS (Or.inr (Nat.le_trans E2.1 (Nat.le_of_eq ea4.symm))) all0)).trans K14 (allS (Or.inr (Nat.le_trans E2.1 (Nat.le_of_eq ea4.symm))) all0)).trans K16 (allS (Or.inr (Nat.le_trans E2.1 (Nat.le_of_eq ea4.symm))) all0)).trans K18 (allS (Or.inr (Nat.le_trans E2.1 (Nat.le_of_eq ea4.symm))) all0)).trans KCs (allS (Or.inr (Nat.le_of_eq ea2.symm)) all0)
              exact ⟨_, T19, _, h19, _, _, M19, by decide, by decide, fun q => (nomatch q), ⟨_, rfl, Ks, Or.inr ⟨_, _, _, rfl, Fs, by subst z6; rfl⟩⟩, (c2.trans (c4.trans (c6.trans (c8.trans (c10.trans (c12.trans (c14.trans (c16.trans (c18.trans c19))))))))), g1.trans (g2.trans (g3.trans (g4.trans (g5.trans (g6.trans (g7.trans (g8.trans (g9.trans (g10.trans (g11.trans (g12.trans (g13.trans (g14.trans (g15.trans (g16.trans (g17.trans (g18.trans g19))))))))))))))))), finA K M19.nar hret rfl rfl rfl (by decide +kernel)⟩
            · have g1 : Ld p e below T (mkF m 0 #[.val (.int k), .val (.int d0), .val (.int d1), .val (.int d2), .val (.int d3)] []) T (mkF m 160 #[.val (.int k), .val (.int d0), .val (.int d1), .val (.int d2), .val (.int d3)] [(.null)]) := goRun K (N.nar) #[] [(0, .iload_n 0, 1), (1, .iconst 1, 1), (2, .if_icmp .ne 14, 3), (16, .iload_n 0, 1), (17, .iconst 2, 1), (18, .if_icmp .ne 8, 3), (26, .iload_n 0, 1), (27, .iconst 3, 1), (28, .if_icmp .ne 22, 3), (50, .iload_n 0, 1), (51, .iconst 4, 1), (52, .if_icmp .ne 26, 3), (78, .iload_n 0, 1), (79, .iconst 5, 1), (80, .if_icmp .ne 31, 3), (111, .iload_n 0, 1), (112, .bipush 6, 2), (114, .if_icmp .ne 45, 3), (159, .aconst_null, 1)] [.ref 0, .ref 0, .ref 0, .ref 0, .ref 0, .ref 0] (P := (¬ k = (1 : Int32)) ∧ (¬ k = (2 : Int32)) ∧ (¬ k = (3 : Int32)) ∧ (¬ k = (4 : Int32)) ∧ (¬ k = (5 : Int32)) ∧ (¬ k = (6 : Int32)) ∧ True) (by decide +kernel) rfl ⟨z1, z2, z3, z4, z5, z6, trivial⟩
              exact ⟨_, T, _, h, _, _, N, by decide, by decide, fun q => (nomatch q), ⟨_, rfl, Keep.refl _ _, Or.inl ⟨rfl, by simp only [wtv, z1, z2, z3, z4, z5, z6, if_false]⟩⟩, (CHr.refl N.ch), g1, finA K N.nar hret rfl rfl rfl (by decide +kernel)⟩
set_option maxHeartbeats 1000000 in
theorem tx_loop (hw : ∀ d ∈ tables_1, d.before a0 Z = true) {z : Int32} {fm : Value} (sf : SF Z z fm) (K : Cx Z "com/example/admit/admit/application/KeptBytes" prog_18_method_3_code 6 p m c) {ar : Addr} {vs : List Value} {ws : List Nat} (A : Av Z h ar (.object "java/lang/String") vs) (hW : ∀ (i : Nat) (v : Value), vs[i]? = some v → ∃ w, ws[i]? = some w ∧ Wt Z h v w) (hl : vs.length ≤ 3) (hlw : ws.length = vs.length) (hret : meth.sig.returnType = some .int) (hRf : 2 ≤ R.frames) (hRl : 53 ≤ R.locals) (hRc : cells ≤ R.cells) (hRs : slots ≤ R.slots) (O0 : Old Z n0 s.heap) : ∀ (k i S : Nat) (q5 : Slot) (T : State), i + k = vs.length → OneR q5 → Nw Z n0 h p l e R s m args below meth c T cells slots →
    ∃ T' g', Nw Z n0 h p l e R s m args below meth c T' cells slots ∧ Ld p e below T (mkF m 10 #[.val (.ref ar), .val (.int (Int32.ofNat S)), .val (.ref ar), .val (.int (Int32.ofNat vs.length)), .val (.int (Int32.ofNat i)), q5] []) T' g' ∧ Fn p e below m T' g' (some (.int (Int32.ofNat (S + (ws.drop i).sum)))) := by
  intro k
  induction k with
  | zero =>
    intro i S q5 T hi h5 N
    have g1 : Ld p e below T (mkF m 10 #[.val (.ref ar), .val (.int (Int32.ofNat S)), .val (.ref ar), .val (.int (Int32.ofNat vs.length)), .val (.int (Int32.ofNat i)), q5] []) T (mkF m 47 #[.val (.ref ar), .val (.int (Int32.ofNat S)), .val (.ref ar), .val (.int (Int32.ofNat vs.length)), .val (.int (Int32.ofNat i)), q5] [(.int (Int32.ofNat S))]) := goRun K N #[] [(10, .iload 4, 2), (12, .iload_n 3, 1), (13, .if_icmp .ge 33, 3), (46, .iload_n 1, 1)] [.ref 0] (P := (¬ (Int32.ofNat i) < (Int32.ofNat vs.length)) ∧ True) (by decide +kernel) rfl ⟨(by rw [n_lt (by omega) (by omega)]; omega), trivial⟩
    rw [List.drop_eq_nil_of_le (by omega), List.sum_nil, Nat.add_zero]
    exact ⟨T, _, N, g1, finI K N hret (by decide +kernel)⟩
  | succ k ih =>
    intro i S q5 T hi h5 N
    obtain ⟨v, hv⟩ : ∃ v, vs[i]? = some v := ⟨vs[i]'(by omega), List.getElem?_eq_getElem (by omega)⟩
    obtain ⟨w, hw', F⟩ := hW i v hv
    have hlt : Int32.ofNat i < Int32.ofNat vs.length := (n_lt (by omega) (by omega)).mpr (by omega)
    have hrd : ∃ ty : FieldType, ty.isReference = true ∧ Rd Z h ar ty (Int32.ofNat i) v := ⟨_, rfl, A.rd (n_ti (by omega)) hv⟩
    have hdr : (ws.drop i).sum = w + (ws.drop (i + 1)).sum := by
      obtain ⟨h1, h2⟩ := List.getElem?_eq_some_iff.mp hw'
      rw [List.drop_eq_getElem_cons h1, List.sum_cons, h2]
    rw [hdr]
    rcases F with ⟨rfl, rfl⟩ | ⟨b', t', cs, rfl, F, rfl⟩
    · rcases h5 with rfl | rfl | ⟨b5, rfl⟩
      · have g1 : Ld p e below T (mkF m 10 #[.val (.ref ar), .val (.int (Int32.ofNat S)), .val (.ref ar), .val (.int (Int32.ofNat vs.length)), .val (.int (Int32.ofNat i)), .unset] []) T (mkF m 10 #[.val (.ref ar), .val (.int (Int32.ofNat S)), .val (.ref ar), .val (.int (Int32.ofNat vs.length)), .val (.int ((Int32.ofNat i) + (1 : Int32))), .val (.null)] []) := goRun K N #[] [(10, .iload 4, 2), (12, .iload_n 3, 1), (13, .if_icmp .ge 33, 3), (16, .aload_n 2, 1), (17, .iload 4, 2), (19, .aaload, 1), (20, .astore 5, 2), (22, .aload 5, 2), (24, .ifnull 16, 3), (40, .iinc 4 1, 3), (43, .goto (-33), 3)] [.null, .null] (P := ((Int32.ofNat i) < (Int32.ofNat vs.length)) ∧ (∃ ty, ty.isReference = true ∧ Rd Z h ar ty (Int32.ofNat i) (.null)) ∧ True) (by decide +kernel) rfl ⟨hlt, hrd, trivial⟩
        rw [n_one] at g1
        obtain ⟨T9, g', N9, g9, f9⟩ := ih (i + 1) S _ T (by omega) (Or.inr (Or.inl rfl)) N
        exact ⟨T9, g', N9, g1.trans g9, by rw [Nat.zero_add]; exact f9⟩
      · have g1 : Ld p e below T (mkF m 10 #[.val (.ref ar), .val (.int (Int32.ofNat S)), .val (.ref ar), .val (.int (Int32.ofNat vs.length)), .val (.int (Int32.ofNat i)), .val (.null)] []) T (mkF m 10 #[.val (.ref ar), .val (.int (Int32.ofNat S)), .val (.ref ar), .val (.int (Int32.ofNat vs.length)), .val (.int ((Int32.ofNat i) + (1 : Int32))), .val (.null)] []) := goRun K N #[] [(10, .iload 4, 2), (12, .iload_n 3, 1), (13, .if_icmp .ge 33, 3), (16, .aload_n 2, 1), (17, .iload 4, 2), (19, .aaload, 1), (20, .astore 5, 2), (22, .aload 5, 2), (24, .ifnull 16, 3), (40, .iinc 4 1, 3), (43, .goto (-33), 3)] [.null, .null] (P := ((Int32.ofNat i) < (Int32.ofNat vs.length)) ∧ (∃ ty, ty.isReference = true ∧ Rd Z h ar ty (Int32.ofNat i) (.null)) ∧ True) (by decide +kernel) rfl ⟨hlt, hrd, trivial⟩
        rw [n_one] at g1
        obtain ⟨T9, g', N9, g9, f9⟩ := ih (i + 1) S _ T (by omega) (Or.inr (Or.inl rfl)) N
        exact ⟨T9, g', N9, g1.trans g9, by rw [Nat.zero_add]; exact f9⟩
      · have g1 : Ld p e below T (mkF m 10 #[.val (.ref ar), .val (.int (Int32.ofNat S)), .val (.ref ar), .val (.int (Int32.ofNat vs.length)), .val (.int (Int32.ofNat i)), .val (.ref b5)] []) T (mkF m 10 #[.val (.ref ar), .val (.int (Int32.ofNat S)), .val (.ref ar), .val (.int (Int32.ofNat vs.length)), .val (.int ((Int32.ofNat i) + (1 : Int32))), .val (.null)] []) := goRun K N #[] [(10, .iload 4, 2), (12, .iload_n 3, 1), (13, .if_icmp .ge 33, 3), (16, .aload_n 2, 1), (17, .iload 4, 2), (19, .aaload, 1), (20, .astore 5, 2), (22, .aload 5, 2), (24, .ifnull 16, 3), (40, .iinc 4 1, 3), (43, .goto (-33), 3)] [.null, .null] (P := ((Int32.ofNat i) < (Int32.ofNat vs.length)) ∧ (∃ ty, ty.isReference = true ∧ Rd Z h ar ty (Int32.ofNat i) (.null)) ∧ True) (by decide +kernel) rfl ⟨hlt, hrd, trivial⟩
        rw [n_one] at g1
        obtain ⟨T9, g', N9, g9, f9⟩ := ih (i + 1) S _ T (by omega) (Or.inr (Or.inl rfl)) N
        exact ⟨T9, g', N9, g1.trans g9, by rw [Nat.zero_add]; exact f9⟩
    · rcases h5 with rfl | rfl | ⟨b5, rfl⟩
      · have g1 : Ld p e below T (mkF m 10 #[.val (.ref ar), .val (.int (Int32.ofNat S)), .val (.ref ar), .val (.int (Int32.ofNat vs.length)), .val (.int (Int32.ofNat i)), .unset] []) T (mkF m 33 #[.val (.ref ar), .val (.int (Int32.ofNat S)), .val (.ref ar), .val (.int (Int32.ofNat vs.length)), .val (.int (Int32.ofNat i)), .val (.ref b')] [(.ref b'), (.int (2 : Int32)), (.int (40 : Int32)), (.int (Int32.ofNat S))]) := goRun K N #[] [(10, .iload 4, 2), (12, .iload_n 3, 1), (13, .if_icmp .ge 33, 3), (16, .aload_n 2, 1), (17, .iload 4, 2), (19, .aaload, 1), (20, .astore 5, 2), (22, .aload 5, 2), (24, .ifnull 16, 3), (27, .iload_n 1, 1), (28, .bipush 40, 2), (30, .iconst 2, 1), (31, .aload 5, 2)] [.null, .ref b'] (P := ((Int32.ofNat i) < (Int32.ofNat vs.length)) ∧ (∃ ty, ty.isReference = true ∧ Rd Z h ar ty (Int32.ofNat i) (.ref b')) ∧ True) (by decide +kernel) rfl ⟨hlt, hrd, trivial⟩
        obtain ⟨v2, T2, _, N2, ⟨rfl, rfl⟩, g2⟩ := goVi K N (a := b') F.1 (tw hw 57 rfl) (tw hw 58 rfl) (tw hw 60 rfl) (tw hw 59 rfl) (tw hw 7 rfl) (tw hw 61 rfl) (con_len hw sf F (N.old O0)) (argsL := []) (W := 3) (rest := [(.int (2 : Int32)), (.int (40 : Int32)), (.int (Int32.ofNat S))]) (by decide) (Nat.le_trans (by decide) hRf) (Nat.le_trans (by decide) hRl) (by simpa using hRc) (by simpa using hRs) (L := #[.val (.ref ar), .val (.int (Int32.ofNat S)), .val (.ref ar), .val (.int (Int32.ofNat vs.length)), .val (.int (Int32.ofNat i)), .val (.ref b')]) rfl pd10 rfl (Nat.le_of_eq rfl) (pc := 33) (by decide +kernel)
        have g3 : Ld p e below T2 (mkF m 36 #[.val (.ref ar), .val (.int (Int32.ofNat S)), .val (.ref ar), .val (.int (Int32.ofNat vs.length)), .val (.int (Int32.ofNat i)), .val (.ref b')] [(.int (Int32.ofNat cs.length)), (.int (2 : Int32)), (.int (40 : Int32)), (.int (Int32.ofNat S))]) T2 (mkF m 10 #[.val (.ref ar), .val (.int ((Int32.ofNat S) + ((40 : Int32) + ((2 : Int32) * (Int32.ofNat cs.length))))), .val (.ref ar), .val (.int (Int32.ofNat vs.length)), .val (.int ((Int32.ofNat i) + (1 : Int32))), .val (.ref b')] []) := goRun K N2 #[] [(36, .imul, 1), (37, .iadd, 1), (38, .iadd, 1), (39, .istore_n 1, 1), (40, .iinc 4 1, 3), (43, .goto (-33), 3)] [] (P := True) (by decide +kernel) rfl trivial
        rw [n_one, tx_step] at g3
        obtain ⟨T9, g', N9, g9, f9⟩ := ih (i + 1) (S + (40 + 2 * cs.length)) _ T2 (by omega) (Or.inr (Or.inr ⟨_, rfl⟩)) N2
        exact ⟨T9, g', N9, g1.trans (g2.trans (g3.trans g9)), by rw [← Nat.add_assoc]; exact f9⟩
      · have g1 : Ld p e below T (mkF m 10 #[.val (.ref ar), .val (.int (Int32.ofNat S)), .val (.ref ar), .val (.int (Int32.ofNat vs.length)), .val (.int (Int32.ofNat i)), .val (.null)] []) T (mkF m 33 #[.val (.ref ar), .val (.int (Int32.ofNat S)), .val (.ref ar), .val (.int (Int32.ofNat vs.length)), .val (.int (Int32.ofNat i)), .val (.ref b')] [(.ref b'), (.int (2 : Int32)), (.int (40 : Int32)), (.int (Int32.ofNat S))]) := goRun K N #[] [(10, .iload 4, 2), (12, .iload_n 3, 1), (13, .if_icmp .ge 33, 3), (16, .aload_n 2, 1), (17, .iload 4, 2), (19, .aaload, 1), (20, .astore 5, 2), (22, .aload 5, 2), (24, .ifnull 16, 3), (27, .iload_n 1, 1), (28, .bipush 40, 2), (30, .iconst 2, 1), (31, .aload 5, 2)] [.null, .ref b'] (P := ((Int32.ofNat i) < (Int32.ofNat vs.length)) ∧ (∃ ty, ty.isReference = true ∧ Rd Z h ar ty (Int32.ofNat i) (.ref b')) ∧ True) (by decide +kernel) rfl ⟨hlt, hrd, trivial⟩
        obtain ⟨v2, T2, _, N2, ⟨rfl, rfl⟩, g2⟩ := goVi K N (a := b') F.1 (tw hw 57 rfl) (tw hw 58 rfl) (tw hw 60 rfl) (tw hw 59 rfl) (tw hw 7 rfl) (tw hw 61 rfl) (con_len hw sf F (N.old O0)) (argsL := []) (W := 3) (rest := [(.int (2 : Int32)), (.int (40 : Int32)), (.int (Int32.ofNat S))]) (by decide) (Nat.le_trans (by decide) hRf) (Nat.le_trans (by decide) hRl) (by simpa using hRc) (by simpa using hRs) (L := #[.val (.ref ar), .val (.int (Int32.ofNat S)), .val (.ref ar), .val (.int (Int32.ofNat vs.length)), .val (.int (Int32.ofNat i)), .val (.ref b')]) rfl pd10 rfl (Nat.le_of_eq rfl) (pc := 33) (by decide +kernel)
        have g3 : Ld p e below T2 (mkF m 36 #[.val (.ref ar), .val (.int (Int32.ofNat S)), .val (.ref ar), .val (.int (Int32.ofNat vs.length)), .val (.int (Int32.ofNat i)), .val (.ref b')] [(.int (Int32.ofNat cs.length)), (.int (2 : Int32)), (.int (40 : Int32)), (.int (Int32.ofNat S))]) T2 (mkF m 10 #[.val (.ref ar), .val (.int ((Int32.ofNat S) + ((40 : Int32) + ((2 : Int32) * (Int32.ofNat cs.length))))), .val (.ref ar), .val (.int (Int32.ofNat vs.length)), .val (.int ((Int32.ofNat i) + (1 : Int32))), .val (.ref b')] []) := goRun K N2 #[] [(36, .imul, 1), (37, .iadd, 1), (38, .iadd, 1), (39, .istore_n 1, 1), (40, .iinc 4 1, 3), (43, .goto (-33), 3)] [] (P := True) (by decide +kernel) rfl trivial
        rw [n_one, tx_step] at g3
        obtain ⟨T9, g', N9, g9, f9⟩ := ih (i + 1) (S + (40 + 2 * cs.length)) _ T2 (by omega) (Or.inr (Or.inr ⟨_, rfl⟩)) N2
        exact ⟨T9, g', N9, g1.trans (g2.trans (g3.trans g9)), by rw [← Nat.add_assoc]; exact f9⟩
      · have g1 : Ld p e below T (mkF m 10 #[.val (.ref ar), .val (.int (Int32.ofNat S)), .val (.ref ar), .val (.int (Int32.ofNat vs.length)), .val (.int (Int32.ofNat i)), .val (.ref b5)] []) T (mkF m 33 #[.val (.ref ar), .val (.int (Int32.ofNat S)), .val (.ref ar), .val (.int (Int32.ofNat vs.length)), .val (.int (Int32.ofNat i)), .val (.ref b')] [(.ref b'), (.int (2 : Int32)), (.int (40 : Int32)), (.int (Int32.ofNat S))]) := goRun K N #[] [(10, .iload 4, 2), (12, .iload_n 3, 1), (13, .if_icmp .ge 33, 3), (16, .aload_n 2, 1), (17, .iload 4, 2), (19, .aaload, 1), (20, .astore 5, 2), (22, .aload 5, 2), (24, .ifnull 16, 3), (27, .iload_n 1, 1), (28, .bipush 40, 2), (30, .iconst 2, 1), (31, .aload 5, 2)] [.null, .ref b'] (P := ((Int32.ofNat i) < (Int32.ofNat vs.length)) ∧ (∃ ty, ty.isReference = true ∧ Rd Z h ar ty (Int32.ofNat i) (.ref b')) ∧ True) (by decide +kernel) rfl ⟨hlt, hrd, trivial⟩
        obtain ⟨v2, T2, _, N2, ⟨rfl, rfl⟩, g2⟩ := goVi K N (a := b') F.1 (tw hw 57 rfl) (tw hw 58 rfl) (tw hw 60 rfl) (tw hw 59 rfl) (tw hw 7 rfl) (tw hw 61 rfl) (con_len hw sf F (N.old O0)) (argsL := []) (W := 3) (rest := [(.int (2 : Int32)), (.int (40 : Int32)), (.int (Int32.ofNat S))]) (by decide) (Nat.le_trans (by decide) hRf) (Nat.le_trans (by decide) hRl) (by simpa using hRc) (by simpa using hRs) (L := #[.val (.ref ar), .val (.int (Int32.ofNat S)), .val (.ref ar), .val (.int (Int32.ofNat vs.length)), .val (.int (Int32.ofNat i)), .val (.ref b')]) rfl pd10 rfl (Nat.le_of_eq rfl) (pc := 33) (by decide +kernel)
        have g3 : Ld p e below T2 (mkF m 36 #[.val (.ref ar), .val (.int (Int32.ofNat S)), .val (.ref ar), .val (.int (Int32.ofNat vs.length)), .val (.int (Int32.ofNat i)), .val (.ref b')] [(.int (Int32.ofNat cs.length)), (.int (2 : Int32)), (.int (40 : Int32)), (.int (Int32.ofNat S))]) T2 (mkF m 10 #[.val (.ref ar), .val (.int ((Int32.ofNat S) + ((40 : Int32) + ((2 : Int32) * (Int32.ofNat cs.length))))), .val (.ref ar), .val (.int (Int32.ofNat vs.length)), .val (.int ((Int32.ofNat i) + (1 : Int32))), .val (.ref b')] []) := goRun K N2 #[] [(36, .imul, 1), (37, .iadd, 1), (38, .iadd, 1), (39, .istore_n 1, 1), (40, .iinc 4 1, 3), (43, .goto (-33), 3)] [] (P := True) (by decide +kernel) rfl trivial
        rw [n_one, tx_step] at g3
        obtain ⟨T9, g', N9, g9, f9⟩ := ih (i + 1) (S + (40 + 2 * cs.length)) _ T2 (by omega) (Or.inr (Or.inr ⟨_, rfl⟩)) N2
        exact ⟨T9, g', N9, g1.trans (g2.trans (g3.trans g9)), by rw [← Nat.add_assoc]; exact f9⟩
set_option maxHeartbeats 1000000 in
theorem con_tx (hw : ∀ d ∈ tables_1, d.before a0 Z = true) {z : Int32} {fm : Value} (sf : SF Z z fm) {ar : Addr} {vs : List Value} {ws : List Nat} (A : Av Z h ar (.object "java/lang/String") vs) (hW : ∀ (i : Nat) (v : Value), vs[i]? = some v → ∃ w, ws[i]? = some w ∧ Wt Z h v w) (hl : vs.length ≤ 3) (hlw : ws.length = vs.length) (O : Old Z n0 h) : Con l Z n0 ⟨"com/example/admit/admit/application/KeptBytes", "texts", "([Ljava/lang/String;)I"⟩ prog_18_method_3_code 6 (some (.int)) [] ({ frames := 2, cells := 0, slots := 0, locals := 53 } : Room) #[.ref ar] h (fun v h' => v = some (.int (Int32.ofNat ws.sum)) ∧ h = h') := by
  refine Con.ofH (plainFor_of_name pn4) (L0 := #[.val (.ref ar), .unset, .unset, .unset, .unset, .unset]) (fun m => by first | (simp [entryFrame, mkF, argsToLocals, Value.category]; done) | rfl) ?_
  intro p e s m below meth c T K hret hnm N hs
  have O0 : Old Z n0 s.heap := by rw [hs]; exact O
  have g1 : Ld p e below T (mkF m 0 #[.val (.ref ar), .unset, .unset, .unset, .unset, .unset] []) T (mkF m 10 #[.val (.ref ar), .val (.int (0 : Int32)), .val (.ref ar), .val (.int (Int32.ofNat vs.length)), .val (.int (0 : Int32)), .unset] []) := goRun K N #[] [(0, .iconst 0, 1), (1, .istore_n 1, 1), (2, .aload_n 0, 1), (3, .astore_n 2, 1), (4, .aload_n 2, 1), (5, .arraylength, 1), (6, .istore_n 3, 1), (7, .iconst 0, 1), (8, .istore 4, 2)] [.int (Int32.ofNat vs.length)] (P := (Ln Z h ar (Int32.ofNat vs.length)) ∧ True) (by decide +kernel) rfl ⟨(A.ln (n_ti (by omega))), trivial⟩
  obtain ⟨T9, g', N9, g9, f9⟩ := tx_loop hw sf K A hW hl hlw hret (by decide) (by decide) (by decide) (by decide) O0 vs.length 0 0 _ T (by omega) (Or.inl rfl) N
  rw [List.drop_zero, Nat.zero_add] at f9
  exact ⟨_, T9, g', h, _, _, N9, by decide, by decide, fun q => (nomatch q), ⟨rfl, rfl⟩, g1.trans g9, f9⟩
set_option maxHeartbeats 4000000 in
theorem con_law (hw : ∀ d ∈ tables_1, d.before a0 Z = true) {z : Int32} {fm : Value} (sf : SF Z z fm) (p0 p1 p2 p3 p4 p5 : Int32) (O : Old Z n0 h) (ws : List Jvm.Cond) : ConW l Z consts_1 n0 x code maxLocals ret ws room_1 #[.int p0, .int p1, .int p2, .int p3, .int p4, .int p5] h [] (fun v _ => v = some (.int 1)) := by
  have ew := ew0 hw
  refine ConW.of pn3 (L0 := #[.val (.int p0), .val (.int p1), .val (.int p2), .val (.int p3), .val (.int p4), .val (.int p5), .unset, .unset, .unset, .unset, .unset, .unset, .unset, .unset, .unset, .unset, .unset, .unset, .unset]) (fun m => by first | (simp [entryFrame, mkF, argsToLocals, Value.category, maxLocals]; done) | rfl) ?_
  intro p e s m below meth c T K hret hnm N hsf hs
  have K : Cx Z "com/example/admit/admit/application/KeptBytesTextsPinLaw" code maxLocals p m c := K
  have O0 : Old Z n0 s.heap := by rw [hs]; exact O
  have g1 : Ld p e below T (mkF m 0 #[.val (.int p0), .val (.int p1), .val (.int p2), .val (.int p3), .val (.int p4), .val (.int p5), .unset, .unset, .unset, .unset, .unset, .unset, .unset, .unset, .unset, .unset, .unset, .unset, .unset] []) T (mkF m 66 #[.val (.int p0), .val (.int p1), .val (.int p2), .val (.int p3), .val (.int p4), .val (.int p5), .val (.int ((p4 &&& (65535 : Int32)).toUInt32.toUInt16.toUInt32.toInt32)), .val (.int (((XT.ushr p4 (16 : Int32)) &&& (65535 : Int32)).toUInt32.toUInt16.toUInt32.toInt32)), .val (.int ((p5 &&& (65535 : Int32)).toUInt32.toUInt16.toUInt32.toInt32)), .val (.int (((XT.ushr p5 (16 : Int32)) &&& (65535 : Int32)).toUInt32.toUInt16.toUInt32.toInt32)), .val (.int (p1 &&& (7 : Int32))), .val (.int (p2 &&& (7 : Int32))), .val (.int (p3 &&& (7 : Int32))), .unset, .unset, .unset, .unset, .unset, .unset] [(.int (((XT.ushr p5 (16 : Int32)) &&& (65535 : Int32)).toUInt32.toUInt16.toUInt32.toInt32)), (.int ((p5 &&& (65535 : Int32)).toUInt32.toUInt16.toUInt32.toInt32)), (.int (((XT.ushr p4 (16 : Int32)) &&& (65535 : Int32)).toUInt32.toUInt16.toUInt32.toInt32)), (.int ((p4 &&& (65535 : Int32)).toUInt32.toUInt16.toUInt32.toInt32)), (.int (p1 &&& (7 : Int32)))]) := goRun K (N.nar) a0 [(0, .iload 4, 2), (2, .ldc 18, 2), (4, .iand, 1), (5, .i2c, 1), (6, .istore 6, 2), (8, .iload 4, 2), (10, .bipush 16, 2), (12, .iushr, 1), (13, .ldc 18, 2), (15, .iand, 1), (16, .i2c, 1), (17, .istore 7, 2), (19, .iload 5, 2), (21, .ldc 18, 2), (23, .iand, 1), (24, .i2c, 1), (25, .istore 8, 2), (27, .iload 5, 2), (29, .bipush 16, 2), (31, .iushr, 1), (32, .ldc 18, 2), (34, .iand, 1), (35, .i2c, 1), (36, .istore 9, 2), (38, .iload_n 1, 1), (39, .bipush 7, 2), (41, .iand, 1), (42, .istore 10, 2), (44, .iload_n 2, 1), (45, .bipush 7, 2), (47, .iand, 1), (48, .istore 11, 2), (50, .iload_n 3, 1), (51, .bipush 7, 2), (53, .iand, 1), (54, .istore 12, 2), (56, .iload 10, 2), (58, .iload 6, 2), (60, .iload 7, 2), (62, .iload 8, 2), (64, .iload 9, 2)] [.int (65535 : Int32), .int (65535 : Int32), .int (65535 : Int32), .int (65535 : Int32)] (P := ((Jvm.Cond.constant "com/example/admit/admit/application/KeptBytesTextsPinLaw" 18 (65535 : Int32)).before a0 Z = true) ∧ ((Jvm.Cond.constant "com/example/admit/admit/application/KeptBytesTextsPinLaw" 18 (65535 : Int32)).before a0 Z = true) ∧ ((Jvm.Cond.constant "com/example/admit/admit/application/KeptBytesTextsPinLaw" 18 (65535 : Int32)).before a0 Z = true) ∧ ((Jvm.Cond.constant "com/example/admit/admit/application/KeptBytesTextsPinLaw" 18 (65535 : Int32)).before a0 Z = true) ∧ True) (by decide +kernel) rfl ⟨(tw hw 0 rfl), (tw hw 0 rfl), (tw hw 0 rfl), (tw hw 0 rfl), trivial⟩
  have sd0 : Ch ((p4 &&& (65535 : Int32)).toUInt32.toUInt16.toUInt32.toInt32) := ch_nar (p4 &&& (65535 : Int32))
  generalize (p4 &&& (65535 : Int32)).toUInt32.toUInt16.toUInt32.toInt32 = d0 at g1 sd0
  have sd1 : Ch (((XT.ushr p4 (16 : Int32)) &&& (65535 : Int32)).toUInt32.toUInt16.toUInt32.toInt32) := ch_nar ((XT.ushr p4 (16 : Int32)) &&& (65535 : Int32))
  generalize ((XT.ushr p4 (16 : Int32)) &&& (65535 : Int32)).toUInt32.toUInt16.toUInt32.toInt32 = d1 at g1 sd1
  have sd2 : Ch ((p5 &&& (65535 : Int32)).toUInt32.toUInt16.toUInt32.toInt32) := ch_nar (p5 &&& (65535 : Int32))
  generalize (p5 &&& (65535 : Int32)).toUInt32.toUInt16.toUInt32.toInt32 = d2 at g1 sd2
  have sd3 : Ch (((XT.ushr p5 (16 : Int32)) &&& (65535 : Int32)).toUInt32.toUInt16.toUInt32.toInt32) := ch_nar ((XT.ushr p5 (16 : Int32)) &&& (65535 : Int32))
  generalize ((XT.ushr p5 (16 : Int32)) &&& (65535 : Int32)).toUInt32.toUInt16.toUInt32.toInt32 = d3 at g1 sd3
  generalize p1 &&& (7 : Int32) = ka at g1
  generalize p2 &&& (7 : Int32) = kb at g1
  generalize p3 &&& (7 : Int32) = kc at g1
  obtain ⟨v2, T2, h2, M2, c2, ⟨vp, rfl, K1, FP⟩, g2⟩ := goSW K ew N (tw hw 1 rfl) (tw hw 2 rfl) (tw hw 3 rfl) (tw hw 4 rfl) (con_mk hw sf ka sd0 sd1 sd2 sd3 O) (fun _ hx => (nomatch hx)) (argsL := [(.int ka), (.int d0), (.int d1), (.int d2), (.int d3)]) (W := 0) (rest := []) (by decide) (by decide) (by decide) (by decide) (by decide) (L := #[.val (.int p0), .val (.int p1), .val (.int p2), .val (.int p3), .val (.int p4), .val (.int p5), .val (.int d0), .val (.int d1), .val (.int d2), .val (.int d3), .val (.int ka), .val (.int kb), .val (.int kc), .unset, .unset, .unset, .unset, .unset, .unset]) rfl pd16 rfl (Nat.le_of_eq rfl) (pc := 66) (by decide +kernel)
  have g3 : Ld p e below T2 (mkF m 69 #[.val (.int p0), .val (.int p1), .val (.int p2), .val (.int p3), .val (.int p4), .val (.int p5), .val (.int d0), .val (.int d1), .val (.int d2), .val (.int d3), .val (.int ka), .val (.int kb), .val (.int kc), .unset, .unset, .unset, .unset, .unset, .unset] [(vp)]) T2 (mkF m 81 #[.val (.int p0), .val (.int p1), .val (.int p2), .val (.int p3), .val (.int p4), .val (.int p5), .val (.int d0), .val (.int d1), .val (.int d2), .val (.int d3), .val (.int ka), .val (.int kb), .val (.int kc), .val (vp), .unset, .unset, .unset, .unset, .unset] [(.int d0), (.int d3), (.int d2), (.int d1), (.int kb)]) := goRun K (M2.nar) #[] [(69, .astore 13, 2), (71, .iload 11, 2), (73, .iload 7, 2), (75, .iload 8, 2), (77, .iload 9, 2), (79, .iload 6, 2)] [.retAddr 69] (P := (vp.isRef = true) ∧ True) (by decide +kernel) rfl ⟨FP.ref, trivial⟩
  obtain ⟨v4, T4, h4, M4, c4, ⟨vq, rfl, K2, FQ⟩, g4⟩ := goSW K ew M2 (tw hw 1 rfl) (tw hw 2 rfl) (tw hw 3 rfl) (tw hw 4 rfl) (con_mk hw sf kb sd1 sd2 sd3 sd0 (M2.nar.old O0)) (fun _ hx => (nomatch hx)) (argsL := [(.int kb), (.int d1), (.int d2), (.int d3), (.int d0)]) (W := 0) (rest := []) (by decide) (by decide) (by decide) (by decide) (by decide) (L := #[.val (.int p0), .val (.int p1), .val (.int p2), .val (.int p3), .val (.int p4), .val (.int p5), .val (.int d0), .val (.int d1), .val (.int d2), .val (.int d3), .val (.int ka), .val (.int kb), .val (.int kc), .val (vp), .unset, .unset, .unset, .unset, .unset]) rfl pd16 rfl (Nat.le_of_eq rfl) (pc := 81) (by decide +kernel)
  have g5 : Ld p e below T4 (mkF m 84 #[.val (.int p0), .val (.int p1), .val (.int p2), .val (.int p3), .val (.int p4), .val (.int p5), .val (.int d0), .val (.int d1), .val (.int d2), .val (.int d3), .val (.int ka), .val (.int kb), .val (.int kc), .val (vp), .unset, .unset, .unset, .unset, .unset] [(vq)]) T4 (mkF m 96 #[.val (.int p0), .val (.int p1), .val (.int p2), .val (.int p3), .val (.int p4), .val (.int p5), .val (.int d0), .val (.int d1), .val (.int d2), .val (.int d3), .val (.int ka), .val (.int kb), .val (.int kc), .val (vp), .val (vq), .unset, .unset, .unset, .unset] [(.int d1), (.int d0), (.int d3), (.int d2), (.int kc)]) := goRun K (M4.nar) #[] [(84, .astore 14, 2), (86, .iload 12, 2), (88, .iload 8, 2), (90, .iload 9, 2), (92, .iload 6, 2), (94, .iload 7, 2)] [.retAddr 84] (P := (vq.isRef = true) ∧ True) (by decide +kernel) rfl ⟨FQ.ref, trivial⟩
  obtain ⟨v6, T6, h6, M6, c6, ⟨vr, rfl, K3, FR⟩, g6⟩ := goSW K ew M4 (tw hw 1 rfl) (tw hw 2 rfl) (tw hw 3 rfl) (tw hw 4 rfl) (con_mk hw sf kc sd2 sd3 sd0 sd1 (M4.nar.old O0)) (fun _ hx => (nomatch hx)) (argsL := [(.int kc), (.int d2), (.int d3), (.int d0), (.int d1)]) (W := 0) (rest := []) (by decide) (by decide) (by decide) (by decide) (by decide) (L := #[.val (.int p0), .val (.int p1), .val (.int p2), .val (.int p3), .val (.int p4), .val (.int p5), .val (.int d0), .val (.int d1), .val (.int d2), .val (.int d3), .val (.int ka), .val (.int kb), .val (.int kc), .val (vp), .val (vq), .unset, .unset, .unset, .unset]) rfl pd16 rfl (Nat.le_of_eq rfl) (pc := 96) (by decide +kernel)
  have FP := (FP.keep0 K2).keep0 K3
  have FQ := FQ.keep0 K3
  have g7 : Ld p e below T6 (mkF m 99 #[.val (.int p0), .val (.int p1), .val (.int p2), .val (.int p3), .val (.int p4), .val (.int p5), .val (.int d0), .val (.int d1), .val (.int d2), .val (.int d3), .val (.int ka), .val (.int kb), .val (.int kc), .val (vp), .val (vq), .unset, .unset, .unset, .unset] [(vr)]) T6 (mkF m 106 #[.val (.int p0), .val (.int p1), .val (.int p2), .val (.int p3), .val (.int p4), .val (.int p5), .val (.int d0), .val (.int d1), .val (.int d2), .val (.int d3), .val (.int ka), .val (.int kb), .val (.int kc), .val (vp), .val (vq), .val (vr), .val (.int (p0 &&& (3 : Int32))), .unset, .unset] []) := goRun K (M6.nar) #[] [(99, .astore 15, 2), (101, .iload_n 0, 1), (102, .iconst 3, 1), (103, .iand, 1), (104, .istore 16, 2)] [.retAddr 99] (P := (vr.isRef = true) ∧ True) (by decide +kernel) rfl ⟨FR.ref, trivial⟩
  generalize p0 &&& (3 : Int32) = mm at g7
  by_cases m0 : mm = 0
  · have g8 : Ld p e below T6 (mkF m 106 #[.val (.int p0), .val (.int p1), .val (.int p2), .val (.int p3), .val (.int p4), .val (.int p5), .val (.int d0), .val (.int d1), .val (.int d2), .val (.int d3), .val (.int ka), .val (.int kb), .val (.int kc), .val (vp), .val (vq), .val (vr), .val (.int mm), .unset, .unset] []) T6 (mkF m 112 #[.val (.int p0), .val (.int p1), .val (.int p2), .val (.int p3), .val (.int p4), .val (.int p5), .val (.int d0), .val (.int d1), .val (.int d2), .val (.int d3), .val (.int ka), .val (.int kb), .val (.int kc), .val (vp), .val (vq), .val (vr), .val (.int mm), .unset, .unset] [(.int (0 : Int32))]) := goRun K (M6.nar) #[] [(106, .iload 16, 2), (108, .ifCond .ne 18, 3), (111, .iconst 0, 1)] [.null] (P := (mm = (0 : Int32)) ∧ True) (by decide +kernel) rfl ⟨m0, trivial⟩
    have hn0 : (0 : Int32).toInt = ((0 : Nat) : Int) := rfl
    obtain ⟨T9, h9, a9, ea9, N9, E9, A9, O9, g9⟩ := goNewR K M6.nar (C := "java/lang/String") (tw hw 5 rfl) (tw hw 52 rfl) (n := (0 : Int32)) hn0 (cap := 0) (by omega) (by decide) (by decide) (by decide) (pc := 112) (L := #[.val (.int p0), .val (.int p1), .val (.int p2), .val (.int p3), .val (.int p4), .val (.int p5), .val (.int d0), .val (.int d1), .val (.int d2), .val (.int d3), .val (.int ka), .val (.int kb), .val (.int kc), .val (vp), .val (vq), .val (vr), .val (.int mm), .unset, .unset]) (S := []) (by decide +kernel)
    have ha9 : n0 ≤ a9 := ea9 ▸ M6.nar.size
    obtain ⟨⟨M9, c9⟩, sN9⟩ := M6.backE ew N9 E9
    have AV : Av Z h9 a9 (.object "java/lang/String") ([] : List Value) := A9
    have HWv : ∀ (i : Nat) (v : Value), ([] : List Value)[i]? = some v → ∃ w, ([] : List Nat)[i]? = some w ∧ Wt Z h9 v w := by
      intro i v hv
      match i, hv with
      | _, hv => simp at hv
    obtain ⟨v10, T10, _, N10, ⟨rfl, rfl⟩, g10⟩ := goS K M9.nar (tw hw 53 rfl) (tw hw 54 rfl) (tw hw 55 rfl) (tw hw 56 rfl) (con_tx hw sf AV HWv (by simp) (by simp) (M9.nar.old O0)) (argsL := [(.ref a9)]) (W := 0) (rest := []) (by decide) (by decide) (by decide) (by decide) (by decide) (L := #[.val (.int p0), .val (.int p1), .val (.int p2), .val (.int p3), .val (.int p4), .val (.int p5), .val (.int d0), .val (.int d1), .val (.int d2), .val (.int d3), .val (.int ka), .val (.int kb), .val (.int kc), .val (vp), .val (vq), .val (vr), .val (.int mm), .unset, .unset]) rfl pd17 rfl (Nat.le_of_eq rfl) (pc := 115) (by decide +kernel)
    obtain ⟨M10, c10⟩ := M9.back ew N10 (CHr.refl M9.ch)
    have g11 : Ld p e below T10 (mkF m 118 #[.val (.int p0), .val (.int p1), .val (.int p2), .val (.int p3), .val (.int p4), .val (.int p5), .val (.int d0), .val (.int d1), .val (.int d2), .val (.int d3), .val (.int ka), .val (.int kb), .val (.int kc), .val (vp), .val (vq), .val (vr), .val (.int mm), .unset, .unset] [(.int (Int32.ofNat ([] : List Nat).sum))]) T10 (mkF m 244 #[.val (.int p0), .val (.int p1), .val (.int p2), .val (.int p3), .val (.int p4), .val (.int p5), .val (.int d0), .val (.int d1), .val (.int d2), .val (.int d3), .val (.int ka), .val (.int kb), .val (.int kc), .val (vp), .val (vq), .val (vr), .val (.int mm), .val (.int (Int32.ofNat ([] : List Nat).sum)), .val (.int (0 : Int32))] [(.int (0 : Int32)), (.int (Int32.ofNat ([] : List Nat).sum))]) := goRun K (M10.nar) #[] [(118, .istore 17, 2), (120, .iconst 0, 1), (121, .istore 18, 2), (123, .goto 117, 3), (240, .iload 17, 2), (242, .iload 18, 2)] [] (P := True) (by decide +kernel) rfl trivial
    have g12 : Ld p e below T10 (mkF m 244 #[.val (.int p0), .val (.int p1), .val (.int p2), .val (.int p3), .val (.int p4), .val (.int p5), .val (.int d0), .val (.int d1), .val (.int d2), .val (.int d3), .val (.int ka), .val (.int kb), .val (.int kc), .val (vp), .val (vq), .val (vr), .val (.int mm), .val (.int (Int32.ofNat ([] : List Nat).sum)), .val (.int (0 : Int32))] [(.int (0 : Int32)), (.int (Int32.ofNat ([] : List Nat).sum))]) T10 (mkF m 252 #[.val (.int p0), .val (.int p1), .val (.int p2), .val (.int p3), .val (.int p4), .val (.int p5), .val (.int d0), .val (.int d1), .val (.int d2), .val (.int d3), .val (.int ka), .val (.int kb), .val (.int kc), .val (vp), .val (vq), .val (vr), .val (.int mm), .val (.int (Int32.ofNat ([] : List Nat).sum)), .val (.int (0 : Int32))] [(.int (1 : Int32))]) := goRun K (M10.nar) #[] [(244, .if_icmp .ne 7, 3), (247, .iconst 1, 1), (248, .goto 4, 3)] [.null] (P := ((Int32.ofNat ([] : List Nat).sum) = (0 : Int32)) ∧ True) (by decide +kernel) rfl ⟨rfl, trivial⟩
    exact ⟨_, T10, _, h9, _, _, M10, by decide, by decide, fun q => (nomatch q), sb1, (c2.trans (c4.trans (c6.trans (c9.trans c10)))), g1.trans (g2.trans (g3.trans (g4.trans (g5.trans (g6.trans (g7.trans (g8.trans (g9.trans (g10.trans (g11.trans g12)))))))))), finN K M10.nar hret (Or.inl rfl) (by decide +kernel)⟩
  · by_cases m1 : mm = 1
    · have g8 : Ld p e below T6 (mkF m 106 #[.val (.int p0), .val (.int p1), .val (.int p2), .val (.int p3), .val (.int p4), .val (.int p5), .val (.int d0), .val (.int d1), .val (.int d2), .val (.int d3), .val (.int ka), .val (.int kb), .val (.int kc), .val (vp), .val (vq), .val (vr), .val (.int mm), .unset, .unset] []) T6 (mkF m 133 #[.val (.int p0), .val (.int p1), .val (.int p2), .val (.int p3), .val (.int p4), .val (.int p5), .val (.int d0), .val (.int d1), .val (.int d2), .val (.int d3), .val (.int ka), .val (.int kb), .val (.int kc), .val (vp), .val (vq), .val (vr), .val (.int mm), .unset, .unset] [(.int (1 : Int32))]) := goRun K (M6.nar) #[] [(106, .iload 16, 2), (108, .ifCond .ne 18, 3), (126, .iload 16, 2), (128, .iconst 1, 1), (129, .if_icmp .ne 27, 3), (132, .iconst 1, 1)] [.ref 0, .null] (P := (¬ mm = (0 : Int32)) ∧ (mm = (1 : Int32)) ∧ True) (by decide +kernel) rfl ⟨m0, m1, trivial⟩
      have hn1 : (1 : Int32).toInt = ((1 : Nat) : Int) := rfl
      obtain ⟨T9, h9, a9, ea9, N9, E9, A9, O9, g9⟩ := goNewR K M6.nar (C := "java/lang/String") (tw hw 5 rfl) (tw hw 52 rfl) (n := (1 : Int32)) hn1 (cap := 1) (by omega) (by decide) (by decide) (by decide) (pc := 133) (L := #[.val (.int p0), .val (.int p1), .val (.int p2), .val (.int p3), .val (.int p4), .val (.int p5), .val (.int d0), .val (.int d1), .val (.int d2), .val (.int d3), .val (.int ka), .val (.int kb), .val (.int kc), .val (vp), .val (vq), .val (vr), .val (.int mm), .unset, .unset]) (S := []) (by decide +kernel)
      have ha9 : n0 ≤ a9 := ea9 ▸ M6.nar.size
      obtain ⟨⟨M9, c9⟩, sN9⟩ := M6.backE ew N9 E9
      have g10 : Ld p e below T9 (mkF m 136 #[.val (.int p0), .val (.int p1), .val (.int p2), .val (.int p3), .val (.int p4), .val (.int p5), .val (.int d0), .val (.int d1), .val (.int d2), .val (.int d3), .val (.int ka), .val (.int kb), .val (.int kc), .val (vp), .val (vq), .val (vr), .val (.int mm), .unset, .unset] [(.ref a9)]) T9 (mkF m 140 #[.val (.int p0), .val (.int p1), .val (.int p2), .val (.int p3), .val (.int p4), .val (.int p5), .val (.int d0), .val (.int d1), .val (.int d2), .val (.int d3), .val (.int ka), .val (.int kb), .val (.int kc), .val (vp), .val (vq), .val (vr), .val (.int mm), .unset, .unset] [(vp), (.int (0 : Int32)), (.ref a9), (.ref a9)]) := goRun K (M9.nar) #[] [(136, .dup, 1), (137, .iconst 0, 1), (138, .aload 13, 2)] [.retAddr 138] (P := (vp.isRef = true) ∧ True) (by decide +kernel) rfl ⟨FP.ref, trivial⟩
      obtain ⟨T11, h11, N11, K11, A11, g11⟩ := avStR K M9.nar A9 O9 (v := vp) (FP.keep0 (keep_ext E9)).sto (j := (0 : Int32)) (i := 0) rfl (by simp) ha9 (pc := 140) (L := #[.val (.int p0), .val (.int p1), .val (.int p2), .val (.int p3), .val (.int p4), .val (.int p5), .val (.int d0), .val (.int d1), .val (.int d2), .val (.int d3), .val (.int ka), .val (.int kb), .val (.int kc), .val (vp), .val (vq), .val (vr), .val (.int mm), .unset, .unset]) (S := [(.ref a9)]) (by decide +kernel)
      obtain ⟨M11, c11⟩ := M9.back ew N11 (CHr.keep K11 (sfS (av_safe M9.al A9 (by decide)) sf0) M9.ch)
      have AV : Av Z h11 a9 (.object "java/lang/String") [vp] := A11
      have HWv : ∀ (i : Nat) (v : Value), ([vp] : List Value)[i]? = some v → ∃ w, ([wtv ka] : List Nat)[i]? = some w ∧ Wt Z h11 v w := by
        intro i v hv
        match i, hv with
        | 0, hv => cases hv; exact ⟨_, rfl, ((FP.keep0 (keep_ext E9)).keepA A9 (tw hw 6 rfl) K11)⟩
        | (_ + 1), hv => simp at hv
      obtain ⟨v12, T12, _, N12, ⟨rfl, rfl⟩, g12⟩ := goS K M11.nar (tw hw 53 rfl) (tw hw 54 rfl) (tw hw 55 rfl) (tw hw 56 rfl) (con_tx hw sf AV HWv (by simp) (by simp) (M11.nar.old O0)) (argsL := [(.ref a9)]) (W := 0) (rest := []) (by decide) (by decide) (by decide) (by decide) (by decide) (L := #[.val (.int p0), .val (.int p1), .val (.int p2), .val (.int p3), .val (.int p4), .val (.int p5), .val (.int d0), .val (.int d1), .val (.int d2), .val (.int d3), .val (.int ka), .val (.int kb), .val (.int kc), .val (vp), .val (vq), .val (vr), .val (.int mm), .unset, .unset]) rfl pd17 rfl (Nat.le_of_eq rfl) (pc := 141) (by decide +kernel)
      obtain ⟨M12, c12⟩ := M11.back ew N12 (CHr.refl M11.ch)
      have g13 : Ld p e below T12 (mkF m 144 #[.val (.int p0), .val (.int p1), .val (.int p2), .val (.int p3), .val (.int p4), .val (.int p5), .val (.int d0), .val (.int d1), .val (.int d2), .val (.int d3), .val (.int ka), .val (.int kb), .val (.int kc), .val (vp), .val (vq), .val (vr), .val (.int mm), .unset, .unset] [(.int (Int32.ofNat ([wtv ka] : List Nat).sum))]) T12 (mkF m 148 #[.val (.int p0), .val (.int p1), .val (.int p2), .val (.int p3), .val (.int p4), .val (.int p5), .val (.int d0), .val (.int d1), .val (.int d2), .val (.int d3), .val (.int ka), .val (.int kb), .val (.int kc), .val (vp), .val (vq), .val (vr), .val (.int mm), .val (.int (Int32.ofNat ([wtv ka] : List Nat).sum)), .unset] [(.int ka)]) := goRun K (M12.nar) #[] [(144, .istore 17, 2), (146, .iload 10, 2)] [] (P := True) (by decide +kernel) rfl trivial
      obtain ⟨v14, T14, _, N14, ⟨rfl, rfl⟩, g14⟩ := goS K M12.nar (tw hw 67 rfl) (tw hw 68 rfl) (tw hw 3 rfl) (tw hw 69 rfl) (con_wt ka) (argsL := [(.int ka)]) (W := 0) (rest := []) (by decide) (by decide) (by decide) (by decide) (by decide) (L := #[.val (.int p0), .val (.int p1), .val (.int p2), .val (.int p3), .val (.int p4), .val (.int p5), .val (.int d0), .val (.int d1), .val (.int d2), .val (.int d3), .val (.int ka), .val (.int kb), .val (.int kc), .val (vp), .val (vq), .val (vr), .val (.int mm), .val (.int (Int32.ofNat ([wtv ka] : List Nat).sum)), .unset]) rfl pd5 rfl (Nat.le_of_eq rfl) (pc := 148) (by decide +kernel)
      obtain ⟨M14, c14⟩ := M12.back ew N14 (CHr.refl M12.ch)
      have g15 : Ld p e below T14 (mkF m 151 #[.val (.int p0), .val (.int p1), .val (.int p2), .val (.int p3), .val (.int p4), .val (.int p5), .val (.int d0), .val (.int d1), .val (.int d2), .val (.int d3), .val (.int ka), .val (.int kb), .val (.int kc), .val (vp), .val (vq), .val (vr), .val (.int mm), .val (.int (Int32.ofNat ([wtv ka] : List Nat).sum)), .unset] [(.int (Int32.ofNat (wtv ka)))]) T14 (mkF m 252 #[.val (.int p0), .val (.int p1), .val (.int p2), .val (.int p3), .val (.int p4), .val (.int p5), .val (.int d0), .val (.int d1), .val (.int d2), .val (.int d3), .val (.int ka), .val (.int kb), .val (.int kc), .val (vp), .val (vq), .val (vr), .val (.int mm), .val (.int (Int32.ofNat ([wtv ka] : List Nat).sum)), .val (.int (Int32.ofNat (wtv ka)))] [(.int (1 : Int32))]) := goRun K (M14.nar) #[] [(151, .istore 18, 2), (153, .goto 87, 3), (240, .iload 17, 2), (242, .iload 18, 2), (244, .if_icmp .ne 7, 3), (247, .iconst 1, 1), (248, .goto 4, 3)] [.null] (P := ((Int32.ofNat ([wtv ka] : List Nat).sum) = (Int32.ofNat (wtv ka))) ∧ True) (by decide +kernel) rfl ⟨(by simp only [List.sum_cons, List.sum_nil, Int32.ofNat_add]; simp [Int32.add_assoc]), trivial⟩
      exact ⟨_, T14, _, h11, _, _, M14, by decide, by decide, fun q => (nomatch q), sb1, (c2.trans (c4.trans (c6.trans (c9.trans (c11.trans (c12.trans c14)))))), g1.trans (g2.trans (g3.trans (g4.trans (g5.trans (g6.trans (g7.trans (g8.trans (g9.trans (g10.trans (g11.trans (g12.trans (g13.trans (g14.trans g15))))))))))))), finN K M14.nar hret (Or.inl rfl) (by decide +kernel)⟩
    · by_cases m2 : mm = 2
      · have g8 : Ld p e below T6 (mkF m 106 #[.val (.int p0), .val (.int p1), .val (.int p2), .val (.int p3), .val (.int p4), .val (.int p5), .val (.int d0), .val (.int d1), .val (.int d2), .val (.int d3), .val (.int ka), .val (.int kb), .val (.int kc), .val (vp), .val (vq), .val (vr), .val (.int mm), .unset, .unset] []) T6 (mkF m 163 #[.val (.int p0), .val (.int p1), .val (.int p2), .val (.int p3), .val (.int p4), .val (.int p5), .val (.int d0), .val (.int d1), .val (.int d2), .val (.int d3), .val (.int ka), .val (.int kb), .val (.int kc), .val (vp), .val (vq), .val (vr), .val (.int mm), .unset, .unset] [(.int (2 : Int32))]) := goRun K (M6.nar) #[] [(106, .iload 16, 2), (108, .ifCond .ne 18, 3), (126, .iload 16, 2), (128, .iconst 1, 1), (129, .if_icmp .ne 27, 3), (156, .iload 16, 2), (158, .iconst 2, 1), (159, .if_icmp .ne 38, 3), (162, .iconst 2, 1)] [.ref 0, .ref 0, .null] (P := (¬ mm = (0 : Int32)) ∧ (¬ mm = (1 : Int32)) ∧ (mm = (2 : Int32)) ∧ True) (by decide +kernel) rfl ⟨m0, m1, m2, trivial⟩
        have hn2 : (2 : Int32).toInt = ((2 : Nat) : Int) := rfl
        obtain ⟨T9, h9, a9, ea9, N9, E9, A9, O9, g9⟩ := goNewR K M6.nar (C := "java/lang/String") (tw hw 5 rfl) (tw hw 52 rfl) (n := (2 : Int32)) hn2 (cap := 2) (by omega) (by decide) (by decide) (by decide) (pc := 163) (L := #[.val (.int p0), .val (.int p1), .val (.int p2), .val (.int p3), .val (.int p4), .val (.int p5), .val (.int d0), .val (.int d1), .val (.int d2), .val (.int d3), .val (.int ka), .val (.int kb), .val (.int kc), .val (vp), .val (vq), .val (vr), .val (.int mm), .unset, .unset]) (S := []) (by decide +kernel)
        have ha9 : n0 ≤ a9 := ea9 ▸ M6.nar.size
        obtain ⟨⟨M9, c9⟩, sN9⟩ := M6.backE ew N9 E9
        have g10 : Ld p e below T9 (mkF m 166 #[.val (.int p0), .val (.int p1), .val (.int p2), .val (.int p3), .val (.int p4), .val (.int p5), .val (.int d0), .val (.int d1), .val (.int d2), .val (.int d3), .val (.int ka), .val (.int kb), .val (.int kc), .val (vp), .val (vq), .val (vr), .val (.int mm), .unset, .unset] [(.ref a9)]) T9 (mkF m 170 #[.val (.int p0), .val (.int p1), .val (.int p2), .val (.int p3), .val (.int p4), .val (.int p5), .val (.int d0), .val (.int d1), .val (.int d2), .val (.int d3), .val (.int ka), .val (.int kb), .val (.int kc), .val (vp), .val (vq), .val (vr), .val (.int mm), .unset, .unset] [(vp), (.int (0 : Int32)), (.ref a9), (.ref a9)]) := goRun K (M9.nar) #[] [(166, .dup, 1), (167, .iconst 0, 1), (168, .aload 13, 2)] [.retAddr 168] (P := (vp.isRef = true) ∧ True) (by decide +kernel) rfl ⟨FP.ref, trivial⟩
        obtain ⟨T11, h11, N11, K11, A11, g11⟩ := avStR K M9.nar A9 O9 (v := vp) (FP.keep0 (keep_ext E9)).sto (j := (0 : Int32)) (i := 0) rfl (by simp) ha9 (pc := 170) (L := #[.val (.int p0), .val (.int p1), .val (.int p2), .val (.int p3), .val (.int p4), .val (.int p5), .val (.int d0), .val (.int d1), .val (.int d2), .val (.int d3), .val (.int ka), .val (.int kb), .val (.int kc), .val (vp), .val (vq), .val (vr), .val (.int mm), .unset, .unset]) (S := [(.ref a9)]) (by decide +kernel)
        obtain ⟨M11, c11⟩ := M9.back ew N11 (CHr.keep K11 (sfS (av_safe M9.al A9 (by decide)) sf0) M9.ch)
        have g12 : Ld p e below T11 (mkF m 171 #[.val (.int p0), .val (.int p1), .val (.int p2), .val (.int p3), .val (.int p4), .val (.int p5), .val (.int d0), .val (.int d1), .val (.int d2), .val (.int d3), .val (.int ka), .val (.int kb), .val (.int kc), .val (vp), .val (vq), .val (vr), .val (.int mm), .unset, .unset] [(.ref a9)]) T11 (mkF m 175 #[.val (.int p0), .val (.int p1), .val (.int p2), .val (.int p3), .val (.int p4), .val (.int p5), .val (.int d0), .val (.int d1), .val (.int d2), .val (.int d3), .val (.int ka), .val (.int kb), .val (.int kc), .val (vp), .val (vq), .val (vr), .val (.int mm), .unset, .unset] [(vq), (.int (1 : Int32)), (.ref a9), (.ref a9)]) := goRun K (M11.nar) #[] [(171, .dup, 1), (172, .iconst 1, 1), (173, .aload 14, 2)] [.retAddr 173] (P := (vq.isRef = true) ∧ True) (by decide +kernel) rfl ⟨FQ.ref, trivial⟩
        obtain ⟨T13, h13, N13, K13, A13, g13⟩ := avStR K M11.nar A11 (O9.keep K11) (v := vq) ((FQ.keep0 (keep_ext E9)).keepA A9 (tw hw 6 rfl) K11).sto (j := (1 : Int32)) (i := 1) rfl (by simp) ha9 (pc := 175) (L := #[.val (.int p0), .val (.int p1), .val (.int p2), .val (.int p3), .val (.int p4), .val (.int p5), .val (.int d0), .val (.int d1), .val (.int d2), .val (.int d3), .val (.int ka), .val (.int kb), .val (.int kc), .val (vp), .val (vq), .val (vr), .val (.int mm), .unset, .unset]) (S := [(.ref a9)]) (by decide +kernel)
        obtain ⟨M13, c13⟩ := M11.back ew N13 (CHr.keep K13 (sfS (av_safe M11.al A11 (by decide)) sf0) M11.ch)
        have AV : Av Z h13 a9 (.object "java/lang/String") [vp, vq] := A13
        have HWv : ∀ (i : Nat) (v : Value), ([vp, vq] : List Value)[i]? = some v → ∃ w, ([wtv ka, wtv kb] : List Nat)[i]? = some w ∧ Wt Z h13 v w := by
          intro i v hv
          match i, hv with
          | 0, hv => cases hv; exact ⟨_, rfl, (((FP.keep0 (keep_ext E9)).keepA A9 (tw hw 6 rfl) K11).keepA A11 (tw hw 6 rfl) K13)⟩
          | 1, hv => cases hv; exact ⟨_, rfl, (((FQ.keep0 (keep_ext E9)).keepA A9 (tw hw 6 rfl) K11).keepA A11 (tw hw 6 rfl) K13)⟩
          | (_ + 2), hv => simp at hv
        obtain ⟨v14, T14, _, N14, ⟨rfl, rfl⟩, g14⟩ := goS K M13.nar (tw hw 53 rfl) (tw hw 54 rfl) (tw hw 55 rfl) (tw hw 56 rfl) (con_tx hw sf AV HWv (by simp) (by simp) (M13.nar.old O0)) (argsL := [(.ref a9)]) (W := 0) (rest := []) (by decide) (by decide) (by decide) (by decide) (by decide) (L := #[.val (.int p0), .val (.int p1), .val (.int p2), .val (.int p3), .val (.int p4), .val (.int p5), .val (.int d0), .val (.int d1), .val (.int d2), .val (.int d3), .val (.int ka), .val (.int kb), .val (.int kc), .val (vp), .val (vq), .val (vr), .val (.int mm), .unset, .unset]) rfl pd17 rfl (Nat.le_of_eq rfl) (pc := 176) (by decide +kernel)
        obtain ⟨M14, c14⟩ := M13.back ew N14 (CHr.refl M13.ch)
        have g15 : Ld p e below T14 (mkF m 179 #[.val (.int p0), .val (.int p1), .val (.int p2), .val (.int p3), .val (.int p4), .val (.int p5), .val (.int d0), .val (.int d1), .val (.int d2), .val (.int d3), .val (.int ka), .val (.int kb), .val (.int kc), .val (vp), .val (vq), .val (vr), .val (.int mm), .unset, .unset] [(.int (Int32.ofNat ([wtv ka, wtv kb] : List Nat).sum))]) T14 (mkF m 183 #[.val (.int p0), .val (.int p1), .val (.int p2), .val (.int p3), .val (.int p4), .val (.int p5), .val (.int d0), .val (.int d1), .val (.int d2), .val (.int d3), .val (.int ka), .val (.int kb), .val (.int kc), .val (vp), .val (vq), .val (vr), .val (.int mm), .val (.int (Int32.ofNat ([wtv ka, wtv kb] : List Nat).sum)), .unset] [(.int ka)]) := goRun K (M14.nar) #[] [(179, .istore 17, 2), (181, .iload 10, 2)] [] (P := True) (by decide +kernel) rfl trivial
        obtain ⟨v16, T16, _, N16, ⟨rfl, rfl⟩, g16⟩ := goS K M14.nar (tw hw 67 rfl) (tw hw 68 rfl) (tw hw 3 rfl) (tw hw 69 rfl) (con_wt ka) (argsL := [(.int ka)]) (W := 0) (rest := []) (by decide) (by decide) (by decide) (by decide) (by decide) (L := #[.val (.int p0), .val (.int p1), .val (.int p2), .val (.int p3), .val (.int p4), .val (.int p5), .val (.int d0), .val (.int d1), .val (.int d2), .val (.int d3), .val (.int ka), .val (.int kb), .val (.int kc), .val (vp), .val (vq), .val (vr), .val (.int mm), .val (.int (Int32.ofNat ([wtv ka, wtv kb] : List Nat).sum)), .unset]) rfl pd5 rfl (Nat.le_of_eq rfl) (pc := 183) (by decide +kernel)
        obtain ⟨M16, c16⟩ := M14.back ew N16 (CHr.refl M14.ch)
        have g17 : Ld p e below T16 (mkF m 186 #[.val (.int p0), .val (.int p1), .val (.int p2), .val (.int p3), .val (.int p4), .val (.int p5), .val (.int d0), .val (.int d1), .val (.int d2), .val (.int d3), .val (.int ka), .val (.int kb), .val (.int kc), .val (vp), .val (vq), .val (vr), .val (.int mm), .val (.int (Int32.ofNat ([wtv ka, wtv kb] : List Nat).sum)), .unset] [(.int (Int32.ofNat (wtv ka)))]) T16 (mkF m 188 #[.val (.int p0), .val (.int p1), .val (.int p2), .val (.int p3), .val (.int p4), .val (.int p5), .val (.int d0), .val (.int d1), .val (.int d2), .val (.int d3), .val (.int ka), .val (.int kb), .val (.int kc), .val (vp), .val (vq), .val (vr), .val (.int mm), .val (.int (Int32.ofNat ([wtv ka, wtv kb] : List Nat).sum)), .unset] [(.int kb), (.int (Int32.ofNat (wtv ka)))]) := goRun K (M16.nar) #[] [(186, .iload 11, 2)] [] (P := True) (by decide +kernel) rfl trivial
        obtain ⟨v18, T18, _, N18, ⟨rfl, rfl⟩, g18⟩ := goS K M16.nar (tw hw 67 rfl) (tw hw 68 rfl) (tw hw 3 rfl) (tw hw 69 rfl) (con_wt kb) (argsL := [(.int kb)]) (W := 1) (rest := [(.int (Int32.ofNat (wtv ka)))]) (by decide) (by decide) (by decide) (by decide) (by decide) (L := #[.val (.int p0), .val (.int p1), .val (.int p2), .val (.int p3), .val (.int p4), .val (.int p5), .val (.int d0), .val (.int d1), .val (.int d2), .val (.int d3), .val (.int ka), .val (.int kb), .val (.int kc), .val (vp), .val (vq), .val (vr), .val (.int mm), .val (.int (Int32.ofNat ([wtv ka, wtv kb] : List Nat).sum)), .unset]) rfl pd5 rfl (Nat.le_of_eq rfl) (pc := 188) (by decide +kernel)
        obtain ⟨M18, c18⟩ := M16.back ew N18 (CHr.refl M16.ch)
        have g19 : Ld p e below T18 (mkF m 191 #[.val (.int p0), .val (.int p1), .val (.int p2), .val (.int p3), .val (.int p4), .val (.int p5), .val (.int d0), .val (.int d1), .val (.int d2), .val (.int d3), .val (.int ka), .val (.int kb), .val (.int kc), .val (vp), .val (vq), .val (vr), .val (.int mm), .val (.int (Int32.ofNat ([wtv ka, wtv kb] : List Nat).sum)), .unset] [(.int (Int32.ofNat (wtv kb))), (.int (Int32.ofNat (wtv ka)))]) T18 (mkF m 252 #[.val (.int p0), .val (.int p1), .val (.int p2), .val (.int p3), .val (.int p4), .val (.int p5), .val (.int d0), .val (.int d1), .val (.int d2), .val (.int d3), .val (.int ka), .val (.int kb), .val (.int kc), .val (vp), .val (vq), .val (vr), .val (.int mm), .val (.int (Int32.ofNat ([wtv ka, wtv kb] : List Nat).sum)), .val (.int ((Int32.ofNat (wtv ka)) + (Int32.ofNat (wtv kb))))] [(.int (1 : Int32))]) := goRun K (M18.nar) #[] [(191, .iadd, 1), (192, .istore 18, 2), (194, .goto 46, 3), (240, .iload 17, 2), (242, .iload 18, 2), (244, .if_icmp .ne 7, 3), (247, .iconst 1, 1), (248, .goto 4, 3)] [.null] (P := ((Int32.ofNat ([wtv ka, wtv kb] : List Nat).sum) = ((Int32.ofNat (wtv ka)) + (Int32.ofNat (wtv kb)))) ∧ True) (by decide +kernel) rfl ⟨(by simp only [List.sum_cons, List.sum_nil, Int32.ofNat_add]; simp [Int32.add_assoc]), trivial⟩
        exact ⟨_, T18, _, h13, _, _, M18, by decide, by decide, fun q => (nomatch q), sb1, (c2.trans (c4.trans (c6.trans (c9.trans (c11.trans (c13.trans (c14.trans (c16.trans c18)))))))), g1.trans (g2.trans (g3.trans (g4.trans (g5.trans (g6.trans (g7.trans (g8.trans (g9.trans (g10.trans (g11.trans (g12.trans (g13.trans (g14.trans (g15.trans (g16.trans (g17.trans (g18.trans g19))))))))))))))))), finN K M18.nar hret (Or.inl rfl) (by decide +kernel)⟩
      · have g8 : Ld p e below T6 (mkF m 106 #[.val (.int p0), .val (.int p1), .val (.int p2), .val (.int p3), .val (.int p4), .val (.int p5), .val (.int d0), .val (.int d1), .val (.int d2), .val (.int d3), .val (.int ka), .val (.int kb), .val (.int kc), .val (vp), .val (vq), .val (vr), .val (.int mm), .unset, .unset] []) T6 (mkF m 198 #[.val (.int p0), .val (.int p1), .val (.int p2), .val (.int p3), .val (.int p4), .val (.int p5), .val (.int d0), .val (.int d1), .val (.int d2), .val (.int d3), .val (.int ka), .val (.int kb), .val (.int kc), .val (vp), .val (vq), .val (vr), .val (.int mm), .unset, .unset] [(.int (3 : Int32))]) := goRun K (M6.nar) #[] [(106, .iload 16, 2), (108, .ifCond .ne 18, 3), (126, .iload 16, 2), (128, .iconst 1, 1), (129, .if_icmp .ne 27, 3), (156, .iload 16, 2), (158, .iconst 2, 1), (159, .if_icmp .ne 38, 3), (197, .iconst 3, 1)] [.ref 0, .ref 0, .ref 0] (P := (¬ mm = (0 : Int32)) ∧ (¬ mm = (1 : Int32)) ∧ (¬ mm = (2 : Int32)) ∧ True) (by decide +kernel) rfl ⟨m0, m1, m2, trivial⟩
        have hn3 : (3 : Int32).toInt = ((3 : Nat) : Int) := rfl
        obtain ⟨T9, h9, a9, ea9, N9, E9, A9, O9, g9⟩ := goNewR K M6.nar (C := "java/lang/String") (tw hw 5 rfl) (tw hw 52 rfl) (n := (3 : Int32)) hn3 (cap := 3) (by omega) (by decide) (by decide) (by decide) (pc := 198) (L := #[.val (.int p0), .val (.int p1), .val (.int p2), .val (.int p3), .val (.int p4), .val (.int p5), .val (.int d0), .val (.int d1), .val (.int d2), .val (.int d3), .val (.int ka), .val (.int kb), .val (.int kc), .val (vp), .val (vq), .val (vr), .val (.int mm), .unset, .unset]) (S := []) (by decide +kernel)
        have ha9 : n0 ≤ a9 := ea9 ▸ M6.nar.size
        obtain ⟨⟨M9, c9⟩, sN9⟩ := M6.backE ew N9 E9
        have g10 : Ld p e below T9 (mkF m 201 #[.val (.int p0), .val (.int p1), .val (.int p2), .val (.int p3), .val (.int p4), .val (.int p5), .val (.int d0), .val (.int d1), .val (.int d2), .val (.int d3), .val (.int ka), .val (.int kb), .val (.int kc), .val (vp), .val (vq), .val (vr), .val (.int mm), .unset, .unset] [(.ref a9)]) T9 (mkF m 205 #[.val (.int p0), .val (.int p1), .val (.int p2), .val (.int p3), .val (.int p4), .val (.int p5), .val (.int d0), .val (.int d1), .val (.int d2), .val (.int d3), .val (.int ka), .val (.int kb), .val (.int kc), .val (vp), .val (vq), .val (vr), .val (.int mm), .unset, .unset] [(vp), (.int (0 : Int32)), (.ref a9), (.ref a9)]) := goRun K (M9.nar) #[] [(201, .dup, 1), (202, .iconst 0, 1), (203, .aload 13, 2)] [.retAddr 203] (P := (vp.isRef = true) ∧ True) (by decide +kernel) rfl ⟨FP.ref, trivial⟩
        obtain ⟨T11, h11, N11, K11, A11, g11⟩ := avStR K M9.nar A9 O9 (v := vp) (FP.keep0 (keep_ext E9)).sto (j := (0 : Int32)) (i := 0) rfl (by simp) ha9 (pc := 205) (L := #[.val (.int p0), .val (.int p1), .val (.int p2), .val (.int p3), .val (.int p4), .val (.int p5), .val (.int d0), .val (.int d1), .val (.int d2), .val (.int d3), .val (.int ka), .val (.int kb), .val (.int kc), .val (vp), .val (vq), .val (vr), .val (.int mm), .unset, .unset]) (S := [(.ref a9)]) (by decide +kernel)
        obtain ⟨M11, c11⟩ := M9.back ew N11 (CHr.keep K11 (sfS (av_safe M9.al A9 (by decide)) sf0) M9.ch)
        have g12 : Ld p e below T11 (mkF m 206 #[.val (.int p0), .val (.int p1), .val (.int p2), .val (.int p3), .val (.int p4), .val (.int p5), .val (.int d0), .val (.int d1), .val (.int d2), .val (.int d3), .val (.int ka), .val (.int kb), .val (.int kc), .val (vp), .val (vq), .val (vr), .val (.int mm), .unset, .unset] [(.ref a9)]) T11 (mkF m 210 #[.val (.int p0), .val (.int p1), .val (.int p2), .val (.int p3), .val (.int p4), .val (.int p5), .val (.int d0), .val (.int d1), .val (.int d2), .val (.int d3), .val (.int ka), .val (.int kb), .val (.int kc), .val (vp), .val (vq), .val (vr), .val (.int mm), .unset, .unset] [(vq), (.int (1 : Int32)), (.ref a9), (.ref a9)]) := goRun K (M11.nar) #[] [(206, .dup, 1), (207, .iconst 1, 1), (208, .aload 14, 2)] [.retAddr 208] (P := (vq.isRef = true) ∧ True) (by decide +kernel) rfl ⟨FQ.ref, trivial⟩
        obtain ⟨T13, h13, N13, K13, A13, g13⟩ := avStR K M11.nar A11 (O9.keep K11) (v := vq) ((FQ.keep0 (keep_ext E9)).keepA A9 (tw hw 6 rfl) K11).sto (j := (1 : Int32)) (i := 1) rfl (by simp) ha9 (pc := 210) (L := #[.val (.int p0), .val (.int p1), .val (.int p2), .val (.int p3), .val (.int p4), .val (.int p5), .val (.int d0), .val (.int d1), .val (.int d2), .val (.int d3), .val (.int ka), .val (.int kb), .val (.int kc), .val (vp), .val (vq), .val (vr), .val (.int mm), .unset, .unset]) (S := [(.ref a9)]) (by decide +kernel)
        obtain ⟨M13, c13⟩ := M11.back ew N13 (CHr.keep K13 (sfS (av_safe M11.al A11 (by decide)) sf0) M11.ch)
        have g14 : Ld p e below T13 (mkF m 211 #[.val (.int p0), .val (.int p1), .val (.int p2), .val (.int p3), .val (.int p4), .val (.int p5), .val (.int d0), .val (.int d1), .val (.int d2), .val (.int d3), .val (.int ka), .val (.int kb), .val (.int kc), .val (vp), .val (vq), .val (vr), .val (.int mm), .unset, .unset] [(.ref a9)]) T13 (mkF m 215 #[.val (.int p0), .val (.int p1), .val (.int p2), .val (.int p3), .val (.int p4), .val (.int p5), .val (.int d0), .val (.int d1), .val (.int d2), .val (.int d3), .val (.int ka), .val (.int kb), .val (.int kc), .val (vp), .val (vq), .val (vr), .val (.int mm), .unset, .unset] [(vr), (.int (2 : Int32)), (.ref a9), (.ref a9)]) := goRun K (M13.nar) #[] [(211, .dup, 1), (212, .iconst 2, 1), (213, .aload 15, 2)] [.retAddr 213] (P := (vr.isRef = true) ∧ True) (by decide +kernel) rfl ⟨FR.ref, trivial⟩
        obtain ⟨T15, h15, N15, K15, A15, g15⟩ := avStR K M13.nar A13 ((O9.keep K11).keep K13) (v := vr) (((FR.keep0 (keep_ext E9)).keepA A9 (tw hw 6 rfl) K11).keepA A11 (tw hw 6 rfl) K13).sto (j := (2 : Int32)) (i := 2) rfl (by simp) ha9 (pc := 215) (L := #[.val (.int p0), .val (.int p1), .val (.int p2), .val (.int p3), .val (.int p4), .val (.int p5), .val (.int d0), .val (.int d1), .val (.int d2), .val (.int d3), .val (.int ka), .val (.int kb), .val (.int kc), .val (vp), .val (vq), .val (vr), .val (.int mm), .unset, .unset]) (S := [(.ref a9)]) (by decide +kernel)
        obtain ⟨M15, c15⟩ := M13.back ew N15 (CHr.keep K15 (sfS (av_safe M13.al A13 (by decide)) sf0) M13.ch)
        have AV : Av Z h15 a9 (.object "java/lang/String") [vp, vq, vr] := A15
        have HWv : ∀ (i : Nat) (v : Value), ([vp, vq, vr] : List Value)[i]? = some v → ∃ w, ([wtv ka, wtv kb, wtv kc] : List Nat)[i]? = some w ∧ Wt Z h15 v w := by
          intro i v hv
          match i, hv with
          | 0, hv => cases hv; exact ⟨_, rfl, ((((FP.keep0 (keep_ext E9)).keepA A9 (tw hw 6 rfl) K11).keepA A11 (tw hw 6 rfl) K13).keepA A13 (tw hw 6 rfl) K15)⟩
          | 1, hv => cases hv; exact ⟨_, rfl, ((((FQ.keep0 (keep_ext E9)).keepA A9 (tw hw 6 rfl) K11).keepA A11 (tw hw 6 rfl) K13).keepA A13 (tw hw 6 rfl) K15)⟩
          | 2, hv => cases hv; exact ⟨_, rfl, ((((FR.keep0 (keep_ext E9)).keepA A9 (tw hw 6 rfl) K11).keepA A11 (tw hw 6 rfl) K13).keepA A13 (tw hw 6 rfl) K15)⟩
          | (_ + 3), hv => simp at hv
        obtain ⟨v16, T16, _, N16, ⟨rfl, rfl⟩, g16⟩ := goS K M15.nar (tw hw 53 rfl) (tw hw 54 rfl) (tw hw 55 rfl) (tw hw 56 rfl) (con_tx hw sf AV HWv (by simp) (by simp) (M15.nar.old O0)) (argsL := [(.ref a9)]) (W := 0) (rest := []) (by decide) (by decide) (by decide) (by decide) (by decide) (L := #[.val (.int p0), .val (.int p1), .val (.int p2), .val (.int p3), .val (.int p4), .val (.int p5), .val (.int d0), .val (.int d1), .val (.int d2), .val (.int d3), .val (.int ka), .val (.int kb), .val (.int kc), .val (vp), .val (vq), .val (vr), .val (.int mm), .unset, .unset]) rfl pd17 rfl (Nat.le_of_eq rfl) (pc := 216) (by decide +kernel)
        obtain ⟨M16, c16⟩ := M15.back ew N16 (CHr.refl M15.ch)
        have g17 : Ld p e below T16 (mkF m 219 #[.val (.int p0), .val (.int p1), .val (.int p2), .val (.int p3), .val (.int p4), .val (.int p5), .val (.int d0), .val (.int d1), .val (.int d2), .val (.int d3), .val (.int ka), .val (.int kb), .val (.int kc), .val (vp), .val (vq), .val (vr), .val (.int mm), .unset, .unset] [(.int (Int32.ofNat ([wtv ka, wtv kb, wtv kc] : List Nat).sum))]) T16 (mkF m 223 #[.val (.int p0), .val (.int p1), .val (.int p2), .val (.int p3), .val (.int p4), .val (.int p5), .val (.int d0), .val (.int d1), .val (.int d2), .val (.int d3), .val (.int ka), .val (.int kb), .val (.int kc), .val (vp), .val (vq), .val (vr), .val (.int mm), .val (.int (Int32.ofNat ([wtv ka, wtv kb, wtv kc] : List Nat).sum)), .unset] [(.int ka)]) := goRun K (M16.nar) #[] [(219, .istore 17, 2), (221, .iload 10, 2)] [] (P := True) (by decide +kernel) rfl trivial
        obtain ⟨v18, T18, _, N18, ⟨rfl, rfl⟩, g18⟩ := goS K M16.nar (tw hw 67 rfl) (tw hw 68 rfl) (tw hw 3 rfl) (tw hw 69 rfl) (con_wt ka) (argsL := [(.int ka)]) (W := 0) (rest := []) (by decide) (by decide) (by decide) (by decide) (by decide) (L := #[.val (.int p0), .val (.int p1), .val (.int p2), .val (.int p3), .val (.int p4), .val (.int p5), .val (.int d0), .val (.int d1), .val (.int d2), .val (.int d3), .val (.int ka), .val (.int kb), .val (.int kc), .val (vp), .val (vq), .val (vr), .val (.int mm), .val (.int (Int32.ofNat ([wtv ka, wtv kb, wtv kc] : List Nat).sum)), .unset]) rfl pd5 rfl (Nat.le_of_eq rfl) (pc := 223) (by decide +kernel)
        obtain ⟨M18, c18⟩ := M16.back ew N18 (CHr.refl M16.ch)
        have g19 : Ld p e below T18 (mkF m 226 #[.val (.int p0), .val (.int p1), .val (.int p2), .val (.int p3), .val (.int p4), .val (.int p5), .val (.int d0), .val (.int d1), .val (.int d2), .val (.int d3), .val (.int ka), .val (.int kb), .val (.int kc), .val (vp), .val (vq), .val (vr), .val (.int mm), .val (.int (Int32.ofNat ([wtv ka, wtv kb, wtv kc] : List Nat).sum)), .unset] [(.int (Int32.ofNat (wtv ka)))]) T18 (mkF m 228 #[.val (.int p0), .val (.int p1), .val (.int p2), .val (.int p3), .val (.int p4), .val (.int p5), .val (.int d0), .val (.int d1), .val (.int d2), .val (.int d3), .val (.int ka), .val (.int kb), .val (.int kc), .val (vp), .val (vq), .val (vr), .val (.int mm), .val (.int (Int32.ofNat ([wtv ka, wtv kb, wtv kc] : List Nat).sum)), .unset] [(.int kb), (.int (Int32.ofNat (wtv ka)))]) := goRun K (M18.nar) #[] [(226, .iload 11, 2)] [] (P := True) (by decide +kernel) rfl trivial
        obtain ⟨v20, T20, _, N20, ⟨rfl, rfl⟩, g20⟩ := goS K M18.nar (tw hw 67 rfl) (tw hw 68 rfl) (tw hw 3 rfl) (tw hw 69 rfl) (con_wt kb) (argsL := [(.int kb)]) (W := 1) (rest := [(.int (Int32.ofNat (wtv ka)))]) (by decide) (by decide) (by decide) (by decide) (by decide) (L := #[.val (.int p0), .val (.int p1), .val (.int p2), .val (.int p3), .val (.int p4), .val (.int p5), .val (.int d0), .val (.int d1), .val (.int d2), .val (.int d3), .val (.int ka), .val (.int kb), .val (.int kc), .val (vp), .val (vq), .val (vr), .val (.int mm), .val (.int (Int32.ofNat ([wtv ka, wtv kb, wtv kc] : List Nat).sum)), .unset]) rfl pd5 rfl (Nat.le_of_eq rfl) (pc := 228) (by decide +kernel)
        obtain ⟨M20, c20⟩ := M18.back ew N20 (CHr.refl M18.ch)
        have g21 : Ld p e below T20 (mkF m 231 #[.val (.int p0), .val (.int p1), .val (.int p2), .val (.int p3), .val (.int p4), .val (.int p5), .val (.int d0), .val (.int d1), .val (.int d2), .val (.int d3), .val (.int ka), .val (.int kb), .val (.int kc), .val (vp), .val (vq), .val (vr), .val (.int mm), .val (.int (Int32.ofNat ([wtv ka, wtv kb, wtv kc] : List Nat).sum)), .unset] [(.int (Int32.ofNat (wtv kb))), (.int (Int32.ofNat (wtv ka)))]) T20 (mkF m 234 #[.val (.int p0), .val (.int p1), .val (.int p2), .val (.int p3), .val (.int p4), .val (.int p5), .val (.int d0), .val (.int d1), .val (.int d2), .val (.int d3), .val (.int ka), .val (.int kb), .val (.int kc), .val (vp), .val (vq), .val (vr), .val (.int mm), .val (.int (Int32.ofNat ([wtv ka, wtv kb, wtv kc] : List Nat).sum)), .unset] [(.int kc), (.int ((Int32.ofNat (wtv ka)) + (Int32.ofNat (wtv kb))))]) := goRun K (M20.nar) #[] [(231, .iadd, 1), (232, .iload 12, 2)] [] (P := True) (by decide +kernel) rfl trivial
        obtain ⟨v22, T22, _, N22, ⟨rfl, rfl⟩, g22⟩ := goS K M20.nar (tw hw 67 rfl) (tw hw 68 rfl) (tw hw 3 rfl) (tw hw 69 rfl) (con_wt kc) (argsL := [(.int kc)]) (W := 1) (rest := [(.int ((Int32.ofNat (wtv ka)) + (Int32.ofNat (wtv kb))))]) (by decide) (by decide) (by decide) (by decide) (by decide) (L := #[.val (.int p0), .val (.int p1), .val (.int p2), .val (.int p3), .val (.int p4), .val (.int p5), .val (.int d0), .val (.int d1), .val (.int d2), .val (.int d3), .val (.int ka), .val (.int kb), .val (.int kc), .val (vp), .val (vq), .val (vr), .val (.int mm), .val (.int (Int32.ofNat ([wtv ka, wtv kb, wtv kc] : List Nat).sum)), .unset]) rfl pd5 rfl (Nat.le_of_eq rfl) (pc := 234) (by decide +kernel)
        obtain ⟨M22, c22⟩ := M20.back ew N22 (CHr.refl M20.ch)
        have g23 : Ld p e below T22 (mkF m 237 #[.val (.int p0), .val (.int p1), .val (.int p2), .val (.int p3), .val (.int p4), .val (.int p5), .val (.int d0), .val (.int d1), .val (.int d2), .val (.int d3), .val (.int ka), .val (.int kb), .val (.int kc), .val (vp), .val (vq), .val (vr), .val (.int mm), .val (.int (Int32.ofNat ([wtv ka, wtv kb, wtv kc] : List Nat).sum)), .unset] [(.int (Int32.ofNat (wtv kc))), (.int ((Int32.ofNat (wtv ka)) + (Int32.ofNat (wtv kb))))]) T22 (mkF m 252 #[.val (.int p0), .val (.int p1), .val (.int p2), .val (.int p3), .val (.int p4), .val (.int p5), .val (.int d0), .val (.int d1), .val (.int d2), .val (.int d3), .val (.int ka), .val (.int kb), .val (.int kc), .val (vp), .val (vq), .val (vr), .val (.int mm), .val (.int (Int32.ofNat ([wtv ka, wtv kb, wtv kc] : List Nat).sum)), .val (.int (((Int32.ofNat (wtv ka)) + (Int32.ofNat (wtv kb))) + (Int32.ofNat (wtv kc))))] [(.int (1 : Int32))]) := goRun K (M22.nar) #[] [(237, .iadd, 1), (238, .istore 18, 2), (240, .iload 17, 2), (242, .iload 18, 2), (244, .if_icmp .ne 7, 3), (247, .iconst 1, 1), (248, .goto 4, 3)] [.null] (P := ((Int32.ofNat ([wtv ka, wtv kb, wtv kc] : List Nat).sum) = (((Int32.ofNat (wtv ka)) + (Int32.ofNat (wtv kb))) + (Int32.ofNat (wtv kc)))) ∧ True) (by decide +kernel) rfl ⟨(by simp only [List.sum_cons, List.sum_nil, Int32.ofNat_add]; simp [Int32.add_assoc]), trivial⟩
        exact ⟨_, T22, _, h15, _, _, M22, by decide, by decide, fun q => (nomatch q), sb1, (c2.trans (c4.trans (c6.trans (c9.trans (c11.trans (c13.trans (c15.trans (c16.trans (c18.trans (c20.trans c22)))))))))), g1.trans (g2.trans (g3.trans (g4.trans (g5.trans (g6.trans (g7.trans (g8.trans (g9.trans (g10.trans (g11.trans (g12.trans (g13.trans (g14.trans (g15.trans (g16.trans (g17.trans (g18.trans (g19.trans (g20.trans (g21.trans (g22.trans g23))))))))))))))))))))), finN K M22.nar hret (Or.inl rfl) (by decide +kernel)⟩
theorem own_int {args : Array Value} {first s : State} {o : Option Outcome} {idx : List Nat} {t : Term} {k : Int32} (h : (Jvm.Cond.eq t (.int k)).value args first o s idx = some true) : t.eval args first o idx s = some (.int k) := by
  simp only [Cond.value, Term.eval] at h
  cases ht : t.eval args first o idx s with
  | none => simp [ht] at h
  | some x => cases x <;> simp [ht] at h ⊢; exact h
set_option maxRecDepth 65536 in
set_option maxHeartbeats 4000000 in
theorem comes_1 {Post : Tables → Env → Array Value → State → Outcome → State → Prop} (hpost : ∀ tb e args s v u, (limb_1_1.after args s (.returned v) u = true ∧ limb_1_2.after args s (.returned v) u = true ∧ True) → FramedW s (.returned v) u (Jvm.fieldLocs frame_1_writes args s ++ Jvm.arrayLocs frame_1_arrays args s ++ Jvm.staticLocs frame_1_statics s) 40 1344 → Post tb e args s (.returned v) u) :
    ArmFor flags0 classFile x code maxLocals ret World_1 tables_1 room_1 Calls_1 rest_1 Pre_1 Post := by
  intro l hfl _ _ p e ha hc hk s m args below hf hA hF happ hP
  obtain ⟨hcalls, hrest, hpre⟩ := hP
  obtain ⟨-, -, -, hnamed, -, -, -, hat⟩ := (Spec.applies_iff hf).mp happ
  obtain ⟨hg, hn⟩ := and_e (Cond.before_iff.mp (show (Jvm.Cond.and given_1 narrow_1).before args s = true from hpre))
  obtain ⟨hcnt, u0⟩ := and_e hg
  obtain ⟨k0, u1⟩ := and_e u0
  obtain ⟨k1, u2⟩ := and_e u1
  obtain ⟨k2, u3⟩ := and_e u2
  obtain ⟨k3, u4⟩ := and_e u3
  obtain ⟨k4, u5⟩ := and_e u4
  have k5 := u5
  obtain ⟨w0, w1, w2, w3, w4, w5, rfl⟩ : ∃ w0 w1 w2 w3 w4 w5 : Value, args = #[w0, w1, w2, w3, w4, w5] := by
    have hs : args.size = 6 := by simpa [Cond.value, given_1] using hcnt
    obtain ⟨L⟩ := args
    match L, hs with
    | [w0, w1, w2, w3, w4, w5], _ => exact ⟨w0, w1, w2, w3, w4, w5, rfl⟩
  have hw := fun d (hd : d ∈ tables_1) => atoms_spec (ws := Jvm.Cond.code x code maxLocals ret :: tables_1) hat d (List.mem_cons_of_mem _ hd)
  obtain ⟨i0, ei0⟩ := is_v k0
  obtain rfl : w0 = (.int i0) := Option.some.inj ei0
  obtain ⟨i1, ei1⟩ := is_v k1
  obtain rfl : w1 = (.int i1) := Option.some.inj ei1
  obtain ⟨i2, ei2⟩ := is_v k2
  obtain rfl : w2 = (.int i2) := Option.some.inj ei2
  obtain ⟨i3, ei3⟩ := is_v k3
  obtain rfl : w3 = (.int i3) := Option.some.inj ei3
  obtain ⟨i4, ei4⟩ := is_v k4
  obtain rfl : w4 = (.int i4) := Option.some.inj ei4
  obtain ⟨i5, ei5⟩ := is_v k5
  obtain rfl : w5 = (.int i5) := Option.some.inj ei5
  obtain ⟨hsets, hown0⟩ := atoms_of _ (rest_1_c_eq ▸ (show rest_1_c.before _ s = true from hrest))
  have nz := not_v (Cond.before_iff.mp (hsets _ (List.mem_of_getElem? (i := 2) rfl)))
  obtain ⟨z, ez⟩ := is_v (Cond.before_iff.mp (hsets _ (List.mem_of_getElem? (i := 1) rfl)))
  have S1 : Sta s s.heap "java/lang/String" "COMPACT_STRINGS" "Z" (.int z) := Sta.start ez (Or.inl (hsets _ (List.mem_of_getElem? (i := 0) rfl)))
  have S2 : ¬ (z = (0 : Int32)) := gotF (Cond.eq_ints ez (Term.int_eval (0))) nz
  obtain ⟨fm, efm, rfm⟩ := isR_v (Cond.before_iff.mp (hsets _ (List.mem_of_getElem? (i := 8) rfl)))
  have S3 : Sta s s.heap "jdk/internal/util/Preconditions" "SIOOBE_FORMATTER" "Ljava/util/function/BiFunction;" fm := Sta.start efm (Or.inl (hsets _ (List.mem_of_getElem? (i := 7) rfl)))
  have eS5 := own_int (Cond.before_iff.mp (hsets _ (List.mem_of_getElem? (i := 12) rfl)))
  have S5 : Sta s s.heap "java/lang/StringUTF16" "$assertionsDisabled" "Z" (.int 1) := Sta.start eS5 (Or.inl (hsets _ (List.mem_of_getElem? (i := 11) rfl)))
  have eS6 := own_int (Cond.before_iff.mp (hsets _ (List.mem_of_getElem? (i := 15) rfl)))
  have S6 : Sta s s.heap "java/lang/StringUTF16" "HI_BYTE_SHIFT" "I" (.int 0) := Sta.start eS6 (Or.inl (hsets _ (List.mem_of_getElem? (i := 14) rfl)))
  have eS7 := own_int (Cond.before_iff.mp (hsets _ (List.mem_of_getElem? (i := 18) rfl)))
  have S7 : Sta s s.heap "java/lang/StringUTF16" "LO_BYTE_SHIFT" "I" (.int 8) := Sta.start eS7 (Or.inl (hsets _ (List.mem_of_getElem? (i := 17) rfl)))
  have sf : SF s z fm := ⟨S1, S2, S3, rfm, S5, S6, S7⟩
  have hcw : Jvm.Lit.compactW.before #[.int i0, .int i1, .int i2, .int i3, .int i4, .int i5] s = true := hsets _ (List.mem_of_getElem? (i := 2) rfl)
  have hCH : CHv s consts_1 s.vm s.heap := CHv.start (ew0 hw) (fun p hp => hcalls.1 p hp) hcw (tw hw 24 rfl) (tw hw 6 rfl)
  obtain ⟨n, o, h1, h2, h3, _, L, rfl, ⟨_, N, rfl⟩, -, hq⟩ := (con_law (l := l) (Z := s) (n0 := s.heap.size) (h := s.heap) hw sf i0 i1 i2 i3 i4 i5 (Old.start s) tables_1) (Nat.le_refl _) p e ha hc hk s m _ below hf ((Spec.applies_iff_loose hf).mp happ).1 ⟨rfl, State.Warmed39.refl s, rfl, hCH, fun _ hx => (nomatch hx)⟩ trivial
  refine ⟨n, _, h1, h2, h3, hpost _ _ _ _ _ _ ⟨Cond.after_iff.mpr rfl, Cond.after_iff.mpr (eq_i res_at (Term.int_eval (1)) rfl), trivial⟩ ⟨hq.1, hq.2.1, hq.2.2.1, (hq.2.2.2.sift fun y hy => Or.inr (N y hy)).mono (by decide) (by decide)⟩⟩
theorem main_1_1 : Claimed_1_1 := comes_1 fun _ _ _ _ _ _ h hF => ⟨h.1, hF⟩
theorem main_1_2 : Claimed_1_2 := comes_1 fun _ _ _ _ _ _ h hF => ⟨h.2.1, hF⟩
end Jvm.Pilot.@@N@@
namespace Jvm.Pilot.@@N@@
open Jvm Jvm.ClassFile Sem Op Lib Jvm.Free Jvm.Stand Jvm.Pilot.@@N@@.Jvm.D
/-! MADE BY PROGRAM (witnessworld.py) out of the Statement's table words and the real class files: 21 classes; the members and pool entries that the words name. The judged class is class 1, her method 3. -/
namespace start1
open Jvm.ClassFile
def u (s : String) : CpInfo := .utf8 (stringToUtf16 s)
/-- a pool by its gaps: so many unusable entries, then the entry; so many at the end -/
def gap : Nat → List CpInfo → List CpInfo
  | 0, r => r
  | n + 1, r => .unusable :: gap n r
def poolList (es : List (Nat × CpInfo)) (last : Nat) : List CpInfo := es.foldr (fun e r => gap e.1 (e.2 :: r)) (gap last [])
def pool (es : List (Nat × CpInfo)) (last : Nat) : Array CpInfo := ⟨poolList es last⟩
def fileOf (pool : Array CpInfo) (this : Nat) (attrs : Array Attribute := #[]) (ms : Array MethodInfo := #[]) (fl : Nat := 33) (sup : Nat := 0) (ifs : Array Nat := #[]) (fds : Array FieldInfo := #[]) : ClassFile where
  minorVersion := 0
  majorVersion := 65
  constantPool := pool
  accessFlags := fl
  thisClass := this
  superClass := sup
  interfaces := ifs
  fields := fds
  methods := ms
  attributes := attrs
def plain (name : String) (sup : Option ClassId) : Class where
  name := name
  kind := .ordinary
  loader := none
  accessFlags := 33
  super := sup
  interfaces := #[]
  cf := none
  fields := #[]
  methods := #[]
  instanceTypes := #[]
  staticTypes := #[]
  resolved := #[]
  callSites := []
  init := .initialized
  statics := none
  mirror := none

def pool0 : Array CpInfo := pool [(5, u "<init>"), (0, u "()V"), (1, .class_ 10), (1, u "java/lang/Object")] 113

def k0c0 : Code := { maxStack := 0, maxLocals := 1, code := object_method_1_code, exceptionTable := #[], attributes := #[] }
def k0m0 : Method := { name := "<init>", desc := "()V", sig := { parameters := [], returnType := none }, accessFlags := 1, code := some k0c0 }
/-- java/lang/Object -/
def k0 : Class := { plain "java/lang/Object" none with
  accessFlags := 33
  interfaces := #[]
  cf := some (fileOf pool0 8 #[] #[{ accessFlags := 1, nameIndex := 5, descriptorIndex := 6, attributes := #[] }] 33 0 #[] #[])
  fields := #[]
  methods := #[k0m0]
  instanceTypes := #[]
  staticTypes := #[]
  resolved := Array.replicate 124 none
  statics := none }

def pool1 : Array CpInfo := pool [(2, .class_ 4), (1, u "java/lang/Object"), (0, u "<init>"), (0, u "()V"), (0, .class_ 8), (0, u "java/lang/String"), (0, .methodref 7 10), (0, .nameAndType 5 11), (0, u "([C)V"), (0, .methodref 7 13), (0, .nameAndType 14 15), (0, u "valueOf"), (0, u "(C)Ljava/lang/String;"), (0, .class_ 17), (0, u "com/example/admit/admit/application/KeptBytes"), (0, .integer 65535), (0, .methodref 20 21), (0, .class_ 22), (0, .nameAndType 23 24), (0, u "com/example/admit/admit/application/KeptBytesTextsPinLaw"), (0, u "make"), (0, u "(ICCCC)Ljava/lang/String;"), (0, .methodref 16 26), (0, .nameAndType 27 28), (0, u "texts"), (0, u "([Ljava/lang/String;)I"), (0, .methodref 20 30), (0, .nameAndType 31 32), (0, u "weight"), (0, u "(I)I"), (3, u "law"), (0, u "(IIIIII)Z")] 2

def k1m0 : Method := { name := "<init>", desc := "()V", sig := { parameters := [], returnType := none }, accessFlags := 2, code := none }
def k1c1 : Code := { maxStack := 6, maxLocals := 5, code := method_2_code, exceptionTable := #[], attributes := #[] }
def k1m1 : Method := { name := "make", desc := "(ICCCC)Ljava/lang/String;", sig := { parameters := [.int, .char, .char, .char, .char], returnType := some (.object "java/lang/String") }, accessFlags := 10, code := some k1c1 }
def k1c2 : Code := { maxStack := 2, maxLocals := 1, code := method_3_code, exceptionTable := #[], attributes := #[] }
def k1m2 : Method := { name := "weight", desc := "(I)I", sig := { parameters := [.int], returnType := some .int }, accessFlags := 10, code := some k1c2 }
def k1c3 : Code := { maxStack := 5, maxLocals := 19, code := code, exceptionTable := #[], attributes := #[] }
def k1m3 : Method := { name := "law", desc := "(IIIIII)Z", sig := { parameters := [.int, .int, .int, .int, .int, .int], returnType := some .boolean }, accessFlags := 9, code := some k1c3 }
/-- com/example/admit/admit/application/KeptBytesTextsPinLaw -/
def k1 : Class := { plain "com/example/admit/admit/application/KeptBytesTextsPinLaw" (some 0) with
  accessFlags := 49
  interfaces := #[]
  cf := some (fileOf pool1 20 #[] #[{ accessFlags := 2, nameIndex := 5, descriptorIndex := 6, attributes := #[] }, { accessFlags := 10, nameIndex := 23, descriptorIndex := 24, attributes := #[] }, { accessFlags := 10, nameIndex := 31, descriptorIndex := 32, attributes := #[] }, { accessFlags := 9, nameIndex := 36, descriptorIndex := 37, attributes := #[] }] 49 2 #[] #[])
  fields := #[]
  methods := #[k1m0, k1m1, k1m2, k1m3]
  instanceTypes := #[]
  staticTypes := #[]
  resolved := Array.replicate 40 none
  statics := none }

def pool2 : Array CpInfo := pool [(1, .class_ 2), (0, u "java/io/Serializable"), (0, .class_ 4), (0, u "java/lang/Object")] 2

/-- java/io/Serializable -/
def k2 : Class := { plain "java/io/Serializable" (some 0) with
  accessFlags := 1537
  interfaces := #[]
  cf := some (fileOf pool2 1 #[] #[] 1537 3 #[] #[])
  fields := #[]
  methods := #[]
  instanceTypes := #[]
  staticTypes := #[]
  resolved := Array.replicate 7 none
  statics := none }

def pool3 : Array CpInfo := pool [(1, .class_ 2), (0, u "java/lang/Comparable"), (0, .class_ 4), (0, u "java/lang/Object")] 7

/-- java/lang/Comparable -/
def k3 : Class := { plain "java/lang/Comparable" (some 0) with
  accessFlags := 1537
  interfaces := #[]
  cf := some (fileOf pool3 1 #[] #[] 1537 3 #[] #[])
  fields := #[]
  methods := #[]
  instanceTypes := #[]
  staticTypes := #[]
  resolved := Array.replicate 12 none
  statics := none }

def pool4 : Array CpInfo := pool [(2, .class_ 4), (1, u "java/lang/CharSequence"), (42, .class_ 48), (0, u "java/lang/CharSequence$1CodePointIterator"), (10, .class_ 60), (0, u "java/lang/CharSequence$1CharIterator"), (5, .class_ 67), (0, u "java/lang/Object")] 63

/-- java/lang/CharSequence -/
def k4 : Class := { plain "java/lang/CharSequence" (some 0) with
  accessFlags := 1537
  interfaces := #[]
  cf := some (fileOf pool4 2 #[.nestMembers #[47, 59]] #[] 1537 66 #[] #[])
  fields := #[]
  methods := #[]
  instanceTypes := #[]
  staticTypes := #[]
  resolved := Array.replicate 131 none
  statics := none }

def pool5 : Array CpInfo := pool [(1, .class_ 2), (0, u "java/lang/constant/Constable"), (0, .class_ 4), (0, u "java/lang/Object")] 6

/-- java/lang/constant/Constable -/
def k5 : Class := { plain "java/lang/constant/Constable" (some 0) with
  accessFlags := 1537
  interfaces := #[]
  cf := some (fileOf pool5 1 #[] #[] 1537 3 #[] #[])
  fields := #[]
  methods := #[]
  instanceTypes := #[]
  staticTypes := #[]
  resolved := Array.replicate 11 none
  statics := none }

def pool6 : Array CpInfo := pool [(1, .class_ 2), (0, u "java/lang/constant/ConstantDesc"), (0, .class_ 4), (0, u "java/lang/Object")] 32

/-- java/lang/constant/ConstantDesc -/
def k6 : Class := { plain "java/lang/constant/ConstantDesc" (some 0) with
  accessFlags := 1537
  interfaces := #[]
  cf := some (fileOf pool6 1 #[] #[] 1537 3 #[] #[])
  fields := #[]
  methods := #[]
  instanceTypes := #[]
  staticTypes := #[]
  resolved := Array.replicate 37 none
  statics := none }

def pool7 : Array CpInfo := pool [(1, .methodref 2 3), (0, .class_ 4), (0, .nameAndType 5 6), (0, u "java/lang/Object"), (0, u "<init>"), (0, u "()V"), (0, .string 8), (0, u ""), (0, .fieldref 10 11), (0, .class_ 12), (0, .nameAndType 13 14), (0, u "java/lang/String"), (0, u "value"), (0, u "[B"), (0, .fieldref 10 16), (0, .nameAndType 17 18), (0, u "coder"), (0, u "B"), (2, u "hash"), (0, u "I"), (2, u "hashIsZero"), (0, u "Z"), (0, .methodref 10 28), (0, .nameAndType 5 29), (0, u "([CIILjava/lang/Void;)V"), (8, .fieldref 10 39), (0, .nameAndType 40 26), (0, u "COMPACT_STRINGS"), (1, .class_ 44), (1, u "java/lang/StringUTF16"), (0, u "compress"), (1, .methodref 42 48), (0, .nameAndType 49 50), (0, u "coderFromArrayLen"), (0, u "([BI)B"), (2, u "toBytes"), (53, .class_ 109), (1, u "java/lang/StringLatin1"), (67, .methodref 42 178), (0, .nameAndType 45 179), (0, u "([CII)[B"), (29, .methodref 10 210), (0, .nameAndType 5 211), (0, u "([BB)V"), (122, u "()I"), (0, .methodref 10 336), (0, .nameAndType 17 337), (0, u "()B"), (31, u "(C)Z"), (137, u "length"), (67, .class_ 576), (0, u "java/lang/CharSequence"), (22, u "CASE_INSENSITIVE_ORDER"), (0, u "Ljava/util/Comparator;"), (181, u "valueOf"), (0, u "(C)Ljava/lang/String;"), (226, u "([C)V"), (4, .methodref 107 1016), (0, .nameAndType 1017 369), (0, u "canEncode"), (0, .methodref 107 1019), (0, .nameAndType 53 1020), (0, u "(C)[B"), (0, .methodref 42 1019), (79, u "serialPersistentFields"), (0, u "[Ljava/io/ObjectStreamField;"), (0, .class_ 1104), (0, u "java/lang/String$CaseInsensitiveComparator"), (1, .class_ 1107), (0, u "java/io/Serializable"), (0, .class_ 1109), (0, u "java/lang/Comparable"), (0, .class_ 1111), (0, u "java/lang/constant/Constable"), (0, .class_ 1113), (0, u "java/lang/constant/ConstantDesc"), (2, u "serialVersionUID"), (0, u "J"), (3, u "REPL"), (0, u "C"), (2, u "LATIN1"), (1, u "UTF16")] 323

def k7m0 : Method := { name := "<init>", desc := "()V", sig := { parameters := [], returnType := none }, accessFlags := 1, code := none }
def k7c1 : Code := { maxStack := 5, maxLocals := 2, code := jdk_42_method_3_code, exceptionTable := #[], attributes := #[] }
def k7m1 : Method := { name := "<init>", desc := "([C)V", sig := { parameters := [(.array .char)], returnType := none }, accessFlags := 1, code := some k7c1 }
def k7c2 : Code := { maxStack := 2, maxLocals := 1, code := jdk_42_method_54_code, exceptionTable := #[], attributes := #[] }
def k7m2 : Method := { name := "length", desc := "()I", sig := { parameters := [], returnType := some .int }, accessFlags := 1, code := some k7c2 }
def k7c3 : Code := { maxStack := 4, maxLocals := 1, code := jdk_42_method_139_code, exceptionTable := #[], attributes := #[] }
def k7m3 : Method := { name := "valueOf", desc := "(C)Ljava/lang/String;", sig := { parameters := [.char], returnType := some (.object "java/lang/String") }, accessFlags := 9, code := some k7c3 }
def k7c4 : Code := { maxStack := 4, maxLocals := 6, code := jdk_42_method_149_code, exceptionTable := #[], attributes := #[] }
def k7m4 : Method := { name := "<init>", desc := "([CIILjava/lang/Void;)V", sig := { parameters := [(.array .char), .int, .int, (.object "java/lang/Void")], returnType := none }, accessFlags := 2, code := some k7c4 }
def k7c5 : Code := { maxStack := 2, maxLocals := 3, code := jdk_42_method_151_code, exceptionTable := #[], attributes := #[] }
def k7m5 : Method := { name := "<init>", desc := "([BB)V", sig := { parameters := [(.array .byte), .byte], returnType := none }, accessFlags := 0, code := some k7c5 }
def k7c6 : Code := { maxStack := 1, maxLocals := 1, code := jdk_42_method_152_code, exceptionTable := #[], attributes := #[] }
def k7m6 : Method := { name := "coder", desc := "()B", sig := { parameters := [], returnType := some .byte }, accessFlags := 0, code := some k7c6 }
/-- java/lang/String -/
def k7 : Class := { plain "java/lang/String" (some 0) with
  accessFlags := 49
  interfaces := #[2, 3, 4, 5, 6]
  cf := some (fileOf pool7 10 #[.nestMembers #[1103]] #[{ accessFlags := 1, nameIndex := 5, descriptorIndex := 6, attributes := #[] }, { accessFlags := 1, nameIndex := 5, descriptorIndex := 1010, attributes := #[] }, { accessFlags := 1, nameIndex := 507, descriptorIndex := 334, attributes := #[] }, { accessFlags := 9, nameIndex := 782, descriptorIndex := 783, attributes := #[] }, { accessFlags := 2, nameIndex := 5, descriptorIndex := 29, attributes := #[] }, { accessFlags := 0, nameIndex := 5, descriptorIndex := 211, attributes := #[] }, { accessFlags := 0, nameIndex := 17, descriptorIndex := 337, attributes := #[] }] 49 2 #[1106, 1108, 575, 1110, 1112] #[{ accessFlags := 18, nameIndex := 13, descriptorIndex := 14, attributes := #[] }, { accessFlags := 18, nameIndex := 17, descriptorIndex := 18, attributes := #[] }, { accessFlags := 2, nameIndex := 21, descriptorIndex := 22, attributes := #[] }, { accessFlags := 2, nameIndex := 25, descriptorIndex := 26, attributes := #[] }, { accessFlags := 26, nameIndex := 1116, descriptorIndex := 1117, attributes := #[] }, { accessFlags := 24, nameIndex := 40, descriptorIndex := 26, attributes := #[] }, { accessFlags := 26, nameIndex := 1101, descriptorIndex := 1102, attributes := #[] }, { accessFlags := 26, nameIndex := 1121, descriptorIndex := 1122, attributes := #[] }, { accessFlags := 25, nameIndex := 599, descriptorIndex := 600, attributes := #[] }, { accessFlags := 24, nameIndex := 1125, descriptorIndex := 18, attributes := #[] }, { accessFlags := 24, nameIndex := 1127, descriptorIndex := 18, attributes := #[] }])
  fields := #[{ name := "value", type := (.array .byte), accessFlags := 18, slot := 0, constantValue := 0 }, { name := "coder", type := .byte, accessFlags := 18, slot := 1, constantValue := 0 }, { name := "hash", type := .int, accessFlags := 2, slot := 2, constantValue := 0 }, { name := "hashIsZero", type := .boolean, accessFlags := 2, slot := 3, constantValue := 0 }, { name := "serialVersionUID", type := .long, accessFlags := 26, slot := 0, constantValue := 0 }, { name := "COMPACT_STRINGS", type := .boolean, accessFlags := 24, slot := 1, constantValue := 0 }, { name := "serialPersistentFields", type := (.array (.object "java/io/ObjectStreamField")), accessFlags := 26, slot := 2, constantValue := 0 }, { name := "REPL", type := .char, accessFlags := 26, slot := 3, constantValue := 0 }, { name := "CASE_INSENSITIVE_ORDER", type := (.object "java/util/Comparator"), accessFlags := 25, slot := 4, constantValue := 0 }, { name := "LATIN1", type := .byte, accessFlags := 24, slot := 5, constantValue := 0 }, { name := "UTF16", type := .byte, accessFlags := 24, slot := 6, constantValue := 0 }]
  methods := #[k7m0, k7m1, k7m2, k7m3, k7m4, k7m5, k7m6]
  instanceTypes := #[(.array .byte), .byte, .int, .boolean]
  staticTypes := #[.long, .boolean, (.array (.object "java/io/ObjectStreamField")), .char, (.object "java/util/Comparator"), .byte, .byte]
  resolved := Array.replicate 1451 none
  statics := some 0 }

def pool8 : Array CpInfo := pool [(6, .class_ 8), (1, u "java/lang/Object"), (0, u "<init>"), (0, u "()V"), (0, .methodref 12 13), (0, .class_ 14), (0, .nameAndType 15 16), (0, u "java/lang/StringUTF16"), (0, u "newBytesLength"), (0, u "(I)I"), (3, .integer 1073741823), (23, .fieldref 12 45), (0, .nameAndType 46 47), (0, u "$assertionsDisabled"), (0, u "Z"), (11, .fieldref 12 60), (0, .nameAndType 61 62), (0, u "HI_BYTE_SHIFT"), (0, u "I"), (0, .fieldref 12 64), (0, .nameAndType 65 62), (0, u "LO_BYTE_SHIFT"), (5, .methodref 12 72), (0, .nameAndType 73 74), (0, u "getChar"), (0, u "([BI)C"), (32, .methodref 12 108), (0, .nameAndType 109 110), (0, u "newBytesFor"), (0, u "(I)[B"), (0, .methodref 12 112), (0, .nameAndType 113 114), (0, u "putChar"), (0, u "([BII)V"), (0, .methodref 12 116), (0, .nameAndType 117 118), (0, u "compress"), (0, u "([CI[BII)I"), (0, .methodref 12 120), (0, .nameAndType 121 122), (0, u "toBytes"), (0, u "([CII)[B"), (138, u "coderFromArrayLen"), (0, u "([BI)B"), (106, .class_ 371), (1, u "java/lang/StringUTF16$LinesSpliterator"), (58, u "MAX_LENGTH"), (44, u "(C)[B"), (151, .class_ 628), (0, u "java/lang/StringUTF16$CodePointsSpliterator"), (0, .class_ 630), (0, u "java/lang/StringUTF16$CharsSpliterator")] 4

def k8m0 : Method := { name := "<init>", desc := "()V", sig := { parameters := [], returnType := none }, accessFlags := 0, code := none }
def k8c1 : Code := { maxStack := 1, maxLocals := 1, code := jdk_52_method_2_code, exceptionTable := #[], attributes := #[] }
def k8m1 : Method := { name := "newBytesFor", desc := "(I)[B", sig := { parameters := [.int], returnType := some (.array .byte) }, accessFlags := 9, code := some k8c1 }
def k8c2 : Code := { maxStack := 4, maxLocals := 1, code := jdk_52_method_3_code, exceptionTable := #[], attributes := #[] }
def k8m2 : Method := { name := "newBytesLength", desc := "(I)I", sig := { parameters := [.int], returnType := some .int }, accessFlags := 9, code := some k8c2 }
def k8c3 : Code := { maxStack := 4, maxLocals := 3, code := jdk_52_method_4_code, exceptionTable := #[], attributes := #[] }
def k8m3 : Method := { name := "putChar", desc := "([BII)V", sig := { parameters := [(.array .byte), .int, .int], returnType := none }, accessFlags := 8, code := some k8c3 }
def k8c4 : Code := { maxStack := 3, maxLocals := 2, code := jdk_52_method_5_code, exceptionTable := #[], attributes := #[] }
def k8m4 : Method := { name := "getChar", desc := "([BI)C", sig := { parameters := [(.array .byte), .int], returnType := some .char }, accessFlags := 8, code := some k8c4 }
def k8c5 : Code := { maxStack := 4, maxLocals := 5, code := jdk_52_method_14_code, exceptionTable := #[], attributes := #[] }
def k8m5 : Method := { name := "toBytes", desc := "([CII)[B", sig := { parameters := [(.array .char), .int, .int], returnType := some (.array .byte) }, accessFlags := 9, code := some k8c5 }
def k8c6 : Code := { maxStack := 2, maxLocals := 2, code := jdk_52_method_15_code, exceptionTable := #[], attributes := #[] }
def k8m6 : Method := { name := "coderFromArrayLen", desc := "([BI)B", sig := { parameters := [(.array .byte), .int], returnType := some .byte }, accessFlags := 8, code := some k8c6 }
def k8c7 : Code := { maxStack := 5, maxLocals := 6, code := jdk_52_method_16_code, exceptionTable := #[], attributes := #[] }
def k8m7 : Method := { name := "compress", desc := "([CII)[B", sig := { parameters := [(.array .char), .int, .int], returnType := some (.array .byte) }, accessFlags := 9, code := some k8c7 }
def k8c8 : Code := { maxStack := 3, maxLocals := 7, code := jdk_52_method_21_code, exceptionTable := #[], attributes := #[] }
def k8m8 : Method := { name := "compress", desc := "([CI[BII)I", sig := { parameters := [(.array .char), .int, (.array .byte), .int, .int], returnType := some .int }, accessFlags := 9, code := some k8c8 }
def k8c9 : Code := { maxStack := 3, maxLocals := 2, code := jdk_52_method_24_code, exceptionTable := #[], attributes := #[] }
def k8m9 : Method := { name := "toBytes", desc := "(C)[B", sig := { parameters := [.char], returnType := some (.array .byte) }, accessFlags := 9, code := some k8c9 }
/-- java/lang/StringUTF16 -/
def k8 : Class := { plain "java/lang/StringUTF16" (some 0) with
  accessFlags := 48
  interfaces := #[]
  cf := some (fileOf pool8 12 #[.nestMembers #[627, 629, 369]] #[{ accessFlags := 0, nameIndex := 9, descriptorIndex := 10, attributes := #[] }, { accessFlags := 9, nameIndex := 109, descriptorIndex := 110, attributes := #[] }, { accessFlags := 9, nameIndex := 15, descriptorIndex := 16, attributes := #[] }, { accessFlags := 8, nameIndex := 113, descriptorIndex := 114, attributes := #[] }, { accessFlags := 8, nameIndex := 73, descriptorIndex := 74, attributes := #[] }, { accessFlags := 9, nameIndex := 121, descriptorIndex := 122, attributes := #[] }, { accessFlags := 8, nameIndex := 261, descriptorIndex := 262, attributes := #[] }, { accessFlags := 9, nameIndex := 117, descriptorIndex := 122, attributes := #[] }, { accessFlags := 9, nameIndex := 117, descriptorIndex := 118, attributes := #[] }, { accessFlags := 9, nameIndex := 121, descriptorIndex := 475, attributes := #[] }] 48 6 #[] #[{ accessFlags := 26, nameIndex := 61, descriptorIndex := 62, attributes := #[] }, { accessFlags := 26, nameIndex := 65, descriptorIndex := 62, attributes := #[] }, { accessFlags := 24, nameIndex := 430, descriptorIndex := 62, attributes := #[] }, { accessFlags := 4120, nameIndex := 46, descriptorIndex := 47, attributes := #[] }])
  fields := #[{ name := "HI_BYTE_SHIFT", type := .int, accessFlags := 26, slot := 0, constantValue := 0 }, { name := "LO_BYTE_SHIFT", type := .int, accessFlags := 26, slot := 1, constantValue := 0 }, { name := "MAX_LENGTH", type := .int, accessFlags := 24, slot := 2, constantValue := 0 }, { name := "$assertionsDisabled", type := .boolean, accessFlags := 4120, slot := 3, constantValue := 0 }]
  methods := #[k8m0, k8m1, k8m2, k8m3, k8m4, k8m5, k8m6, k8m7, k8m8, k8m9]
  instanceTypes := #[]
  staticTypes := #[.int, .int, .int, .boolean]
  resolved := Array.replicate 635 none
  statics := some 1 }

def pool9 : Array CpInfo := pool [(4, .class_ 6), (1, u "java/lang/Object"), (0, u "<init>"), (0, u "()V"), (5, .class_ 16), (1, u "java/lang/StringLatin1"), (73, u "canEncode"), (14, u "(C)Z"), (15, u "$assertionsDisabled"), (0, u "Z"), (98, .class_ 223), (1, u "java/lang/StringLatin1$LinesSpliterator"), (156, u "toBytes"), (1, u "(C)[B"), (7, .class_ 391), (0, u "java/lang/StringLatin1$CharsSpliterator")] 3

def k9m0 : Method := { name := "<init>", desc := "()V", sig := { parameters := [], returnType := none }, accessFlags := 0, code := none }
def k9c1 : Code := { maxStack := 2, maxLocals := 1, code := jdk_43_method_3_code, exceptionTable := #[], attributes := #[] }
def k9m1 : Method := { name := "canEncode", desc := "(C)Z", sig := { parameters := [.char], returnType := some .boolean }, accessFlags := 9, code := some k9c1 }
def k9c2 : Code := { maxStack := 4, maxLocals := 1, code := jdk_43_method_46_code, exceptionTable := #[], attributes := #[] }
def k9m2 : Method := { name := "toBytes", desc := "(C)[B", sig := { parameters := [.char], returnType := some (.array .byte) }, accessFlags := 9, code := some k9c2 }
/-- java/lang/StringLatin1 -/
def k9 : Class := { plain "java/lang/StringLatin1" (some 0) with
  accessFlags := 48
  interfaces := #[]
  cf := some (fileOf pool9 14 #[.nestMembers #[390, 221]] #[{ accessFlags := 0, nameIndex := 7, descriptorIndex := 8, attributes := #[] }, { accessFlags := 9, nameIndex := 90, descriptorIndex := 105, attributes := #[] }, { accessFlags := 9, nameIndex := 380, descriptorIndex := 382, attributes := #[] }] 48 4 #[] #[{ accessFlags := 4120, nameIndex := 121, descriptorIndex := 122, attributes := #[] }])
  fields := #[{ name := "$assertionsDisabled", type := .boolean, accessFlags := 4120, slot := 0, constantValue := 0 }]
  methods := #[k9m0, k9m1, k9m2]
  instanceTypes := #[]
  staticTypes := #[.boolean]
  resolved := Array.replicate 395 none
  statics := none }

def pool10 : Array CpInfo := pool [(2, .class_ 4), (1, u "java/lang/Object"), (0, u "<init>"), (0, u "()V"), (0, .class_ 8), (0, u "com/example/admit/admit/application/KeptBytes"), (0, .methodref 10 11), (0, .class_ 12), (0, .nameAndType 13 14), (0, u "java/lang/String"), (0, u "length"), (0, u "()I"), (0, u "OBJECT"), (0, u "I"), (2, u "TEXT"), (5, u "texts"), (0, u "([Ljava/lang/String;)I")] 5

def k10m0 : Method := { name := "<init>", desc := "()V", sig := { parameters := [], returnType := none }, accessFlags := 2, code := none }
def k10c1 : Code := { maxStack := 4, maxLocals := 6, code := prog_18_method_3_code, exceptionTable := #[], attributes := #[] }
def k10m1 : Method := { name := "texts", desc := "([Ljava/lang/String;)I", sig := { parameters := [(.array (.object "java/lang/String"))], returnType := some .int }, accessFlags := 136, code := some k10c1 }
/-- com/example/admit/admit/application/KeptBytes -/
def k10 : Class := { plain "com/example/admit/admit/application/KeptBytes" (some 0) with
  accessFlags := 48
  interfaces := #[]
  cf := some (fileOf pool10 7 #[] #[{ accessFlags := 2, nameIndex := 5, descriptorIndex := 6, attributes := #[] }, { accessFlags := 136, nameIndex := 25, descriptorIndex := 26, attributes := #[] }] 48 2 #[] #[{ accessFlags := 24, nameIndex := 15, descriptorIndex := 16, attributes := #[] }, { accessFlags := 24, nameIndex := 19, descriptorIndex := 16, attributes := #[] }])
  fields := #[{ name := "OBJECT", type := .int, accessFlags := 24, slot := 0, constantValue := 0 }, { name := "TEXT", type := .int, accessFlags := 24, slot := 1, constantValue := 0 }]
  methods := #[k10m0, k10m1]
  instanceTypes := #[]
  staticTypes := #[.int, .int]
  resolved := Array.replicate 32 none
  statics := none }

def pool11 : Array CpInfo := pool [(2, .class_ 4), (1, u "java/lang/Object"), (0, u "<init>"), (0, u "()V"), (17, .class_ 26), (1, u "jdk/internal/util/Preconditions"), (28, .class_ 56), (0, u "jdk/internal/util/Preconditions$4"), (57, .class_ 115), (0, u "jdk/internal/util/Preconditions$1"), (7, u "SIOOBE_FORMATTER"), (0, u "Ljava/util/function/BiFunction;"), (0, .class_ 126), (0, u "jdk/internal/util/Preconditions$2"), (3, u "AIOOBE_FORMATTER"), (0, .class_ 132), (0, u "jdk/internal/util/Preconditions$3"), (3, u "IOOBE_FORMATTER")] 57

def k11m0 : Method := { name := "<init>", desc := "()V", sig := { parameters := [], returnType := none }, accessFlags := 1, code := none }
/-- jdk/internal/util/Preconditions -/
def k11 : Class := { plain "jdk/internal/util/Preconditions" (some 0) with
  accessFlags := 33
  interfaces := #[]
  cf := some (fileOf pool11 24 #[.nestMembers #[55, 131, 125, 114]] #[{ accessFlags := 1, nameIndex := 5, descriptorIndex := 6, attributes := #[] }] 33 2 #[] #[{ accessFlags := 25, nameIndex := 123, descriptorIndex := 124, attributes := #[] }, { accessFlags := 25, nameIndex := 130, descriptorIndex := 124, attributes := #[] }, { accessFlags := 25, nameIndex := 136, descriptorIndex := 124, attributes := #[] }])
  fields := #[{ name := "SIOOBE_FORMATTER", type := (.object "java/util/function/BiFunction"), accessFlags := 25, slot := 0, constantValue := 0 }, { name := "AIOOBE_FORMATTER", type := (.object "java/util/function/BiFunction"), accessFlags := 25, slot := 1, constantValue := 0 }, { name := "IOOBE_FORMATTER", type := (.object "java/util/function/BiFunction"), accessFlags := 25, slot := 2, constantValue := 0 }]
  methods := #[k11m0]
  instanceTypes := #[]
  staticTypes := #[(.object "java/util/function/BiFunction"), (.object "java/util/function/BiFunction"), (.object "java/util/function/BiFunction")]
  resolved := Array.replicate 194 none
  statics := some 2 }

def pool12 : Array CpInfo := pool [(9, u "<init>"), (6, .class_ 18), (1, u "java/lang/Object"), (0, u "()V"), (1, .class_ 23), (1, u "jdk/internal/util/ArraysSupport"), (0, u "LOG2_ARRAY_LONG_INDEX_SCALE"), (0, u "I"), (2, u "U"), (0, u "Ljdk/internal/misc/Unsafe;"), (8, u "BIG_ENDIAN"), (0, u "Z"), (8, u "LOG2_BYTE_BIT_SIZE"), (4, u "LOG2_ARRAY_INT_INDEX_SCALE"), (54, u "JLA"), (0, u "Ljdk/internal/access/JavaLangAccess;"), (11, u "LOG2_ARRAY_BOOLEAN_INDEX_SCALE"), (9, u "LOG2_ARRAY_BYTE_INDEX_SCALE"), (5, u "LOG2_ARRAY_CHAR_INDEX_SCALE"), (5, u "LOG2_ARRAY_SHORT_INDEX_SCALE"), (18, u "LOG2_ARRAY_FLOAT_INDEX_SCALE"), (24, u "LOG2_ARRAY_DOUBLE_INDEX_SCALE"), (89, u "T_BOOLEAN"), (2, u "T_CHAR"), (1, u "T_FLOAT"), (1, u "T_DOUBLE"), (1, u "T_BYTE"), (1, u "T_SHORT"), (1, u "T_INT"), (1, u "T_LONG"), (1, u "SOFT_MAX_ARRAY_LENGTH")] 83

def k12m0 : Method := { name := "<init>", desc := "()V", sig := { parameters := [], returnType := none }, accessFlags := 2, code := none }
/-- jdk/internal/util/ArraysSupport -/
def k12 : Class := { plain "jdk/internal/util/ArraysSupport" (some 0) with
  accessFlags := 33
  interfaces := #[]
  cf := some (fileOf pool12 21 #[] #[{ accessFlags := 2, nameIndex := 9, descriptorIndex := 19, attributes := #[] }] 33 16 #[] #[{ accessFlags := 24, nameIndex := 28, descriptorIndex := 29, attributes := #[] }, { accessFlags := 26, nameIndex := 38, descriptorIndex := 39, attributes := #[] }, { accessFlags := 25, nameIndex := 121, descriptorIndex := 25, attributes := #[] }, { accessFlags := 25, nameIndex := 131, descriptorIndex := 25, attributes := #[] }, { accessFlags := 25, nameIndex := 137, descriptorIndex := 25, attributes := #[] }, { accessFlags := 25, nameIndex := 143, descriptorIndex := 25, attributes := #[] }, { accessFlags := 25, nameIndex := 53, descriptorIndex := 25, attributes := #[] }, { accessFlags := 25, nameIndex := 24, descriptorIndex := 25, attributes := #[] }, { accessFlags := 25, nameIndex := 162, descriptorIndex := 25, attributes := #[] }, { accessFlags := 25, nameIndex := 187, descriptorIndex := 25, attributes := #[] }, { accessFlags := 26, nameIndex := 48, descriptorIndex := 25, attributes := #[] }, { accessFlags := 25, nameIndex := 277, descriptorIndex := 25, attributes := #[] }, { accessFlags := 25, nameIndex := 280, descriptorIndex := 25, attributes := #[] }, { accessFlags := 25, nameIndex := 282, descriptorIndex := 25, attributes := #[] }, { accessFlags := 25, nameIndex := 284, descriptorIndex := 25, attributes := #[] }, { accessFlags := 25, nameIndex := 286, descriptorIndex := 25, attributes := #[] }, { accessFlags := 25, nameIndex := 288, descriptorIndex := 25, attributes := #[] }, { accessFlags := 25, nameIndex := 290, descriptorIndex := 25, attributes := #[] }, { accessFlags := 25, nameIndex := 292, descriptorIndex := 25, attributes := #[] }, { accessFlags := 26, nameIndex := 108, descriptorIndex := 109, attributes := #[] }, { accessFlags := 25, nameIndex := 294, descriptorIndex := 25, attributes := #[] }])
  fields := #[{ name := "U", type := (.object "jdk/internal/misc/Unsafe"), accessFlags := 24, slot := 0, constantValue := 0 }, { name := "BIG_ENDIAN", type := .boolean, accessFlags := 26, slot := 1, constantValue := 0 }, { name := "LOG2_ARRAY_BOOLEAN_INDEX_SCALE", type := .int, accessFlags := 25, slot := 2, constantValue := 0 }, { name := "LOG2_ARRAY_BYTE_INDEX_SCALE", type := .int, accessFlags := 25, slot := 3, constantValue := 0 }, { name := "LOG2_ARRAY_CHAR_INDEX_SCALE", type := .int, accessFlags := 25, slot := 4, constantValue := 0 }, { name := "LOG2_ARRAY_SHORT_INDEX_SCALE", type := .int, accessFlags := 25, slot := 5, constantValue := 0 }, { name := "LOG2_ARRAY_INT_INDEX_SCALE", type := .int, accessFlags := 25, slot := 6, constantValue := 0 }, { name := "LOG2_ARRAY_LONG_INDEX_SCALE", type := .int, accessFlags := 25, slot := 7, constantValue := 0 }, { name := "LOG2_ARRAY_FLOAT_INDEX_SCALE", type := .int, accessFlags := 25, slot := 8, constantValue := 0 }, { name := "LOG2_ARRAY_DOUBLE_INDEX_SCALE", type := .int, accessFlags := 25, slot := 9, constantValue := 0 }, { name := "LOG2_BYTE_BIT_SIZE", type := .int, accessFlags := 26, slot := 10, constantValue := 0 }, { name := "T_BOOLEAN", type := .int, accessFlags := 25, slot := 11, constantValue := 0 }, { name := "T_CHAR", type := .int, accessFlags := 25, slot := 12, constantValue := 0 }, { name := "T_FLOAT", type := .int, accessFlags := 25, slot := 13, constantValue := 0 }, { name := "T_DOUBLE", type := .int, accessFlags := 25, slot := 14, constantValue := 0 }, { name := "T_BYTE", type := .int, accessFlags := 25, slot := 15, constantValue := 0 }, { name := "T_SHORT", type := .int, accessFlags := 25, slot := 16, constantValue := 0 }, { name := "T_INT", type := .int, accessFlags := 25, slot := 17, constantValue := 0 }, { name := "T_LONG", type := .int, accessFlags := 25, slot := 18, constantValue := 0 }, { name := "JLA", type := (.object "jdk/internal/access/JavaLangAccess"), accessFlags := 26, slot := 19, constantValue := 0 }, { name := "SOFT_MAX_ARRAY_LENGTH", type := .int, accessFlags := 25, slot := 20, constantValue := 0 }]
  methods := #[k12m0]
  instanceTypes := #[]
  staticTypes := #[(.object "jdk/internal/misc/Unsafe"), .boolean, .int, .int, .int, .int, .int, .int, .int, .int, .int, .int, .int, .int, .int, .int, .int, .int, .int, (.object "jdk/internal/access/JavaLangAccess"), .int]
  resolved := Array.replicate 378 none
  statics := none }

def pool13 : Array CpInfo := pool [(1, u "java/lang/Cloneable"), (0, .class_ 1), (0, u "java/lang/Object"), (0, .class_ 3)] 3

/-- java/lang/Cloneable -/
def k13 : Class := { plain "java/lang/Cloneable" (some 0) with
  accessFlags := 1537
  interfaces := #[]
  cf := some (fileOf pool13 2 #[] #[] 1537 4 #[] #[])
  fields := #[]
  methods := #[]
  instanceTypes := #[]
  staticTypes := #[]
  resolved := Array.replicate 8 none
  statics := none }

/-- the primitive byte -/
def k14 : Class := { plain "byte" none with kind := .primitive 'B', accessFlags := 0x411 }
/-- [B -/
def k15 : Class := { plain "[B" (some 0) with kind := .array 14 .byte, interfaces := #[13, 2], accessFlags := 1041 }

/-- the primitive char -/
def k16 : Class := { plain "char" none with kind := .primitive 'C', accessFlags := 0x411 }
/-- [C -/
def k17 : Class := { plain "[C" (some 0) with kind := .array 16 .char, interfaces := #[13, 2], accessFlags := 1041 }

/-- the primitive int -/
def k18 : Class := { plain "int" none with kind := .primitive 'I', accessFlags := 0x411 }
/-- [I -/
def k19 : Class := { plain "[I" (some 0) with kind := .array 18 .int, interfaces := #[13, 2], accessFlags := 1041 }

/-- [Ljava/lang/String; -/
def k20 : Class := { plain "[Ljava/lang/String;" (some 0) with kind := .array 7 (.object "java/lang/String"), interfaces := #[13, 2], accessFlags := 1041 }

def heap : Heap := #[{ cls := 7, slots := #[.long 0, .int 1, .null, .int 0, .null, .int 0, .int 0], vm := .statics 7 },
  { cls := 8, slots := #[.int 0, .int 8, .int 0, .int 1], vm := .statics 8 },
  { cls := 11, slots := #[.null, .null, .null], vm := .statics 11 }]
def classes : Array Class := #[k0, k1, k2, k3, k4, k5, k6, k7, k8, k9, k10, k11, k12, k13, k14, k15, k16, k17, k18, k19, k20]
def interned : List (Array UInt16 × Addr) := []
def slotsUsed : Nat := 14
def theMethod : MethodId := ⟨1, 3⟩
def args0 : Array Value := #[.int 5, .int 6, .int 7, .int 8, .int 9, .int 10]
def aboutOver (below : List Frame) : State where
  vm := { classes := classes, interned := interned.toArray }
  heap := heap
  slotsUsed := slotsUsed
  threads := #[{ frames := .invoking theMethod args0 :: below }]
def below0 : List Frame := [.native { method := ⟨0, 0⟩, args := #[] }]
def about1 : State := aboutOver below0
def p0 : Program := .bare "" "" ""
def e0 : Env := launch0.env 0 0 0
theorem w_frames : about1.frames = Frame.invoking theMethod args0 :: below0 := rfl
set_option maxRecDepth 65536 in
theorem w_args : argsFit about1.vm theMethod args0 = true := by decide +kernel
set_option maxRecDepth 65536 in
theorem w_heap : heapFits about1 = true := by decide +kernel
set_option maxRecDepth 65536 in
theorem w_runnable : about1.curStatus? = some .runnable := by decide +kernel
set_option maxRecDepth 65536 in
theorem w_alone : about1.alone = true := by decide +kernel
set_option maxRecDepth 65536 in
theorem w_named : about1.methodNamed? x = some theMethod := by decide +kernel
set_option maxRecDepth 65536 in
theorem w_hears : about1.hears theMethod below0 = true := by decide +kernel
set_option maxRecDepth 65536 in
theorem w_ripe : about1.ripe theMethod args0 below0 = true := by decide +kernel
theorem w_running : about1.status = .running := rfl
set_option maxRecDepth 65536 in
theorem w_room : about1.hasRoom e0.platform room_1 = true :=
  launch0.hasRoom_least _ room_1 (by decide +kernel) (by decide +kernel) (by decide +kernel) (by decide +kernel) (by decide +kernel) (by decide +kernel)
theorem allAtoms_all (ts : List Jvm.Cond) (a : Array Jvm.Value) (st : Jvm.State) : (allAtoms ts).before a st = ts.all (fun c => c.before a st) := by
  induction ts with
  | nil => rfl
  | cons c t ih =>
    show (Jvm.Cond.and c (allAtoms t)).before a st = _
    rw [Jvm.Cond.before_and, ih, List.all_cons]
def words1 : List Jvm.Cond := Jvm.Cond.code x code maxLocals ret :: tables_1
/-- a 'code' word, met by the world's own term for the bytes: nothing is compared byte by byte -/
theorem code_word {y : MethodName} {bytes : ByteArray} {mx : Nat} {rt : Option FieldType} {a : Array Value} {s : State} {m : MethodId} {meth : Method} {c : Code} (h1 : s.methodNamed? y = some m) (h2 : s.vm.method? m = some meth) (h3 : meth.code = some c) (h4 : c.code = bytes)
    (h5 : (c.maxLocals == mx && c.exceptionTable.isEmpty && decide (c.maxStack ≤ mostOperands) && decide (meth.sig.returnType = rt) && !meth.locks && decide (parseMethodDescriptor y.desc = some meth.sig)) = true) : (Jvm.Cond.code y bytes mx rt).before a s = true := by
  simp only [Bool.and_eq_true, beq_iff_eq, Bool.not_eq_true', decide_eq_true_eq] at h5
  obtain ⟨⟨⟨⟨⟨g1, g2⟩, g3⟩, g4⟩, g5⟩, g6⟩ := h5
  simp [Cond.before, Cond.holds, Cond.value, h1, h2, h3, h4, g1, g2, g3, g4, g5, g6]
def isCode : Jvm.Cond → Bool
  | .code _ _ _ _ => true
  | _ => false
theorem all_split {L : List Jvm.Cond} {P : Jvm.Cond → Bool} (h1 : L.all (fun c => isCode c || P c) = true) (h2 : ∀ c ∈ L.filter isCode, P c = true) : L.all P = true := by
  refine List.all_eq_true.mpr fun c hc => ?_
  have h := List.all_eq_true.mp h1 c hc
  rcases Bool.eq_false_or_eq_true (isCode c) with hi | hi
  · exact h2 c (List.mem_filter.mpr ⟨hc, hi⟩)
  · simpa [hi] using h
set_option maxRecDepth 65536 in
theorem w_c0 : (Jvm.Cond.code x code maxLocals ret).before args0 about1 = true := code_word (m := ⟨1, 3⟩) (meth := k1m3) (c := k1c3) (by decide +kernel) rfl rfl rfl (by decide +kernel)
set_option maxRecDepth 65536 in
theorem w_c1 : (Jvm.Cond.code ({ cls := "com/example/admit/admit/application/KeptBytesTextsPinLaw", name := "make", desc := "(ICCCC)Ljava/lang/String;" } : Jvm.MethodName) method_2_code (5 : Nat) (Option.some (Jvm.ClassFile.FieldType.object "java/lang/String"))).before args0 about1 = true := code_word (m := ⟨1, 1⟩) (meth := k1m1) (c := k1c1) (by decide +kernel) rfl rfl rfl (by decide +kernel)
set_option maxRecDepth 65536 in
theorem w_c2 : (Jvm.Cond.code ({ cls := "java/lang/String", name := "<init>", desc := "([C)V" } : Jvm.MethodName) jdk_42_method_3_code (2 : Nat) (Option.none : Option Jvm.ClassFile.FieldType)).before args0 about1 = true := code_word (m := ⟨7, 1⟩) (meth := k7m1) (c := k7c1) (by decide +kernel) rfl rfl rfl (by decide +kernel)
set_option maxRecDepth 65536 in
theorem w_c3 : (Jvm.Cond.code ({ cls := "java/lang/String", name := "<init>", desc := "([CIILjava/lang/Void;)V" } : Jvm.MethodName) jdk_42_method_149_code (6 : Nat) (Option.none : Option Jvm.ClassFile.FieldType)).before args0 about1 = true := code_word (m := ⟨7, 4⟩) (meth := k7m4) (c := k7c4) (by decide +kernel) rfl rfl rfl (by decide +kernel)
set_option maxRecDepth 65536 in
theorem w_c4 : (Jvm.Cond.code ({ cls := "java/lang/Object", name := "<init>", desc := "()V" } : Jvm.MethodName) object_method_1_code (1 : Nat) (Option.none : Option Jvm.ClassFile.FieldType)).before args0 about1 = true := code_word (m := ⟨0, 0⟩) (meth := k0m0) (c := k0c0) (by decide +kernel) rfl rfl rfl (by decide +kernel)
set_option maxRecDepth 65536 in
theorem w_c5 : (Jvm.Cond.code ({ cls := "java/lang/StringUTF16", name := "compress", desc := "([CII)[B" } : Jvm.MethodName) jdk_52_method_16_code (6 : Nat) (Option.some (Jvm.ClassFile.FieldType.array Jvm.ClassFile.FieldType.byte))).before args0 about1 = true := code_word (m := ⟨8, 7⟩) (meth := k8m7) (c := k8c7) (by decide +kernel) rfl rfl rfl (by decide +kernel)
set_option maxRecDepth 65536 in
theorem w_c6 : (Jvm.Cond.code ({ cls := "java/lang/StringUTF16", name := "compress", desc := "([CI[BII)I" } : Jvm.MethodName) jdk_52_method_21_code (7 : Nat) (Option.some Jvm.ClassFile.FieldType.int)).before args0 about1 = true := code_word (m := ⟨8, 8⟩) (meth := k8m8) (c := k8c8) (by decide +kernel) rfl rfl rfl (by decide +kernel)
set_option maxRecDepth 65536 in
theorem w_c7 : (Jvm.Cond.code ({ cls := "java/lang/StringUTF16", name := "coderFromArrayLen", desc := "([BI)B" } : Jvm.MethodName) jdk_52_method_15_code (2 : Nat) (Option.some Jvm.ClassFile.FieldType.byte)).before args0 about1 = true := code_word (m := ⟨8, 6⟩) (meth := k8m6) (c := k8c6) (by decide +kernel) rfl rfl rfl (by decide +kernel)
set_option maxRecDepth 65536 in
theorem w_c8 : (Jvm.Cond.code ({ cls := "java/lang/String", name := "valueOf", desc := "(C)Ljava/lang/String;" } : Jvm.MethodName) jdk_42_method_139_code (1 : Nat) (Option.some (Jvm.ClassFile.FieldType.object "java/lang/String"))).before args0 about1 = true := code_word (m := ⟨7, 3⟩) (meth := k7m3) (c := k7c3) (by decide +kernel) rfl rfl rfl (by decide +kernel)
set_option maxRecDepth 65536 in
theorem w_c9 : (Jvm.Cond.code ({ cls := "java/lang/StringLatin1", name := "canEncode", desc := "(C)Z" } : Jvm.MethodName) jdk_43_method_3_code (1 : Nat) (Option.some Jvm.ClassFile.FieldType.boolean)).before args0 about1 = true := code_word (m := ⟨9, 1⟩) (meth := k9m1) (c := k9c1) (by decide +kernel) rfl rfl rfl (by decide +kernel)
set_option maxRecDepth 65536 in
theorem w_c10 : (Jvm.Cond.code ({ cls := "java/lang/StringLatin1", name := "toBytes", desc := "(C)[B" } : Jvm.MethodName) jdk_43_method_46_code (1 : Nat) (Option.some (Jvm.ClassFile.FieldType.array Jvm.ClassFile.FieldType.byte))).before args0 about1 = true := code_word (m := ⟨9, 2⟩) (meth := k9m2) (c := k9c2) (by decide +kernel) rfl rfl rfl (by decide +kernel)
set_option maxRecDepth 65536 in
theorem w_c11 : (Jvm.Cond.code ({ cls := "java/lang/String", name := "<init>", desc := "([BB)V" } : Jvm.MethodName) jdk_42_method_151_code (3 : Nat) (Option.none : Option Jvm.ClassFile.FieldType)).before args0 about1 = true := code_word (m := ⟨7, 5⟩) (meth := k7m5) (c := k7c5) (by decide +kernel) rfl rfl rfl (by decide +kernel)
set_option maxRecDepth 65536 in
theorem w_c12 : (Jvm.Cond.code ({ cls := "com/example/admit/admit/application/KeptBytes", name := "texts", desc := "([Ljava/lang/String;)I" } : Jvm.MethodName) prog_18_method_3_code (6 : Nat) (Option.some Jvm.ClassFile.FieldType.int)).before args0 about1 = true := code_word (m := ⟨10, 1⟩) (meth := k10m1) (c := k10c1) (by decide +kernel) rfl rfl rfl (by decide +kernel)
set_option maxRecDepth 65536 in
theorem w_c13 : (Jvm.Cond.code ({ cls := "java/lang/String", name := "length", desc := "()I" } : Jvm.MethodName) jdk_42_method_54_code (1 : Nat) (Option.some Jvm.ClassFile.FieldType.int)).before args0 about1 = true := code_word (m := ⟨7, 2⟩) (meth := k7m2) (c := k7c2) (by decide +kernel) rfl rfl rfl (by decide +kernel)
set_option maxRecDepth 65536 in
theorem w_c14 : (Jvm.Cond.code ({ cls := "java/lang/String", name := "coder", desc := "()B" } : Jvm.MethodName) jdk_42_method_152_code (1 : Nat) (Option.some Jvm.ClassFile.FieldType.byte)).before args0 about1 = true := code_word (m := ⟨7, 6⟩) (meth := k7m6) (c := k7c6) (by decide +kernel) rfl rfl rfl (by decide +kernel)
set_option maxRecDepth 65536 in
theorem w_c15 : (Jvm.Cond.code ({ cls := "com/example/admit/admit/application/KeptBytesTextsPinLaw", name := "weight", desc := "(I)I" } : Jvm.MethodName) method_3_code (1 : Nat) (Option.some Jvm.ClassFile.FieldType.int)).before args0 about1 = true := code_word (m := ⟨1, 2⟩) (meth := k1m2) (c := k1c2) (by decide +kernel) rfl rfl rfl (by decide +kernel)
set_option maxRecDepth 65536 in
theorem w_c16 : (Jvm.Cond.code ({ cls := "java/lang/StringUTF16", name := "toBytes", desc := "([CII)[B" } : Jvm.MethodName) jdk_52_method_14_code (5 : Nat) (Option.some (Jvm.ClassFile.FieldType.array Jvm.ClassFile.FieldType.byte))).before args0 about1 = true := code_word (m := ⟨8, 5⟩) (meth := k8m5) (c := k8c5) (by decide +kernel) rfl rfl rfl (by decide +kernel)
set_option maxRecDepth 65536 in
theorem w_c17 : (Jvm.Cond.code ({ cls := "java/lang/StringUTF16", name := "newBytesFor", desc := "(I)[B" } : Jvm.MethodName) jdk_52_method_2_code (1 : Nat) (Option.some (Jvm.ClassFile.FieldType.array Jvm.ClassFile.FieldType.byte))).before args0 about1 = true := code_word (m := ⟨8, 1⟩) (meth := k8m1) (c := k8c1) (by decide +kernel) rfl rfl rfl (by decide +kernel)
set_option maxRecDepth 65536 in
theorem w_c18 : (Jvm.Cond.code ({ cls := "java/lang/StringUTF16", name := "newBytesLength", desc := "(I)I" } : Jvm.MethodName) jdk_52_method_3_code (1 : Nat) (Option.some Jvm.ClassFile.FieldType.int)).before args0 about1 = true := code_word (m := ⟨8, 2⟩) (meth := k8m2) (c := k8c2) (by decide +kernel) rfl rfl rfl (by decide +kernel)
set_option maxRecDepth 65536 in
theorem w_c19 : (Jvm.Cond.code ({ cls := "java/lang/StringUTF16", name := "putChar", desc := "([BII)V" } : Jvm.MethodName) jdk_52_method_4_code (3 : Nat) (Option.none : Option Jvm.ClassFile.FieldType)).before args0 about1 = true := code_word (m := ⟨8, 3⟩) (meth := k8m3) (c := k8c3) (by decide +kernel) rfl rfl rfl (by decide +kernel)
set_option maxRecDepth 65536 in
theorem w_c20 : (Jvm.Cond.code ({ cls := "java/lang/StringUTF16", name := "getChar", desc := "([BI)C" } : Jvm.MethodName) jdk_52_method_5_code (2 : Nat) (Option.some Jvm.ClassFile.FieldType.char)).before args0 about1 = true := code_word (m := ⟨8, 4⟩) (meth := k8m4) (c := k8c4) (by decide +kernel) rfl rfl rfl (by decide +kernel)
set_option maxRecDepth 65536 in
theorem w_c21 : (Jvm.Cond.code ({ cls := "java/lang/StringUTF16", name := "toBytes", desc := "(C)[B" } : Jvm.MethodName) jdk_52_method_24_code (2 : Nat) (Option.some (Jvm.ClassFile.FieldType.array Jvm.ClassFile.FieldType.byte))).before args0 about1 = true := code_word (m := ⟨8, 9⟩) (meth := k8m9) (c := k8c9) (by decide +kernel) rfl rfl rfl (by decide +kernel)
def codes1 : List Jvm.Cond := [Jvm.Cond.code x code maxLocals ret, Jvm.Cond.code ({ cls := "com/example/admit/admit/application/KeptBytesTextsPinLaw", name := "make", desc := "(ICCCC)Ljava/lang/String;" } : Jvm.MethodName) method_2_code (5 : Nat) (Option.some (Jvm.ClassFile.FieldType.object "java/lang/String")), Jvm.Cond.code ({ cls := "java/lang/String", name := "<init>", desc := "([C)V" } : Jvm.MethodName) jdk_42_method_3_code (2 : Nat) (Option.none : Option Jvm.ClassFile.FieldType), Jvm.Cond.code ({ cls := "java/lang/String", name := "<init>", desc := "([CIILjava/lang/Void;)V" } : Jvm.MethodName) jdk_42_method_149_code (6 : Nat) (Option.none : Option Jvm.ClassFile.FieldType), Jvm.Cond.code ({ cls := "java/lang/Object", name := "<init>", desc := "()V" } : Jvm.MethodName) object_method_1_code (1 : Nat) (Option.none : Option Jvm.ClassFile.FieldType), Jvm.Cond.code ({ cls := "java/lang/StringUTF16", name := "compress", desc := "([CII)[B" } : Jvm.MethodName) jdk_52_method_16_code (6 : Nat) (Option.some (Jvm.ClassFile.FieldType.array Jvm.ClassFile.FieldType.byte)), Jvm.Cond.code ({ cls := "java/lang/StringUTF16", name := "compress", desc := "([CI[BII)I" } : Jvm.MethodName) jdk_52_method_21_code (7 : Nat) (Option.some Jvm.ClassFile.FieldType.int), Jvm.Cond.code ({ cls := "java/lang/StringUTF16", name := "coderFromArrayLen", desc := "([BI)B" } : Jvm.MethodName) jdk_52_method_15_code (2 : Nat) (Option.some Jvm.ClassFile.FieldType.byte), Jvm.Cond.code ({ cls := "java/lang/String", name := "valueOf", desc := "(C)Ljava/lang/String;" } : Jvm.MethodName) jdk_42_method_139_code (1 : Nat) (Option.some (Jvm.ClassFile.FieldType.object "java/lang/String")), Jvm.Cond.code ({ cls := "java/lang/StringLatin1", name := "canEncode", desc := "(C)Z" } : Jvm.MethodName) jdk_43_method_3_code (1 : Nat) (Option.some Jvm.ClassFile.FieldType.boolean), Jvm.Cond.code ({ cls := "java/lang/StringLatin1", name := "toBytes", desc := "(C)[B" } : Jvm.MethodName) jdk_43_method_46_code (1 : Nat) (Option.some (Jvm.ClassFile.FieldType.array Jvm.ClassFile.FieldType.byte)), Jvm.Cond.code ({ cls := "java/lang/String", name := "<init>", desc := "([BB)V" } : Jvm.MethodName) jdk_42_method_151_code (3 : Nat) (Option.none : Option Jvm.ClassFile.FieldType), Jvm.Cond.code ({ cls := "com/example/admit/admit/application/KeptBytes", name := "texts", desc := "([Ljava/lang/String;)I" } : Jvm.MethodName) prog_18_method_3_code (6 : Nat) (Option.some Jvm.ClassFile.FieldType.int), Jvm.Cond.code ({ cls := "java/lang/String", name := "length", desc := "()I" } : Jvm.MethodName) jdk_42_method_54_code (1 : Nat) (Option.some Jvm.ClassFile.FieldType.int), Jvm.Cond.code ({ cls := "java/lang/String", name := "coder", desc := "()B" } : Jvm.MethodName) jdk_42_method_152_code (1 : Nat) (Option.some Jvm.ClassFile.FieldType.byte), Jvm.Cond.code ({ cls := "com/example/admit/admit/application/KeptBytesTextsPinLaw", name := "weight", desc := "(I)I" } : Jvm.MethodName) method_3_code (1 : Nat) (Option.some Jvm.ClassFile.FieldType.int), Jvm.Cond.code ({ cls := "java/lang/StringUTF16", name := "toBytes", desc := "([CII)[B" } : Jvm.MethodName) jdk_52_method_14_code (5 : Nat) (Option.some (Jvm.ClassFile.FieldType.array Jvm.ClassFile.FieldType.byte)), Jvm.Cond.code ({ cls := "java/lang/StringUTF16", name := "newBytesFor", desc := "(I)[B" } : Jvm.MethodName) jdk_52_method_2_code (1 : Nat) (Option.some (Jvm.ClassFile.FieldType.array Jvm.ClassFile.FieldType.byte)), Jvm.Cond.code ({ cls := "java/lang/StringUTF16", name := "newBytesLength", desc := "(I)I" } : Jvm.MethodName) jdk_52_method_3_code (1 : Nat) (Option.some Jvm.ClassFile.FieldType.int), Jvm.Cond.code ({ cls := "java/lang/StringUTF16", name := "putChar", desc := "([BII)V" } : Jvm.MethodName) jdk_52_method_4_code (3 : Nat) (Option.none : Option Jvm.ClassFile.FieldType), Jvm.Cond.code ({ cls := "java/lang/StringUTF16", name := "getChar", desc := "([BI)C" } : Jvm.MethodName) jdk_52_method_5_code (2 : Nat) (Option.some Jvm.ClassFile.FieldType.char), Jvm.Cond.code ({ cls := "java/lang/StringUTF16", name := "toBytes", desc := "(C)[B" } : Jvm.MethodName) jdk_52_method_24_code (2 : Nat) (Option.some (Jvm.ClassFile.FieldType.array Jvm.ClassFile.FieldType.byte))]
set_option maxRecDepth 65536 in
theorem codes_eq : words1.filter isCode = codes1 := rfl
theorem w_codes : ∀ c ∈ words1.filter isCode, c.before args0 about1 = true := by
  rw [codes_eq]
  intro c hc
  simp only [codes1, List.mem_cons, List.not_mem_nil, or_false] at hc
  rcases hc with rfl | rfl | rfl | rfl | rfl | rfl | rfl | rfl | rfl | rfl | rfl | rfl | rfl | rfl | rfl | rfl | rfl | rfl | rfl | rfl | rfl | rfl
  · exact w_c0
  · exact w_c1
  · exact w_c2
  · exact w_c3
  · exact w_c4
  · exact w_c5
  · exact w_c6
  · exact w_c7
  · exact w_c8
  · exact w_c9
  · exact w_c10
  · exact w_c11
  · exact w_c12
  · exact w_c13
  · exact w_c14
  · exact w_c15
  · exact w_c16
  · exact w_c17
  · exact w_c18
  · exact w_c19
  · exact w_c20
  · exact w_c21
set_option maxRecDepth 65536 in
theorem w_t1 : (words1.take 24).all (fun c => isCode c || c.before args0 about1) = true := by decide +kernel
set_option maxRecDepth 65536 in
theorem w_t2 : ((words1.drop 24).take 24).all (fun c => isCode c || c.before args0 about1) = true := by decide +kernel
set_option maxRecDepth 65536 in
theorem w_t3 : (((words1.drop 24).drop 24).take 24).all (fun c => isCode c || c.before args0 about1) = true := by decide +kernel
set_option maxRecDepth 65536 in
theorem w_t4 : (((words1.drop 24).drop 24).drop 24).all (fun c => isCode c || c.before args0 about1) = true := by decide +kernel
theorem w_tables : (allAtoms (Jvm.Cond.code x code maxLocals ret :: tables_1)).before args0 about1 = true := by
  rw [allAtoms_all]
  show words1.all (fun c => c.before args0 about1) = true
  refine all_split ?_ w_codes
  rw [← List.take_append_drop 24 words1, List.all_append, w_t1, ← List.take_append_drop 24 (words1.drop 24), List.all_append, w_t2, ← List.take_append_drop 24 ((words1.drop 24).drop 24), List.all_append, w_t3, w_t4]
  rfl
set_option maxRecDepth 65536 in
theorem w_rest : rest_1_c.before args0 about1 = true := by decide +kernel
set_option maxRecDepth 65536 in
theorem w_case : (Jvm.Cond.and given_1 narrow_1).before args0 about1 = true := by decide +kernel
set_option maxRecDepth 65536 in
theorem w_consts : constsHeld consts_1 about1 := Jvm.Lit.constsHeldB_iff.mp (by decide +kernel)
theorem w_applies : (headSpec (Jvm.Cond.code x code maxLocals ret :: tables_1) room_1).applies x e0.platform about1 = true :=
  (Spec.applies_iff w_frames).mpr ⟨w_running, w_runnable, w_alone, w_named, w_hears, w_ripe, w_room, w_tables⟩
theorem atStart : AtStart classFile x code maxLocals ret World_1 tables_1 room_1 Calls_1 rest_1 Pre_1 launch0 p0 e0 about1 theMethod args0 below0 :=
  ⟨lists_1, trivial, launch0.admits_env _ _ _, launch0.least_env, fairChoices_fair.cas, fairChoices_fair.clock, w_frames, w_args, w_heap, w_applies, ⟨w_consts, trivial⟩, w_rest, w_case⟩
end start1
theorem witness_1 : WitnessClaimed_1 := ⟨start1.p0, start1.e0, start1.about1, start1.theMethod, start1.args0, start1.below0, start1.atStart⟩
end Jvm.Pilot.@@N@@
