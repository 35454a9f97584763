import JvmDerived
import JvmDerived.Pilot.@@N@@Statement
import JvmDerived.Pilot.@@N@@Code
set_option linter.unusedVariables false
set_option linter.unusedSimpArgs false
namespace Jvm.Eng
open Jvm Jvm.ClassFile Sem Op Lib Jvm.Free Jvm.Stand Jvm.LawKit Jvm.RoadKit

/-! ## A small machine over abstract objects, and that the JVM's model does what it does -/
abbrev Obj : Type := Sum (FieldType × List Value) (Nat × List (Nat × Value))
abbrev Row : Type := Instr × Nat × Nat × Nat × Value
abbrev Meth : Type := MethodName × ByteArray × Nat × Option FieldType × (Nat → Option Row)
abbrev Fm : Type := Nat × List Slot × List Value
abbrev Cfg : Type := Fm × List Obj × Nat × Nat
abbrev Res : Type := Option Value × List Obj × Nat × Nat
abbrev Fls : Type := Nat × List (Nat × Value × Bool)

/-- where the abstract references lie, and what the tokens (ints that are not known) stand for -/
abbrev Rho : Type := (Nat → Addr) × (Nat → Int32)
/-- an abstract value read by the map of its references and tokens -/
def rl (ρ : Rho) : Value → Value
  | .ref i => .ref (ρ.1 i)
  | .retAddr t => .int (ρ.2 t)
  | v => v
def rs (ρ : Rho) : Slot → Slot
  | .val v => .val (rl ρ v)
  | s => s
abbrev ar (ρ : Rho) (l : List Slot) : Array Slot := (l.map (rs ρ)).toArray
abbrev fm (ρ : Rho) (m : MethodId) (f : Fm) : JFrame := mkF m f.1 (ar ρ f.2.1) (f.2.2.map (rl ρ))

theorem rl_isRef (ρ : Rho) (v : Value) : (rl ρ v).isRef = v.isRef := by cases v <;> rfl
theorem rl_cat (ρ : Rho) (v : Value) : (rl ρ v).category = v.category := by cases v <;> rfl

/-! ### local variables -/
def setS (l : List Slot) (i : Nat) (x : Slot) : Option (List Slot) := if i < l.length then some (l.set i x) else none
def stSelf (l : List Slot) (i : Nat) (v : Value) : Option (List Slot) :=
  match setS l i (.val v) with
  | none => none
  | some l => if v.category = 2 then
      match l[i + 1]? with
      | none => none
      | some (.val old) => if old.category = 2 then (match setS l (i + 2) .unset with | none => none | some l' => setS l' (i + 1) .second) else setS l (i + 1) .second
      | some _ => setS l (i + 1) .second
    else some l
def stL (l : List Slot) (i : Nat) (v : Value) : Option (List Slot) :=
  match l[i]? with
  | none => none
  | some .second => (match setS l (i - 1) .unset with | none => none | some l' => stSelf l' i v)
  | some (.val old) => if old.category = 2 then (match setS l (i + 1) .unset with | none => none | some l' => stSelf l' i v) else stSelf l i v
  | some .unset => stSelf l i v

theorem ar_get {ρ : Rho} {l : List Slot} {i : Nat} {x : Slot} (h : l[i]? = some x) : (ar ρ l)[i]? = some (rs ρ x) := by simp [ar, h]
theorem setS_ok {ρ : Rho} {l l' : List Slot} {i : Nat} {x : Slot} (h : setS l i x = some l') : setAt (ar ρ l) i (rs ρ x) = some (ar ρ l') := by
  unfold setS at h
  split at h
  · rename_i q
    cases h
    unfold setAt
    rw [if_pos (by simpa [ar] using q)]
    simp [ar, List.map_set]
  · cases h
theorem stSelf_ok {ρ : Rho} {l l' : List Slot} {i : Nat} {v : Value} (h : stSelf l i v = some l') : storeSelf (ar ρ l) i (rl ρ v) = some (ar ρ l') := by
  unfold stSelf at h
  unfold storeSelf
  cases h1 : setS l i (.val v) with
  | none => rw [h1] at h; cases h
  | some l1 =>
    rw [h1] at h
    have q1 : setAt (ar ρ l) i (.val (rl ρ v)) = some (ar ρ l1) := setS_ok (ρ := ρ) h1
    simp only [q1, Option.bind_eq_bind, Option.bind_some, rl_cat]
    dsimp only at h
    split at h
    · rename_i hc
      rw [if_pos hc]
      cases h2 : l1[i + 1]? with
      | none => rw [h2] at h; cases h
      | some s2 =>
        rw [h2] at h
        rw [ar_get h2]
        cases s2 with
        | unset => exact setS_ok (ρ := ρ) h
        | second => exact setS_ok (ρ := ρ) h
        | val old =>
          simp only [rs, Option.bind_some, rl_cat]
          dsimp only at h
          split at h
          · rename_i hc2
            rw [if_pos hc2]
            cases h3 : setS l1 (i + 2) .unset with
            | none => rw [h3] at h; cases h
            | some l3 =>
              rw [h3] at h
              have q3 : setAt (ar ρ l1) (i + 2) .unset = some (ar ρ l3) := setS_ok (ρ := ρ) h3
              rw [q3]
              exact setS_ok (ρ := ρ) h
          · rename_i hc2
            rw [if_neg hc2]
            exact setS_ok (ρ := ρ) h
    · rename_i hc
      rw [if_neg hc]
      cases h; rfl
theorem stL_ok {ρ : Rho} {l l' : List Slot} {i : Nat} {v : Value} (h : stL l i v = some l') : storeLocals (ar ρ l) i (rl ρ v) = some (ar ρ l') := by
  unfold stL at h
  unfold storeLocals
  cases h1 : l[i]? with
  | none => rw [h1] at h; cases h
  | some s1 =>
    rw [h1] at h
    rw [ar_get h1]
    cases s1 with
    | unset => exact stSelf_ok h
    | second =>
      dsimp only at h
      simp only [rs, Option.bind_eq_bind, Option.bind_some]
      cases h2 : setS l (i - 1) .unset with
      | none => rw [h2] at h; cases h
      | some l2 =>
        rw [h2] at h
        have q : setAt (ar ρ l) (i - 1) .unset = some (ar ρ l2) := setS_ok (ρ := ρ) h2
        rw [q]
        exact stSelf_ok h
    | val old =>
      dsimp only at h
      simp only [rs, Option.bind_eq_bind, Option.bind_some, rl_cat]
      split at h
      · rename_i hc
        rw [if_pos hc]
        cases h2 : setS l (i + 1) .unset with
        | none => rw [h2] at h; cases h
        | some l2 =>
          rw [h2] at h
          have q : setAt (ar ρ l) (i + 1) .unset = some (ar ρ l2) := setS_ok (ρ := ρ) h2
          rw [q]
          exact stSelf_ok h
      · rename_i hc
        rw [if_neg hc]
        exact stSelf_ok h

/-- the frame with which a method is entered -/
def flat : List Value → List Slot
  | [] => []
  | v :: vs => if v.category = 2 then .val v :: .second :: flat vs else .val v :: flat vs
def entL (as : List Value) (maxL : Nat) : List Slot := flat as ++ List.replicate (maxL - (flat as).length) .unset
theorem flat_fold (ρ : Rho) : ∀ (as : List Value) (acc : Array Slot),
    (as.map (rl ρ)).foldl (fun acc v => if v.category = 2 then (acc.push (.val v)).push .second else acc.push (.val v)) acc = acc ++ ar ρ (flat as)
  | [], acc => by simp [flat, ar]
  | v :: vs, acc => by
    simp only [List.map_cons, List.foldl_cons, rl_cat]
    rw [flat_fold ρ vs]
    by_cases hc : v.category = 2
    · simp [flat, hc, ar, rs]
    · simp [flat, hc, ar, rs]
theorem ent_ok (ρ : Rho) (m : MethodId) (as : List Value) (maxL : Nat) : entryFrame m (as.map (rl ρ)).toArray maxL = fm ρ m (0, entL as maxL, []) := by
  have h : argsToLocals (as.map (rl ρ)).toArray maxL = ar ρ (entL as maxL) := by
    unfold argsToLocals
    have q := flat_fold ρ as #[]
    simp only [List.foldl_toArray'] at *
    rw [q]
    simp [entL, ar, rs]
  simp only [entryFrame, h, fm, mkF, List.map_nil]

/-! ### the pure steps -/
def isI : Value → Bool | .int _ => true | .retAddr _ => true | _ => false
def isJ : Value → Bool | .long _ => true | _ => false
def bI (g : Int32 → Int32 → Int32) : Fm → Option Fm
  | (pc, ls, .int y :: .int x :: st) => some (pc + 1, ls, .int (g x y) :: st)
  | _ => none
def bI0 (g : Int32 → Int32 → Int32) : Fm → Option Fm
  | (pc, ls, .int y :: .int x :: st) => if y = 0 then none else some (pc + 1, ls, .int (g x y) :: st)
  | _ => none
def bL (g : Int64 → Int64 → Int64) : Fm → Option Fm
  | (pc, ls, .long y :: .long x :: st) => some (pc + 1, ls, .long (g x y) :: st)
  | _ => none
def bL0 (g : Int64 → Int64 → Int64) : Fm → Option Fm
  | (pc, ls, .long y :: .long x :: st) => if y = 0 then none else some (pc + 1, ls, .long (g x y) :: st)
  | _ => none
def sL (g : Int64 → Int32 → Int64) : Fm → Option Fm
  | (pc, ls, .int y :: .long x :: st) => some (pc + 1, ls, .long (g x y) :: st)
  | _ => none
def uI (g : Int32 → Int32) : Fm → Option Fm
  | (pc, ls, .int x :: st) => some (pc + 1, ls, .int (g x) :: st)
  | _ => none
def ld (n k : Nat) (ok : Value → Bool) : Fm → Option Fm
  | (pc, ls, st) => match ls[k]? with
    | some (.val v) => if ok v then some (pc + n, ls, v :: st) else none
    | _ => none
def sto (n k : Nat) (ok : Value → Bool) : Fm → Option Fm
  | (pc, ls, v :: st) => if ok v then (match stL ls k v with | some ls' => some (pc + n, ls', st) | none => none) else none
  | _ => none
def psh (n : Nat) (v : Value) : Fm → Option Fm
  | (pc, ls, st) => some (pc + n, ls, v :: st)
def br (c : Bool) (o : Int) (pc : Nat) (ls : List Slot) (st : List Value) : Option Fm :=
  match c with
  | true => if 0 ≤ (pc : Int) + o then some (((pc : Int) + o).toNat, ls, st) else none
  | false => some (pc + 3, ls, st)
/-- the same reference? D: those that are known to be apart -/
def sameR (D : Nat → Nat → Bool) : Value → Value → Option Bool
  | .null, .null => some true
  | .null, .ref _ => some false
  | .ref _, .null => some false
  | .ref i, .ref j => if i = j then some true else if D i j then some false else none
  | _, _ => none
def pIinc (k : Nat) (c : Int) : Fm → Option Fm
  | (pc, ls, st) => match ls[k]? with
    | some (.val (.int x)) => (match stL ls k (.int (x + Int32.ofInt c)) with | some ls' => some (pc + 3, ls', st) | none => none)
    | _ => none
def pGoto (o : Int) : Fm → Option Fm
  | (pc, ls, st) => if 0 ≤ (pc : Int) + o then some (((pc : Int) + o).toNat, ls, st) else none
def pIf (cd : ClassFile.Cond) (o : Int) : Fm → Option Fm
  | (pc, ls, .int x :: st) => br (ifCond.holds cd x) o pc ls st
  | _ => none
def pIcmp (cd : ClassFile.Cond) (o : Int) : Fm → Option Fm
  | (pc, ls, .int y :: .int x :: st) => br (if_icmp.holds cd x y) o pc ls st
  | _ => none
def pAcmp (D : Nat → Nat → Bool) (cd : ACond) (o : Int) : Fm → Option Fm
  | (pc, ls, y :: x :: st) => if 0 ≤ (pc : Int) + o then (match sameR D x y with | some sm => br (acV cd sm) o pc ls st | none => none) else none
  | _ => none
def pNull (w : Bool) (o : Int) : Fm → Option Fm
  | (pc, ls, .null :: st) => br w o pc ls st
  | (pc, ls, .ref _ :: st) => br (!w) o pc ls st
  | _ => none
def pLcmp : Fm → Option Fm
  | (pc, ls, .long y :: .long x :: st) => some (pc + 1, ls, .int (XT.cmpL x y) :: st)
  | _ => none
def pI2l : Fm → Option Fm
  | (pc, ls, .int x :: st) => some (pc + 1, ls, .long x.toInt64 :: st)
  | _ => none
def pL2i : Fm → Option Fm
  | (pc, ls, .long x :: st) => some (pc + 1, ls, .int x.toInt32 :: st)
  | _ => none
def c1 (v : Value) : Bool := v.category == 1
def pDup : Fm → Option Fm
  | (pc, ls, x :: st) => if c1 x then some (pc + 1, ls, x :: x :: st) else none
  | _ => none
def pPop : Fm → Option Fm
  | (pc, ls, x :: st) => if c1 x then some (pc + 1, ls, st) else none
  | _ => none
def pDupX1 : Fm → Option Fm
  | (pc, ls, x :: y :: st) => if c1 x && c1 y then some (pc + 1, ls, x :: y :: x :: st) else none
  | _ => none
def pDup2 : Fm → Option Fm
  | (pc, ls, x :: y :: st) => if c1 x && c1 y then some (pc + 1, ls, x :: y :: x :: y :: st) else none
  | _ => none
def pDupX2 : Fm → Option Fm
  | (pc, ls, x :: y :: z :: st) => if c1 x && c1 y && c1 z then some (pc + 1, ls, x :: y :: z :: x :: st) else none
  | _ => none
def pLdc (v : Value) (f : Fm) : Option Fm := match v with | .int _ => psh 2 v f | _ => none
def pLdc2 (v : Value) (f : Fm) : Option Fm := match v with | .long _ => psh 3 v f | _ => none

def pstep (D : Nat → Nat → Bool) (i : Instr) (v : Value) (f : Fm) : Option Fm :=
  match i with
  | .aload_n k => ld 1 k.val Value.isRef f
  | .aload k => ld 2 k Value.isRef f
  | .iload_n k => ld 1 k.val isI f
  | .iload k => ld 2 k isI f
  | .lload_n k => ld 1 k.val isJ f
  | .lload k => ld 2 k isJ f
  | .astore_n k => sto 1 k.val Value.isRef f
  | .astore k => sto 2 k Value.isRef f
  | .istore_n k => sto 1 k.val isI f
  | .istore k => sto 2 k isI f
  | .lstore_n k => sto 1 k.val isJ f
  | .lstore k => sto 2 k isJ f
  | .iconst c => psh 1 (.int (Int32.ofInt c)) f
  | .lconst c => psh 1 (.long (Int64.ofNat c)) f
  | .bipush c => psh 2 (.int (Int8.ofInt c).toInt32) f
  | .sipush c => psh 3 (.int (Int16.ofInt c).toInt32) f
  | .aconst_null => psh 1 .null f
  | .ldc _ => pLdc v f
  | .ldc2_w _ => pLdc2 v f
  | .iadd => bI (fun x y => x + y) f
  | .isub => bI (fun x y => x - y) f
  | .imul => bI (fun x y => x * y) f
  | .iand => bI (fun x y => x &&& y) f
  | .ior => bI (fun x y => x ||| y) f
  | .ixor => bI (fun x y => x ^^^ y) f
  | .ishl => bI (fun x y => x <<< (y &&& 31)) f
  | .ishr => bI (fun x y => x >>> (y &&& 31)) f
  | .iushr => bI XT.ushr f
  | .irem => bI0 (fun x y => x % y) f
  | .idiv => bI0 (fun x y => x / y) f
  | .ladd => bL (fun x y => x + y) f
  | .lsub => bL (fun x y => x - y) f
  | .lmul => bL (fun x y => x * y) f
  | .land => bL (fun x y => x &&& y) f
  | .lor => bL (fun x y => x ||| y) f
  | .lxor => bL (fun x y => x ^^^ y) f
  | .ldiv => bL0 (fun x y => x / y) f
  | .lrem => bL0 (fun x y => x - (x / y) * y) f
  | .lushr => sL XT.ushrL f
  | .iinc k c => pIinc k c f
  | .goto o => pGoto o f
  | .ifCond cd o => pIf cd o f
  | .if_icmp cd o => pIcmp cd o f
  | .if_acmp cd o => pAcmp D cd o f
  | .ifnull o => pNull true o f
  | .ifnonnull o => pNull false o f
  | .lcmp => pLcmp f
  | .i2l => pI2l f
  | .l2i => pL2i f
  | .i2b => uI (fun x => x.toInt8.toInt32) f
  | .i2c => uI (fun x => x.toUInt32.toUInt16.toUInt32.toInt32) f
  | .dup => pDup f
  | .dup_x1 => pDupX1 f
  | .dup_x2 => pDupX2 f
  | .dup2 => pDup2 f
  | .pop => pPop f
  | _ => none

/-- arithmetic of a token and a number: by a table of known answers -/
def tstep (TB : Instr → Nat → Int32 → Option Value) (i : Instr) (f : Fm) : Option Fm :=
  match i with
  | .iand => tI2 TB i f
  | .iushr => tI2 TB i f
  | .irem => tI2 TB i f
  | _ => none
where tI2 (TB : Instr → Nat → Int32 → Option Value) (i : Instr) : Fm → Option Fm
  | (pc, ls, .int y :: .retAddr t :: st) => match TB i t y with
    | some v => some (pc + 1, ls, v :: st)
    | none => none
  | _ => none
def ilen : Instr → Nat
  | .aload _ | .iload _ | .lload _ | .astore _ | .istore _ | .lstore _ | .bipush _ | .ldc _ | .newarray _ => 2
  | .sipush _ | .ldc2_w _ | .iinc _ _ | .goto _ | .ifCond _ _ | .if_icmp _ _ | .if_acmp _ _ | .ifnull _ | .ifnonnull _
  | .getfield _ | .putfield _ | .getstatic _ | .new _ | .anewarray _ | .checkcast _ | .instanceof _ | .invokestatic _ | .invokespecial _ | .invokevirtual _ => 3
  | .invokeinterface _ _ => 5
  | _ => 1

section Pure
variable {p : Program} {l : Launch} {e : Env} {R : Room} {s : State} {m : MethodId} {args : Array Value} {below : List Frame} {meth : Method} {c : Code} {T : State} {locs : List Loc} {cells slots : Nat} {Z : State} {a0 : Array Value}
variable {ρ : Rho} {D : Nat → Nat → Bool} {pc : Nat} {ls : List Slot} {st : List Value} {f' : Fm}

theorem bI_inv {g : Int32 → Int32 → Int32} (h : bI g (pc, ls, st) = some f') : ∃ x y r, st = .int y :: .int x :: r ∧ f' = (pc + 1, ls, .int (g x y) :: r) := by
  unfold bI at h
  split at h
  · rename_i q; cases q; cases h; exact ⟨_, _, _, rfl, rfl⟩
  · cases h
theorem bI0_inv {g : Int32 → Int32 → Int32} (h : bI0 g (pc, ls, st) = some f') : ∃ x y r, st = .int y :: .int x :: r ∧ y ≠ 0 ∧ f' = (pc + 1, ls, .int (g x y) :: r) := by
  unfold bI0 at h
  split at h
  · rename_i q; cases q
    split at h
    · cases h
    · rename_i hy; cases h; exact ⟨_, _, _, rfl, hy, rfl⟩
  · cases h
theorem bL_inv {g : Int64 → Int64 → Int64} (h : bL g (pc, ls, st) = some f') : ∃ x y r, st = .long y :: .long x :: r ∧ f' = (pc + 1, ls, .long (g x y) :: r) := by
  unfold bL at h
  split at h
  · rename_i q; cases q; cases h; exact ⟨_, _, _, rfl, rfl⟩
  · cases h
theorem bL0_inv {g : Int64 → Int64 → Int64} (h : bL0 g (pc, ls, st) = some f') : ∃ x y r, st = .long y :: .long x :: r ∧ y ≠ 0 ∧ f' = (pc + 1, ls, .long (g x y) :: r) := by
  unfold bL0 at h
  split at h
  · rename_i q; cases q
    split at h
    · cases h
    · rename_i hy; cases h; exact ⟨_, _, _, rfl, hy, rfl⟩
  · cases h
theorem sL_inv {g : Int64 → Int32 → Int64} (h : sL g (pc, ls, st) = some f') : ∃ x y r, st = .int y :: .long x :: r ∧ f' = (pc + 1, ls, .long (g x y) :: r) := by
  unfold sL at h
  split at h
  · rename_i q; cases q; cases h; exact ⟨_, _, _, rfl, rfl⟩
  · cases h
theorem uI_inv {g : Int32 → Int32} (h : uI g (pc, ls, st) = some f') : ∃ x r, st = .int x :: r ∧ f' = (pc + 1, ls, .int (g x) :: r) := by
  unfold uI at h
  split at h
  · rename_i q; cases q; cases h; exact ⟨_, _, rfl, rfl⟩
  · cases h
theorem ld_inv {n k : Nat} {ok : Value → Bool} (h : ld n k ok (pc, ls, st) = some f') : ∃ v, ls[k]? = some (.val v) ∧ ok v = true ∧ f' = (pc + n, ls, v :: st) := by
  unfold ld at h
  dsimp only at h
  split at h
  · rename_i v q
    split at h
    · rename_i hv; cases h; exact ⟨v, q, hv, rfl⟩
    · cases h
  · cases h
theorem sto_inv {n k : Nat} {ok : Value → Bool} (h : sto n k ok (pc, ls, st) = some f') : ∃ v r ls', st = v :: r ∧ ok v = true ∧ stL ls k v = some ls' ∧ f' = (pc + n, ls', r) := by
  unfold sto at h
  split at h
  · rename_i q; cases q
    split at h
    · rename_i hv
      split at h
      · rename_i ls' q; cases h; exact ⟨_, _, ls', rfl, hv, q, rfl⟩
      · cases h
    · cases h
  · cases h
theorem br_inv {b : Bool} {o : Int} {r : List Value} (h : br b o pc ls r = some f') : (b = true ∧ 0 ≤ (pc : Int) + o ∧ f' = (((pc : Int) + o).toNat, ls, r)) ∨ (b = false ∧ f' = (pc + 3, ls, r)) := by
  unfold br at h
  split at h
  · split at h
    · rename_i q; cases h; exact Or.inl ⟨rfl, q, rfl⟩
    · cases h
  · cases h; exact Or.inr ⟨rfl, rfl⟩
theorem isI_inv {v : Value} (h : isI v = true) : ∃ x, rl ρ v = .int x := by cases v <;> first | exact ⟨_, rfl⟩ | cases h
theorem isJ_inv {v : Value} (h : isJ v = true) : ∃ x, v = .long x := by cases v <;> first | exact ⟨_, rfl⟩ | cases h
theorem c1_inv {v : Value} (h : c1 v = true) : (rl ρ v).category = 1 := by rw [rl_cat]; simpa [c1] using h
theorem sameR_ok (hD : ∀ i j, D i j = true → ρ.1 i ≠ ρ.1 j) {x y : Value} {b : Bool} (h : sameR D x y = some b) : (rl ρ x).isRef = true ∧ (rl ρ y).isRef = true ∧ decide (rl ρ x = rl ρ y) = b := by
  unfold sameR at h
  split at h
  · cases h; exact ⟨rfl, rfl, rfl⟩
  · cases h; exact ⟨rfl, rfl, by simp [rl]⟩
  · cases h; exact ⟨rfl, rfl, by simp [rl]⟩
  · rename_i i j
    split at h
    · rename_i q; cases h; subst q; exact ⟨rfl, rfl, by simp⟩
    · split at h
      · rename_i q; cases h; exact ⟨rfl, rfl, by simpa [rl] using hD i j q⟩
      · cases h
  · cases h

theorem pstep_ok (X : Stand p l e R s m args below meth c T locs cells slots) (hx : p.tables.exec = Jvm.exec) {own : String} (hown : s.vm.findClass own = some m.cls) (hD : ∀ i j, D i j = true → ρ.1 i ≠ ρ.1 j)
    {i : Instr} {v : Value} (hd : decode c.code pc = .ok (i, ilen i)) (h1 : ∀ k x, i = .ldc k → v = .int x → (Cond.constant own k x).before args s = true) (h2 : ∀ k x, i = .ldc2_w k → v = .long x → (Cond.constantLong own k x).before args s = true)
    (h : pstep D i v (pc, ls, st) = some f') (target : State) (hr : Steps p.tables e below (T.setTop (fm ρ m f')) target) : Steps p.tables e below (T.setTop (fm ρ m (pc, ls, st))) target := by
  cases i
  case aload_n k => obtain ⟨v, q1, q2, rfl⟩ := ld_inv h; exact XS.aloadN X.here hx rfl hd (ar_get q1) (by rw [rl_isRef]; exact q2) hr
  case aload k => obtain ⟨v, q1, q2, rfl⟩ := ld_inv h; exact XS.aload X.here hx rfl hd (ar_get q1) (by rw [rl_isRef]; exact q2) hr
  case iload_n k =>
    obtain ⟨v, q1, q2, rfl⟩ := ld_inv h
    obtain ⟨x, hxv⟩ := isI_inv (ρ := ρ) q2
    exact XS.iloadN X.here hx rfl hd ((ar_get q1).trans (by rw [rs, hxv])) (by rw [← hxv]; exact hr)
  case iload k =>
    obtain ⟨v, q1, q2, rfl⟩ := ld_inv h
    obtain ⟨x, hxv⟩ := isI_inv (ρ := ρ) q2
    exact XS.iload X.here hx rfl hd ((ar_get q1).trans (by rw [rs, hxv])) (by rw [← hxv]; exact hr)
  case lload_n k => obtain ⟨v, q1, q2, rfl⟩ := ld_inv h; obtain ⟨x, rfl⟩ := isJ_inv q2; exact XT.lloadN X.here hx rfl hd (ar_get q1) hr
  case lload k => obtain ⟨v, q1, q2, rfl⟩ := ld_inv h; obtain ⟨x, rfl⟩ := isJ_inv q2; exact XT.lload X.here hx rfl hd (ar_get q1) hr
  case astore_n k => obtain ⟨v, r, ls', rfl, q2, q3, rfl⟩ := sto_inv h; exact XS.astoreN X.here hx rfl hd rfl (by rw [rl_isRef]; exact q2) (stL_ok q3) hr
  case astore k => obtain ⟨v, r, ls', rfl, q2, q3, rfl⟩ := sto_inv h; exact XS.astore X.here hx rfl hd rfl (by rw [rl_isRef]; exact q2) (stL_ok q3) hr
  case istore_n k =>
    obtain ⟨v, r, ls', rfl, q2, q3, rfl⟩ := sto_inv h
    obtain ⟨x, hxv⟩ := isI_inv (ρ := ρ) q2
    have q3' := stL_ok (ρ := ρ) q3
    rw [hxv] at q3'
    exact XS.istoreN X.here hx rfl hd (by show rl ρ v :: _ = _; rw [hxv]) q3' hr
  case istore k =>
    obtain ⟨v, r, ls', rfl, q2, q3, rfl⟩ := sto_inv h
    obtain ⟨x, hxv⟩ := isI_inv (ρ := ρ) q2
    have q3' := stL_ok (ρ := ρ) q3
    rw [hxv] at q3'
    exact XS.istore X.here hx rfl hd (by show rl ρ v :: _ = _; rw [hxv]) q3' hr
  case lstore_n k => obtain ⟨v, r, ls', rfl, q2, q3, rfl⟩ := sto_inv h; obtain ⟨x, rfl⟩ := isJ_inv q2; exact XT.lstoreN X.here hx rfl hd rfl (stL_ok (ρ := ρ) q3) hr
  case lstore k => obtain ⟨v, r, ls', rfl, q2, q3, rfl⟩ := sto_inv h; obtain ⟨x, rfl⟩ := isJ_inv q2; exact XT.lstore X.here hx rfl hd rfl (stL_ok (ρ := ρ) q3) hr
  case iconst k => cases h; exact XS.iconst X.here hx rfl hd hr
  case lconst k => cases h; exact XT.lconst X.here hx rfl hd hr
  case bipush k => cases h; exact XS.bipush X.here hx rfl hd hr
  case sipush k => cases h; exact XS.sipush X.here hx rfl hd hr
  case aconst_null => cases h; exact XS.aconstNull X.here hx rfl hd hr
  case ldc k =>
    cases v <;> first | (cases h; done) | skip
    cases h
    exact X.ldcI hx hown (h1 _ _ rfl rfl) rfl hd hr
  case ldc2_w k =>
    cases v <;> first | (cases h; done) | skip
    cases h
    exact X.ldc2J hx hown (h2 _ _ rfl rfl) rfl hd hr
  case iadd => obtain ⟨x, y, r, rfl, rfl⟩ := bI_inv h; exact XS.iadd X.here hx rfl hd rfl hr
  case isub => obtain ⟨x, y, r, rfl, rfl⟩ := bI_inv h; exact XS.isub X.here hx rfl hd rfl hr
  case imul => obtain ⟨x, y, r, rfl, rfl⟩ := bI_inv h; exact XS.imul X.here hx rfl hd rfl hr
  case iand => obtain ⟨x, y, r, rfl, rfl⟩ := bI_inv h; exact XS.iand X.here hx rfl hd rfl hr
  case ior => obtain ⟨x, y, r, rfl, rfl⟩ := bI_inv h; exact XT.ior X.here hx rfl hd rfl hr
  case ixor => obtain ⟨x, y, r, rfl, rfl⟩ := bI_inv h; exact XT.ixor X.here hx rfl hd rfl hr
  case ishl => obtain ⟨x, y, r, rfl, rfl⟩ := bI_inv h; exact XT.ishl X.here hx rfl hd rfl hr
  case ishr => obtain ⟨x, y, r, rfl, rfl⟩ := bI_inv h; exact XT.ishr X.here hx rfl hd rfl hr
  case iushr => obtain ⟨x, y, r, rfl, rfl⟩ := bI_inv h; exact XT.iushr X.here hx rfl hd rfl hr
  case irem => obtain ⟨x, y, r, rfl, hy, rfl⟩ := bI0_inv h; exact iremM X hx rfl hd rfl hy hr
  case idiv => obtain ⟨x, y, r, rfl, hy, rfl⟩ := bI0_inv h; exact XS.idiv X.here hx rfl hd rfl hy hr
  case ladd => obtain ⟨x, y, r, rfl, rfl⟩ := bL_inv h; exact XT.ladd X.here hx rfl hd rfl hr
  case lsub => obtain ⟨x, y, r, rfl, rfl⟩ := bL_inv h; exact XT.lsub X.here hx rfl hd rfl hr
  case lmul => obtain ⟨x, y, r, rfl, rfl⟩ := bL_inv h; exact XT.lmul X.here hx rfl hd rfl hr
  case land => obtain ⟨x, y, r, rfl, rfl⟩ := bL_inv h; exact XT.land X.here hx rfl hd rfl hr
  case lor => obtain ⟨x, y, r, rfl, rfl⟩ := bL_inv h; exact XT.lor X.here hx rfl hd rfl hr
  case lxor => obtain ⟨x, y, r, rfl, rfl⟩ := bL_inv h; exact XT.lxor X.here hx rfl hd rfl hr
  case ldiv => obtain ⟨x, y, r, rfl, hy, rfl⟩ := bL0_inv h; exact XT.ldiv X.here hx rfl hd rfl hy hr
  case lrem => obtain ⟨x, y, r, rfl, hy, rfl⟩ := bL0_inv h; exact XT.lrem X.here hx rfl hd rfl hy hr
  case lushr => obtain ⟨x, y, r, rfl, rfl⟩ := sL_inv h; exact XT.lushr X.here hx rfl hd rfl hr
  case i2b => obtain ⟨x, r, rfl, rfl⟩ := uI_inv h; exact XT.i2b X.here hx rfl hd rfl hr
  case i2c => obtain ⟨x, r, rfl, rfl⟩ := uI_inv h; exact XT.i2c X.here hx rfl hd rfl hr
  case iinc k cst =>
    have h' : pIinc k cst (pc, ls, st) = some f' := h
    unfold pIinc at h'
    dsimp only at h'
    split at h'
    · rename_i x q
      split at h'
      · rename_i ls' q2; cases h'; exact XS.iinc X.here hx rfl hd (ar_get q) (stL_ok (ρ := ρ) q2) hr
      · cases h'
    · cases h'
  case goto o =>
    have h' : pGoto o (pc, ls, st) = some f' := h
    unfold pGoto at h'
    dsimp only at h'
    split at h'
    · rename_i q; cases h'; exact XS.goto X.here hx rfl rfl hd q rfl hr
    · cases h'
  case ifCond cd o =>
    have h' : pIf cd o (pc, ls, st) = some f' := h
    unfold pIf at h'
    split at h'
    · rename_i q; cases q
      rcases br_inv h' with ⟨q1, q2, rfl⟩ | ⟨q1, rfl⟩
      · exact XS.ifYes X.here hx rfl rfl hd rfl q1 q2 rfl hr
      · exact XS.ifNo X.here hx rfl hd rfl q1 hr
    · cases h'
  case if_icmp cd o =>
    have h' : pIcmp cd o (pc, ls, st) = some f' := h
    unfold pIcmp at h'
    split at h'
    · rename_i q; cases q
      rcases br_inv h' with ⟨q1, q2, rfl⟩ | ⟨q1, rfl⟩
      · exact XS.icmpYes X.here hx rfl rfl hd rfl q1 q2 rfl hr
      · exact XS.icmpNo X.here hx rfl hd rfl q1 hr
    · cases h'
  case if_acmp cd o =>
    have h' : pAcmp D cd o (pc, ls, st) = some f' := h
    unfold pAcmp at h'
    split at h'
    · rename_i q; cases q
      split at h'
      · rename_i ho
        split at h'
        · rename_i sm q
          obtain ⟨g1, g2, g3⟩ := sameR_ok hD q
          rcases br_inv h' with ⟨q1, q2, rfl⟩ | ⟨q1, rfl⟩
          · exact Jvm.RoadKit.acmp X hx rfl g1 g2 rfl hd rfl g3 ho (by rw [if_pos q1]) hr
          · exact Jvm.RoadKit.acmp X hx rfl g1 g2 rfl hd rfl g3 ho (by rw [if_neg (by rw [q1]; simp)]) hr
        · cases h'
      · cases h'
    · cases h'
  case ifnull o =>
    have h' : pNull true o (pc, ls, st) = some f' := h
    unfold pNull at h'
    split at h'
    · rename_i q; cases q
      rcases br_inv h' with ⟨q1, q2, rfl⟩ | ⟨q1, rfl⟩
      · exact XS.ifnullYes X.here hx rfl rfl hd rfl q2 rfl hr
      · cases q1
    · rename_i q; cases q
      rcases br_inv h' with ⟨q1, q2, rfl⟩ | ⟨q1, rfl⟩
      · cases q1
      · exact XS.ifnullNo X.here hx rfl hd rfl hr
    · cases h'
  case ifnonnull o =>
    have h' : pNull false o (pc, ls, st) = some f' := h
    unfold pNull at h'
    split at h'
    · rename_i q; cases q
      rcases br_inv h' with ⟨q1, q2, rfl⟩ | ⟨q1, rfl⟩
      · cases q1
      · exact XT.ifnonnullNo X.here hx rfl hd rfl hr
    · rename_i q; cases q
      rcases br_inv h' with ⟨q1, q2, rfl⟩ | ⟨q1, rfl⟩
      · exact XT.ifnonnullYes X.here hx rfl rfl hd rfl q2 rfl hr
      · cases q1
    · cases h'
  case lcmp =>
    have h' : pLcmp (pc, ls, st) = some f' := h
    unfold pLcmp at h'
    split at h'
    · rename_i q; cases q; cases h'; exact XT.lcmp X.here hx rfl hd rfl hr
    · cases h'
  case i2l =>
    have h' : pI2l (pc, ls, st) = some f' := h
    unfold pI2l at h'
    split at h'
    · rename_i q; cases q; cases h'; exact XT.i2l X.here hx rfl hd rfl hr
    · cases h'
  case l2i =>
    have h' : pL2i (pc, ls, st) = some f' := h
    unfold pL2i at h'
    split at h'
    · rename_i q; cases q; cases h'; exact XT.l2i X.here hx rfl hd rfl hr
    · cases h'
  case dup =>
    have h' : pDup (pc, ls, st) = some f' := h
    unfold pDup at h'
    split at h'
    · rename_i q; cases q
      split at h'
      · rename_i q; cases h'; exact XS.dup X.here hx rfl hd rfl (c1_inv q) hr
      · cases h'
    · cases h'
  case pop =>
    have h' : pPop (pc, ls, st) = some f' := h
    unfold pPop at h'
    split at h'
    · rename_i q; cases q
      split at h'
      · rename_i q; cases h'; exact XT.pop X.here hx rfl hd rfl (c1_inv q) hr
      · cases h'
    · cases h'
  case dup_x1 =>
    have h' : pDupX1 (pc, ls, st) = some f' := h
    unfold pDupX1 at h'
    split at h'
    · rename_i q; cases q
      split at h'
      · rename_i q; cases h'
        obtain ⟨q1, q2⟩ := Bool.and_eq_true_iff.mp q
        exact XT.dupX1 X.here hx rfl hd rfl (c1_inv q1) (c1_inv q2) hr
      · cases h'
    · cases h'
  case dup2 =>
    have h' : pDup2 (pc, ls, st) = some f' := h
    unfold pDup2 at h'
    split at h'
    · rename_i q; cases q
      split at h'
      · rename_i q; cases h'
        obtain ⟨q1, q2⟩ := Bool.and_eq_true_iff.mp q
        exact XT.dup2 X.here hx rfl hd rfl (c1_inv q1) (c1_inv q2) hr
      · cases h'
    · cases h'
  case dup_x2 =>
    have h' : pDupX2 (pc, ls, st) = some f' := h
    unfold pDupX2 at h'
    split at h'
    · rename_i q; cases q
      split at h'
      · rename_i q; cases h'
        obtain ⟨q12, q3⟩ := Bool.and_eq_true_iff.mp q
        obtain ⟨q1, q2⟩ := Bool.and_eq_true_iff.mp q12
        have w1 := c1_inv (ρ := ρ) q1
        have w2 := c1_inv (ρ := ρ) q2
        have w3 := c1_inv (ρ := ρ) q3
        have hX := X.here
        show Steps p.tables e below (T.setTop { method := m, pc := pc, locals := ar ρ ls, stack := _ :: _ :: _ :: _, locked := none }) _
        jvm_step hX [hX.top, hx, hd, ilen, w1, w2, w3]
        exact hr
      · cases h'
    · cases h'
  all_goals exact absurd (show none = some f' from h) (by simp)
/-- what a table of answers must say -/
def TbOk (ρ : Rho) (TB : Instr → Nat → Int32 → Option Value) : Prop := ∀ t y v, (TB .iand t y = some v → rl ρ v = .int (ρ.2 t &&& y)) ∧ (TB .iushr t y = some v → rl ρ v = .int (XT.ushr (ρ.2 t) y)) ∧ (TB .irem t y = some v → y ≠ 0 ∧ rl ρ v = .int (ρ.2 t % y))
theorem tI2_inv {TB : Instr → Nat → Int32 → Option Value} {i : Instr} (h : tstep.tI2 TB i (pc, ls, st) = some f') : ∃ t y v r, st = .int y :: .retAddr t :: r ∧ TB i t y = some v ∧ f' = (pc + 1, ls, v :: r) := by
  unfold tstep.tI2 at h
  split at h
  · rename_i q; cases q
    split at h
    · rename_i v q; cases h; exact ⟨_, _, _, _, rfl, q, rfl⟩
    · cases h
  · cases h
theorem tstep_ok {TB : Instr → Nat → Int32 → Option Value} (hTB : TbOk ρ TB) (X : Stand p l e R s m args below meth c T locs cells slots) (hx : p.tables.exec = Jvm.exec) {i : Instr} (hd : decode c.code pc = .ok (i, ilen i)) (h : tstep TB i (pc, ls, st) = some f')
    (target : State) (hr : Steps p.tables e below (T.setTop (fm ρ m f')) target) : Steps p.tables e below (T.setTop (fm ρ m (pc, ls, st))) target := by
  cases i
  case iand => obtain ⟨t, y, v, r, rfl, q, rfl⟩ := tI2_inv h; have q' := (hTB t y v).1 q; exact XS.iand X.here hx rfl hd rfl (by rw [← q']; exact hr)
  case iushr => obtain ⟨t, y, v, r, rfl, q, rfl⟩ := tI2_inv h; have q' := (hTB t y v).2.1 q; exact XT.iushr X.here hx rfl hd rfl (by rw [← q']; exact hr)
  case irem => obtain ⟨t, y, v, r, rfl, q, rfl⟩ := tI2_inv h; have q' := (hTB t y v).2.2 q; exact iremM X hx rfl hd rfl q'.1 (by rw [← q'.2]; exact hr)
  all_goals exact absurd (show none = some f' from h) (by simp)
end Pure
end Jvm.Eng
namespace Jvm.Eng
open Jvm Jvm.ClassFile Sem Op Lib Jvm.Free Jvm.Stand Jvm.LawKit Jvm.RoadKit
/-! ### abstract objects on the model's heap -/
/-- a component that is known: a `.float` in an abstract array says that nothing is known of it -/
def kn : Value → Bool | .float _ => false | _ => true
def ObjOk (Z : State) (ρ : Rho) (K : Nat → String × String × String) (CN : Nat → String) (h : Heap) (a : Addr) : Obj → Prop
  | .inl (ty, vs) => ∃ c : Cell, Arr Z h a c ty ∧ c.slots.size = vs.length ∧ ∀ (i : Nat) (v : Value), vs[i]? = some v → kn v = true → c.slots[i]? = some (rl ρ v)
  | .inr (C, fs) => Exa Z h a (CN C) ∧ ∀ q ∈ fs, Fld Z h a (K q.1).1 (K q.1).2.1 (K q.1).2.2 (rl ρ q.2)
def Sim (Z : State) (ρ : Rho) (K : Nat → String × String × String) (CN : Nat → String) (b n0 : Nat) (S : List (Nat × Value)) (H : List Obj) (h : Heap) : Prop :=
  b ≤ H.length ∧ h.size = n0 + (H.length - b) ∧ (∀ i o, H[i]? = some o → ObjOk Z ρ K CN h (ρ.1 i) o) ∧ ∀ q ∈ S, Sta Z h (K q.1).1 (K q.1).2.1 (K q.1).2.2 (rl ρ q.2)

section Objs
variable {Z : State} {ρ : Rho} {K : Nat → String × String × String} {CN : Nat → String} {b n0 : Nat} {S : List (Nat × Value)} {H : List Obj} {h h' : Heap} {a : Addr} {o : Obj}
theorem ObjOk.of_slots {c : Cell} {ty : FieldType} {vs : List Value} (A : Arr Z h a c ty) (e : c.slots = (vs.map (rl ρ)).toArray) : ObjOk Z ρ K CN h a (.inl (ty, vs)) :=
  ⟨c, A, by rw [e]; simp, fun i v hv _ => by rw [e]; simp [hv]⟩
theorem ObjOk.ext (E : Ext h h') (O : ObjOk Z ρ K CN h a o) : ObjOk Z ρ K CN h' a o := by
  rcases o with ⟨ty, vs⟩ | ⟨C, fs⟩
  · obtain ⟨c, A, q⟩ := O; exact ⟨c, A.ext E, q⟩
  · exact ⟨O.1.ext E, fun q hq => (O.2 q hq).ext E⟩
theorem ObjOk.other {a' : Addr} {sl : Nat} {v : Value} (W : Wr h h' a' sl v) (ne : a ≠ a') (O : ObjOk Z ρ K CN h a o) : ObjOk Z ρ K CN h' a o := by
  rcases o with ⟨ty, vs⟩ | ⟨C, fs⟩
  · obtain ⟨c, A, q⟩ := O; exact ⟨c, A.other W ne, q⟩
  · exact ⟨O.1.wr W, fun q hq => (O.2 q hq).other W (Or.inl ne)⟩
theorem Sim.new (hρ1 : ∀ i, b ≤ i → ρ.1 i = n0 + (i - b)) (X : Sim Z ρ K CN b n0 S H h) (E : Ext h h') (hsz : h'.size = h.size + 1) (O : ObjOk Z ρ K CN h' h.size o) : Sim Z ρ K CN b n0 S (H ++ [o]) h' := by
  obtain ⟨h1, h2, h3, h4⟩ := X
  refine ⟨by simp; omega, by rw [hsz, h2]; simp; omega, fun i o' ho => ?_, fun q hq => (h4 q hq).ext E⟩
  by_cases hi : i < H.length
  · rw [List.getElem?_append_left hi] at ho
    exact (h3 i o' ho).ext E
  · rw [List.getElem?_append_right (Nat.le_of_not_lt hi)] at ho
    have e0 : i - H.length = 0 := by
      rcases Nat.eq_zero_or_pos (i - H.length) with z | z
      · exact z
      · rw [List.getElem?_eq_none (show [o].length ≤ i - H.length from z)] at ho; cases ho
    rw [e0] at ho
    cases ho
    have ei : i = H.length := by omega
    rw [ei, hρ1 _ h1, ← h2]
    exact O
theorem Sim.wr (hρ1 : ∀ i, b ≤ i → ρ.1 i = n0 + (i - b)) (hρ0 : ∀ i, i < b → ρ.1 i < n0) (X : Sim Z ρ K CN b n0 S H h) {a : Nat} {sl : Nat} {v : Value} (W : Wr h h' (ρ.1 a) sl v) (hb : b ≤ a) (O : ObjOk Z ρ K CN h' (ρ.1 a) o) : Sim Z ρ K CN b n0 S (H.set a o) h' := by
  obtain ⟨h1, h2, h3, h4⟩ := X
  refine ⟨by simpa using h1, by rw [W.size, h2]; simp, fun i o' ho => ?_, fun q hq => (h4 q hq).wr W⟩
  by_cases hi : i = a
  · subst hi
    rw [List.getElem?_set] at ho
    simp only [if_true] at ho
    split at ho
    · cases ho; exact O
    · cases ho
  · rw [List.getElem?_set_ne (fun q => hi q.symm)] at ho
    refine (h3 i o' ho).other W fun q => ?_
    have e1 := hρ1 a hb
    by_cases hi' : i < b
    · have e2 : n0 + (a - b) < n0 := by rw [← e1, ← q]; exact hρ0 i hi'
      omega
    · have e2 : n0 + (a - b) = n0 + (i - b) := by rw [← e1, ← q]; exact hρ1 i (by omega)
      omega
end Objs

/-! ### steps that read or write the heap -/
def look (a : Nat) : List (Nat × Value) → Option Value
  | [] => none
  | (k, v) :: r => match Nat.beq k a with | true => some v | false => look a r
def setF (a : Nat) (v : Value) : List (Nat × Value) → List (Nat × Value)
  | [] => []
  | (k, w) :: r => (match Nat.beq k a with | true => (k, v) | false => (k, w)) :: setF a v r
def lookT (a : Nat) : List (Nat × Value × Bool) → Option (Value × Bool)
  | [] => none
  | (k, v, f) :: r => match Nat.beq k a with | true => some (v, f) | false => lookT a r
def sameKeys : List (Nat × Value) → List (Nat × Value × Bool) → Bool
  | [], [] => true
  | (k, _) :: r, (k', _) :: r' => match Nat.beq k k' with | true => sameKeys r r' | false => false
  | _, _ => false
def sameKind : Value → Value → Bool
  | .int _, .int _ => true
  | .long _, .long _ => true
  | .null, .null => true
  | .null, .ref _ => true
  | _, _ => false
theorem look_mem {a : Nat} {v : Value} : ∀ {fs : List (Nat × Value)}, look a fs = some v → (a, v) ∈ fs
  | [], h => by cases h
  | (k, w) :: r, h => by
    unfold look at h
    split at h
    · rename_i q; cases h; rw [Nat.eq_of_beq_eq_true q]; exact List.mem_cons_self ..
    · exact List.mem_cons_of_mem _ (look_mem h)
theorem lookT_mem {a : Nat} {v : Value} {f : Bool} : ∀ {fs : List (Nat × Value × Bool)}, lookT a fs = some (v, f) → (a, v, f) ∈ fs
  | [], h => by cases h
  | (k, w, g) :: r, h => by
    unfold lookT at h
    split at h
    · rename_i q; cases h; rw [Nat.eq_of_beq_eq_true q]; exact List.mem_cons_self ..
    · exact List.mem_cons_of_mem _ (lookT_mem h)
theorem setF_mem {a : Nat} {v : Value} {q : Nat × Value} : ∀ {fs : List (Nat × Value)}, q ∈ setF a v fs → (q = (a, v)) ∨ (q.1 ≠ a ∧ q ∈ fs)
  | [], h => by cases h
  | (k, w) :: r, h => by
    unfold setF at h
    rcases List.mem_cons.mp h with h | h
    · split at h
      · rename_i e; rw [Nat.eq_of_beq_eq_true e] at h; exact Or.inl h
      · rename_i e; subst h; exact Or.inr ⟨fun z => by subst z; simp at e, List.mem_cons_self ..⟩
    · rcases setF_mem h with h | ⟨h1, h2⟩
      · exact Or.inl h
      · exact Or.inr ⟨h1, List.mem_cons_of_mem _ h2⟩
theorem keys_mem {a : Nat} : ∀ {fs : List (Nat × Value)} {fl : List (Nat × Value × Bool)}, sameKeys fs fl = true → (∀ q ∈ fs, ∃ v f, (q.1, v, f) ∈ fl) ∧ (∀ q ∈ fl, ∃ w, (q.1, w) ∈ fs)
  | [], [], _ => ⟨fun q h => by (cases h), fun q h => by (cases h)⟩
  | (k, w) :: r, (k', w', f') :: r', h => by
    unfold sameKeys at h
    split at h
    · rename_i e
      have e' := Nat.eq_of_beq_eq_true e
      obtain ⟨h1, h2⟩ := keys_mem (a := a) h
      refine ⟨fun q hq => ?_, fun q hq => ?_⟩
      · rcases List.mem_cons.mp hq with rfl | hq
        · exact ⟨w', f', by rw [e']; exact List.mem_cons_self ..⟩
        · obtain ⟨v, f, hm⟩ := h1 q hq; exact ⟨v, f, List.mem_cons_of_mem _ hm⟩
      · rcases List.mem_cons.mp hq with rfl | hq
        · exact ⟨w, by rw [← e']; exact List.mem_cons_self ..⟩
        · obtain ⟨v, hm⟩ := h2 q hq; exact ⟨v, List.mem_cons_of_mem _ hm⟩
    · cases h
  | [], _ :: _, h => by cases h
  | _ :: _, [], h => by cases h

def getA (H : List Obj) (a : Nat) : Option (FieldType × List Value) := match H[a]? with | some (.inl p) => some p | _ => none
def getO (H : List Obj) (a : Nat) : Option (Nat × List (Nat × Value)) := match H[a]? with | some (.inr p) => some p | _ => none
theorem getA_inv {H : List Obj} {a : Nat} {p : FieldType × List Value} (h : getA H a = some p) : H[a]? = some (.inl p) := by
  unfold getA at h; split at h
  · rename_i q; cases h; exact q
  · cases h
theorem getO_inv {H : List Obj} {a : Nat} {p : Nat × List (Nat × Value)} (h : getO H a = some p) : H[a]? = some (.inr p) := by
  unfold getO at h; split at h
  · rename_i q; cases h; exact q
  · cases h

def tI : FieldType → Bool | .int => true | _ => false
def tJ : FieldType → Bool | .long => true | _ => false
def tB : FieldType → Bool | .byte => true | .boolean => true | _ => false
def tC : FieldType → Bool | .char => true | _ => false

def hGet (a : Nat) : Fm → List Obj → Option (Fm × List Obj)
  | (pc, ls, .ref o :: st), H => match getO H o with
    | some (_, fs) => (match look a fs with | some v => some ((pc + 3, ls, v :: st), H) | none => none)
    | none => none
  | _, _ => none
def hPut (b : Nat) (CT : Nat → Option Fls) (a k : Nat) : Fm → List Obj → Option (Fm × List Obj)
  | (pc, ls, v :: .ref o :: st), H => match getO H o with
    | some (C, fs) => (match CT C with
      | some (_, fl) => (match lookT a fl with
        | some (dv, fin) => if Nat.ble b o && sameKeys fs fl && sameKind dv v && (!fin || Nat.beq k 1) then some ((pc + 3, ls, st), H.set o (.inr (C, setF a v fs))) else none
        | none => none)
      | none => none)
    | none => none
  | _, _ => none
def hSta (S : List (Nat × Value)) (a c : Nat) : Fm → List Obj → Option (Fm × List Obj)
  | (pc, ls, st), H => match S[a]? with
    | some (c', v) => if Nat.beq c' c then some ((pc + 3, ls, v :: st), H) else none
    | none => none
def hLen : Fm → List Obj → Option (Fm × List Obj)
  | (pc, ls, .ref a :: st), H => match getA H a with
    | some (_, vs) => some ((pc + 1, ls, .int vs.length.toInt32 :: st), H)
    | none => none
  | _, _ => none
def hLd (ok : FieldType → Bool) : Fm → List Obj → Option (Fm × List Obj)
  | (pc, ls, .int j :: .ref a :: st), H => match getA H a with
    | some (ty, vs) => if ok ty && !decide (j < 0) then (match vs[j.toNatClampNeg]? with | some v => if kn v then some ((pc + 1, ls, v :: st), H) else none | none => none) else none
    | none => none
  | _, _ => none
def hSt (b : Nat) (ok : FieldType → Bool) : Fm → List Obj → Option (Fm × List Obj)
  | (pc, ls, .int x :: .int j :: .ref a :: st), H => match getA H a with
    | some (ty, vs) => if ok ty && Nat.ble b a && !decide (j < 0) && Nat.blt j.toNatClampNeg vs.length then some ((pc + 1, ls, st), H.set a (.inl (ty, vs.set j.toNatClampNeg (.int (nar ty x))))) else none
    | none => none
  | _, _ => none
def hStJ (b : Nat) : Fm → List Obj → Option (Fm × List Obj)
  | (pc, ls, .long x :: .int j :: .ref a :: st), H => match getA H a with
    | some (ty, vs) => if tJ ty && Nat.ble b a && !decide (j < 0) && Nat.blt j.toNatClampNeg vs.length then some ((pc + 1, ls, st), H.set a (.inl (ty, vs.set j.toNatClampNeg (.long x)))) else none
    | none => none
  | _, _ => none
def hCast (c : Nat) : Fm → List Obj → Option (Fm × List Obj)
  | (pc, ls, .null :: st), H => some ((pc + 3, ls, .null :: st), H)
  | (pc, ls, .ref a :: st), H => match getO H a with
    | some (C, _) => if Nat.beq C c then some ((pc + 3, ls, .ref a :: st), H) else none
    | none => none
  | _, _ => none
def hInst (NI : Nat → Nat → Bool) (c : Nat) : Fm → List Obj → Option (Fm × List Obj)
  | (pc, ls, .null :: st), H => some ((pc + 3, ls, .int 0 :: st), H)
  | (pc, ls, .ref a :: st), H => match getO H a with
    | some (C, _) => if Nat.beq C c then some ((pc + 3, ls, .int 1 :: st), H) else if NI C c then some ((pc + 3, ls, .int 0 :: st), H) else none
    | none => none
  | _, _ => none

def hstep (b : Nat) (S : List (Nat × Value)) (CT : Nat → Option Fls) (NI : Nat → Nat → Bool) (i : Instr) (a k c : Nat) (f : Fm) (H : List Obj) : Option (Fm × List Obj) :=
  match i with
  | .getfield _ => hGet a f H
  | .putfield _ => hPut b CT a k f H
  | .getstatic _ => hSta S a c f H
  | .arraylength => hLen f H
  | .iaload => hLd tI f H
  | .laload => hLd tJ f H
  | .baload => hLd tB f H
  | .caload => hLd tC f H
  | .aaload => hLd FieldType.isReference f H
  | .iastore => hSt b tI f H
  | .bastore => hSt b tB f H
  | .castore => hSt b tC f H
  | .lastore => hStJ b f H
  | .checkcast _ => hCast c f H
  | .instanceof _ => hInst NI c f H
  | _ => none

/-- the words that a row leans on -/
def need (P : Nat → Option Meth) (K : Nat → String × String × String) (CN : Nat → String) (MN : Nat → MethodName) (own : String) (r : Row) : List Cond :=
  match r with
  | (i, a, _, c, v) =>
    match i with
    | .ldc idx => (match v with | .int x => [.constant own idx x] | _ => [])
    | .ldc2_w idx => (match v with | .long x => [.constantLong own idx x] | _ => [])
    | .getfield idx => [.fieldLink own idx (K a).1 (K a).2.1 (K a).2.2]
    | .putfield idx => [.fieldLink own idx (K a).1 (K a).2.1 (K a).2.2]
    | .getstatic idx => [.fieldLink own idx (K c).1 (K c).2.1 (K c).2.2]
    | .new idx => [.classLink own idx (CN c)]
    | .newarray aty => [.arrayClass (newarray.typeOf aty)]
    | .checkcast idx => [.classLink own idx (CN c)]
    | .instanceof idx => [.classLink own idx (CN c)]
    | .invokestatic idx => (match P a with | some M => [.methodLink own idx M.1, .static M.1] | none => [])
    | .invokespecial idx => (match Nat.beq c 1 with
      | true => [.methodLink own idx Lib.objectInit, .instanceMethod Lib.objectInit, .code Lib.objectInit ⟨#[0xb1]⟩ 1 none]
      | false => (match P a with | some M => [.methodLink own idx M.1, .instanceMethod M.1] | none => []))
    | .invokevirtual idx => (match P a with | some M => [.methodLink own idx M.1, .declares M.1, .selects (CN c) M.1 M.1, .instanceMethod M.1] | none => [])
    | .invokeinterface idx _ => (match P a, v with
      | some M, .retAddr r => [.methodLink own idx (MN r), .declares (MN r), .interfaceMethod (MN r).cls (MN r).cls (MN r).name (MN r).desc, .selects (CN c) (MN r) M.1, .instanceMethod M.1, .publicMethod M.1, .unhidden (CN c) (MN r).name (MN r).desc, .castable (CN c) (MN r).cls]
      | _, _ => [])
    | _ => []
def notMH (s : String) : Bool := s != "java/lang/invoke/MethodHandle" && s != "java/lang/invoke/VarHandle"
def arity (d : String) (k : Nat) : Bool := match parseMethodDescriptor d with | some sig => sig.parameters.length == k | none => true
def side (P : Nat → Option Meth) (K : Nat → String × String × String) (MN : Nat → MethodName) (x : MethodName) (r : Row) : Bool :=
  match r with
  | (i, a, k, c, v) =>
    match i with
    | .putfield _ => Nat.beq k 0 || (x.cls == (K a).1 && x.name == "<init>")
    | .invokestatic _ => (match P a with | some M => notMH M.1.cls && arity M.1.desc k | none => true)
    | .invokespecial _ => Nat.beq c 1 || (match P a with | some M => notMH M.1.cls && arity M.1.desc (k - 1) && M.1.name == "<init>" && decide (M.2.2.2.1 = none) | none => true)
    | .invokevirtual _ => (match P a with | some M => notMH M.1.cls && arity M.1.desc (k - 1) | none => true)
    | .invokeinterface _ _ => (match v with | .retAddr r => notMH (MN r).cls && arity (MN r).desc (k - 1) | _ => false)
    | _ => true
/-- what is known of a class whose objects are made here -/
def ClsOk (Z : State) (a0 : Array Value) (K : Nat → String × String × String) (CN : Nat → String) (C : Nat) (F : Fls) : Prop :=
  (Cond.instantiable (CN C) F.1).before a0 Z = true ∧ (Cond.initialized (CN C)).before a0 Z = true ∧
  (∀ q ∈ F.2, (if q.2.2 = true then (Cond.laysFinal (CN C) (K q.1).1 (K q.1).2.1 (K q.1).2.2).before a0 Z = true else (Cond.lays (CN C) (K q.1).1 (K q.1).2.1 (K q.1).2.2).before a0 Z = true) ∧
    ∃ ty, parseFieldDescriptor (K q.1).2.2 = some ty ∧ defaultValue ty = q.2.1 ∧ (ty = .int ∨ ty = .long ∨ ty.isReference = true)) ∧
  ∀ q ∈ F.2, ∀ q' ∈ F.2, q.1 ≠ q'.1 → (K q.1).2.1 ≠ (K q'.1).2.1
theorem cls_laid {Z : State} {a0 : Array Value} {K : Nat → String × String × String} {CN : Nat → String} {C : Nat} {F : Fls} (h : ClsOk Z a0 K CN C F) {q : Nat × Value × Bool} (hq : q ∈ F.2) : Laid Z a0 (CN C) (K q.1).1 (K q.1).2.1 (K q.1).2.2 := by
  obtain ⟨-, -, h3, -⟩ := h
  have w := (h3 q hq).1
  split at w
  · exact Or.inr w
  · exact Or.inl w

section HeapSteps
variable {p : Program} {l : Launch} {e : Env} {R : Room} {s : State} {m : MethodId} {args : Array Value} {below : List Frame} {meth : Method} {c : Code} {T : State} {locs : List Loc} {cells slots : Nat} {Z : State} {a0 : Array Value}
variable {ρ : Rho} {D NI : Nat → Nat → Bool} {pc : Nat} {ls : List Slot} {st : List Value} {f' : Fm} {K : Nat → String × String × String} {CN : Nat → String} {MN : Nat → MethodName} {b n0 : Nat} {S : List (Nat × Value)} {H H' : List Obj} {CT : Nat → Option Fls} {P : Nat → Option Meth} {x : MethodName}

theorem in_of {j : Int32} {n : Nat} (h1 : ¬ j < 0) (h2 : j.toNatClampNeg < n) : ¬ (j < 0 ∨ n ≤ j.toNatClampNeg) := fun q => q.elim h1 (fun z => absurd h2 (Nat.not_lt.mpr z))

/-- what a step that keeps the accounts leaves -/
abbrev Goes (p : Program) (l : Launch) (e : Env) (R : Room) (s : State) (m : MethodId) (args : Array Value) (below : List Frame) (meth : Method) (c : Code) (T : State) (cells slots : Nat) (Z : State) (ρ : Rho) (K : Nat → String × String × String) (CN : Nat → String) (b n0 : Nat) (S : List (Nat × Value)) (H' : List Obj) (f f' : Fm) : Prop :=
  ∃ (T' : State) (locs' : List Loc), Stand p l e R s m args below meth c T' locs' cells slots ∧ Fr n0 locs' ∧ Sim Z ρ K CN b n0 S H' T'.heap ∧ T'.heap.size = T.heap.size ∧ ∀ target, Steps p.tables e below (T'.setTop (fm ρ m f')) target → Steps p.tables e below (T.setTop (fm ρ m f)) target

theorem ld_ok (X : Stand p l e R s m args below meth c T locs cells slots) (hx : p.tables.exec = Jvm.exec) (hZ : Z.Warmed39 s.vm) (N : Fr n0 locs) (hS : Sim Z ρ K CN b n0 S H T.heap) {ok : FieldType → Bool} (h : hLd ok (pc, ls, st) H = some (f', H'))
    (law : ∀ {a : Addr} {cell : Cell} {ty : FieldType} {j : Int32} {v : Value} {rest : List Value}, ok ty = true → T.heap[a]? = some cell → s.isArrayOf cell ty → cell.vm ≠ .unknown → ¬ (j < 0 ∨ cell.slots.size ≤ j.toNatClampNeg) → cell.slots[j.toNatClampNeg]? = some v → ∀ target, Steps p.tables e below (T.setTop (mkF m (pc + 1) (ar ρ ls) (v :: rest))) target → Steps p.tables e below (T.setTop (mkF m pc (ar ρ ls) (.int j :: .ref a :: rest))) target) :
    Goes p l e R s m args below meth c T cells slots Z ρ K CN b n0 S H' (pc, ls, st) f' := by
  unfold hLd at h
  split at h
  · rename_i q; cases q
    split at h
    · rename_i ty vs q
      have q' := getA_inv q
      split at h
      · rename_i q1
        obtain ⟨q1, q2⟩ := Bool.and_eq_true_iff.mp q1
        split at h
        · rename_i v q3
          split at h
          · rename_i q5
            cases h
            obtain ⟨cl, A, e1, e2⟩ := hS.2.2.1 _ _ q'
            have hj := q2
            simp only [Bool.not_eq_true', decide_eq_false_iff_not] at hj
            have hlt := (List.getElem?_eq_some_iff.mp q3).1
            exact ⟨T, locs, X, N, hS, rfl, law q1 A.1 (State.isArrayOf_alike hZ.alike A.2.1) A.2.2 (in_of hj (by rw [e1]; exact hlt)) (e2 _ _ q3 q5)⟩
          · cases h
        · cases h
      · cases h
    · cases h
  · cases h
theorem set_arr {h h' : Heap} {a : Addr} {ty : FieldType} {vs : List Value} {cl : Cell} {j : Nat} {v : Value} (A : Arr Z h a cl ty) (e1 : cl.slots.size = vs.length) (e2 : ∀ (i : Nat) (v : Value), vs[i]? = some v → kn v = true → cl.slots[i]? = some (rl ρ v)) (hj : j < vs.length) (W : Wr h h' a j (rl ρ v)) : ObjOk Z ρ K CN h' a (.inl (ty, vs.set j v)) := by
  refine ⟨_, A.same W, by simp [Cell.setSlot, e1], fun i w hw hk => ?_⟩
  by_cases hi : i = j
  · subst hi
    rw [List.getElem?_set_self hj] at hw
    cases hw
    simp [Cell.setSlot, e1, hj]
  · rw [List.getElem?_set_ne (fun q => hi q.symm)] at hw
    show (cl.slots.setIfInBounds j (rl ρ v))[i]? = _
    rw [Array.getElem?_setIfInBounds_ne (fun q => hi q.symm)]
    exact e2 i w hw hk
theorem rl_nar (ρ : Rho) (ty : FieldType) (x : Int32) : rl ρ (.int (nar ty x)) = .int (nar ty x) := rfl
theorem st_ok (hρ1 : ∀ i, b ≤ i → ρ.1 i = n0 + (i - b)) (hρ0 : ∀ i, i < b → ρ.1 i < n0) (X : Stand p l e R s m args below meth c T locs cells slots) (N : Fr n0 locs) (hS : Sim Z ρ K CN b n0 S H T.heap) {ok : FieldType → Bool} (h : hSt b ok (pc, ls, st) H = some (f', H'))
    (law : ∀ {a : Addr} {cell : Cell} {ty : FieldType} {j x : Int32} {rest : List Value}, ok ty = true → Arr Z T.heap a cell ty → ¬ (j < 0 ∨ cell.slots.size ≤ j.toNatClampNeg) → ∃ T' h', Stand p l e R s m args below meth c T' (locs ++ [⟨a, j.toNatClampNeg⟩]) cells slots ∧ T'.heap = h' ∧ Wr T.heap h' a j.toNatClampNeg (.int (nar ty x)) ∧ ∀ target, Steps p.tables e below (T'.setTop (mkF m (pc + 1) (ar ρ ls) rest)) target → Steps p.tables e below (T.setTop (mkF m pc (ar ρ ls) (.int x :: .int j :: .ref a :: rest))) target) :
    Goes p l e R s m args below meth c T cells slots Z ρ K CN b n0 S H' (pc, ls, st) f' := by
  unfold hSt at h
  split at h
  · rename_i q; cases q
    split at h
    · rename_i ty vs q
      have q' := getA_inv q
      split at h
      · rename_i q1
        obtain ⟨q1, q4⟩ := Bool.and_eq_true_iff.mp q1
        obtain ⟨q1, q3⟩ := Bool.and_eq_true_iff.mp q1
        obtain ⟨q1, q2⟩ := Bool.and_eq_true_iff.mp q1
        cases h
        obtain ⟨cl, A, e1, e2⟩ := hS.2.2.1 _ _ q'
        have hj := q3
        simp only [Bool.not_eq_true', decide_eq_false_iff_not] at hj
        have hlt := Nat.le_of_ble_eq_true (show Nat.ble _ vs.length = true from q4)
        have hba := Nat.le_of_ble_eq_true q2
        obtain ⟨T', h', X', e3, W, st'⟩ := law q1 A (in_of hj (by rw [e1]; exact hlt))
        subst e3
        exact ⟨T', _, X', Fr.snoc X' N (by rw [hρ1 _ hba]; omega), hS.wr hρ1 hρ0 W hba (set_arr A e1 e2 hlt W), W.size, st' ⟩
      · cases h
    · cases h
  · cases h
theorem stJ_ok (hρ1 : ∀ i, b ≤ i → ρ.1 i = n0 + (i - b)) (hρ0 : ∀ i, i < b → ρ.1 i < n0) (X : Stand p l e R s m args below meth c T locs cells slots) (hx : p.tables.exec = Jvm.exec) (hZ : Z.Warmed39 s.vm) (hd : decode c.code pc = .ok (.lastore, 1)) (N : Fr n0 locs) (hS : Sim Z ρ K CN b n0 S H T.heap) (h : hStJ b (pc, ls, st) H = some (f', H')) :
    Goes p l e R s m args below meth c T cells slots Z ρ K CN b n0 S H' (pc, ls, st) f' := by
  unfold hStJ at h
  split at h
  · rename_i q; cases q
    rename_i xx jj aa st
    split at h
    · rename_i ty vs q
      have q' := getA_inv q
      split at h
      · rename_i q1
        obtain ⟨q1, q4⟩ := Bool.and_eq_true_iff.mp q1
        obtain ⟨q1, q3⟩ := Bool.and_eq_true_iff.mp q1
        obtain ⟨q1, q2⟩ := Bool.and_eq_true_iff.mp q1
        cases h
        obtain ⟨cl, A, e1, e2⟩ := hS.2.2.1 _ _ q'
        have hj := q3
        simp only [Bool.not_eq_true', decide_eq_false_iff_not] at hj
        have hlt := Nat.le_of_ble_eq_true (show Nat.ble _ vs.length = true from q4)
        have hba := Nat.le_of_ble_eq_true q2
        have hty : ty = .long := by cases ty <;> first | rfl | cases q1
        subst hty
        obtain ⟨T', h', X', e3, W, st'⟩ := stJ X hx hZ rfl A (in_of hj (by rw [e1]; exact hlt)) (g := fm ρ m (pc, ls, .long xx :: .int jj :: .ref aa :: st)) rfl rfl hd
        subst e3
        exact ⟨T', _, X', Fr.snoc X' N (by rw [hρ1 _ hba]; omega), hS.wr hρ1 hρ0 W hba (set_arr (v := .long _) A e1 e2 hlt W), W.size, st'⟩
      · cases h
    · cases h
  · cases h
theorem kind_ok {ty : FieldType} {dv v : Value} (h1 : defaultValue ty = dv) (h2 : ty = .int ∨ ty = .long ∨ ty.isReference = true) (h3 : sameKind dv v = true) : narrow ty (rl ρ v) = rl ρ v ∧ fits ty (rl ρ v) = true := by
  subst h1
  rcases h2 with rfl | rfl | h2
  · cases v <;> first | exact ⟨rfl, rfl⟩ | cases h3
  · cases v <;> first | exact ⟨rfl, rfl⟩ | cases h3
  · cases ty <;> first | (cases h2; done) | (cases v <;> first | exact ⟨rfl, rfl⟩ | cases h3)
set_option maxHeartbeats 1600000 in
theorem put_ok (hρ1 : ∀ i, b ≤ i → ρ.1 i = n0 + (i - b)) (hρ0 : ∀ i, i < b → ρ.1 i < n0) (hCT : ∀ C F, CT C = some F → ClsOk Z a0 K CN C F) (X : Stand p l e R s m args below meth c T locs cells slots) (hx : p.tables.exec = Jvm.exec) (hZ : Z.Warmed39 s.vm) {own : String} (hown : s.vm.findClass own = some m.cls) {idx a k : Nat}
    (w : (Cond.fieldLink own idx (K a).1 (K a).2.1 (K a).2.2).before a0 Z = true) (hfin : k = 1 → own = (K a).1 ∧ meth.name = "<init>") (hd : decode c.code pc = .ok (.putfield idx, 3)) (N : Fr n0 locs) (hS : Sim Z ρ K CN b n0 S H T.heap) (h : hPut b CT a k (pc, ls, st) H = some (f', H')) :
    Goes p l e R s m args below meth c T cells slots Z ρ K CN b n0 S H' (pc, ls, st) f' := by
  unfold hPut at h
  split at h
  · rename_i q; cases q
    rename_i v o st
    split at h
    · rename_i C fs q
      have q' := getO_inv q
      split at h
      · rename_i sl fl qc
        split at h
        · rename_i dv fin ql
          split at h
          · rename_i q1
            obtain ⟨q1, q4⟩ := Bool.and_eq_true_iff.mp q1
            obtain ⟨q1, q3⟩ := Bool.and_eq_true_iff.mp q1
            obtain ⟨q1, q2⟩ := Bool.and_eq_true_iff.mp q1
            cases h
            have hC := hCT _ _ qc
            have hm := lookT_mem ql
            obtain ⟨k1, k2⟩ := keys_mem (a := 0) q2
            obtain ⟨old, hold⟩ := k2 _ hm
            obtain ⟨E, Fs⟩ := hS.2.2.1 _ _ q'
            obtain ⟨wl, ty, t1, t2, t3⟩ := hC.2.2.1 (a, dv, fin) hm
            obtain ⟨n1, n2⟩ := kind_ok (ρ := ρ) t2 t3 q3
            have hba := Nat.le_of_ble_eq_true q1
            have L : (Cond.lays (CN C) (K a).1 (K a).2.1 (K a).2.2).before a0 Z = true ∨ ((Cond.laysFinal (CN C) (K a).1 (K a).2.1 (K a).2.2).before a0 Z = true ∧ own = (K a).1 ∧ meth.name = "<init>") := by
              dsimp only at wl
              cases fin with
              | false => exact Or.inl (by simpa using wl)
              | true => exact Or.inr ⟨by simpa using wl, hfin (Nat.eq_of_beq_eq_true (by simpa using q4))⟩
            obtain ⟨T', h', X', e2, W, st'⟩ := putF X hx hZ hown (host := "") (Or.inl w) Via.refl rfl (Fs _ hold) E L hC.1 t1 n1 n2 (g := fm ρ m (pc, ls, v :: .ref o :: st)) rfl rfl hd
            subst e2
            refine ⟨T', _, X', Fr.snoc X' N (by rw [hρ1 _ hba]; omega), hS.wr hρ1 hρ0 W hba ⟨E.wr W, fun r hr => ?_⟩, W.size, st'⟩
            rcases setF_mem hr with rfl | ⟨r1, r2⟩
            · exact (Fs _ hold).same W
            · obtain ⟨dv', fin', hm'⟩ := k1 _ r2
              obtain ⟨-, ty', t1', -⟩ := hC.2.2.1 (r.1, dv', fin') hm'
              have l1 : Laid Z a0 (CN C) (K r.1).1 (K r.1).2.1 (K r.1).2.2 := cls_laid (F := (sl, fl)) (q := (r.1, dv', fin')) hC hm'
              have l2 : Laid Z a0 (CN C) (K a).1 (K a).2.1 (K a).2.2 := cls_laid (F := (sl, fl)) (q := (a, dv, fin)) hC hm
              have ne : (K r.1).2.1 ≠ (K a).2.1 := hC.2.2.2 (r.1, dv', fin') hm' (a, dv, fin) hm r1
              have sn := slot_ne l1 l2 ne t1' t1
              exact (Fs _ r2).other W (Or.inr sn)
          · cases h
        · cases h
      · cases h
    · cases h
  · cases h
theorem hstep_ok (hρ1 : ∀ i, b ≤ i → ρ.1 i = n0 + (i - b)) (hρ0 : ∀ i, i < b → ρ.1 i < n0) (hCT : ∀ C F, CT C = some F → ClsOk Z a0 K CN C F)
    (hNI : ∀ C k, NI C k = true → ∃ c t, Z.vm.findClass (CN C) = some c ∧ Z.vm.findClass (CN k) = some t ∧ Z.vm.assignable c t = false)
    (X : Stand p l e R s m args below meth c T locs cells slots) (hx : p.tables.exec = Jvm.exec) (hZ : Z.Warmed39 s.vm) (hown : s.vm.findClass x.cls = some m.cls) (hnm : meth.name = x.name)
    {i : Instr} {a k cc : Nat} {v : Value} (hw : ∀ w ∈ need P K CN MN x.cls (i, a, k, cc, v), w.before a0 Z = true) (hsd : side P K MN x (i, a, k, cc, v) = true)
    (hd : decode c.code pc = .ok (i, ilen i)) (N : Fr n0 locs) (hS : Sim Z ρ K CN b n0 S H T.heap) (h : hstep b S CT NI i a k cc (pc, ls, st) H = some (f', H')) :
    Goes p l e R s m args below meth c T cells slots Z ρ K CN b n0 S H' (pc, ls, st) f' := by
  cases i
  case iaload => exact ld_ok X hx hZ N hS h (fun {a cell ty j v rest} h1 h2 h3 h4 h5 h6 target hr => by
    have hty : ty = .int := by cases ty <;> first | rfl | cases h1
    subst hty
    exact X.iaload hx h2 h3 h4 h5 h6 (g := mkF m pc (ar ρ ls) (.int j :: .ref a :: rest)) rfl rfl hd target hr)
  case laload => exact ld_ok X hx hZ N hS h (fun {a cell ty j v rest} h1 h2 h3 h4 h5 h6 target hr => by
    have hty : ty = .long := by cases ty <;> first | rfl | cases h1
    subst hty
    exact X.laload hx h2 h3 h4 h5 h6 (g := mkF m pc (ar ρ ls) (.int j :: .ref a :: rest)) rfl rfl hd target hr)
  case caload => exact ld_ok X hx hZ N hS h (fun {a cell ty j v rest} h1 h2 h3 h4 h5 h6 target hr => by
    have hty : ty = .char := by cases ty <;> first | rfl | cases h1
    subst hty
    exact X.caload hx h2 h3 h4 h5 h6 (g := mkF m pc (ar ρ ls) (.int j :: .ref a :: rest)) rfl rfl hd target hr)
  case baload => exact ld_ok X hx hZ N hS h (fun {a cell ty j v rest} h1 h2 h3 h4 h5 h6 target hr => by
    have hty : ty = .byte ∨ ty = .boolean := by cases ty <;> first | exact Or.inl rfl | exact Or.inr rfl | cases h1
    rcases hty with rfl | rfl
    · exact X.baloadBytes hx h2 h3 h4 h5 h6 (g := mkF m pc (ar ρ ls) (.int j :: .ref a :: rest)) rfl rfl hd target hr
    · exact X.baloadBooleans hx h2 h3 h4 h5 h6 (g := mkF m pc (ar ρ ls) (.int j :: .ref a :: rest)) rfl rfl hd target hr)
  case aaload => exact ld_ok X hx hZ N hS h (fun {a cell ty j v rest} h1 h2 h3 h4 h5 h6 target hr => X.aaload hx h2 h3 h1 h4 h5 h6 (g := mkF m pc (ar ρ ls) (.int j :: .ref a :: rest)) rfl rfl hd target hr)
  case iastore => exact st_ok hρ1 hρ0 X N hS h (fun {a cell ty j x rest} h1 A h2 => by
    have hty : ty = .int := by cases ty <;> first | rfl | cases h1
    subst hty
    exact stI X hx hZ rfl A h2 (g := mkF m pc (ar ρ ls) (.int x :: .int j :: .ref a :: rest)) rfl rfl hd)
  case castore => exact st_ok hρ1 hρ0 X N hS h (fun {a cell ty j x rest} h1 A h2 => by
    have hty : ty = .char := by cases ty <;> first | rfl | cases h1
    subst hty
    exact stC X hx hZ rfl A h2 (g := mkF m pc (ar ρ ls) (.int x :: .int j :: .ref a :: rest)) rfl rfl hd)
  case bastore => exact st_ok hρ1 hρ0 X N hS h (fun {a cell ty j x rest} h1 A h2 => by
    have hty : ty = .byte ∨ ty = .boolean := by cases ty <;> first | exact Or.inl rfl | exact Or.inr rfl | cases h1
    rcases hty with rfl | rfl
    · exact stB X hx hZ rfl A h2 (g := mkF m pc (ar ρ ls) (.int x :: .int j :: .ref a :: rest)) rfl rfl hd
    · exact stZ X hx hZ rfl A h2 (g := mkF m pc (ar ρ ls) (.int x :: .int j :: .ref a :: rest)) rfl rfl hd)
  case lastore => exact stJ_ok hρ1 hρ0 X hx hZ hd N hS h
  case putfield idx =>
    refine put_ok hρ1 hρ0 hCT X hx hZ hown (idx := idx) (hw _ (List.mem_cons_self ..)) (fun hk => ?_) hd N hS h
    subst hk
    have q : (x.cls == (K a).1 && x.name == "<init>") = true := by simpa [side] using hsd
    obtain ⟨q1, q2⟩ := Bool.and_eq_true_iff.mp q
    exact ⟨by simpa using q1, by rw [hnm]; simpa using q2⟩
  case getfield idx =>
    have h' : hGet a (pc, ls, st) H = some (f', H') := h
    unfold hGet at h'
    split at h'
    · rename_i q; cases q
      rename_i o st
      split at h'
      · rename_i C fs q
        split at h'
        · rename_i v q2
          cases h'
          obtain ⟨E, Fs⟩ := hS.2.2.1 _ _ (getO_inv q)
          obtain ⟨T', X', e', st'⟩ := getF X hx hZ hown (host := "") (Or.inl (hw _ (List.mem_cons_self ..))) Via.refl rfl (Fs _ (look_mem q2)) (g := fm ρ m (pc, ls, .ref o :: st)) rfl rfl hd
          exact ⟨T', _, X', N, by rw [e']; exact hS, by rw [e'], st'⟩
        · cases h'
      · cases h'
    · cases h'
  case getstatic idx =>
    have h' : hSta S a cc (pc, ls, st) H = some (f', H') := h
    unfold hSta at h'
    dsimp only at h'
    split at h'
    · rename_i c' v q
      split at h'
      · rename_i q2
        cases h'
        have e1 := Nat.eq_of_beq_eq_true q2
        subst e1
        have F := hS.2.2.2 _ (List.mem_of_getElem? q)
        obtain ⟨T', X', e', st'⟩ := getS (host := "") X hx hZ hown (hw _ (List.mem_cons_self ..)) Via.refl rfl F (g := fm ρ m (pc, ls, st)) rfl hd
        exact ⟨T', _, X', N, by rw [e']; exact hS, by rw [e'], st'⟩
      · cases h'
    · cases h'
  case arraylength =>
    have h' : hLen (pc, ls, st) H = some (f', H') := h
    unfold hLen at h'
    split at h'
    · rename_i q; cases q
      rename_i o st
      split at h'
      · rename_i ty vs q
        cases h'
        obtain ⟨cl, A, e1, -⟩ := hS.2.2.1 _ _ (getA_inv q)
        refine ⟨T, _, X, N, hS, rfl, fun target hr => X.arraylength hx A.1 (State.isArrayOf_alike hZ.alike A.2.1) (g := fm ρ m (pc, ls, .ref o :: st)) rfl rfl hd target ?_⟩
        rw [e1]
        exact hr
      · cases h'
    · cases h'
  case checkcast idx =>
    have h' : hCast cc (pc, ls, st) H = some (f', H') := h
    unfold hCast at h'
    split at h'
    · rename_i q; cases q; cases h'
      exact ⟨T, _, X, N, hS, rfl, fun target hr => X.checkcastNull hx (g := fm ρ m (pc, ls, .null :: _)) rfl rfl hd target hr⟩
    · rename_i q; cases q
      rename_i o st
      split at h'
      · rename_i C fs q
        split at h'
        · rename_i q2; cases h'
          have e1 := Nat.eq_of_beq_eq_true q2
          subst e1
          obtain ⟨E, -⟩ := hS.2.2.1 _ _ (getO_inv q)
          obtain ⟨T', X', e', st'⟩ := castY X hx hZ hown (hw _ (List.mem_cons_self ..)) rfl (Ins.self E) (g := fm ρ m (pc, ls, .ref o :: st)) rfl rfl hd
          exact ⟨T', _, X', N, by rw [e']; exact hS, by rw [e'], st'⟩
        · cases h'
      · cases h'
    · cases h'
  case instanceof idx =>
    have h' : hInst NI cc (pc, ls, st) H = some (f', H') := h
    unfold hInst at h'
    split at h'
    · rename_i q; cases q; cases h'
      exact ⟨T, _, X, N, hS, rfl, fun target hr => X.instanceofNull hx (g := fm ρ m (pc, ls, .null :: _)) rfl rfl hd target hr⟩
    · rename_i q; cases q
      rename_i o st
      split at h'
      · rename_i C fs q
        obtain ⟨E, -⟩ := hS.2.2.1 _ _ (getO_inv q)
        split at h'
        · rename_i q2; cases h'
          have e1 := Nat.eq_of_beq_eq_true q2
          subst e1
          obtain ⟨T', X', e', st'⟩ := instY X hx hZ hown (hw _ (List.mem_cons_self ..)) rfl (Ins.self E) (g := fm ρ m (pc, ls, .ref o :: st)) rfl rfl hd
          exact ⟨T', _, X', N, by rw [e']; exact hS, by rw [e'], st'⟩
        · split at h'
          · rename_i q3; cases h'
            obtain ⟨T', X', e', st'⟩ := instNo X hx hZ hown (hw _ (List.mem_cons_self ..)) rfl E (hNI _ _ q3) (g := fm ρ m (pc, ls, .ref o :: st)) rfl rfl hd
            exact ⟨T', _, X', N, by rw [e']; exact hS, by rw [e'], st'⟩
          · cases h'
      · cases h'
    · cases h'
  all_goals exact absurd (show none = some (f', H') from h) (by simp)

/-! ### steps that make a cell -/
def aNew (CT : Nat → Option Fls) (c : Nat) : Fm → List Obj → Option (Fm × List Obj × Nat)
  | (pc, ls, st), H => match CT c with
    | some (sl, fl) => some ((pc + 3, ls, .ref H.length :: st), H ++ [.inr (c, fl.map fun q => (q.1, q.2.1))], sl)
    | none => none
def aArr (aty : ArrayType) : Fm → List Obj → Option (Fm × List Obj × Nat)
  | (pc, ls, .int n :: st), H => if !decide (n < 0) && Nat.ble (n.toNatClampNeg * 8) 536870912 then some ((pc + 2, ls, .ref H.length :: st), H ++ [.inl (newarray.typeOf aty, List.replicate n.toNatClampNeg (defaultValue (newarray.typeOf aty)))], n.toNatClampNeg) else none
  | _, _ => none
def astep (CT : Nat → Option Fls) (i : Instr) (c : Nat) (f : Fm) (H : List Obj) : Option (Fm × List Obj × Nat) :=
  match i with
  | .new _ => aNew CT c f H
  | .newarray aty => aArr aty f H
  | _ => none
theorem rl_default (ρ : Rho) (ty : FieldType) : rl ρ (defaultValue ty) = defaultValue ty := by cases ty <;> rfl
theorem astep_ok (hρ1 : ∀ i, b ≤ i → ρ.1 i = n0 + (i - b)) (hCT : ∀ C F, CT C = some F → ClsOk Z a0 K CN C F)
    (X : Stand p l e R s m args below meth c T locs cells slots) (hx : p.tables.exec = Jvm.exec) (hZ : Z.Warmed39 s.vm) (hown : s.vm.findClass x.cls = some m.cls)
    {i : Instr} {a k cc ds : Nat} {v : Value} (hw : ∀ w ∈ need P K CN MN x.cls (i, a, k, cc, v), w.before a0 Z = true)
    (hd : decode c.code pc = .ok (i, ilen i)) (hS : Sim Z ρ K CN b n0 S H T.heap) (hsz : T.heap.size = s.heap.size + cells) (h : astep CT i cc (pc, ls, st) H = some (f', H', ds)) (hc : cells + 1 ≤ R.cells) (hl : slots + ds ≤ R.slots) :
    ∃ T', Stand p l e R s m args below meth c T' locs (cells + 1) (slots + ds) ∧ Sim Z ρ K CN b n0 S H' T'.heap ∧ T'.heap.size = s.heap.size + (cells + 1) ∧ ∀ target, Steps p.tables e below (T'.setTop (fm ρ m f')) target → Steps p.tables e below (T.setTop (fm ρ m (pc, ls, st))) target := by
  have eρ : ρ.1 H.length = T.heap.size := by rw [hρ1 _ hS.1, ← hS.2.1]
  cases i
  case new idx =>
    have h' : aNew CT cc (pc, ls, st) H = some (f', H', ds) := h
    unfold aNew at h'
    dsimp only at h'
    split at h'
    · rename_i sl fl q
      cases h'
      have hC := hCT _ _ q
      obtain ⟨T', h', X', e', E, A, Dv, -, st'⟩ := newO X hx hZ hown (hw _ (List.mem_cons_self ..)) hC.1 hC.2.1 rfl (g := fm ρ m (pc, ls, st)) rfl hd hc hl
      subst e'
      have hs1 : T'.heap.size = T.heap.size + 1 := by
        have q1 : T'.heap.size ≤ s.heap.size + (cells + 1) := X'.heapSize
        have q2 : T.heap.size < T'.heap.size := A.lt
        omega
      refine ⟨T', X', hS.new hρ1 E hs1 ⟨A, fun r hr => ?_⟩, by omega, fun target hr => st' target ?_⟩
      · obtain ⟨y, hy, rfl⟩ := List.mem_map.mp hr
        obtain ⟨-, ty, t1, t2, -⟩ := hC.2.2.1 _ hy
        have F := Dv (cls_laid hC hy) t1
        show Fld Z T'.heap T.heap.size (K y.1).1 (K y.1).2.1 (K y.1).2.2 (rl ρ y.2.1)
        rw [← t2, rl_default]
        exact F
      · show Steps p.tables e below (T'.setTop (mkF m (pc + 3) (ar ρ ls) (.ref T.heap.size :: st.map (rl ρ)))) target
        rw [← eρ]
        exact hr
    · cases h'
  case newarray aty =>
    have h' : aArr aty (pc, ls, st) H = some (f', H', ds) := h
    unfold aArr at h'
    split at h'
    · rename_i q; cases q
      rename_i n st
      split at h'
      · rename_i q1
        cases h'
        obtain ⟨q1, q2⟩ := Bool.and_eq_true_iff.mp q1
        have hn : ¬ n < 0 := by simpa using q1
        obtain ⟨T', h', cA, X', e', E, A, st'⟩ := newP X hx hZ (hw _ (List.mem_cons_self ..)) rfl (g := fm ρ m (pc, ls, .int n :: st)) rfl hd rfl hn (Nat.le_refl _) (Nat.le_of_ble_eq_true q2) hc hl
        subst e'
        have hs1 : T'.heap.size = T.heap.size + 1 := by
          have q1 : T'.heap.size ≤ s.heap.size + (cells + 1) := X'.heapSize
          have q2 : T.heap.size < T'.heap.size := A.lt
          omega
        refine ⟨T', X', hS.new hρ1 E hs1 (ObjOk.of_slots A ?_), by omega, fun target hr => st' target ?_⟩
        · simp [newA, rl_default]
        · show Steps p.tables e below (T'.setTop (mkF m (pc + 2) (ar ρ ls) (.ref T.heap.size :: st.map (rl ρ)))) target
          rw [← eρ]
          exact hr
      · cases h'
    · cases h'
  all_goals exact absurd (show none = some (f', H', ds) from h) (by simp)

/-! ### Object's constructor, and returning -/
def wt (st : List Value) : Nat := (st.map fun v => v.category).sum
theorem wt_rl (ρ : Rho) (st : List Value) : ((st.map (rl ρ)).map fun v => v.category).sum = wt st := by
  unfold wt
  rw [List.map_map]
  congr 1
  apply List.map_congr_left
  intro v _
  exact rl_cat ρ v
def istep (maxL fr lo : Nat) (i : Instr) (c : Nat) (f : Fm) : Option Fm :=
  match i with
  | .invokespecial _ => (match f with
    | (pc, ls, .ref _ :: st) => if Nat.beq c 1 && Nat.ble 1 fr && Nat.ble (wt st + 12) lo && Nat.beq ls.length maxL then some (pc + 3, ls, st) else none
    | _ => none)
  | _ => none
theorem istep_ok (X : Stand p l e R s m args below meth c T locs cells slots) (hx : p.tables.exec = Jvm.exec) (hZ : Z.Warmed39 s.vm) (hown : s.vm.findClass x.cls = some m.cls)
    {i : Instr} {a k cc maxL fr lo : Nat} {v : Value} (hml : c.maxLocals = maxL) (hfr : R.frames = fr) (hlo : R.locals = lo) (hw : ∀ w ∈ need P K CN MN x.cls (i, a, k, cc, v), w.before a0 Z = true)
    (hd : decode c.code pc = .ok (i, ilen i)) (N : Fr n0 locs) (hS : Sim Z ρ K CN b n0 S H T.heap) (h : istep maxL fr lo i cc (pc, ls, st) = some f') :
    Goes p l e R s m args below meth c T cells slots Z ρ K CN b n0 S H (pc, ls, st) f' := by
  cases i
  case invokespecial idx =>
    unfold istep at h
    dsimp only at h
    split at h
    · rename_i q; cases q
      rename_i o st
      split at h
      · rename_i q1
        obtain ⟨q1, q4⟩ := Bool.and_eq_true_iff.mp q1
        obtain ⟨q1, q3⟩ := Bool.and_eq_true_iff.mp q1
        obtain ⟨q1, q2⟩ := Bool.and_eq_true_iff.mp q1
        cases h
        have e1 := Nat.eq_of_beq_eq_true q1
        subst e1
        have hlen := Nat.eq_of_beq_eq_true q4
        obtain ⟨T', X', e', st'⟩ := initO X hx hZ hown (idx := idx) (hw _ (by simp [need])) (hw _ (by simp [need])) (hw _ (by simp [need])) rfl (g := fm ρ m (pc, ls, .ref o :: st)) rfl (by rw [hml]; simpa [ar] using hlen) rfl hd (by rw [hfr]; exact Nat.le_of_ble_eq_true q2) (W := wt st) (by show 2 * 0 + _ ≤ _; rw [wt_rl]; omega) (by rw [hlo]; exact Nat.le_of_ble_eq_true q3)
        exact ⟨T', _, X', N, by rw [e']; exact hS, by rw [e'], st'⟩
      · cases h
    · cases h
  all_goals exact absurd (show none = some f' from h) (by simp)
def rstep (ret : Option FieldType) (i : Instr) (st : List Value) : Option (Option Value) :=
  match i with
  | .ireturn => (match st with
    | .int x :: _ => (match ret with
      | some .int => some (some (.int x))
      | some .boolean => some (some (.int (nar .boolean x)))
      | some .byte => some (some (.int (nar .byte x)))
      | some .char => some (some (.int (nar .char x)))
      | _ => none)
    | _ => none)
  | .lreturn => (match st with
    | .long x :: _ => (match ret with | some .long => some (some (.long x)) | _ => none)
    | _ => none)
  | .areturn => (match st with
    | v :: _ => (match ret with | some t => if t.isReference && v.isRef then some (some v) else none | none => none)
    | _ => none)
  | .return_ => (match st with
    | [] => (match ret with | none => some none | _ => none)
    | _ => none)
  | _ => none
theorem rstep_ok (X : Stand p l e R s m args below meth c T locs cells slots) (hx : p.tables.exec = Jvm.exec) {i : Instr} {ret : Option FieldType} {v : Option Value} (hret : meth.sig.returnType = ret) (hd : decode c.code pc = .ok (i, ilen i)) (h : rstep ret i st = some v) :
    (meth.sig.returnType = none → v.map (rl ρ) = none) ∧ ∀ fs, (∀ (f : JFrame) (acts : List Action), f.method = m → f.locked = none → f.entered = [] → (doReturn e (T.setTop f) acts (v.map (rl ρ))).1 = T.setFrames fs) → Steps p.tables e below (T.setTop (fm ρ m (pc, ls, st))) (T.setFrames fs) := by
  cases i
  case ireturn =>
    unfold rstep at h
    dsimp only at h
    split at h
    · split at h
      · cases h
        exact ⟨fun q => by (rw [hret] at q; cases q), fun fs hl => retOut X hx hret rfl (Or.inl ⟨rfl, Or.inl rfl, _, rfl⟩) hd hl⟩
      · cases h
        exact ⟨fun q => by (rw [hret] at q; cases q), fun fs hl => retN X hx (t := .boolean) hret (by simp) hd hl⟩
      · cases h
        exact ⟨fun q => by (rw [hret] at q; cases q), fun fs hl => retN X hx (t := .byte) hret (by simp) hd hl⟩
      · cases h
        exact ⟨fun q => by (rw [hret] at q; cases q), fun fs hl => retN X hx (t := .char) hret (by simp) hd hl⟩
      · cases h
    · cases h
  case lreturn =>
    unfold rstep at h
    dsimp only at h
    split at h
    · split at h
      · cases h
        exact ⟨fun q => by (rw [hret] at q; cases q), fun fs hl => retOut X hx hret rfl (Or.inr (Or.inl ⟨rfl, rfl, _, rfl⟩)) hd hl⟩
      · cases h
    · cases h
  case areturn =>
    unfold rstep at h
    dsimp only at h
    split at h
    · rename_i w r
      split at h
      · rename_i t
        split at h
        · rename_i q1
          obtain ⟨q1, q2⟩ := Bool.and_eq_true_iff.mp q1
          cases h
          have hn : narrow t (rl ρ w) = rl ρ w := by cases t <;> first | (cases q1; done) | (cases w <;> rfl)
          exact ⟨fun q => by (rw [hret] at q; cases q), fun fs hl => retOut X hx hret hn (Or.inr (Or.inr (Or.inr (Or.inr ⟨rfl, q1, by rw [rl_isRef]; exact q2⟩)))) hd hl⟩
        · cases h
      · cases h
    · cases h
  case return_ =>
    unfold rstep at h
    dsimp only at h
    split at h
    · split at h
      · cases h
        exact ⟨fun _ => rfl, fun fs hl => X.returnOut hx hret hd hl⟩
      · cases h
    · cases h
  all_goals exact absurd (show none = some v from h) (by simp)
end HeapSteps
/-! ### calls -/
def recvOk (i : Instr) (H : List Obj) (c : Nat) (as : List Value) : Bool :=
  match i with
  | .invokestatic _ => true
  | .invokespecial _ => (match as with | .ref _ :: _ => Nat.beq c 0 | _ => false)
  | .invokevirtual _ => (match as with | .ref o :: _ => (match getO H o with | some (C, _) => Nat.beq C c | none => false) | _ => false)
  | .invokeinterface _ _ => (match as with | .ref o :: _ => (match getO H o with | some (C, _) => Nat.beq C c | none => false) | _ => false)
  | _ => false
def callee (P : Nat → Option Meth) (maxL fr lo : Nat) (i : Instr) (a k c : Nat) (f : Fm) (H : List Obj) : Option (Meth × Nat × Nat × List Value × List Value) :=
  match P a with
  | none => none
  | some M => if Nat.beq (f.2.2.take k).length k && Nat.ble 1 fr && Nat.ble (wt (f.2.2.drop k) + (M.2.2.1 + 11)) lo && Nat.beq f.2.1.length maxL && recvOk i H c (f.2.2.take k).reverse then
      some (M, fr - 1, lo - (wt (f.2.2.drop k) + (M.2.2.1 + 11)), (f.2.2.take k).reverse, f.2.2.drop k)
    else none
/-- what a run leans on: methods, how many objects stood at the start, statics, classes, references apart, classes apart, tokens' answers -/
abbrev Cx : Type := (Nat → Option Meth) × Nat × List (Nat × Value) × (Nat → Option Fls) × (Nat → Nat → Bool) × (Nat → Nat → Bool) × (Instr → Nat → Int32 → Option Value)
def body (G : Cx) (self : Nat → Nat → Meth → Cfg → Option Res) (fr lo : Nat) (M : Meth) (cf : Cfg) : Option Res :=
  match M.2.2.2.2 cf.1.1 with
  | none => none
  | some (i, a, k, c, v) =>
    match pstep G.2.2.2.2.1 i v cf.1 with
    | some f' => self fr lo M (f', cf.2)
    | none =>
     match tstep G.2.2.2.2.2.2 i cf.1 with
     | some f' => self fr lo M (f', cf.2)
     | none =>
      match hstep G.2.1 G.2.2.1 G.2.2.2.1 G.2.2.2.2.2.1 i a k c cf.1 cf.2.1 with
      | some (f', H') => self fr lo M (f', H', cf.2.2)
      | none =>
        match rstep M.2.2.2.1 i cf.1.2.2 with
        | some v => some (v, cf.2)
        | none =>
          match astep G.2.2.2.1 i c cf.1 cf.2.1 with
          | some (f', H', ds) => self fr lo M (f', H', cf.2.2.1 + 1, cf.2.2.2 + ds)
          | none =>
            match istep M.2.2.1 fr lo i c cf.1 with
            | some f' => self fr lo M (f', cf.2)
            | none =>
              match callee G.1 M.2.2.1 fr lo i a k c cf.1 cf.2.1 with
              | some (M', fr', lo', as, rest) =>
                (match self fr' lo' M' ((0, entL as M'.2.2.1, []), cf.2.1, 0, 0) with
                | some (r, H', c', s') => self fr lo M ((cf.1.1 + ilen i, cf.1.2.1, r.toList ++ rest), H', cf.2.2.1 + c', cf.2.2.2 + s')
                | none => none)
              | none => none
def exec (G : Cx) : Nat → Nat → Nat → Meth → Cfg → Option Res
  | 0 => fun _ _ _ _ => none
  | n + 1 => body G (exec G n)

section Exec
variable {P : Nat → Option Meth} {b : Nat} {S : List (Nat × Value)} {CT : Nat → Option Fls} {D NI : Nat → Nat → Bool} {TB : Instr → Nat → Int32 → Option Value}
theorem exec_mono {G : Cx} : ∀ (n fr lo : Nat) (M : Meth) (cf : Cfg) (r : Res), exec G n fr lo M cf = some r → cf.2.2.1 ≤ r.2.2.1 ∧ cf.2.2.2 ≤ r.2.2.2
  | 0, _, _, _, _, _, h => by cases h
  | n + 1, fr, lo, M, cf, r, h => by
    have h' : body G (exec G n) fr lo M cf = some r := h
    unfold body at h'
    split at h'
    · cases h'
    · split at h'
      · have q := exec_mono n _ _ _ _ _ h'
        exact q
      · split at h'
        · have q := exec_mono n _ _ _ _ _ h'
          exact q
        · split at h'
          · have q := exec_mono n _ _ _ _ _ h'
            exact q
          · split at h'
            · cases h'; exact ⟨Nat.le_refl _, Nat.le_refl _⟩
            · split at h'
              · have q := exec_mono n _ _ _ _ _ h'
                exact ⟨Nat.le_trans (Nat.le_add_right _ _) q.1, Nat.le_trans (Nat.le_add_right _ _) q.2⟩
              · split at h'
                · have q := exec_mono n _ _ _ _ _ h'
                  exact q
                · split at h'
                  · split at h'
                    · have q := exec_mono n _ _ _ _ _ h'
                      exact ⟨Nat.le_trans (Nat.le_add_right _ _) q.1, Nat.le_trans (Nat.le_add_right _ _) q.2⟩
                    · cases h'
                  · cases h'

def GoodM (Z : State) (a0 : Array Value) (P : Nat → Option Meth) (K : Nat → String × String × String) (CN : Nat → String) (MN : Nat → MethodName) (M : Meth) : Prop :=
  ∀ pc r, M.2.2.2.2 pc = some r → decode M.2.1 pc = .ok (r.1, ilen r.1) ∧ (∀ w ∈ need P K CN MN M.1.cls r, w.before a0 Z = true) ∧ side P K MN M.1 r = true
def GoodP (Z : State) (a0 : Array Value) (P : Nat → Option Meth) (K : Nat → String × String × String) (CN : Nat → String) (MN : Nat → MethodName) : Prop :=
  ∀ a M, P a = some M → GoodM Z a0 P K CN MN M ∧ plainFor M.1 = true ∧ (Cond.code M.1 M.2.1 M.2.2.1 M.2.2.2.1).before a0 Z = true ∧ (Cond.initialized M.1.cls).before a0 Z = true

variable {l : Launch} {Z : State} {a0 : Array Value} {ρ : Rho} {K : Nat → String × String × String} {CN : Nat → String} {MN : Nat → MethodName} {n0 : Nat}

/-- what a run of the machine says of the model, inside a method -/
def Runs (l : Launch) (Z : State) (ρ : Rho) (K : Nat → String × String × String) (CN : Nat → String) (b n0 : Nat) (S : List (Nat × Value)) (fr lo : Nat) (M : Meth) (cf : Cfg) (r : Res) : Prop :=
  ∀ (p : Program) (e : Env) (R : Room) (s : State) (m : MethodId) (args : Array Value) (below : List Frame) (meth : Method) (c : Code) (T : State) (locs : List Loc),
    Stand p l e R s m args below meth c T locs cf.2.2.1 cf.2.2.2 → p.tables.exec = Jvm.exec → Z.Warmed39 s.vm → s.vm.findClass M.1.cls = some m.cls → meth.name = M.1.name → c.code = M.2.1 → c.maxLocals = M.2.2.1 → meth.sig.returnType = M.2.2.2.1 →
    R.frames = fr → R.locals = lo → r.2.2.1 ≤ R.cells → r.2.2.2 ≤ R.slots → Fr n0 locs → Sim Z ρ K CN b n0 S cf.2.1 T.heap → T.heap.size = s.heap.size + cf.2.2.1 →
    ∃ (T' : State) (locs' : List Loc), Stand p l e R s m args below meth c T' locs' r.2.2.1 r.2.2.2 ∧ Fr n0 locs' ∧ Sim Z ρ K CN b n0 S r.2.1 T'.heap ∧ T'.heap.size = s.heap.size + r.2.2.1 ∧ (meth.sig.returnType = none → r.1.map (rl ρ) = none) ∧
      ∀ fs, (∀ (f : JFrame) (acts : List Action), f.method = m → f.locked = none → f.entered = [] → (doReturn e (T'.setTop f) acts (r.1.map (rl ρ))).1 = T'.setFrames fs) → Steps p.tables e below (T.setTop (fm ρ m cf.1)) (T'.setFrames fs)

abbrev QR (Z : State) (ρ : Rho) (K : Nat → String × String × String) (CN : Nat → String) (b n0 : Nat) (S : List (Nat × Value)) (r : Res) (h0 : Heap) (v : Option Value) (h : Heap) (L : List Loc) : Prop :=
  v = r.1.map (rl ρ) ∧ Fr n0 L ∧ Sim Z ρ K CN b n0 S r.2.1 h ∧ h.size = h0.size + r.2.2.1

theorem met_of {fr lo : Nat} {M : Meth} {as : List Value} {H : List Obj} {r : Res} (hR : Runs l Z ρ K CN b n0 S fr lo M ((0, entL as M.2.2.1, []), H, 0, 0) r) (hp : plainFor M.1 = true) {h0 : Heap} (hS : Sim Z ρ K CN b n0 S H h0) (ws : List Cond) (R : Room) (h1 : R.frames = fr) (h2 : R.locals = lo) (h3 : r.2.2.1 ≤ R.cells) (h4 : r.2.2.2 ≤ R.slots) :
    MetFree l M.1 (head1 (Cond.code M.1 M.2.1 M.2.2.1 M.2.2.2.1 :: ws) R) (fun a U => a = (as.map (rl ρ)).toArray ∧ Z.Warmed39 U.vm ∧ U.heap = h0) (fun _ _ _ _ _ => True)
      (fun _ U o U' => ∃ v L, o = .returned v ∧ QR Z ρ K CN b n0 S r h0 v U'.heap L ∧ FrameEnd U o U' L r.2.2.1 r.2.2.2) := by
  refine MetFree.of_bodySF hp hisR ?_
  intro p e s m args below meth c s₁ Bd hml0 hP hK
  obtain ⟨rfl, hZ, hh⟩ := hP
  have hx := Bd.exec
  have hby := Bd.bytes
  have hown : s.vm.findClass M.1.cls = some m.cls := findClass_of_methodNamed Bd.named
  have hnm := (name_of_methodNamed Bd.named Bd.method).1
  have X0 : Stand p l e R s m (as.map (rl ρ)).toArray below meth c s₁ [] 0 0 := Stand.of_body Bd
  have e0 : s₁.heap = h0 := by rw [← hh, Bd.state]; rfl
  have es : s₁.heap = s.heap := by rw [Bd.state]; rfl
  obtain ⟨T', L', X', N', hS', hsz, hv, st⟩ := hR _ _ _ _ _ _ _ _ _ _ _ X0 hx hZ hown hnm hby hml0 Bd.returns h1 h2 h3 h4 (Fr.nil n0) (by rw [e0]; exact hS) (by rw [es]; rfl)
  obtain ⟨fs, hr, hrun, hended, hW, hsame⟩ := X'.leave (v := r.1.map (rl ρ)) hv
  refine ⟨_, _, castTop (ent_ok ρ m as M.2.2.1) (st fs hr), hrun, hended, _, _, rfl, ⟨rfl, N', hS', ?_⟩, ⟨_, rfl⟩, hW, hsame⟩
  show T'.heap.size = _
  rw [hsz, ← hh]

theorem toList_map (ρ : Rho) (r : Option Value) (rest : List Value) : (r.map (rl ρ)).toList ++ rest.map (rl ρ) = (r.toList ++ rest).map (rl ρ) := by cases r <;> rfl
theorem arity_ok {d : String} {k : Nat} (h : arity d k = true) {L : List Value} (hl : L.length = k) : ∀ sig, parseMethodDescriptor d = some sig → L.length = sig.parameters.length := fun sig hs => by
  unfold arity at h
  rw [hs] at h
  rw [hl]
  exact (by simpa using h : sig.parameters.length = k).symm
theorem notMH_ok {s : String} (h : notMH s = true) : s ≠ "java/lang/invoke/MethodHandle" ∧ s ≠ "java/lang/invoke/VarHandle" := by
  unfold notMH at h
  simpa using h

theorem call_ok {p : Program} {e : Env} {R : Room} {s : State} {m : MethodId} {args : Array Value} {below : List Frame} {meth : Method} {c : Code} {T : State} {locs : List Loc} {cells slots : Nat} {x : MethodName} {pc : Nat} {ls : List Slot} {st : List Value} {H : List Obj}
    (hP : GoodP Z a0 P K CN MN) (X : Stand p l e R s m args below meth c T locs cells slots) (hx : p.tables.exec = Jvm.exec) (hZ : Z.Warmed39 s.vm) (hown : s.vm.findClass x.cls = some m.cls)
    {i : Instr} {a k cc maxL fr lo fr' lo' : Nat} {v : Value} {M' : Meth} {as rest : List Value} {r : Res} (hml : c.maxLocals = maxL) (hfr : R.frames = fr) (hlo : R.locals = lo) (hw : ∀ w ∈ need P K CN MN x.cls (i, a, k, cc, v), w.before a0 Z = true) (hsd : side P K MN x (i, a, k, cc, v) = true)
    (hd : decode c.code pc = .ok (i, ilen i)) (hS : Sim Z ρ K CN b n0 S H T.heap) (h : callee P maxL fr lo i a k cc (pc, ls, st) H = some (M', fr', lo', as, rest))
    (hR : Runs l Z ρ K CN b n0 S fr' lo' M' ((0, entL as M'.2.2.1, []), H, 0, 0) r) (hc : cells + r.2.2.1 ≤ R.cells) (hs : slots + r.2.2.2 ≤ R.slots) :
    ∃ (T' : State) (L : List Loc), Stand p l e R s m args below meth c T' (locs ++ L) (cells + r.2.2.1) (slots + r.2.2.2) ∧ Fr n0 L ∧ Sim Z ρ K CN b n0 S r.2.1 T'.heap ∧ T'.heap.size = T.heap.size + r.2.2.1 ∧
      ∀ target, Steps p.tables e below (T'.setTop (fm ρ m (pc + ilen i, ls, r.1.toList ++ rest))) target → Steps p.tables e below (T.setTop (fm ρ m (pc, ls, st))) target := by
  unfold callee at h
  split at h
  · cases h
  · rename_i M hPa
    split at h
    · rename_i q
      obtain ⟨q, q5⟩ := Bool.and_eq_true_iff.mp q
      obtain ⟨q, q4⟩ := Bool.and_eq_true_iff.mp q
      obtain ⟨q, q3⟩ := Bool.and_eq_true_iff.mp q
      obtain ⟨q1, q2⟩ := Bool.and_eq_true_iff.mp q
      simp only [Option.some.injEq, Prod.mk.injEq] at h
      obtain ⟨rfl, rfl, rfl, has, rfl⟩ := h
      dsimp only at q1 q2 q3 q4 q5 has
      obtain ⟨hG, hpl, hcode, hini⟩ := hP a M hPa
      have hk : (st.take k).length = k := Nat.eq_of_beq_eq_true q1
      have hfr1 : 1 ≤ fr := Nat.le_of_ble_eq_true q2
      have hlo1 : wt (st.drop k) + (M.2.2.1 + 11) ≤ lo := Nat.le_of_ble_eq_true q3
      have hsize : (ar ρ ls).size = c.maxLocals := by rw [hml]; simpa [ar] using Nat.eq_of_beq_eq_true q4
      have hM := met_of hR hpl hS [] ({ frames := fr - 1, cells := r.2.2.1, slots := r.2.2.2, locals := lo - (wt (st.drop k) + (M.2.2.1 + 11)) } : Room) rfl rfl (Nat.le_refl _) (Nat.le_refl _)
      have hK := fun len => backOf (p := p) (e := e) (below := below) (s := s) (args := args) (R := R) (len := len) (W := wt (st.drop k)) (rm := ({ frames := fr - 1, cells := r.2.2.1, slots := r.2.2.2, locals := lo - (wt (st.drop k) + (M.2.2.1 + 11)) } : Room)) hM hZ hcode hini (by show fr - 1 + 1 ≤ _; omega) (by show wt (st.drop k) + (M.2.2.1 + 11) + (lo - (wt (st.drop k) + (M.2.2.1 + 11))) ≤ _; omega)
      have hWt : 2 * 0 + ((((st.drop k).map (rl ρ)).map fun v => v.category).sum) ≤ wt (st.drop k) := by rw [wt_rl]; omega
      have hstk : st.map (rl ρ) = ((as.map (rl ρ)).reverse) ++ (st.drop k).map (rl ρ) := by
        rw [← has, ← List.map_reverse, List.reverse_reverse, ← List.map_append, List.take_append_drop]
      have hal : as.length = k := by rw [← has]; simpa using hk
      cases i
      case invokestatic idx =>
        have hw' : ∀ w ∈ [Cond.methodLink x.cls idx M.1, Cond.static M.1], w.before a0 Z = true := fun w hm => hw w (by simp only [need, hPa]; exact hm)
        have hsd' : (notMH M.1.cls && arity M.1.desc k) = true := by simpa [side, hPa] using hsd
        obtain ⟨s1, s2⟩ := Bool.and_eq_true_iff.mp hsd'
        obtain ⟨v, vm₁, ⟨T1, L1, k1, n1⟩, -, X', ⟨L, ⟨hv, N, hS', hsz⟩, e1, e2, e3⟩, st'⟩ := Jvm.LawKit.callS X hx (y := M.1) hown (mvT hZ (hw' _ (by simp))) (mvT hZ (hw' _ (by simp))) (mvT hZ hini) (mvT hZ hcode) (notMH_ok s1) (hK 3) (g := fm ρ m (pc, ls, st)) rfl hsize (argsL := as.map (rl ρ)) (rest := (st.drop k).map (rl ρ)) (arity_ok s2 (by simpa using hal)) hstk hWt hd (fun _ _ => ⟨rfl, rfl, hc, hs⟩)
        dsimp only [Pt.U, Pt.locs, Pt.cells, Pt.slots] at X' e1 e2 e3 st' hS' hsz
        subst e1 e2 e3 hv
        exact ⟨T1, L, X', N, hS', hsz, fun target hr => st' target (by rw [toList_map]; exact hr)⟩
      case invokespecial idx =>
        unfold recvOk at q5
        rw [has] at q5
        dsimp only at q5
        split at q5
        · rename_i o as'
          have hc0 := Nat.eq_of_beq_eq_true q5
          subst hc0
          have hw' : ∀ w ∈ [Cond.methodLink x.cls idx M.1, Cond.instanceMethod M.1], w.before a0 Z = true := fun w hm => hw w (by simp only [need, hPa]; exact hm)
          have hsd' : (notMH M.1.cls && arity M.1.desc (k - 1) && M.1.name == "<init>" && decide (M.2.2.2.1 = none)) = true := by simpa [side, hPa] using hsd
          obtain ⟨s1, s4⟩ := Bool.and_eq_true_iff.mp hsd'
          obtain ⟨s1, s3⟩ := Bool.and_eq_true_iff.mp s1
          obtain ⟨s1, s2⟩ := Bool.and_eq_true_iff.mp s1
          have hret : M.2.2.2.1 = none := of_decide_eq_true s4
          have hcode' := hcode
          rw [hret] at hcode'
          obtain ⟨v, vm₁, ⟨T1, L1, k1, n1⟩, -, X', ⟨L, ⟨hv, N, hS', hsz⟩, e1, e2, e3⟩, st'⟩ := X.specialBack hx (y := M.1) (by simpa using s3) hown (mvT hZ (hw' _ (by simp))) (mvT hZ (hw' _ (by simp))) (mvT hZ hcode') (notMH_ok s1) (hK 3) (g := fm ρ m (pc, ls, st)) rfl hsize (Steps.refl _) (a := ρ.1 o) (argsL := as'.map (rl ρ)) (rest := (st.drop k).map (rl ρ)) (arity_ok s2 (by simp at hal ⊢; omega)) (by rw [show (fm ρ m (pc, ls, st)).stack = st.map (rl ρ) from rfl, hstk]; simp [rl]) hWt hd (fun _ _ => ⟨rfl, rfl, hc, hs⟩)
          dsimp only [Pt.U, Pt.locs, Pt.cells, Pt.slots] at X' e1 e2 e3 st' hS' hsz
          subst e1 e2 e3 hv
          exact ⟨T1, L, X', N, hS', hsz, fun target hr => st'.trans (by rw [toList_map]; exact hr)⟩
        · cases q5
      case invokevirtual idx =>
        unfold recvOk at q5
        rw [has] at q5
        dsimp only at q5
        split at q5
        · rename_i o as'
          split at q5
          · rename_i C fs qo
            have hc0 := Nat.eq_of_beq_eq_true q5
            subst hc0
            obtain ⟨E, -⟩ := hS.2.2.1 _ _ (getO_inv qo)
            have hw' : ∀ w ∈ [Cond.methodLink x.cls idx M.1, Cond.declares M.1, Cond.selects (CN C) M.1 M.1, Cond.instanceMethod M.1], w.before a0 Z = true := fun w hm => hw w (by simp only [need, hPa]; exact hm)
            have hsd' : (notMH M.1.cls && arity M.1.desc (k - 1)) = true := by simpa [side, hPa] using hsd
            obtain ⟨s1, s2⟩ := Bool.and_eq_true_iff.mp hsd'
            obtain ⟨cq, kq, qa, qb, qc⟩ := isOf hZ (T := T) rfl E
            obtain ⟨v, vm₁, ⟨T1, L1, k1, n1⟩, -, X', ⟨L, ⟨hv, N, hS', hsz⟩, e1, e2, e3⟩, st'⟩ := X.virtualBack hx (y := M.1) (z := M.1) hown (mvT hZ (hw' _ (by simp))) (mvT hZ (hw' _ (by simp))) (notFace_of_selects (args := #[]) (C := CN C) (mvT hZ (hw' _ (by simp)))) (mvT hZ (hw' (Cond.selects (CN C) M.1 M.1) (by simp))) (mvT hZ (hw' _ (by simp))) (notMH_ok s1) (hK 3) qa qc (g := fm ρ m (pc, ls, st)) rfl hsize (Steps.refl _) (argsL := as'.map (rl ρ)) (rest := (st.drop k).map (rl ρ)) (arity_ok s2 (by simp at hal ⊢; omega)) (by rw [show (fm ρ m (pc, ls, st)).stack = st.map (rl ρ) from rfl, hstk]; simp [rl]) hWt hd (fun _ _ => ⟨rfl, rfl, hc, hs⟩)
            dsimp only [Pt.U, Pt.locs, Pt.cells, Pt.slots] at X' e1 e2 e3 st' hS' hsz
            subst e1 e2 e3 hv
            exact ⟨T1, L, X', N, hS', hsz, fun target hr => st'.trans (by rw [toList_map]; exact hr)⟩
          · cases q5
        · cases q5
      case invokeinterface idx cnt =>
        unfold recvOk at q5
        rw [has] at q5
        dsimp only at q5
        split at q5
        · rename_i o as'
          split at q5
          · rename_i C fs qo
            have hc0 := Nat.eq_of_beq_eq_true q5
            subst hc0
            obtain ⟨E, -⟩ := hS.2.2.1 _ _ (getO_inv qo)
            cases v with
            | retAddr r0 =>
              have hw' : ∀ w ∈ [Cond.methodLink x.cls idx (MN r0), Cond.declares (MN r0), Cond.interfaceMethod (MN r0).cls (MN r0).cls (MN r0).name (MN r0).desc, Cond.selects (CN C) (MN r0) M.1, Cond.instanceMethod M.1, Cond.publicMethod M.1, Cond.unhidden (CN C) (MN r0).name (MN r0).desc, Cond.castable (CN C) (MN r0).cls], w.before a0 Z = true := fun w hm => hw w (by simp only [need, hPa]; exact hm)
              have hsd' : (notMH (MN r0).cls && arity (MN r0).desc (k - 1)) = true := by simpa [side] using hsd
              obtain ⟨s1, s2⟩ := Bool.and_eq_true_iff.mp hsd'
              obtain ⟨cq, kq, qa, qb, qc⟩ := isOf hZ (T := T) rfl E
              obtain ⟨v, vm₁, ⟨T1, L1, k1, n1⟩, -, X', ⟨L, ⟨hv, N, hS', hsz⟩, e1, e2, e3⟩, st'⟩ := X.interfaceBack hx (C := CN C) (xi := MN r0) (y := M.1) hown (mvT hZ (hw' (Cond.methodLink x.cls idx (MN r0)) (by simp))) (mvT hZ (hw' (Cond.declares (MN r0)) (by simp))) (mvT hZ (hw' (Cond.interfaceMethod (MN r0).cls (MN r0).cls (MN r0).name (MN r0).desc) (by simp)) (hd := by simpa [Cond.onTables, Cond.keepsFace, Cond.keeps, Cond.steady, Cond.faceAtom] using notMH_ok s1)) (mvT hZ (hw' (Cond.selects (CN C) (MN r0) M.1) (by simp))) (mvT hZ (hw' (Cond.instanceMethod M.1) (by simp))) (mvT hZ (hw' (Cond.publicMethod M.1) (by simp))) (mvT hZ (hw' (Cond.unhidden (CN C) (MN r0).name (MN r0).desc) (by simp))) (mvT hZ (hw' (Cond.castable (CN C) (MN r0).cls) (by simp))) (notMH_ok s1) (hK 5) qa qb qc (g := fm ρ m (pc, ls, st)) rfl hsize (Steps.refl _) (argsL := as'.map (rl ρ)) (rest := (st.drop k).map (rl ρ)) (arity_ok s2 (by simp at hal ⊢; omega)) (by rw [show (fm ρ m (pc, ls, st)).stack = st.map (rl ρ) from rfl, hstk]; simp [rl]) hWt hd (fun _ _ => ⟨rfl, rfl, hc, hs⟩)
              dsimp only [Pt.U, Pt.locs, Pt.cells, Pt.slots] at X' e1 e2 e3 st' hS' hsz
              subst e1 e2 e3 hv
              exact ⟨T1, L, X', N, hS', hsz, fun target hr => st'.trans (by rw [toList_map]; exact hr)⟩
            | _ => exact absurd hsd (by simp [side])
          · cases q5
        · cases q5
      all_goals exact absurd (show false = true from q5) (by simp)
    · cases h

theorem exec_ok (hρ1 : ∀ i, b ≤ i → ρ.1 i = n0 + (i - b)) (hρ0 : ∀ i, i < b → ρ.1 i < n0) (hD : ∀ i j, D i j = true → ρ.1 i ≠ ρ.1 j) (hCT : ∀ C F, CT C = some F → ClsOk Z a0 K CN C F)
    (hNI : ∀ C k, NI C k = true → ∃ c t, Z.vm.findClass (CN C) = some c ∧ Z.vm.findClass (CN k) = some t ∧ Z.vm.assignable c t = false) (hP : GoodP Z a0 P K CN MN) (hTB : TbOk ρ TB) :
    ∀ (n fr lo : Nat) (M : Meth) (cf : Cfg) (r : Res), GoodM Z a0 P K CN MN M → exec (P, b, S, CT, D, NI, TB) n fr lo M cf = some r → Runs l Z ρ K CN b n0 S fr lo M cf r
  | 0, _, _, _, _, _, _, h => by cases h
  | n + 1, fr, lo, M, ⟨⟨pc, ls, st⟩, H, cells, slots⟩, r, hG, h => by

    intro p e R s m args below meth c T locs X hx hZ hown hnm hby hml hret hfr hlo hrc hrs N hS hsz
    have ih := exec_ok hρ1 hρ0 hD hCT hNI hP hTB n
    have h' : body (P, b, S, CT, D, NI, TB) (exec (P, b, S, CT, D, NI, TB) n) fr lo M ((pc, ls, st), H, cells, slots) = some r := h
    unfold body at h'
    dsimp only at h' X hS hsz
    split at h'
    · cases h'
    · rename_i i a k cc v hf
      obtain ⟨hd0, hw, hsd⟩ := hG _ _ hf
      have hd : decode c.code pc = .ok (i, ilen i) := by rw [hby]; exact hd0
      split at h'
      · rename_i f' hstep
        obtain ⟨T', L', X', N', hS', hsz', hv, st'⟩ := ih _ _ _ _ _ hG h' _ _ _ _ _ _ _ _ _ _ _ X hx hZ hown hnm hby hml hret hfr hlo hrc hrs N hS hsz
        refine ⟨T', L', X', N', hS', hsz', hv, fun fs hl => pstep_ok X hx hown hD hd (fun k' x' e1 e2 => ?_) (fun k' x' e1 e2 => ?_) hstep _ (st' fs hl)⟩
        · subst e1 e2; exact mvT hZ (hw _ (by simp [need]))
        · subst e1 e2; exact mvT hZ (hw _ (by simp [need]))
      · split at h'
        · rename_i f' hstep
          obtain ⟨T', L', X', N', hS', hsz', hv, st'⟩ := ih _ _ _ _ _ hG h' _ _ _ _ _ _ _ _ _ _ _ X hx hZ hown hnm hby hml hret hfr hlo hrc hrs N hS hsz
          exact ⟨T', L', X', N', hS', hsz', hv, fun fs hl => tstep_ok hTB X hx hd hstep _ (st' fs hl)⟩
        · split at h'
          · rename_i f' H' hstep
            obtain ⟨T1, L1, X1, N1, hS1, hsz1, st1⟩ := hstep_ok hρ1 hρ0 hCT hNI X hx hZ hown hnm hw hsd hd N hS hstep
            obtain ⟨T', L', X', N', hS', hsz', hv, st'⟩ := ih _ _ _ _ _ hG h' _ _ _ _ _ _ _ _ _ _ _ X1 hx hZ hown hnm hby hml hret hfr hlo hrc hrs N1 hS1 (hsz1.trans hsz)
            exact ⟨T', L', X', N', hS', hsz', hv, fun fs hl => st1 _ (st' fs hl)⟩
          · split at h'
            · rename_i v' hstep
              cases h'
              obtain ⟨q1, q2⟩ := rstep_ok (ρ := ρ) (ls := ls) X hx hret hd hstep
              exact ⟨T, locs, X, N, hS, hsz, q1, q2⟩
            · split at h'
              · rename_i f' H' ds hstep
                have hm := exec_mono _ _ _ _ _ _ h'
                dsimp only at hm
                obtain ⟨T1, X1, hS1, hsz1, st1⟩ := astep_ok hρ1 hCT X hx hZ hown hw hd hS hsz hstep (Nat.le_trans hm.1 hrc) (Nat.le_trans hm.2 hrs)
                obtain ⟨T', L', X', N', hS', hsz', hv, st'⟩ := ih _ _ _ _ _ hG h' _ _ _ _ _ _ _ _ _ _ _ X1 hx hZ hown hnm hby hml hret hfr hlo hrc hrs N hS1 hsz1
                exact ⟨T', L', X', N', hS', hsz', hv, fun fs hl => st1 _ (st' fs hl)⟩
              · split at h'
                · rename_i f' hstep
                  obtain ⟨T1, L1, X1, N1, hS1, hsz1, st1⟩ := istep_ok X hx hZ hown hml hfr hlo hw hd N hS hstep
                  obtain ⟨T', L', X', N', hS', hsz', hv, st'⟩ := ih _ _ _ _ _ hG h' _ _ _ _ _ _ _ _ _ _ _ X1 hx hZ hown hnm hby hml hret hfr hlo hrc hrs N1 hS1 (hsz1.trans hsz)
                  exact ⟨T', L', X', N', hS', hsz', hv, fun fs hl => st1 _ (st' fs hl)⟩
                · split at h'
                  · rename_i M' fr' lo' as rest hcal
                    split at h'
                    · rename_i r' H' c' s' hrun
                      have hm := exec_mono _ _ _ _ _ _ h'
                      dsimp only at hm
                      have hG' : GoodM Z a0 P K CN MN M' := by
                        unfold callee at hcal
                        split at hcal
                        · cases hcal
                        · rename_i M2 hPa
                          split at hcal
                          · cases hcal; exact (hP _ _ hPa).1
                          · cases hcal
                      have hrun' := ih _ _ _ _ _ hG' hrun
                      obtain ⟨T1, L1, X1, N1, hS1, hsz1, st1⟩ := call_ok hP X hx hZ hown hml hfr hlo hw hsd hd hS hcal hrun' (Nat.le_trans hm.1 hrc) (Nat.le_trans hm.2 hrs)
                      obtain ⟨T', L', X', N', hS', hsz', hv, st'⟩ := ih _ _ _ _ _ hG h' _ _ _ _ _ _ _ _ _ _ _ X1 hx hZ hown hnm hby hml hret hfr hlo hrc hrs (Fr.app N N1) hS1 (by rw [hsz1, hsz]; exact Nat.add_assoc ..)
                      exact ⟨T', L', X', N', hS', hsz', hv, fun fs hl => st1 _ (st' fs hl)⟩
                    · cases h'
                  · cases h'
end Exec
end Jvm.Eng
namespace Jvm.Eng
open Jvm Jvm.ClassFile Sem Op Lib Jvm.Free Jvm.Stand Jvm.LawKit Jvm.RoadKit
/-! ### a program's rows, and that the sheet's words pay them -/
def lf (pc : Nat) (r : Row) : Nat → Option Row := fun q => match Nat.beq q pc with | true => some r | false => none
def nd (k : Nat) (A B : Nat → Option Row) : Nat → Option Row := fun q => match Nat.ble k q with | true => B q | false => A q
def upTo (n : Nat) (A : Nat → Option Row) : Nat → Option Row := fun q => match Nat.ble n q with | true => none | false => A q
def chk1 (P : Nat → Option Meth) (K : Nat → String × String × String) (CN : Nat → String) (MN : Nat → MethodName) (tb : List Cond) (M : Meth) (q : Nat) : Bool :=
  match M.2.2.2.2 q with
  | none => true
  | some r => decide (decode M.2.1 q = .ok (r.1, ilen r.1)) && ((need P K CN MN M.1.cls r).all (fun w => decide (w ∈ tb)) && side P K MN M.1 r)
def chk (P : Nat → Option Meth) (K : Nat → String × String × String) (CN : Nat → String) (MN : Nat → MethodName) (tb : List Cond) (n : Nat) (M : Meth) : Bool := (List.range n).all (chk1 P K CN MN tb M)
section Checks
variable {Z : State} {a0 : Array Value} {tb : List Cond} {P : Nat → Option Meth} {K : Nat → String × String × String} {CN : Nat → String} {MN : Nat → MethodName}
theorem good_of (hw : ∀ d ∈ tb, d.before a0 Z = true) {n : Nat} {M : Meth} (h : chk P K CN MN tb n M = true) {t : Nat → Option Row} (hM : M.2.2.2.2 = upTo n t) : GoodM Z a0 P K CN MN M := by
  intro pc r hr
  have hlt : pc < n := by
    rw [hM] at hr
    unfold upTo at hr
    split at hr
    · cases hr
    · rename_i q; exact Nat.lt_of_not_le fun z => by rw [Nat.ble_eq_true_of_le z] at q; cases q
  have h1 := List.all_eq_true.mp h pc (List.mem_range.mpr hlt)
  unfold chk1 at h1
  rw [hr] at h1
  dsimp only at h1
  obtain ⟨q1, q2⟩ := Bool.and_eq_true_iff.mp h1
  obtain ⟨q2, q3⟩ := Bool.and_eq_true_iff.mp q2
  exact ⟨of_decide_eq_true q1, fun w hm => hw w (of_decide_eq_true (List.all_eq_true.mp q2 w hm)), q3⟩
def clsChk (K : Nat → String × String × String) (CN : Nat → String) (tb : List Cond) (C : Nat) (F : Fls) : Bool :=
  decide (Cond.instantiable (CN C) F.1 ∈ tb) && decide (Cond.initialized (CN C) ∈ tb) &&
  (F.2.all fun q => decide ((if q.2.2 = true then Cond.laysFinal (CN C) (K q.1).1 (K q.1).2.1 (K q.1).2.2 else Cond.lays (CN C) (K q.1).1 (K q.1).2.1 (K q.1).2.2) ∈ tb) &&
    (match parseFieldDescriptor (K q.1).2.2 with | some ty => decide (defaultValue ty = q.2.1) && (decide (ty = .int) || decide (ty = .long) || ty.isReference) | none => false)) &&
  F.2.all fun q => F.2.all fun q' => decide (q.1 = q'.1) || decide ((K q.1).2.1 ≠ (K q'.1).2.1)
theorem cls_of (hw : ∀ d ∈ tb, d.before a0 Z = true) {C : Nat} {F : Fls} (h : clsChk K CN tb C F = true) : ClsOk Z a0 K CN C F := by
  unfold clsChk at h
  obtain ⟨h, h4⟩ := Bool.and_eq_true_iff.mp h
  obtain ⟨h, h3⟩ := Bool.and_eq_true_iff.mp h
  obtain ⟨h1, h2⟩ := Bool.and_eq_true_iff.mp h
  refine ⟨hw _ (of_decide_eq_true h1), hw _ (of_decide_eq_true h2), fun q hq => ?_, fun q hq q' hq' ne => ?_⟩
  · have w := List.all_eq_true.mp h3 q hq
    obtain ⟨w1, w2⟩ := Bool.and_eq_true_iff.mp w
    refine ⟨?_, ?_⟩
    · have w3 := hw _ (of_decide_eq_true w1)
      split
      · rename_i e; rw [if_pos e] at w3; exact w3
      · rename_i e; rw [if_neg e] at w3; exact w3
    · split at w2
      · rename_i ty e
        obtain ⟨v1, v2⟩ := Bool.and_eq_true_iff.mp w2
        refine ⟨ty, e, of_decide_eq_true v1, ?_⟩
        rcases Bool.or_eq_true_iff.mp v2 with v2 | v2
        · rcases Bool.or_eq_true_iff.mp v2 with v2 | v2
          · exact Or.inl (of_decide_eq_true v2)
          · exact Or.inr (Or.inl (of_decide_eq_true v2))
        · exact Or.inr (Or.inr v2)
      · cases w2
  · have w := List.all_eq_true.mp (List.all_eq_true.mp h4 q hq) q' hq'
    rcases Bool.or_eq_true_iff.mp w with w | w
    · exact absurd (of_decide_eq_true w) ne
    · exact of_decide_eq_true w
theorem code_of (hw : ∀ d ∈ tb, d.before a0 Z = true) {M : Meth} (h : (decide (Cond.code M.1 M.2.1 M.2.2.1 M.2.2.2.1 ∈ tb) && decide (Cond.initialized M.1.cls ∈ tb)) = true) : (Cond.code M.1 M.2.1 M.2.2.1 M.2.2.2.1).before a0 Z = true ∧ (Cond.initialized M.1.cls).before a0 Z = true := by
  obtain ⟨h1, h2⟩ := Bool.and_eq_true_iff.mp h
  exact ⟨hw _ (of_decide_eq_true h1), hw _ (of_decide_eq_true h2)⟩
end Checks

/-! ### running by hand -/
section Reach
variable {G : Cx}
/-- one step that is no call and no return -/
def next (G : Cx) (fr lo : Nat) (M : Meth) (cf : Cfg) : Option Cfg :=
  match M.2.2.2.2 cf.1.1 with
  | none => none
  | some (i, a, k, c, v) =>
    match pstep G.2.2.2.2.1 i v cf.1 with
    | some f' => some (f', cf.2)
    | none =>
     match tstep G.2.2.2.2.2.2 i cf.1 with
     | some f' => some (f', cf.2)
     | none =>
      match hstep G.2.1 G.2.2.1 G.2.2.2.1 G.2.2.2.2.2.1 i a k c cf.1 cf.2.1 with
      | some (f', H') => some (f', H', cf.2.2)
      | none =>
        match rstep M.2.2.2.1 i cf.1.2.2 with
        | some _ => none
        | none =>
          match astep G.2.2.2.1 i c cf.1 cf.2.1 with
          | some (f', H', ds) => some (f', H', cf.2.2.1 + 1, cf.2.2.2 + ds)
          | none =>
            match istep M.2.2.1 fr lo i c cf.1 with
            | some f' => some (f', cf.2)
            | none => none
def runK (G : Cx) (fr lo : Nat) (M : Meth) : Nat → Cfg → Option Cfg
  | 0, cf => some cf
  | n + 1, cf => match next G fr lo M cf with
    | some cf' => runK G fr lo M n cf'
    | none => none
def Rch (G : Cx) (fr lo : Nat) (M : Meth) (cf : Cfg) (r : Res) : Prop := ∃ n, exec G n fr lo M cf = some r

theorem exec_more : ∀ (n fr lo : Nat) (M : Meth) (cf : Cfg) (r : Res), exec G n fr lo M cf = some r → exec G (n + 1) fr lo M cf = some r
  | 0, _, _, _, _, _, h => by cases h
  | n + 1, fr, lo, M, cf, r, h => by
    have h' : body G (exec G n) fr lo M cf = some r := h
    show body G (exec G (n + 1)) fr lo M cf = some r
    unfold body at h' ⊢
    split at h'
    · cases h'
    · rename_i q0
      
      split at h'
      · rename_i q1; exact exec_more n _ _ _ _ _ h'
      · rename_i q1
        split at h'
        · rename_i q2; exact exec_more n _ _ _ _ _ h'
        · rename_i q2
          split at h'
          · rename_i q3; exact exec_more n _ _ _ _ _ h'
          · rename_i q3
            split at h'
            · rename_i q4; exact h'
            · rename_i q4
              split at h'
              · rename_i q5; exact exec_more n _ _ _ _ _ h'
              · rename_i q5
                split at h'
                · rename_i q6; exact exec_more n _ _ _ _ _ h'
                · rename_i q6
                  split at h'
                  · rename_i q7
                    split at h'
                    · rename_i q8; simp only [exec_more n _ _ _ _ _ q8]; exact exec_more n _ _ _ _ _ h'
                    · cases h'
                  · cases h'
theorem exec_add (k : Nat) {n fr lo : Nat} {M : Meth} {cf : Cfg} {r : Res} (h : exec G n fr lo M cf = some r) : exec G (n + k) fr lo M cf = some r := by
  induction k with
  | zero => exact h
  | succ k ih => exact exec_more _ _ _ _ _ _ ih
theorem next_exec {n fr lo : Nat} {M : Meth} {cf cf' : Cfg} (h : next G fr lo M cf = some cf') : exec G (n + 1) fr lo M cf = exec G n fr lo M cf' := by
  show body G (exec G n) fr lo M cf = _
  unfold next at h
  unfold body
  split at h
  · cases h
  · rename_i q0
    (try simp only [q0])
    split at h
    · rename_i q1; (try simp only [q1]); cases h; rfl
    · rename_i q1; (try simp only [q1])
      split at h
      · rename_i q2; (try simp only [q2]); cases h; rfl
      · rename_i q2; (try simp only [q2])
        split at h
        · rename_i q3; (try simp only [q3]); cases h; rfl
        · rename_i q3; (try simp only [q3])
          split at h
          · cases h
          · rename_i q4; (try simp only [q4])
            split at h
            · rename_i q5; (try simp only [q5]); cases h; rfl
            · rename_i q5; (try simp only [q5])
              split at h
              · rename_i q6; (try simp only [q6]); cases h; rfl
              · cases h
theorem Rch.step1 {fr lo : Nat} {M : Meth} {cf cf' : Cfg} {r : Res} (h : next G fr lo M cf = some cf') (hr : Rch G fr lo M cf' r) : Rch G fr lo M cf r := by
  obtain ⟨n, hn⟩ := hr
  exact ⟨n + 1, by rw [next_exec h]; exact hn⟩
theorem Rch.run {fr lo : Nat} {M : Meth} (k : Nat) {cf cf' : Cfg} {r : Res} (h : runK G fr lo M k cf = some cf') (hr : Rch G fr lo M cf' r) : Rch G fr lo M cf r := by
  induction k generalizing cf with
  | zero => cases h; exact hr
  | succ k ih =>
    have h' : (match next G fr lo M cf with | some cf' => runK G fr lo M k cf' | none => none) = some cf' := h
    split at h'
    · rename_i q; exact Rch.step1 q (ih h')
    · cases h'
theorem Rch.ret {fr lo : Nat} {M : Meth} {cf : Cfg} {r : Res} (h : exec G 1 fr lo M cf = some r) : Rch G fr lo M cf r := ⟨1, h⟩
theorem Rch.call {fr lo fr' lo' i a k c pc cells slots c' s' : Nat} {ins : Instr} {v : Value} {M M' : Meth} {ls : List Slot} {st as rest : List Value} {H H' : List Obj} {r : Res} {w : Option Value} (hf : M.2.2.2.2 pc = some (ins, a, k, c, v)) (hp : pstep G.2.2.2.2.1 ins v (pc, ls, st) = none) (ht : tstep G.2.2.2.2.2.2 ins (pc, ls, st) = none) (hh : hstep G.2.1 G.2.2.1 G.2.2.2.1 G.2.2.2.2.2.1 ins a k c (pc, ls, st) H = none) (hr0 : rstep M.2.2.2.1 ins st = none) (ha : astep G.2.2.2.1 ins c (pc, ls, st) H = none)
    (hi : istep M.2.2.1 fr lo ins c (pc, ls, st) = none) (hc : callee G.1 M.2.2.1 fr lo ins a k c (pc, ls, st) H = some (M', fr', lo', as, rest)) (hcall : Rch G fr' lo' M' ((0, entL as M'.2.2.1, []), H, 0, 0) (w, H', c', s'))
    (hr : Rch G fr lo M ((pc + ilen ins, ls, w.toList ++ rest), H', cells + c', slots + s') r) : Rch G fr lo M ((pc, ls, st), H, cells, slots) r := by
  obtain ⟨n1, h1⟩ := hcall
  obtain ⟨n2, h2⟩ := hr
  have h1' := exec_add n2 h1
  have h2' := exec_add n1 h2
  rw [Nat.add_comm n2 n1] at h2'
  refine ⟨n1 + n2 + 1, ?_⟩
  show body G (exec G (n1 + n2)) fr lo M ((pc, ls, st), H, cells, slots) = some r
  unfold body
  simp only [hf, hp, ht, hh, hr0, ha, hi, hc, h1']
  exact h2'
end Reach
end Jvm.Eng
namespace Jvm.Eng
open Jvm Jvm.ClassFile Sem Op Lib Jvm.Free Jvm.Stand Jvm.LawKit Jvm.RoadKit
section Walk
variable {G : Cx} {fr lo : Nat} {M : Meth} {Q : Res → Prop} {cf : Cfg}
/-- the machine ends, and Q holds of what it leaves -/
def EW (G : Cx) (fr lo : Nat) (M : Meth) (Q : Res → Prop) (cf : Cfg) : Prop := ∃ r, Rch G fr lo M cf r ∧ Q r
theorem EW.run (k : Nat) {cf' : Cfg} (h : runK G fr lo M k cf = some cf') (hr : EW G fr lo M Q cf') : EW G fr lo M Q cf := by
  obtain ⟨r, h1, h2⟩ := hr; exact ⟨r, h1.run k h, h2⟩
theorem EW.ret {r : Res} (h : exec G 1 fr lo M cf = some r) (q : Q r) : EW G fr lo M Q cf := ⟨r, Rch.ret h, q⟩
theorem EW.all (n : Nat) {r : Res} (h : exec G n fr lo M cf = some r) (q : Q r) : EW G fr lo M Q cf := ⟨r, ⟨n, h⟩, q⟩
theorem EW.mono {Q' : Res → Prop} (h : EW G fr lo M Q cf) (q : ∀ r, Q r → Q' r) : EW G fr lo M Q' cf := by
  obtain ⟨r, h1, h2⟩ := h; exact ⟨r, h1, q r h2⟩
/-- a branch on two ints -/
theorem EW.icmp {pc : Nat} {ls : List Slot} {st : List Value} {H : List Obj × Nat × Nat} {cd : ClassFile.Cond} {o : Int} {a k c : Nat} {v : Value} {x y : Int32} (hf : M.2.2.2.2 pc = some (.if_icmp cd o, a, k, c, v)) (ho : 0 ≤ (pc : Int) + o)
    (h1 : if_icmp.holds cd x y = true → EW G fr lo M Q ((((pc : Int) + o).toNat, ls, st), H)) (h2 : if_icmp.holds cd x y = false → EW G fr lo M Q ((pc + 3, ls, st), H)) : EW G fr lo M Q ((pc, ls, .int y :: .int x :: st), H) := by
  cases hc : if_icmp.holds cd x y with
  | true =>
    refine EW.run 1 ?_ (h1 hc)
    show (match next G fr lo M ((pc, ls, .int y :: .int x :: st), H) with | some cf' => runK G fr lo M 0 cf' | none => none) = _
    have : next G fr lo M ((pc, ls, .int y :: .int x :: st), H) = some ((((pc : Int) + o).toNat, ls, st), H) := by
      unfold next
      simp only [hf, pstep, pIcmp, br, hc, ho, if_true]
    rw [this]; rfl
  | false =>
    refine EW.run 1 ?_ (h2 hc)
    show (match next G fr lo M ((pc, ls, .int y :: .int x :: st), H) with | some cf' => runK G fr lo M 0 cf' | none => none) = _
    have : next G fr lo M ((pc, ls, .int y :: .int x :: st), H) = some ((pc + 3, ls, st), H) := by
      unfold next
      simp only [hf, pstep, pIcmp, br, hc]
    rw [this]; rfl
theorem EW.ifc {pc : Nat} {ls : List Slot} {st : List Value} {H : List Obj × Nat × Nat} {cd : ClassFile.Cond} {o : Int} {a k c : Nat} {v : Value} {x : Int32} (hf : M.2.2.2.2 pc = some (.ifCond cd o, a, k, c, v)) (ho : 0 ≤ (pc : Int) + o)
    (h1 : ifCond.holds cd x = true → EW G fr lo M Q ((((pc : Int) + o).toNat, ls, st), H)) (h2 : ifCond.holds cd x = false → EW G fr lo M Q ((pc + 3, ls, st), H)) : EW G fr lo M Q ((pc, ls, .int x :: st), H) := by
  cases hc : ifCond.holds cd x with
  | true =>
    refine EW.run 1 ?_ (h1 hc)
    show (match next G fr lo M ((pc, ls, .int x :: st), H) with | some cf' => runK G fr lo M 0 cf' | none => none) = _
    have : next G fr lo M ((pc, ls, .int x :: st), H) = some ((((pc : Int) + o).toNat, ls, st), H) := by
      unfold next
      simp only [hf, pstep, pIf, br, hc, ho, if_true]
    rw [this]; rfl
  | false =>
    refine EW.run 1 ?_ (h2 hc)
    show (match next G fr lo M ((pc, ls, .int x :: st), H) with | some cf' => runK G fr lo M 0 cf' | none => none) = _
    have : next G fr lo M ((pc, ls, .int x :: st), H) = some ((pc + 3, ls, st), H) := by
      unfold next
      simp only [hf, pstep, pIf, br, hc]
    rw [this]; rfl
/-- a branch's condition in plain integers -/
def cP : ClassFile.Cond → Int → Int → Prop
  | .eq, x, y => x = y
  | .ne, x, y => x ≠ y
  | .lt, x, y => x < y
  | .ge, x, y => y ≤ x
  | .gt, x, y => y < x
  | .le, x, y => x ≤ y
theorem cP_t {cd : ClassFile.Cond} {x y : Int32} (h : if_icmp.holds cd x y = true) : cP cd x.toInt y.toInt := by
  cases cd <;> simp [if_icmp.holds, Int32.lt_iff_toInt_lt, Int32.le_iff_toInt_le, ← Int32.toInt_inj] at h <;> exact h
theorem cP_f {cd : ClassFile.Cond} {x y : Int32} (h : if_icmp.holds cd x y = false) : ¬ cP cd x.toInt y.toInt := by
  cases cd <;> simp [if_icmp.holds, Int32.lt_iff_toInt_lt, Int32.le_iff_toInt_le, ← Int32.toInt_inj] at h <;> simp [cP] <;> exact h
theorem cP_l (x y : Int64) (cd : ClassFile.Cond) : (ifCond.holds cd (XT.cmpL x y) = true → cP cd x.toInt y.toInt) ∧ (ifCond.holds cd (XT.cmpL x y) = false → ¬ cP cd x.toInt y.toInt) := by
  have key : (x.toInt < y.toInt ∧ XT.cmpL x y = -1) ∨ (x.toInt = y.toInt ∧ XT.cmpL x y = 0) ∨ (y.toInt < x.toInt ∧ XT.cmpL x y = 1) := by
    unfold XT.cmpL
    by_cases h1 : y < x
    · rw [if_pos h1]; exact Or.inr (Or.inr ⟨Int64.lt_iff_toInt_lt.mp h1, rfl⟩)
    · rw [if_neg h1]
      by_cases h2 : x = y
      · rw [if_pos h2]; exact Or.inr (Or.inl ⟨by rw [h2], rfl⟩)
      · rw [if_neg h2]
        refine Or.inl ⟨?_, rfl⟩
        have q1 : ¬ y.toInt < x.toInt := fun q => h1 (Int64.lt_iff_toInt_lt.mpr q)
        have q2 : ¬ x.toInt = y.toInt := fun q => h2 (Int64.toInt_inj.mp q)
        omega
  rcases key with ⟨k1, k2⟩ | ⟨k1, k2⟩ | ⟨k1, k2⟩ <;> rw [k2] <;> cases cd <;> simp [cP, ifCond.holds] <;> omega
theorem EW.icmpP {pc : Nat} {ls : List Slot} {st : List Value} {H : List Obj × Nat × Nat} {cd : ClassFile.Cond} {o : Int} {a k c : Nat} {v : Value} {x y : Int32} (hf : M.2.2.2.2 pc = some (.if_icmp cd o, a, k, c, v)) (ho : 0 ≤ (pc : Int) + o)
    (h1 : cP cd x.toInt y.toInt → EW G fr lo M Q ((((pc : Int) + o).toNat, ls, st), H)) (h2 : ¬ cP cd x.toInt y.toInt → EW G fr lo M Q ((pc + 3, ls, st), H)) : EW G fr lo M Q ((pc, ls, .int y :: .int x :: st), H) :=
  EW.icmp hf ho (fun h => h1 (cP_t h)) (fun h => h2 (cP_f h))
theorem EW.ifP {pc : Nat} {ls : List Slot} {st : List Value} {H : List Obj × Nat × Nat} {cd : ClassFile.Cond} {o : Int} {a k c : Nat} {v : Value} {x : Int32} (hf : M.2.2.2.2 pc = some (.ifCond cd o, a, k, c, v)) (ho : 0 ≤ (pc : Int) + o)
    (h1 : cP cd x.toInt 0 → EW G fr lo M Q ((((pc : Int) + o).toNat, ls, st), H)) (h2 : ¬ cP cd x.toInt 0 → EW G fr lo M Q ((pc + 3, ls, st), H)) : EW G fr lo M Q ((pc, ls, .int x :: st), H) :=
  EW.ifc hf ho (fun h => h1 (by rw [if0] at h; exact cP_t h)) (fun h => h2 (by rw [if0] at h; exact cP_f h))
theorem EW.iflP {pc : Nat} {ls : List Slot} {st : List Value} {H : List Obj × Nat × Nat} {cd : ClassFile.Cond} {o : Int} {a k c : Nat} {v : Value} {x y : Int64} (hf : M.2.2.2.2 pc = some (.ifCond cd o, a, k, c, v)) (ho : 0 ≤ (pc : Int) + o)
    (h1 : cP cd x.toInt y.toInt → EW G fr lo M Q ((((pc : Int) + o).toNat, ls, st), H)) (h2 : ¬ cP cd x.toInt y.toInt → EW G fr lo M Q ((pc + 3, ls, st), H)) : EW G fr lo M Q ((pc, ls, .int (XT.cmpL x y) :: st), H) :=
  EW.ifc hf ho (fun h => h1 ((cP_l x y cd).1 h)) (fun h => h2 ((cP_l x y cd).2 h))
/-- the call at hand -/
def cstep (G : Cx) (fr lo : Nat) (M : Meth) (cf : Cfg) : Option (Nat × Meth × Nat × Nat × List Value × List Value) :=
  match M.2.2.2.2 cf.1.1 with
  | none => none
  | some (i, a, k, c, v) =>
    match pstep G.2.2.2.2.1 i v cf.1 with
    | some _ => none
    | none =>
     match tstep G.2.2.2.2.2.2 i cf.1 with
     | some _ => none
     | none =>
      match hstep G.2.1 G.2.2.1 G.2.2.2.1 G.2.2.2.2.2.1 i a k c cf.1 cf.2.1 with
      | some _ => none
      | none =>
        match rstep M.2.2.2.1 i cf.1.2.2 with
        | some _ => none
        | none =>
          match astep G.2.2.2.1 i c cf.1 cf.2.1 with
          | some _ => none
          | none =>
            match istep M.2.2.1 fr lo i c cf.1 with
            | some _ => none
            | none => match callee G.1 M.2.2.1 fr lo i a k c cf.1 cf.2.1 with
              | some q => some (ilen i, q)
              | none => none
theorem EW.call {f : Fm} {H : List Obj} {cells slots fr' lo' n : Nat} {M' : Meth} {as rest : List Value} {Qc : Res → Prop} (h : cstep G fr lo M (f, H, cells, slots) = some (n, M', fr', lo', as, rest)) (hc : EW G fr' lo' M' Qc ((0, entL as M'.2.2.1, []), H, 0, 0))
    (hr : ∀ w H' c' s', Qc (w, H', c', s') → EW G fr lo M Q ((f.1 + n, f.2.1, w.toList ++ rest), H', cells + c', slots + s')) : EW G fr lo M Q (f, H, cells, slots) := by
  obtain ⟨⟨w, H', c', s'⟩, h1, h2⟩ := hc
  obtain ⟨r, h3, h4⟩ := hr w H' c' s' h2
  refine ⟨r, ?_, h4⟩
  unfold cstep at h
  split at h
  · cases h
  · rename_i q0
    split at h
    · cases h
    · rename_i q1
      split at h
      · cases h
      · rename_i qt
        split at h
        · cases h
        · rename_i q2
          split at h
          · cases h
          · rename_i q3
            split at h
            · cases h
            · rename_i q4
              split at h
              · cases h
              · rename_i q5
                split at h
                · rename_i q q6
                  cases h
                  exact Rch.call (i := 0) q0 q1 qt q2 q3 q4 q5 q6 h1 h3
                · cases h
end Walk
end Jvm.Eng
namespace Jvm.Eng
open Jvm Jvm.RoadKit
theorem lt_cases {E : Int32} {n : Nat} (h0 : 0 ≤ E.toInt) (h1 : E.toInt < n) : ∃ j : Nat, j < n ∧ E = Int32.ofNat j := by
  refine ⟨E.toNatClampNeg, by simp only [Int32.toNatClampNeg]; omega, ?_⟩
  have q : ¬ E < 0 := by rw [Int32.lt_iff_toInt_lt]; simp only [Int32.reduceToInt]; omega
  exact ((back32 q).1).symm
end Jvm.Eng
namespace Jvm.Eng
open Jvm Jvm.ClassFile Sem Op Lib Jvm.Free Jvm.Stand Jvm.LawKit Jvm.RoadKit
/-! ### what a case says of statics -/
section Stat
variable {Z : State} {args : Array Value}
theorem eq_out {t u : Term} {w : Value} (h : (Cond.eq t u).value args Z none Z [] = some true) (hu : u.eval args Z none [] Z = some w) (hw : (match w with | .int _ => true | .null => true | .ref _ => true | _ => false) = true := by rfl) : t.eval args Z none [] Z = some w := by
  cases ht : t.eval args Z none [] Z with
  | none => simp [Cond.value, ht] at h
  | some x => cases w <;> first | (cases hw; done) | (cases x <;> simp [Cond.value, ht, hu] at h <;> subst h <;> rfl) | (cases x <;> simp [Cond.value, ht, hu] at h <;> rfl)
theorem len_out {t : Term} {a : Addr} {c : Cell} {n : Int32} {ty : FieldType} (ev : t.eval args Z none [] Z = some (.ref a)) (A : Arr Z Z.heap a c ty) (h : (Term.length t).eval args Z none [] Z = some (.int n)) : c.slots.size < 2 ^ 31 ∧ c.slots.size.toInt32 = n := by
  have e := A.fin (U := Z) (Vm.Alike.refl _)
  by_cases q : c.slots.size < 2 ^ 31
  · refine ⟨q, ?_⟩
    rw [len_f ev e q] at h
    cases h; rfl
  · have q' : ¬ c.slots.size < 2147483648 := q
    simp [Term.eval, ev, e, q'] at h
theorem arr_out {t : Term} {a : Addr} {c : Cell} {n : Int32} {ty : FieldType} (ev : t.eval args Z none [] Z = some (.ref a)) (A : Arr Z Z.heap a c ty) (h : (Term.length t).eval args Z none [] Z = some (.int n)) (vs : List Value) (hn : n.toInt = vs.length)
    (he : ∀ j v, vs[j]? = some v → (Term.elem t (.int (Int32.ofNat j))).eval args Z none [] Z = some v) : c.slots = vs.toArray := by
  obtain ⟨h1, h2⟩ := len_out ev A h
  have hs : c.slots.size = vs.length := by
    have q : c.slots.size.toInt32.toInt = c.slots.size := len_toInt h1
    rw [h2, hn] at q
    omega
  apply Array.ext (by simpa using hs)
  intro j hj hj'
  have hv : j < vs.length := by omega
  have q := elem_in (he j _ (List.getElem?_eq_getElem hv)) ev (Term.int_eval _) A.1
  have e1 : (Int32.ofNat j).toNatClampNeg = j := by
    have q2 : (j.toInt32).toInt = j := len_toInt (by omega)
    have q3 : (Int32.ofNat j).toInt = j := q2
    simp only [Int32.toNatClampNeg, q3]; omega
  have q3 := q.2
  rw [e1, Array.getElem?_eq_getElem hj] at q3
  simpa using Option.some.inj q3
end Stat
end Jvm.Eng
namespace Jvm.Eng
open Jvm Jvm.ClassFile Sem Op Lib Jvm.Free Jvm.Stand Jvm.LawKit Jvm.RoadKit
/-! ### tables of tokens' answers, and runs by evaluation -/
def tbFind : List (Nat × Nat × Int32 × Value) → Nat → Nat → Int32 → Option Value
  | [], _, _, _ => none
  | (o', t', y', v) :: r, o, t, y => match Nat.beq o' o && Nat.beq t' t && decide (y' = y) with
    | true => some v
    | false => tbFind r o t y
def tbOf (E : List (Nat × Nat × Int32 × Value)) : Instr → Nat → Int32 → Option Value := fun i t y => match i with
  | .iand => tbFind E 0 t y
  | .iushr => tbFind E 1 t y
  | .irem => tbFind E 2 t y
  | _ => none
def entOk (ρ : Rho) (e : Nat × Nat × Int32 × Value) : Prop := (e.1 = 0 → rl ρ e.2.2.2 = .int (ρ.2 e.2.1 &&& e.2.2.1)) ∧ (e.1 = 1 → rl ρ e.2.2.2 = .int (XT.ushr (ρ.2 e.2.1) e.2.2.1)) ∧ (e.1 = 2 → e.2.2.1 ≠ 0 ∧ rl ρ e.2.2.2 = .int (ρ.2 e.2.1 % e.2.2.1))
theorem tbFind_mem {o t : Nat} {y : Int32} {v : Value} : ∀ {E : List (Nat × Nat × Int32 × Value)}, tbFind E o t y = some v → (o, t, y, v) ∈ E
  | [], h => by cases h
  | (o', t', y', v') :: r, h => by
    unfold tbFind at h
    split at h
    · rename_i q
      obtain ⟨q, q3⟩ := Bool.and_eq_true_iff.mp q
      obtain ⟨q1, q2⟩ := Bool.and_eq_true_iff.mp q
      cases h
      rw [Nat.eq_of_beq_eq_true q1, Nat.eq_of_beq_eq_true q2, of_decide_eq_true q3]
      exact List.mem_cons_self ..
    · exact List.mem_cons_of_mem _ (tbFind_mem h)
theorem tb_ok {ρ : Rho} {E : List (Nat × Nat × Int32 × Value)} (h : ∀ e ∈ E, entOk ρ e) : TbOk ρ (tbOf E) := by
  intro t y v
  refine ⟨fun q => (h _ (tbFind_mem q)).1 rfl, fun q => (h _ (tbFind_mem q)).2.1 rfl, fun q => (h _ (tbFind_mem q)).2.2 rfl⟩
theorem ent_and {ρ : Rho} {t : Nat} {y : Int32} {v : Value} (h : rl ρ v = .int (ρ.2 t &&& y)) : entOk ρ (0, t, y, v) := ⟨fun _ => h, fun q => by (cases q), fun q => by (cases q)⟩
theorem ent_ushr {ρ : Rho} {t : Nat} {y : Int32} {v : Value} (h : rl ρ v = .int (XT.ushr (ρ.2 t) y)) : entOk ρ (1, t, y, v) := ⟨fun q => by (cases q), fun _ => h, fun q => by (cases q)⟩
theorem ent_rem {ρ : Rho} {t : Nat} {y : Int32} {v : Value} (hy : y ≠ 0) (h : rl ρ v = .int (ρ.2 t % y)) : entOk ρ (2, t, y, v) := ⟨fun q => by (cases q), fun q => by (cases q), fun _ => ⟨hy, h⟩⟩
/-- a run that answers 1 within so many cells and slots -/
def okR (c s : Nat) : Option Res → Bool
  | some (some (.int z), _, c', s') => decide (z = 1) && Nat.ble c' c && Nat.ble s' s
  | _ => false
theorem okR_ok {c s : Nat} {o : Option Res} (h : okR c s o = true) : ∃ r, o = some r ∧ r.1 = some (.int 1) ∧ r.2.2.1 ≤ c ∧ r.2.2.2 ≤ s := by
  unfold okR at h
  split at h
  · rename_i z H c' s'
    obtain ⟨q, q3⟩ := Bool.and_eq_true_iff.mp h
    obtain ⟨q1, q2⟩ := Bool.and_eq_true_iff.mp q
    have e := of_decide_eq_true q1
    exact ⟨_, rfl, by rw [e], Nat.le_of_ble_eq_true q2, Nat.le_of_ble_eq_true q3⟩
  · cases h
end Jvm.Eng
namespace Jvm.Eng
open Jvm Jvm.RoadKit
theorem bit_ex (x : Int32) (k : Nat) : ∃ a : Nat, a < 2 ∧ x &&& Int32.ofNat (2 ^ k) = Int32.ofNat (2 ^ k * a) := by
  have hm : (Int32.ofNat (2 ^ k)).toBitVec = BitVec.twoPow 32 k := by
    apply BitVec.eq_of_toNat_eq
    rw [BitVec.toNat_twoPow]
    rfl
  have h : (x &&& Int32.ofNat (2 ^ k)).toBitVec = x.toBitVec &&& (Int32.ofNat (2 ^ k)).toBitVec := Int32.toBitVec_and ..
  rw [hm, BitVec.and_twoPow] at h
  split at h
  · exact ⟨1, by omega, by rw [Nat.mul_one]; exact Int32.toBitVec_inj.mp (h.trans hm.symm)⟩
  · exact ⟨0, by omega, by rw [Nat.mul_zero]; exact Int32.toBitVec_inj.mp h⟩
end Jvm.Eng
namespace Jvm.Eng
open Jvm Jvm.ClassFile Sem Op Lib Jvm.Free Jvm.Stand Jvm.LawKit Jvm.RoadKit
/-- an array's load at an index that isn't a numeral -/
theorem EW.aald {G : Cx} {fr lo : Nat} {M : Meth} {Q : Res → Prop} {pc : Nat} {ls : List Slot} {st : List Value} {H : List Obj} {n : Nat × Nat} {a k c o : Nat} {w : Value} {j : Int32} {ty : FieldType} {vs : List Value} {v : Value} (hf : M.2.2.2.2 pc = some (.aaload, a, k, c, w)) (hA : getA H o = some (ty, vs)) (ht : ty.isReference = true) (hj : ¬ j < 0) (hv : vs[j.toNatClampNeg]? = some v) (hk : kn v = true)
    (hr : EW G fr lo M Q ((pc + 1, ls, v :: st), H, n)) : EW G fr lo M Q ((pc, ls, .int j :: .ref o :: st), H, n) := by
  refine EW.run 1 ?_ hr
  show (match next G fr lo M ((pc, ls, .int j :: .ref o :: st), H, n) with | some cf' => runK G fr lo M 0 cf' | none => none) = _
  have : next G fr lo M ((pc, ls, .int j :: .ref o :: st), H, n) = some ((pc + 1, ls, v :: st), H, n) := by
    unfold next
    simp only [hf, pstep, tstep, hstep, hLd, hA, ht, hv, hk, hj, decide_false, Bool.not_false, Bool.and_self, if_true]
  rw [this]; rfl
/-- no object of the class C is one of the class K: by C's superclasses, K a class that can be instantiated -/
theorem ns_root {Z : State} {a0 : Array Value} {O K : String} {n : Nat} (w : (Cond.noSuperclass O).before a0 Z = true) (wk : (Cond.instantiable K n).before a0 Z = true) (hn : O ≠ K) : NS Z O K := by
  obtain ⟨c, k, h1, h2, h3, -, -⟩ := Cond.noSuperclass_spec w
  obtain ⟨t, kt, g1, -⟩ := Cond.instantiable_spec wk
  have ne := ids_ne h1 g1 hn
  refine ⟨c, t, h1, g1, fun fuel => ?_⟩
  cases fuel with
  | zero => rfl
  | succ f => simp [Vm.isSubclassAux, ne, h2, h3]
theorem ns_no {Z : State} {a0 : Array Value} {C S K : String} {n : Nat} (w : (Cond.superclass C S).before a0 Z = true) (wk : (Cond.instantiable K n).before a0 Z = true) (nn : NS Z C K) (hn : C ≠ K) : ∃ c t, Z.vm.findClass C = some c ∧ Z.vm.findClass K = some t ∧ Z.vm.assignable c t = false := by
  obtain ⟨c, t, h0, g0, n3⟩ := nn
  obtain ⟨p, k, kp, h1, h2, h3, h4, h5, -, h7⟩ := Cond.superclass_spec h0 w
  obtain ⟨t', k', g1, g2, g3, g4, -⟩ := Cond.instantiable_spec wk
  cases g0.symm.trans g1
  have g5 : k'.isInterface = false := by
    cases hq : k'.isInterface with
    | false => rfl
    | true => rw [hq] at g4; cases g4
  have ne := ids_ne h0 g0 hn
  refine ⟨c, t, h0, g0, ?_⟩
  show Z.vm.assignableAux (255 + 1) c t = false
  simp [Vm.assignableAux, ne, h2, g2, h5, g3, g5, Vm.isSubclass, n3]
end Jvm.Eng
namespace Jvm.Pilot.@@N@@
open Jvm Jvm.ClassFile Sem Op Lib Jvm.Free Jvm.Stand Jvm.LawKit Jvm.RoadKit Jvm.Eng Bundle Jvm.Pilot.@@N@@.Jvm.D

def gK : Nat → String × String × String
  | 0 => ("com/example/holdfast/holdfast/protocol/Block", "id", "J")
  | 1 => ("com/example/holdfast/holdfast/protocol/Block", "generationStamp", "J")
  | 2 => ("com/example/holdfast/holdfast/protocol/Block", "length", "J")
  | 3 => ("java/lang/Long$LongCache", "cache", "[Ljava/lang/Long;")
  | 4 => ("java/lang/Long", "value", "J")
  | _ => ("", "", "")
def gC : Nat → String
  | 0 => "com/example/holdfast/holdfast/protocol/Block"
  | 1 => "java/lang/Long"
  | _ => ""
def gM : Nat → MethodName
  | _ => ⟨"", "", ""⟩
def gT : Nat → Option Fls
  | 0 => some (3, [(0, .long 0, true), (1, .long 0, true), (2, .long 0, true)])
  | 1 => some (1, [(4, .long 0, true)])
  | _ => none
def m0_t : Nat → Option Eng.Row := (nd 27 (nd 7 (nd 4 (nd 1 (lf 0 (.aload_n 0, 0, 0, 0, .null)) (lf 1 (.invokespecial 1, 0, 1, 1, .null))) (nd 6 (lf 4 (.lload 5, 0, 0, 0, .null)) (lf 6 (.lconst 0, 0, 0, 0, .null)))) (nd 14 (nd 8 (lf 7 (.lcmp, 0, 0, 0, .null)) (lf 8 (.ifCond .ge 19, 0, 0, 0, .null))) (nd 15 (lf 14 (.dup, 0, 0, 0, .null)) (nd 16 (lf 15 (.lload_n 1, 0, 0, 0, .null)) (lf 16 (.lload 5, 0, 0, 0, .null)))))) (nd 34 (nd 29 (nd 28 (lf 27 (.aload_n 0, 0, 0, 0, .null)) (lf 28 (.lload_n 1, 0, 0, 0, .null))) (nd 32 (lf 29 (.putfield 16, 0, 1, 0, .null)) (nd 33 (lf 32 (.aload_n 0, 0, 0, 0, .null)) (lf 33 (.lload_n 3, 0, 0, 0, .null))))) (nd 38 (nd 37 (lf 34 (.putfield 22, 1, 1, 0, .null)) (lf 37 (.aload_n 0, 0, 0, 0, .null))) (nd 40 (lf 38 (.lload 5, 0, 0, 0, .null)) (nd 43 (lf 40 (.putfield 25, 2, 1, 0, .null)) (lf 43 (.return_, 0, 0, 0, .null)))))))
def m0 : Meth := (⟨"com/example/holdfast/holdfast/protocol/Block", "<init>", "(JJJ)V"⟩, prog_38_method_1_code, 7, (Option.none : Option Jvm.ClassFile.FieldType), upTo 44 m0_t)
def m1_t : Nat → Option Eng.Row := (nd 27 (nd 13 (nd 7 (nd 1 (lf 0 (.aload_n 1, 0, 0, 0, .null)) (nd 4 (lf 1 (.instanceof 17, 0, 0, 0, .null)) (lf 4 (.ifCond .ne 5, 0, 0, 0, .null)))) (nd 9 (nd 8 (lf 7 (.iconst 0, 0, 0, 0, .null)) (lf 8 (.ireturn, 0, 0, 0, .null))) (nd 10 (lf 9 (.aload_n 1, 0, 0, 0, .null)) (lf 10 (.checkcast 17, 0, 0, 0, .null))))) (nd 19 (nd 15 (nd 14 (lf 13 (.astore_n 2, 0, 0, 0, .null)) (lf 14 (.aload_n 0, 0, 0, 0, .null))) (nd 18 (lf 15 (.getfield 16, 0, 0, 0, .null)) (lf 18 (.aload_n 2, 0, 0, 0, .null)))) (nd 23 (nd 22 (lf 19 (.getfield 16, 0, 0, 0, .null)) (lf 22 (.lcmp, 0, 0, 0, .null))) (nd 26 (lf 23 (.ifCond .ne 31, 0, 0, 0, .null)) (lf 26 (.aload_n 0, 0, 0, 0, .null)))))) (nd 42 (nd 34 (nd 30 (lf 27 (.getfield 22, 1, 0, 0, .null)) (nd 31 (lf 30 (.aload_n 2, 0, 0, 0, .null)) (lf 31 (.getfield 22, 1, 0, 0, .null)))) (nd 38 (nd 35 (lf 34 (.lcmp, 0, 0, 0, .null)) (lf 35 (.ifCond .ne 19, 0, 0, 0, .null))) (nd 39 (lf 38 (.aload_n 0, 0, 0, 0, .null)) (lf 39 (.getfield 25, 2, 0, 0, .null))))) (nd 50 (nd 46 (nd 43 (lf 42 (.aload_n 2, 0, 0, 0, .null)) (lf 43 (.getfield 25, 2, 0, 0, .null))) (nd 47 (lf 46 (.lcmp, 0, 0, 0, .null)) (lf 47 (.ifCond .ne 7, 0, 0, 0, .null)))) (nd 54 (nd 51 (lf 50 (.iconst 1, 0, 0, 0, .null)) (lf 51 (.goto 4, 0, 0, 0, .null))) (nd 55 (lf 54 (.iconst 0, 0, 0, 0, .null)) (lf 55 (.ireturn, 0, 0, 0, .null)))))))
def m1 : Meth := (⟨"com/example/holdfast/holdfast/protocol/Block", "equals", "(Ljava/lang/Object;)Z"⟩, prog_38_method_7_code, 3, (Option.some Jvm.ClassFile.FieldType.boolean), upTo 56 m1_t)
def m2_t : Nat → Option Eng.Row := (nd 23 (nd 9 (nd 4 (nd 3 (lf 0 (.sipush 128, 0, 0, 0, .null)) (lf 3 (.istore_n 2, 0, 0, 0, .null))) (nd 5 (lf 4 (.lload_n 0, 0, 0, 0, .null)) (nd 8 (lf 5 (.ldc2_w 230, 0, 0, 0, .long (-128))) (lf 8 (.lcmp, 0, 0, 0, .null))))) (nd 16 (nd 12 (lf 9 (.ifCond .lt 22, 0, 0, 0, .null)) (nd 13 (lf 12 (.lload_n 0, 0, 0, 0, .null)) (lf 13 (.ldc2_w 232, 0, 0, 0, .long (127))))) (nd 17 (lf 16 (.lcmp, 0, 0, 0, .null)) (nd 20 (lf 17 (.ifCond .gt 14, 0, 0, 0, .null)) (lf 20 (.getstatic 234, 0, 0, 3, .null)))))) (nd 30 (nd 25 (nd 24 (lf 23 (.lload_n 0, 0, 0, 0, .null)) (lf 24 (.l2i, 0, 0, 0, .null))) (nd 28 (lf 25 (.sipush 128, 0, 0, 0, .null)) (nd 29 (lf 28 (.iadd, 0, 0, 0, .null)) (lf 29 (.aaload, 0, 0, 0, .null))))) (nd 35 (nd 31 (lf 30 (.areturn, 0, 0, 0, .null)) (nd 34 (lf 31 (.new 1, 0, 0, 1, .null)) (lf 34 (.dup, 0, 0, 0, .null)))) (nd 36 (lf 35 (.lload_n 0, 0, 0, 0, .null)) (nd 39 (lf 36 (.invokespecial 240, 3, 2, 0, .null)) (lf 39 (.areturn, 0, 0, 0, .null)))))))
def m2 : Meth := (⟨"java/lang/Long", "valueOf", "(J)Ljava/lang/Long;"⟩, jdk_35_method_24_code, 3, (Option.some (Jvm.ClassFile.FieldType.object "java/lang/Long")), upTo 40 m2_t)
def m3_t : Nat → Option Eng.Row := (nd 5 (nd 1 (lf 0 (.aload_n 0, 0, 0, 0, .null)) (nd 4 (lf 1 (.invokespecial 270, 4, 1, 0, .null)) (lf 4 (.aload_n 0, 0, 0, 0, .null)))) (nd 6 (lf 5 (.lload_n 1, 0, 0, 0, .null)) (nd 9 (lf 6 (.putfield 273, 4, 1, 0, .null)) (lf 9 (.return_, 0, 0, 0, .null)))))
def m3 : Meth := (⟨"java/lang/Long", "<init>", "(J)V"⟩, jdk_35_method_26_code, 3, (Option.none : Option Jvm.ClassFile.FieldType), upTo 10 m3_t)
def m4_t : Nat → Option Eng.Row := (nd 1 (lf 0 (.aload_n 0, 0, 0, 0, .null)) (nd 4 (lf 1 (.invokespecial 1, 0, 1, 1, .null)) (lf 4 (.return_, 0, 0, 0, .null))))
def m4 : Meth := (⟨"java/lang/Number", "<init>", "()V"⟩, jdk_18_method_1_code, 1, (Option.none : Option Jvm.ClassFile.FieldType), upTo 5 m4_t)
def mL_t : Nat → Option Eng.Row := (nd 135 (nd 63 (nd 30 (nd 15 (nd 8 (nd 5 (nd 2 (lf 0 (.lload 4, 0, 0, 0, .null)) (lf 2 (.ldc2_w 9, 0, 0, 0, .long (9223372036854775807)))) (nd 6 (lf 5 (.land, 0, 0, 0, .null)) (lf 6 (.lstore 11, 0, 0, 0, .null)))) (nd 11 (nd 10 (lf 8 (.iload 10, 0, 0, 0, .null)) (lf 10 (.iconst 1, 0, 0, 0, .null))) (nd 12 (lf 11 (.iand, 0, 0, 0, .null)) (lf 12 (.ifCond .eq 7, 0, 0, 0, .null))))) (nd 22 (nd 19 (nd 16 (lf 15 (.iconst 1, 0, 0, 0, .null)) (lf 16 (.goto 4, 0, 0, 0, .null))) (nd 20 (lf 19 (.iconst 0, 0, 0, 0, .null)) (lf 20 (.istore 13, 0, 0, 0, .null)))) (nd 25 (nd 24 (lf 22 (.iload 10, 0, 0, 0, .null)) (lf 24 (.iconst 2, 0, 0, 0, .null))) (nd 26 (lf 25 (.iand, 0, 0, 0, .null)) (nd 29 (lf 26 (.ifCond .eq 7, 0, 0, 0, .null)) (lf 29 (.iconst 1, 0, 0, 0, .null))))))) (nd 47 (nd 38 (nd 34 (nd 33 (lf 30 (.goto 4, 0, 0, 0, .null)) (lf 33 (.iconst 0, 0, 0, 0, .null))) (nd 36 (lf 34 (.istore 14, 0, 0, 0, .null)) (lf 36 (.iload 10, 0, 0, 0, .null)))) (nd 40 (nd 39 (lf 38 (.iconst 4, 0, 0, 0, .null)) (lf 39 (.iand, 0, 0, 0, .null))) (nd 43 (lf 40 (.ifCond .eq 7, 0, 0, 0, .null)) (nd 44 (lf 43 (.iconst 1, 0, 0, 0, .null)) (lf 44 (.goto 4, 0, 0, 0, .null)))))) (nd 55 (nd 50 (nd 48 (lf 47 (.iconst 0, 0, 0, 0, .null)) (lf 48 (.istore 15, 0, 0, 0, .null))) (nd 52 (lf 50 (.iload 13, 0, 0, 0, .null)) (lf 52 (.ifCond .eq 10, 0, 0, 0, .null)))) (nd 58 (nd 56 (lf 55 (.lload_n 0, 0, 0, 0, .null)) (lf 56 (.lload 6, 0, 0, 0, .null))) (nd 59 (lf 58 (.lxor, 0, 0, 0, .null)) (nd 62 (lf 59 (.goto 4, 0, 0, 0, .null)) (lf 62 (.lload_n 0, 0, 0, 0, .null)))))))) (nd 98 (nd 80 (nd 71 (nd 67 (nd 65 (lf 63 (.lstore 16, 0, 0, 0, .null)) (lf 65 (.iload 14, 0, 0, 0, .null))) (nd 70 (lf 67 (.ifCond .eq 10, 0, 0, 0, .null)) (lf 70 (.lload_n 2, 0, 0, 0, .null)))) (nd 74 (nd 73 (lf 71 (.lload 8, 0, 0, 0, .null)) (lf 73 (.lxor, 0, 0, 0, .null))) (nd 77 (lf 74 (.goto 4, 0, 0, 0, .null)) (nd 78 (lf 77 (.lload_n 2, 0, 0, 0, .null)) (lf 78 (.lstore 18, 0, 0, 0, .null)))))) (nd 88 (nd 85 (nd 82 (lf 80 (.lload 6, 0, 0, 0, .null)) (lf 82 (.ldc2_w 9, 0, 0, 0, .long (9223372036854775807)))) (nd 86 (lf 85 (.land, 0, 0, 0, .null)) (lf 86 (.lstore 20, 0, 0, 0, .null)))) (nd 93 (nd 90 (lf 88 (.iload 15, 0, 0, 0, .null)) (lf 90 (.ifCond .eq 11, 0, 0, 0, .null))) (nd 95 (lf 93 (.lload 11, 0, 0, 0, .null)) (nd 97 (lf 95 (.lload 20, 0, 0, 0, .null)) (lf 97 (.lxor, 0, 0, 0, .null))))))) (nd 116 (nd 108 (nd 103 (nd 101 (lf 98 (.goto 5, 0, 0, 0, .null)) (lf 101 (.lload 11, 0, 0, 0, .null))) (nd 105 (lf 103 (.lstore 22, 0, 0, 0, .null)) (lf 105 (.new 11, 0, 0, 0, .null)))) (nd 110 (nd 109 (lf 108 (.dup, 0, 0, 0, .null)) (lf 109 (.lload_n 0, 0, 0, 0, .null))) (nd 111 (lf 110 (.lload_n 2, 0, 0, 0, .null)) (nd 113 (lf 111 (.lload 11, 0, 0, 0, .null)) (lf 113 (.invokespecial 13, 0, 4, 0, .null)))))) (nd 124 (nd 121 (nd 118 (lf 116 (.astore 24, 0, 0, 0, .null)) (lf 118 (.new 11, 0, 0, 0, .null))) (nd 122 (lf 121 (.dup, 0, 0, 0, .null)) (lf 122 (.lload 16, 0, 0, 0, .null)))) (nd 128 (nd 126 (lf 124 (.lload 18, 0, 0, 0, .null)) (lf 126 (.lload 22, 0, 0, 0, .null))) (nd 131 (lf 128 (.invokespecial 13, 0, 4, 0, .null)) (nd 133 (lf 131 (.astore 25, 0, 0, 0, .null)) (lf 133 (.iload 10, 0, 0, 0, .null))))))))) (nd 200 (nd 165 (nd 147 (nd 139 (nd 137 (nd 136 (lf 135 (.iconst 3, 0, 0, 0, .null)) (lf 136 (.iushr, 0, 0, 0, .null))) (nd 138 (lf 137 (.iconst 3, 0, 0, 0, .null)) (lf 138 (.iand, 0, 0, 0, .null)))) (nd 143 (nd 141 (lf 139 (.istore 26, 0, 0, 0, .null)) (lf 141 (.iload 26, 0, 0, 0, .null))) (nd 144 (lf 143 (.iconst 1, 0, 0, 0, .null)) (lf 144 (.if_icmp .ne 21, 0, 0, 0, .null))))) (nd 156 (nd 150 (nd 149 (lf 147 (.aload 24, 0, 0, 0, .null)) (lf 149 (.lload_n 0, 0, 0, 0, .null))) (nd 153 (lf 150 (.invokestatic 16, 2, 1, 0, .null)) (lf 153 (.invokevirtual 20, 1, 2, 0, .null)))) (nd 160 (nd 159 (lf 156 (.ifCond .ne 7, 0, 0, 0, .null)) (lf 159 (.iconst 1, 0, 0, 0, .null))) (nd 163 (lf 160 (.goto 4, 0, 0, 0, .null)) (nd 164 (lf 163 (.iconst 0, 0, 0, 0, .null)) (lf 164 (.ireturn, 0, 0, 0, .null))))))) (nd 184 (nd 173 (nd 168 (nd 167 (lf 165 (.iload 26, 0, 0, 0, .null)) (lf 167 (.iconst 2, 0, 0, 0, .null))) (nd 171 (lf 168 (.if_icmp .ne 18, 0, 0, 0, .null)) (lf 171 (.aload 24, 0, 0, 0, .null)))) (nd 177 (nd 174 (lf 173 (.aconst_null, 0, 0, 0, .null)) (lf 174 (.invokevirtual 20, 1, 2, 0, .null))) (nd 180 (lf 177 (.ifCond .ne 7, 0, 0, 0, .null)) (nd 181 (lf 180 (.iconst 1, 0, 0, 0, .null)) (lf 181 (.goto 4, 0, 0, 0, .null)))))) (nd 189 (nd 186 (nd 185 (lf 184 (.iconst 0, 0, 0, 0, .null)) (lf 185 (.ireturn, 0, 0, 0, .null))) (nd 188 (lf 186 (.iload 26, 0, 0, 0, .null)) (lf 188 (.iconst 3, 0, 0, 0, .null)))) (nd 194 (nd 192 (lf 189 (.if_icmp .ne 11, 0, 0, 0, .null)) (lf 192 (.aload 24, 0, 0, 0, .null))) (nd 196 (lf 194 (.aload 24, 0, 0, 0, .null)) (nd 199 (lf 196 (.invokevirtual 20, 1, 2, 0, .null)) (lf 199 (.ireturn, 0, 0, 0, .null)))))))) (nd 236 (nd 219 (nd 208 (nd 205 (nd 202 (lf 200 (.iload 13, 0, 0, 0, .null)) (lf 202 (.ifCond .eq 10, 0, 0, 0, .null))) (nd 207 (lf 205 (.lload 6, 0, 0, 0, .null)) (lf 207 (.lconst 0, 0, 0, 0, .null)))) (nd 212 (nd 209 (lf 208 (.lcmp, 0, 0, 0, .null)) (lf 209 (.ifCond .ne 31, 0, 0, 0, .null))) (nd 214 (lf 212 (.iload 14, 0, 0, 0, .null)) (nd 217 (lf 214 (.ifCond .eq 10, 0, 0, 0, .null)) (lf 217 (.lload 8, 0, 0, 0, .null)))))) (nd 226 (nd 221 (nd 220 (lf 219 (.lconst 0, 0, 0, 0, .null)) (lf 220 (.lcmp, 0, 0, 0, .null))) (nd 224 (lf 221 (.ifCond .ne 19, 0, 0, 0, .null)) (lf 224 (.iload 15, 0, 0, 0, .null)))) (nd 231 (nd 229 (lf 226 (.ifCond .eq 10, 0, 0, 0, .null)) (lf 229 (.lload 20, 0, 0, 0, .null))) (nd 232 (lf 231 (.lconst 0, 0, 0, 0, .null)) (nd 233 (lf 232 (.lcmp, 0, 0, 0, .null)) (lf 233 (.ifCond .ne 7, 0, 0, 0, .null))))))) (nd 255 (nd 243 (nd 240 (nd 237 (lf 236 (.iconst 1, 0, 0, 0, .null)) (lf 237 (.goto 4, 0, 0, 0, .null))) (nd 241 (lf 240 (.iconst 0, 0, 0, 0, .null)) (lf 241 (.istore 27, 0, 0, 0, .null)))) (nd 247 (nd 245 (lf 243 (.aload 24, 0, 0, 0, .null)) (lf 245 (.aload 25, 0, 0, 0, .null))) (nd 250 (lf 247 (.invokevirtual 20, 1, 2, 0, .null)) (nd 252 (lf 250 (.iload 27, 0, 0, 0, .null)) (lf 252 (.if_icmp .ne 19, 0, 0, 0, .null)))))) (nd 264 (nd 259 (nd 257 (lf 255 (.aload 25, 0, 0, 0, .null)) (lf 257 (.aload 24, 0, 0, 0, .null))) (nd 262 (lf 259 (.invokevirtual 20, 1, 2, 0, .null)) (lf 262 (.iload 27, 0, 0, 0, .null)))) (nd 268 (nd 267 (lf 264 (.if_icmp .ne 7, 0, 0, 0, .null)) (lf 267 (.iconst 1, 0, 0, 0, .null))) (nd 271 (lf 268 (.goto 4, 0, 0, 0, .null)) (nd 272 (lf 271 (.iconst 0, 0, 0, 0, .null)) (lf 272 (.ireturn, 0, 0, 0, .null))))))))))
def mL : Meth := (x, code, maxLocals, ret, upTo 273 mL_t)
def gP : Nat → Option Meth
  | 0 => some m0
  | 1 => some m1
  | 2 => some m2
  | 3 => some m3
  | 4 => some m4
  | _ => none
-- statics: 0: java/lang/Long$LongCache cache [Ljava/lang/Long; (field 3)
set_option maxRecDepth 65536 in
theorem cL : chk gP gK gC gM tables_1 273 mL = true := by decide +kernel
set_option maxRecDepth 65536 in
theorem c0 : chk gP gK gC gM tables_1 44 m0 = true := by decide +kernel
theorem pl0 : plainFor m0.1 = true := plainFor_of_name (by first | (simp [plainName, overriddenIn, m0]; done) | decide +kernel)
set_option maxRecDepth 65536 in
theorem c1 : chk gP gK gC gM tables_1 56 m1 = true := by decide +kernel
theorem pl1 : plainFor m1.1 = true := plainFor_of_name (by first | (simp [plainName, overriddenIn, m1]; done) | decide +kernel)
set_option maxRecDepth 65536 in
theorem c2 : chk gP gK gC gM tables_1 40 m2 = true := by decide +kernel
theorem pl2 : plainFor m2.1 = true := by decide +kernel
set_option maxRecDepth 65536 in
theorem c3 : chk gP gK gC gM tables_1 10 m3 = true := by decide +kernel
theorem pl3 : plainFor m3.1 = true := by decide +kernel
set_option maxRecDepth 65536 in
theorem c4 : chk gP gK gC gM tables_1 5 m4 = true := by decide +kernel
theorem pl4 : plainFor m4.1 = true := by decide +kernel
set_option maxRecDepth 65536 in
theorem cW : ([m0, m1, m2, m3, m4]).all (fun M => decide (Jvm.Cond.code M.1 M.2.1 M.2.2.1 M.2.2.2.1 ∈ tables_1) && decide (Jvm.Cond.initialized M.1.cls ∈ tables_1)) = true := by decide +kernel
theorem hP {Z : State} {a0 : Array Value} (hw : ∀ d ∈ tables_1, d.before a0 Z = true) : GoodP Z a0 gP gK gC gM := by
  intro a M h
  have hc := List.all_eq_true.mp cW
  match a, h with
  | 0, h => obtain rfl : m0 = M := Option.some.inj h; exact ⟨good_of hw c0 rfl, pl0, code_of hw (hc _ (by simp))⟩
  | 1, h => obtain rfl : m1 = M := Option.some.inj h; exact ⟨good_of hw c1 rfl, pl1, code_of hw (hc _ (by simp))⟩
  | 2, h => obtain rfl : m2 = M := Option.some.inj h; exact ⟨good_of hw c2 rfl, pl2, code_of hw (hc _ (by simp))⟩
  | 3, h => obtain rfl : m3 = M := Option.some.inj h; exact ⟨good_of hw c3 rfl, pl3, code_of hw (hc _ (by simp))⟩
  | 4, h => obtain rfl : m4 = M := Option.some.inj h; exact ⟨good_of hw c4 rfl, pl4, code_of hw (hc _ (by simp))⟩
  | _ + 5, h => cases h

abbrev D0 : Nat → Nat → Bool := fun _ _ => false
abbrev NI0 : Nat → Nat → Bool := fun i j => Nat.beq i 1 && Nat.beq j 0
abbrev T0 : Instr → Nat → Int32 → Option Value := fun _ _ _ => none
abbrev gS : List (Nat × Value) := [(3, .ref 0)]
abbrev gG : Cx := (gP, 2, gS, gT, D0, NI0, T0)
theorem own_xor (x d : Int64) : (x ^^^ d).toInt = x.toInt ↔ d.toInt = 0 := by
  constructor
  · intro h
    have h1 : x ^^^ d = x := Int64.toInt_inj.mp h
    have h2 : x ^^^ (x ^^^ d) = x ^^^ x := by rw [h1]
    rw [← Int64.xor_assoc, Int64.xor_self, Int64.zero_xor] at h2
    rw [h2]; rfl
  · intro h
    have h1 : d = 0 := Int64.toInt_inj.mp h
    rw [h1, Int64.xor_zero]
theorem weq_23 (fr lo : Nat) (A : List Value) (a1 a2 a3 b1 b2 b3 : Int64) : EW gG fr lo m1 (fun r => ∃ z : Int32, r = (some (.int z), [.inl (.object "java/lang/Long", A), .inr (1, []), .inr (0, [(0, .long a1), (1, .long a2), (2, .long a3)]), .inr (0, [(0, .long b1), (1, .long b2), (2, .long b3)])], 0, 0) ∧ ((z = 1 ∧ (a1.toInt = b1.toInt ∧ a2.toInt = b2.toInt ∧ a3.toInt = b3.toInt)) ∨ (z = 0 ∧ ¬ (a1.toInt = b1.toInt ∧ a2.toInt = b2.toInt ∧ a3.toInt = b3.toInt)))) ((0, entL [.ref 2, .ref 3] 3, []), [.inl (.object "java/lang/Long", A), .inr (1, []), .inr (0, [(0, .long a1), (1, .long a2), (2, .long a3)]), .inr (0, [(0, .long b1), (1, .long b2), (2, .long b3)])], 0, 0) := by
  show EW _ _ _ _ _ ((0, [.val (.ref 2), .val (.ref 3), .unset], []), [.inl (.object "java/lang/Long", A), .inr (1, []), .inr (0, [(0, .long a1), (1, .long a2), (2, .long a3)]), .inr (0, [(0, .long b1), (1, .long b2), (2, .long b3)])], 0, 0)
  refine EW.run 6 (cf' := ((14, [.val (.ref 2), .val (.ref 3), .val (.ref 3)], []), [.inl (.object "java/lang/Long", A), .inr (1, []), .inr (0, [(0, .long a1), (1, .long a2), (2, .long a3)]), .inr (0, [(0, .long b1), (1, .long b2), (2, .long b3)])], 0, 0)) rfl ?_
  refine EW.run 5 (cf' := ((23, [.val (.ref 2), .val (.ref 3), .val (.ref 3)], [.int (XT.cmpL a1 b1)]), [.inl (.object "java/lang/Long", A), .inr (1, []), .inr (0, [(0, .long a1), (1, .long a2), (2, .long a3)]), .inr (0, [(0, .long b1), (1, .long b2), (2, .long b3)])], 0, 0)) rfl ?_
  refine EW.iflP rfl (by decide) (fun h => ?_) (fun h => ?_)
  · have h1 : a1.toInt ≠ b1.toInt := by simp only [cP] at h; omega
    clear h
    show EW _ _ _ _ _ ((54, [.val (.ref 2), .val (.ref 3), .val (.ref 3)], []), [.inl (.object "java/lang/Long", A), .inr (1, []), .inr (0, [(0, .long a1), (1, .long a2), (2, .long a3)]), .inr (0, [(0, .long b1), (1, .long b2), (2, .long b3)])], 0, 0)
    refine EW.run 1 (cf' := ((55, [.val (.ref 2), .val (.ref 3), .val (.ref 3)], [.int (0 : Int32)]), [.inl (.object "java/lang/Long", A), .inr (1, []), .inr (0, [(0, .long a1), (1, .long a2), (2, .long a3)]), .inr (0, [(0, .long b1), (1, .long b2), (2, .long b3)])], 0, 0)) rfl ?_
    exact EW.ret rfl ⟨0, rfl, Or.inr ⟨rfl, by omega⟩⟩
  · have h1 : a1.toInt = b1.toInt := by simp only [cP] at h; omega
    clear h
    show EW _ _ _ _ _ ((26, [.val (.ref 2), .val (.ref 3), .val (.ref 3)], []), [.inl (.object "java/lang/Long", A), .inr (1, []), .inr (0, [(0, .long a1), (1, .long a2), (2, .long a3)]), .inr (0, [(0, .long b1), (1, .long b2), (2, .long b3)])], 0, 0)
    refine EW.run 5 (cf' := ((35, [.val (.ref 2), .val (.ref 3), .val (.ref 3)], [.int (XT.cmpL a2 b2)]), [.inl (.object "java/lang/Long", A), .inr (1, []), .inr (0, [(0, .long a1), (1, .long a2), (2, .long a3)]), .inr (0, [(0, .long b1), (1, .long b2), (2, .long b3)])], 0, 0)) rfl ?_
    refine EW.iflP rfl (by decide) (fun h => ?_) (fun h => ?_)
    · have h2 : a2.toInt ≠ b2.toInt := by simp only [cP] at h; omega
      clear h
      show EW _ _ _ _ _ ((54, [.val (.ref 2), .val (.ref 3), .val (.ref 3)], []), [.inl (.object "java/lang/Long", A), .inr (1, []), .inr (0, [(0, .long a1), (1, .long a2), (2, .long a3)]), .inr (0, [(0, .long b1), (1, .long b2), (2, .long b3)])], 0, 0)
      refine EW.run 1 (cf' := ((55, [.val (.ref 2), .val (.ref 3), .val (.ref 3)], [.int (0 : Int32)]), [.inl (.object "java/lang/Long", A), .inr (1, []), .inr (0, [(0, .long a1), (1, .long a2), (2, .long a3)]), .inr (0, [(0, .long b1), (1, .long b2), (2, .long b3)])], 0, 0)) rfl ?_
      exact EW.ret rfl ⟨0, rfl, Or.inr ⟨rfl, by omega⟩⟩
    · have h2 : a2.toInt = b2.toInt := by simp only [cP] at h; omega
      clear h
      show EW _ _ _ _ _ ((38, [.val (.ref 2), .val (.ref 3), .val (.ref 3)], []), [.inl (.object "java/lang/Long", A), .inr (1, []), .inr (0, [(0, .long a1), (1, .long a2), (2, .long a3)]), .inr (0, [(0, .long b1), (1, .long b2), (2, .long b3)])], 0, 0)
      refine EW.run 5 (cf' := ((47, [.val (.ref 2), .val (.ref 3), .val (.ref 3)], [.int (XT.cmpL a3 b3)]), [.inl (.object "java/lang/Long", A), .inr (1, []), .inr (0, [(0, .long a1), (1, .long a2), (2, .long a3)]), .inr (0, [(0, .long b1), (1, .long b2), (2, .long b3)])], 0, 0)) rfl ?_
      refine EW.iflP rfl (by decide) (fun h => ?_) (fun h => ?_)
      · have h3 : a3.toInt ≠ b3.toInt := by simp only [cP] at h; omega
        clear h
        show EW _ _ _ _ _ ((54, [.val (.ref 2), .val (.ref 3), .val (.ref 3)], []), [.inl (.object "java/lang/Long", A), .inr (1, []), .inr (0, [(0, .long a1), (1, .long a2), (2, .long a3)]), .inr (0, [(0, .long b1), (1, .long b2), (2, .long b3)])], 0, 0)
        refine EW.run 1 (cf' := ((55, [.val (.ref 2), .val (.ref 3), .val (.ref 3)], [.int (0 : Int32)]), [.inl (.object "java/lang/Long", A), .inr (1, []), .inr (0, [(0, .long a1), (1, .long a2), (2, .long a3)]), .inr (0, [(0, .long b1), (1, .long b2), (2, .long b3)])], 0, 0)) rfl ?_
        exact EW.ret rfl ⟨0, rfl, Or.inr ⟨rfl, by omega⟩⟩
      · have h3 : a3.toInt = b3.toInt := by simp only [cP] at h; omega
        clear h
        show EW _ _ _ _ _ ((50, [.val (.ref 2), .val (.ref 3), .val (.ref 3)], []), [.inl (.object "java/lang/Long", A), .inr (1, []), .inr (0, [(0, .long a1), (1, .long a2), (2, .long a3)]), .inr (0, [(0, .long b1), (1, .long b2), (2, .long b3)])], 0, 0)
        refine EW.run 2 (cf' := ((55, [.val (.ref 2), .val (.ref 3), .val (.ref 3)], [.int (1 : Int32)]), [.inl (.object "java/lang/Long", A), .inr (1, []), .inr (0, [(0, .long a1), (1, .long a2), (2, .long a3)]), .inr (0, [(0, .long b1), (1, .long b2), (2, .long b3)])], 0, 0)) rfl ?_
        exact EW.ret rfl ⟨1, rfl, Or.inl ⟨rfl, by omega⟩⟩
theorem weq_32 (fr lo : Nat) (A : List Value) (a1 a2 a3 b1 b2 b3 : Int64) : EW gG fr lo m1 (fun r => ∃ z : Int32, r = (some (.int z), [.inl (.object "java/lang/Long", A), .inr (1, []), .inr (0, [(0, .long a1), (1, .long a2), (2, .long a3)]), .inr (0, [(0, .long b1), (1, .long b2), (2, .long b3)])], 0, 0) ∧ ((z = 1 ∧ (b1.toInt = a1.toInt ∧ b2.toInt = a2.toInt ∧ b3.toInt = a3.toInt)) ∨ (z = 0 ∧ ¬ (b1.toInt = a1.toInt ∧ b2.toInt = a2.toInt ∧ b3.toInt = a3.toInt)))) ((0, entL [.ref 3, .ref 2] 3, []), [.inl (.object "java/lang/Long", A), .inr (1, []), .inr (0, [(0, .long a1), (1, .long a2), (2, .long a3)]), .inr (0, [(0, .long b1), (1, .long b2), (2, .long b3)])], 0, 0) := by
  show EW _ _ _ _ _ ((0, [.val (.ref 3), .val (.ref 2), .unset], []), [.inl (.object "java/lang/Long", A), .inr (1, []), .inr (0, [(0, .long a1), (1, .long a2), (2, .long a3)]), .inr (0, [(0, .long b1), (1, .long b2), (2, .long b3)])], 0, 0)
  refine EW.run 6 (cf' := ((14, [.val (.ref 3), .val (.ref 2), .val (.ref 2)], []), [.inl (.object "java/lang/Long", A), .inr (1, []), .inr (0, [(0, .long a1), (1, .long a2), (2, .long a3)]), .inr (0, [(0, .long b1), (1, .long b2), (2, .long b3)])], 0, 0)) rfl ?_
  refine EW.run 5 (cf' := ((23, [.val (.ref 3), .val (.ref 2), .val (.ref 2)], [.int (XT.cmpL b1 a1)]), [.inl (.object "java/lang/Long", A), .inr (1, []), .inr (0, [(0, .long a1), (1, .long a2), (2, .long a3)]), .inr (0, [(0, .long b1), (1, .long b2), (2, .long b3)])], 0, 0)) rfl ?_
  refine EW.iflP rfl (by decide) (fun h => ?_) (fun h => ?_)
  · have h1 : b1.toInt ≠ a1.toInt := by simp only [cP] at h; omega
    clear h
    show EW _ _ _ _ _ ((54, [.val (.ref 3), .val (.ref 2), .val (.ref 2)], []), [.inl (.object "java/lang/Long", A), .inr (1, []), .inr (0, [(0, .long a1), (1, .long a2), (2, .long a3)]), .inr (0, [(0, .long b1), (1, .long b2), (2, .long b3)])], 0, 0)
    refine EW.run 1 (cf' := ((55, [.val (.ref 3), .val (.ref 2), .val (.ref 2)], [.int (0 : Int32)]), [.inl (.object "java/lang/Long", A), .inr (1, []), .inr (0, [(0, .long a1), (1, .long a2), (2, .long a3)]), .inr (0, [(0, .long b1), (1, .long b2), (2, .long b3)])], 0, 0)) rfl ?_
    exact EW.ret rfl ⟨0, rfl, Or.inr ⟨rfl, by omega⟩⟩
  · have h1 : b1.toInt = a1.toInt := by simp only [cP] at h; omega
    clear h
    show EW _ _ _ _ _ ((26, [.val (.ref 3), .val (.ref 2), .val (.ref 2)], []), [.inl (.object "java/lang/Long", A), .inr (1, []), .inr (0, [(0, .long a1), (1, .long a2), (2, .long a3)]), .inr (0, [(0, .long b1), (1, .long b2), (2, .long b3)])], 0, 0)
    refine EW.run 5 (cf' := ((35, [.val (.ref 3), .val (.ref 2), .val (.ref 2)], [.int (XT.cmpL b2 a2)]), [.inl (.object "java/lang/Long", A), .inr (1, []), .inr (0, [(0, .long a1), (1, .long a2), (2, .long a3)]), .inr (0, [(0, .long b1), (1, .long b2), (2, .long b3)])], 0, 0)) rfl ?_
    refine EW.iflP rfl (by decide) (fun h => ?_) (fun h => ?_)
    · have h2 : b2.toInt ≠ a2.toInt := by simp only [cP] at h; omega
      clear h
      show EW _ _ _ _ _ ((54, [.val (.ref 3), .val (.ref 2), .val (.ref 2)], []), [.inl (.object "java/lang/Long", A), .inr (1, []), .inr (0, [(0, .long a1), (1, .long a2), (2, .long a3)]), .inr (0, [(0, .long b1), (1, .long b2), (2, .long b3)])], 0, 0)
      refine EW.run 1 (cf' := ((55, [.val (.ref 3), .val (.ref 2), .val (.ref 2)], [.int (0 : Int32)]), [.inl (.object "java/lang/Long", A), .inr (1, []), .inr (0, [(0, .long a1), (1, .long a2), (2, .long a3)]), .inr (0, [(0, .long b1), (1, .long b2), (2, .long b3)])], 0, 0)) rfl ?_
      exact EW.ret rfl ⟨0, rfl, Or.inr ⟨rfl, by omega⟩⟩
    · have h2 : b2.toInt = a2.toInt := by simp only [cP] at h; omega
      clear h
      show EW _ _ _ _ _ ((38, [.val (.ref 3), .val (.ref 2), .val (.ref 2)], []), [.inl (.object "java/lang/Long", A), .inr (1, []), .inr (0, [(0, .long a1), (1, .long a2), (2, .long a3)]), .inr (0, [(0, .long b1), (1, .long b2), (2, .long b3)])], 0, 0)
      refine EW.run 5 (cf' := ((47, [.val (.ref 3), .val (.ref 2), .val (.ref 2)], [.int (XT.cmpL b3 a3)]), [.inl (.object "java/lang/Long", A), .inr (1, []), .inr (0, [(0, .long a1), (1, .long a2), (2, .long a3)]), .inr (0, [(0, .long b1), (1, .long b2), (2, .long b3)])], 0, 0)) rfl ?_
      refine EW.iflP rfl (by decide) (fun h => ?_) (fun h => ?_)
      · have h3 : b3.toInt ≠ a3.toInt := by simp only [cP] at h; omega
        clear h
        show EW _ _ _ _ _ ((54, [.val (.ref 3), .val (.ref 2), .val (.ref 2)], []), [.inl (.object "java/lang/Long", A), .inr (1, []), .inr (0, [(0, .long a1), (1, .long a2), (2, .long a3)]), .inr (0, [(0, .long b1), (1, .long b2), (2, .long b3)])], 0, 0)
        refine EW.run 1 (cf' := ((55, [.val (.ref 3), .val (.ref 2), .val (.ref 2)], [.int (0 : Int32)]), [.inl (.object "java/lang/Long", A), .inr (1, []), .inr (0, [(0, .long a1), (1, .long a2), (2, .long a3)]), .inr (0, [(0, .long b1), (1, .long b2), (2, .long b3)])], 0, 0)) rfl ?_
        exact EW.ret rfl ⟨0, rfl, Or.inr ⟨rfl, by omega⟩⟩
      · have h3 : b3.toInt = a3.toInt := by simp only [cP] at h; omega
        clear h
        show EW _ _ _ _ _ ((50, [.val (.ref 3), .val (.ref 2), .val (.ref 2)], []), [.inl (.object "java/lang/Long", A), .inr (1, []), .inr (0, [(0, .long a1), (1, .long a2), (2, .long a3)]), .inr (0, [(0, .long b1), (1, .long b2), (2, .long b3)])], 0, 0)
        refine EW.run 2 (cf' := ((55, [.val (.ref 3), .val (.ref 2), .val (.ref 2)], [.int (1 : Int32)]), [.inl (.object "java/lang/Long", A), .inr (1, []), .inr (0, [(0, .long a1), (1, .long a2), (2, .long a3)]), .inr (0, [(0, .long b1), (1, .long b2), (2, .long b3)])], 0, 0)) rfl ?_
        exact EW.ret rfl ⟨1, rfl, Or.inl ⟨rfl, by omega⟩⟩
theorem weq_22 (fr lo : Nat) (A : List Value) (a1 a2 a3 b1 b2 b3 : Int64) : EW gG fr lo m1 (fun r => ∃ z : Int32, r = (some (.int z), [.inl (.object "java/lang/Long", A), .inr (1, []), .inr (0, [(0, .long a1), (1, .long a2), (2, .long a3)]), .inr (0, [(0, .long b1), (1, .long b2), (2, .long b3)])], 0, 0) ∧ ((z = 1 ∧ (a1.toInt = a1.toInt ∧ a2.toInt = a2.toInt ∧ a3.toInt = a3.toInt)) ∨ (z = 0 ∧ ¬ (a1.toInt = a1.toInt ∧ a2.toInt = a2.toInt ∧ a3.toInt = a3.toInt)))) ((0, entL [.ref 2, .ref 2] 3, []), [.inl (.object "java/lang/Long", A), .inr (1, []), .inr (0, [(0, .long a1), (1, .long a2), (2, .long a3)]), .inr (0, [(0, .long b1), (1, .long b2), (2, .long b3)])], 0, 0) := by
  show EW _ _ _ _ _ ((0, [.val (.ref 2), .val (.ref 2), .unset], []), [.inl (.object "java/lang/Long", A), .inr (1, []), .inr (0, [(0, .long a1), (1, .long a2), (2, .long a3)]), .inr (0, [(0, .long b1), (1, .long b2), (2, .long b3)])], 0, 0)
  refine EW.run 6 (cf' := ((14, [.val (.ref 2), .val (.ref 2), .val (.ref 2)], []), [.inl (.object "java/lang/Long", A), .inr (1, []), .inr (0, [(0, .long a1), (1, .long a2), (2, .long a3)]), .inr (0, [(0, .long b1), (1, .long b2), (2, .long b3)])], 0, 0)) rfl ?_
  refine EW.run 5 (cf' := ((23, [.val (.ref 2), .val (.ref 2), .val (.ref 2)], [.int (XT.cmpL a1 a1)]), [.inl (.object "java/lang/Long", A), .inr (1, []), .inr (0, [(0, .long a1), (1, .long a2), (2, .long a3)]), .inr (0, [(0, .long b1), (1, .long b2), (2, .long b3)])], 0, 0)) rfl ?_
  refine EW.iflP rfl (by decide) (fun h => ?_) (fun h => ?_)
  · have h1 : a1.toInt ≠ a1.toInt := by simp only [cP] at h; omega
    clear h
    show EW _ _ _ _ _ ((54, [.val (.ref 2), .val (.ref 2), .val (.ref 2)], []), [.inl (.object "java/lang/Long", A), .inr (1, []), .inr (0, [(0, .long a1), (1, .long a2), (2, .long a3)]), .inr (0, [(0, .long b1), (1, .long b2), (2, .long b3)])], 0, 0)
    refine EW.run 1 (cf' := ((55, [.val (.ref 2), .val (.ref 2), .val (.ref 2)], [.int (0 : Int32)]), [.inl (.object "java/lang/Long", A), .inr (1, []), .inr (0, [(0, .long a1), (1, .long a2), (2, .long a3)]), .inr (0, [(0, .long b1), (1, .long b2), (2, .long b3)])], 0, 0)) rfl ?_
    exact EW.ret rfl ⟨0, rfl, Or.inr ⟨rfl, by omega⟩⟩
  · have h1 : a1.toInt = a1.toInt := by simp only [cP] at h; omega
    clear h
    show EW _ _ _ _ _ ((26, [.val (.ref 2), .val (.ref 2), .val (.ref 2)], []), [.inl (.object "java/lang/Long", A), .inr (1, []), .inr (0, [(0, .long a1), (1, .long a2), (2, .long a3)]), .inr (0, [(0, .long b1), (1, .long b2), (2, .long b3)])], 0, 0)
    refine EW.run 5 (cf' := ((35, [.val (.ref 2), .val (.ref 2), .val (.ref 2)], [.int (XT.cmpL a2 a2)]), [.inl (.object "java/lang/Long", A), .inr (1, []), .inr (0, [(0, .long a1), (1, .long a2), (2, .long a3)]), .inr (0, [(0, .long b1), (1, .long b2), (2, .long b3)])], 0, 0)) rfl ?_
    refine EW.iflP rfl (by decide) (fun h => ?_) (fun h => ?_)
    · have h2 : a2.toInt ≠ a2.toInt := by simp only [cP] at h; omega
      clear h
      show EW _ _ _ _ _ ((54, [.val (.ref 2), .val (.ref 2), .val (.ref 2)], []), [.inl (.object "java/lang/Long", A), .inr (1, []), .inr (0, [(0, .long a1), (1, .long a2), (2, .long a3)]), .inr (0, [(0, .long b1), (1, .long b2), (2, .long b3)])], 0, 0)
      refine EW.run 1 (cf' := ((55, [.val (.ref 2), .val (.ref 2), .val (.ref 2)], [.int (0 : Int32)]), [.inl (.object "java/lang/Long", A), .inr (1, []), .inr (0, [(0, .long a1), (1, .long a2), (2, .long a3)]), .inr (0, [(0, .long b1), (1, .long b2), (2, .long b3)])], 0, 0)) rfl ?_
      exact EW.ret rfl ⟨0, rfl, Or.inr ⟨rfl, by omega⟩⟩
    · have h2 : a2.toInt = a2.toInt := by simp only [cP] at h; omega
      clear h
      show EW _ _ _ _ _ ((38, [.val (.ref 2), .val (.ref 2), .val (.ref 2)], []), [.inl (.object "java/lang/Long", A), .inr (1, []), .inr (0, [(0, .long a1), (1, .long a2), (2, .long a3)]), .inr (0, [(0, .long b1), (1, .long b2), (2, .long b3)])], 0, 0)
      refine EW.run 5 (cf' := ((47, [.val (.ref 2), .val (.ref 2), .val (.ref 2)], [.int (XT.cmpL a3 a3)]), [.inl (.object "java/lang/Long", A), .inr (1, []), .inr (0, [(0, .long a1), (1, .long a2), (2, .long a3)]), .inr (0, [(0, .long b1), (1, .long b2), (2, .long b3)])], 0, 0)) rfl ?_
      refine EW.iflP rfl (by decide) (fun h => ?_) (fun h => ?_)
      · have h3 : a3.toInt ≠ a3.toInt := by simp only [cP] at h; omega
        clear h
        show EW _ _ _ _ _ ((54, [.val (.ref 2), .val (.ref 2), .val (.ref 2)], []), [.inl (.object "java/lang/Long", A), .inr (1, []), .inr (0, [(0, .long a1), (1, .long a2), (2, .long a3)]), .inr (0, [(0, .long b1), (1, .long b2), (2, .long b3)])], 0, 0)
        refine EW.run 1 (cf' := ((55, [.val (.ref 2), .val (.ref 2), .val (.ref 2)], [.int (0 : Int32)]), [.inl (.object "java/lang/Long", A), .inr (1, []), .inr (0, [(0, .long a1), (1, .long a2), (2, .long a3)]), .inr (0, [(0, .long b1), (1, .long b2), (2, .long b3)])], 0, 0)) rfl ?_
        exact EW.ret rfl ⟨0, rfl, Or.inr ⟨rfl, by omega⟩⟩
      · have h3 : a3.toInt = a3.toInt := by simp only [cP] at h; omega
        clear h
        show EW _ _ _ _ _ ((50, [.val (.ref 2), .val (.ref 2), .val (.ref 2)], []), [.inl (.object "java/lang/Long", A), .inr (1, []), .inr (0, [(0, .long a1), (1, .long a2), (2, .long a3)]), .inr (0, [(0, .long b1), (1, .long b2), (2, .long b3)])], 0, 0)
        refine EW.run 2 (cf' := ((55, [.val (.ref 2), .val (.ref 2), .val (.ref 2)], [.int (1 : Int32)]), [.inl (.object "java/lang/Long", A), .inr (1, []), .inr (0, [(0, .long a1), (1, .long a2), (2, .long a3)]), .inr (0, [(0, .long b1), (1, .long b2), (2, .long b3)])], 0, 0)) rfl ?_
        exact EW.ret rfl ⟨1, rfl, Or.inl ⟨rfl, by omega⟩⟩
set_option maxHeartbeats 4000000 in
theorem wval (A : List Value) (a1 a2 a3 b1 b2 b3 id : Int64) (hin : -128 ≤ id.toInt → id.toInt ≤ 127 → (¬ (id.toInt32 + 128) < 0 ∧ A[(id.toInt32 + 128).toNatClampNeg]? = some (.ref 1))) : EW gG 6 145 m2 (fun r => r = (some (.ref 1), [.inl (.object "java/lang/Long", A), .inr (1, []), .inr (0, [(0, .long a1), (1, .long a2), (2, .long a3)]), .inr (0, [(0, .long b1), (1, .long b2), (2, .long b3)])], 0, 0) ∨ r = (some (.ref 4), [.inl (.object "java/lang/Long", A), .inr (1, []), .inr (0, [(0, .long a1), (1, .long a2), (2, .long a3)]), .inr (0, [(0, .long b1), (1, .long b2), (2, .long b3)]), .inr (1, [(4, .long id)])], 1, 1)) ((0, entL [.long id] 3, []), [.inl (.object "java/lang/Long", A), .inr (1, []), .inr (0, [(0, .long a1), (1, .long a2), (2, .long a3)]), .inr (0, [(0, .long b1), (1, .long b2), (2, .long b3)])], 0, 0) := by
  have l1 : (-128 : Int64).toInt = -128 := by decide
  have l2 : (127 : Int64).toInt = 127 := by decide
  show EW _ _ _ _ _ ((0, [.val (.long id), .second, .unset], []), [.inl (.object "java/lang/Long", A), .inr (1, []), .inr (0, [(0, .long a1), (1, .long a2), (2, .long a3)]), .inr (0, [(0, .long b1), (1, .long b2), (2, .long b3)])], 0, 0)
  refine EW.run 5 (cf' := ((9, [.val (.long id), .second, .val (.int (128 : Int32))], [.int (XT.cmpL id (-128 : Int64))]), [.inl (.object "java/lang/Long", A), .inr (1, []), .inr (0, [(0, .long a1), (1, .long a2), (2, .long a3)]), .inr (0, [(0, .long b1), (1, .long b2), (2, .long b3)])], 0, 0)) rfl ?_
  refine EW.iflP rfl (by decide) (fun h => ?_) (fun h => ?_)
  · have h1 : id.toInt < (-128 : Int64).toInt := by simp only [cP] at h; omega
    clear h
    show EW _ _ _ _ _ ((31, [.val (.long id), .second, .val (.int (128 : Int32))], []), [.inl (.object "java/lang/Long", A), .inr (1, []), .inr (0, [(0, .long a1), (1, .long a2), (2, .long a3)]), .inr (0, [(0, .long b1), (1, .long b2), (2, .long b3)])], 0, 0)
    refine EW.run 3 (cf' := ((36, [.val (.long id), .second, .val (.int (128 : Int32))], [.long id, .ref 4, .ref 4]), [.inl (.object "java/lang/Long", A), .inr (1, []), .inr (0, [(0, .long a1), (1, .long a2), (2, .long a3)]), .inr (0, [(0, .long b1), (1, .long b2), (2, .long b3)]), .inr (1, [(4, .long (0 : Int64))])], 1, 1)) rfl ?_
    refine EW.call (Qc := fun r => r = (none, [.inl (.object "java/lang/Long", A), .inr (1, []), .inr (0, [(0, .long a1), (1, .long a2), (2, .long a3)]), .inr (0, [(0, .long b1), (1, .long b2), (2, .long b3)]), .inr (1, [(4, .long id)])], 0, 0)) rfl ?_ ?_
    · show EW _ _ _ _ _ ((0, [.val (.ref 4), .val (.long id), .second], []), [.inl (.object "java/lang/Long", A), .inr (1, []), .inr (0, [(0, .long a1), (1, .long a2), (2, .long a3)]), .inr (0, [(0, .long b1), (1, .long b2), (2, .long b3)]), .inr (1, [(4, .long (0 : Int64))])], 0, 0)
      refine EW.run 1 (cf' := ((1, [.val (.ref 4), .val (.long id), .second], [.ref 4]), [.inl (.object "java/lang/Long", A), .inr (1, []), .inr (0, [(0, .long a1), (1, .long a2), (2, .long a3)]), .inr (0, [(0, .long b1), (1, .long b2), (2, .long b3)]), .inr (1, [(4, .long (0 : Int64))])], 0, 0)) rfl ?_
      refine EW.call (Qc := fun r => r = (none, [.inl (.object "java/lang/Long", A), .inr (1, []), .inr (0, [(0, .long a1), (1, .long a2), (2, .long a3)]), .inr (0, [(0, .long b1), (1, .long b2), (2, .long b3)]), .inr (1, [(4, .long (0 : Int64))])], 0, 0)) rfl ?_ ?_
      · show EW _ _ _ _ _ ((0, [.val (.ref 4)], []), [.inl (.object "java/lang/Long", A), .inr (1, []), .inr (0, [(0, .long a1), (1, .long a2), (2, .long a3)]), .inr (0, [(0, .long b1), (1, .long b2), (2, .long b3)]), .inr (1, [(4, .long (0 : Int64))])], 0, 0)
        refine EW.run 2 (cf' := ((4, [.val (.ref 4)], []), [.inl (.object "java/lang/Long", A), .inr (1, []), .inr (0, [(0, .long a1), (1, .long a2), (2, .long a3)]), .inr (0, [(0, .long b1), (1, .long b2), (2, .long b3)]), .inr (1, [(4, .long (0 : Int64))])], 0, 0)) rfl ?_
        exact EW.ret rfl rfl
      rintro _ _ _ _ ⟨⟩
      show EW _ _ _ _ _ ((4, [.val (.ref 4), .val (.long id), .second], []), [.inl (.object "java/lang/Long", A), .inr (1, []), .inr (0, [(0, .long a1), (1, .long a2), (2, .long a3)]), .inr (0, [(0, .long b1), (1, .long b2), (2, .long b3)]), .inr (1, [(4, .long (0 : Int64))])], 0, 0)
      refine EW.run 3 (cf' := ((9, [.val (.ref 4), .val (.long id), .second], []), [.inl (.object "java/lang/Long", A), .inr (1, []), .inr (0, [(0, .long a1), (1, .long a2), (2, .long a3)]), .inr (0, [(0, .long b1), (1, .long b2), (2, .long b3)]), .inr (1, [(4, .long id)])], 0, 0)) rfl ?_
      exact EW.ret rfl rfl
    rintro _ _ _ _ ⟨⟩
    show EW _ _ _ _ _ ((39, [.val (.long id), .second, .val (.int (128 : Int32))], [.ref 4]), [.inl (.object "java/lang/Long", A), .inr (1, []), .inr (0, [(0, .long a1), (1, .long a2), (2, .long a3)]), .inr (0, [(0, .long b1), (1, .long b2), (2, .long b3)]), .inr (1, [(4, .long id)])], 1, 1)
    exact EW.ret rfl (Or.inr rfl)
  · have h1 : id.toInt ≥ (-128 : Int64).toInt := by simp only [cP] at h; omega
    clear h
    show EW _ _ _ _ _ ((12, [.val (.long id), .second, .val (.int (128 : Int32))], []), [.inl (.object "java/lang/Long", A), .inr (1, []), .inr (0, [(0, .long a1), (1, .long a2), (2, .long a3)]), .inr (0, [(0, .long b1), (1, .long b2), (2, .long b3)])], 0, 0)
    refine EW.run 3 (cf' := ((17, [.val (.long id), .second, .val (.int (128 : Int32))], [.int (XT.cmpL id (127 : Int64))]), [.inl (.object "java/lang/Long", A), .inr (1, []), .inr (0, [(0, .long a1), (1, .long a2), (2, .long a3)]), .inr (0, [(0, .long b1), (1, .long b2), (2, .long b3)])], 0, 0)) rfl ?_
    refine EW.iflP rfl (by decide) (fun h => ?_) (fun h => ?_)
    · have h2 : id.toInt > (127 : Int64).toInt := by simp only [cP] at h; omega
      clear h
      show EW _ _ _ _ _ ((31, [.val (.long id), .second, .val (.int (128 : Int32))], []), [.inl (.object "java/lang/Long", A), .inr (1, []), .inr (0, [(0, .long a1), (1, .long a2), (2, .long a3)]), .inr (0, [(0, .long b1), (1, .long b2), (2, .long b3)])], 0, 0)
      refine EW.run 3 (cf' := ((36, [.val (.long id), .second, .val (.int (128 : Int32))], [.long id, .ref 4, .ref 4]), [.inl (.object "java/lang/Long", A), .inr (1, []), .inr (0, [(0, .long a1), (1, .long a2), (2, .long a3)]), .inr (0, [(0, .long b1), (1, .long b2), (2, .long b3)]), .inr (1, [(4, .long (0 : Int64))])], 1, 1)) rfl ?_
      refine EW.call (Qc := fun r => r = (none, [.inl (.object "java/lang/Long", A), .inr (1, []), .inr (0, [(0, .long a1), (1, .long a2), (2, .long a3)]), .inr (0, [(0, .long b1), (1, .long b2), (2, .long b3)]), .inr (1, [(4, .long id)])], 0, 0)) rfl ?_ ?_
      · show EW _ _ _ _ _ ((0, [.val (.ref 4), .val (.long id), .second], []), [.inl (.object "java/lang/Long", A), .inr (1, []), .inr (0, [(0, .long a1), (1, .long a2), (2, .long a3)]), .inr (0, [(0, .long b1), (1, .long b2), (2, .long b3)]), .inr (1, [(4, .long (0 : Int64))])], 0, 0)
        refine EW.run 1 (cf' := ((1, [.val (.ref 4), .val (.long id), .second], [.ref 4]), [.inl (.object "java/lang/Long", A), .inr (1, []), .inr (0, [(0, .long a1), (1, .long a2), (2, .long a3)]), .inr (0, [(0, .long b1), (1, .long b2), (2, .long b3)]), .inr (1, [(4, .long (0 : Int64))])], 0, 0)) rfl ?_
        refine EW.call (Qc := fun r => r = (none, [.inl (.object "java/lang/Long", A), .inr (1, []), .inr (0, [(0, .long a1), (1, .long a2), (2, .long a3)]), .inr (0, [(0, .long b1), (1, .long b2), (2, .long b3)]), .inr (1, [(4, .long (0 : Int64))])], 0, 0)) rfl ?_ ?_
        · show EW _ _ _ _ _ ((0, [.val (.ref 4)], []), [.inl (.object "java/lang/Long", A), .inr (1, []), .inr (0, [(0, .long a1), (1, .long a2), (2, .long a3)]), .inr (0, [(0, .long b1), (1, .long b2), (2, .long b3)]), .inr (1, [(4, .long (0 : Int64))])], 0, 0)
          refine EW.run 2 (cf' := ((4, [.val (.ref 4)], []), [.inl (.object "java/lang/Long", A), .inr (1, []), .inr (0, [(0, .long a1), (1, .long a2), (2, .long a3)]), .inr (0, [(0, .long b1), (1, .long b2), (2, .long b3)]), .inr (1, [(4, .long (0 : Int64))])], 0, 0)) rfl ?_
          exact EW.ret rfl rfl
        rintro _ _ _ _ ⟨⟩
        show EW _ _ _ _ _ ((4, [.val (.ref 4), .val (.long id), .second], []), [.inl (.object "java/lang/Long", A), .inr (1, []), .inr (0, [(0, .long a1), (1, .long a2), (2, .long a3)]), .inr (0, [(0, .long b1), (1, .long b2), (2, .long b3)]), .inr (1, [(4, .long (0 : Int64))])], 0, 0)
        refine EW.run 3 (cf' := ((9, [.val (.ref 4), .val (.long id), .second], []), [.inl (.object "java/lang/Long", A), .inr (1, []), .inr (0, [(0, .long a1), (1, .long a2), (2, .long a3)]), .inr (0, [(0, .long b1), (1, .long b2), (2, .long b3)]), .inr (1, [(4, .long id)])], 0, 0)) rfl ?_
        exact EW.ret rfl rfl
      rintro _ _ _ _ ⟨⟩
      show EW _ _ _ _ _ ((39, [.val (.long id), .second, .val (.int (128 : Int32))], [.ref 4]), [.inl (.object "java/lang/Long", A), .inr (1, []), .inr (0, [(0, .long a1), (1, .long a2), (2, .long a3)]), .inr (0, [(0, .long b1), (1, .long b2), (2, .long b3)]), .inr (1, [(4, .long id)])], 1, 1)
      exact EW.ret rfl (Or.inr rfl)
    · have h2 : id.toInt ≤ (127 : Int64).toInt := by simp only [cP] at h; omega
      clear h
      show EW _ _ _ _ _ ((20, [.val (.long id), .second, .val (.int (128 : Int32))], []), [.inl (.object "java/lang/Long", A), .inr (1, []), .inr (0, [(0, .long a1), (1, .long a2), (2, .long a3)]), .inr (0, [(0, .long b1), (1, .long b2), (2, .long b3)])], 0, 0)
      refine EW.run 5 (cf' := ((29, [.val (.long id), .second, .val (.int (128 : Int32))], [.int (id.toInt32 + (128 : Int32)), .ref 0]), [.inl (.object "java/lang/Long", A), .inr (1, []), .inr (0, [(0, .long a1), (1, .long a2), (2, .long a3)]), .inr (0, [(0, .long b1), (1, .long b2), (2, .long b3)])], 0, 0)) rfl ?_
      refine EW.aald (ty := .object "java/lang/Long") (vs := A) (v := .ref 1) rfl rfl rfl (hin (by omega) (by omega)).1 (hin (by omega) (by omega)).2 rfl ?_
      show EW _ _ _ _ _ ((30, [.val (.long id), .second, .val (.int (128 : Int32))], [.ref 1]), [.inl (.object "java/lang/Long", A), .inr (1, []), .inr (0, [(0, .long a1), (1, .long a2), (2, .long a3)]), .inr (0, [(0, .long b1), (1, .long b2), (2, .long b3)])], 0, 0)
      exact EW.ret rfl (Or.inl rfl)
set_option maxHeartbeats 8000000 in
theorem own_c0 (A : List Value) (id gs len d e : Int64) (sel : Int32) (hin : -128 ≤ id.toInt → id.toInt ≤ 127 → (¬ (id.toInt32 + 128) < 0 ∧ A[(id.toInt32 + 128).toNatClampNeg]? = some (.ref 1))) : EW gG 7 160 mL (fun r => r.1 = some (.int 1) ∧ r.2.2.1 ≤ 16 ∧ r.2.2.2 ≤ 128) ((105, [.val (.long id), .second, .val (.long gs), .second, .val (.long len), .second, .val (.long d), .second, .val (.long e), .second, .val (.int sel), .val (.long (len &&& (9223372036854775807 : Int64))), .second, .val (.int (0 : Int32)), .val (.int (0 : Int32)), .val (.int (0 : Int32)), .val (.long id), .second, .val (.long gs), .second, .val (.long (d &&& (9223372036854775807 : Int64))), .second, .val (.long (len &&& (9223372036854775807 : Int64))), .second, .unset, .unset, .unset, .unset], []), [.inl (.object "java/lang/Long", A), .inr (1, [])], 0, 0) := by
  have lz : (0 : Int64).toInt = 0 := by decide
  refine EW.run 5 (cf' := ((113, [.val (.long id), .second, .val (.long gs), .second, .val (.long len), .second, .val (.long d), .second, .val (.long e), .second, .val (.int sel), .val (.long (len &&& (9223372036854775807 : Int64))), .second, .val (.int (0 : Int32)), .val (.int (0 : Int32)), .val (.int (0 : Int32)), .val (.long id), .second, .val (.long gs), .second, .val (.long (d &&& (9223372036854775807 : Int64))), .second, .val (.long (len &&& (9223372036854775807 : Int64))), .second, .unset, .unset, .unset, .unset], [.long (len &&& (9223372036854775807 : Int64)), .long gs, .long id, .ref 2, .ref 2]), [.inl (.object "java/lang/Long", A), .inr (1, []), .inr (0, [(0, .long (0 : Int64)), (1, .long (0 : Int64)), (2, .long (0 : Int64))])], 1, 3)) rfl ?_
  refine EW.call (Qc := fun r => r = (none, [.inl (.object "java/lang/Long", A), .inr (1, []), .inr (0, [(0, .long id), (1, .long gs), (2, .long (len &&& (9223372036854775807 : Int64)))])], 0, 0)) rfl ?_ ?_
  · show EW _ _ _ _ _ ((0, [.val (.ref 2), .val (.long id), .second, .val (.long gs), .second, .val (.long (len &&& (9223372036854775807 : Int64))), .second], []), [.inl (.object "java/lang/Long", A), .inr (1, []), .inr (0, [(0, .long (0 : Int64)), (1, .long (0 : Int64)), (2, .long (0 : Int64))])], 0, 0)
    refine EW.run 5 (cf' := ((8, [.val (.ref 2), .val (.long id), .second, .val (.long gs), .second, .val (.long (len &&& (9223372036854775807 : Int64))), .second], [.int (XT.cmpL (len &&& (9223372036854775807 : Int64)) (0 : Int64))]), [.inl (.object "java/lang/Long", A), .inr (1, []), .inr (0, [(0, .long (0 : Int64)), (1, .long (0 : Int64)), (2, .long (0 : Int64))])], 0, 0)) rfl ?_
    refine EW.iflP rfl (by decide) (fun h => ?_) (fun h => ?_)
    · have h1 : (len &&& (9223372036854775807 : Int64)).toInt ≥ (0 : Int64).toInt := by simp only [cP] at h; omega
      clear h
      show EW _ _ _ _ _ ((27, [.val (.ref 2), .val (.long id), .second, .val (.long gs), .second, .val (.long (len &&& (9223372036854775807 : Int64))), .second], []), [.inl (.object "java/lang/Long", A), .inr (1, []), .inr (0, [(0, .long (0 : Int64)), (1, .long (0 : Int64)), (2, .long (0 : Int64))])], 0, 0)
      refine EW.run 6 (cf' := ((37, [.val (.ref 2), .val (.long id), .second, .val (.long gs), .second, .val (.long (len &&& (9223372036854775807 : Int64))), .second], []), [.inl (.object "java/lang/Long", A), .inr (1, []), .inr (0, [(0, .long id), (1, .long gs), (2, .long (0 : Int64))])], 0, 0)) rfl ?_
      refine EW.run 3 (cf' := ((43, [.val (.ref 2), .val (.long id), .second, .val (.long gs), .second, .val (.long (len &&& (9223372036854775807 : Int64))), .second], []), [.inl (.object "java/lang/Long", A), .inr (1, []), .inr (0, [(0, .long id), (1, .long gs), (2, .long (len &&& (9223372036854775807 : Int64)))])], 0, 0)) rfl ?_
      exact EW.ret rfl rfl
    · exfalso
      simp only [cP] at h
      have := rng64 (len &&& (9223372036854775807 : Int64))
      have := rng64 len
      have lt0 : (9223372036854775807 : Int64).toInt = 9223372036854775807 := by decide
      have : (len &&& (9223372036854775807 : Int64)).toInt = len.toInt % 9223372036854775808 := c_maskL len (9223372036854775807 : Int64) 63 (by decide) (by decide)
      have lt1 : (0 : Int64).toInt = 0 := by decide
      omega
  rintro _ _ _ _ ⟨⟩
  show EW _ _ _ _ _ ((116, [.val (.long id), .second, .val (.long gs), .second, .val (.long len), .second, .val (.long d), .second, .val (.long e), .second, .val (.int sel), .val (.long (len &&& (9223372036854775807 : Int64))), .second, .val (.int (0 : Int32)), .val (.int (0 : Int32)), .val (.int (0 : Int32)), .val (.long id), .second, .val (.long gs), .second, .val (.long (d &&& (9223372036854775807 : Int64))), .second, .val (.long (len &&& (9223372036854775807 : Int64))), .second, .unset, .unset, .unset, .unset], [.ref 2]), [.inl (.object "java/lang/Long", A), .inr (1, []), .inr (0, [(0, .long id), (1, .long gs), (2, .long (len &&& (9223372036854775807 : Int64)))])], 1, 3)
  refine EW.run 6 (cf' := ((128, [.val (.long id), .second, .val (.long gs), .second, .val (.long len), .second, .val (.long d), .second, .val (.long e), .second, .val (.int sel), .val (.long (len &&& (9223372036854775807 : Int64))), .second, .val (.int (0 : Int32)), .val (.int (0 : Int32)), .val (.int (0 : Int32)), .val (.long id), .second, .val (.long gs), .second, .val (.long (d &&& (9223372036854775807 : Int64))), .second, .val (.long (len &&& (9223372036854775807 : Int64))), .second, .val (.ref 2), .unset, .unset, .unset], [.long (len &&& (9223372036854775807 : Int64)), .long gs, .long id, .ref 3, .ref 3]), [.inl (.object "java/lang/Long", A), .inr (1, []), .inr (0, [(0, .long id), (1, .long gs), (2, .long (len &&& (9223372036854775807 : Int64)))]), .inr (0, [(0, .long (0 : Int64)), (1, .long (0 : Int64)), (2, .long (0 : Int64))])], 2, 6)) rfl ?_
  refine EW.call (Qc := fun r => r = (none, [.inl (.object "java/lang/Long", A), .inr (1, []), .inr (0, [(0, .long id), (1, .long gs), (2, .long (len &&& (9223372036854775807 : Int64)))]), .inr (0, [(0, .long id), (1, .long gs), (2, .long (len &&& (9223372036854775807 : Int64)))])], 0, 0)) rfl ?_ ?_
  · show EW _ _ _ _ _ ((0, [.val (.ref 3), .val (.long id), .second, .val (.long gs), .second, .val (.long (len &&& (9223372036854775807 : Int64))), .second], []), [.inl (.object "java/lang/Long", A), .inr (1, []), .inr (0, [(0, .long id), (1, .long gs), (2, .long (len &&& (9223372036854775807 : Int64)))]), .inr (0, [(0, .long (0 : Int64)), (1, .long (0 : Int64)), (2, .long (0 : Int64))])], 0, 0)
    refine EW.run 5 (cf' := ((8, [.val (.ref 3), .val (.long id), .second, .val (.long gs), .second, .val (.long (len &&& (9223372036854775807 : Int64))), .second], [.int (XT.cmpL (len &&& (9223372036854775807 : Int64)) (0 : Int64))]), [.inl (.object "java/lang/Long", A), .inr (1, []), .inr (0, [(0, .long id), (1, .long gs), (2, .long (len &&& (9223372036854775807 : Int64)))]), .inr (0, [(0, .long (0 : Int64)), (1, .long (0 : Int64)), (2, .long (0 : Int64))])], 0, 0)) rfl ?_
    refine EW.iflP rfl (by decide) (fun h => ?_) (fun h => ?_)
    · have h1 : (len &&& (9223372036854775807 : Int64)).toInt ≥ (0 : Int64).toInt := by simp only [cP] at h; omega
      clear h
      show EW _ _ _ _ _ ((27, [.val (.ref 3), .val (.long id), .second, .val (.long gs), .second, .val (.long (len &&& (9223372036854775807 : Int64))), .second], []), [.inl (.object "java/lang/Long", A), .inr (1, []), .inr (0, [(0, .long id), (1, .long gs), (2, .long (len &&& (9223372036854775807 : Int64)))]), .inr (0, [(0, .long (0 : Int64)), (1, .long (0 : Int64)), (2, .long (0 : Int64))])], 0, 0)
      refine EW.run 6 (cf' := ((37, [.val (.ref 3), .val (.long id), .second, .val (.long gs), .second, .val (.long (len &&& (9223372036854775807 : Int64))), .second], []), [.inl (.object "java/lang/Long", A), .inr (1, []), .inr (0, [(0, .long id), (1, .long gs), (2, .long (len &&& (9223372036854775807 : Int64)))]), .inr (0, [(0, .long id), (1, .long gs), (2, .long (0 : Int64))])], 0, 0)) rfl ?_
      refine EW.run 3 (cf' := ((43, [.val (.ref 3), .val (.long id), .second, .val (.long gs), .second, .val (.long (len &&& (9223372036854775807 : Int64))), .second], []), [.inl (.object "java/lang/Long", A), .inr (1, []), .inr (0, [(0, .long id), (1, .long gs), (2, .long (len &&& (9223372036854775807 : Int64)))]), .inr (0, [(0, .long id), (1, .long gs), (2, .long (len &&& (9223372036854775807 : Int64)))])], 0, 0)) rfl ?_
      exact EW.ret rfl rfl
    · exfalso
      simp only [cP] at h
      have := rng64 (len &&& (9223372036854775807 : Int64))
      have := rng64 len
      have lt0 : (9223372036854775807 : Int64).toInt = 9223372036854775807 := by decide
      have : (len &&& (9223372036854775807 : Int64)).toInt = len.toInt % 9223372036854775808 := c_maskL len (9223372036854775807 : Int64) 63 (by decide) (by decide)
      have lt1 : (0 : Int64).toInt = 0 := by decide
      omega
  rintro _ _ _ _ ⟨⟩
  show EW _ _ _ _ _ ((131, [.val (.long id), .second, .val (.long gs), .second, .val (.long len), .second, .val (.long d), .second, .val (.long e), .second, .val (.int sel), .val (.long (len &&& (9223372036854775807 : Int64))), .second, .val (.int (0 : Int32)), .val (.int (0 : Int32)), .val (.int (0 : Int32)), .val (.long id), .second, .val (.long gs), .second, .val (.long (d &&& (9223372036854775807 : Int64))), .second, .val (.long (len &&& (9223372036854775807 : Int64))), .second, .val (.ref 2), .unset, .unset, .unset], [.ref 3]), [.inl (.object "java/lang/Long", A), .inr (1, []), .inr (0, [(0, .long id), (1, .long gs), (2, .long (len &&& (9223372036854775807 : Int64)))]), .inr (0, [(0, .long id), (1, .long gs), (2, .long (len &&& (9223372036854775807 : Int64)))])], 2, 6)
  refine EW.run 6 (cf' := ((139, [.val (.long id), .second, .val (.long gs), .second, .val (.long len), .second, .val (.long d), .second, .val (.long e), .second, .val (.int sel), .val (.long (len &&& (9223372036854775807 : Int64))), .second, .val (.int (0 : Int32)), .val (.int (0 : Int32)), .val (.int (0 : Int32)), .val (.long id), .second, .val (.long gs), .second, .val (.long (d &&& (9223372036854775807 : Int64))), .second, .val (.long (len &&& (9223372036854775807 : Int64))), .second, .val (.ref 2), .val (.ref 3), .unset, .unset], [.int ((XT.ushr sel (3 : Int32)) &&& (3 : Int32))]), [.inl (.object "java/lang/Long", A), .inr (1, []), .inr (0, [(0, .long id), (1, .long gs), (2, .long (len &&& (9223372036854775807 : Int64)))]), .inr (0, [(0, .long id), (1, .long gs), (2, .long (len &&& (9223372036854775807 : Int64)))])], 2, 6)) rfl ?_
  refine EW.run 3 (cf' := ((144, [.val (.long id), .second, .val (.long gs), .second, .val (.long len), .second, .val (.long d), .second, .val (.long e), .second, .val (.int sel), .val (.long (len &&& (9223372036854775807 : Int64))), .second, .val (.int (0 : Int32)), .val (.int (0 : Int32)), .val (.int (0 : Int32)), .val (.long id), .second, .val (.long gs), .second, .val (.long (d &&& (9223372036854775807 : Int64))), .second, .val (.long (len &&& (9223372036854775807 : Int64))), .second, .val (.ref 2), .val (.ref 3), .val (.int ((XT.ushr sel (3 : Int32)) &&& (3 : Int32))), .unset], [.int (1 : Int32), .int ((XT.ushr sel (3 : Int32)) &&& (3 : Int32))]), [.inl (.object "java/lang/Long", A), .inr (1, []), .inr (0, [(0, .long id), (1, .long gs), (2, .long (len &&& (9223372036854775807 : Int64)))]), .inr (0, [(0, .long id), (1, .long gs), (2, .long (len &&& (9223372036854775807 : Int64)))])], 2, 6)) rfl ?_
  refine EW.icmpP rfl (by decide) (fun h => ?_) (fun h => ?_)
  · have h1 : ((XT.ushr sel (3 : Int32)) &&& (3 : Int32)).toInt ≠ (1 : Int32).toInt := by simp only [cP] at h; omega
    clear h
    show EW _ _ _ _ _ ((165, [.val (.long id), .second, .val (.long gs), .second, .val (.long len), .second, .val (.long d), .second, .val (.long e), .second, .val (.int sel), .val (.long (len &&& (9223372036854775807 : Int64))), .second, .val (.int (0 : Int32)), .val (.int (0 : Int32)), .val (.int (0 : Int32)), .val (.long id), .second, .val (.long gs), .second, .val (.long (d &&& (9223372036854775807 : Int64))), .second, .val (.long (len &&& (9223372036854775807 : Int64))), .second, .val (.ref 2), .val (.ref 3), .val (.int ((XT.ushr sel (3 : Int32)) &&& (3 : Int32))), .unset], []), [.inl (.object "java/lang/Long", A), .inr (1, []), .inr (0, [(0, .long id), (1, .long gs), (2, .long (len &&& (9223372036854775807 : Int64)))]), .inr (0, [(0, .long id), (1, .long gs), (2, .long (len &&& (9223372036854775807 : Int64)))])], 2, 6)
    refine EW.run 2 (cf' := ((168, [.val (.long id), .second, .val (.long gs), .second, .val (.long len), .second, .val (.long d), .second, .val (.long e), .second, .val (.int sel), .val (.long (len &&& (9223372036854775807 : Int64))), .second, .val (.int (0 : Int32)), .val (.int (0 : Int32)), .val (.int (0 : Int32)), .val (.long id), .second, .val (.long gs), .second, .val (.long (d &&& (9223372036854775807 : Int64))), .second, .val (.long (len &&& (9223372036854775807 : Int64))), .second, .val (.ref 2), .val (.ref 3), .val (.int ((XT.ushr sel (3 : Int32)) &&& (3 : Int32))), .unset], [.int (2 : Int32), .int ((XT.ushr sel (3 : Int32)) &&& (3 : Int32))]), [.inl (.object "java/lang/Long", A), .inr (1, []), .inr (0, [(0, .long id), (1, .long gs), (2, .long (len &&& (9223372036854775807 : Int64)))]), .inr (0, [(0, .long id), (1, .long gs), (2, .long (len &&& (9223372036854775807 : Int64)))])], 2, 6)) rfl ?_
    refine EW.icmpP rfl (by decide) (fun h => ?_) (fun h => ?_)
    · have h2 : ((XT.ushr sel (3 : Int32)) &&& (3 : Int32)).toInt ≠ (2 : Int32).toInt := by simp only [cP] at h; omega
      clear h
      show EW _ _ _ _ _ ((186, [.val (.long id), .second, .val (.long gs), .second, .val (.long len), .second, .val (.long d), .second, .val (.long e), .second, .val (.int sel), .val (.long (len &&& (9223372036854775807 : Int64))), .second, .val (.int (0 : Int32)), .val (.int (0 : Int32)), .val (.int (0 : Int32)), .val (.long id), .second, .val (.long gs), .second, .val (.long (d &&& (9223372036854775807 : Int64))), .second, .val (.long (len &&& (9223372036854775807 : Int64))), .second, .val (.ref 2), .val (.ref 3), .val (.int ((XT.ushr sel (3 : Int32)) &&& (3 : Int32))), .unset], []), [.inl (.object "java/lang/Long", A), .inr (1, []), .inr (0, [(0, .long id), (1, .long gs), (2, .long (len &&& (9223372036854775807 : Int64)))]), .inr (0, [(0, .long id), (1, .long gs), (2, .long (len &&& (9223372036854775807 : Int64)))])], 2, 6)
      refine EW.run 2 (cf' := ((189, [.val (.long id), .second, .val (.long gs), .second, .val (.long len), .second, .val (.long d), .second, .val (.long e), .second, .val (.int sel), .val (.long (len &&& (9223372036854775807 : Int64))), .second, .val (.int (0 : Int32)), .val (.int (0 : Int32)), .val (.int (0 : Int32)), .val (.long id), .second, .val (.long gs), .second, .val (.long (d &&& (9223372036854775807 : Int64))), .second, .val (.long (len &&& (9223372036854775807 : Int64))), .second, .val (.ref 2), .val (.ref 3), .val (.int ((XT.ushr sel (3 : Int32)) &&& (3 : Int32))), .unset], [.int (3 : Int32), .int ((XT.ushr sel (3 : Int32)) &&& (3 : Int32))]), [.inl (.object "java/lang/Long", A), .inr (1, []), .inr (0, [(0, .long id), (1, .long gs), (2, .long (len &&& (9223372036854775807 : Int64)))]), .inr (0, [(0, .long id), (1, .long gs), (2, .long (len &&& (9223372036854775807 : Int64)))])], 2, 6)) rfl ?_
      refine EW.icmpP rfl (by decide) (fun h => ?_) (fun h => ?_)
      · have h3 : ((XT.ushr sel (3 : Int32)) &&& (3 : Int32)).toInt ≠ (3 : Int32).toInt := by simp only [cP] at h; omega
        clear h
        show EW _ _ _ _ _ ((200, [.val (.long id), .second, .val (.long gs), .second, .val (.long len), .second, .val (.long d), .second, .val (.long e), .second, .val (.int sel), .val (.long (len &&& (9223372036854775807 : Int64))), .second, .val (.int (0 : Int32)), .val (.int (0 : Int32)), .val (.int (0 : Int32)), .val (.long id), .second, .val (.long gs), .second, .val (.long (d &&& (9223372036854775807 : Int64))), .second, .val (.long (len &&& (9223372036854775807 : Int64))), .second, .val (.ref 2), .val (.ref 3), .val (.int ((XT.ushr sel (3 : Int32)) &&& (3 : Int32))), .unset], []), [.inl (.object "java/lang/Long", A), .inr (1, []), .inr (0, [(0, .long id), (1, .long gs), (2, .long (len &&& (9223372036854775807 : Int64)))]), .inr (0, [(0, .long id), (1, .long gs), (2, .long (len &&& (9223372036854775807 : Int64)))])], 2, 6)
        refine EW.run 6 (cf' := ((236, [.val (.long id), .second, .val (.long gs), .second, .val (.long len), .second, .val (.long d), .second, .val (.long e), .second, .val (.int sel), .val (.long (len &&& (9223372036854775807 : Int64))), .second, .val (.int (0 : Int32)), .val (.int (0 : Int32)), .val (.int (0 : Int32)), .val (.long id), .second, .val (.long gs), .second, .val (.long (d &&& (9223372036854775807 : Int64))), .second, .val (.long (len &&& (9223372036854775807 : Int64))), .second, .val (.ref 2), .val (.ref 3), .val (.int ((XT.ushr sel (3 : Int32)) &&& (3 : Int32))), .unset], []), [.inl (.object "java/lang/Long", A), .inr (1, []), .inr (0, [(0, .long id), (1, .long gs), (2, .long (len &&& (9223372036854775807 : Int64)))]), .inr (0, [(0, .long id), (1, .long gs), (2, .long (len &&& (9223372036854775807 : Int64)))])], 2, 6)) rfl ?_
        refine EW.run 5 (cf' := ((247, [.val (.long id), .second, .val (.long gs), .second, .val (.long len), .second, .val (.long d), .second, .val (.long e), .second, .val (.int sel), .val (.long (len &&& (9223372036854775807 : Int64))), .second, .val (.int (0 : Int32)), .val (.int (0 : Int32)), .val (.int (0 : Int32)), .val (.long id), .second, .val (.long gs), .second, .val (.long (d &&& (9223372036854775807 : Int64))), .second, .val (.long (len &&& (9223372036854775807 : Int64))), .second, .val (.ref 2), .val (.ref 3), .val (.int ((XT.ushr sel (3 : Int32)) &&& (3 : Int32))), .val (.int (1 : Int32))], [.ref 3, .ref 2]), [.inl (.object "java/lang/Long", A), .inr (1, []), .inr (0, [(0, .long id), (1, .long gs), (2, .long (len &&& (9223372036854775807 : Int64)))]), .inr (0, [(0, .long id), (1, .long gs), (2, .long (len &&& (9223372036854775807 : Int64)))])], 2, 6)) rfl ?_
        refine EW.call rfl (weq_23 _ _ A id gs (len &&& (9223372036854775807 : Int64)) id gs (len &&& (9223372036854775807 : Int64))) ?_
        rintro _ _ _ _ ⟨z, e0, ⟨rfl, hz⟩ | ⟨rfl, hz⟩⟩
        · cases e0; have h4 := hz; clear hz
          show EW _ _ _ _ _ ((250, [.val (.long id), .second, .val (.long gs), .second, .val (.long len), .second, .val (.long d), .second, .val (.long e), .second, .val (.int sel), .val (.long (len &&& (9223372036854775807 : Int64))), .second, .val (.int (0 : Int32)), .val (.int (0 : Int32)), .val (.int (0 : Int32)), .val (.long id), .second, .val (.long gs), .second, .val (.long (d &&& (9223372036854775807 : Int64))), .second, .val (.long (len &&& (9223372036854775807 : Int64))), .second, .val (.ref 2), .val (.ref 3), .val (.int ((XT.ushr sel (3 : Int32)) &&& (3 : Int32))), .val (.int (1 : Int32))], [.int (1 : Int32)]), [.inl (.object "java/lang/Long", A), .inr (1, []), .inr (0, [(0, .long id), (1, .long gs), (2, .long (len &&& (9223372036854775807 : Int64)))]), .inr (0, [(0, .long id), (1, .long gs), (2, .long (len &&& (9223372036854775807 : Int64)))])], 2, 6)
          refine EW.run 4 (cf' := ((259, [.val (.long id), .second, .val (.long gs), .second, .val (.long len), .second, .val (.long d), .second, .val (.long e), .second, .val (.int sel), .val (.long (len &&& (9223372036854775807 : Int64))), .second, .val (.int (0 : Int32)), .val (.int (0 : Int32)), .val (.int (0 : Int32)), .val (.long id), .second, .val (.long gs), .second, .val (.long (d &&& (9223372036854775807 : Int64))), .second, .val (.long (len &&& (9223372036854775807 : Int64))), .second, .val (.ref 2), .val (.ref 3), .val (.int ((XT.ushr sel (3 : Int32)) &&& (3 : Int32))), .val (.int (1 : Int32))], [.ref 2, .ref 3]), [.inl (.object "java/lang/Long", A), .inr (1, []), .inr (0, [(0, .long id), (1, .long gs), (2, .long (len &&& (9223372036854775807 : Int64)))]), .inr (0, [(0, .long id), (1, .long gs), (2, .long (len &&& (9223372036854775807 : Int64)))])], 2, 6)) rfl ?_
          refine EW.call rfl (weq_32 _ _ A id gs (len &&& (9223372036854775807 : Int64)) id gs (len &&& (9223372036854775807 : Int64))) ?_
          rintro _ _ _ _ ⟨z, e0, ⟨rfl, hz⟩ | ⟨rfl, hz⟩⟩
          · cases e0; have h5 := hz; clear hz
            show EW _ _ _ _ _ ((262, [.val (.long id), .second, .val (.long gs), .second, .val (.long len), .second, .val (.long d), .second, .val (.long e), .second, .val (.int sel), .val (.long (len &&& (9223372036854775807 : Int64))), .second, .val (.int (0 : Int32)), .val (.int (0 : Int32)), .val (.int (0 : Int32)), .val (.long id), .second, .val (.long gs), .second, .val (.long (d &&& (9223372036854775807 : Int64))), .second, .val (.long (len &&& (9223372036854775807 : Int64))), .second, .val (.ref 2), .val (.ref 3), .val (.int ((XT.ushr sel (3 : Int32)) &&& (3 : Int32))), .val (.int (1 : Int32))], [.int (1 : Int32)]), [.inl (.object "java/lang/Long", A), .inr (1, []), .inr (0, [(0, .long id), (1, .long gs), (2, .long (len &&& (9223372036854775807 : Int64)))]), .inr (0, [(0, .long id), (1, .long gs), (2, .long (len &&& (9223372036854775807 : Int64)))])], 2, 6)
            refine EW.run 4 (cf' := ((272, [.val (.long id), .second, .val (.long gs), .second, .val (.long len), .second, .val (.long d), .second, .val (.long e), .second, .val (.int sel), .val (.long (len &&& (9223372036854775807 : Int64))), .second, .val (.int (0 : Int32)), .val (.int (0 : Int32)), .val (.int (0 : Int32)), .val (.long id), .second, .val (.long gs), .second, .val (.long (d &&& (9223372036854775807 : Int64))), .second, .val (.long (len &&& (9223372036854775807 : Int64))), .second, .val (.ref 2), .val (.ref 3), .val (.int ((XT.ushr sel (3 : Int32)) &&& (3 : Int32))), .val (.int (1 : Int32))], [.int (1 : Int32)]), [.inl (.object "java/lang/Long", A), .inr (1, []), .inr (0, [(0, .long id), (1, .long gs), (2, .long (len &&& (9223372036854775807 : Int64)))]), .inr (0, [(0, .long id), (1, .long gs), (2, .long (len &&& (9223372036854775807 : Int64)))])], 2, 6)) rfl ?_
            exact EW.ret rfl ⟨rfl, Nat.le_of_ble_eq_true rfl, Nat.le_of_ble_eq_true rfl⟩
          · cases e0; have h5 := hz; clear hz
            show EW _ _ _ _ _ ((262, [.val (.long id), .second, .val (.long gs), .second, .val (.long len), .second, .val (.long d), .second, .val (.long e), .second, .val (.int sel), .val (.long (len &&& (9223372036854775807 : Int64))), .second, .val (.int (0 : Int32)), .val (.int (0 : Int32)), .val (.int (0 : Int32)), .val (.long id), .second, .val (.long gs), .second, .val (.long (d &&& (9223372036854775807 : Int64))), .second, .val (.long (len &&& (9223372036854775807 : Int64))), .second, .val (.ref 2), .val (.ref 3), .val (.int ((XT.ushr sel (3 : Int32)) &&& (3 : Int32))), .val (.int (1 : Int32))], [.int (0 : Int32)]), [.inl (.object "java/lang/Long", A), .inr (1, []), .inr (0, [(0, .long id), (1, .long gs), (2, .long (len &&& (9223372036854775807 : Int64)))]), .inr (0, [(0, .long id), (1, .long gs), (2, .long (len &&& (9223372036854775807 : Int64)))])], 2, 6)
            refine EW.run 3 (cf' := ((272, [.val (.long id), .second, .val (.long gs), .second, .val (.long len), .second, .val (.long d), .second, .val (.long e), .second, .val (.int sel), .val (.long (len &&& (9223372036854775807 : Int64))), .second, .val (.int (0 : Int32)), .val (.int (0 : Int32)), .val (.int (0 : Int32)), .val (.long id), .second, .val (.long gs), .second, .val (.long (d &&& (9223372036854775807 : Int64))), .second, .val (.long (len &&& (9223372036854775807 : Int64))), .second, .val (.ref 2), .val (.ref 3), .val (.int ((XT.ushr sel (3 : Int32)) &&& (3 : Int32))), .val (.int (1 : Int32))], [.int (0 : Int32)]), [.inl (.object "java/lang/Long", A), .inr (1, []), .inr (0, [(0, .long id), (1, .long gs), (2, .long (len &&& (9223372036854775807 : Int64)))]), .inr (0, [(0, .long id), (1, .long gs), (2, .long (len &&& (9223372036854775807 : Int64)))])], 2, 6)) rfl ?_
            exfalso
            have := rng32 ((XT.ushr sel (3 : Int32)) &&& (3 : Int32))
            have := rng32 (XT.ushr sel (3 : Int32))
            have := rng32 sel
            have lt0 : (3 : Int32).toInt = 3 := by decide
            have : (XT.ushr sel (3 : Int32)).toInt = (sel.toInt % 4294967296) / 8 := c_iushr sel (3 : Int32) 3 (by decide) (by decide)
            have : ((XT.ushr sel (3 : Int32)) &&& (3 : Int32)).toInt = (XT.ushr sel (3 : Int32)).toInt % 4 := c_mask (XT.ushr sel (3 : Int32)) (3 : Int32) 2 (by decide) (by decide)
            have lt1 : (1 : Int32).toInt = 1 := by decide
            have lt2 : (2 : Int32).toInt = 2 := by decide
            omega
        · cases e0; have h4 := hz; clear hz
          show EW _ _ _ _ _ ((250, [.val (.long id), .second, .val (.long gs), .second, .val (.long len), .second, .val (.long d), .second, .val (.long e), .second, .val (.int sel), .val (.long (len &&& (9223372036854775807 : Int64))), .second, .val (.int (0 : Int32)), .val (.int (0 : Int32)), .val (.int (0 : Int32)), .val (.long id), .second, .val (.long gs), .second, .val (.long (d &&& (9223372036854775807 : Int64))), .second, .val (.long (len &&& (9223372036854775807 : Int64))), .second, .val (.ref 2), .val (.ref 3), .val (.int ((XT.ushr sel (3 : Int32)) &&& (3 : Int32))), .val (.int (1 : Int32))], [.int (0 : Int32)]), [.inl (.object "java/lang/Long", A), .inr (1, []), .inr (0, [(0, .long id), (1, .long gs), (2, .long (len &&& (9223372036854775807 : Int64)))]), .inr (0, [(0, .long id), (1, .long gs), (2, .long (len &&& (9223372036854775807 : Int64)))])], 2, 6)
          refine EW.run 3 (cf' := ((272, [.val (.long id), .second, .val (.long gs), .second, .val (.long len), .second, .val (.long d), .second, .val (.long e), .second, .val (.int sel), .val (.long (len &&& (9223372036854775807 : Int64))), .second, .val (.int (0 : Int32)), .val (.int (0 : Int32)), .val (.int (0 : Int32)), .val (.long id), .second, .val (.long gs), .second, .val (.long (d &&& (9223372036854775807 : Int64))), .second, .val (.long (len &&& (9223372036854775807 : Int64))), .second, .val (.ref 2), .val (.ref 3), .val (.int ((XT.ushr sel (3 : Int32)) &&& (3 : Int32))), .val (.int (1 : Int32))], [.int (0 : Int32)]), [.inl (.object "java/lang/Long", A), .inr (1, []), .inr (0, [(0, .long id), (1, .long gs), (2, .long (len &&& (9223372036854775807 : Int64)))]), .inr (0, [(0, .long id), (1, .long gs), (2, .long (len &&& (9223372036854775807 : Int64)))])], 2, 6)) rfl ?_
          exfalso
          have := rng32 ((XT.ushr sel (3 : Int32)) &&& (3 : Int32))
          have := rng32 (XT.ushr sel (3 : Int32))
          have := rng32 sel
          have lt0 : (3 : Int32).toInt = 3 := by decide
          have : (XT.ushr sel (3 : Int32)).toInt = (sel.toInt % 4294967296) / 8 := c_iushr sel (3 : Int32) 3 (by decide) (by decide)
          have : ((XT.ushr sel (3 : Int32)) &&& (3 : Int32)).toInt = (XT.ushr sel (3 : Int32)).toInt % 4 := c_mask (XT.ushr sel (3 : Int32)) (3 : Int32) 2 (by decide) (by decide)
          have lt1 : (1 : Int32).toInt = 1 := by decide
          have lt2 : (2 : Int32).toInt = 2 := by decide
          omega
      · have h3 : ((XT.ushr sel (3 : Int32)) &&& (3 : Int32)).toInt = (3 : Int32).toInt := by simp only [cP] at h; omega
        clear h
        show EW _ _ _ _ _ ((192, [.val (.long id), .second, .val (.long gs), .second, .val (.long len), .second, .val (.long d), .second, .val (.long e), .second, .val (.int sel), .val (.long (len &&& (9223372036854775807 : Int64))), .second, .val (.int (0 : Int32)), .val (.int (0 : Int32)), .val (.int (0 : Int32)), .val (.long id), .second, .val (.long gs), .second, .val (.long (d &&& (9223372036854775807 : Int64))), .second, .val (.long (len &&& (9223372036854775807 : Int64))), .second, .val (.ref 2), .val (.ref 3), .val (.int ((XT.ushr sel (3 : Int32)) &&& (3 : Int32))), .unset], []), [.inl (.object "java/lang/Long", A), .inr (1, []), .inr (0, [(0, .long id), (1, .long gs), (2, .long (len &&& (9223372036854775807 : Int64)))]), .inr (0, [(0, .long id), (1, .long gs), (2, .long (len &&& (9223372036854775807 : Int64)))])], 2, 6)
        refine EW.run 2 (cf' := ((196, [.val (.long id), .second, .val (.long gs), .second, .val (.long len), .second, .val (.long d), .second, .val (.long e), .second, .val (.int sel), .val (.long (len &&& (9223372036854775807 : Int64))), .second, .val (.int (0 : Int32)), .val (.int (0 : Int32)), .val (.int (0 : Int32)), .val (.long id), .second, .val (.long gs), .second, .val (.long (d &&& (9223372036854775807 : Int64))), .second, .val (.long (len &&& (9223372036854775807 : Int64))), .second, .val (.ref 2), .val (.ref 3), .val (.int ((XT.ushr sel (3 : Int32)) &&& (3 : Int32))), .unset], [.ref 2, .ref 2]), [.inl (.object "java/lang/Long", A), .inr (1, []), .inr (0, [(0, .long id), (1, .long gs), (2, .long (len &&& (9223372036854775807 : Int64)))]), .inr (0, [(0, .long id), (1, .long gs), (2, .long (len &&& (9223372036854775807 : Int64)))])], 2, 6)) rfl ?_
        refine EW.call rfl (weq_22 _ _ A id gs (len &&& (9223372036854775807 : Int64)) id gs (len &&& (9223372036854775807 : Int64))) ?_
        rintro _ _ _ _ ⟨z, e0, ⟨rfl, hz⟩ | ⟨rfl, hz⟩⟩
        · cases e0; have h6 := hz; clear hz
          show EW _ _ _ _ _ ((199, [.val (.long id), .second, .val (.long gs), .second, .val (.long len), .second, .val (.long d), .second, .val (.long e), .second, .val (.int sel), .val (.long (len &&& (9223372036854775807 : Int64))), .second, .val (.int (0 : Int32)), .val (.int (0 : Int32)), .val (.int (0 : Int32)), .val (.long id), .second, .val (.long gs), .second, .val (.long (d &&& (9223372036854775807 : Int64))), .second, .val (.long (len &&& (9223372036854775807 : Int64))), .second, .val (.ref 2), .val (.ref 3), .val (.int ((XT.ushr sel (3 : Int32)) &&& (3 : Int32))), .unset], [.int (1 : Int32)]), [.inl (.object "java/lang/Long", A), .inr (1, []), .inr (0, [(0, .long id), (1, .long gs), (2, .long (len &&& (9223372036854775807 : Int64)))]), .inr (0, [(0, .long id), (1, .long gs), (2, .long (len &&& (9223372036854775807 : Int64)))])], 2, 6)
          exact EW.ret rfl ⟨rfl, Nat.le_of_ble_eq_true rfl, Nat.le_of_ble_eq_true rfl⟩
        · cases e0; have h6 := hz; clear hz
          show EW _ _ _ _ _ ((199, [.val (.long id), .second, .val (.long gs), .second, .val (.long len), .second, .val (.long d), .second, .val (.long e), .second, .val (.int sel), .val (.long (len &&& (9223372036854775807 : Int64))), .second, .val (.int (0 : Int32)), .val (.int (0 : Int32)), .val (.int (0 : Int32)), .val (.long id), .second, .val (.long gs), .second, .val (.long (d &&& (9223372036854775807 : Int64))), .second, .val (.long (len &&& (9223372036854775807 : Int64))), .second, .val (.ref 2), .val (.ref 3), .val (.int ((XT.ushr sel (3 : Int32)) &&& (3 : Int32))), .unset], [.int (0 : Int32)]), [.inl (.object "java/lang/Long", A), .inr (1, []), .inr (0, [(0, .long id), (1, .long gs), (2, .long (len &&& (9223372036854775807 : Int64)))]), .inr (0, [(0, .long id), (1, .long gs), (2, .long (len &&& (9223372036854775807 : Int64)))])], 2, 6)
          exfalso
          have := rng32 ((XT.ushr sel (3 : Int32)) &&& (3 : Int32))
          have := rng32 (XT.ushr sel (3 : Int32))
          have := rng32 sel
          have lt0 : (3 : Int32).toInt = 3 := by decide
          have : (XT.ushr sel (3 : Int32)).toInt = (sel.toInt % 4294967296) / 8 := c_iushr sel (3 : Int32) 3 (by decide) (by decide)
          have : ((XT.ushr sel (3 : Int32)) &&& (3 : Int32)).toInt = (XT.ushr sel (3 : Int32)).toInt % 4 := c_mask (XT.ushr sel (3 : Int32)) (3 : Int32) 2 (by decide) (by decide)
          have lt1 : (1 : Int32).toInt = 1 := by decide
          have lt2 : (2 : Int32).toInt = 2 := by decide
          omega
    · have h2 : ((XT.ushr sel (3 : Int32)) &&& (3 : Int32)).toInt = (2 : Int32).toInt := by simp only [cP] at h; omega
      clear h
      show EW _ _ _ _ _ ((171, [.val (.long id), .second, .val (.long gs), .second, .val (.long len), .second, .val (.long d), .second, .val (.long e), .second, .val (.int sel), .val (.long (len &&& (9223372036854775807 : Int64))), .second, .val (.int (0 : Int32)), .val (.int (0 : Int32)), .val (.int (0 : Int32)), .val (.long id), .second, .val (.long gs), .second, .val (.long (d &&& (9223372036854775807 : Int64))), .second, .val (.long (len &&& (9223372036854775807 : Int64))), .second, .val (.ref 2), .val (.ref 3), .val (.int ((XT.ushr sel (3 : Int32)) &&& (3 : Int32))), .unset], []), [.inl (.object "java/lang/Long", A), .inr (1, []), .inr (0, [(0, .long id), (1, .long gs), (2, .long (len &&& (9223372036854775807 : Int64)))]), .inr (0, [(0, .long id), (1, .long gs), (2, .long (len &&& (9223372036854775807 : Int64)))])], 2, 6)
      refine EW.run 2 (cf' := ((174, [.val (.long id), .second, .val (.long gs), .second, .val (.long len), .second, .val (.long d), .second, .val (.long e), .second, .val (.int sel), .val (.long (len &&& (9223372036854775807 : Int64))), .second, .val (.int (0 : Int32)), .val (.int (0 : Int32)), .val (.int (0 : Int32)), .val (.long id), .second, .val (.long gs), .second, .val (.long (d &&& (9223372036854775807 : Int64))), .second, .val (.long (len &&& (9223372036854775807 : Int64))), .second, .val (.ref 2), .val (.ref 3), .val (.int ((XT.ushr sel (3 : Int32)) &&& (3 : Int32))), .unset], [.null, .ref 2]), [.inl (.object "java/lang/Long", A), .inr (1, []), .inr (0, [(0, .long id), (1, .long gs), (2, .long (len &&& (9223372036854775807 : Int64)))]), .inr (0, [(0, .long id), (1, .long gs), (2, .long (len &&& (9223372036854775807 : Int64)))])], 2, 6)) rfl ?_
      refine EW.call (Qc := fun r => r = (some (.int (0 : Int32)), [.inl (.object "java/lang/Long", A), .inr (1, []), .inr (0, [(0, .long id), (1, .long gs), (2, .long (len &&& (9223372036854775807 : Int64)))]), .inr (0, [(0, .long id), (1, .long gs), (2, .long (len &&& (9223372036854775807 : Int64)))])], 0, 0)) rfl ?_ ?_
      · show EW _ _ _ _ _ ((0, [.val (.ref 2), .val (.null), .unset], []), [.inl (.object "java/lang/Long", A), .inr (1, []), .inr (0, [(0, .long id), (1, .long gs), (2, .long (len &&& (9223372036854775807 : Int64)))]), .inr (0, [(0, .long id), (1, .long gs), (2, .long (len &&& (9223372036854775807 : Int64)))])], 0, 0)
        refine EW.run 4 (cf' := ((8, [.val (.ref 2), .val (.null), .unset], [.int (0 : Int32)]), [.inl (.object "java/lang/Long", A), .inr (1, []), .inr (0, [(0, .long id), (1, .long gs), (2, .long (len &&& (9223372036854775807 : Int64)))]), .inr (0, [(0, .long id), (1, .long gs), (2, .long (len &&& (9223372036854775807 : Int64)))])], 0, 0)) rfl ?_
        exact EW.ret rfl rfl
      rintro _ _ _ _ ⟨⟩
      show EW _ _ _ _ _ ((177, [.val (.long id), .second, .val (.long gs), .second, .val (.long len), .second, .val (.long d), .second, .val (.long e), .second, .val (.int sel), .val (.long (len &&& (9223372036854775807 : Int64))), .second, .val (.int (0 : Int32)), .val (.int (0 : Int32)), .val (.int (0 : Int32)), .val (.long id), .second, .val (.long gs), .second, .val (.long (d &&& (9223372036854775807 : Int64))), .second, .val (.long (len &&& (9223372036854775807 : Int64))), .second, .val (.ref 2), .val (.ref 3), .val (.int ((XT.ushr sel (3 : Int32)) &&& (3 : Int32))), .unset], [.int (0 : Int32)]), [.inl (.object "java/lang/Long", A), .inr (1, []), .inr (0, [(0, .long id), (1, .long gs), (2, .long (len &&& (9223372036854775807 : Int64)))]), .inr (0, [(0, .long id), (1, .long gs), (2, .long (len &&& (9223372036854775807 : Int64)))])], 2, 6)
      refine EW.run 3 (cf' := ((185, [.val (.long id), .second, .val (.long gs), .second, .val (.long len), .second, .val (.long d), .second, .val (.long e), .second, .val (.int sel), .val (.long (len &&& (9223372036854775807 : Int64))), .second, .val (.int (0 : Int32)), .val (.int (0 : Int32)), .val (.int (0 : Int32)), .val (.long id), .second, .val (.long gs), .second, .val (.long (d &&& (9223372036854775807 : Int64))), .second, .val (.long (len &&& (9223372036854775807 : Int64))), .second, .val (.ref 2), .val (.ref 3), .val (.int ((XT.ushr sel (3 : Int32)) &&& (3 : Int32))), .unset], [.int (1 : Int32)]), [.inl (.object "java/lang/Long", A), .inr (1, []), .inr (0, [(0, .long id), (1, .long gs), (2, .long (len &&& (9223372036854775807 : Int64)))]), .inr (0, [(0, .long id), (1, .long gs), (2, .long (len &&& (9223372036854775807 : Int64)))])], 2, 6)) rfl ?_
      exact EW.ret rfl ⟨rfl, Nat.le_of_ble_eq_true rfl, Nat.le_of_ble_eq_true rfl⟩
  · have h1 : ((XT.ushr sel (3 : Int32)) &&& (3 : Int32)).toInt = (1 : Int32).toInt := by simp only [cP] at h; omega
    clear h
    show EW _ _ _ _ _ ((147, [.val (.long id), .second, .val (.long gs), .second, .val (.long len), .second, .val (.long d), .second, .val (.long e), .second, .val (.int sel), .val (.long (len &&& (9223372036854775807 : Int64))), .second, .val (.int (0 : Int32)), .val (.int (0 : Int32)), .val (.int (0 : Int32)), .val (.long id), .second, .val (.long gs), .second, .val (.long (d &&& (9223372036854775807 : Int64))), .second, .val (.long (len &&& (9223372036854775807 : Int64))), .second, .val (.ref 2), .val (.ref 3), .val (.int ((XT.ushr sel (3 : Int32)) &&& (3 : Int32))), .unset], []), [.inl (.object "java/lang/Long", A), .inr (1, []), .inr (0, [(0, .long id), (1, .long gs), (2, .long (len &&& (9223372036854775807 : Int64)))]), .inr (0, [(0, .long id), (1, .long gs), (2, .long (len &&& (9223372036854775807 : Int64)))])], 2, 6)
    refine EW.run 2 (cf' := ((150, [.val (.long id), .second, .val (.long gs), .second, .val (.long len), .second, .val (.long d), .second, .val (.long e), .second, .val (.int sel), .val (.long (len &&& (9223372036854775807 : Int64))), .second, .val (.int (0 : Int32)), .val (.int (0 : Int32)), .val (.int (0 : Int32)), .val (.long id), .second, .val (.long gs), .second, .val (.long (d &&& (9223372036854775807 : Int64))), .second, .val (.long (len &&& (9223372036854775807 : Int64))), .second, .val (.ref 2), .val (.ref 3), .val (.int ((XT.ushr sel (3 : Int32)) &&& (3 : Int32))), .unset], [.long id, .ref 2]), [.inl (.object "java/lang/Long", A), .inr (1, []), .inr (0, [(0, .long id), (1, .long gs), (2, .long (len &&& (9223372036854775807 : Int64)))]), .inr (0, [(0, .long id), (1, .long gs), (2, .long (len &&& (9223372036854775807 : Int64)))])], 2, 6)) rfl ?_
    refine EW.call rfl (wval A id gs (len &&& (9223372036854775807 : Int64)) id gs (len &&& (9223372036854775807 : Int64)) id hin) ?_
    rintro _ _ _ _ (e0 | e0)
    · cases e0
      show EW _ _ _ _ _ ((153, [.val (.long id), .second, .val (.long gs), .second, .val (.long len), .second, .val (.long d), .second, .val (.long e), .second, .val (.int sel), .val (.long (len &&& (9223372036854775807 : Int64))), .second, .val (.int (0 : Int32)), .val (.int (0 : Int32)), .val (.int (0 : Int32)), .val (.long id), .second, .val (.long gs), .second, .val (.long (d &&& (9223372036854775807 : Int64))), .second, .val (.long (len &&& (9223372036854775807 : Int64))), .second, .val (.ref 2), .val (.ref 3), .val (.int ((XT.ushr sel (3 : Int32)) &&& (3 : Int32))), .unset], [.ref 1, .ref 2]), [.inl (.object "java/lang/Long", A), .inr (1, []), .inr (0, [(0, .long id), (1, .long gs), (2, .long (len &&& (9223372036854775807 : Int64)))]), .inr (0, [(0, .long id), (1, .long gs), (2, .long (len &&& (9223372036854775807 : Int64)))])], 2, 6)
      refine EW.call (Qc := fun r => r = (some (.int (0 : Int32)), [.inl (.object "java/lang/Long", A), .inr (1, []), .inr (0, [(0, .long id), (1, .long gs), (2, .long (len &&& (9223372036854775807 : Int64)))]), .inr (0, [(0, .long id), (1, .long gs), (2, .long (len &&& (9223372036854775807 : Int64)))])], 0, 0)) rfl ?_ ?_
      · show EW _ _ _ _ _ ((0, [.val (.ref 2), .val (.ref 1), .unset], []), [.inl (.object "java/lang/Long", A), .inr (1, []), .inr (0, [(0, .long id), (1, .long gs), (2, .long (len &&& (9223372036854775807 : Int64)))]), .inr (0, [(0, .long id), (1, .long gs), (2, .long (len &&& (9223372036854775807 : Int64)))])], 0, 0)
        refine EW.run 4 (cf' := ((8, [.val (.ref 2), .val (.ref 1), .unset], [.int (0 : Int32)]), [.inl (.object "java/lang/Long", A), .inr (1, []), .inr (0, [(0, .long id), (1, .long gs), (2, .long (len &&& (9223372036854775807 : Int64)))]), .inr (0, [(0, .long id), (1, .long gs), (2, .long (len &&& (9223372036854775807 : Int64)))])], 0, 0)) rfl ?_
        exact EW.ret rfl rfl
      rintro _ _ _ _ ⟨⟩
      show EW _ _ _ _ _ ((156, [.val (.long id), .second, .val (.long gs), .second, .val (.long len), .second, .val (.long d), .second, .val (.long e), .second, .val (.int sel), .val (.long (len &&& (9223372036854775807 : Int64))), .second, .val (.int (0 : Int32)), .val (.int (0 : Int32)), .val (.int (0 : Int32)), .val (.long id), .second, .val (.long gs), .second, .val (.long (d &&& (9223372036854775807 : Int64))), .second, .val (.long (len &&& (9223372036854775807 : Int64))), .second, .val (.ref 2), .val (.ref 3), .val (.int ((XT.ushr sel (3 : Int32)) &&& (3 : Int32))), .unset], [.int (0 : Int32)]), [.inl (.object "java/lang/Long", A), .inr (1, []), .inr (0, [(0, .long id), (1, .long gs), (2, .long (len &&& (9223372036854775807 : Int64)))]), .inr (0, [(0, .long id), (1, .long gs), (2, .long (len &&& (9223372036854775807 : Int64)))])], 2, 6)
      refine EW.run 3 (cf' := ((164, [.val (.long id), .second, .val (.long gs), .second, .val (.long len), .second, .val (.long d), .second, .val (.long e), .second, .val (.int sel), .val (.long (len &&& (9223372036854775807 : Int64))), .second, .val (.int (0 : Int32)), .val (.int (0 : Int32)), .val (.int (0 : Int32)), .val (.long id), .second, .val (.long gs), .second, .val (.long (d &&& (9223372036854775807 : Int64))), .second, .val (.long (len &&& (9223372036854775807 : Int64))), .second, .val (.ref 2), .val (.ref 3), .val (.int ((XT.ushr sel (3 : Int32)) &&& (3 : Int32))), .unset], [.int (1 : Int32)]), [.inl (.object "java/lang/Long", A), .inr (1, []), .inr (0, [(0, .long id), (1, .long gs), (2, .long (len &&& (9223372036854775807 : Int64)))]), .inr (0, [(0, .long id), (1, .long gs), (2, .long (len &&& (9223372036854775807 : Int64)))])], 2, 6)) rfl ?_
      exact EW.ret rfl ⟨rfl, Nat.le_of_ble_eq_true rfl, Nat.le_of_ble_eq_true rfl⟩
    · cases e0
      show EW _ _ _ _ _ ((153, [.val (.long id), .second, .val (.long gs), .second, .val (.long len), .second, .val (.long d), .second, .val (.long e), .second, .val (.int sel), .val (.long (len &&& (9223372036854775807 : Int64))), .second, .val (.int (0 : Int32)), .val (.int (0 : Int32)), .val (.int (0 : Int32)), .val (.long id), .second, .val (.long gs), .second, .val (.long (d &&& (9223372036854775807 : Int64))), .second, .val (.long (len &&& (9223372036854775807 : Int64))), .second, .val (.ref 2), .val (.ref 3), .val (.int ((XT.ushr sel (3 : Int32)) &&& (3 : Int32))), .unset], [.ref 4, .ref 2]), [.inl (.object "java/lang/Long", A), .inr (1, []), .inr (0, [(0, .long id), (1, .long gs), (2, .long (len &&& (9223372036854775807 : Int64)))]), .inr (0, [(0, .long id), (1, .long gs), (2, .long (len &&& (9223372036854775807 : Int64)))]), .inr (1, [(4, .long id)])], 3, 7)
      refine EW.call (Qc := fun r => r = (some (.int (0 : Int32)), [.inl (.object "java/lang/Long", A), .inr (1, []), .inr (0, [(0, .long id), (1, .long gs), (2, .long (len &&& (9223372036854775807 : Int64)))]), .inr (0, [(0, .long id), (1, .long gs), (2, .long (len &&& (9223372036854775807 : Int64)))]), .inr (1, [(4, .long id)])], 0, 0)) rfl ?_ ?_
      · show EW _ _ _ _ _ ((0, [.val (.ref 2), .val (.ref 4), .unset], []), [.inl (.object "java/lang/Long", A), .inr (1, []), .inr (0, [(0, .long id), (1, .long gs), (2, .long (len &&& (9223372036854775807 : Int64)))]), .inr (0, [(0, .long id), (1, .long gs), (2, .long (len &&& (9223372036854775807 : Int64)))]), .inr (1, [(4, .long id)])], 0, 0)
        refine EW.run 4 (cf' := ((8, [.val (.ref 2), .val (.ref 4), .unset], [.int (0 : Int32)]), [.inl (.object "java/lang/Long", A), .inr (1, []), .inr (0, [(0, .long id), (1, .long gs), (2, .long (len &&& (9223372036854775807 : Int64)))]), .inr (0, [(0, .long id), (1, .long gs), (2, .long (len &&& (9223372036854775807 : Int64)))]), .inr (1, [(4, .long id)])], 0, 0)) rfl ?_
        exact EW.ret rfl rfl
      rintro _ _ _ _ ⟨⟩
      show EW _ _ _ _ _ ((156, [.val (.long id), .second, .val (.long gs), .second, .val (.long len), .second, .val (.long d), .second, .val (.long e), .second, .val (.int sel), .val (.long (len &&& (9223372036854775807 : Int64))), .second, .val (.int (0 : Int32)), .val (.int (0 : Int32)), .val (.int (0 : Int32)), .val (.long id), .second, .val (.long gs), .second, .val (.long (d &&& (9223372036854775807 : Int64))), .second, .val (.long (len &&& (9223372036854775807 : Int64))), .second, .val (.ref 2), .val (.ref 3), .val (.int ((XT.ushr sel (3 : Int32)) &&& (3 : Int32))), .unset], [.int (0 : Int32)]), [.inl (.object "java/lang/Long", A), .inr (1, []), .inr (0, [(0, .long id), (1, .long gs), (2, .long (len &&& (9223372036854775807 : Int64)))]), .inr (0, [(0, .long id), (1, .long gs), (2, .long (len &&& (9223372036854775807 : Int64)))]), .inr (1, [(4, .long id)])], 3, 7)
      refine EW.run 3 (cf' := ((164, [.val (.long id), .second, .val (.long gs), .second, .val (.long len), .second, .val (.long d), .second, .val (.long e), .second, .val (.int sel), .val (.long (len &&& (9223372036854775807 : Int64))), .second, .val (.int (0 : Int32)), .val (.int (0 : Int32)), .val (.int (0 : Int32)), .val (.long id), .second, .val (.long gs), .second, .val (.long (d &&& (9223372036854775807 : Int64))), .second, .val (.long (len &&& (9223372036854775807 : Int64))), .second, .val (.ref 2), .val (.ref 3), .val (.int ((XT.ushr sel (3 : Int32)) &&& (3 : Int32))), .unset], [.int (1 : Int32)]), [.inl (.object "java/lang/Long", A), .inr (1, []), .inr (0, [(0, .long id), (1, .long gs), (2, .long (len &&& (9223372036854775807 : Int64)))]), .inr (0, [(0, .long id), (1, .long gs), (2, .long (len &&& (9223372036854775807 : Int64)))]), .inr (1, [(4, .long id)])], 3, 7)) rfl ?_
      exact EW.ret rfl ⟨rfl, Nat.le_of_ble_eq_true rfl, Nat.le_of_ble_eq_true rfl⟩
set_option maxHeartbeats 8000000 in
theorem own_c1 (A : List Value) (id gs len d e : Int64) (sel : Int32) (hin : -128 ≤ id.toInt → id.toInt ≤ 127 → (¬ (id.toInt32 + 128) < 0 ∧ A[(id.toInt32 + 128).toNatClampNeg]? = some (.ref 1))) : EW gG 7 160 mL (fun r => r.1 = some (.int 1) ∧ r.2.2.1 ≤ 16 ∧ r.2.2.2 ≤ 128) ((105, [.val (.long id), .second, .val (.long gs), .second, .val (.long len), .second, .val (.long d), .second, .val (.long e), .second, .val (.int sel), .val (.long (len &&& (9223372036854775807 : Int64))), .second, .val (.int (0 : Int32)), .val (.int (0 : Int32)), .val (.int (1 : Int32)), .val (.long id), .second, .val (.long gs), .second, .val (.long (d &&& (9223372036854775807 : Int64))), .second, .val (.long ((len &&& (9223372036854775807 : Int64)) ^^^ (d &&& (9223372036854775807 : Int64)))), .second, .unset, .unset, .unset, .unset], []), [.inl (.object "java/lang/Long", A), .inr (1, [])], 0, 0) := by
  have lz : (0 : Int64).toInt = 0 := by decide
  refine EW.run 5 (cf' := ((113, [.val (.long id), .second, .val (.long gs), .second, .val (.long len), .second, .val (.long d), .second, .val (.long e), .second, .val (.int sel), .val (.long (len &&& (9223372036854775807 : Int64))), .second, .val (.int (0 : Int32)), .val (.int (0 : Int32)), .val (.int (1 : Int32)), .val (.long id), .second, .val (.long gs), .second, .val (.long (d &&& (9223372036854775807 : Int64))), .second, .val (.long ((len &&& (9223372036854775807 : Int64)) ^^^ (d &&& (9223372036854775807 : Int64)))), .second, .unset, .unset, .unset, .unset], [.long (len &&& (9223372036854775807 : Int64)), .long gs, .long id, .ref 2, .ref 2]), [.inl (.object "java/lang/Long", A), .inr (1, []), .inr (0, [(0, .long (0 : Int64)), (1, .long (0 : Int64)), (2, .long (0 : Int64))])], 1, 3)) rfl ?_
  refine EW.call (Qc := fun r => r = (none, [.inl (.object "java/lang/Long", A), .inr (1, []), .inr (0, [(0, .long id), (1, .long gs), (2, .long (len &&& (9223372036854775807 : Int64)))])], 0, 0)) rfl ?_ ?_
  · show EW _ _ _ _ _ ((0, [.val (.ref 2), .val (.long id), .second, .val (.long gs), .second, .val (.long (len &&& (9223372036854775807 : Int64))), .second], []), [.inl (.object "java/lang/Long", A), .inr (1, []), .inr (0, [(0, .long (0 : Int64)), (1, .long (0 : Int64)), (2, .long (0 : Int64))])], 0, 0)
    refine EW.run 5 (cf' := ((8, [.val (.ref 2), .val (.long id), .second, .val (.long gs), .second, .val (.long (len &&& (9223372036854775807 : Int64))), .second], [.int (XT.cmpL (len &&& (9223372036854775807 : Int64)) (0 : Int64))]), [.inl (.object "java/lang/Long", A), .inr (1, []), .inr (0, [(0, .long (0 : Int64)), (1, .long (0 : Int64)), (2, .long (0 : Int64))])], 0, 0)) rfl ?_
    refine EW.iflP rfl (by decide) (fun h => ?_) (fun h => ?_)
    · have h1 : (len &&& (9223372036854775807 : Int64)).toInt ≥ (0 : Int64).toInt := by simp only [cP] at h; omega
      clear h
      show EW _ _ _ _ _ ((27, [.val (.ref 2), .val (.long id), .second, .val (.long gs), .second, .val (.long (len &&& (9223372036854775807 : Int64))), .second], []), [.inl (.object "java/lang/Long", A), .inr (1, []), .inr (0, [(0, .long (0 : Int64)), (1, .long (0 : Int64)), (2, .long (0 : Int64))])], 0, 0)
      refine EW.run 6 (cf' := ((37, [.val (.ref 2), .val (.long id), .second, .val (.long gs), .second, .val (.long (len &&& (9223372036854775807 : Int64))), .second], []), [.inl (.object "java/lang/Long", A), .inr (1, []), .inr (0, [(0, .long id), (1, .long gs), (2, .long (0 : Int64))])], 0, 0)) rfl ?_
      refine EW.run 3 (cf' := ((43, [.val (.ref 2), .val (.long id), .second, .val (.long gs), .second, .val (.long (len &&& (9223372036854775807 : Int64))), .second], []), [.inl (.object "java/lang/Long", A), .inr (1, []), .inr (0, [(0, .long id), (1, .long gs), (2, .long (len &&& (9223372036854775807 : Int64)))])], 0, 0)) rfl ?_
      exact EW.ret rfl rfl
    · exfalso
      simp only [cP] at h
      have := rng64 (len &&& (9223372036854775807 : Int64))
      have := rng64 len
      have lt0 : (9223372036854775807 : Int64).toInt = 9223372036854775807 := by decide
      have : (len &&& (9223372036854775807 : Int64)).toInt = len.toInt % 9223372036854775808 := c_maskL len (9223372036854775807 : Int64) 63 (by decide) (by decide)
      have lt1 : (0 : Int64).toInt = 0 := by decide
      omega
  rintro _ _ _ _ ⟨⟩
  show EW _ _ _ _ _ ((116, [.val (.long id), .second, .val (.long gs), .second, .val (.long len), .second, .val (.long d), .second, .val (.long e), .second, .val (.int sel), .val (.long (len &&& (9223372036854775807 : Int64))), .second, .val (.int (0 : Int32)), .val (.int (0 : Int32)), .val (.int (1 : Int32)), .val (.long id), .second, .val (.long gs), .second, .val (.long (d &&& (9223372036854775807 : Int64))), .second, .val (.long ((len &&& (9223372036854775807 : Int64)) ^^^ (d &&& (9223372036854775807 : Int64)))), .second, .unset, .unset, .unset, .unset], [.ref 2]), [.inl (.object "java/lang/Long", A), .inr (1, []), .inr (0, [(0, .long id), (1, .long gs), (2, .long (len &&& (9223372036854775807 : Int64)))])], 1, 3)
  refine EW.run 6 (cf' := ((128, [.val (.long id), .second, .val (.long gs), .second, .val (.long len), .second, .val (.long d), .second, .val (.long e), .second, .val (.int sel), .val (.long (len &&& (9223372036854775807 : Int64))), .second, .val (.int (0 : Int32)), .val (.int (0 : Int32)), .val (.int (1 : Int32)), .val (.long id), .second, .val (.long gs), .second, .val (.long (d &&& (9223372036854775807 : Int64))), .second, .val (.long ((len &&& (9223372036854775807 : Int64)) ^^^ (d &&& (9223372036854775807 : Int64)))), .second, .val (.ref 2), .unset, .unset, .unset], [.long ((len &&& (9223372036854775807 : Int64)) ^^^ (d &&& (9223372036854775807 : Int64))), .long gs, .long id, .ref 3, .ref 3]), [.inl (.object "java/lang/Long", A), .inr (1, []), .inr (0, [(0, .long id), (1, .long gs), (2, .long (len &&& (9223372036854775807 : Int64)))]), .inr (0, [(0, .long (0 : Int64)), (1, .long (0 : Int64)), (2, .long (0 : Int64))])], 2, 6)) rfl ?_
  refine EW.call (Qc := fun r => r = (none, [.inl (.object "java/lang/Long", A), .inr (1, []), .inr (0, [(0, .long id), (1, .long gs), (2, .long (len &&& (9223372036854775807 : Int64)))]), .inr (0, [(0, .long id), (1, .long gs), (2, .long ((len &&& (9223372036854775807 : Int64)) ^^^ (d &&& (9223372036854775807 : Int64))))])], 0, 0)) rfl ?_ ?_
  · show EW _ _ _ _ _ ((0, [.val (.ref 3), .val (.long id), .second, .val (.long gs), .second, .val (.long ((len &&& (9223372036854775807 : Int64)) ^^^ (d &&& (9223372036854775807 : Int64)))), .second], []), [.inl (.object "java/lang/Long", A), .inr (1, []), .inr (0, [(0, .long id), (1, .long gs), (2, .long (len &&& (9223372036854775807 : Int64)))]), .inr (0, [(0, .long (0 : Int64)), (1, .long (0 : Int64)), (2, .long (0 : Int64))])], 0, 0)
    refine EW.run 5 (cf' := ((8, [.val (.ref 3), .val (.long id), .second, .val (.long gs), .second, .val (.long ((len &&& (9223372036854775807 : Int64)) ^^^ (d &&& (9223372036854775807 : Int64)))), .second], [.int (XT.cmpL ((len &&& (9223372036854775807 : Int64)) ^^^ (d &&& (9223372036854775807 : Int64))) (0 : Int64))]), [.inl (.object "java/lang/Long", A), .inr (1, []), .inr (0, [(0, .long id), (1, .long gs), (2, .long (len &&& (9223372036854775807 : Int64)))]), .inr (0, [(0, .long (0 : Int64)), (1, .long (0 : Int64)), (2, .long (0 : Int64))])], 0, 0)) rfl ?_
    refine EW.iflP rfl (by decide) (fun h => ?_) (fun h => ?_)
    · have h1 : ((len &&& (9223372036854775807 : Int64)) ^^^ (d &&& (9223372036854775807 : Int64))).toInt ≥ (0 : Int64).toInt := by simp only [cP] at h; omega
      clear h
      show EW _ _ _ _ _ ((27, [.val (.ref 3), .val (.long id), .second, .val (.long gs), .second, .val (.long ((len &&& (9223372036854775807 : Int64)) ^^^ (d &&& (9223372036854775807 : Int64)))), .second], []), [.inl (.object "java/lang/Long", A), .inr (1, []), .inr (0, [(0, .long id), (1, .long gs), (2, .long (len &&& (9223372036854775807 : Int64)))]), .inr (0, [(0, .long (0 : Int64)), (1, .long (0 : Int64)), (2, .long (0 : Int64))])], 0, 0)
      refine EW.run 6 (cf' := ((37, [.val (.ref 3), .val (.long id), .second, .val (.long gs), .second, .val (.long ((len &&& (9223372036854775807 : Int64)) ^^^ (d &&& (9223372036854775807 : Int64)))), .second], []), [.inl (.object "java/lang/Long", A), .inr (1, []), .inr (0, [(0, .long id), (1, .long gs), (2, .long (len &&& (9223372036854775807 : Int64)))]), .inr (0, [(0, .long id), (1, .long gs), (2, .long (0 : Int64))])], 0, 0)) rfl ?_
      refine EW.run 3 (cf' := ((43, [.val (.ref 3), .val (.long id), .second, .val (.long gs), .second, .val (.long ((len &&& (9223372036854775807 : Int64)) ^^^ (d &&& (9223372036854775807 : Int64)))), .second], []), [.inl (.object "java/lang/Long", A), .inr (1, []), .inr (0, [(0, .long id), (1, .long gs), (2, .long (len &&& (9223372036854775807 : Int64)))]), .inr (0, [(0, .long id), (1, .long gs), (2, .long ((len &&& (9223372036854775807 : Int64)) ^^^ (d &&& (9223372036854775807 : Int64))))])], 0, 0)) rfl ?_
      exact EW.ret rfl rfl
    · exfalso
      simp only [cP] at h
      have := rng64 ((len &&& (9223372036854775807 : Int64)) ^^^ (d &&& (9223372036854775807 : Int64)))
      have := rng64 (len &&& (9223372036854775807 : Int64))
      have := rng64 len
      have lt0 : (9223372036854775807 : Int64).toInt = 9223372036854775807 := by decide
      have : (len &&& (9223372036854775807 : Int64)).toInt = len.toInt % 9223372036854775808 := c_maskL len (9223372036854775807 : Int64) 63 (by decide) (by decide)
      have := rng64 (d &&& (9223372036854775807 : Int64))
      have := rng64 d
      have : (d &&& (9223372036854775807 : Int64)).toInt = d.toInt % 9223372036854775808 := c_maskL d (9223372036854775807 : Int64) 63 (by decide) (by decide)
      have := c_xorSL (len &&& (9223372036854775807 : Int64)) (d &&& (9223372036854775807 : Int64))
      have := own_xor (len &&& (9223372036854775807 : Int64)) (d &&& (9223372036854775807 : Int64))
      have lt1 : (0 : Int64).toInt = 0 := by decide
      omega
  rintro _ _ _ _ ⟨⟩
  show EW _ _ _ _ _ ((131, [.val (.long id), .second, .val (.long gs), .second, .val (.long len), .second, .val (.long d), .second, .val (.long e), .second, .val (.int sel), .val (.long (len &&& (9223372036854775807 : Int64))), .second, .val (.int (0 : Int32)), .val (.int (0 : Int32)), .val (.int (1 : Int32)), .val (.long id), .second, .val (.long gs), .second, .val (.long (d &&& (9223372036854775807 : Int64))), .second, .val (.long ((len &&& (9223372036854775807 : Int64)) ^^^ (d &&& (9223372036854775807 : Int64)))), .second, .val (.ref 2), .unset, .unset, .unset], [.ref 3]), [.inl (.object "java/lang/Long", A), .inr (1, []), .inr (0, [(0, .long id), (1, .long gs), (2, .long (len &&& (9223372036854775807 : Int64)))]), .inr (0, [(0, .long id), (1, .long gs), (2, .long ((len &&& (9223372036854775807 : Int64)) ^^^ (d &&& (9223372036854775807 : Int64))))])], 2, 6)
  refine EW.run 6 (cf' := ((139, [.val (.long id), .second, .val (.long gs), .second, .val (.long len), .second, .val (.long d), .second, .val (.long e), .second, .val (.int sel), .val (.long (len &&& (9223372036854775807 : Int64))), .second, .val (.int (0 : Int32)), .val (.int (0 : Int32)), .val (.int (1 : Int32)), .val (.long id), .second, .val (.long gs), .second, .val (.long (d &&& (9223372036854775807 : Int64))), .second, .val (.long ((len &&& (9223372036854775807 : Int64)) ^^^ (d &&& (9223372036854775807 : Int64)))), .second, .val (.ref 2), .val (.ref 3), .unset, .unset], [.int ((XT.ushr sel (3 : Int32)) &&& (3 : Int32))]), [.inl (.object "java/lang/Long", A), .inr (1, []), .inr (0, [(0, .long id), (1, .long gs), (2, .long (len &&& (9223372036854775807 : Int64)))]), .inr (0, [(0, .long id), (1, .long gs), (2, .long ((len &&& (9223372036854775807 : Int64)) ^^^ (d &&& (9223372036854775807 : Int64))))])], 2, 6)) rfl ?_
  refine EW.run 3 (cf' := ((144, [.val (.long id), .second, .val (.long gs), .second, .val (.long len), .second, .val (.long d), .second, .val (.long e), .second, .val (.int sel), .val (.long (len &&& (9223372036854775807 : Int64))), .second, .val (.int (0 : Int32)), .val (.int (0 : Int32)), .val (.int (1 : Int32)), .val (.long id), .second, .val (.long gs), .second, .val (.long (d &&& (9223372036854775807 : Int64))), .second, .val (.long ((len &&& (9223372036854775807 : Int64)) ^^^ (d &&& (9223372036854775807 : Int64)))), .second, .val (.ref 2), .val (.ref 3), .val (.int ((XT.ushr sel (3 : Int32)) &&& (3 : Int32))), .unset], [.int (1 : Int32), .int ((XT.ushr sel (3 : Int32)) &&& (3 : Int32))]), [.inl (.object "java/lang/Long", A), .inr (1, []), .inr (0, [(0, .long id), (1, .long gs), (2, .long (len &&& (9223372036854775807 : Int64)))]), .inr (0, [(0, .long id), (1, .long gs), (2, .long ((len &&& (9223372036854775807 : Int64)) ^^^ (d &&& (9223372036854775807 : Int64))))])], 2, 6)) rfl ?_
  refine EW.icmpP rfl (by decide) (fun h => ?_) (fun h => ?_)
  · have h1 : ((XT.ushr sel (3 : Int32)) &&& (3 : Int32)).toInt ≠ (1 : Int32).toInt := by simp only [cP] at h; omega
    clear h
    show EW _ _ _ _ _ ((165, [.val (.long id), .second, .val (.long gs), .second, .val (.long len), .second, .val (.long d), .second, .val (.long e), .second, .val (.int sel), .val (.long (len &&& (9223372036854775807 : Int64))), .second, .val (.int (0 : Int32)), .val (.int (0 : Int32)), .val (.int (1 : Int32)), .val (.long id), .second, .val (.long gs), .second, .val (.long (d &&& (9223372036854775807 : Int64))), .second, .val (.long ((len &&& (9223372036854775807 : Int64)) ^^^ (d &&& (9223372036854775807 : Int64)))), .second, .val (.ref 2), .val (.ref 3), .val (.int ((XT.ushr sel (3 : Int32)) &&& (3 : Int32))), .unset], []), [.inl (.object "java/lang/Long", A), .inr (1, []), .inr (0, [(0, .long id), (1, .long gs), (2, .long (len &&& (9223372036854775807 : Int64)))]), .inr (0, [(0, .long id), (1, .long gs), (2, .long ((len &&& (9223372036854775807 : Int64)) ^^^ (d &&& (9223372036854775807 : Int64))))])], 2, 6)
    refine EW.run 2 (cf' := ((168, [.val (.long id), .second, .val (.long gs), .second, .val (.long len), .second, .val (.long d), .second, .val (.long e), .second, .val (.int sel), .val (.long (len &&& (9223372036854775807 : Int64))), .second, .val (.int (0 : Int32)), .val (.int (0 : Int32)), .val (.int (1 : Int32)), .val (.long id), .second, .val (.long gs), .second, .val (.long (d &&& (9223372036854775807 : Int64))), .second, .val (.long ((len &&& (9223372036854775807 : Int64)) ^^^ (d &&& (9223372036854775807 : Int64)))), .second, .val (.ref 2), .val (.ref 3), .val (.int ((XT.ushr sel (3 : Int32)) &&& (3 : Int32))), .unset], [.int (2 : Int32), .int ((XT.ushr sel (3 : Int32)) &&& (3 : Int32))]), [.inl (.object "java/lang/Long", A), .inr (1, []), .inr (0, [(0, .long id), (1, .long gs), (2, .long (len &&& (9223372036854775807 : Int64)))]), .inr (0, [(0, .long id), (1, .long gs), (2, .long ((len &&& (9223372036854775807 : Int64)) ^^^ (d &&& (9223372036854775807 : Int64))))])], 2, 6)) rfl ?_
    refine EW.icmpP rfl (by decide) (fun h => ?_) (fun h => ?_)
    · have h2 : ((XT.ushr sel (3 : Int32)) &&& (3 : Int32)).toInt ≠ (2 : Int32).toInt := by simp only [cP] at h; omega
      clear h
      show EW _ _ _ _ _ ((186, [.val (.long id), .second, .val (.long gs), .second, .val (.long len), .second, .val (.long d), .second, .val (.long e), .second, .val (.int sel), .val (.long (len &&& (9223372036854775807 : Int64))), .second, .val (.int (0 : Int32)), .val (.int (0 : Int32)), .val (.int (1 : Int32)), .val (.long id), .second, .val (.long gs), .second, .val (.long (d &&& (9223372036854775807 : Int64))), .second, .val (.long ((len &&& (9223372036854775807 : Int64)) ^^^ (d &&& (9223372036854775807 : Int64)))), .second, .val (.ref 2), .val (.ref 3), .val (.int ((XT.ushr sel (3 : Int32)) &&& (3 : Int32))), .unset], []), [.inl (.object "java/lang/Long", A), .inr (1, []), .inr (0, [(0, .long id), (1, .long gs), (2, .long (len &&& (9223372036854775807 : Int64)))]), .inr (0, [(0, .long id), (1, .long gs), (2, .long ((len &&& (9223372036854775807 : Int64)) ^^^ (d &&& (9223372036854775807 : Int64))))])], 2, 6)
      refine EW.run 2 (cf' := ((189, [.val (.long id), .second, .val (.long gs), .second, .val (.long len), .second, .val (.long d), .second, .val (.long e), .second, .val (.int sel), .val (.long (len &&& (9223372036854775807 : Int64))), .second, .val (.int (0 : Int32)), .val (.int (0 : Int32)), .val (.int (1 : Int32)), .val (.long id), .second, .val (.long gs), .second, .val (.long (d &&& (9223372036854775807 : Int64))), .second, .val (.long ((len &&& (9223372036854775807 : Int64)) ^^^ (d &&& (9223372036854775807 : Int64)))), .second, .val (.ref 2), .val (.ref 3), .val (.int ((XT.ushr sel (3 : Int32)) &&& (3 : Int32))), .unset], [.int (3 : Int32), .int ((XT.ushr sel (3 : Int32)) &&& (3 : Int32))]), [.inl (.object "java/lang/Long", A), .inr (1, []), .inr (0, [(0, .long id), (1, .long gs), (2, .long (len &&& (9223372036854775807 : Int64)))]), .inr (0, [(0, .long id), (1, .long gs), (2, .long ((len &&& (9223372036854775807 : Int64)) ^^^ (d &&& (9223372036854775807 : Int64))))])], 2, 6)) rfl ?_
      refine EW.icmpP rfl (by decide) (fun h => ?_) (fun h => ?_)
      · have h3 : ((XT.ushr sel (3 : Int32)) &&& (3 : Int32)).toInt ≠ (3 : Int32).toInt := by simp only [cP] at h; omega
        clear h
        show EW _ _ _ _ _ ((200, [.val (.long id), .second, .val (.long gs), .second, .val (.long len), .second, .val (.long d), .second, .val (.long e), .second, .val (.int sel), .val (.long (len &&& (9223372036854775807 : Int64))), .second, .val (.int (0 : Int32)), .val (.int (0 : Int32)), .val (.int (1 : Int32)), .val (.long id), .second, .val (.long gs), .second, .val (.long (d &&& (9223372036854775807 : Int64))), .second, .val (.long ((len &&& (9223372036854775807 : Int64)) ^^^ (d &&& (9223372036854775807 : Int64)))), .second, .val (.ref 2), .val (.ref 3), .val (.int ((XT.ushr sel (3 : Int32)) &&& (3 : Int32))), .unset], []), [.inl (.object "java/lang/Long", A), .inr (1, []), .inr (0, [(0, .long id), (1, .long gs), (2, .long (len &&& (9223372036854775807 : Int64)))]), .inr (0, [(0, .long id), (1, .long gs), (2, .long ((len &&& (9223372036854775807 : Int64)) ^^^ (d &&& (9223372036854775807 : Int64))))])], 2, 6)
        refine EW.run 6 (cf' := ((229, [.val (.long id), .second, .val (.long gs), .second, .val (.long len), .second, .val (.long d), .second, .val (.long e), .second, .val (.int sel), .val (.long (len &&& (9223372036854775807 : Int64))), .second, .val (.int (0 : Int32)), .val (.int (0 : Int32)), .val (.int (1 : Int32)), .val (.long id), .second, .val (.long gs), .second, .val (.long (d &&& (9223372036854775807 : Int64))), .second, .val (.long ((len &&& (9223372036854775807 : Int64)) ^^^ (d &&& (9223372036854775807 : Int64)))), .second, .val (.ref 2), .val (.ref 3), .val (.int ((XT.ushr sel (3 : Int32)) &&& (3 : Int32))), .unset], []), [.inl (.object "java/lang/Long", A), .inr (1, []), .inr (0, [(0, .long id), (1, .long gs), (2, .long (len &&& (9223372036854775807 : Int64)))]), .inr (0, [(0, .long id), (1, .long gs), (2, .long ((len &&& (9223372036854775807 : Int64)) ^^^ (d &&& (9223372036854775807 : Int64))))])], 2, 6)) rfl ?_
        refine EW.run 3 (cf' := ((233, [.val (.long id), .second, .val (.long gs), .second, .val (.long len), .second, .val (.long d), .second, .val (.long e), .second, .val (.int sel), .val (.long (len &&& (9223372036854775807 : Int64))), .second, .val (.int (0 : Int32)), .val (.int (0 : Int32)), .val (.int (1 : Int32)), .val (.long id), .second, .val (.long gs), .second, .val (.long (d &&& (9223372036854775807 : Int64))), .second, .val (.long ((len &&& (9223372036854775807 : Int64)) ^^^ (d &&& (9223372036854775807 : Int64)))), .second, .val (.ref 2), .val (.ref 3), .val (.int ((XT.ushr sel (3 : Int32)) &&& (3 : Int32))), .unset], [.int (XT.cmpL (d &&& (9223372036854775807 : Int64)) (0 : Int64))]), [.inl (.object "java/lang/Long", A), .inr (1, []), .inr (0, [(0, .long id), (1, .long gs), (2, .long (len &&& (9223372036854775807 : Int64)))]), .inr (0, [(0, .long id), (1, .long gs), (2, .long ((len &&& (9223372036854775807 : Int64)) ^^^ (d &&& (9223372036854775807 : Int64))))])], 2, 6)) rfl ?_
        refine EW.iflP rfl (by decide) (fun h => ?_) (fun h => ?_)
        · have h4 : (d &&& (9223372036854775807 : Int64)).toInt ≠ (0 : Int64).toInt := by simp only [cP] at h; omega
          clear h
          show EW _ _ _ _ _ ((240, [.val (.long id), .second, .val (.long gs), .second, .val (.long len), .second, .val (.long d), .second, .val (.long e), .second, .val (.int sel), .val (.long (len &&& (9223372036854775807 : Int64))), .second, .val (.int (0 : Int32)), .val (.int (0 : Int32)), .val (.int (1 : Int32)), .val (.long id), .second, .val (.long gs), .second, .val (.long (d &&& (9223372036854775807 : Int64))), .second, .val (.long ((len &&& (9223372036854775807 : Int64)) ^^^ (d &&& (9223372036854775807 : Int64)))), .second, .val (.ref 2), .val (.ref 3), .val (.int ((XT.ushr sel (3 : Int32)) &&& (3 : Int32))), .unset], []), [.inl (.object "java/lang/Long", A), .inr (1, []), .inr (0, [(0, .long id), (1, .long gs), (2, .long (len &&& (9223372036854775807 : Int64)))]), .inr (0, [(0, .long id), (1, .long gs), (2, .long ((len &&& (9223372036854775807 : Int64)) ^^^ (d &&& (9223372036854775807 : Int64))))])], 2, 6)
          refine EW.run 4 (cf' := ((247, [.val (.long id), .second, .val (.long gs), .second, .val (.long len), .second, .val (.long d), .second, .val (.long e), .second, .val (.int sel), .val (.long (len &&& (9223372036854775807 : Int64))), .second, .val (.int (0 : Int32)), .val (.int (0 : Int32)), .val (.int (1 : Int32)), .val (.long id), .second, .val (.long gs), .second, .val (.long (d &&& (9223372036854775807 : Int64))), .second, .val (.long ((len &&& (9223372036854775807 : Int64)) ^^^ (d &&& (9223372036854775807 : Int64)))), .second, .val (.ref 2), .val (.ref 3), .val (.int ((XT.ushr sel (3 : Int32)) &&& (3 : Int32))), .val (.int (0 : Int32))], [.ref 3, .ref 2]), [.inl (.object "java/lang/Long", A), .inr (1, []), .inr (0, [(0, .long id), (1, .long gs), (2, .long (len &&& (9223372036854775807 : Int64)))]), .inr (0, [(0, .long id), (1, .long gs), (2, .long ((len &&& (9223372036854775807 : Int64)) ^^^ (d &&& (9223372036854775807 : Int64))))])], 2, 6)) rfl ?_
          refine EW.call rfl (weq_23 _ _ A id gs (len &&& (9223372036854775807 : Int64)) id gs ((len &&& (9223372036854775807 : Int64)) ^^^ (d &&& (9223372036854775807 : Int64)))) ?_
          rintro _ _ _ _ ⟨z, e0, ⟨rfl, hz⟩ | ⟨rfl, hz⟩⟩
          · cases e0; have h5 := hz; clear hz
            show EW _ _ _ _ _ ((250, [.val (.long id), .second, .val (.long gs), .second, .val (.long len), .second, .val (.long d), .second, .val (.long e), .second, .val (.int sel), .val (.long (len &&& (9223372036854775807 : Int64))), .second, .val (.int (0 : Int32)), .val (.int (0 : Int32)), .val (.int (1 : Int32)), .val (.long id), .second, .val (.long gs), .second, .val (.long (d &&& (9223372036854775807 : Int64))), .second, .val (.long ((len &&& (9223372036854775807 : Int64)) ^^^ (d &&& (9223372036854775807 : Int64)))), .second, .val (.ref 2), .val (.ref 3), .val (.int ((XT.ushr sel (3 : Int32)) &&& (3 : Int32))), .val (.int (0 : Int32))], [.int (1 : Int32)]), [.inl (.object "java/lang/Long", A), .inr (1, []), .inr (0, [(0, .long id), (1, .long gs), (2, .long (len &&& (9223372036854775807 : Int64)))]), .inr (0, [(0, .long id), (1, .long gs), (2, .long ((len &&& (9223372036854775807 : Int64)) ^^^ (d &&& (9223372036854775807 : Int64))))])], 2, 6)
            refine EW.run 3 (cf' := ((272, [.val (.long id), .second, .val (.long gs), .second, .val (.long len), .second, .val (.long d), .second, .val (.long e), .second, .val (.int sel), .val (.long (len &&& (9223372036854775807 : Int64))), .second, .val (.int (0 : Int32)), .val (.int (0 : Int32)), .val (.int (1 : Int32)), .val (.long id), .second, .val (.long gs), .second, .val (.long (d &&& (9223372036854775807 : Int64))), .second, .val (.long ((len &&& (9223372036854775807 : Int64)) ^^^ (d &&& (9223372036854775807 : Int64)))), .second, .val (.ref 2), .val (.ref 3), .val (.int ((XT.ushr sel (3 : Int32)) &&& (3 : Int32))), .val (.int (0 : Int32))], [.int (0 : Int32)]), [.inl (.object "java/lang/Long", A), .inr (1, []), .inr (0, [(0, .long id), (1, .long gs), (2, .long (len &&& (9223372036854775807 : Int64)))]), .inr (0, [(0, .long id), (1, .long gs), (2, .long ((len &&& (9223372036854775807 : Int64)) ^^^ (d &&& (9223372036854775807 : Int64))))])], 2, 6)) rfl ?_
            exfalso
            have := rng32 ((XT.ushr sel (3 : Int32)) &&& (3 : Int32))
            have := rng32 (XT.ushr sel (3 : Int32))
            have := rng32 sel
            have lt0 : (3 : Int32).toInt = 3 := by decide
            have : (XT.ushr sel (3 : Int32)).toInt = (sel.toInt % 4294967296) / 8 := c_iushr sel (3 : Int32) 3 (by decide) (by decide)
            have : ((XT.ushr sel (3 : Int32)) &&& (3 : Int32)).toInt = (XT.ushr sel (3 : Int32)).toInt % 4 := c_mask (XT.ushr sel (3 : Int32)) (3 : Int32) 2 (by decide) (by decide)
            have lt1 : (1 : Int32).toInt = 1 := by decide
            have lt2 : (2 : Int32).toInt = 2 := by decide
            have := rng64 (d &&& (9223372036854775807 : Int64))
            have := rng64 d
            have lt3 : (9223372036854775807 : Int64).toInt = 9223372036854775807 := by decide
            have : (d &&& (9223372036854775807 : Int64)).toInt = d.toInt % 9223372036854775808 := c_maskL d (9223372036854775807 : Int64) 63 (by decide) (by decide)
            have lt4 : (0 : Int64).toInt = 0 := by decide
            have := rng64 ((len &&& (9223372036854775807 : Int64)) ^^^ (d &&& (9223372036854775807 : Int64)))
            have := rng64 (len &&& (9223372036854775807 : Int64))
            have := rng64 len
            have : (len &&& (9223372036854775807 : Int64)).toInt = len.toInt % 9223372036854775808 := c_maskL len (9223372036854775807 : Int64) 63 (by decide) (by decide)
            have := c_xorSL (len &&& (9223372036854775807 : Int64)) (d &&& (9223372036854775807 : Int64))
            have := own_xor (len &&& (9223372036854775807 : Int64)) (d &&& (9223372036854775807 : Int64))
            omega
          · cases e0; have h5 := hz; clear hz
            show EW _ _ _ _ _ ((250, [.val (.long id), .second, .val (.long gs), .second, .val (.long len), .second, .val (.long d), .second, .val (.long e), .second, .val (.int sel), .val (.long (len &&& (9223372036854775807 : Int64))), .second, .val (.int (0 : Int32)), .val (.int (0 : Int32)), .val (.int (1 : Int32)), .val (.long id), .second, .val (.long gs), .second, .val (.long (d &&& (9223372036854775807 : Int64))), .second, .val (.long ((len &&& (9223372036854775807 : Int64)) ^^^ (d &&& (9223372036854775807 : Int64)))), .second, .val (.ref 2), .val (.ref 3), .val (.int ((XT.ushr sel (3 : Int32)) &&& (3 : Int32))), .val (.int (0 : Int32))], [.int (0 : Int32)]), [.inl (.object "java/lang/Long", A), .inr (1, []), .inr (0, [(0, .long id), (1, .long gs), (2, .long (len &&& (9223372036854775807 : Int64)))]), .inr (0, [(0, .long id), (1, .long gs), (2, .long ((len &&& (9223372036854775807 : Int64)) ^^^ (d &&& (9223372036854775807 : Int64))))])], 2, 6)
            refine EW.run 4 (cf' := ((259, [.val (.long id), .second, .val (.long gs), .second, .val (.long len), .second, .val (.long d), .second, .val (.long e), .second, .val (.int sel), .val (.long (len &&& (9223372036854775807 : Int64))), .second, .val (.int (0 : Int32)), .val (.int (0 : Int32)), .val (.int (1 : Int32)), .val (.long id), .second, .val (.long gs), .second, .val (.long (d &&& (9223372036854775807 : Int64))), .second, .val (.long ((len &&& (9223372036854775807 : Int64)) ^^^ (d &&& (9223372036854775807 : Int64)))), .second, .val (.ref 2), .val (.ref 3), .val (.int ((XT.ushr sel (3 : Int32)) &&& (3 : Int32))), .val (.int (0 : Int32))], [.ref 2, .ref 3]), [.inl (.object "java/lang/Long", A), .inr (1, []), .inr (0, [(0, .long id), (1, .long gs), (2, .long (len &&& (9223372036854775807 : Int64)))]), .inr (0, [(0, .long id), (1, .long gs), (2, .long ((len &&& (9223372036854775807 : Int64)) ^^^ (d &&& (9223372036854775807 : Int64))))])], 2, 6)) rfl ?_
            refine EW.call rfl (weq_32 _ _ A id gs (len &&& (9223372036854775807 : Int64)) id gs ((len &&& (9223372036854775807 : Int64)) ^^^ (d &&& (9223372036854775807 : Int64)))) ?_
            rintro _ _ _ _ ⟨z, e0, ⟨rfl, hz⟩ | ⟨rfl, hz⟩⟩
            · cases e0; have h6 := hz; clear hz
              show EW _ _ _ _ _ ((262, [.val (.long id), .second, .val (.long gs), .second, .val (.long len), .second, .val (.long d), .second, .val (.long e), .second, .val (.int sel), .val (.long (len &&& (9223372036854775807 : Int64))), .second, .val (.int (0 : Int32)), .val (.int (0 : Int32)), .val (.int (1 : Int32)), .val (.long id), .second, .val (.long gs), .second, .val (.long (d &&& (9223372036854775807 : Int64))), .second, .val (.long ((len &&& (9223372036854775807 : Int64)) ^^^ (d &&& (9223372036854775807 : Int64)))), .second, .val (.ref 2), .val (.ref 3), .val (.int ((XT.ushr sel (3 : Int32)) &&& (3 : Int32))), .val (.int (0 : Int32))], [.int (1 : Int32)]), [.inl (.object "java/lang/Long", A), .inr (1, []), .inr (0, [(0, .long id), (1, .long gs), (2, .long (len &&& (9223372036854775807 : Int64)))]), .inr (0, [(0, .long id), (1, .long gs), (2, .long ((len &&& (9223372036854775807 : Int64)) ^^^ (d &&& (9223372036854775807 : Int64))))])], 2, 6)
              refine EW.run 3 (cf' := ((272, [.val (.long id), .second, .val (.long gs), .second, .val (.long len), .second, .val (.long d), .second, .val (.long e), .second, .val (.int sel), .val (.long (len &&& (9223372036854775807 : Int64))), .second, .val (.int (0 : Int32)), .val (.int (0 : Int32)), .val (.int (1 : Int32)), .val (.long id), .second, .val (.long gs), .second, .val (.long (d &&& (9223372036854775807 : Int64))), .second, .val (.long ((len &&& (9223372036854775807 : Int64)) ^^^ (d &&& (9223372036854775807 : Int64)))), .second, .val (.ref 2), .val (.ref 3), .val (.int ((XT.ushr sel (3 : Int32)) &&& (3 : Int32))), .val (.int (0 : Int32))], [.int (0 : Int32)]), [.inl (.object "java/lang/Long", A), .inr (1, []), .inr (0, [(0, .long id), (1, .long gs), (2, .long (len &&& (9223372036854775807 : Int64)))]), .inr (0, [(0, .long id), (1, .long gs), (2, .long ((len &&& (9223372036854775807 : Int64)) ^^^ (d &&& (9223372036854775807 : Int64))))])], 2, 6)) rfl ?_
              exfalso
              have := rng32 ((XT.ushr sel (3 : Int32)) &&& (3 : Int32))
              have := rng32 (XT.ushr sel (3 : Int32))
              have := rng32 sel
              have lt0 : (3 : Int32).toInt = 3 := by decide
              have : (XT.ushr sel (3 : Int32)).toInt = (sel.toInt % 4294967296) / 8 := c_iushr sel (3 : Int32) 3 (by decide) (by decide)
              have : ((XT.ushr sel (3 : Int32)) &&& (3 : Int32)).toInt = (XT.ushr sel (3 : Int32)).toInt % 4 := c_mask (XT.ushr sel (3 : Int32)) (3 : Int32) 2 (by decide) (by decide)
              have lt1 : (1 : Int32).toInt = 1 := by decide
              have lt2 : (2 : Int32).toInt = 2 := by decide
              have := rng64 (d &&& (9223372036854775807 : Int64))
              have := rng64 d
              have lt3 : (9223372036854775807 : Int64).toInt = 9223372036854775807 := by decide
              have : (d &&& (9223372036854775807 : Int64)).toInt = d.toInt % 9223372036854775808 := c_maskL d (9223372036854775807 : Int64) 63 (by decide) (by decide)
              have lt4 : (0 : Int64).toInt = 0 := by decide
              have := rng64 ((len &&& (9223372036854775807 : Int64)) ^^^ (d &&& (9223372036854775807 : Int64)))
              have := rng64 (len &&& (9223372036854775807 : Int64))
              have := rng64 len
              have : (len &&& (9223372036854775807 : Int64)).toInt = len.toInt % 9223372036854775808 := c_maskL len (9223372036854775807 : Int64) 63 (by decide) (by decide)
              have := c_xorSL (len &&& (9223372036854775807 : Int64)) (d &&& (9223372036854775807 : Int64))
              have := own_xor (len &&& (9223372036854775807 : Int64)) (d &&& (9223372036854775807 : Int64))
              omega
            · cases e0; have h6 := hz; clear hz
              show EW _ _ _ _ _ ((262, [.val (.long id), .second, .val (.long gs), .second, .val (.long len), .second, .val (.long d), .second, .val (.long e), .second, .val (.int sel), .val (.long (len &&& (9223372036854775807 : Int64))), .second, .val (.int (0 : Int32)), .val (.int (0 : Int32)), .val (.int (1 : Int32)), .val (.long id), .second, .val (.long gs), .second, .val (.long (d &&& (9223372036854775807 : Int64))), .second, .val (.long ((len &&& (9223372036854775807 : Int64)) ^^^ (d &&& (9223372036854775807 : Int64)))), .second, .val (.ref 2), .val (.ref 3), .val (.int ((XT.ushr sel (3 : Int32)) &&& (3 : Int32))), .val (.int (0 : Int32))], [.int (0 : Int32)]), [.inl (.object "java/lang/Long", A), .inr (1, []), .inr (0, [(0, .long id), (1, .long gs), (2, .long (len &&& (9223372036854775807 : Int64)))]), .inr (0, [(0, .long id), (1, .long gs), (2, .long ((len &&& (9223372036854775807 : Int64)) ^^^ (d &&& (9223372036854775807 : Int64))))])], 2, 6)
              refine EW.run 4 (cf' := ((272, [.val (.long id), .second, .val (.long gs), .second, .val (.long len), .second, .val (.long d), .second, .val (.long e), .second, .val (.int sel), .val (.long (len &&& (9223372036854775807 : Int64))), .second, .val (.int (0 : Int32)), .val (.int (0 : Int32)), .val (.int (1 : Int32)), .val (.long id), .second, .val (.long gs), .second, .val (.long (d &&& (9223372036854775807 : Int64))), .second, .val (.long ((len &&& (9223372036854775807 : Int64)) ^^^ (d &&& (9223372036854775807 : Int64)))), .second, .val (.ref 2), .val (.ref 3), .val (.int ((XT.ushr sel (3 : Int32)) &&& (3 : Int32))), .val (.int (0 : Int32))], [.int (1 : Int32)]), [.inl (.object "java/lang/Long", A), .inr (1, []), .inr (0, [(0, .long id), (1, .long gs), (2, .long (len &&& (9223372036854775807 : Int64)))]), .inr (0, [(0, .long id), (1, .long gs), (2, .long ((len &&& (9223372036854775807 : Int64)) ^^^ (d &&& (9223372036854775807 : Int64))))])], 2, 6)) rfl ?_
              exact EW.ret rfl ⟨rfl, Nat.le_of_ble_eq_true rfl, Nat.le_of_ble_eq_true rfl⟩
        · have h4 : (d &&& (9223372036854775807 : Int64)).toInt = (0 : Int64).toInt := by simp only [cP] at h; omega
          clear h
          show EW _ _ _ _ _ ((236, [.val (.long id), .second, .val (.long gs), .second, .val (.long len), .second, .val (.long d), .second, .val (.long e), .second, .val (.int sel), .val (.long (len &&& (9223372036854775807 : Int64))), .second, .val (.int (0 : Int32)), .val (.int (0 : Int32)), .val (.int (1 : Int32)), .val (.long id), .second, .val (.long gs), .second, .val (.long (d &&& (9223372036854775807 : Int64))), .second, .val (.long ((len &&& (9223372036854775807 : Int64)) ^^^ (d &&& (9223372036854775807 : Int64)))), .second, .val (.ref 2), .val (.ref 3), .val (.int ((XT.ushr sel (3 : Int32)) &&& (3 : Int32))), .unset], []), [.inl (.object "java/lang/Long", A), .inr (1, []), .inr (0, [(0, .long id), (1, .long gs), (2, .long (len &&& (9223372036854775807 : Int64)))]), .inr (0, [(0, .long id), (1, .long gs), (2, .long ((len &&& (9223372036854775807 : Int64)) ^^^ (d &&& (9223372036854775807 : Int64))))])], 2, 6)
          refine EW.run 5 (cf' := ((247, [.val (.long id), .second, .val (.long gs), .second, .val (.long len), .second, .val (.long d), .second, .val (.long e), .second, .val (.int sel), .val (.long (len &&& (9223372036854775807 : Int64))), .second, .val (.int (0 : Int32)), .val (.int (0 : Int32)), .val (.int (1 : Int32)), .val (.long id), .second, .val (.long gs), .second, .val (.long (d &&& (9223372036854775807 : Int64))), .second, .val (.long ((len &&& (9223372036854775807 : Int64)) ^^^ (d &&& (9223372036854775807 : Int64)))), .second, .val (.ref 2), .val (.ref 3), .val (.int ((XT.ushr sel (3 : Int32)) &&& (3 : Int32))), .val (.int (1 : Int32))], [.ref 3, .ref 2]), [.inl (.object "java/lang/Long", A), .inr (1, []), .inr (0, [(0, .long id), (1, .long gs), (2, .long (len &&& (9223372036854775807 : Int64)))]), .inr (0, [(0, .long id), (1, .long gs), (2, .long ((len &&& (9223372036854775807 : Int64)) ^^^ (d &&& (9223372036854775807 : Int64))))])], 2, 6)) rfl ?_
          refine EW.call rfl (weq_23 _ _ A id gs (len &&& (9223372036854775807 : Int64)) id gs ((len &&& (9223372036854775807 : Int64)) ^^^ (d &&& (9223372036854775807 : Int64)))) ?_
          rintro _ _ _ _ ⟨z, e0, ⟨rfl, hz⟩ | ⟨rfl, hz⟩⟩
          · cases e0; have h7 := hz; clear hz
            show EW _ _ _ _ _ ((250, [.val (.long id), .second, .val (.long gs), .second, .val (.long len), .second, .val (.long d), .second, .val (.long e), .second, .val (.int sel), .val (.long (len &&& (9223372036854775807 : Int64))), .second, .val (.int (0 : Int32)), .val (.int (0 : Int32)), .val (.int (1 : Int32)), .val (.long id), .second, .val (.long gs), .second, .val (.long (d &&& (9223372036854775807 : Int64))), .second, .val (.long ((len &&& (9223372036854775807 : Int64)) ^^^ (d &&& (9223372036854775807 : Int64)))), .second, .val (.ref 2), .val (.ref 3), .val (.int ((XT.ushr sel (3 : Int32)) &&& (3 : Int32))), .val (.int (1 : Int32))], [.int (1 : Int32)]), [.inl (.object "java/lang/Long", A), .inr (1, []), .inr (0, [(0, .long id), (1, .long gs), (2, .long (len &&& (9223372036854775807 : Int64)))]), .inr (0, [(0, .long id), (1, .long gs), (2, .long ((len &&& (9223372036854775807 : Int64)) ^^^ (d &&& (9223372036854775807 : Int64))))])], 2, 6)
            refine EW.run 4 (cf' := ((259, [.val (.long id), .second, .val (.long gs), .second, .val (.long len), .second, .val (.long d), .second, .val (.long e), .second, .val (.int sel), .val (.long (len &&& (9223372036854775807 : Int64))), .second, .val (.int (0 : Int32)), .val (.int (0 : Int32)), .val (.int (1 : Int32)), .val (.long id), .second, .val (.long gs), .second, .val (.long (d &&& (9223372036854775807 : Int64))), .second, .val (.long ((len &&& (9223372036854775807 : Int64)) ^^^ (d &&& (9223372036854775807 : Int64)))), .second, .val (.ref 2), .val (.ref 3), .val (.int ((XT.ushr sel (3 : Int32)) &&& (3 : Int32))), .val (.int (1 : Int32))], [.ref 2, .ref 3]), [.inl (.object "java/lang/Long", A), .inr (1, []), .inr (0, [(0, .long id), (1, .long gs), (2, .long (len &&& (9223372036854775807 : Int64)))]), .inr (0, [(0, .long id), (1, .long gs), (2, .long ((len &&& (9223372036854775807 : Int64)) ^^^ (d &&& (9223372036854775807 : Int64))))])], 2, 6)) rfl ?_
            refine EW.call rfl (weq_32 _ _ A id gs (len &&& (9223372036854775807 : Int64)) id gs ((len &&& (9223372036854775807 : Int64)) ^^^ (d &&& (9223372036854775807 : Int64)))) ?_
            rintro _ _ _ _ ⟨z, e0, ⟨rfl, hz⟩ | ⟨rfl, hz⟩⟩
            · cases e0; have h8 := hz; clear hz
              show EW _ _ _ _ _ ((262, [.val (.long id), .second, .val (.long gs), .second, .val (.long len), .second, .val (.long d), .second, .val (.long e), .second, .val (.int sel), .val (.long (len &&& (9223372036854775807 : Int64))), .second, .val (.int (0 : Int32)), .val (.int (0 : Int32)), .val (.int (1 : Int32)), .val (.long id), .second, .val (.long gs), .second, .val (.long (d &&& (9223372036854775807 : Int64))), .second, .val (.long ((len &&& (9223372036854775807 : Int64)) ^^^ (d &&& (9223372036854775807 : Int64)))), .second, .val (.ref 2), .val (.ref 3), .val (.int ((XT.ushr sel (3 : Int32)) &&& (3 : Int32))), .val (.int (1 : Int32))], [.int (1 : Int32)]), [.inl (.object "java/lang/Long", A), .inr (1, []), .inr (0, [(0, .long id), (1, .long gs), (2, .long (len &&& (9223372036854775807 : Int64)))]), .inr (0, [(0, .long id), (1, .long gs), (2, .long ((len &&& (9223372036854775807 : Int64)) ^^^ (d &&& (9223372036854775807 : Int64))))])], 2, 6)
              refine EW.run 4 (cf' := ((272, [.val (.long id), .second, .val (.long gs), .second, .val (.long len), .second, .val (.long d), .second, .val (.long e), .second, .val (.int sel), .val (.long (len &&& (9223372036854775807 : Int64))), .second, .val (.int (0 : Int32)), .val (.int (0 : Int32)), .val (.int (1 : Int32)), .val (.long id), .second, .val (.long gs), .second, .val (.long (d &&& (9223372036854775807 : Int64))), .second, .val (.long ((len &&& (9223372036854775807 : Int64)) ^^^ (d &&& (9223372036854775807 : Int64)))), .second, .val (.ref 2), .val (.ref 3), .val (.int ((XT.ushr sel (3 : Int32)) &&& (3 : Int32))), .val (.int (1 : Int32))], [.int (1 : Int32)]), [.inl (.object "java/lang/Long", A), .inr (1, []), .inr (0, [(0, .long id), (1, .long gs), (2, .long (len &&& (9223372036854775807 : Int64)))]), .inr (0, [(0, .long id), (1, .long gs), (2, .long ((len &&& (9223372036854775807 : Int64)) ^^^ (d &&& (9223372036854775807 : Int64))))])], 2, 6)) rfl ?_
              exact EW.ret rfl ⟨rfl, Nat.le_of_ble_eq_true rfl, Nat.le_of_ble_eq_true rfl⟩
            · cases e0; have h8 := hz; clear hz
              show EW _ _ _ _ _ ((262, [.val (.long id), .second, .val (.long gs), .second, .val (.long len), .second, .val (.long d), .second, .val (.long e), .second, .val (.int sel), .val (.long (len &&& (9223372036854775807 : Int64))), .second, .val (.int (0 : Int32)), .val (.int (0 : Int32)), .val (.int (1 : Int32)), .val (.long id), .second, .val (.long gs), .second, .val (.long (d &&& (9223372036854775807 : Int64))), .second, .val (.long ((len &&& (9223372036854775807 : Int64)) ^^^ (d &&& (9223372036854775807 : Int64)))), .second, .val (.ref 2), .val (.ref 3), .val (.int ((XT.ushr sel (3 : Int32)) &&& (3 : Int32))), .val (.int (1 : Int32))], [.int (0 : Int32)]), [.inl (.object "java/lang/Long", A), .inr (1, []), .inr (0, [(0, .long id), (1, .long gs), (2, .long (len &&& (9223372036854775807 : Int64)))]), .inr (0, [(0, .long id), (1, .long gs), (2, .long ((len &&& (9223372036854775807 : Int64)) ^^^ (d &&& (9223372036854775807 : Int64))))])], 2, 6)
              refine EW.run 3 (cf' := ((272, [.val (.long id), .second, .val (.long gs), .second, .val (.long len), .second, .val (.long d), .second, .val (.long e), .second, .val (.int sel), .val (.long (len &&& (9223372036854775807 : Int64))), .second, .val (.int (0 : Int32)), .val (.int (0 : Int32)), .val (.int (1 : Int32)), .val (.long id), .second, .val (.long gs), .second, .val (.long (d &&& (9223372036854775807 : Int64))), .second, .val (.long ((len &&& (9223372036854775807 : Int64)) ^^^ (d &&& (9223372036854775807 : Int64)))), .second, .val (.ref 2), .val (.ref 3), .val (.int ((XT.ushr sel (3 : Int32)) &&& (3 : Int32))), .val (.int (1 : Int32))], [.int (0 : Int32)]), [.inl (.object "java/lang/Long", A), .inr (1, []), .inr (0, [(0, .long id), (1, .long gs), (2, .long (len &&& (9223372036854775807 : Int64)))]), .inr (0, [(0, .long id), (1, .long gs), (2, .long ((len &&& (9223372036854775807 : Int64)) ^^^ (d &&& (9223372036854775807 : Int64))))])], 2, 6)) rfl ?_
              exfalso
              have := rng32 ((XT.ushr sel (3 : Int32)) &&& (3 : Int32))
              have := rng32 (XT.ushr sel (3 : Int32))
              have := rng32 sel
              have lt0 : (3 : Int32).toInt = 3 := by decide
              have : (XT.ushr sel (3 : Int32)).toInt = (sel.toInt % 4294967296) / 8 := c_iushr sel (3 : Int32) 3 (by decide) (by decide)
              have : ((XT.ushr sel (3 : Int32)) &&& (3 : Int32)).toInt = (XT.ushr sel (3 : Int32)).toInt % 4 := c_mask (XT.ushr sel (3 : Int32)) (3 : Int32) 2 (by decide) (by decide)
              have lt1 : (1 : Int32).toInt = 1 := by decide
              have lt2 : (2 : Int32).toInt = 2 := by decide
              have := rng64 (d &&& (9223372036854775807 : Int64))
              have := rng64 d
              have lt3 : (9223372036854775807 : Int64).toInt = 9223372036854775807 := by decide
              have : (d &&& (9223372036854775807 : Int64)).toInt = d.toInt % 9223372036854775808 := c_maskL d (9223372036854775807 : Int64) 63 (by decide) (by decide)
              have lt4 : (0 : Int64).toInt = 0 := by decide
              have := rng64 ((len &&& (9223372036854775807 : Int64)) ^^^ (d &&& (9223372036854775807 : Int64)))
              have := rng64 (len &&& (9223372036854775807 : Int64))
              have := rng64 len
              have : (len &&& (9223372036854775807 : Int64)).toInt = len.toInt % 9223372036854775808 := c_maskL len (9223372036854775807 : Int64) 63 (by decide) (by decide)
              have := c_xorSL (len &&& (9223372036854775807 : Int64)) (d &&& (9223372036854775807 : Int64))
              have := own_xor (len &&& (9223372036854775807 : Int64)) (d &&& (9223372036854775807 : Int64))
              omega
          · cases e0; have h7 := hz; clear hz
            show EW _ _ _ _ _ ((250, [.val (.long id), .second, .val (.long gs), .second, .val (.long len), .second, .val (.long d), .second, .val (.long e), .second, .val (.int sel), .val (.long (len &&& (9223372036854775807 : Int64))), .second, .val (.int (0 : Int32)), .val (.int (0 : Int32)), .val (.int (1 : Int32)), .val (.long id), .second, .val (.long gs), .second, .val (.long (d &&& (9223372036854775807 : Int64))), .second, .val (.long ((len &&& (9223372036854775807 : Int64)) ^^^ (d &&& (9223372036854775807 : Int64)))), .second, .val (.ref 2), .val (.ref 3), .val (.int ((XT.ushr sel (3 : Int32)) &&& (3 : Int32))), .val (.int (1 : Int32))], [.int (0 : Int32)]), [.inl (.object "java/lang/Long", A), .inr (1, []), .inr (0, [(0, .long id), (1, .long gs), (2, .long (len &&& (9223372036854775807 : Int64)))]), .inr (0, [(0, .long id), (1, .long gs), (2, .long ((len &&& (9223372036854775807 : Int64)) ^^^ (d &&& (9223372036854775807 : Int64))))])], 2, 6)
            refine EW.run 3 (cf' := ((272, [.val (.long id), .second, .val (.long gs), .second, .val (.long len), .second, .val (.long d), .second, .val (.long e), .second, .val (.int sel), .val (.long (len &&& (9223372036854775807 : Int64))), .second, .val (.int (0 : Int32)), .val (.int (0 : Int32)), .val (.int (1 : Int32)), .val (.long id), .second, .val (.long gs), .second, .val (.long (d &&& (9223372036854775807 : Int64))), .second, .val (.long ((len &&& (9223372036854775807 : Int64)) ^^^ (d &&& (9223372036854775807 : Int64)))), .second, .val (.ref 2), .val (.ref 3), .val (.int ((XT.ushr sel (3 : Int32)) &&& (3 : Int32))), .val (.int (1 : Int32))], [.int (0 : Int32)]), [.inl (.object "java/lang/Long", A), .inr (1, []), .inr (0, [(0, .long id), (1, .long gs), (2, .long (len &&& (9223372036854775807 : Int64)))]), .inr (0, [(0, .long id), (1, .long gs), (2, .long ((len &&& (9223372036854775807 : Int64)) ^^^ (d &&& (9223372036854775807 : Int64))))])], 2, 6)) rfl ?_
            exfalso
            have := rng32 ((XT.ushr sel (3 : Int32)) &&& (3 : Int32))
            have := rng32 (XT.ushr sel (3 : Int32))
            have := rng32 sel
            have lt0 : (3 : Int32).toInt = 3 := by decide
            have : (XT.ushr sel (3 : Int32)).toInt = (sel.toInt % 4294967296) / 8 := c_iushr sel (3 : Int32) 3 (by decide) (by decide)
            have : ((XT.ushr sel (3 : Int32)) &&& (3 : Int32)).toInt = (XT.ushr sel (3 : Int32)).toInt % 4 := c_mask (XT.ushr sel (3 : Int32)) (3 : Int32) 2 (by decide) (by decide)
            have lt1 : (1 : Int32).toInt = 1 := by decide
            have lt2 : (2 : Int32).toInt = 2 := by decide
            have := rng64 (d &&& (9223372036854775807 : Int64))
            have := rng64 d
            have lt3 : (9223372036854775807 : Int64).toInt = 9223372036854775807 := by decide
            have : (d &&& (9223372036854775807 : Int64)).toInt = d.toInt % 9223372036854775808 := c_maskL d (9223372036854775807 : Int64) 63 (by decide) (by decide)
            have lt4 : (0 : Int64).toInt = 0 := by decide
            have := rng64 ((len &&& (9223372036854775807 : Int64)) ^^^ (d &&& (9223372036854775807 : Int64)))
            have := rng64 (len &&& (9223372036854775807 : Int64))
            have := rng64 len
            have : (len &&& (9223372036854775807 : Int64)).toInt = len.toInt % 9223372036854775808 := c_maskL len (9223372036854775807 : Int64) 63 (by decide) (by decide)
            have := c_xorSL (len &&& (9223372036854775807 : Int64)) (d &&& (9223372036854775807 : Int64))
            have := own_xor (len &&& (9223372036854775807 : Int64)) (d &&& (9223372036854775807 : Int64))
            omega
      · have h3 : ((XT.ushr sel (3 : Int32)) &&& (3 : Int32)).toInt = (3 : Int32).toInt := by simp only [cP] at h; omega
        clear h
        show EW _ _ _ _ _ ((192, [.val (.long id), .second, .val (.long gs), .second, .val (.long len), .second, .val (.long d), .second, .val (.long e), .second, .val (.int sel), .val (.long (len &&& (9223372036854775807 : Int64))), .second, .val (.int (0 : Int32)), .val (.int (0 : Int32)), .val (.int (1 : Int32)), .val (.long id), .second, .val (.long gs), .second, .val (.long (d &&& (9223372036854775807 : Int64))), .second, .val (.long ((len &&& (9223372036854775807 : Int64)) ^^^ (d &&& (9223372036854775807 : Int64)))), .second, .val (.ref 2), .val (.ref 3), .val (.int ((XT.ushr sel (3 : Int32)) &&& (3 : Int32))), .unset], []), [.inl (.object "java/lang/Long", A), .inr (1, []), .inr (0, [(0, .long id), (1, .long gs), (2, .long (len &&& (9223372036854775807 : Int64)))]), .inr (0, [(0, .long id), (1, .long gs), (2, .long ((len &&& (9223372036854775807 : Int64)) ^^^ (d &&& (9223372036854775807 : Int64))))])], 2, 6)
        refine EW.run 2 (cf' := ((196, [.val (.long id), .second, .val (.long gs), .second, .val (.long len), .second, .val (.long d), .second, .val (.long e), .second, .val (.int sel), .val (.long (len &&& (9223372036854775807 : Int64))), .second, .val (.int (0 : Int32)), .val (.int (0 : Int32)), .val (.int (1 : Int32)), .val (.long id), .second, .val (.long gs), .second, .val (.long (d &&& (9223372036854775807 : Int64))), .second, .val (.long ((len &&& (9223372036854775807 : Int64)) ^^^ (d &&& (9223372036854775807 : Int64)))), .second, .val (.ref 2), .val (.ref 3), .val (.int ((XT.ushr sel (3 : Int32)) &&& (3 : Int32))), .unset], [.ref 2, .ref 2]), [.inl (.object "java/lang/Long", A), .inr (1, []), .inr (0, [(0, .long id), (1, .long gs), (2, .long (len &&& (9223372036854775807 : Int64)))]), .inr (0, [(0, .long id), (1, .long gs), (2, .long ((len &&& (9223372036854775807 : Int64)) ^^^ (d &&& (9223372036854775807 : Int64))))])], 2, 6)) rfl ?_
        refine EW.call rfl (weq_22 _ _ A id gs (len &&& (9223372036854775807 : Int64)) id gs ((len &&& (9223372036854775807 : Int64)) ^^^ (d &&& (9223372036854775807 : Int64)))) ?_
        rintro _ _ _ _ ⟨z, e0, ⟨rfl, hz⟩ | ⟨rfl, hz⟩⟩
        · cases e0; have h9 := hz; clear hz
          show EW _ _ _ _ _ ((199, [.val (.long id), .second, .val (.long gs), .second, .val (.long len), .second, .val (.long d), .second, .val (.long e), .second, .val (.int sel), .val (.long (len &&& (9223372036854775807 : Int64))), .second, .val (.int (0 : Int32)), .val (.int (0 : Int32)), .val (.int (1 : Int32)), .val (.long id), .second, .val (.long gs), .second, .val (.long (d &&& (9223372036854775807 : Int64))), .second, .val (.long ((len &&& (9223372036854775807 : Int64)) ^^^ (d &&& (9223372036854775807 : Int64)))), .second, .val (.ref 2), .val (.ref 3), .val (.int ((XT.ushr sel (3 : Int32)) &&& (3 : Int32))), .unset], [.int (1 : Int32)]), [.inl (.object "java/lang/Long", A), .inr (1, []), .inr (0, [(0, .long id), (1, .long gs), (2, .long (len &&& (9223372036854775807 : Int64)))]), .inr (0, [(0, .long id), (1, .long gs), (2, .long ((len &&& (9223372036854775807 : Int64)) ^^^ (d &&& (9223372036854775807 : Int64))))])], 2, 6)
          exact EW.ret rfl ⟨rfl, Nat.le_of_ble_eq_true rfl, Nat.le_of_ble_eq_true rfl⟩
        · cases e0; have h9 := hz; clear hz
          show EW _ _ _ _ _ ((199, [.val (.long id), .second, .val (.long gs), .second, .val (.long len), .second, .val (.long d), .second, .val (.long e), .second, .val (.int sel), .val (.long (len &&& (9223372036854775807 : Int64))), .second, .val (.int (0 : Int32)), .val (.int (0 : Int32)), .val (.int (1 : Int32)), .val (.long id), .second, .val (.long gs), .second, .val (.long (d &&& (9223372036854775807 : Int64))), .second, .val (.long ((len &&& (9223372036854775807 : Int64)) ^^^ (d &&& (9223372036854775807 : Int64)))), .second, .val (.ref 2), .val (.ref 3), .val (.int ((XT.ushr sel (3 : Int32)) &&& (3 : Int32))), .unset], [.int (0 : Int32)]), [.inl (.object "java/lang/Long", A), .inr (1, []), .inr (0, [(0, .long id), (1, .long gs), (2, .long (len &&& (9223372036854775807 : Int64)))]), .inr (0, [(0, .long id), (1, .long gs), (2, .long ((len &&& (9223372036854775807 : Int64)) ^^^ (d &&& (9223372036854775807 : Int64))))])], 2, 6)
          exfalso
          have := rng32 ((XT.ushr sel (3 : Int32)) &&& (3 : Int32))
          have := rng32 (XT.ushr sel (3 : Int32))
          have := rng32 sel
          have lt0 : (3 : Int32).toInt = 3 := by decide
          have : (XT.ushr sel (3 : Int32)).toInt = (sel.toInt % 4294967296) / 8 := c_iushr sel (3 : Int32) 3 (by decide) (by decide)
          have : ((XT.ushr sel (3 : Int32)) &&& (3 : Int32)).toInt = (XT.ushr sel (3 : Int32)).toInt % 4 := c_mask (XT.ushr sel (3 : Int32)) (3 : Int32) 2 (by decide) (by decide)
          have lt1 : (1 : Int32).toInt = 1 := by decide
          have lt2 : (2 : Int32).toInt = 2 := by decide
          have := rng64 ((len &&& (9223372036854775807 : Int64)) ^^^ (d &&& (9223372036854775807 : Int64)))
          have := rng64 (len &&& (9223372036854775807 : Int64))
          have := rng64 len
          have lt3 : (9223372036854775807 : Int64).toInt = 9223372036854775807 := by decide
          have : (len &&& (9223372036854775807 : Int64)).toInt = len.toInt % 9223372036854775808 := c_maskL len (9223372036854775807 : Int64) 63 (by decide) (by decide)
          have := rng64 (d &&& (9223372036854775807 : Int64))
          have := rng64 d
          have : (d &&& (9223372036854775807 : Int64)).toInt = d.toInt % 9223372036854775808 := c_maskL d (9223372036854775807 : Int64) 63 (by decide) (by decide)
          have := c_xorSL (len &&& (9223372036854775807 : Int64)) (d &&& (9223372036854775807 : Int64))
          have := own_xor (len &&& (9223372036854775807 : Int64)) (d &&& (9223372036854775807 : Int64))
          omega
    · have h2 : ((XT.ushr sel (3 : Int32)) &&& (3 : Int32)).toInt = (2 : Int32).toInt := by simp only [cP] at h; omega
      clear h
      show EW _ _ _ _ _ ((171, [.val (.long id), .second, .val (.long gs), .second, .val (.long len), .second, .val (.long d), .second, .val (.long e), .second, .val (.int sel), .val (.long (len &&& (9223372036854775807 : Int64))), .second, .val (.int (0 : Int32)), .val (.int (0 : Int32)), .val (.int (1 : Int32)), .val (.long id), .second, .val (.long gs), .second, .val (.long (d &&& (9223372036854775807 : Int64))), .second, .val (.long ((len &&& (9223372036854775807 : Int64)) ^^^ (d &&& (9223372036854775807 : Int64)))), .second, .val (.ref 2), .val (.ref 3), .val (.int ((XT.ushr sel (3 : Int32)) &&& (3 : Int32))), .unset], []), [.inl (.object "java/lang/Long", A), .inr (1, []), .inr (0, [(0, .long id), (1, .long gs), (2, .long (len &&& (9223372036854775807 : Int64)))]), .inr (0, [(0, .long id), (1, .long gs), (2, .long ((len &&& (9223372036854775807 : Int64)) ^^^ (d &&& (9223372036854775807 : Int64))))])], 2, 6)
      refine EW.run 2 (cf' := ((174, [.val (.long id), .second, .val (.long gs), .second, .val (.long len), .second, .val (.long d), .second, .val (.long e), .second, .val (.int sel), .val (.long (len &&& (9223372036854775807 : Int64))), .second, .val (.int (0 : Int32)), .val (.int (0 : Int32)), .val (.int (1 : Int32)), .val (.long id), .second, .val (.long gs), .second, .val (.long (d &&& (9223372036854775807 : Int64))), .second, .val (.long ((len &&& (9223372036854775807 : Int64)) ^^^ (d &&& (9223372036854775807 : Int64)))), .second, .val (.ref 2), .val (.ref 3), .val (.int ((XT.ushr sel (3 : Int32)) &&& (3 : Int32))), .unset], [.null, .ref 2]), [.inl (.object "java/lang/Long", A), .inr (1, []), .inr (0, [(0, .long id), (1, .long gs), (2, .long (len &&& (9223372036854775807 : Int64)))]), .inr (0, [(0, .long id), (1, .long gs), (2, .long ((len &&& (9223372036854775807 : Int64)) ^^^ (d &&& (9223372036854775807 : Int64))))])], 2, 6)) rfl ?_
      refine EW.call (Qc := fun r => r = (some (.int (0 : Int32)), [.inl (.object "java/lang/Long", A), .inr (1, []), .inr (0, [(0, .long id), (1, .long gs), (2, .long (len &&& (9223372036854775807 : Int64)))]), .inr (0, [(0, .long id), (1, .long gs), (2, .long ((len &&& (9223372036854775807 : Int64)) ^^^ (d &&& (9223372036854775807 : Int64))))])], 0, 0)) rfl ?_ ?_
      · show EW _ _ _ _ _ ((0, [.val (.ref 2), .val (.null), .unset], []), [.inl (.object "java/lang/Long", A), .inr (1, []), .inr (0, [(0, .long id), (1, .long gs), (2, .long (len &&& (9223372036854775807 : Int64)))]), .inr (0, [(0, .long id), (1, .long gs), (2, .long ((len &&& (9223372036854775807 : Int64)) ^^^ (d &&& (9223372036854775807 : Int64))))])], 0, 0)
        refine EW.run 4 (cf' := ((8, [.val (.ref 2), .val (.null), .unset], [.int (0 : Int32)]), [.inl (.object "java/lang/Long", A), .inr (1, []), .inr (0, [(0, .long id), (1, .long gs), (2, .long (len &&& (9223372036854775807 : Int64)))]), .inr (0, [(0, .long id), (1, .long gs), (2, .long ((len &&& (9223372036854775807 : Int64)) ^^^ (d &&& (9223372036854775807 : Int64))))])], 0, 0)) rfl ?_
        exact EW.ret rfl rfl
      rintro _ _ _ _ ⟨⟩
      show EW _ _ _ _ _ ((177, [.val (.long id), .second, .val (.long gs), .second, .val (.long len), .second, .val (.long d), .second, .val (.long e), .second, .val (.int sel), .val (.long (len &&& (9223372036854775807 : Int64))), .second, .val (.int (0 : Int32)), .val (.int (0 : Int32)), .val (.int (1 : Int32)), .val (.long id), .second, .val (.long gs), .second, .val (.long (d &&& (9223372036854775807 : Int64))), .second, .val (.long ((len &&& (9223372036854775807 : Int64)) ^^^ (d &&& (9223372036854775807 : Int64)))), .second, .val (.ref 2), .val (.ref 3), .val (.int ((XT.ushr sel (3 : Int32)) &&& (3 : Int32))), .unset], [.int (0 : Int32)]), [.inl (.object "java/lang/Long", A), .inr (1, []), .inr (0, [(0, .long id), (1, .long gs), (2, .long (len &&& (9223372036854775807 : Int64)))]), .inr (0, [(0, .long id), (1, .long gs), (2, .long ((len &&& (9223372036854775807 : Int64)) ^^^ (d &&& (9223372036854775807 : Int64))))])], 2, 6)
      refine EW.run 3 (cf' := ((185, [.val (.long id), .second, .val (.long gs), .second, .val (.long len), .second, .val (.long d), .second, .val (.long e), .second, .val (.int sel), .val (.long (len &&& (9223372036854775807 : Int64))), .second, .val (.int (0 : Int32)), .val (.int (0 : Int32)), .val (.int (1 : Int32)), .val (.long id), .second, .val (.long gs), .second, .val (.long (d &&& (9223372036854775807 : Int64))), .second, .val (.long ((len &&& (9223372036854775807 : Int64)) ^^^ (d &&& (9223372036854775807 : Int64)))), .second, .val (.ref 2), .val (.ref 3), .val (.int ((XT.ushr sel (3 : Int32)) &&& (3 : Int32))), .unset], [.int (1 : Int32)]), [.inl (.object "java/lang/Long", A), .inr (1, []), .inr (0, [(0, .long id), (1, .long gs), (2, .long (len &&& (9223372036854775807 : Int64)))]), .inr (0, [(0, .long id), (1, .long gs), (2, .long ((len &&& (9223372036854775807 : Int64)) ^^^ (d &&& (9223372036854775807 : Int64))))])], 2, 6)) rfl ?_
      exact EW.ret rfl ⟨rfl, Nat.le_of_ble_eq_true rfl, Nat.le_of_ble_eq_true rfl⟩
  · have h1 : ((XT.ushr sel (3 : Int32)) &&& (3 : Int32)).toInt = (1 : Int32).toInt := by simp only [cP] at h; omega
    clear h
    show EW _ _ _ _ _ ((147, [.val (.long id), .second, .val (.long gs), .second, .val (.long len), .second, .val (.long d), .second, .val (.long e), .second, .val (.int sel), .val (.long (len &&& (9223372036854775807 : Int64))), .second, .val (.int (0 : Int32)), .val (.int (0 : Int32)), .val (.int (1 : Int32)), .val (.long id), .second, .val (.long gs), .second, .val (.long (d &&& (9223372036854775807 : Int64))), .second, .val (.long ((len &&& (9223372036854775807 : Int64)) ^^^ (d &&& (9223372036854775807 : Int64)))), .second, .val (.ref 2), .val (.ref 3), .val (.int ((XT.ushr sel (3 : Int32)) &&& (3 : Int32))), .unset], []), [.inl (.object "java/lang/Long", A), .inr (1, []), .inr (0, [(0, .long id), (1, .long gs), (2, .long (len &&& (9223372036854775807 : Int64)))]), .inr (0, [(0, .long id), (1, .long gs), (2, .long ((len &&& (9223372036854775807 : Int64)) ^^^ (d &&& (9223372036854775807 : Int64))))])], 2, 6)
    refine EW.run 2 (cf' := ((150, [.val (.long id), .second, .val (.long gs), .second, .val (.long len), .second, .val (.long d), .second, .val (.long e), .second, .val (.int sel), .val (.long (len &&& (9223372036854775807 : Int64))), .second, .val (.int (0 : Int32)), .val (.int (0 : Int32)), .val (.int (1 : Int32)), .val (.long id), .second, .val (.long gs), .second, .val (.long (d &&& (9223372036854775807 : Int64))), .second, .val (.long ((len &&& (9223372036854775807 : Int64)) ^^^ (d &&& (9223372036854775807 : Int64)))), .second, .val (.ref 2), .val (.ref 3), .val (.int ((XT.ushr sel (3 : Int32)) &&& (3 : Int32))), .unset], [.long id, .ref 2]), [.inl (.object "java/lang/Long", A), .inr (1, []), .inr (0, [(0, .long id), (1, .long gs), (2, .long (len &&& (9223372036854775807 : Int64)))]), .inr (0, [(0, .long id), (1, .long gs), (2, .long ((len &&& (9223372036854775807 : Int64)) ^^^ (d &&& (9223372036854775807 : Int64))))])], 2, 6)) rfl ?_
    refine EW.call rfl (wval A id gs (len &&& (9223372036854775807 : Int64)) id gs ((len &&& (9223372036854775807 : Int64)) ^^^ (d &&& (9223372036854775807 : Int64))) id hin) ?_
    rintro _ _ _ _ (e0 | e0)
    · cases e0
      show EW _ _ _ _ _ ((153, [.val (.long id), .second, .val (.long gs), .second, .val (.long len), .second, .val (.long d), .second, .val (.long e), .second, .val (.int sel), .val (.long (len &&& (9223372036854775807 : Int64))), .second, .val (.int (0 : Int32)), .val (.int (0 : Int32)), .val (.int (1 : Int32)), .val (.long id), .second, .val (.long gs), .second, .val (.long (d &&& (9223372036854775807 : Int64))), .second, .val (.long ((len &&& (9223372036854775807 : Int64)) ^^^ (d &&& (9223372036854775807 : Int64)))), .second, .val (.ref 2), .val (.ref 3), .val (.int ((XT.ushr sel (3 : Int32)) &&& (3 : Int32))), .unset], [.ref 1, .ref 2]), [.inl (.object "java/lang/Long", A), .inr (1, []), .inr (0, [(0, .long id), (1, .long gs), (2, .long (len &&& (9223372036854775807 : Int64)))]), .inr (0, [(0, .long id), (1, .long gs), (2, .long ((len &&& (9223372036854775807 : Int64)) ^^^ (d &&& (9223372036854775807 : Int64))))])], 2, 6)
      refine EW.call (Qc := fun r => r = (some (.int (0 : Int32)), [.inl (.object "java/lang/Long", A), .inr (1, []), .inr (0, [(0, .long id), (1, .long gs), (2, .long (len &&& (9223372036854775807 : Int64)))]), .inr (0, [(0, .long id), (1, .long gs), (2, .long ((len &&& (9223372036854775807 : Int64)) ^^^ (d &&& (9223372036854775807 : Int64))))])], 0, 0)) rfl ?_ ?_
      · show EW _ _ _ _ _ ((0, [.val (.ref 2), .val (.ref 1), .unset], []), [.inl (.object "java/lang/Long", A), .inr (1, []), .inr (0, [(0, .long id), (1, .long gs), (2, .long (len &&& (9223372036854775807 : Int64)))]), .inr (0, [(0, .long id), (1, .long gs), (2, .long ((len &&& (9223372036854775807 : Int64)) ^^^ (d &&& (9223372036854775807 : Int64))))])], 0, 0)
        refine EW.run 4 (cf' := ((8, [.val (.ref 2), .val (.ref 1), .unset], [.int (0 : Int32)]), [.inl (.object "java/lang/Long", A), .inr (1, []), .inr (0, [(0, .long id), (1, .long gs), (2, .long (len &&& (9223372036854775807 : Int64)))]), .inr (0, [(0, .long id), (1, .long gs), (2, .long ((len &&& (9223372036854775807 : Int64)) ^^^ (d &&& (9223372036854775807 : Int64))))])], 0, 0)) rfl ?_
        exact EW.ret rfl rfl
      rintro _ _ _ _ ⟨⟩
      show EW _ _ _ _ _ ((156, [.val (.long id), .second, .val (.long gs), .second, .val (.long len), .second, .val (.long d), .second, .val (.long e), .second, .val (.int sel), .val (.long (len &&& (9223372036854775807 : Int64))), .second, .val (.int (0 : Int32)), .val (.int (0 : Int32)), .val (.int (1 : Int32)), .val (.long id), .second, .val (.long gs), .second, .val (.long (d &&& (9223372036854775807 : Int64))), .second, .val (.long ((len &&& (9223372036854775807 : Int64)) ^^^ (d &&& (9223372036854775807 : Int64)))), .second, .val (.ref 2), .val (.ref 3), .val (.int ((XT.ushr sel (3 : Int32)) &&& (3 : Int32))), .unset], [.int (0 : Int32)]), [.inl (.object "java/lang/Long", A), .inr (1, []), .inr (0, [(0, .long id), (1, .long gs), (2, .long (len &&& (9223372036854775807 : Int64)))]), .inr (0, [(0, .long id), (1, .long gs), (2, .long ((len &&& (9223372036854775807 : Int64)) ^^^ (d &&& (9223372036854775807 : Int64))))])], 2, 6)
      refine EW.run 3 (cf' := ((164, [.val (.long id), .second, .val (.long gs), .second, .val (.long len), .second, .val (.long d), .second, .val (.long e), .second, .val (.int sel), .val (.long (len &&& (9223372036854775807 : Int64))), .second, .val (.int (0 : Int32)), .val (.int (0 : Int32)), .val (.int (1 : Int32)), .val (.long id), .second, .val (.long gs), .second, .val (.long (d &&& (9223372036854775807 : Int64))), .second, .val (.long ((len &&& (9223372036854775807 : Int64)) ^^^ (d &&& (9223372036854775807 : Int64)))), .second, .val (.ref 2), .val (.ref 3), .val (.int ((XT.ushr sel (3 : Int32)) &&& (3 : Int32))), .unset], [.int (1 : Int32)]), [.inl (.object "java/lang/Long", A), .inr (1, []), .inr (0, [(0, .long id), (1, .long gs), (2, .long (len &&& (9223372036854775807 : Int64)))]), .inr (0, [(0, .long id), (1, .long gs), (2, .long ((len &&& (9223372036854775807 : Int64)) ^^^ (d &&& (9223372036854775807 : Int64))))])], 2, 6)) rfl ?_
      exact EW.ret rfl ⟨rfl, Nat.le_of_ble_eq_true rfl, Nat.le_of_ble_eq_true rfl⟩
    · cases e0
      show EW _ _ _ _ _ ((153, [.val (.long id), .second, .val (.long gs), .second, .val (.long len), .second, .val (.long d), .second, .val (.long e), .second, .val (.int sel), .val (.long (len &&& (9223372036854775807 : Int64))), .second, .val (.int (0 : Int32)), .val (.int (0 : Int32)), .val (.int (1 : Int32)), .val (.long id), .second, .val (.long gs), .second, .val (.long (d &&& (9223372036854775807 : Int64))), .second, .val (.long ((len &&& (9223372036854775807 : Int64)) ^^^ (d &&& (9223372036854775807 : Int64)))), .second, .val (.ref 2), .val (.ref 3), .val (.int ((XT.ushr sel (3 : Int32)) &&& (3 : Int32))), .unset], [.ref 4, .ref 2]), [.inl (.object "java/lang/Long", A), .inr (1, []), .inr (0, [(0, .long id), (1, .long gs), (2, .long (len &&& (9223372036854775807 : Int64)))]), .inr (0, [(0, .long id), (1, .long gs), (2, .long ((len &&& (9223372036854775807 : Int64)) ^^^ (d &&& (9223372036854775807 : Int64))))]), .inr (1, [(4, .long id)])], 3, 7)
      refine EW.call (Qc := fun r => r = (some (.int (0 : Int32)), [.inl (.object "java/lang/Long", A), .inr (1, []), .inr (0, [(0, .long id), (1, .long gs), (2, .long (len &&& (9223372036854775807 : Int64)))]), .inr (0, [(0, .long id), (1, .long gs), (2, .long ((len &&& (9223372036854775807 : Int64)) ^^^ (d &&& (9223372036854775807 : Int64))))]), .inr (1, [(4, .long id)])], 0, 0)) rfl ?_ ?_
      · show EW _ _ _ _ _ ((0, [.val (.ref 2), .val (.ref 4), .unset], []), [.inl (.object "java/lang/Long", A), .inr (1, []), .inr (0, [(0, .long id), (1, .long gs), (2, .long (len &&& (9223372036854775807 : Int64)))]), .inr (0, [(0, .long id), (1, .long gs), (2, .long ((len &&& (9223372036854775807 : Int64)) ^^^ (d &&& (9223372036854775807 : Int64))))]), .inr (1, [(4, .long id)])], 0, 0)
        refine EW.run 4 (cf' := ((8, [.val (.ref 2), .val (.ref 4), .unset], [.int (0 : Int32)]), [.inl (.object "java/lang/Long", A), .inr (1, []), .inr (0, [(0, .long id), (1, .long gs), (2, .long (len &&& (9223372036854775807 : Int64)))]), .inr (0, [(0, .long id), (1, .long gs), (2, .long ((len &&& (9223372036854775807 : Int64)) ^^^ (d &&& (9223372036854775807 : Int64))))]), .inr (1, [(4, .long id)])], 0, 0)) rfl ?_
        exact EW.ret rfl rfl
      rintro _ _ _ _ ⟨⟩
      show EW _ _ _ _ _ ((156, [.val (.long id), .second, .val (.long gs), .second, .val (.long len), .second, .val (.long d), .second, .val (.long e), .second, .val (.int sel), .val (.long (len &&& (9223372036854775807 : Int64))), .second, .val (.int (0 : Int32)), .val (.int (0 : Int32)), .val (.int (1 : Int32)), .val (.long id), .second, .val (.long gs), .second, .val (.long (d &&& (9223372036854775807 : Int64))), .second, .val (.long ((len &&& (9223372036854775807 : Int64)) ^^^ (d &&& (9223372036854775807 : Int64)))), .second, .val (.ref 2), .val (.ref 3), .val (.int ((XT.ushr sel (3 : Int32)) &&& (3 : Int32))), .unset], [.int (0 : Int32)]), [.inl (.object "java/lang/Long", A), .inr (1, []), .inr (0, [(0, .long id), (1, .long gs), (2, .long (len &&& (9223372036854775807 : Int64)))]), .inr (0, [(0, .long id), (1, .long gs), (2, .long ((len &&& (9223372036854775807 : Int64)) ^^^ (d &&& (9223372036854775807 : Int64))))]), .inr (1, [(4, .long id)])], 3, 7)
      refine EW.run 3 (cf' := ((164, [.val (.long id), .second, .val (.long gs), .second, .val (.long len), .second, .val (.long d), .second, .val (.long e), .second, .val (.int sel), .val (.long (len &&& (9223372036854775807 : Int64))), .second, .val (.int (0 : Int32)), .val (.int (0 : Int32)), .val (.int (1 : Int32)), .val (.long id), .second, .val (.long gs), .second, .val (.long (d &&& (9223372036854775807 : Int64))), .second, .val (.long ((len &&& (9223372036854775807 : Int64)) ^^^ (d &&& (9223372036854775807 : Int64)))), .second, .val (.ref 2), .val (.ref 3), .val (.int ((XT.ushr sel (3 : Int32)) &&& (3 : Int32))), .unset], [.int (1 : Int32)]), [.inl (.object "java/lang/Long", A), .inr (1, []), .inr (0, [(0, .long id), (1, .long gs), (2, .long (len &&& (9223372036854775807 : Int64)))]), .inr (0, [(0, .long id), (1, .long gs), (2, .long ((len &&& (9223372036854775807 : Int64)) ^^^ (d &&& (9223372036854775807 : Int64))))]), .inr (1, [(4, .long id)])], 3, 7)) rfl ?_
      exact EW.ret rfl ⟨rfl, Nat.le_of_ble_eq_true rfl, Nat.le_of_ble_eq_true rfl⟩
set_option maxHeartbeats 8000000 in
theorem own_c2 (A : List Value) (id gs len d e : Int64) (sel : Int32) (hin : -128 ≤ id.toInt → id.toInt ≤ 127 → (¬ (id.toInt32 + 128) < 0 ∧ A[(id.toInt32 + 128).toNatClampNeg]? = some (.ref 1))) : EW gG 7 160 mL (fun r => r.1 = some (.int 1) ∧ r.2.2.1 ≤ 16 ∧ r.2.2.2 ≤ 128) ((105, [.val (.long id), .second, .val (.long gs), .second, .val (.long len), .second, .val (.long d), .second, .val (.long e), .second, .val (.int sel), .val (.long (len &&& (9223372036854775807 : Int64))), .second, .val (.int (0 : Int32)), .val (.int (1 : Int32)), .val (.int (0 : Int32)), .val (.long id), .second, .val (.long (gs ^^^ e)), .second, .val (.long (d &&& (9223372036854775807 : Int64))), .second, .val (.long (len &&& (9223372036854775807 : Int64))), .second, .unset, .unset, .unset, .unset], []), [.inl (.object "java/lang/Long", A), .inr (1, [])], 0, 0) := by
  have lz : (0 : Int64).toInt = 0 := by decide
  refine EW.run 5 (cf' := ((113, [.val (.long id), .second, .val (.long gs), .second, .val (.long len), .second, .val (.long d), .second, .val (.long e), .second, .val (.int sel), .val (.long (len &&& (9223372036854775807 : Int64))), .second, .val (.int (0 : Int32)), .val (.int (1 : Int32)), .val (.int (0 : Int32)), .val (.long id), .second, .val (.long (gs ^^^ e)), .second, .val (.long (d &&& (9223372036854775807 : Int64))), .second, .val (.long (len &&& (9223372036854775807 : Int64))), .second, .unset, .unset, .unset, .unset], [.long (len &&& (9223372036854775807 : Int64)), .long gs, .long id, .ref 2, .ref 2]), [.inl (.object "java/lang/Long", A), .inr (1, []), .inr (0, [(0, .long (0 : Int64)), (1, .long (0 : Int64)), (2, .long (0 : Int64))])], 1, 3)) rfl ?_
  refine EW.call (Qc := fun r => r = (none, [.inl (.object "java/lang/Long", A), .inr (1, []), .inr (0, [(0, .long id), (1, .long gs), (2, .long (len &&& (9223372036854775807 : Int64)))])], 0, 0)) rfl ?_ ?_
  · show EW _ _ _ _ _ ((0, [.val (.ref 2), .val (.long id), .second, .val (.long gs), .second, .val (.long (len &&& (9223372036854775807 : Int64))), .second], []), [.inl (.object "java/lang/Long", A), .inr (1, []), .inr (0, [(0, .long (0 : Int64)), (1, .long (0 : Int64)), (2, .long (0 : Int64))])], 0, 0)
    refine EW.run 5 (cf' := ((8, [.val (.ref 2), .val (.long id), .second, .val (.long gs), .second, .val (.long (len &&& (9223372036854775807 : Int64))), .second], [.int (XT.cmpL (len &&& (9223372036854775807 : Int64)) (0 : Int64))]), [.inl (.object "java/lang/Long", A), .inr (1, []), .inr (0, [(0, .long (0 : Int64)), (1, .long (0 : Int64)), (2, .long (0 : Int64))])], 0, 0)) rfl ?_
    refine EW.iflP rfl (by decide) (fun h => ?_) (fun h => ?_)
    · have h1 : (len &&& (9223372036854775807 : Int64)).toInt ≥ (0 : Int64).toInt := by simp only [cP] at h; omega
      clear h
      show EW _ _ _ _ _ ((27, [.val (.ref 2), .val (.long id), .second, .val (.long gs), .second, .val (.long (len &&& (9223372036854775807 : Int64))), .second], []), [.inl (.object "java/lang/Long", A), .inr (1, []), .inr (0, [(0, .long (0 : Int64)), (1, .long (0 : Int64)), (2, .long (0 : Int64))])], 0, 0)
      refine EW.run 6 (cf' := ((37, [.val (.ref 2), .val (.long id), .second, .val (.long gs), .second, .val (.long (len &&& (9223372036854775807 : Int64))), .second], []), [.inl (.object "java/lang/Long", A), .inr (1, []), .inr (0, [(0, .long id), (1, .long gs), (2, .long (0 : Int64))])], 0, 0)) rfl ?_
      refine EW.run 3 (cf' := ((43, [.val (.ref 2), .val (.long id), .second, .val (.long gs), .second, .val (.long (len &&& (9223372036854775807 : Int64))), .second], []), [.inl (.object "java/lang/Long", A), .inr (1, []), .inr (0, [(0, .long id), (1, .long gs), (2, .long (len &&& (9223372036854775807 : Int64)))])], 0, 0)) rfl ?_
      exact EW.ret rfl rfl
    · exfalso
      simp only [cP] at h
      have := rng64 (len &&& (9223372036854775807 : Int64))
      have := rng64 len
      have lt0 : (9223372036854775807 : Int64).toInt = 9223372036854775807 := by decide
      have : (len &&& (9223372036854775807 : Int64)).toInt = len.toInt % 9223372036854775808 := c_maskL len (9223372036854775807 : Int64) 63 (by decide) (by decide)
      have lt1 : (0 : Int64).toInt = 0 := by decide
      omega
  rintro _ _ _ _ ⟨⟩
  show EW _ _ _ _ _ ((116, [.val (.long id), .second, .val (.long gs), .second, .val (.long len), .second, .val (.long d), .second, .val (.long e), .second, .val (.int sel), .val (.long (len &&& (9223372036854775807 : Int64))), .second, .val (.int (0 : Int32)), .val (.int (1 : Int32)), .val (.int (0 : Int32)), .val (.long id), .second, .val (.long (gs ^^^ e)), .second, .val (.long (d &&& (9223372036854775807 : Int64))), .second, .val (.long (len &&& (9223372036854775807 : Int64))), .second, .unset, .unset, .unset, .unset], [.ref 2]), [.inl (.object "java/lang/Long", A), .inr (1, []), .inr (0, [(0, .long id), (1, .long gs), (2, .long (len &&& (9223372036854775807 : Int64)))])], 1, 3)
  refine EW.run 6 (cf' := ((128, [.val (.long id), .second, .val (.long gs), .second, .val (.long len), .second, .val (.long d), .second, .val (.long e), .second, .val (.int sel), .val (.long (len &&& (9223372036854775807 : Int64))), .second, .val (.int (0 : Int32)), .val (.int (1 : Int32)), .val (.int (0 : Int32)), .val (.long id), .second, .val (.long (gs ^^^ e)), .second, .val (.long (d &&& (9223372036854775807 : Int64))), .second, .val (.long (len &&& (9223372036854775807 : Int64))), .second, .val (.ref 2), .unset, .unset, .unset], [.long (len &&& (9223372036854775807 : Int64)), .long (gs ^^^ e), .long id, .ref 3, .ref 3]), [.inl (.object "java/lang/Long", A), .inr (1, []), .inr (0, [(0, .long id), (1, .long gs), (2, .long (len &&& (9223372036854775807 : Int64)))]), .inr (0, [(0, .long (0 : Int64)), (1, .long (0 : Int64)), (2, .long (0 : Int64))])], 2, 6)) rfl ?_
  refine EW.call (Qc := fun r => r = (none, [.inl (.object "java/lang/Long", A), .inr (1, []), .inr (0, [(0, .long id), (1, .long gs), (2, .long (len &&& (9223372036854775807 : Int64)))]), .inr (0, [(0, .long id), (1, .long (gs ^^^ e)), (2, .long (len &&& (9223372036854775807 : Int64)))])], 0, 0)) rfl ?_ ?_
  · show EW _ _ _ _ _ ((0, [.val (.ref 3), .val (.long id), .second, .val (.long (gs ^^^ e)), .second, .val (.long (len &&& (9223372036854775807 : Int64))), .second], []), [.inl (.object "java/lang/Long", A), .inr (1, []), .inr (0, [(0, .long id), (1, .long gs), (2, .long (len &&& (9223372036854775807 : Int64)))]), .inr (0, [(0, .long (0 : Int64)), (1, .long (0 : Int64)), (2, .long (0 : Int64))])], 0, 0)
    refine EW.run 5 (cf' := ((8, [.val (.ref 3), .val (.long id), .second, .val (.long (gs ^^^ e)), .second, .val (.long (len &&& (9223372036854775807 : Int64))), .second], [.int (XT.cmpL (len &&& (9223372036854775807 : Int64)) (0 : Int64))]), [.inl (.object "java/lang/Long", A), .inr (1, []), .inr (0, [(0, .long id), (1, .long gs), (2, .long (len &&& (9223372036854775807 : Int64)))]), .inr (0, [(0, .long (0 : Int64)), (1, .long (0 : Int64)), (2, .long (0 : Int64))])], 0, 0)) rfl ?_
    refine EW.iflP rfl (by decide) (fun h => ?_) (fun h => ?_)
    · have h1 : (len &&& (9223372036854775807 : Int64)).toInt ≥ (0 : Int64).toInt := by simp only [cP] at h; omega
      clear h
      show EW _ _ _ _ _ ((27, [.val (.ref 3), .val (.long id), .second, .val (.long (gs ^^^ e)), .second, .val (.long (len &&& (9223372036854775807 : Int64))), .second], []), [.inl (.object "java/lang/Long", A), .inr (1, []), .inr (0, [(0, .long id), (1, .long gs), (2, .long (len &&& (9223372036854775807 : Int64)))]), .inr (0, [(0, .long (0 : Int64)), (1, .long (0 : Int64)), (2, .long (0 : Int64))])], 0, 0)
      refine EW.run 6 (cf' := ((37, [.val (.ref 3), .val (.long id), .second, .val (.long (gs ^^^ e)), .second, .val (.long (len &&& (9223372036854775807 : Int64))), .second], []), [.inl (.object "java/lang/Long", A), .inr (1, []), .inr (0, [(0, .long id), (1, .long gs), (2, .long (len &&& (9223372036854775807 : Int64)))]), .inr (0, [(0, .long id), (1, .long (gs ^^^ e)), (2, .long (0 : Int64))])], 0, 0)) rfl ?_
      refine EW.run 3 (cf' := ((43, [.val (.ref 3), .val (.long id), .second, .val (.long (gs ^^^ e)), .second, .val (.long (len &&& (9223372036854775807 : Int64))), .second], []), [.inl (.object "java/lang/Long", A), .inr (1, []), .inr (0, [(0, .long id), (1, .long gs), (2, .long (len &&& (9223372036854775807 : Int64)))]), .inr (0, [(0, .long id), (1, .long (gs ^^^ e)), (2, .long (len &&& (9223372036854775807 : Int64)))])], 0, 0)) rfl ?_
      exact EW.ret rfl rfl
    · exfalso
      simp only [cP] at h
      have := rng64 (len &&& (9223372036854775807 : Int64))
      have := rng64 len
      have lt0 : (9223372036854775807 : Int64).toInt = 9223372036854775807 := by decide
      have : (len &&& (9223372036854775807 : Int64)).toInt = len.toInt % 9223372036854775808 := c_maskL len (9223372036854775807 : Int64) 63 (by decide) (by decide)
      have lt1 : (0 : Int64).toInt = 0 := by decide
      omega
  rintro _ _ _ _ ⟨⟩
  show EW _ _ _ _ _ ((131, [.val (.long id), .second, .val (.long gs), .second, .val (.long len), .second, .val (.long d), .second, .val (.long e), .second, .val (.int sel), .val (.long (len &&& (9223372036854775807 : Int64))), .second, .val (.int (0 : Int32)), .val (.int (1 : Int32)), .val (.int (0 : Int32)), .val (.long id), .second, .val (.long (gs ^^^ e)), .second, .val (.long (d &&& (9223372036854775807 : Int64))), .second, .val (.long (len &&& (9223372036854775807 : Int64))), .second, .val (.ref 2), .unset, .unset, .unset], [.ref 3]), [.inl (.object "java/lang/Long", A), .inr (1, []), .inr (0, [(0, .long id), (1, .long gs), (2, .long (len &&& (9223372036854775807 : Int64)))]), .inr (0, [(0, .long id), (1, .long (gs ^^^ e)), (2, .long (len &&& (9223372036854775807 : Int64)))])], 2, 6)
  refine EW.run 6 (cf' := ((139, [.val (.long id), .second, .val (.long gs), .second, .val (.long len), .second, .val (.long d), .second, .val (.long e), .second, .val (.int sel), .val (.long (len &&& (9223372036854775807 : Int64))), .second, .val (.int (0 : Int32)), .val (.int (1 : Int32)), .val (.int (0 : Int32)), .val (.long id), .second, .val (.long (gs ^^^ e)), .second, .val (.long (d &&& (9223372036854775807 : Int64))), .second, .val (.long (len &&& (9223372036854775807 : Int64))), .second, .val (.ref 2), .val (.ref 3), .unset, .unset], [.int ((XT.ushr sel (3 : Int32)) &&& (3 : Int32))]), [.inl (.object "java/lang/Long", A), .inr (1, []), .inr (0, [(0, .long id), (1, .long gs), (2, .long (len &&& (9223372036854775807 : Int64)))]), .inr (0, [(0, .long id), (1, .long (gs ^^^ e)), (2, .long (len &&& (9223372036854775807 : Int64)))])], 2, 6)) rfl ?_
  refine EW.run 3 (cf' := ((144, [.val (.long id), .second, .val (.long gs), .second, .val (.long len), .second, .val (.long d), .second, .val (.long e), .second, .val (.int sel), .val (.long (len &&& (9223372036854775807 : Int64))), .second, .val (.int (0 : Int32)), .val (.int (1 : Int32)), .val (.int (0 : Int32)), .val (.long id), .second, .val (.long (gs ^^^ e)), .second, .val (.long (d &&& (9223372036854775807 : Int64))), .second, .val (.long (len &&& (9223372036854775807 : Int64))), .second, .val (.ref 2), .val (.ref 3), .val (.int ((XT.ushr sel (3 : Int32)) &&& (3 : Int32))), .unset], [.int (1 : Int32), .int ((XT.ushr sel (3 : Int32)) &&& (3 : Int32))]), [.inl (.object "java/lang/Long", A), .inr (1, []), .inr (0, [(0, .long id), (1, .long gs), (2, .long (len &&& (9223372036854775807 : Int64)))]), .inr (0, [(0, .long id), (1, .long (gs ^^^ e)), (2, .long (len &&& (9223372036854775807 : Int64)))])], 2, 6)) rfl ?_
  refine EW.icmpP rfl (by decide) (fun h => ?_) (fun h => ?_)
  · have h1 : ((XT.ushr sel (3 : Int32)) &&& (3 : Int32)).toInt ≠ (1 : Int32).toInt := by simp only [cP] at h; omega
    clear h
    show EW _ _ _ _ _ ((165, [.val (.long id), .second, .val (.long gs), .second, .val (.long len), .second, .val (.long d), .second, .val (.long e), .second, .val (.int sel), .val (.long (len &&& (9223372036854775807 : Int64))), .second, .val (.int (0 : Int32)), .val (.int (1 : Int32)), .val (.int (0 : Int32)), .val (.long id), .second, .val (.long (gs ^^^ e)), .second, .val (.long (d &&& (9223372036854775807 : Int64))), .second, .val (.long (len &&& (9223372036854775807 : Int64))), .second, .val (.ref 2), .val (.ref 3), .val (.int ((XT.ushr sel (3 : Int32)) &&& (3 : Int32))), .unset], []), [.inl (.object "java/lang/Long", A), .inr (1, []), .inr (0, [(0, .long id), (1, .long gs), (2, .long (len &&& (9223372036854775807 : Int64)))]), .inr (0, [(0, .long id), (1, .long (gs ^^^ e)), (2, .long (len &&& (9223372036854775807 : Int64)))])], 2, 6)
    refine EW.run 2 (cf' := ((168, [.val (.long id), .second, .val (.long gs), .second, .val (.long len), .second, .val (.long d), .second, .val (.long e), .second, .val (.int sel), .val (.long (len &&& (9223372036854775807 : Int64))), .second, .val (.int (0 : Int32)), .val (.int (1 : Int32)), .val (.int (0 : Int32)), .val (.long id), .second, .val (.long (gs ^^^ e)), .second, .val (.long (d &&& (9223372036854775807 : Int64))), .second, .val (.long (len &&& (9223372036854775807 : Int64))), .second, .val (.ref 2), .val (.ref 3), .val (.int ((XT.ushr sel (3 : Int32)) &&& (3 : Int32))), .unset], [.int (2 : Int32), .int ((XT.ushr sel (3 : Int32)) &&& (3 : Int32))]), [.inl (.object "java/lang/Long", A), .inr (1, []), .inr (0, [(0, .long id), (1, .long gs), (2, .long (len &&& (9223372036854775807 : Int64)))]), .inr (0, [(0, .long id), (1, .long (gs ^^^ e)), (2, .long (len &&& (9223372036854775807 : Int64)))])], 2, 6)) rfl ?_
    refine EW.icmpP rfl (by decide) (fun h => ?_) (fun h => ?_)
    · have h2 : ((XT.ushr sel (3 : Int32)) &&& (3 : Int32)).toInt ≠ (2 : Int32).toInt := by simp only [cP] at h; omega
      clear h
      show EW _ _ _ _ _ ((186, [.val (.long id), .second, .val (.long gs), .second, .val (.long len), .second, .val (.long d), .second, .val (.long e), .second, .val (.int sel), .val (.long (len &&& (9223372036854775807 : Int64))), .second, .val (.int (0 : Int32)), .val (.int (1 : Int32)), .val (.int (0 : Int32)), .val (.long id), .second, .val (.long (gs ^^^ e)), .second, .val (.long (d &&& (9223372036854775807 : Int64))), .second, .val (.long (len &&& (9223372036854775807 : Int64))), .second, .val (.ref 2), .val (.ref 3), .val (.int ((XT.ushr sel (3 : Int32)) &&& (3 : Int32))), .unset], []), [.inl (.object "java/lang/Long", A), .inr (1, []), .inr (0, [(0, .long id), (1, .long gs), (2, .long (len &&& (9223372036854775807 : Int64)))]), .inr (0, [(0, .long id), (1, .long (gs ^^^ e)), (2, .long (len &&& (9223372036854775807 : Int64)))])], 2, 6)
      refine EW.run 2 (cf' := ((189, [.val (.long id), .second, .val (.long gs), .second, .val (.long len), .second, .val (.long d), .second, .val (.long e), .second, .val (.int sel), .val (.long (len &&& (9223372036854775807 : Int64))), .second, .val (.int (0 : Int32)), .val (.int (1 : Int32)), .val (.int (0 : Int32)), .val (.long id), .second, .val (.long (gs ^^^ e)), .second, .val (.long (d &&& (9223372036854775807 : Int64))), .second, .val (.long (len &&& (9223372036854775807 : Int64))), .second, .val (.ref 2), .val (.ref 3), .val (.int ((XT.ushr sel (3 : Int32)) &&& (3 : Int32))), .unset], [.int (3 : Int32), .int ((XT.ushr sel (3 : Int32)) &&& (3 : Int32))]), [.inl (.object "java/lang/Long", A), .inr (1, []), .inr (0, [(0, .long id), (1, .long gs), (2, .long (len &&& (9223372036854775807 : Int64)))]), .inr (0, [(0, .long id), (1, .long (gs ^^^ e)), (2, .long (len &&& (9223372036854775807 : Int64)))])], 2, 6)) rfl ?_
      refine EW.icmpP rfl (by decide) (fun h => ?_) (fun h => ?_)
      · have h3 : ((XT.ushr sel (3 : Int32)) &&& (3 : Int32)).toInt ≠ (3 : Int32).toInt := by simp only [cP] at h; omega
        clear h
        show EW _ _ _ _ _ ((200, [.val (.long id), .second, .val (.long gs), .second, .val (.long len), .second, .val (.long d), .second, .val (.long e), .second, .val (.int sel), .val (.long (len &&& (9223372036854775807 : Int64))), .second, .val (.int (0 : Int32)), .val (.int (1 : Int32)), .val (.int (0 : Int32)), .val (.long id), .second, .val (.long (gs ^^^ e)), .second, .val (.long (d &&& (9223372036854775807 : Int64))), .second, .val (.long (len &&& (9223372036854775807 : Int64))), .second, .val (.ref 2), .val (.ref 3), .val (.int ((XT.ushr sel (3 : Int32)) &&& (3 : Int32))), .unset], []), [.inl (.object "java/lang/Long", A), .inr (1, []), .inr (0, [(0, .long id), (1, .long gs), (2, .long (len &&& (9223372036854775807 : Int64)))]), .inr (0, [(0, .long id), (1, .long (gs ^^^ e)), (2, .long (len &&& (9223372036854775807 : Int64)))])], 2, 6)
        refine EW.run 6 (cf' := ((220, [.val (.long id), .second, .val (.long gs), .second, .val (.long len), .second, .val (.long d), .second, .val (.long e), .second, .val (.int sel), .val (.long (len &&& (9223372036854775807 : Int64))), .second, .val (.int (0 : Int32)), .val (.int (1 : Int32)), .val (.int (0 : Int32)), .val (.long id), .second, .val (.long (gs ^^^ e)), .second, .val (.long (d &&& (9223372036854775807 : Int64))), .second, .val (.long (len &&& (9223372036854775807 : Int64))), .second, .val (.ref 2), .val (.ref 3), .val (.int ((XT.ushr sel (3 : Int32)) &&& (3 : Int32))), .unset], [.long (0 : Int64), .long e]), [.inl (.object "java/lang/Long", A), .inr (1, []), .inr (0, [(0, .long id), (1, .long gs), (2, .long (len &&& (9223372036854775807 : Int64)))]), .inr (0, [(0, .long id), (1, .long (gs ^^^ e)), (2, .long (len &&& (9223372036854775807 : Int64)))])], 2, 6)) rfl ?_
        refine EW.run 1 (cf' := ((221, [.val (.long id), .second, .val (.long gs), .second, .val (.long len), .second, .val (.long d), .second, .val (.long e), .second, .val (.int sel), .val (.long (len &&& (9223372036854775807 : Int64))), .second, .val (.int (0 : Int32)), .val (.int (1 : Int32)), .val (.int (0 : Int32)), .val (.long id), .second, .val (.long (gs ^^^ e)), .second, .val (.long (d &&& (9223372036854775807 : Int64))), .second, .val (.long (len &&& (9223372036854775807 : Int64))), .second, .val (.ref 2), .val (.ref 3), .val (.int ((XT.ushr sel (3 : Int32)) &&& (3 : Int32))), .unset], [.int (XT.cmpL e (0 : Int64))]), [.inl (.object "java/lang/Long", A), .inr (1, []), .inr (0, [(0, .long id), (1, .long gs), (2, .long (len &&& (9223372036854775807 : Int64)))]), .inr (0, [(0, .long id), (1, .long (gs ^^^ e)), (2, .long (len &&& (9223372036854775807 : Int64)))])], 2, 6)) rfl ?_
        refine EW.iflP rfl (by decide) (fun h => ?_) (fun h => ?_)
        · have h4 : e.toInt ≠ (0 : Int64).toInt := by simp only [cP] at h; omega
          clear h
          show EW _ _ _ _ _ ((240, [.val (.long id), .second, .val (.long gs), .second, .val (.long len), .second, .val (.long d), .second, .val (.long e), .second, .val (.int sel), .val (.long (len &&& (9223372036854775807 : Int64))), .second, .val (.int (0 : Int32)), .val (.int (1 : Int32)), .val (.int (0 : Int32)), .val (.long id), .second, .val (.long (gs ^^^ e)), .second, .val (.long (d &&& (9223372036854775807 : Int64))), .second, .val (.long (len &&& (9223372036854775807 : Int64))), .second, .val (.ref 2), .val (.ref 3), .val (.int ((XT.ushr sel (3 : Int32)) &&& (3 : Int32))), .unset], []), [.inl (.object "java/lang/Long", A), .inr (1, []), .inr (0, [(0, .long id), (1, .long gs), (2, .long (len &&& (9223372036854775807 : Int64)))]), .inr (0, [(0, .long id), (1, .long (gs ^^^ e)), (2, .long (len &&& (9223372036854775807 : Int64)))])], 2, 6)
          refine EW.run 4 (cf' := ((247, [.val (.long id), .second, .val (.long gs), .second, .val (.long len), .second, .val (.long d), .second, .val (.long e), .second, .val (.int sel), .val (.long (len &&& (9223372036854775807 : Int64))), .second, .val (.int (0 : Int32)), .val (.int (1 : Int32)), .val (.int (0 : Int32)), .val (.long id), .second, .val (.long (gs ^^^ e)), .second, .val (.long (d &&& (9223372036854775807 : Int64))), .second, .val (.long (len &&& (9223372036854775807 : Int64))), .second, .val (.ref 2), .val (.ref 3), .val (.int ((XT.ushr sel (3 : Int32)) &&& (3 : Int32))), .val (.int (0 : Int32))], [.ref 3, .ref 2]), [.inl (.object "java/lang/Long", A), .inr (1, []), .inr (0, [(0, .long id), (1, .long gs), (2, .long (len &&& (9223372036854775807 : Int64)))]), .inr (0, [(0, .long id), (1, .long (gs ^^^ e)), (2, .long (len &&& (9223372036854775807 : Int64)))])], 2, 6)) rfl ?_
          refine EW.call rfl (weq_23 _ _ A id gs (len &&& (9223372036854775807 : Int64)) id (gs ^^^ e) (len &&& (9223372036854775807 : Int64))) ?_
          rintro _ _ _ _ ⟨z, e0, ⟨rfl, hz⟩ | ⟨rfl, hz⟩⟩
          · cases e0; have h5 := hz; clear hz
            show EW _ _ _ _ _ ((250, [.val (.long id), .second, .val (.long gs), .second, .val (.long len), .second, .val (.long d), .second, .val (.long e), .second, .val (.int sel), .val (.long (len &&& (9223372036854775807 : Int64))), .second, .val (.int (0 : Int32)), .val (.int (1 : Int32)), .val (.int (0 : Int32)), .val (.long id), .second, .val (.long (gs ^^^ e)), .second, .val (.long (d &&& (9223372036854775807 : Int64))), .second, .val (.long (len &&& (9223372036854775807 : Int64))), .second, .val (.ref 2), .val (.ref 3), .val (.int ((XT.ushr sel (3 : Int32)) &&& (3 : Int32))), .val (.int (0 : Int32))], [.int (1 : Int32)]), [.inl (.object "java/lang/Long", A), .inr (1, []), .inr (0, [(0, .long id), (1, .long gs), (2, .long (len &&& (9223372036854775807 : Int64)))]), .inr (0, [(0, .long id), (1, .long (gs ^^^ e)), (2, .long (len &&& (9223372036854775807 : Int64)))])], 2, 6)
            refine EW.run 3 (cf' := ((272, [.val (.long id), .second, .val (.long gs), .second, .val (.long len), .second, .val (.long d), .second, .val (.long e), .second, .val (.int sel), .val (.long (len &&& (9223372036854775807 : Int64))), .second, .val (.int (0 : Int32)), .val (.int (1 : Int32)), .val (.int (0 : Int32)), .val (.long id), .second, .val (.long (gs ^^^ e)), .second, .val (.long (d &&& (9223372036854775807 : Int64))), .second, .val (.long (len &&& (9223372036854775807 : Int64))), .second, .val (.ref 2), .val (.ref 3), .val (.int ((XT.ushr sel (3 : Int32)) &&& (3 : Int32))), .val (.int (0 : Int32))], [.int (0 : Int32)]), [.inl (.object "java/lang/Long", A), .inr (1, []), .inr (0, [(0, .long id), (1, .long gs), (2, .long (len &&& (9223372036854775807 : Int64)))]), .inr (0, [(0, .long id), (1, .long (gs ^^^ e)), (2, .long (len &&& (9223372036854775807 : Int64)))])], 2, 6)) rfl ?_
            exfalso
            have := rng32 ((XT.ushr sel (3 : Int32)) &&& (3 : Int32))
            have := rng32 (XT.ushr sel (3 : Int32))
            have := rng32 sel
            have lt0 : (3 : Int32).toInt = 3 := by decide
            have : (XT.ushr sel (3 : Int32)).toInt = (sel.toInt % 4294967296) / 8 := c_iushr sel (3 : Int32) 3 (by decide) (by decide)
            have : ((XT.ushr sel (3 : Int32)) &&& (3 : Int32)).toInt = (XT.ushr sel (3 : Int32)).toInt % 4 := c_mask (XT.ushr sel (3 : Int32)) (3 : Int32) 2 (by decide) (by decide)
            have lt1 : (1 : Int32).toInt = 1 := by decide
            have lt2 : (2 : Int32).toInt = 2 := by decide
            have := rng64 e
            have lt3 : (0 : Int64).toInt = 0 := by decide
            have := rng64 (gs ^^^ e)
            have := rng64 gs
            have := c_xorSL gs e
            have := own_xor gs e
            omega
          · cases e0; have h5 := hz; clear hz
            show EW _ _ _ _ _ ((250, [.val (.long id), .second, .val (.long gs), .second, .val (.long len), .second, .val (.long d), .second, .val (.long e), .second, .val (.int sel), .val (.long (len &&& (9223372036854775807 : Int64))), .second, .val (.int (0 : Int32)), .val (.int (1 : Int32)), .val (.int (0 : Int32)), .val (.long id), .second, .val (.long (gs ^^^ e)), .second, .val (.long (d &&& (9223372036854775807 : Int64))), .second, .val (.long (len &&& (9223372036854775807 : Int64))), .second, .val (.ref 2), .val (.ref 3), .val (.int ((XT.ushr sel (3 : Int32)) &&& (3 : Int32))), .val (.int (0 : Int32))], [.int (0 : Int32)]), [.inl (.object "java/lang/Long", A), .inr (1, []), .inr (0, [(0, .long id), (1, .long gs), (2, .long (len &&& (9223372036854775807 : Int64)))]), .inr (0, [(0, .long id), (1, .long (gs ^^^ e)), (2, .long (len &&& (9223372036854775807 : Int64)))])], 2, 6)
            refine EW.run 4 (cf' := ((259, [.val (.long id), .second, .val (.long gs), .second, .val (.long len), .second, .val (.long d), .second, .val (.long e), .second, .val (.int sel), .val (.long (len &&& (9223372036854775807 : Int64))), .second, .val (.int (0 : Int32)), .val (.int (1 : Int32)), .val (.int (0 : Int32)), .val (.long id), .second, .val (.long (gs ^^^ e)), .second, .val (.long (d &&& (9223372036854775807 : Int64))), .second, .val (.long (len &&& (9223372036854775807 : Int64))), .second, .val (.ref 2), .val (.ref 3), .val (.int ((XT.ushr sel (3 : Int32)) &&& (3 : Int32))), .val (.int (0 : Int32))], [.ref 2, .ref 3]), [.inl (.object "java/lang/Long", A), .inr (1, []), .inr (0, [(0, .long id), (1, .long gs), (2, .long (len &&& (9223372036854775807 : Int64)))]), .inr (0, [(0, .long id), (1, .long (gs ^^^ e)), (2, .long (len &&& (9223372036854775807 : Int64)))])], 2, 6)) rfl ?_
            refine EW.call rfl (weq_32 _ _ A id gs (len &&& (9223372036854775807 : Int64)) id (gs ^^^ e) (len &&& (9223372036854775807 : Int64))) ?_
            rintro _ _ _ _ ⟨z, e0, ⟨rfl, hz⟩ | ⟨rfl, hz⟩⟩
            · cases e0; have h6 := hz; clear hz
              show EW _ _ _ _ _ ((262, [.val (.long id), .second, .val (.long gs), .second, .val (.long len), .second, .val (.long d), .second, .val (.long e), .second, .val (.int sel), .val (.long (len &&& (9223372036854775807 : Int64))), .second, .val (.int (0 : Int32)), .val (.int (1 : Int32)), .val (.int (0 : Int32)), .val (.long id), .second, .val (.long (gs ^^^ e)), .second, .val (.long (d &&& (9223372036854775807 : Int64))), .second, .val (.long (len &&& (9223372036854775807 : Int64))), .second, .val (.ref 2), .val (.ref 3), .val (.int ((XT.ushr sel (3 : Int32)) &&& (3 : Int32))), .val (.int (0 : Int32))], [.int (1 : Int32)]), [.inl (.object "java/lang/Long", A), .inr (1, []), .inr (0, [(0, .long id), (1, .long gs), (2, .long (len &&& (9223372036854775807 : Int64)))]), .inr (0, [(0, .long id), (1, .long (gs ^^^ e)), (2, .long (len &&& (9223372036854775807 : Int64)))])], 2, 6)
              refine EW.run 3 (cf' := ((272, [.val (.long id), .second, .val (.long gs), .second, .val (.long len), .second, .val (.long d), .second, .val (.long e), .second, .val (.int sel), .val (.long (len &&& (9223372036854775807 : Int64))), .second, .val (.int (0 : Int32)), .val (.int (1 : Int32)), .val (.int (0 : Int32)), .val (.long id), .second, .val (.long (gs ^^^ e)), .second, .val (.long (d &&& (9223372036854775807 : Int64))), .second, .val (.long (len &&& (9223372036854775807 : Int64))), .second, .val (.ref 2), .val (.ref 3), .val (.int ((XT.ushr sel (3 : Int32)) &&& (3 : Int32))), .val (.int (0 : Int32))], [.int (0 : Int32)]), [.inl (.object "java/lang/Long", A), .inr (1, []), .inr (0, [(0, .long id), (1, .long gs), (2, .long (len &&& (9223372036854775807 : Int64)))]), .inr (0, [(0, .long id), (1, .long (gs ^^^ e)), (2, .long (len &&& (9223372036854775807 : Int64)))])], 2, 6)) rfl ?_
              exfalso
              have := rng32 ((XT.ushr sel (3 : Int32)) &&& (3 : Int32))
              have := rng32 (XT.ushr sel (3 : Int32))
              have := rng32 sel
              have lt0 : (3 : Int32).toInt = 3 := by decide
              have : (XT.ushr sel (3 : Int32)).toInt = (sel.toInt % 4294967296) / 8 := c_iushr sel (3 : Int32) 3 (by decide) (by decide)
              have : ((XT.ushr sel (3 : Int32)) &&& (3 : Int32)).toInt = (XT.ushr sel (3 : Int32)).toInt % 4 := c_mask (XT.ushr sel (3 : Int32)) (3 : Int32) 2 (by decide) (by decide)
              have lt1 : (1 : Int32).toInt = 1 := by decide
              have lt2 : (2 : Int32).toInt = 2 := by decide
              have := rng64 e
              have lt3 : (0 : Int64).toInt = 0 := by decide
              have := rng64 (gs ^^^ e)
              have := rng64 gs
              have := c_xorSL gs e
              have := own_xor gs e
              omega
            · cases e0; have h6 := hz; clear hz
              show EW _ _ _ _ _ ((262, [.val (.long id), .second, .val (.long gs), .second, .val (.long len), .second, .val (.long d), .second, .val (.long e), .second, .val (.int sel), .val (.long (len &&& (9223372036854775807 : Int64))), .second, .val (.int (0 : Int32)), .val (.int (1 : Int32)), .val (.int (0 : Int32)), .val (.long id), .second, .val (.long (gs ^^^ e)), .second, .val (.long (d &&& (9223372036854775807 : Int64))), .second, .val (.long (len &&& (9223372036854775807 : Int64))), .second, .val (.ref 2), .val (.ref 3), .val (.int ((XT.ushr sel (3 : Int32)) &&& (3 : Int32))), .val (.int (0 : Int32))], [.int (0 : Int32)]), [.inl (.object "java/lang/Long", A), .inr (1, []), .inr (0, [(0, .long id), (1, .long gs), (2, .long (len &&& (9223372036854775807 : Int64)))]), .inr (0, [(0, .long id), (1, .long (gs ^^^ e)), (2, .long (len &&& (9223372036854775807 : Int64)))])], 2, 6)
              refine EW.run 4 (cf' := ((272, [.val (.long id), .second, .val (.long gs), .second, .val (.long len), .second, .val (.long d), .second, .val (.long e), .second, .val (.int sel), .val (.long (len &&& (9223372036854775807 : Int64))), .second, .val (.int (0 : Int32)), .val (.int (1 : Int32)), .val (.int (0 : Int32)), .val (.long id), .second, .val (.long (gs ^^^ e)), .second, .val (.long (d &&& (9223372036854775807 : Int64))), .second, .val (.long (len &&& (9223372036854775807 : Int64))), .second, .val (.ref 2), .val (.ref 3), .val (.int ((XT.ushr sel (3 : Int32)) &&& (3 : Int32))), .val (.int (0 : Int32))], [.int (1 : Int32)]), [.inl (.object "java/lang/Long", A), .inr (1, []), .inr (0, [(0, .long id), (1, .long gs), (2, .long (len &&& (9223372036854775807 : Int64)))]), .inr (0, [(0, .long id), (1, .long (gs ^^^ e)), (2, .long (len &&& (9223372036854775807 : Int64)))])], 2, 6)) rfl ?_
              exact EW.ret rfl ⟨rfl, Nat.le_of_ble_eq_true rfl, Nat.le_of_ble_eq_true rfl⟩
        · have h4 : e.toInt = (0 : Int64).toInt := by simp only [cP] at h; omega
          clear h
          show EW _ _ _ _ _ ((224, [.val (.long id), .second, .val (.long gs), .second, .val (.long len), .second, .val (.long d), .second, .val (.long e), .second, .val (.int sel), .val (.long (len &&& (9223372036854775807 : Int64))), .second, .val (.int (0 : Int32)), .val (.int (1 : Int32)), .val (.int (0 : Int32)), .val (.long id), .second, .val (.long (gs ^^^ e)), .second, .val (.long (d &&& (9223372036854775807 : Int64))), .second, .val (.long (len &&& (9223372036854775807 : Int64))), .second, .val (.ref 2), .val (.ref 3), .val (.int ((XT.ushr sel (3 : Int32)) &&& (3 : Int32))), .unset], []), [.inl (.object "java/lang/Long", A), .inr (1, []), .inr (0, [(0, .long id), (1, .long gs), (2, .long (len &&& (9223372036854775807 : Int64)))]), .inr (0, [(0, .long id), (1, .long (gs ^^^ e)), (2, .long (len &&& (9223372036854775807 : Int64)))])], 2, 6)
          refine EW.run 6 (cf' := ((245, [.val (.long id), .second, .val (.long gs), .second, .val (.long len), .second, .val (.long d), .second, .val (.long e), .second, .val (.int sel), .val (.long (len &&& (9223372036854775807 : Int64))), .second, .val (.int (0 : Int32)), .val (.int (1 : Int32)), .val (.int (0 : Int32)), .val (.long id), .second, .val (.long (gs ^^^ e)), .second, .val (.long (d &&& (9223372036854775807 : Int64))), .second, .val (.long (len &&& (9223372036854775807 : Int64))), .second, .val (.ref 2), .val (.ref 3), .val (.int ((XT.ushr sel (3 : Int32)) &&& (3 : Int32))), .val (.int (1 : Int32))], [.ref 2]), [.inl (.object "java/lang/Long", A), .inr (1, []), .inr (0, [(0, .long id), (1, .long gs), (2, .long (len &&& (9223372036854775807 : Int64)))]), .inr (0, [(0, .long id), (1, .long (gs ^^^ e)), (2, .long (len &&& (9223372036854775807 : Int64)))])], 2, 6)) rfl ?_
          refine EW.run 1 (cf' := ((247, [.val (.long id), .second, .val (.long gs), .second, .val (.long len), .second, .val (.long d), .second, .val (.long e), .second, .val (.int sel), .val (.long (len &&& (9223372036854775807 : Int64))), .second, .val (.int (0 : Int32)), .val (.int (1 : Int32)), .val (.int (0 : Int32)), .val (.long id), .second, .val (.long (gs ^^^ e)), .second, .val (.long (d &&& (9223372036854775807 : Int64))), .second, .val (.long (len &&& (9223372036854775807 : Int64))), .second, .val (.ref 2), .val (.ref 3), .val (.int ((XT.ushr sel (3 : Int32)) &&& (3 : Int32))), .val (.int (1 : Int32))], [.ref 3, .ref 2]), [.inl (.object "java/lang/Long", A), .inr (1, []), .inr (0, [(0, .long id), (1, .long gs), (2, .long (len &&& (9223372036854775807 : Int64)))]), .inr (0, [(0, .long id), (1, .long (gs ^^^ e)), (2, .long (len &&& (9223372036854775807 : Int64)))])], 2, 6)) rfl ?_
          refine EW.call rfl (weq_23 _ _ A id gs (len &&& (9223372036854775807 : Int64)) id (gs ^^^ e) (len &&& (9223372036854775807 : Int64))) ?_
          rintro _ _ _ _ ⟨z, e0, ⟨rfl, hz⟩ | ⟨rfl, hz⟩⟩
          · cases e0; have h7 := hz; clear hz
            show EW _ _ _ _ _ ((250, [.val (.long id), .second, .val (.long gs), .second, .val (.long len), .second, .val (.long d), .second, .val (.long e), .second, .val (.int sel), .val (.long (len &&& (9223372036854775807 : Int64))), .second, .val (.int (0 : Int32)), .val (.int (1 : Int32)), .val (.int (0 : Int32)), .val (.long id), .second, .val (.long (gs ^^^ e)), .second, .val (.long (d &&& (9223372036854775807 : Int64))), .second, .val (.long (len &&& (9223372036854775807 : Int64))), .second, .val (.ref 2), .val (.ref 3), .val (.int ((XT.ushr sel (3 : Int32)) &&& (3 : Int32))), .val (.int (1 : Int32))], [.int (1 : Int32)]), [.inl (.object "java/lang/Long", A), .inr (1, []), .inr (0, [(0, .long id), (1, .long gs), (2, .long (len &&& (9223372036854775807 : Int64)))]), .inr (0, [(0, .long id), (1, .long (gs ^^^ e)), (2, .long (len &&& (9223372036854775807 : Int64)))])], 2, 6)
            refine EW.run 4 (cf' := ((259, [.val (.long id), .second, .val (.long gs), .second, .val (.long len), .second, .val (.long d), .second, .val (.long e), .second, .val (.int sel), .val (.long (len &&& (9223372036854775807 : Int64))), .second, .val (.int (0 : Int32)), .val (.int (1 : Int32)), .val (.int (0 : Int32)), .val (.long id), .second, .val (.long (gs ^^^ e)), .second, .val (.long (d &&& (9223372036854775807 : Int64))), .second, .val (.long (len &&& (9223372036854775807 : Int64))), .second, .val (.ref 2), .val (.ref 3), .val (.int ((XT.ushr sel (3 : Int32)) &&& (3 : Int32))), .val (.int (1 : Int32))], [.ref 2, .ref 3]), [.inl (.object "java/lang/Long", A), .inr (1, []), .inr (0, [(0, .long id), (1, .long gs), (2, .long (len &&& (9223372036854775807 : Int64)))]), .inr (0, [(0, .long id), (1, .long (gs ^^^ e)), (2, .long (len &&& (9223372036854775807 : Int64)))])], 2, 6)) rfl ?_
            refine EW.call rfl (weq_32 _ _ A id gs (len &&& (9223372036854775807 : Int64)) id (gs ^^^ e) (len &&& (9223372036854775807 : Int64))) ?_
            rintro _ _ _ _ ⟨z, e0, ⟨rfl, hz⟩ | ⟨rfl, hz⟩⟩
            · cases e0; have h8 := hz; clear hz
              show EW _ _ _ _ _ ((262, [.val (.long id), .second, .val (.long gs), .second, .val (.long len), .second, .val (.long d), .second, .val (.long e), .second, .val (.int sel), .val (.long (len &&& (9223372036854775807 : Int64))), .second, .val (.int (0 : Int32)), .val (.int (1 : Int32)), .val (.int (0 : Int32)), .val (.long id), .second, .val (.long (gs ^^^ e)), .second, .val (.long (d &&& (9223372036854775807 : Int64))), .second, .val (.long (len &&& (9223372036854775807 : Int64))), .second, .val (.ref 2), .val (.ref 3), .val (.int ((XT.ushr sel (3 : Int32)) &&& (3 : Int32))), .val (.int (1 : Int32))], [.int (1 : Int32)]), [.inl (.object "java/lang/Long", A), .inr (1, []), .inr (0, [(0, .long id), (1, .long gs), (2, .long (len &&& (9223372036854775807 : Int64)))]), .inr (0, [(0, .long id), (1, .long (gs ^^^ e)), (2, .long (len &&& (9223372036854775807 : Int64)))])], 2, 6)
              refine EW.run 4 (cf' := ((272, [.val (.long id), .second, .val (.long gs), .second, .val (.long len), .second, .val (.long d), .second, .val (.long e), .second, .val (.int sel), .val (.long (len &&& (9223372036854775807 : Int64))), .second, .val (.int (0 : Int32)), .val (.int (1 : Int32)), .val (.int (0 : Int32)), .val (.long id), .second, .val (.long (gs ^^^ e)), .second, .val (.long (d &&& (9223372036854775807 : Int64))), .second, .val (.long (len &&& (9223372036854775807 : Int64))), .second, .val (.ref 2), .val (.ref 3), .val (.int ((XT.ushr sel (3 : Int32)) &&& (3 : Int32))), .val (.int (1 : Int32))], [.int (1 : Int32)]), [.inl (.object "java/lang/Long", A), .inr (1, []), .inr (0, [(0, .long id), (1, .long gs), (2, .long (len &&& (9223372036854775807 : Int64)))]), .inr (0, [(0, .long id), (1, .long (gs ^^^ e)), (2, .long (len &&& (9223372036854775807 : Int64)))])], 2, 6)) rfl ?_
              exact EW.ret rfl ⟨rfl, Nat.le_of_ble_eq_true rfl, Nat.le_of_ble_eq_true rfl⟩
            · cases e0; have h8 := hz; clear hz
              show EW _ _ _ _ _ ((262, [.val (.long id), .second, .val (.long gs), .second, .val (.long len), .second, .val (.long d), .second, .val (.long e), .second, .val (.int sel), .val (.long (len &&& (9223372036854775807 : Int64))), .second, .val (.int (0 : Int32)), .val (.int (1 : Int32)), .val (.int (0 : Int32)), .val (.long id), .second, .val (.long (gs ^^^ e)), .second, .val (.long (d &&& (9223372036854775807 : Int64))), .second, .val (.long (len &&& (9223372036854775807 : Int64))), .second, .val (.ref 2), .val (.ref 3), .val (.int ((XT.ushr sel (3 : Int32)) &&& (3 : Int32))), .val (.int (1 : Int32))], [.int (0 : Int32)]), [.inl (.object "java/lang/Long", A), .inr (1, []), .inr (0, [(0, .long id), (1, .long gs), (2, .long (len &&& (9223372036854775807 : Int64)))]), .inr (0, [(0, .long id), (1, .long (gs ^^^ e)), (2, .long (len &&& (9223372036854775807 : Int64)))])], 2, 6)
              refine EW.run 3 (cf' := ((272, [.val (.long id), .second, .val (.long gs), .second, .val (.long len), .second, .val (.long d), .second, .val (.long e), .second, .val (.int sel), .val (.long (len &&& (9223372036854775807 : Int64))), .second, .val (.int (0 : Int32)), .val (.int (1 : Int32)), .val (.int (0 : Int32)), .val (.long id), .second, .val (.long (gs ^^^ e)), .second, .val (.long (d &&& (9223372036854775807 : Int64))), .second, .val (.long (len &&& (9223372036854775807 : Int64))), .second, .val (.ref 2), .val (.ref 3), .val (.int ((XT.ushr sel (3 : Int32)) &&& (3 : Int32))), .val (.int (1 : Int32))], [.int (0 : Int32)]), [.inl (.object "java/lang/Long", A), .inr (1, []), .inr (0, [(0, .long id), (1, .long gs), (2, .long (len &&& (9223372036854775807 : Int64)))]), .inr (0, [(0, .long id), (1, .long (gs ^^^ e)), (2, .long (len &&& (9223372036854775807 : Int64)))])], 2, 6)) rfl ?_
              exfalso
              have := rng32 ((XT.ushr sel (3 : Int32)) &&& (3 : Int32))
              have := rng32 (XT.ushr sel (3 : Int32))
              have := rng32 sel
              have lt0 : (3 : Int32).toInt = 3 := by decide
              have : (XT.ushr sel (3 : Int32)).toInt = (sel.toInt % 4294967296) / 8 := c_iushr sel (3 : Int32) 3 (by decide) (by decide)
              have : ((XT.ushr sel (3 : Int32)) &&& (3 : Int32)).toInt = (XT.ushr sel (3 : Int32)).toInt % 4 := c_mask (XT.ushr sel (3 : Int32)) (3 : Int32) 2 (by decide) (by decide)
              have lt1 : (1 : Int32).toInt = 1 := by decide
              have lt2 : (2 : Int32).toInt = 2 := by decide
              have := rng64 e
              have lt3 : (0 : Int64).toInt = 0 := by decide
              have := rng64 (gs ^^^ e)
              have := rng64 gs
              have := c_xorSL gs e
              have := own_xor gs e
              omega
          · cases e0; have h7 := hz; clear hz
            show EW _ _ _ _ _ ((250, [.val (.long id), .second, .val (.long gs), .second, .val (.long len), .second, .val (.long d), .second, .val (.long e), .second, .val (.int sel), .val (.long (len &&& (9223372036854775807 : Int64))), .second, .val (.int (0 : Int32)), .val (.int (1 : Int32)), .val (.int (0 : Int32)), .val (.long id), .second, .val (.long (gs ^^^ e)), .second, .val (.long (d &&& (9223372036854775807 : Int64))), .second, .val (.long (len &&& (9223372036854775807 : Int64))), .second, .val (.ref 2), .val (.ref 3), .val (.int ((XT.ushr sel (3 : Int32)) &&& (3 : Int32))), .val (.int (1 : Int32))], [.int (0 : Int32)]), [.inl (.object "java/lang/Long", A), .inr (1, []), .inr (0, [(0, .long id), (1, .long gs), (2, .long (len &&& (9223372036854775807 : Int64)))]), .inr (0, [(0, .long id), (1, .long (gs ^^^ e)), (2, .long (len &&& (9223372036854775807 : Int64)))])], 2, 6)
            refine EW.run 3 (cf' := ((272, [.val (.long id), .second, .val (.long gs), .second, .val (.long len), .second, .val (.long d), .second, .val (.long e), .second, .val (.int sel), .val (.long (len &&& (9223372036854775807 : Int64))), .second, .val (.int (0 : Int32)), .val (.int (1 : Int32)), .val (.int (0 : Int32)), .val (.long id), .second, .val (.long (gs ^^^ e)), .second, .val (.long (d &&& (9223372036854775807 : Int64))), .second, .val (.long (len &&& (9223372036854775807 : Int64))), .second, .val (.ref 2), .val (.ref 3), .val (.int ((XT.ushr sel (3 : Int32)) &&& (3 : Int32))), .val (.int (1 : Int32))], [.int (0 : Int32)]), [.inl (.object "java/lang/Long", A), .inr (1, []), .inr (0, [(0, .long id), (1, .long gs), (2, .long (len &&& (9223372036854775807 : Int64)))]), .inr (0, [(0, .long id), (1, .long (gs ^^^ e)), (2, .long (len &&& (9223372036854775807 : Int64)))])], 2, 6)) rfl ?_
            exfalso
            have := rng32 ((XT.ushr sel (3 : Int32)) &&& (3 : Int32))
            have := rng32 (XT.ushr sel (3 : Int32))
            have := rng32 sel
            have lt0 : (3 : Int32).toInt = 3 := by decide
            have : (XT.ushr sel (3 : Int32)).toInt = (sel.toInt % 4294967296) / 8 := c_iushr sel (3 : Int32) 3 (by decide) (by decide)
            have : ((XT.ushr sel (3 : Int32)) &&& (3 : Int32)).toInt = (XT.ushr sel (3 : Int32)).toInt % 4 := c_mask (XT.ushr sel (3 : Int32)) (3 : Int32) 2 (by decide) (by decide)
            have lt1 : (1 : Int32).toInt = 1 := by decide
            have lt2 : (2 : Int32).toInt = 2 := by decide
            have := rng64 e
            have lt3 : (0 : Int64).toInt = 0 := by decide
            have := rng64 (gs ^^^ e)
            have := rng64 gs
            have := c_xorSL gs e
            have := own_xor gs e
            omega
      · have h3 : ((XT.ushr sel (3 : Int32)) &&& (3 : Int32)).toInt = (3 : Int32).toInt := by simp only [cP] at h; omega
        clear h
        show EW _ _ _ _ _ ((192, [.val (.long id), .second, .val (.long gs), .second, .val (.long len), .second, .val (.long d), .second, .val (.long e), .second, .val (.int sel), .val (.long (len &&& (9223372036854775807 : Int64))), .second, .val (.int (0 : Int32)), .val (.int (1 : Int32)), .val (.int (0 : Int32)), .val (.long id), .second, .val (.long (gs ^^^ e)), .second, .val (.long (d &&& (9223372036854775807 : Int64))), .second, .val (.long (len &&& (9223372036854775807 : Int64))), .second, .val (.ref 2), .val (.ref 3), .val (.int ((XT.ushr sel (3 : Int32)) &&& (3 : Int32))), .unset], []), [.inl (.object "java/lang/Long", A), .inr (1, []), .inr (0, [(0, .long id), (1, .long gs), (2, .long (len &&& (9223372036854775807 : Int64)))]), .inr (0, [(0, .long id), (1, .long (gs ^^^ e)), (2, .long (len &&& (9223372036854775807 : Int64)))])], 2, 6)
        refine EW.run 2 (cf' := ((196, [.val (.long id), .second, .val (.long gs), .second, .val (.long len), .second, .val (.long d), .second, .val (.long e), .second, .val (.int sel), .val (.long (len &&& (9223372036854775807 : Int64))), .second, .val (.int (0 : Int32)), .val (.int (1 : Int32)), .val (.int (0 : Int32)), .val (.long id), .second, .val (.long (gs ^^^ e)), .second, .val (.long (d &&& (9223372036854775807 : Int64))), .second, .val (.long (len &&& (9223372036854775807 : Int64))), .second, .val (.ref 2), .val (.ref 3), .val (.int ((XT.ushr sel (3 : Int32)) &&& (3 : Int32))), .unset], [.ref 2, .ref 2]), [.inl (.object "java/lang/Long", A), .inr (1, []), .inr (0, [(0, .long id), (1, .long gs), (2, .long (len &&& (9223372036854775807 : Int64)))]), .inr (0, [(0, .long id), (1, .long (gs ^^^ e)), (2, .long (len &&& (9223372036854775807 : Int64)))])], 2, 6)) rfl ?_
        refine EW.call rfl (weq_22 _ _ A id gs (len &&& (9223372036854775807 : Int64)) id (gs ^^^ e) (len &&& (9223372036854775807 : Int64))) ?_
        rintro _ _ _ _ ⟨z, e0, ⟨rfl, hz⟩ | ⟨rfl, hz⟩⟩
        · cases e0; have h9 := hz; clear hz
          show EW _ _ _ _ _ ((199, [.val (.long id), .second, .val (.long gs), .second, .val (.long len), .second, .val (.long d), .second, .val (.long e), .second, .val (.int sel), .val (.long (len &&& (9223372036854775807 : Int64))), .second, .val (.int (0 : Int32)), .val (.int (1 : Int32)), .val (.int (0 : Int32)), .val (.long id), .second, .val (.long (gs ^^^ e)), .second, .val (.long (d &&& (9223372036854775807 : Int64))), .second, .val (.long (len &&& (9223372036854775807 : Int64))), .second, .val (.ref 2), .val (.ref 3), .val (.int ((XT.ushr sel (3 : Int32)) &&& (3 : Int32))), .unset], [.int (1 : Int32)]), [.inl (.object "java/lang/Long", A), .inr (1, []), .inr (0, [(0, .long id), (1, .long gs), (2, .long (len &&& (9223372036854775807 : Int64)))]), .inr (0, [(0, .long id), (1, .long (gs ^^^ e)), (2, .long (len &&& (9223372036854775807 : Int64)))])], 2, 6)
          exact EW.ret rfl ⟨rfl, Nat.le_of_ble_eq_true rfl, Nat.le_of_ble_eq_true rfl⟩
        · cases e0; have h9 := hz; clear hz
          show EW _ _ _ _ _ ((199, [.val (.long id), .second, .val (.long gs), .second, .val (.long len), .second, .val (.long d), .second, .val (.long e), .second, .val (.int sel), .val (.long (len &&& (9223372036854775807 : Int64))), .second, .val (.int (0 : Int32)), .val (.int (1 : Int32)), .val (.int (0 : Int32)), .val (.long id), .second, .val (.long (gs ^^^ e)), .second, .val (.long (d &&& (9223372036854775807 : Int64))), .second, .val (.long (len &&& (9223372036854775807 : Int64))), .second, .val (.ref 2), .val (.ref 3), .val (.int ((XT.ushr sel (3 : Int32)) &&& (3 : Int32))), .unset], [.int (0 : Int32)]), [.inl (.object "java/lang/Long", A), .inr (1, []), .inr (0, [(0, .long id), (1, .long gs), (2, .long (len &&& (9223372036854775807 : Int64)))]), .inr (0, [(0, .long id), (1, .long (gs ^^^ e)), (2, .long (len &&& (9223372036854775807 : Int64)))])], 2, 6)
          exfalso
          have := rng32 ((XT.ushr sel (3 : Int32)) &&& (3 : Int32))
          have := rng32 (XT.ushr sel (3 : Int32))
          have := rng32 sel
          have lt0 : (3 : Int32).toInt = 3 := by decide
          have : (XT.ushr sel (3 : Int32)).toInt = (sel.toInt % 4294967296) / 8 := c_iushr sel (3 : Int32) 3 (by decide) (by decide)
          have : ((XT.ushr sel (3 : Int32)) &&& (3 : Int32)).toInt = (XT.ushr sel (3 : Int32)).toInt % 4 := c_mask (XT.ushr sel (3 : Int32)) (3 : Int32) 2 (by decide) (by decide)
          have lt1 : (1 : Int32).toInt = 1 := by decide
          have lt2 : (2 : Int32).toInt = 2 := by decide
          have := rng64 (gs ^^^ e)
          have := rng64 gs
          have := rng64 e
          have := c_xorSL gs e
          have := own_xor gs e
          omega
    · have h2 : ((XT.ushr sel (3 : Int32)) &&& (3 : Int32)).toInt = (2 : Int32).toInt := by simp only [cP] at h; omega
      clear h
      show EW _ _ _ _ _ ((171, [.val (.long id), .second, .val (.long gs), .second, .val (.long len), .second, .val (.long d), .second, .val (.long e), .second, .val (.int sel), .val (.long (len &&& (9223372036854775807 : Int64))), .second, .val (.int (0 : Int32)), .val (.int (1 : Int32)), .val (.int (0 : Int32)), .val (.long id), .second, .val (.long (gs ^^^ e)), .second, .val (.long (d &&& (9223372036854775807 : Int64))), .second, .val (.long (len &&& (9223372036854775807 : Int64))), .second, .val (.ref 2), .val (.ref 3), .val (.int ((XT.ushr sel (3 : Int32)) &&& (3 : Int32))), .unset], []), [.inl (.object "java/lang/Long", A), .inr (1, []), .inr (0, [(0, .long id), (1, .long gs), (2, .long (len &&& (9223372036854775807 : Int64)))]), .inr (0, [(0, .long id), (1, .long (gs ^^^ e)), (2, .long (len &&& (9223372036854775807 : Int64)))])], 2, 6)
      refine EW.run 2 (cf' := ((174, [.val (.long id), .second, .val (.long gs), .second, .val (.long len), .second, .val (.long d), .second, .val (.long e), .second, .val (.int sel), .val (.long (len &&& (9223372036854775807 : Int64))), .second, .val (.int (0 : Int32)), .val (.int (1 : Int32)), .val (.int (0 : Int32)), .val (.long id), .second, .val (.long (gs ^^^ e)), .second, .val (.long (d &&& (9223372036854775807 : Int64))), .second, .val (.long (len &&& (9223372036854775807 : Int64))), .second, .val (.ref 2), .val (.ref 3), .val (.int ((XT.ushr sel (3 : Int32)) &&& (3 : Int32))), .unset], [.null, .ref 2]), [.inl (.object "java/lang/Long", A), .inr (1, []), .inr (0, [(0, .long id), (1, .long gs), (2, .long (len &&& (9223372036854775807 : Int64)))]), .inr (0, [(0, .long id), (1, .long (gs ^^^ e)), (2, .long (len &&& (9223372036854775807 : Int64)))])], 2, 6)) rfl ?_
      refine EW.call (Qc := fun r => r = (some (.int (0 : Int32)), [.inl (.object "java/lang/Long", A), .inr (1, []), .inr (0, [(0, .long id), (1, .long gs), (2, .long (len &&& (9223372036854775807 : Int64)))]), .inr (0, [(0, .long id), (1, .long (gs ^^^ e)), (2, .long (len &&& (9223372036854775807 : Int64)))])], 0, 0)) rfl ?_ ?_
      · show EW _ _ _ _ _ ((0, [.val (.ref 2), .val (.null), .unset], []), [.inl (.object "java/lang/Long", A), .inr (1, []), .inr (0, [(0, .long id), (1, .long gs), (2, .long (len &&& (9223372036854775807 : Int64)))]), .inr (0, [(0, .long id), (1, .long (gs ^^^ e)), (2, .long (len &&& (9223372036854775807 : Int64)))])], 0, 0)
        refine EW.run 4 (cf' := ((8, [.val (.ref 2), .val (.null), .unset], [.int (0 : Int32)]), [.inl (.object "java/lang/Long", A), .inr (1, []), .inr (0, [(0, .long id), (1, .long gs), (2, .long (len &&& (9223372036854775807 : Int64)))]), .inr (0, [(0, .long id), (1, .long (gs ^^^ e)), (2, .long (len &&& (9223372036854775807 : Int64)))])], 0, 0)) rfl ?_
        exact EW.ret rfl rfl
      rintro _ _ _ _ ⟨⟩
      show EW _ _ _ _ _ ((177, [.val (.long id), .second, .val (.long gs), .second, .val (.long len), .second, .val (.long d), .second, .val (.long e), .second, .val (.int sel), .val (.long (len &&& (9223372036854775807 : Int64))), .second, .val (.int (0 : Int32)), .val (.int (1 : Int32)), .val (.int (0 : Int32)), .val (.long id), .second, .val (.long (gs ^^^ e)), .second, .val (.long (d &&& (9223372036854775807 : Int64))), .second, .val (.long (len &&& (9223372036854775807 : Int64))), .second, .val (.ref 2), .val (.ref 3), .val (.int ((XT.ushr sel (3 : Int32)) &&& (3 : Int32))), .unset], [.int (0 : Int32)]), [.inl (.object "java/lang/Long", A), .inr (1, []), .inr (0, [(0, .long id), (1, .long gs), (2, .long (len &&& (9223372036854775807 : Int64)))]), .inr (0, [(0, .long id), (1, .long (gs ^^^ e)), (2, .long (len &&& (9223372036854775807 : Int64)))])], 2, 6)
      refine EW.run 3 (cf' := ((185, [.val (.long id), .second, .val (.long gs), .second, .val (.long len), .second, .val (.long d), .second, .val (.long e), .second, .val (.int sel), .val (.long (len &&& (9223372036854775807 : Int64))), .second, .val (.int (0 : Int32)), .val (.int (1 : Int32)), .val (.int (0 : Int32)), .val (.long id), .second, .val (.long (gs ^^^ e)), .second, .val (.long (d &&& (9223372036854775807 : Int64))), .second, .val (.long (len &&& (9223372036854775807 : Int64))), .second, .val (.ref 2), .val (.ref 3), .val (.int ((XT.ushr sel (3 : Int32)) &&& (3 : Int32))), .unset], [.int (1 : Int32)]), [.inl (.object "java/lang/Long", A), .inr (1, []), .inr (0, [(0, .long id), (1, .long gs), (2, .long (len &&& (9223372036854775807 : Int64)))]), .inr (0, [(0, .long id), (1, .long (gs ^^^ e)), (2, .long (len &&& (9223372036854775807 : Int64)))])], 2, 6)) rfl ?_
      exact EW.ret rfl ⟨rfl, Nat.le_of_ble_eq_true rfl, Nat.le_of_ble_eq_true rfl⟩
  · have h1 : ((XT.ushr sel (3 : Int32)) &&& (3 : Int32)).toInt = (1 : Int32).toInt := by simp only [cP] at h; omega
    clear h
    show EW _ _ _ _ _ ((147, [.val (.long id), .second, .val (.long gs), .second, .val (.long len), .second, .val (.long d), .second, .val (.long e), .second, .val (.int sel), .val (.long (len &&& (9223372036854775807 : Int64))), .second, .val (.int (0 : Int32)), .val (.int (1 : Int32)), .val (.int (0 : Int32)), .val (.long id), .second, .val (.long (gs ^^^ e)), .second, .val (.long (d &&& (9223372036854775807 : Int64))), .second, .val (.long (len &&& (9223372036854775807 : Int64))), .second, .val (.ref 2), .val (.ref 3), .val (.int ((XT.ushr sel (3 : Int32)) &&& (3 : Int32))), .unset], []), [.inl (.object "java/lang/Long", A), .inr (1, []), .inr (0, [(0, .long id), (1, .long gs), (2, .long (len &&& (9223372036854775807 : Int64)))]), .inr (0, [(0, .long id), (1, .long (gs ^^^ e)), (2, .long (len &&& (9223372036854775807 : Int64)))])], 2, 6)
    refine EW.run 2 (cf' := ((150, [.val (.long id), .second, .val (.long gs), .second, .val (.long len), .second, .val (.long d), .second, .val (.long e), .second, .val (.int sel), .val (.long (len &&& (9223372036854775807 : Int64))), .second, .val (.int (0 : Int32)), .val (.int (1 : Int32)), .val (.int (0 : Int32)), .val (.long id), .second, .val (.long (gs ^^^ e)), .second, .val (.long (d &&& (9223372036854775807 : Int64))), .second, .val (.long (len &&& (9223372036854775807 : Int64))), .second, .val (.ref 2), .val (.ref 3), .val (.int ((XT.ushr sel (3 : Int32)) &&& (3 : Int32))), .unset], [.long id, .ref 2]), [.inl (.object "java/lang/Long", A), .inr (1, []), .inr (0, [(0, .long id), (1, .long gs), (2, .long (len &&& (9223372036854775807 : Int64)))]), .inr (0, [(0, .long id), (1, .long (gs ^^^ e)), (2, .long (len &&& (9223372036854775807 : Int64)))])], 2, 6)) rfl ?_
    refine EW.call rfl (wval A id gs (len &&& (9223372036854775807 : Int64)) id (gs ^^^ e) (len &&& (9223372036854775807 : Int64)) id hin) ?_
    rintro _ _ _ _ (e0 | e0)
    · cases e0
      show EW _ _ _ _ _ ((153, [.val (.long id), .second, .val (.long gs), .second, .val (.long len), .second, .val (.long d), .second, .val (.long e), .second, .val (.int sel), .val (.long (len &&& (9223372036854775807 : Int64))), .second, .val (.int (0 : Int32)), .val (.int (1 : Int32)), .val (.int (0 : Int32)), .val (.long id), .second, .val (.long (gs ^^^ e)), .second, .val (.long (d &&& (9223372036854775807 : Int64))), .second, .val (.long (len &&& (9223372036854775807 : Int64))), .second, .val (.ref 2), .val (.ref 3), .val (.int ((XT.ushr sel (3 : Int32)) &&& (3 : Int32))), .unset], [.ref 1, .ref 2]), [.inl (.object "java/lang/Long", A), .inr (1, []), .inr (0, [(0, .long id), (1, .long gs), (2, .long (len &&& (9223372036854775807 : Int64)))]), .inr (0, [(0, .long id), (1, .long (gs ^^^ e)), (2, .long (len &&& (9223372036854775807 : Int64)))])], 2, 6)
      refine EW.call (Qc := fun r => r = (some (.int (0 : Int32)), [.inl (.object "java/lang/Long", A), .inr (1, []), .inr (0, [(0, .long id), (1, .long gs), (2, .long (len &&& (9223372036854775807 : Int64)))]), .inr (0, [(0, .long id), (1, .long (gs ^^^ e)), (2, .long (len &&& (9223372036854775807 : Int64)))])], 0, 0)) rfl ?_ ?_
      · show EW _ _ _ _ _ ((0, [.val (.ref 2), .val (.ref 1), .unset], []), [.inl (.object "java/lang/Long", A), .inr (1, []), .inr (0, [(0, .long id), (1, .long gs), (2, .long (len &&& (9223372036854775807 : Int64)))]), .inr (0, [(0, .long id), (1, .long (gs ^^^ e)), (2, .long (len &&& (9223372036854775807 : Int64)))])], 0, 0)
        refine EW.run 4 (cf' := ((8, [.val (.ref 2), .val (.ref 1), .unset], [.int (0 : Int32)]), [.inl (.object "java/lang/Long", A), .inr (1, []), .inr (0, [(0, .long id), (1, .long gs), (2, .long (len &&& (9223372036854775807 : Int64)))]), .inr (0, [(0, .long id), (1, .long (gs ^^^ e)), (2, .long (len &&& (9223372036854775807 : Int64)))])], 0, 0)) rfl ?_
        exact EW.ret rfl rfl
      rintro _ _ _ _ ⟨⟩
      show EW _ _ _ _ _ ((156, [.val (.long id), .second, .val (.long gs), .second, .val (.long len), .second, .val (.long d), .second, .val (.long e), .second, .val (.int sel), .val (.long (len &&& (9223372036854775807 : Int64))), .second, .val (.int (0 : Int32)), .val (.int (1 : Int32)), .val (.int (0 : Int32)), .val (.long id), .second, .val (.long (gs ^^^ e)), .second, .val (.long (d &&& (9223372036854775807 : Int64))), .second, .val (.long (len &&& (9223372036854775807 : Int64))), .second, .val (.ref 2), .val (.ref 3), .val (.int ((XT.ushr sel (3 : Int32)) &&& (3 : Int32))), .unset], [.int (0 : Int32)]), [.inl (.object "java/lang/Long", A), .inr (1, []), .inr (0, [(0, .long id), (1, .long gs), (2, .long (len &&& (9223372036854775807 : Int64)))]), .inr (0, [(0, .long id), (1, .long (gs ^^^ e)), (2, .long (len &&& (9223372036854775807 : Int64)))])], 2, 6)
      refine EW.run 3 (cf' := ((164, [.val (.long id), .second, .val (.long gs), .second, .val (.long len), .second, .val (.long d), .second, .val (.long e), .second, .val (.int sel), .val (.long (len &&& (9223372036854775807 : Int64))), .second, .val (.int (0 : Int32)), .val (.int (1 : Int32)), .val (.int (0 : Int32)), .val (.long id), .second, .val (.long (gs ^^^ e)), .second, .val (.long (d &&& (9223372036854775807 : Int64))), .second, .val (.long (len &&& (9223372036854775807 : Int64))), .second, .val (.ref 2), .val (.ref 3), .val (.int ((XT.ushr sel (3 : Int32)) &&& (3 : Int32))), .unset], [.int (1 : Int32)]), [.inl (.object "java/lang/Long", A), .inr (1, []), .inr (0, [(0, .long id), (1, .long gs), (2, .long (len &&& (9223372036854775807 : Int64)))]), .inr (0, [(0, .long id), (1, .long (gs ^^^ e)), (2, .long (len &&& (9223372036854775807 : Int64)))])], 2, 6)) rfl ?_
      exact EW.ret rfl ⟨rfl, Nat.le_of_ble_eq_true rfl, Nat.le_of_ble_eq_true rfl⟩
    · cases e0
      show EW _ _ _ _ _ ((153, [.val (.long id), .second, .val (.long gs), .second, .val (.long len), .second, .val (.long d), .second, .val (.long e), .second, .val (.int sel), .val (.long (len &&& (9223372036854775807 : Int64))), .second, .val (.int (0 : Int32)), .val (.int (1 : Int32)), .val (.int (0 : Int32)), .val (.long id), .second, .val (.long (gs ^^^ e)), .second, .val (.long (d &&& (9223372036854775807 : Int64))), .second, .val (.long (len &&& (9223372036854775807 : Int64))), .second, .val (.ref 2), .val (.ref 3), .val (.int ((XT.ushr sel (3 : Int32)) &&& (3 : Int32))), .unset], [.ref 4, .ref 2]), [.inl (.object "java/lang/Long", A), .inr (1, []), .inr (0, [(0, .long id), (1, .long gs), (2, .long (len &&& (9223372036854775807 : Int64)))]), .inr (0, [(0, .long id), (1, .long (gs ^^^ e)), (2, .long (len &&& (9223372036854775807 : Int64)))]), .inr (1, [(4, .long id)])], 3, 7)
      refine EW.call (Qc := fun r => r = (some (.int (0 : Int32)), [.inl (.object "java/lang/Long", A), .inr (1, []), .inr (0, [(0, .long id), (1, .long gs), (2, .long (len &&& (9223372036854775807 : Int64)))]), .inr (0, [(0, .long id), (1, .long (gs ^^^ e)), (2, .long (len &&& (9223372036854775807 : Int64)))]), .inr (1, [(4, .long id)])], 0, 0)) rfl ?_ ?_
      · show EW _ _ _ _ _ ((0, [.val (.ref 2), .val (.ref 4), .unset], []), [.inl (.object "java/lang/Long", A), .inr (1, []), .inr (0, [(0, .long id), (1, .long gs), (2, .long (len &&& (9223372036854775807 : Int64)))]), .inr (0, [(0, .long id), (1, .long (gs ^^^ e)), (2, .long (len &&& (9223372036854775807 : Int64)))]), .inr (1, [(4, .long id)])], 0, 0)
        refine EW.run 4 (cf' := ((8, [.val (.ref 2), .val (.ref 4), .unset], [.int (0 : Int32)]), [.inl (.object "java/lang/Long", A), .inr (1, []), .inr (0, [(0, .long id), (1, .long gs), (2, .long (len &&& (9223372036854775807 : Int64)))]), .inr (0, [(0, .long id), (1, .long (gs ^^^ e)), (2, .long (len &&& (9223372036854775807 : Int64)))]), .inr (1, [(4, .long id)])], 0, 0)) rfl ?_
        exact EW.ret rfl rfl
      rintro _ _ _ _ ⟨⟩
      show EW _ _ _ _ _ ((156, [.val (.long id), .second, .val (.long gs), .second, .val (.long len), .second, .val (.long d), .second, .val (.long e), .second, .val (.int sel), .val (.long (len &&& (9223372036854775807 : Int64))), .second, .val (.int (0 : Int32)), .val (.int (1 : Int32)), .val (.int (0 : Int32)), .val (.long id), .second, .val (.long (gs ^^^ e)), .second, .val (.long (d &&& (9223372036854775807 : Int64))), .second, .val (.long (len &&& (9223372036854775807 : Int64))), .second, .val (.ref 2), .val (.ref 3), .val (.int ((XT.ushr sel (3 : Int32)) &&& (3 : Int32))), .unset], [.int (0 : Int32)]), [.inl (.object "java/lang/Long", A), .inr (1, []), .inr (0, [(0, .long id), (1, .long gs), (2, .long (len &&& (9223372036854775807 : Int64)))]), .inr (0, [(0, .long id), (1, .long (gs ^^^ e)), (2, .long (len &&& (9223372036854775807 : Int64)))]), .inr (1, [(4, .long id)])], 3, 7)
      refine EW.run 3 (cf' := ((164, [.val (.long id), .second, .val (.long gs), .second, .val (.long len), .second, .val (.long d), .second, .val (.long e), .second, .val (.int sel), .val (.long (len &&& (9223372036854775807 : Int64))), .second, .val (.int (0 : Int32)), .val (.int (1 : Int32)), .val (.int (0 : Int32)), .val (.long id), .second, .val (.long (gs ^^^ e)), .second, .val (.long (d &&& (9223372036854775807 : Int64))), .second, .val (.long (len &&& (9223372036854775807 : Int64))), .second, .val (.ref 2), .val (.ref 3), .val (.int ((XT.ushr sel (3 : Int32)) &&& (3 : Int32))), .unset], [.int (1 : Int32)]), [.inl (.object "java/lang/Long", A), .inr (1, []), .inr (0, [(0, .long id), (1, .long gs), (2, .long (len &&& (9223372036854775807 : Int64)))]), .inr (0, [(0, .long id), (1, .long (gs ^^^ e)), (2, .long (len &&& (9223372036854775807 : Int64)))]), .inr (1, [(4, .long id)])], 3, 7)) rfl ?_
      exact EW.ret rfl ⟨rfl, Nat.le_of_ble_eq_true rfl, Nat.le_of_ble_eq_true rfl⟩
set_option maxHeartbeats 8000000 in
theorem own_c3 (A : List Value) (id gs len d e : Int64) (sel : Int32) (hin : -128 ≤ id.toInt → id.toInt ≤ 127 → (¬ (id.toInt32 + 128) < 0 ∧ A[(id.toInt32 + 128).toNatClampNeg]? = some (.ref 1))) : EW gG 7 160 mL (fun r => r.1 = some (.int 1) ∧ r.2.2.1 ≤ 16 ∧ r.2.2.2 ≤ 128) ((105, [.val (.long id), .second, .val (.long gs), .second, .val (.long len), .second, .val (.long d), .second, .val (.long e), .second, .val (.int sel), .val (.long (len &&& (9223372036854775807 : Int64))), .second, .val (.int (0 : Int32)), .val (.int (1 : Int32)), .val (.int (1 : Int32)), .val (.long id), .second, .val (.long (gs ^^^ e)), .second, .val (.long (d &&& (9223372036854775807 : Int64))), .second, .val (.long ((len &&& (9223372036854775807 : Int64)) ^^^ (d &&& (9223372036854775807 : Int64)))), .second, .unset, .unset, .unset, .unset], []), [.inl (.object "java/lang/Long", A), .inr (1, [])], 0, 0) := by
  have lz : (0 : Int64).toInt = 0 := by decide
  refine EW.run 5 (cf' := ((113, [.val (.long id), .second, .val (.long gs), .second, .val (.long len), .second, .val (.long d), .second, .val (.long e), .second, .val (.int sel), .val (.long (len &&& (9223372036854775807 : Int64))), .second, .val (.int (0 : Int32)), .val (.int (1 : Int32)), .val (.int (1 : Int32)), .val (.long id), .second, .val (.long (gs ^^^ e)), .second, .val (.long (d &&& (9223372036854775807 : Int64))), .second, .val (.long ((len &&& (9223372036854775807 : Int64)) ^^^ (d &&& (9223372036854775807 : Int64)))), .second, .unset, .unset, .unset, .unset], [.long (len &&& (9223372036854775807 : Int64)), .long gs, .long id, .ref 2, .ref 2]), [.inl (.object "java/lang/Long", A), .inr (1, []), .inr (0, [(0, .long (0 : Int64)), (1, .long (0 : Int64)), (2, .long (0 : Int64))])], 1, 3)) rfl ?_
  refine EW.call (Qc := fun r => r = (none, [.inl (.object "java/lang/Long", A), .inr (1, []), .inr (0, [(0, .long id), (1, .long gs), (2, .long (len &&& (9223372036854775807 : Int64)))])], 0, 0)) rfl ?_ ?_
  · show EW _ _ _ _ _ ((0, [.val (.ref 2), .val (.long id), .second, .val (.long gs), .second, .val (.long (len &&& (9223372036854775807 : Int64))), .second], []), [.inl (.object "java/lang/Long", A), .inr (1, []), .inr (0, [(0, .long (0 : Int64)), (1, .long (0 : Int64)), (2, .long (0 : Int64))])], 0, 0)
    refine EW.run 5 (cf' := ((8, [.val (.ref 2), .val (.long id), .second, .val (.long gs), .second, .val (.long (len &&& (9223372036854775807 : Int64))), .second], [.int (XT.cmpL (len &&& (9223372036854775807 : Int64)) (0 : Int64))]), [.inl (.object "java/lang/Long", A), .inr (1, []), .inr (0, [(0, .long (0 : Int64)), (1, .long (0 : Int64)), (2, .long (0 : Int64))])], 0, 0)) rfl ?_
    refine EW.iflP rfl (by decide) (fun h => ?_) (fun h => ?_)
    · have h1 : (len &&& (9223372036854775807 : Int64)).toInt ≥ (0 : Int64).toInt := by simp only [cP] at h; omega
      clear h
      show EW _ _ _ _ _ ((27, [.val (.ref 2), .val (.long id), .second, .val (.long gs), .second, .val (.long (len &&& (9223372036854775807 : Int64))), .second], []), [.inl (.object "java/lang/Long", A), .inr (1, []), .inr (0, [(0, .long (0 : Int64)), (1, .long (0 : Int64)), (2, .long (0 : Int64))])], 0, 0)
      refine EW.run 6 (cf' := ((37, [.val (.ref 2), .val (.long id), .second, .val (.long gs), .second, .val (.long (len &&& (9223372036854775807 : Int64))), .second], []), [.inl (.object "java/lang/Long", A), .inr (1, []), .inr (0, [(0, .long id), (1, .long gs), (2, .long (0 : Int64))])], 0, 0)) rfl ?_
      refine EW.run 3 (cf' := ((43, [.val (.ref 2), .val (.long id), .second, .val (.long gs), .second, .val (.long (len &&& (9223372036854775807 : Int64))), .second], []), [.inl (.object "java/lang/Long", A), .inr (1, []), .inr (0, [(0, .long id), (1, .long gs), (2, .long (len &&& (9223372036854775807 : Int64)))])], 0, 0)) rfl ?_
      exact EW.ret rfl rfl
    · exfalso
      simp only [cP] at h
      have := rng64 (len &&& (9223372036854775807 : Int64))
      have := rng64 len
      have lt0 : (9223372036854775807 : Int64).toInt = 9223372036854775807 := by decide
      have : (len &&& (9223372036854775807 : Int64)).toInt = len.toInt % 9223372036854775808 := c_maskL len (9223372036854775807 : Int64) 63 (by decide) (by decide)
      have lt1 : (0 : Int64).toInt = 0 := by decide
      omega
  rintro _ _ _ _ ⟨⟩
  show EW _ _ _ _ _ ((116, [.val (.long id), .second, .val (.long gs), .second, .val (.long len), .second, .val (.long d), .second, .val (.long e), .second, .val (.int sel), .val (.long (len &&& (9223372036854775807 : Int64))), .second, .val (.int (0 : Int32)), .val (.int (1 : Int32)), .val (.int (1 : Int32)), .val (.long id), .second, .val (.long (gs ^^^ e)), .second, .val (.long (d &&& (9223372036854775807 : Int64))), .second, .val (.long ((len &&& (9223372036854775807 : Int64)) ^^^ (d &&& (9223372036854775807 : Int64)))), .second, .unset, .unset, .unset, .unset], [.ref 2]), [.inl (.object "java/lang/Long", A), .inr (1, []), .inr (0, [(0, .long id), (1, .long gs), (2, .long (len &&& (9223372036854775807 : Int64)))])], 1, 3)
  refine EW.run 6 (cf' := ((128, [.val (.long id), .second, .val (.long gs), .second, .val (.long len), .second, .val (.long d), .second, .val (.long e), .second, .val (.int sel), .val (.long (len &&& (9223372036854775807 : Int64))), .second, .val (.int (0 : Int32)), .val (.int (1 : Int32)), .val (.int (1 : Int32)), .val (.long id), .second, .val (.long (gs ^^^ e)), .second, .val (.long (d &&& (9223372036854775807 : Int64))), .second, .val (.long ((len &&& (9223372036854775807 : Int64)) ^^^ (d &&& (9223372036854775807 : Int64)))), .second, .val (.ref 2), .unset, .unset, .unset], [.long ((len &&& (9223372036854775807 : Int64)) ^^^ (d &&& (9223372036854775807 : Int64))), .long (gs ^^^ e), .long id, .ref 3, .ref 3]), [.inl (.object "java/lang/Long", A), .inr (1, []), .inr (0, [(0, .long id), (1, .long gs), (2, .long (len &&& (9223372036854775807 : Int64)))]), .inr (0, [(0, .long (0 : Int64)), (1, .long (0 : Int64)), (2, .long (0 : Int64))])], 2, 6)) rfl ?_
  refine EW.call (Qc := fun r => r = (none, [.inl (.object "java/lang/Long", A), .inr (1, []), .inr (0, [(0, .long id), (1, .long gs), (2, .long (len &&& (9223372036854775807 : Int64)))]), .inr (0, [(0, .long id), (1, .long (gs ^^^ e)), (2, .long ((len &&& (9223372036854775807 : Int64)) ^^^ (d &&& (9223372036854775807 : Int64))))])], 0, 0)) rfl ?_ ?_
  · show EW _ _ _ _ _ ((0, [.val (.ref 3), .val (.long id), .second, .val (.long (gs ^^^ e)), .second, .val (.long ((len &&& (9223372036854775807 : Int64)) ^^^ (d &&& (9223372036854775807 : Int64)))), .second], []), [.inl (.object "java/lang/Long", A), .inr (1, []), .inr (0, [(0, .long id), (1, .long gs), (2, .long (len &&& (9223372036854775807 : Int64)))]), .inr (0, [(0, .long (0 : Int64)), (1, .long (0 : Int64)), (2, .long (0 : Int64))])], 0, 0)
    refine EW.run 5 (cf' := ((8, [.val (.ref 3), .val (.long id), .second, .val (.long (gs ^^^ e)), .second, .val (.long ((len &&& (9223372036854775807 : Int64)) ^^^ (d &&& (9223372036854775807 : Int64)))), .second], [.int (XT.cmpL ((len &&& (9223372036854775807 : Int64)) ^^^ (d &&& (9223372036854775807 : Int64))) (0 : Int64))]), [.inl (.object "java/lang/Long", A), .inr (1, []), .inr (0, [(0, .long id), (1, .long gs), (2, .long (len &&& (9223372036854775807 : Int64)))]), .inr (0, [(0, .long (0 : Int64)), (1, .long (0 : Int64)), (2, .long (0 : Int64))])], 0, 0)) rfl ?_
    refine EW.iflP rfl (by decide) (fun h => ?_) (fun h => ?_)
    · have h1 : ((len &&& (9223372036854775807 : Int64)) ^^^ (d &&& (9223372036854775807 : Int64))).toInt ≥ (0 : Int64).toInt := by simp only [cP] at h; omega
      clear h
      show EW _ _ _ _ _ ((27, [.val (.ref 3), .val (.long id), .second, .val (.long (gs ^^^ e)), .second, .val (.long ((len &&& (9223372036854775807 : Int64)) ^^^ (d &&& (9223372036854775807 : Int64)))), .second], []), [.inl (.object "java/lang/Long", A), .inr (1, []), .inr (0, [(0, .long id), (1, .long gs), (2, .long (len &&& (9223372036854775807 : Int64)))]), .inr (0, [(0, .long (0 : Int64)), (1, .long (0 : Int64)), (2, .long (0 : Int64))])], 0, 0)
      refine EW.run 6 (cf' := ((37, [.val (.ref 3), .val (.long id), .second, .val (.long (gs ^^^ e)), .second, .val (.long ((len &&& (9223372036854775807 : Int64)) ^^^ (d &&& (9223372036854775807 : Int64)))), .second], []), [.inl (.object "java/lang/Long", A), .inr (1, []), .inr (0, [(0, .long id), (1, .long gs), (2, .long (len &&& (9223372036854775807 : Int64)))]), .inr (0, [(0, .long id), (1, .long (gs ^^^ e)), (2, .long (0 : Int64))])], 0, 0)) rfl ?_
      refine EW.run 3 (cf' := ((43, [.val (.ref 3), .val (.long id), .second, .val (.long (gs ^^^ e)), .second, .val (.long ((len &&& (9223372036854775807 : Int64)) ^^^ (d &&& (9223372036854775807 : Int64)))), .second], []), [.inl (.object "java/lang/Long", A), .inr (1, []), .inr (0, [(0, .long id), (1, .long gs), (2, .long (len &&& (9223372036854775807 : Int64)))]), .inr (0, [(0, .long id), (1, .long (gs ^^^ e)), (2, .long ((len &&& (9223372036854775807 : Int64)) ^^^ (d &&& (9223372036854775807 : Int64))))])], 0, 0)) rfl ?_
      exact EW.ret rfl rfl
    · exfalso
      simp only [cP] at h
      have := rng64 ((len &&& (9223372036854775807 : Int64)) ^^^ (d &&& (9223372036854775807 : Int64)))
      have := rng64 (len &&& (9223372036854775807 : Int64))
      have := rng64 len
      have lt0 : (9223372036854775807 : Int64).toInt = 9223372036854775807 := by decide
      have : (len &&& (9223372036854775807 : Int64)).toInt = len.toInt % 9223372036854775808 := c_maskL len (9223372036854775807 : Int64) 63 (by decide) (by decide)
      have := rng64 (d &&& (9223372036854775807 : Int64))
      have := rng64 d
      have : (d &&& (9223372036854775807 : Int64)).toInt = d.toInt % 9223372036854775808 := c_maskL d (9223372036854775807 : Int64) 63 (by decide) (by decide)
      have := c_xorSL (len &&& (9223372036854775807 : Int64)) (d &&& (9223372036854775807 : Int64))
      have := own_xor (len &&& (9223372036854775807 : Int64)) (d &&& (9223372036854775807 : Int64))
      have lt1 : (0 : Int64).toInt = 0 := by decide
      omega
  rintro _ _ _ _ ⟨⟩
  show EW _ _ _ _ _ ((131, [.val (.long id), .second, .val (.long gs), .second, .val (.long len), .second, .val (.long d), .second, .val (.long e), .second, .val (.int sel), .val (.long (len &&& (9223372036854775807 : Int64))), .second, .val (.int (0 : Int32)), .val (.int (1 : Int32)), .val (.int (1 : Int32)), .val (.long id), .second, .val (.long (gs ^^^ e)), .second, .val (.long (d &&& (9223372036854775807 : Int64))), .second, .val (.long ((len &&& (9223372036854775807 : Int64)) ^^^ (d &&& (9223372036854775807 : Int64)))), .second, .val (.ref 2), .unset, .unset, .unset], [.ref 3]), [.inl (.object "java/lang/Long", A), .inr (1, []), .inr (0, [(0, .long id), (1, .long gs), (2, .long (len &&& (9223372036854775807 : Int64)))]), .inr (0, [(0, .long id), (1, .long (gs ^^^ e)), (2, .long ((len &&& (9223372036854775807 : Int64)) ^^^ (d &&& (9223372036854775807 : Int64))))])], 2, 6)
  refine EW.run 6 (cf' := ((139, [.val (.long id), .second, .val (.long gs), .second, .val (.long len), .second, .val (.long d), .second, .val (.long e), .second, .val (.int sel), .val (.long (len &&& (9223372036854775807 : Int64))), .second, .val (.int (0 : Int32)), .val (.int (1 : Int32)), .val (.int (1 : Int32)), .val (.long id), .second, .val (.long (gs ^^^ e)), .second, .val (.long (d &&& (9223372036854775807 : Int64))), .second, .val (.long ((len &&& (9223372036854775807 : Int64)) ^^^ (d &&& (9223372036854775807 : Int64)))), .second, .val (.ref 2), .val (.ref 3), .unset, .unset], [.int ((XT.ushr sel (3 : Int32)) &&& (3 : Int32))]), [.inl (.object "java/lang/Long", A), .inr (1, []), .inr (0, [(0, .long id), (1, .long gs), (2, .long (len &&& (9223372036854775807 : Int64)))]), .inr (0, [(0, .long id), (1, .long (gs ^^^ e)), (2, .long ((len &&& (9223372036854775807 : Int64)) ^^^ (d &&& (9223372036854775807 : Int64))))])], 2, 6)) rfl ?_
  refine EW.run 3 (cf' := ((144, [.val (.long id), .second, .val (.long gs), .second, .val (.long len), .second, .val (.long d), .second, .val (.long e), .second, .val (.int sel), .val (.long (len &&& (9223372036854775807 : Int64))), .second, .val (.int (0 : Int32)), .val (.int (1 : Int32)), .val (.int (1 : Int32)), .val (.long id), .second, .val (.long (gs ^^^ e)), .second, .val (.long (d &&& (9223372036854775807 : Int64))), .second, .val (.long ((len &&& (9223372036854775807 : Int64)) ^^^ (d &&& (9223372036854775807 : Int64)))), .second, .val (.ref 2), .val (.ref 3), .val (.int ((XT.ushr sel (3 : Int32)) &&& (3 : Int32))), .unset], [.int (1 : Int32), .int ((XT.ushr sel (3 : Int32)) &&& (3 : Int32))]), [.inl (.object "java/lang/Long", A), .inr (1, []), .inr (0, [(0, .long id), (1, .long gs), (2, .long (len &&& (9223372036854775807 : Int64)))]), .inr (0, [(0, .long id), (1, .long (gs ^^^ e)), (2, .long ((len &&& (9223372036854775807 : Int64)) ^^^ (d &&& (9223372036854775807 : Int64))))])], 2, 6)) rfl ?_
  refine EW.icmpP rfl (by decide) (fun h => ?_) (fun h => ?_)
  · have h1 : ((XT.ushr sel (3 : Int32)) &&& (3 : Int32)).toInt ≠ (1 : Int32).toInt := by simp only [cP] at h; omega
    clear h
    show EW _ _ _ _ _ ((165, [.val (.long id), .second, .val (.long gs), .second, .val (.long len), .second, .val (.long d), .second, .val (.long e), .second, .val (.int sel), .val (.long (len &&& (9223372036854775807 : Int64))), .second, .val (.int (0 : Int32)), .val (.int (1 : Int32)), .val (.int (1 : Int32)), .val (.long id), .second, .val (.long (gs ^^^ e)), .second, .val (.long (d &&& (9223372036854775807 : Int64))), .second, .val (.long ((len &&& (9223372036854775807 : Int64)) ^^^ (d &&& (9223372036854775807 : Int64)))), .second, .val (.ref 2), .val (.ref 3), .val (.int ((XT.ushr sel (3 : Int32)) &&& (3 : Int32))), .unset], []), [.inl (.object "java/lang/Long", A), .inr (1, []), .inr (0, [(0, .long id), (1, .long gs), (2, .long (len &&& (9223372036854775807 : Int64)))]), .inr (0, [(0, .long id), (1, .long (gs ^^^ e)), (2, .long ((len &&& (9223372036854775807 : Int64)) ^^^ (d &&& (9223372036854775807 : Int64))))])], 2, 6)
    refine EW.run 2 (cf' := ((168, [.val (.long id), .second, .val (.long gs), .second, .val (.long len), .second, .val (.long d), .second, .val (.long e), .second, .val (.int sel), .val (.long (len &&& (9223372036854775807 : Int64))), .second, .val (.int (0 : Int32)), .val (.int (1 : Int32)), .val (.int (1 : Int32)), .val (.long id), .second, .val (.long (gs ^^^ e)), .second, .val (.long (d &&& (9223372036854775807 : Int64))), .second, .val (.long ((len &&& (9223372036854775807 : Int64)) ^^^ (d &&& (9223372036854775807 : Int64)))), .second, .val (.ref 2), .val (.ref 3), .val (.int ((XT.ushr sel (3 : Int32)) &&& (3 : Int32))), .unset], [.int (2 : Int32), .int ((XT.ushr sel (3 : Int32)) &&& (3 : Int32))]), [.inl (.object "java/lang/Long", A), .inr (1, []), .inr (0, [(0, .long id), (1, .long gs), (2, .long (len &&& (9223372036854775807 : Int64)))]), .inr (0, [(0, .long id), (1, .long (gs ^^^ e)), (2, .long ((len &&& (9223372036854775807 : Int64)) ^^^ (d &&& (9223372036854775807 : Int64))))])], 2, 6)) rfl ?_
    refine EW.icmpP rfl (by decide) (fun h => ?_) (fun h => ?_)
    · have h2 : ((XT.ushr sel (3 : Int32)) &&& (3 : Int32)).toInt ≠ (2 : Int32).toInt := by simp only [cP] at h; omega
      clear h
      show EW _ _ _ _ _ ((186, [.val (.long id), .second, .val (.long gs), .second, .val (.long len), .second, .val (.long d), .second, .val (.long e), .second, .val (.int sel), .val (.long (len &&& (9223372036854775807 : Int64))), .second, .val (.int (0 : Int32)), .val (.int (1 : Int32)), .val (.int (1 : Int32)), .val (.long id), .second, .val (.long (gs ^^^ e)), .second, .val (.long (d &&& (9223372036854775807 : Int64))), .second, .val (.long ((len &&& (9223372036854775807 : Int64)) ^^^ (d &&& (9223372036854775807 : Int64)))), .second, .val (.ref 2), .val (.ref 3), .val (.int ((XT.ushr sel (3 : Int32)) &&& (3 : Int32))), .unset], []), [.inl (.object "java/lang/Long", A), .inr (1, []), .inr (0, [(0, .long id), (1, .long gs), (2, .long (len &&& (9223372036854775807 : Int64)))]), .inr (0, [(0, .long id), (1, .long (gs ^^^ e)), (2, .long ((len &&& (9223372036854775807 : Int64)) ^^^ (d &&& (9223372036854775807 : Int64))))])], 2, 6)
      refine EW.run 2 (cf' := ((189, [.val (.long id), .second, .val (.long gs), .second, .val (.long len), .second, .val (.long d), .second, .val (.long e), .second, .val (.int sel), .val (.long (len &&& (9223372036854775807 : Int64))), .second, .val (.int (0 : Int32)), .val (.int (1 : Int32)), .val (.int (1 : Int32)), .val (.long id), .second, .val (.long (gs ^^^ e)), .second, .val (.long (d &&& (9223372036854775807 : Int64))), .second, .val (.long ((len &&& (9223372036854775807 : Int64)) ^^^ (d &&& (9223372036854775807 : Int64)))), .second, .val (.ref 2), .val (.ref 3), .val (.int ((XT.ushr sel (3 : Int32)) &&& (3 : Int32))), .unset], [.int (3 : Int32), .int ((XT.ushr sel (3 : Int32)) &&& (3 : Int32))]), [.inl (.object "java/lang/Long", A), .inr (1, []), .inr (0, [(0, .long id), (1, .long gs), (2, .long (len &&& (9223372036854775807 : Int64)))]), .inr (0, [(0, .long id), (1, .long (gs ^^^ e)), (2, .long ((len &&& (9223372036854775807 : Int64)) ^^^ (d &&& (9223372036854775807 : Int64))))])], 2, 6)) rfl ?_
      refine EW.icmpP rfl (by decide) (fun h => ?_) (fun h => ?_)
      · have h3 : ((XT.ushr sel (3 : Int32)) &&& (3 : Int32)).toInt ≠ (3 : Int32).toInt := by simp only [cP] at h; omega
        clear h
        show EW _ _ _ _ _ ((200, [.val (.long id), .second, .val (.long gs), .second, .val (.long len), .second, .val (.long d), .second, .val (.long e), .second, .val (.int sel), .val (.long (len &&& (9223372036854775807 : Int64))), .second, .val (.int (0 : Int32)), .val (.int (1 : Int32)), .val (.int (1 : Int32)), .val (.long id), .second, .val (.long (gs ^^^ e)), .second, .val (.long (d &&& (9223372036854775807 : Int64))), .second, .val (.long ((len &&& (9223372036854775807 : Int64)) ^^^ (d &&& (9223372036854775807 : Int64)))), .second, .val (.ref 2), .val (.ref 3), .val (.int ((XT.ushr sel (3 : Int32)) &&& (3 : Int32))), .unset], []), [.inl (.object "java/lang/Long", A), .inr (1, []), .inr (0, [(0, .long id), (1, .long gs), (2, .long (len &&& (9223372036854775807 : Int64)))]), .inr (0, [(0, .long id), (1, .long (gs ^^^ e)), (2, .long ((len &&& (9223372036854775807 : Int64)) ^^^ (d &&& (9223372036854775807 : Int64))))])], 2, 6)
        refine EW.run 6 (cf' := ((220, [.val (.long id), .second, .val (.long gs), .second, .val (.long len), .second, .val (.long d), .second, .val (.long e), .second, .val (.int sel), .val (.long (len &&& (9223372036854775807 : Int64))), .second, .val (.int (0 : Int32)), .val (.int (1 : Int32)), .val (.int (1 : Int32)), .val (.long id), .second, .val (.long (gs ^^^ e)), .second, .val (.long (d &&& (9223372036854775807 : Int64))), .second, .val (.long ((len &&& (9223372036854775807 : Int64)) ^^^ (d &&& (9223372036854775807 : Int64)))), .second, .val (.ref 2), .val (.ref 3), .val (.int ((XT.ushr sel (3 : Int32)) &&& (3 : Int32))), .unset], [.long (0 : Int64), .long e]), [.inl (.object "java/lang/Long", A), .inr (1, []), .inr (0, [(0, .long id), (1, .long gs), (2, .long (len &&& (9223372036854775807 : Int64)))]), .inr (0, [(0, .long id), (1, .long (gs ^^^ e)), (2, .long ((len &&& (9223372036854775807 : Int64)) ^^^ (d &&& (9223372036854775807 : Int64))))])], 2, 6)) rfl ?_
        refine EW.run 1 (cf' := ((221, [.val (.long id), .second, .val (.long gs), .second, .val (.long len), .second, .val (.long d), .second, .val (.long e), .second, .val (.int sel), .val (.long (len &&& (9223372036854775807 : Int64))), .second, .val (.int (0 : Int32)), .val (.int (1 : Int32)), .val (.int (1 : Int32)), .val (.long id), .second, .val (.long (gs ^^^ e)), .second, .val (.long (d &&& (9223372036854775807 : Int64))), .second, .val (.long ((len &&& (9223372036854775807 : Int64)) ^^^ (d &&& (9223372036854775807 : Int64)))), .second, .val (.ref 2), .val (.ref 3), .val (.int ((XT.ushr sel (3 : Int32)) &&& (3 : Int32))), .unset], [.int (XT.cmpL e (0 : Int64))]), [.inl (.object "java/lang/Long", A), .inr (1, []), .inr (0, [(0, .long id), (1, .long gs), (2, .long (len &&& (9223372036854775807 : Int64)))]), .inr (0, [(0, .long id), (1, .long (gs ^^^ e)), (2, .long ((len &&& (9223372036854775807 : Int64)) ^^^ (d &&& (9223372036854775807 : Int64))))])], 2, 6)) rfl ?_
        refine EW.iflP rfl (by decide) (fun h => ?_) (fun h => ?_)
        · have h4 : e.toInt ≠ (0 : Int64).toInt := by simp only [cP] at h; omega
          clear h
          show EW _ _ _ _ _ ((240, [.val (.long id), .second, .val (.long gs), .second, .val (.long len), .second, .val (.long d), .second, .val (.long e), .second, .val (.int sel), .val (.long (len &&& (9223372036854775807 : Int64))), .second, .val (.int (0 : Int32)), .val (.int (1 : Int32)), .val (.int (1 : Int32)), .val (.long id), .second, .val (.long (gs ^^^ e)), .second, .val (.long (d &&& (9223372036854775807 : Int64))), .second, .val (.long ((len &&& (9223372036854775807 : Int64)) ^^^ (d &&& (9223372036854775807 : Int64)))), .second, .val (.ref 2), .val (.ref 3), .val (.int ((XT.ushr sel (3 : Int32)) &&& (3 : Int32))), .unset], []), [.inl (.object "java/lang/Long", A), .inr (1, []), .inr (0, [(0, .long id), (1, .long gs), (2, .long (len &&& (9223372036854775807 : Int64)))]), .inr (0, [(0, .long id), (1, .long (gs ^^^ e)), (2, .long ((len &&& (9223372036854775807 : Int64)) ^^^ (d &&& (9223372036854775807 : Int64))))])], 2, 6)
          refine EW.run 4 (cf' := ((247, [.val (.long id), .second, .val (.long gs), .second, .val (.long len), .second, .val (.long d), .second, .val (.long e), .second, .val (.int sel), .val (.long (len &&& (9223372036854775807 : Int64))), .second, .val (.int (0 : Int32)), .val (.int (1 : Int32)), .val (.int (1 : Int32)), .val (.long id), .second, .val (.long (gs ^^^ e)), .second, .val (.long (d &&& (9223372036854775807 : Int64))), .second, .val (.long ((len &&& (9223372036854775807 : Int64)) ^^^ (d &&& (9223372036854775807 : Int64)))), .second, .val (.ref 2), .val (.ref 3), .val (.int ((XT.ushr sel (3 : Int32)) &&& (3 : Int32))), .val (.int (0 : Int32))], [.ref 3, .ref 2]), [.inl (.object "java/lang/Long", A), .inr (1, []), .inr (0, [(0, .long id), (1, .long gs), (2, .long (len &&& (9223372036854775807 : Int64)))]), .inr (0, [(0, .long id), (1, .long (gs ^^^ e)), (2, .long ((len &&& (9223372036854775807 : Int64)) ^^^ (d &&& (9223372036854775807 : Int64))))])], 2, 6)) rfl ?_
          refine EW.call rfl (weq_23 _ _ A id gs (len &&& (9223372036854775807 : Int64)) id (gs ^^^ e) ((len &&& (9223372036854775807 : Int64)) ^^^ (d &&& (9223372036854775807 : Int64)))) ?_
          rintro _ _ _ _ ⟨z, e0, ⟨rfl, hz⟩ | ⟨rfl, hz⟩⟩
          · cases e0; have h5 := hz; clear hz
            show EW _ _ _ _ _ ((250, [.val (.long id), .second, .val (.long gs), .second, .val (.long len), .second, .val (.long d), .second, .val (.long e), .second, .val (.int sel), .val (.long (len &&& (9223372036854775807 : Int64))), .second, .val (.int (0 : Int32)), .val (.int (1 : Int32)), .val (.int (1 : Int32)), .val (.long id), .second, .val (.long (gs ^^^ e)), .second, .val (.long (d &&& (9223372036854775807 : Int64))), .second, .val (.long ((len &&& (9223372036854775807 : Int64)) ^^^ (d &&& (9223372036854775807 : Int64)))), .second, .val (.ref 2), .val (.ref 3), .val (.int ((XT.ushr sel (3 : Int32)) &&& (3 : Int32))), .val (.int (0 : Int32))], [.int (1 : Int32)]), [.inl (.object "java/lang/Long", A), .inr (1, []), .inr (0, [(0, .long id), (1, .long gs), (2, .long (len &&& (9223372036854775807 : Int64)))]), .inr (0, [(0, .long id), (1, .long (gs ^^^ e)), (2, .long ((len &&& (9223372036854775807 : Int64)) ^^^ (d &&& (9223372036854775807 : Int64))))])], 2, 6)
            refine EW.run 3 (cf' := ((272, [.val (.long id), .second, .val (.long gs), .second, .val (.long len), .second, .val (.long d), .second, .val (.long e), .second, .val (.int sel), .val (.long (len &&& (9223372036854775807 : Int64))), .second, .val (.int (0 : Int32)), .val (.int (1 : Int32)), .val (.int (1 : Int32)), .val (.long id), .second, .val (.long (gs ^^^ e)), .second, .val (.long (d &&& (9223372036854775807 : Int64))), .second, .val (.long ((len &&& (9223372036854775807 : Int64)) ^^^ (d &&& (9223372036854775807 : Int64)))), .second, .val (.ref 2), .val (.ref 3), .val (.int ((XT.ushr sel (3 : Int32)) &&& (3 : Int32))), .val (.int (0 : Int32))], [.int (0 : Int32)]), [.inl (.object "java/lang/Long", A), .inr (1, []), .inr (0, [(0, .long id), (1, .long gs), (2, .long (len &&& (9223372036854775807 : Int64)))]), .inr (0, [(0, .long id), (1, .long (gs ^^^ e)), (2, .long ((len &&& (9223372036854775807 : Int64)) ^^^ (d &&& (9223372036854775807 : Int64))))])], 2, 6)) rfl ?_
            exfalso
            have := rng32 ((XT.ushr sel (3 : Int32)) &&& (3 : Int32))
            have := rng32 (XT.ushr sel (3 : Int32))
            have := rng32 sel
            have lt0 : (3 : Int32).toInt = 3 := by decide
            have : (XT.ushr sel (3 : Int32)).toInt = (sel.toInt % 4294967296) / 8 := c_iushr sel (3 : Int32) 3 (by decide) (by decide)
            have : ((XT.ushr sel (3 : Int32)) &&& (3 : Int32)).toInt = (XT.ushr sel (3 : Int32)).toInt % 4 := c_mask (XT.ushr sel (3 : Int32)) (3 : Int32) 2 (by decide) (by decide)
            have lt1 : (1 : Int32).toInt = 1 := by decide
            have lt2 : (2 : Int32).toInt = 2 := by decide
            have := rng64 e
            have lt3 : (0 : Int64).toInt = 0 := by decide
            have := rng64 (gs ^^^ e)
            have := rng64 gs
            have := c_xorSL gs e
            have := own_xor gs e
            have := rng64 ((len &&& (9223372036854775807 : Int64)) ^^^ (d &&& (9223372036854775807 : Int64)))
            have := rng64 (len &&& (9223372036854775807 : Int64))
            have := rng64 len
            have lt4 : (9223372036854775807 : Int64).toInt = 9223372036854775807 := by decide
            have : (len &&& (9223372036854775807 : Int64)).toInt = len.toInt % 9223372036854775808 := c_maskL len (9223372036854775807 : Int64) 63 (by decide) (by decide)
            have := rng64 (d &&& (9223372036854775807 : Int64))
            have := rng64 d
            have : (d &&& (9223372036854775807 : Int64)).toInt = d.toInt % 9223372036854775808 := c_maskL d (9223372036854775807 : Int64) 63 (by decide) (by decide)
            have := c_xorSL (len &&& (9223372036854775807 : Int64)) (d &&& (9223372036854775807 : Int64))
            have := own_xor (len &&& (9223372036854775807 : Int64)) (d &&& (9223372036854775807 : Int64))
            omega
          · cases e0; have h5 := hz; clear hz
            show EW _ _ _ _ _ ((250, [.val (.long id), .second, .val (.long gs), .second, .val (.long len), .second, .val (.long d), .second, .val (.long e), .second, .val (.int sel), .val (.long (len &&& (9223372036854775807 : Int64))), .second, .val (.int (0 : Int32)), .val (.int (1 : Int32)), .val (.int (1 : Int32)), .val (.long id), .second, .val (.long (gs ^^^ e)), .second, .val (.long (d &&& (9223372036854775807 : Int64))), .second, .val (.long ((len &&& (9223372036854775807 : Int64)) ^^^ (d &&& (9223372036854775807 : Int64)))), .second, .val (.ref 2), .val (.ref 3), .val (.int ((XT.ushr sel (3 : Int32)) &&& (3 : Int32))), .val (.int (0 : Int32))], [.int (0 : Int32)]), [.inl (.object "java/lang/Long", A), .inr (1, []), .inr (0, [(0, .long id), (1, .long gs), (2, .long (len &&& (9223372036854775807 : Int64)))]), .inr (0, [(0, .long id), (1, .long (gs ^^^ e)), (2, .long ((len &&& (9223372036854775807 : Int64)) ^^^ (d &&& (9223372036854775807 : Int64))))])], 2, 6)
            refine EW.run 4 (cf' := ((259, [.val (.long id), .second, .val (.long gs), .second, .val (.long len), .second, .val (.long d), .second, .val (.long e), .second, .val (.int sel), .val (.long (len &&& (9223372036854775807 : Int64))), .second, .val (.int (0 : Int32)), .val (.int (1 : Int32)), .val (.int (1 : Int32)), .val (.long id), .second, .val (.long (gs ^^^ e)), .second, .val (.long (d &&& (9223372036854775807 : Int64))), .second, .val (.long ((len &&& (9223372036854775807 : Int64)) ^^^ (d &&& (9223372036854775807 : Int64)))), .second, .val (.ref 2), .val (.ref 3), .val (.int ((XT.ushr sel (3 : Int32)) &&& (3 : Int32))), .val (.int (0 : Int32))], [.ref 2, .ref 3]), [.inl (.object "java/lang/Long", A), .inr (1, []), .inr (0, [(0, .long id), (1, .long gs), (2, .long (len &&& (9223372036854775807 : Int64)))]), .inr (0, [(0, .long id), (1, .long (gs ^^^ e)), (2, .long ((len &&& (9223372036854775807 : Int64)) ^^^ (d &&& (9223372036854775807 : Int64))))])], 2, 6)) rfl ?_
            refine EW.call rfl (weq_32 _ _ A id gs (len &&& (9223372036854775807 : Int64)) id (gs ^^^ e) ((len &&& (9223372036854775807 : Int64)) ^^^ (d &&& (9223372036854775807 : Int64)))) ?_
            rintro _ _ _ _ ⟨z, e0, ⟨rfl, hz⟩ | ⟨rfl, hz⟩⟩
            · cases e0; have h6 := hz; clear hz
              show EW _ _ _ _ _ ((262, [.val (.long id), .second, .val (.long gs), .second, .val (.long len), .second, .val (.long d), .second, .val (.long e), .second, .val (.int sel), .val (.long (len &&& (9223372036854775807 : Int64))), .second, .val (.int (0 : Int32)), .val (.int (1 : Int32)), .val (.int (1 : Int32)), .val (.long id), .second, .val (.long (gs ^^^ e)), .second, .val (.long (d &&& (9223372036854775807 : Int64))), .second, .val (.long ((len &&& (9223372036854775807 : Int64)) ^^^ (d &&& (9223372036854775807 : Int64)))), .second, .val (.ref 2), .val (.ref 3), .val (.int ((XT.ushr sel (3 : Int32)) &&& (3 : Int32))), .val (.int (0 : Int32))], [.int (1 : Int32)]), [.inl (.object "java/lang/Long", A), .inr (1, []), .inr (0, [(0, .long id), (1, .long gs), (2, .long (len &&& (9223372036854775807 : Int64)))]), .inr (0, [(0, .long id), (1, .long (gs ^^^ e)), (2, .long ((len &&& (9223372036854775807 : Int64)) ^^^ (d &&& (9223372036854775807 : Int64))))])], 2, 6)
              refine EW.run 3 (cf' := ((272, [.val (.long id), .second, .val (.long gs), .second, .val (.long len), .second, .val (.long d), .second, .val (.long e), .second, .val (.int sel), .val (.long (len &&& (9223372036854775807 : Int64))), .second, .val (.int (0 : Int32)), .val (.int (1 : Int32)), .val (.int (1 : Int32)), .val (.long id), .second, .val (.long (gs ^^^ e)), .second, .val (.long (d &&& (9223372036854775807 : Int64))), .second, .val (.long ((len &&& (9223372036854775807 : Int64)) ^^^ (d &&& (9223372036854775807 : Int64)))), .second, .val (.ref 2), .val (.ref 3), .val (.int ((XT.ushr sel (3 : Int32)) &&& (3 : Int32))), .val (.int (0 : Int32))], [.int (0 : Int32)]), [.inl (.object "java/lang/Long", A), .inr (1, []), .inr (0, [(0, .long id), (1, .long gs), (2, .long (len &&& (9223372036854775807 : Int64)))]), .inr (0, [(0, .long id), (1, .long (gs ^^^ e)), (2, .long ((len &&& (9223372036854775807 : Int64)) ^^^ (d &&& (9223372036854775807 : Int64))))])], 2, 6)) rfl ?_
              exfalso
              have := rng32 ((XT.ushr sel (3 : Int32)) &&& (3 : Int32))
              have := rng32 (XT.ushr sel (3 : Int32))
              have := rng32 sel
              have lt0 : (3 : Int32).toInt = 3 := by decide
              have : (XT.ushr sel (3 : Int32)).toInt = (sel.toInt % 4294967296) / 8 := c_iushr sel (3 : Int32) 3 (by decide) (by decide)
              have : ((XT.ushr sel (3 : Int32)) &&& (3 : Int32)).toInt = (XT.ushr sel (3 : Int32)).toInt % 4 := c_mask (XT.ushr sel (3 : Int32)) (3 : Int32) 2 (by decide) (by decide)
              have lt1 : (1 : Int32).toInt = 1 := by decide
              have lt2 : (2 : Int32).toInt = 2 := by decide
              have := rng64 e
              have lt3 : (0 : Int64).toInt = 0 := by decide
              have := rng64 (gs ^^^ e)
              have := rng64 gs
              have := c_xorSL gs e
              have := own_xor gs e
              have := rng64 ((len &&& (9223372036854775807 : Int64)) ^^^ (d &&& (9223372036854775807 : Int64)))
              have := rng64 (len &&& (9223372036854775807 : Int64))
              have := rng64 len
              have lt4 : (9223372036854775807 : Int64).toInt = 9223372036854775807 := by decide
              have : (len &&& (9223372036854775807 : Int64)).toInt = len.toInt % 9223372036854775808 := c_maskL len (9223372036854775807 : Int64) 63 (by decide) (by decide)
              have := rng64 (d &&& (9223372036854775807 : Int64))
              have := rng64 d
              have : (d &&& (9223372036854775807 : Int64)).toInt = d.toInt % 9223372036854775808 := c_maskL d (9223372036854775807 : Int64) 63 (by decide) (by decide)
              have := c_xorSL (len &&& (9223372036854775807 : Int64)) (d &&& (9223372036854775807 : Int64))
              have := own_xor (len &&& (9223372036854775807 : Int64)) (d &&& (9223372036854775807 : Int64))
              omega
            · cases e0; have h6 := hz; clear hz
              show EW _ _ _ _ _ ((262, [.val (.long id), .second, .val (.long gs), .second, .val (.long len), .second, .val (.long d), .second, .val (.long e), .second, .val (.int sel), .val (.long (len &&& (9223372036854775807 : Int64))), .second, .val (.int (0 : Int32)), .val (.int (1 : Int32)), .val (.int (1 : Int32)), .val (.long id), .second, .val (.long (gs ^^^ e)), .second, .val (.long (d &&& (9223372036854775807 : Int64))), .second, .val (.long ((len &&& (9223372036854775807 : Int64)) ^^^ (d &&& (9223372036854775807 : Int64)))), .second, .val (.ref 2), .val (.ref 3), .val (.int ((XT.ushr sel (3 : Int32)) &&& (3 : Int32))), .val (.int (0 : Int32))], [.int (0 : Int32)]), [.inl (.object "java/lang/Long", A), .inr (1, []), .inr (0, [(0, .long id), (1, .long gs), (2, .long (len &&& (9223372036854775807 : Int64)))]), .inr (0, [(0, .long id), (1, .long (gs ^^^ e)), (2, .long ((len &&& (9223372036854775807 : Int64)) ^^^ (d &&& (9223372036854775807 : Int64))))])], 2, 6)
              refine EW.run 4 (cf' := ((272, [.val (.long id), .second, .val (.long gs), .second, .val (.long len), .second, .val (.long d), .second, .val (.long e), .second, .val (.int sel), .val (.long (len &&& (9223372036854775807 : Int64))), .second, .val (.int (0 : Int32)), .val (.int (1 : Int32)), .val (.int (1 : Int32)), .val (.long id), .second, .val (.long (gs ^^^ e)), .second, .val (.long (d &&& (9223372036854775807 : Int64))), .second, .val (.long ((len &&& (9223372036854775807 : Int64)) ^^^ (d &&& (9223372036854775807 : Int64)))), .second, .val (.ref 2), .val (.ref 3), .val (.int ((XT.ushr sel (3 : Int32)) &&& (3 : Int32))), .val (.int (0 : Int32))], [.int (1 : Int32)]), [.inl (.object "java/lang/Long", A), .inr (1, []), .inr (0, [(0, .long id), (1, .long gs), (2, .long (len &&& (9223372036854775807 : Int64)))]), .inr (0, [(0, .long id), (1, .long (gs ^^^ e)), (2, .long ((len &&& (9223372036854775807 : Int64)) ^^^ (d &&& (9223372036854775807 : Int64))))])], 2, 6)) rfl ?_
              exact EW.ret rfl ⟨rfl, Nat.le_of_ble_eq_true rfl, Nat.le_of_ble_eq_true rfl⟩
        · have h4 : e.toInt = (0 : Int64).toInt := by simp only [cP] at h; omega
          clear h
          show EW _ _ _ _ _ ((224, [.val (.long id), .second, .val (.long gs), .second, .val (.long len), .second, .val (.long d), .second, .val (.long e), .second, .val (.int sel), .val (.long (len &&& (9223372036854775807 : Int64))), .second, .val (.int (0 : Int32)), .val (.int (1 : Int32)), .val (.int (1 : Int32)), .val (.long id), .second, .val (.long (gs ^^^ e)), .second, .val (.long (d &&& (9223372036854775807 : Int64))), .second, .val (.long ((len &&& (9223372036854775807 : Int64)) ^^^ (d &&& (9223372036854775807 : Int64)))), .second, .val (.ref 2), .val (.ref 3), .val (.int ((XT.ushr sel (3 : Int32)) &&& (3 : Int32))), .unset], []), [.inl (.object "java/lang/Long", A), .inr (1, []), .inr (0, [(0, .long id), (1, .long gs), (2, .long (len &&& (9223372036854775807 : Int64)))]), .inr (0, [(0, .long id), (1, .long (gs ^^^ e)), (2, .long ((len &&& (9223372036854775807 : Int64)) ^^^ (d &&& (9223372036854775807 : Int64))))])], 2, 6)
          refine EW.run 5 (cf' := ((233, [.val (.long id), .second, .val (.long gs), .second, .val (.long len), .second, .val (.long d), .second, .val (.long e), .second, .val (.int sel), .val (.long (len &&& (9223372036854775807 : Int64))), .second, .val (.int (0 : Int32)), .val (.int (1 : Int32)), .val (.int (1 : Int32)), .val (.long id), .second, .val (.long (gs ^^^ e)), .second, .val (.long (d &&& (9223372036854775807 : Int64))), .second, .val (.long ((len &&& (9223372036854775807 : Int64)) ^^^ (d &&& (9223372036854775807 : Int64)))), .second, .val (.ref 2), .val (.ref 3), .val (.int ((XT.ushr sel (3 : Int32)) &&& (3 : Int32))), .unset], [.int (XT.cmpL (d &&& (9223372036854775807 : Int64)) (0 : Int64))]), [.inl (.object "java/lang/Long", A), .inr (1, []), .inr (0, [(0, .long id), (1, .long gs), (2, .long (len &&& (9223372036854775807 : Int64)))]), .inr (0, [(0, .long id), (1, .long (gs ^^^ e)), (2, .long ((len &&& (9223372036854775807 : Int64)) ^^^ (d &&& (9223372036854775807 : Int64))))])], 2, 6)) rfl ?_
          refine EW.iflP rfl (by decide) (fun h => ?_) (fun h => ?_)
          · have h7 : (d &&& (9223372036854775807 : Int64)).toInt ≠ (0 : Int64).toInt := by simp only [cP] at h; omega
            clear h
            show EW _ _ _ _ _ ((240, [.val (.long id), .second, .val (.long gs), .second, .val (.long len), .second, .val (.long d), .second, .val (.long e), .second, .val (.int sel), .val (.long (len &&& (9223372036854775807 : Int64))), .second, .val (.int (0 : Int32)), .val (.int (1 : Int32)), .val (.int (1 : Int32)), .val (.long id), .second, .val (.long (gs ^^^ e)), .second, .val (.long (d &&& (9223372036854775807 : Int64))), .second, .val (.long ((len &&& (9223372036854775807 : Int64)) ^^^ (d &&& (9223372036854775807 : Int64)))), .second, .val (.ref 2), .val (.ref 3), .val (.int ((XT.ushr sel (3 : Int32)) &&& (3 : Int32))), .unset], []), [.inl (.object "java/lang/Long", A), .inr (1, []), .inr (0, [(0, .long id), (1, .long gs), (2, .long (len &&& (9223372036854775807 : Int64)))]), .inr (0, [(0, .long id), (1, .long (gs ^^^ e)), (2, .long ((len &&& (9223372036854775807 : Int64)) ^^^ (d &&& (9223372036854775807 : Int64))))])], 2, 6)
            refine EW.run 4 (cf' := ((247, [.val (.long id), .second, .val (.long gs), .second, .val (.long len), .second, .val (.long d), .second, .val (.long e), .second, .val (.int sel), .val (.long (len &&& (9223372036854775807 : Int64))), .second, .val (.int (0 : Int32)), .val (.int (1 : Int32)), .val (.int (1 : Int32)), .val (.long id), .second, .val (.long (gs ^^^ e)), .second, .val (.long (d &&& (9223372036854775807 : Int64))), .second, .val (.long ((len &&& (9223372036854775807 : Int64)) ^^^ (d &&& (9223372036854775807 : Int64)))), .second, .val (.ref 2), .val (.ref 3), .val (.int ((XT.ushr sel (3 : Int32)) &&& (3 : Int32))), .val (.int (0 : Int32))], [.ref 3, .ref 2]), [.inl (.object "java/lang/Long", A), .inr (1, []), .inr (0, [(0, .long id), (1, .long gs), (2, .long (len &&& (9223372036854775807 : Int64)))]), .inr (0, [(0, .long id), (1, .long (gs ^^^ e)), (2, .long ((len &&& (9223372036854775807 : Int64)) ^^^ (d &&& (9223372036854775807 : Int64))))])], 2, 6)) rfl ?_
            refine EW.call rfl (weq_23 _ _ A id gs (len &&& (9223372036854775807 : Int64)) id (gs ^^^ e) ((len &&& (9223372036854775807 : Int64)) ^^^ (d &&& (9223372036854775807 : Int64)))) ?_
            rintro _ _ _ _ ⟨z, e0, ⟨rfl, hz⟩ | ⟨rfl, hz⟩⟩
            · cases e0; have h8 := hz; clear hz
              show EW _ _ _ _ _ ((250, [.val (.long id), .second, .val (.long gs), .second, .val (.long len), .second, .val (.long d), .second, .val (.long e), .second, .val (.int sel), .val (.long (len &&& (9223372036854775807 : Int64))), .second, .val (.int (0 : Int32)), .val (.int (1 : Int32)), .val (.int (1 : Int32)), .val (.long id), .second, .val (.long (gs ^^^ e)), .second, .val (.long (d &&& (9223372036854775807 : Int64))), .second, .val (.long ((len &&& (9223372036854775807 : Int64)) ^^^ (d &&& (9223372036854775807 : Int64)))), .second, .val (.ref 2), .val (.ref 3), .val (.int ((XT.ushr sel (3 : Int32)) &&& (3 : Int32))), .val (.int (0 : Int32))], [.int (1 : Int32)]), [.inl (.object "java/lang/Long", A), .inr (1, []), .inr (0, [(0, .long id), (1, .long gs), (2, .long (len &&& (9223372036854775807 : Int64)))]), .inr (0, [(0, .long id), (1, .long (gs ^^^ e)), (2, .long ((len &&& (9223372036854775807 : Int64)) ^^^ (d &&& (9223372036854775807 : Int64))))])], 2, 6)
              refine EW.run 3 (cf' := ((272, [.val (.long id), .second, .val (.long gs), .second, .val (.long len), .second, .val (.long d), .second, .val (.long e), .second, .val (.int sel), .val (.long (len &&& (9223372036854775807 : Int64))), .second, .val (.int (0 : Int32)), .val (.int (1 : Int32)), .val (.int (1 : Int32)), .val (.long id), .second, .val (.long (gs ^^^ e)), .second, .val (.long (d &&& (9223372036854775807 : Int64))), .second, .val (.long ((len &&& (9223372036854775807 : Int64)) ^^^ (d &&& (9223372036854775807 : Int64)))), .second, .val (.ref 2), .val (.ref 3), .val (.int ((XT.ushr sel (3 : Int32)) &&& (3 : Int32))), .val (.int (0 : Int32))], [.int (0 : Int32)]), [.inl (.object "java/lang/Long", A), .inr (1, []), .inr (0, [(0, .long id), (1, .long gs), (2, .long (len &&& (9223372036854775807 : Int64)))]), .inr (0, [(0, .long id), (1, .long (gs ^^^ e)), (2, .long ((len &&& (9223372036854775807 : Int64)) ^^^ (d &&& (9223372036854775807 : Int64))))])], 2, 6)) rfl ?_
              exfalso
              have := rng32 ((XT.ushr sel (3 : Int32)) &&& (3 : Int32))
              have := rng32 (XT.ushr sel (3 : Int32))
              have := rng32 sel
              have lt0 : (3 : Int32).toInt = 3 := by decide
              have : (XT.ushr sel (3 : Int32)).toInt = (sel.toInt % 4294967296) / 8 := c_iushr sel (3 : Int32) 3 (by decide) (by decide)
              have : ((XT.ushr sel (3 : Int32)) &&& (3 : Int32)).toInt = (XT.ushr sel (3 : Int32)).toInt % 4 := c_mask (XT.ushr sel (3 : Int32)) (3 : Int32) 2 (by decide) (by decide)
              have lt1 : (1 : Int32).toInt = 1 := by decide
              have lt2 : (2 : Int32).toInt = 2 := by decide
              have := rng64 e
              have lt3 : (0 : Int64).toInt = 0 := by decide
              have := rng64 (d &&& (9223372036854775807 : Int64))
              have := rng64 d
              have lt4 : (9223372036854775807 : Int64).toInt = 9223372036854775807 := by decide
              have : (d &&& (9223372036854775807 : Int64)).toInt = d.toInt % 9223372036854775808 := c_maskL d (9223372036854775807 : Int64) 63 (by decide) (by decide)
              have := rng64 (gs ^^^ e)
              have := rng64 gs
              have := c_xorSL gs e
              have := own_xor gs e
              have := rng64 ((len &&& (9223372036854775807 : Int64)) ^^^ (d &&& (9223372036854775807 : Int64)))
              have := rng64 (len &&& (9223372036854775807 : Int64))
              have := rng64 len
              have : (len &&& (9223372036854775807 : Int64)).toInt = len.toInt % 9223372036854775808 := c_maskL len (9223372036854775807 : Int64) 63 (by decide) (by decide)
              have := c_xorSL (len &&& (9223372036854775807 : Int64)) (d &&& (9223372036854775807 : Int64))
              have := own_xor (len &&& (9223372036854775807 : Int64)) (d &&& (9223372036854775807 : Int64))
              omega
            · cases e0; have h8 := hz; clear hz
              show EW _ _ _ _ _ ((250, [.val (.long id), .second, .val (.long gs), .second, .val (.long len), .second, .val (.long d), .second, .val (.long e), .second, .val (.int sel), .val (.long (len &&& (9223372036854775807 : Int64))), .second, .val (.int (0 : Int32)), .val (.int (1 : Int32)), .val (.int (1 : Int32)), .val (.long id), .second, .val (.long (gs ^^^ e)), .second, .val (.long (d &&& (9223372036854775807 : Int64))), .second, .val (.long ((len &&& (9223372036854775807 : Int64)) ^^^ (d &&& (9223372036854775807 : Int64)))), .second, .val (.ref 2), .val (.ref 3), .val (.int ((XT.ushr sel (3 : Int32)) &&& (3 : Int32))), .val (.int (0 : Int32))], [.int (0 : Int32)]), [.inl (.object "java/lang/Long", A), .inr (1, []), .inr (0, [(0, .long id), (1, .long gs), (2, .long (len &&& (9223372036854775807 : Int64)))]), .inr (0, [(0, .long id), (1, .long (gs ^^^ e)), (2, .long ((len &&& (9223372036854775807 : Int64)) ^^^ (d &&& (9223372036854775807 : Int64))))])], 2, 6)
              refine EW.run 4 (cf' := ((259, [.val (.long id), .second, .val (.long gs), .second, .val (.long len), .second, .val (.long d), .second, .val (.long e), .second, .val (.int sel), .val (.long (len &&& (9223372036854775807 : Int64))), .second, .val (.int (0 : Int32)), .val (.int (1 : Int32)), .val (.int (1 : Int32)), .val (.long id), .second, .val (.long (gs ^^^ e)), .second, .val (.long (d &&& (9223372036854775807 : Int64))), .second, .val (.long ((len &&& (9223372036854775807 : Int64)) ^^^ (d &&& (9223372036854775807 : Int64)))), .second, .val (.ref 2), .val (.ref 3), .val (.int ((XT.ushr sel (3 : Int32)) &&& (3 : Int32))), .val (.int (0 : Int32))], [.ref 2, .ref 3]), [.inl (.object "java/lang/Long", A), .inr (1, []), .inr (0, [(0, .long id), (1, .long gs), (2, .long (len &&& (9223372036854775807 : Int64)))]), .inr (0, [(0, .long id), (1, .long (gs ^^^ e)), (2, .long ((len &&& (9223372036854775807 : Int64)) ^^^ (d &&& (9223372036854775807 : Int64))))])], 2, 6)) rfl ?_
              refine EW.call rfl (weq_32 _ _ A id gs (len &&& (9223372036854775807 : Int64)) id (gs ^^^ e) ((len &&& (9223372036854775807 : Int64)) ^^^ (d &&& (9223372036854775807 : Int64)))) ?_
              rintro _ _ _ _ ⟨z, e0, ⟨rfl, hz⟩ | ⟨rfl, hz⟩⟩
              · cases e0; have h9 := hz; clear hz
                show EW _ _ _ _ _ ((262, [.val (.long id), .second, .val (.long gs), .second, .val (.long len), .second, .val (.long d), .second, .val (.long e), .second, .val (.int sel), .val (.long (len &&& (9223372036854775807 : Int64))), .second, .val (.int (0 : Int32)), .val (.int (1 : Int32)), .val (.int (1 : Int32)), .val (.long id), .second, .val (.long (gs ^^^ e)), .second, .val (.long (d &&& (9223372036854775807 : Int64))), .second, .val (.long ((len &&& (9223372036854775807 : Int64)) ^^^ (d &&& (9223372036854775807 : Int64)))), .second, .val (.ref 2), .val (.ref 3), .val (.int ((XT.ushr sel (3 : Int32)) &&& (3 : Int32))), .val (.int (0 : Int32))], [.int (1 : Int32)]), [.inl (.object "java/lang/Long", A), .inr (1, []), .inr (0, [(0, .long id), (1, .long gs), (2, .long (len &&& (9223372036854775807 : Int64)))]), .inr (0, [(0, .long id), (1, .long (gs ^^^ e)), (2, .long ((len &&& (9223372036854775807 : Int64)) ^^^ (d &&& (9223372036854775807 : Int64))))])], 2, 6)
                refine EW.run 3 (cf' := ((272, [.val (.long id), .second, .val (.long gs), .second, .val (.long len), .second, .val (.long d), .second, .val (.long e), .second, .val (.int sel), .val (.long (len &&& (9223372036854775807 : Int64))), .second, .val (.int (0 : Int32)), .val (.int (1 : Int32)), .val (.int (1 : Int32)), .val (.long id), .second, .val (.long (gs ^^^ e)), .second, .val (.long (d &&& (9223372036854775807 : Int64))), .second, .val (.long ((len &&& (9223372036854775807 : Int64)) ^^^ (d &&& (9223372036854775807 : Int64)))), .second, .val (.ref 2), .val (.ref 3), .val (.int ((XT.ushr sel (3 : Int32)) &&& (3 : Int32))), .val (.int (0 : Int32))], [.int (0 : Int32)]), [.inl (.object "java/lang/Long", A), .inr (1, []), .inr (0, [(0, .long id), (1, .long gs), (2, .long (len &&& (9223372036854775807 : Int64)))]), .inr (0, [(0, .long id), (1, .long (gs ^^^ e)), (2, .long ((len &&& (9223372036854775807 : Int64)) ^^^ (d &&& (9223372036854775807 : Int64))))])], 2, 6)) rfl ?_
                exfalso
                have := rng32 ((XT.ushr sel (3 : Int32)) &&& (3 : Int32))
                have := rng32 (XT.ushr sel (3 : Int32))
                have := rng32 sel
                have lt0 : (3 : Int32).toInt = 3 := by decide
                have : (XT.ushr sel (3 : Int32)).toInt = (sel.toInt % 4294967296) / 8 := c_iushr sel (3 : Int32) 3 (by decide) (by decide)
                have : ((XT.ushr sel (3 : Int32)) &&& (3 : Int32)).toInt = (XT.ushr sel (3 : Int32)).toInt % 4 := c_mask (XT.ushr sel (3 : Int32)) (3 : Int32) 2 (by decide) (by decide)
                have lt1 : (1 : Int32).toInt = 1 := by decide
                have lt2 : (2 : Int32).toInt = 2 := by decide
                have := rng64 e
                have lt3 : (0 : Int64).toInt = 0 := by decide
                have := rng64 (d &&& (9223372036854775807 : Int64))
                have := rng64 d
                have lt4 : (9223372036854775807 : Int64).toInt = 9223372036854775807 := by decide
                have : (d &&& (9223372036854775807 : Int64)).toInt = d.toInt % 9223372036854775808 := c_maskL d (9223372036854775807 : Int64) 63 (by decide) (by decide)
                have := rng64 (gs ^^^ e)
                have := rng64 gs
                have := c_xorSL gs e
                have := own_xor gs e
                have := rng64 ((len &&& (9223372036854775807 : Int64)) ^^^ (d &&& (9223372036854775807 : Int64)))
                have := rng64 (len &&& (9223372036854775807 : Int64))
                have := rng64 len
                have : (len &&& (9223372036854775807 : Int64)).toInt = len.toInt % 9223372036854775808 := c_maskL len (9223372036854775807 : Int64) 63 (by decide) (by decide)
                have := c_xorSL (len &&& (9223372036854775807 : Int64)) (d &&& (9223372036854775807 : Int64))
                have := own_xor (len &&& (9223372036854775807 : Int64)) (d &&& (9223372036854775807 : Int64))
                omega
              · cases e0; have h9 := hz; clear hz
                show EW _ _ _ _ _ ((262, [.val (.long id), .second, .val (.long gs), .second, .val (.long len), .second, .val (.long d), .second, .val (.long e), .second, .val (.int sel), .val (.long (len &&& (9223372036854775807 : Int64))), .second, .val (.int (0 : Int32)), .val (.int (1 : Int32)), .val (.int (1 : Int32)), .val (.long id), .second, .val (.long (gs ^^^ e)), .second, .val (.long (d &&& (9223372036854775807 : Int64))), .second, .val (.long ((len &&& (9223372036854775807 : Int64)) ^^^ (d &&& (9223372036854775807 : Int64)))), .second, .val (.ref 2), .val (.ref 3), .val (.int ((XT.ushr sel (3 : Int32)) &&& (3 : Int32))), .val (.int (0 : Int32))], [.int (0 : Int32)]), [.inl (.object "java/lang/Long", A), .inr (1, []), .inr (0, [(0, .long id), (1, .long gs), (2, .long (len &&& (9223372036854775807 : Int64)))]), .inr (0, [(0, .long id), (1, .long (gs ^^^ e)), (2, .long ((len &&& (9223372036854775807 : Int64)) ^^^ (d &&& (9223372036854775807 : Int64))))])], 2, 6)
                refine EW.run 4 (cf' := ((272, [.val (.long id), .second, .val (.long gs), .second, .val (.long len), .second, .val (.long d), .second, .val (.long e), .second, .val (.int sel), .val (.long (len &&& (9223372036854775807 : Int64))), .second, .val (.int (0 : Int32)), .val (.int (1 : Int32)), .val (.int (1 : Int32)), .val (.long id), .second, .val (.long (gs ^^^ e)), .second, .val (.long (d &&& (9223372036854775807 : Int64))), .second, .val (.long ((len &&& (9223372036854775807 : Int64)) ^^^ (d &&& (9223372036854775807 : Int64)))), .second, .val (.ref 2), .val (.ref 3), .val (.int ((XT.ushr sel (3 : Int32)) &&& (3 : Int32))), .val (.int (0 : Int32))], [.int (1 : Int32)]), [.inl (.object "java/lang/Long", A), .inr (1, []), .inr (0, [(0, .long id), (1, .long gs), (2, .long (len &&& (9223372036854775807 : Int64)))]), .inr (0, [(0, .long id), (1, .long (gs ^^^ e)), (2, .long ((len &&& (9223372036854775807 : Int64)) ^^^ (d &&& (9223372036854775807 : Int64))))])], 2, 6)) rfl ?_
                exact EW.ret rfl ⟨rfl, Nat.le_of_ble_eq_true rfl, Nat.le_of_ble_eq_true rfl⟩
          · have h7 : (d &&& (9223372036854775807 : Int64)).toInt = (0 : Int64).toInt := by simp only [cP] at h; omega
            clear h
            show EW _ _ _ _ _ ((236, [.val (.long id), .second, .val (.long gs), .second, .val (.long len), .second, .val (.long d), .second, .val (.long e), .second, .val (.int sel), .val (.long (len &&& (9223372036854775807 : Int64))), .second, .val (.int (0 : Int32)), .val (.int (1 : Int32)), .val (.int (1 : Int32)), .val (.long id), .second, .val (.long (gs ^^^ e)), .second, .val (.long (d &&& (9223372036854775807 : Int64))), .second, .val (.long ((len &&& (9223372036854775807 : Int64)) ^^^ (d &&& (9223372036854775807 : Int64)))), .second, .val (.ref 2), .val (.ref 3), .val (.int ((XT.ushr sel (3 : Int32)) &&& (3 : Int32))), .unset], []), [.inl (.object "java/lang/Long", A), .inr (1, []), .inr (0, [(0, .long id), (1, .long gs), (2, .long (len &&& (9223372036854775807 : Int64)))]), .inr (0, [(0, .long id), (1, .long (gs ^^^ e)), (2, .long ((len &&& (9223372036854775807 : Int64)) ^^^ (d &&& (9223372036854775807 : Int64))))])], 2, 6)
            refine EW.run 5 (cf' := ((247, [.val (.long id), .second, .val (.long gs), .second, .val (.long len), .second, .val (.long d), .second, .val (.long e), .second, .val (.int sel), .val (.long (len &&& (9223372036854775807 : Int64))), .second, .val (.int (0 : Int32)), .val (.int (1 : Int32)), .val (.int (1 : Int32)), .val (.long id), .second, .val (.long (gs ^^^ e)), .second, .val (.long (d &&& (9223372036854775807 : Int64))), .second, .val (.long ((len &&& (9223372036854775807 : Int64)) ^^^ (d &&& (9223372036854775807 : Int64)))), .second, .val (.ref 2), .val (.ref 3), .val (.int ((XT.ushr sel (3 : Int32)) &&& (3 : Int32))), .val (.int (1 : Int32))], [.ref 3, .ref 2]), [.inl (.object "java/lang/Long", A), .inr (1, []), .inr (0, [(0, .long id), (1, .long gs), (2, .long (len &&& (9223372036854775807 : Int64)))]), .inr (0, [(0, .long id), (1, .long (gs ^^^ e)), (2, .long ((len &&& (9223372036854775807 : Int64)) ^^^ (d &&& (9223372036854775807 : Int64))))])], 2, 6)) rfl ?_
            refine EW.call rfl (weq_23 _ _ A id gs (len &&& (9223372036854775807 : Int64)) id (gs ^^^ e) ((len &&& (9223372036854775807 : Int64)) ^^^ (d &&& (9223372036854775807 : Int64)))) ?_
            rintro _ _ _ _ ⟨z, e0, ⟨rfl, hz⟩ | ⟨rfl, hz⟩⟩
            · cases e0; have h10 := hz; clear hz
              show EW _ _ _ _ _ ((250, [.val (.long id), .second, .val (.long gs), .second, .val (.long len), .second, .val (.long d), .second, .val (.long e), .second, .val (.int sel), .val (.long (len &&& (9223372036854775807 : Int64))), .second, .val (.int (0 : Int32)), .val (.int (1 : Int32)), .val (.int (1 : Int32)), .val (.long id), .second, .val (.long (gs ^^^ e)), .second, .val (.long (d &&& (9223372036854775807 : Int64))), .second, .val (.long ((len &&& (9223372036854775807 : Int64)) ^^^ (d &&& (9223372036854775807 : Int64)))), .second, .val (.ref 2), .val (.ref 3), .val (.int ((XT.ushr sel (3 : Int32)) &&& (3 : Int32))), .val (.int (1 : Int32))], [.int (1 : Int32)]), [.inl (.object "java/lang/Long", A), .inr (1, []), .inr (0, [(0, .long id), (1, .long gs), (2, .long (len &&& (9223372036854775807 : Int64)))]), .inr (0, [(0, .long id), (1, .long (gs ^^^ e)), (2, .long ((len &&& (9223372036854775807 : Int64)) ^^^ (d &&& (9223372036854775807 : Int64))))])], 2, 6)
              refine EW.run 4 (cf' := ((259, [.val (.long id), .second, .val (.long gs), .second, .val (.long len), .second, .val (.long d), .second, .val (.long e), .second, .val (.int sel), .val (.long (len &&& (9223372036854775807 : Int64))), .second, .val (.int (0 : Int32)), .val (.int (1 : Int32)), .val (.int (1 : Int32)), .val (.long id), .second, .val (.long (gs ^^^ e)), .second, .val (.long (d &&& (9223372036854775807 : Int64))), .second, .val (.long ((len &&& (9223372036854775807 : Int64)) ^^^ (d &&& (9223372036854775807 : Int64)))), .second, .val (.ref 2), .val (.ref 3), .val (.int ((XT.ushr sel (3 : Int32)) &&& (3 : Int32))), .val (.int (1 : Int32))], [.ref 2, .ref 3]), [.inl (.object "java/lang/Long", A), .inr (1, []), .inr (0, [(0, .long id), (1, .long gs), (2, .long (len &&& (9223372036854775807 : Int64)))]), .inr (0, [(0, .long id), (1, .long (gs ^^^ e)), (2, .long ((len &&& (9223372036854775807 : Int64)) ^^^ (d &&& (9223372036854775807 : Int64))))])], 2, 6)) rfl ?_
              refine EW.call rfl (weq_32 _ _ A id gs (len &&& (9223372036854775807 : Int64)) id (gs ^^^ e) ((len &&& (9223372036854775807 : Int64)) ^^^ (d &&& (9223372036854775807 : Int64)))) ?_
              rintro _ _ _ _ ⟨z, e0, ⟨rfl, hz⟩ | ⟨rfl, hz⟩⟩
              · cases e0; have h11 := hz; clear hz
                show EW _ _ _ _ _ ((262, [.val (.long id), .second, .val (.long gs), .second, .val (.long len), .second, .val (.long d), .second, .val (.long e), .second, .val (.int sel), .val (.long (len &&& (9223372036854775807 : Int64))), .second, .val (.int (0 : Int32)), .val (.int (1 : Int32)), .val (.int (1 : Int32)), .val (.long id), .second, .val (.long (gs ^^^ e)), .second, .val (.long (d &&& (9223372036854775807 : Int64))), .second, .val (.long ((len &&& (9223372036854775807 : Int64)) ^^^ (d &&& (9223372036854775807 : Int64)))), .second, .val (.ref 2), .val (.ref 3), .val (.int ((XT.ushr sel (3 : Int32)) &&& (3 : Int32))), .val (.int (1 : Int32))], [.int (1 : Int32)]), [.inl (.object "java/lang/Long", A), .inr (1, []), .inr (0, [(0, .long id), (1, .long gs), (2, .long (len &&& (9223372036854775807 : Int64)))]), .inr (0, [(0, .long id), (1, .long (gs ^^^ e)), (2, .long ((len &&& (9223372036854775807 : Int64)) ^^^ (d &&& (9223372036854775807 : Int64))))])], 2, 6)
                refine EW.run 4 (cf' := ((272, [.val (.long id), .second, .val (.long gs), .second, .val (.long len), .second, .val (.long d), .second, .val (.long e), .second, .val (.int sel), .val (.long (len &&& (9223372036854775807 : Int64))), .second, .val (.int (0 : Int32)), .val (.int (1 : Int32)), .val (.int (1 : Int32)), .val (.long id), .second, .val (.long (gs ^^^ e)), .second, .val (.long (d &&& (9223372036854775807 : Int64))), .second, .val (.long ((len &&& (9223372036854775807 : Int64)) ^^^ (d &&& (9223372036854775807 : Int64)))), .second, .val (.ref 2), .val (.ref 3), .val (.int ((XT.ushr sel (3 : Int32)) &&& (3 : Int32))), .val (.int (1 : Int32))], [.int (1 : Int32)]), [.inl (.object "java/lang/Long", A), .inr (1, []), .inr (0, [(0, .long id), (1, .long gs), (2, .long (len &&& (9223372036854775807 : Int64)))]), .inr (0, [(0, .long id), (1, .long (gs ^^^ e)), (2, .long ((len &&& (9223372036854775807 : Int64)) ^^^ (d &&& (9223372036854775807 : Int64))))])], 2, 6)) rfl ?_
                exact EW.ret rfl ⟨rfl, Nat.le_of_ble_eq_true rfl, Nat.le_of_ble_eq_true rfl⟩
              · cases e0; have h11 := hz; clear hz
                show EW _ _ _ _ _ ((262, [.val (.long id), .second, .val (.long gs), .second, .val (.long len), .second, .val (.long d), .second, .val (.long e), .second, .val (.int sel), .val (.long (len &&& (9223372036854775807 : Int64))), .second, .val (.int (0 : Int32)), .val (.int (1 : Int32)), .val (.int (1 : Int32)), .val (.long id), .second, .val (.long (gs ^^^ e)), .second, .val (.long (d &&& (9223372036854775807 : Int64))), .second, .val (.long ((len &&& (9223372036854775807 : Int64)) ^^^ (d &&& (9223372036854775807 : Int64)))), .second, .val (.ref 2), .val (.ref 3), .val (.int ((XT.ushr sel (3 : Int32)) &&& (3 : Int32))), .val (.int (1 : Int32))], [.int (0 : Int32)]), [.inl (.object "java/lang/Long", A), .inr (1, []), .inr (0, [(0, .long id), (1, .long gs), (2, .long (len &&& (9223372036854775807 : Int64)))]), .inr (0, [(0, .long id), (1, .long (gs ^^^ e)), (2, .long ((len &&& (9223372036854775807 : Int64)) ^^^ (d &&& (9223372036854775807 : Int64))))])], 2, 6)
                refine EW.run 3 (cf' := ((272, [.val (.long id), .second, .val (.long gs), .second, .val (.long len), .second, .val (.long d), .second, .val (.long e), .second, .val (.int sel), .val (.long (len &&& (9223372036854775807 : Int64))), .second, .val (.int (0 : Int32)), .val (.int (1 : Int32)), .val (.int (1 : Int32)), .val (.long id), .second, .val (.long (gs ^^^ e)), .second, .val (.long (d &&& (9223372036854775807 : Int64))), .second, .val (.long ((len &&& (9223372036854775807 : Int64)) ^^^ (d &&& (9223372036854775807 : Int64)))), .second, .val (.ref 2), .val (.ref 3), .val (.int ((XT.ushr sel (3 : Int32)) &&& (3 : Int32))), .val (.int (1 : Int32))], [.int (0 : Int32)]), [.inl (.object "java/lang/Long", A), .inr (1, []), .inr (0, [(0, .long id), (1, .long gs), (2, .long (len &&& (9223372036854775807 : Int64)))]), .inr (0, [(0, .long id), (1, .long (gs ^^^ e)), (2, .long ((len &&& (9223372036854775807 : Int64)) ^^^ (d &&& (9223372036854775807 : Int64))))])], 2, 6)) rfl ?_
                exfalso
                have := rng32 ((XT.ushr sel (3 : Int32)) &&& (3 : Int32))
                have := rng32 (XT.ushr sel (3 : Int32))
                have := rng32 sel
                have lt0 : (3 : Int32).toInt = 3 := by decide
                have : (XT.ushr sel (3 : Int32)).toInt = (sel.toInt % 4294967296) / 8 := c_iushr sel (3 : Int32) 3 (by decide) (by decide)
                have : ((XT.ushr sel (3 : Int32)) &&& (3 : Int32)).toInt = (XT.ushr sel (3 : Int32)).toInt % 4 := c_mask (XT.ushr sel (3 : Int32)) (3 : Int32) 2 (by decide) (by decide)
                have lt1 : (1 : Int32).toInt = 1 := by decide
                have lt2 : (2 : Int32).toInt = 2 := by decide
                have := rng64 e
                have lt3 : (0 : Int64).toInt = 0 := by decide
                have := rng64 (d &&& (9223372036854775807 : Int64))
                have := rng64 d
                have lt4 : (9223372036854775807 : Int64).toInt = 9223372036854775807 := by decide
                have : (d &&& (9223372036854775807 : Int64)).toInt = d.toInt % 9223372036854775808 := c_maskL d (9223372036854775807 : Int64) 63 (by decide) (by decide)
                have := rng64 (gs ^^^ e)
                have := rng64 gs
                have := c_xorSL gs e
                have := own_xor gs e
                have := rng64 ((len &&& (9223372036854775807 : Int64)) ^^^ (d &&& (9223372036854775807 : Int64)))
                have := rng64 (len &&& (9223372036854775807 : Int64))
                have := rng64 len
                have : (len &&& (9223372036854775807 : Int64)).toInt = len.toInt % 9223372036854775808 := c_maskL len (9223372036854775807 : Int64) 63 (by decide) (by decide)
                have := c_xorSL (len &&& (9223372036854775807 : Int64)) (d &&& (9223372036854775807 : Int64))
                have := own_xor (len &&& (9223372036854775807 : Int64)) (d &&& (9223372036854775807 : Int64))
                omega
            · cases e0; have h10 := hz; clear hz
              show EW _ _ _ _ _ ((250, [.val (.long id), .second, .val (.long gs), .second, .val (.long len), .second, .val (.long d), .second, .val (.long e), .second, .val (.int sel), .val (.long (len &&& (9223372036854775807 : Int64))), .second, .val (.int (0 : Int32)), .val (.int (1 : Int32)), .val (.int (1 : Int32)), .val (.long id), .second, .val (.long (gs ^^^ e)), .second, .val (.long (d &&& (9223372036854775807 : Int64))), .second, .val (.long ((len &&& (9223372036854775807 : Int64)) ^^^ (d &&& (9223372036854775807 : Int64)))), .second, .val (.ref 2), .val (.ref 3), .val (.int ((XT.ushr sel (3 : Int32)) &&& (3 : Int32))), .val (.int (1 : Int32))], [.int (0 : Int32)]), [.inl (.object "java/lang/Long", A), .inr (1, []), .inr (0, [(0, .long id), (1, .long gs), (2, .long (len &&& (9223372036854775807 : Int64)))]), .inr (0, [(0, .long id), (1, .long (gs ^^^ e)), (2, .long ((len &&& (9223372036854775807 : Int64)) ^^^ (d &&& (9223372036854775807 : Int64))))])], 2, 6)
              refine EW.run 3 (cf' := ((272, [.val (.long id), .second, .val (.long gs), .second, .val (.long len), .second, .val (.long d), .second, .val (.long e), .second, .val (.int sel), .val (.long (len &&& (9223372036854775807 : Int64))), .second, .val (.int (0 : Int32)), .val (.int (1 : Int32)), .val (.int (1 : Int32)), .val (.long id), .second, .val (.long (gs ^^^ e)), .second, .val (.long (d &&& (9223372036854775807 : Int64))), .second, .val (.long ((len &&& (9223372036854775807 : Int64)) ^^^ (d &&& (9223372036854775807 : Int64)))), .second, .val (.ref 2), .val (.ref 3), .val (.int ((XT.ushr sel (3 : Int32)) &&& (3 : Int32))), .val (.int (1 : Int32))], [.int (0 : Int32)]), [.inl (.object "java/lang/Long", A), .inr (1, []), .inr (0, [(0, .long id), (1, .long gs), (2, .long (len &&& (9223372036854775807 : Int64)))]), .inr (0, [(0, .long id), (1, .long (gs ^^^ e)), (2, .long ((len &&& (9223372036854775807 : Int64)) ^^^ (d &&& (9223372036854775807 : Int64))))])], 2, 6)) rfl ?_
              exfalso
              have := rng32 ((XT.ushr sel (3 : Int32)) &&& (3 : Int32))
              have := rng32 (XT.ushr sel (3 : Int32))
              have := rng32 sel
              have lt0 : (3 : Int32).toInt = 3 := by decide
              have : (XT.ushr sel (3 : Int32)).toInt = (sel.toInt % 4294967296) / 8 := c_iushr sel (3 : Int32) 3 (by decide) (by decide)
              have : ((XT.ushr sel (3 : Int32)) &&& (3 : Int32)).toInt = (XT.ushr sel (3 : Int32)).toInt % 4 := c_mask (XT.ushr sel (3 : Int32)) (3 : Int32) 2 (by decide) (by decide)
              have lt1 : (1 : Int32).toInt = 1 := by decide
              have lt2 : (2 : Int32).toInt = 2 := by decide
              have := rng64 e
              have lt3 : (0 : Int64).toInt = 0 := by decide
              have := rng64 (d &&& (9223372036854775807 : Int64))
              have := rng64 d
              have lt4 : (9223372036854775807 : Int64).toInt = 9223372036854775807 := by decide
              have : (d &&& (9223372036854775807 : Int64)).toInt = d.toInt % 9223372036854775808 := c_maskL d (9223372036854775807 : Int64) 63 (by decide) (by decide)
              have := rng64 (gs ^^^ e)
              have := rng64 gs
              have := c_xorSL gs e
              have := own_xor gs e
              have := rng64 ((len &&& (9223372036854775807 : Int64)) ^^^ (d &&& (9223372036854775807 : Int64)))
              have := rng64 (len &&& (9223372036854775807 : Int64))
              have := rng64 len
              have : (len &&& (9223372036854775807 : Int64)).toInt = len.toInt % 9223372036854775808 := c_maskL len (9223372036854775807 : Int64) 63 (by decide) (by decide)
              have := c_xorSL (len &&& (9223372036854775807 : Int64)) (d &&& (9223372036854775807 : Int64))
              have := own_xor (len &&& (9223372036854775807 : Int64)) (d &&& (9223372036854775807 : Int64))
              omega
      · have h3 : ((XT.ushr sel (3 : Int32)) &&& (3 : Int32)).toInt = (3 : Int32).toInt := by simp only [cP] at h; omega
        clear h
        show EW _ _ _ _ _ ((192, [.val (.long id), .second, .val (.long gs), .second, .val (.long len), .second, .val (.long d), .second, .val (.long e), .second, .val (.int sel), .val (.long (len &&& (9223372036854775807 : Int64))), .second, .val (.int (0 : Int32)), .val (.int (1 : Int32)), .val (.int (1 : Int32)), .val (.long id), .second, .val (.long (gs ^^^ e)), .second, .val (.long (d &&& (9223372036854775807 : Int64))), .second, .val (.long ((len &&& (9223372036854775807 : Int64)) ^^^ (d &&& (9223372036854775807 : Int64)))), .second, .val (.ref 2), .val (.ref 3), .val (.int ((XT.ushr sel (3 : Int32)) &&& (3 : Int32))), .unset], []), [.inl (.object "java/lang/Long", A), .inr (1, []), .inr (0, [(0, .long id), (1, .long gs), (2, .long (len &&& (9223372036854775807 : Int64)))]), .inr (0, [(0, .long id), (1, .long (gs ^^^ e)), (2, .long ((len &&& (9223372036854775807 : Int64)) ^^^ (d &&& (9223372036854775807 : Int64))))])], 2, 6)
        refine EW.run 2 (cf' := ((196, [.val (.long id), .second, .val (.long gs), .second, .val (.long len), .second, .val (.long d), .second, .val (.long e), .second, .val (.int sel), .val (.long (len &&& (9223372036854775807 : Int64))), .second, .val (.int (0 : Int32)), .val (.int (1 : Int32)), .val (.int (1 : Int32)), .val (.long id), .second, .val (.long (gs ^^^ e)), .second, .val (.long (d &&& (9223372036854775807 : Int64))), .second, .val (.long ((len &&& (9223372036854775807 : Int64)) ^^^ (d &&& (9223372036854775807 : Int64)))), .second, .val (.ref 2), .val (.ref 3), .val (.int ((XT.ushr sel (3 : Int32)) &&& (3 : Int32))), .unset], [.ref 2, .ref 2]), [.inl (.object "java/lang/Long", A), .inr (1, []), .inr (0, [(0, .long id), (1, .long gs), (2, .long (len &&& (9223372036854775807 : Int64)))]), .inr (0, [(0, .long id), (1, .long (gs ^^^ e)), (2, .long ((len &&& (9223372036854775807 : Int64)) ^^^ (d &&& (9223372036854775807 : Int64))))])], 2, 6)) rfl ?_
        refine EW.call rfl (weq_22 _ _ A id gs (len &&& (9223372036854775807 : Int64)) id (gs ^^^ e) ((len &&& (9223372036854775807 : Int64)) ^^^ (d &&& (9223372036854775807 : Int64)))) ?_
        rintro _ _ _ _ ⟨z, e0, ⟨rfl, hz⟩ | ⟨rfl, hz⟩⟩
        · cases e0; have h12 := hz; clear hz
          show EW _ _ _ _ _ ((199, [.val (.long id), .second, .val (.long gs), .second, .val (.long len), .second, .val (.long d), .second, .val (.long e), .second, .val (.int sel), .val (.long (len &&& (9223372036854775807 : Int64))), .second, .val (.int (0 : Int32)), .val (.int (1 : Int32)), .val (.int (1 : Int32)), .val (.long id), .second, .val (.long (gs ^^^ e)), .second, .val (.long (d &&& (9223372036854775807 : Int64))), .second, .val (.long ((len &&& (9223372036854775807 : Int64)) ^^^ (d &&& (9223372036854775807 : Int64)))), .second, .val (.ref 2), .val (.ref 3), .val (.int ((XT.ushr sel (3 : Int32)) &&& (3 : Int32))), .unset], [.int (1 : Int32)]), [.inl (.object "java/lang/Long", A), .inr (1, []), .inr (0, [(0, .long id), (1, .long gs), (2, .long (len &&& (9223372036854775807 : Int64)))]), .inr (0, [(0, .long id), (1, .long (gs ^^^ e)), (2, .long ((len &&& (9223372036854775807 : Int64)) ^^^ (d &&& (9223372036854775807 : Int64))))])], 2, 6)
          exact EW.ret rfl ⟨rfl, Nat.le_of_ble_eq_true rfl, Nat.le_of_ble_eq_true rfl⟩
        · cases e0; have h12 := hz; clear hz
          show EW _ _ _ _ _ ((199, [.val (.long id), .second, .val (.long gs), .second, .val (.long len), .second, .val (.long d), .second, .val (.long e), .second, .val (.int sel), .val (.long (len &&& (9223372036854775807 : Int64))), .second, .val (.int (0 : Int32)), .val (.int (1 : Int32)), .val (.int (1 : Int32)), .val (.long id), .second, .val (.long (gs ^^^ e)), .second, .val (.long (d &&& (9223372036854775807 : Int64))), .second, .val (.long ((len &&& (9223372036854775807 : Int64)) ^^^ (d &&& (9223372036854775807 : Int64)))), .second, .val (.ref 2), .val (.ref 3), .val (.int ((XT.ushr sel (3 : Int32)) &&& (3 : Int32))), .unset], [.int (0 : Int32)]), [.inl (.object "java/lang/Long", A), .inr (1, []), .inr (0, [(0, .long id), (1, .long gs), (2, .long (len &&& (9223372036854775807 : Int64)))]), .inr (0, [(0, .long id), (1, .long (gs ^^^ e)), (2, .long ((len &&& (9223372036854775807 : Int64)) ^^^ (d &&& (9223372036854775807 : Int64))))])], 2, 6)
          exfalso
          have := rng32 ((XT.ushr sel (3 : Int32)) &&& (3 : Int32))
          have := rng32 (XT.ushr sel (3 : Int32))
          have := rng32 sel
          have lt0 : (3 : Int32).toInt = 3 := by decide
          have : (XT.ushr sel (3 : Int32)).toInt = (sel.toInt % 4294967296) / 8 := c_iushr sel (3 : Int32) 3 (by decide) (by decide)
          have : ((XT.ushr sel (3 : Int32)) &&& (3 : Int32)).toInt = (XT.ushr sel (3 : Int32)).toInt % 4 := c_mask (XT.ushr sel (3 : Int32)) (3 : Int32) 2 (by decide) (by decide)
          have lt1 : (1 : Int32).toInt = 1 := by decide
          have lt2 : (2 : Int32).toInt = 2 := by decide
          have := rng64 (gs ^^^ e)
          have := rng64 gs
          have := rng64 e
          have := c_xorSL gs e
          have := own_xor gs e
          have := rng64 ((len &&& (9223372036854775807 : Int64)) ^^^ (d &&& (9223372036854775807 : Int64)))
          have := rng64 (len &&& (9223372036854775807 : Int64))
          have := rng64 len
          have lt3 : (9223372036854775807 : Int64).toInt = 9223372036854775807 := by decide
          have : (len &&& (9223372036854775807 : Int64)).toInt = len.toInt % 9223372036854775808 := c_maskL len (9223372036854775807 : Int64) 63 (by decide) (by decide)
          have := rng64 (d &&& (9223372036854775807 : Int64))
          have := rng64 d
          have : (d &&& (9223372036854775807 : Int64)).toInt = d.toInt % 9223372036854775808 := c_maskL d (9223372036854775807 : Int64) 63 (by decide) (by decide)
          have := c_xorSL (len &&& (9223372036854775807 : Int64)) (d &&& (9223372036854775807 : Int64))
          have := own_xor (len &&& (9223372036854775807 : Int64)) (d &&& (9223372036854775807 : Int64))
          omega
    · have h2 : ((XT.ushr sel (3 : Int32)) &&& (3 : Int32)).toInt = (2 : Int32).toInt := by simp only [cP] at h; omega
      clear h
      show EW _ _ _ _ _ ((171, [.val (.long id), .second, .val (.long gs), .second, .val (.long len), .second, .val (.long d), .second, .val (.long e), .second, .val (.int sel), .val (.long (len &&& (9223372036854775807 : Int64))), .second, .val (.int (0 : Int32)), .val (.int (1 : Int32)), .val (.int (1 : Int32)), .val (.long id), .second, .val (.long (gs ^^^ e)), .second, .val (.long (d &&& (9223372036854775807 : Int64))), .second, .val (.long ((len &&& (9223372036854775807 : Int64)) ^^^ (d &&& (9223372036854775807 : Int64)))), .second, .val (.ref 2), .val (.ref 3), .val (.int ((XT.ushr sel (3 : Int32)) &&& (3 : Int32))), .unset], []), [.inl (.object "java/lang/Long", A), .inr (1, []), .inr (0, [(0, .long id), (1, .long gs), (2, .long (len &&& (9223372036854775807 : Int64)))]), .inr (0, [(0, .long id), (1, .long (gs ^^^ e)), (2, .long ((len &&& (9223372036854775807 : Int64)) ^^^ (d &&& (9223372036854775807 : Int64))))])], 2, 6)
      refine EW.run 2 (cf' := ((174, [.val (.long id), .second, .val (.long gs), .second, .val (.long len), .second, .val (.long d), .second, .val (.long e), .second, .val (.int sel), .val (.long (len &&& (9223372036854775807 : Int64))), .second, .val (.int (0 : Int32)), .val (.int (1 : Int32)), .val (.int (1 : Int32)), .val (.long id), .second, .val (.long (gs ^^^ e)), .second, .val (.long (d &&& (9223372036854775807 : Int64))), .second, .val (.long ((len &&& (9223372036854775807 : Int64)) ^^^ (d &&& (9223372036854775807 : Int64)))), .second, .val (.ref 2), .val (.ref 3), .val (.int ((XT.ushr sel (3 : Int32)) &&& (3 : Int32))), .unset], [.null, .ref 2]), [.inl (.object "java/lang/Long", A), .inr (1, []), .inr (0, [(0, .long id), (1, .long gs), (2, .long (len &&& (9223372036854775807 : Int64)))]), .inr (0, [(0, .long id), (1, .long (gs ^^^ e)), (2, .long ((len &&& (9223372036854775807 : Int64)) ^^^ (d &&& (9223372036854775807 : Int64))))])], 2, 6)) rfl ?_
      refine EW.call (Qc := fun r => r = (some (.int (0 : Int32)), [.inl (.object "java/lang/Long", A), .inr (1, []), .inr (0, [(0, .long id), (1, .long gs), (2, .long (len &&& (9223372036854775807 : Int64)))]), .inr (0, [(0, .long id), (1, .long (gs ^^^ e)), (2, .long ((len &&& (9223372036854775807 : Int64)) ^^^ (d &&& (9223372036854775807 : Int64))))])], 0, 0)) rfl ?_ ?_
      · show EW _ _ _ _ _ ((0, [.val (.ref 2), .val (.null), .unset], []), [.inl (.object "java/lang/Long", A), .inr (1, []), .inr (0, [(0, .long id), (1, .long gs), (2, .long (len &&& (9223372036854775807 : Int64)))]), .inr (0, [(0, .long id), (1, .long (gs ^^^ e)), (2, .long ((len &&& (9223372036854775807 : Int64)) ^^^ (d &&& (9223372036854775807 : Int64))))])], 0, 0)
        refine EW.run 4 (cf' := ((8, [.val (.ref 2), .val (.null), .unset], [.int (0 : Int32)]), [.inl (.object "java/lang/Long", A), .inr (1, []), .inr (0, [(0, .long id), (1, .long gs), (2, .long (len &&& (9223372036854775807 : Int64)))]), .inr (0, [(0, .long id), (1, .long (gs ^^^ e)), (2, .long ((len &&& (9223372036854775807 : Int64)) ^^^ (d &&& (9223372036854775807 : Int64))))])], 0, 0)) rfl ?_
        exact EW.ret rfl rfl
      rintro _ _ _ _ ⟨⟩
      show EW _ _ _ _ _ ((177, [.val (.long id), .second, .val (.long gs), .second, .val (.long len), .second, .val (.long d), .second, .val (.long e), .second, .val (.int sel), .val (.long (len &&& (9223372036854775807 : Int64))), .second, .val (.int (0 : Int32)), .val (.int (1 : Int32)), .val (.int (1 : Int32)), .val (.long id), .second, .val (.long (gs ^^^ e)), .second, .val (.long (d &&& (9223372036854775807 : Int64))), .second, .val (.long ((len &&& (9223372036854775807 : Int64)) ^^^ (d &&& (9223372036854775807 : Int64)))), .second, .val (.ref 2), .val (.ref 3), .val (.int ((XT.ushr sel (3 : Int32)) &&& (3 : Int32))), .unset], [.int (0 : Int32)]), [.inl (.object "java/lang/Long", A), .inr (1, []), .inr (0, [(0, .long id), (1, .long gs), (2, .long (len &&& (9223372036854775807 : Int64)))]), .inr (0, [(0, .long id), (1, .long (gs ^^^ e)), (2, .long ((len &&& (9223372036854775807 : Int64)) ^^^ (d &&& (9223372036854775807 : Int64))))])], 2, 6)
      refine EW.run 3 (cf' := ((185, [.val (.long id), .second, .val (.long gs), .second, .val (.long len), .second, .val (.long d), .second, .val (.long e), .second, .val (.int sel), .val (.long (len &&& (9223372036854775807 : Int64))), .second, .val (.int (0 : Int32)), .val (.int (1 : Int32)), .val (.int (1 : Int32)), .val (.long id), .second, .val (.long (gs ^^^ e)), .second, .val (.long (d &&& (9223372036854775807 : Int64))), .second, .val (.long ((len &&& (9223372036854775807 : Int64)) ^^^ (d &&& (9223372036854775807 : Int64)))), .second, .val (.ref 2), .val (.ref 3), .val (.int ((XT.ushr sel (3 : Int32)) &&& (3 : Int32))), .unset], [.int (1 : Int32)]), [.inl (.object "java/lang/Long", A), .inr (1, []), .inr (0, [(0, .long id), (1, .long gs), (2, .long (len &&& (9223372036854775807 : Int64)))]), .inr (0, [(0, .long id), (1, .long (gs ^^^ e)), (2, .long ((len &&& (9223372036854775807 : Int64)) ^^^ (d &&& (9223372036854775807 : Int64))))])], 2, 6)) rfl ?_
      exact EW.ret rfl ⟨rfl, Nat.le_of_ble_eq_true rfl, Nat.le_of_ble_eq_true rfl⟩
  · have h1 : ((XT.ushr sel (3 : Int32)) &&& (3 : Int32)).toInt = (1 : Int32).toInt := by simp only [cP] at h; omega
    clear h
    show EW _ _ _ _ _ ((147, [.val (.long id), .second, .val (.long gs), .second, .val (.long len), .second, .val (.long d), .second, .val (.long e), .second, .val (.int sel), .val (.long (len &&& (9223372036854775807 : Int64))), .second, .val (.int (0 : Int32)), .val (.int (1 : Int32)), .val (.int (1 : Int32)), .val (.long id), .second, .val (.long (gs ^^^ e)), .second, .val (.long (d &&& (9223372036854775807 : Int64))), .second, .val (.long ((len &&& (9223372036854775807 : Int64)) ^^^ (d &&& (9223372036854775807 : Int64)))), .second, .val (.ref 2), .val (.ref 3), .val (.int ((XT.ushr sel (3 : Int32)) &&& (3 : Int32))), .unset], []), [.inl (.object "java/lang/Long", A), .inr (1, []), .inr (0, [(0, .long id), (1, .long gs), (2, .long (len &&& (9223372036854775807 : Int64)))]), .inr (0, [(0, .long id), (1, .long (gs ^^^ e)), (2, .long ((len &&& (9223372036854775807 : Int64)) ^^^ (d &&& (9223372036854775807 : Int64))))])], 2, 6)
    refine EW.run 2 (cf' := ((150, [.val (.long id), .second, .val (.long gs), .second, .val (.long len), .second, .val (.long d), .second, .val (.long e), .second, .val (.int sel), .val (.long (len &&& (9223372036854775807 : Int64))), .second, .val (.int (0 : Int32)), .val (.int (1 : Int32)), .val (.int (1 : Int32)), .val (.long id), .second, .val (.long (gs ^^^ e)), .second, .val (.long (d &&& (9223372036854775807 : Int64))), .second, .val (.long ((len &&& (9223372036854775807 : Int64)) ^^^ (d &&& (9223372036854775807 : Int64)))), .second, .val (.ref 2), .val (.ref 3), .val (.int ((XT.ushr sel (3 : Int32)) &&& (3 : Int32))), .unset], [.long id, .ref 2]), [.inl (.object "java/lang/Long", A), .inr (1, []), .inr (0, [(0, .long id), (1, .long gs), (2, .long (len &&& (9223372036854775807 : Int64)))]), .inr (0, [(0, .long id), (1, .long (gs ^^^ e)), (2, .long ((len &&& (9223372036854775807 : Int64)) ^^^ (d &&& (9223372036854775807 : Int64))))])], 2, 6)) rfl ?_
    refine EW.call rfl (wval A id gs (len &&& (9223372036854775807 : Int64)) id (gs ^^^ e) ((len &&& (9223372036854775807 : Int64)) ^^^ (d &&& (9223372036854775807 : Int64))) id hin) ?_
    rintro _ _ _ _ (e0 | e0)
    · cases e0
      show EW _ _ _ _ _ ((153, [.val (.long id), .second, .val (.long gs), .second, .val (.long len), .second, .val (.long d), .second, .val (.long e), .second, .val (.int sel), .val (.long (len &&& (9223372036854775807 : Int64))), .second, .val (.int (0 : Int32)), .val (.int (1 : Int32)), .val (.int (1 : Int32)), .val (.long id), .second, .val (.long (gs ^^^ e)), .second, .val (.long (d &&& (9223372036854775807 : Int64))), .second, .val (.long ((len &&& (9223372036854775807 : Int64)) ^^^ (d &&& (9223372036854775807 : Int64)))), .second, .val (.ref 2), .val (.ref 3), .val (.int ((XT.ushr sel (3 : Int32)) &&& (3 : Int32))), .unset], [.ref 1, .ref 2]), [.inl (.object "java/lang/Long", A), .inr (1, []), .inr (0, [(0, .long id), (1, .long gs), (2, .long (len &&& (9223372036854775807 : Int64)))]), .inr (0, [(0, .long id), (1, .long (gs ^^^ e)), (2, .long ((len &&& (9223372036854775807 : Int64)) ^^^ (d &&& (9223372036854775807 : Int64))))])], 2, 6)
      refine EW.call (Qc := fun r => r = (some (.int (0 : Int32)), [.inl (.object "java/lang/Long", A), .inr (1, []), .inr (0, [(0, .long id), (1, .long gs), (2, .long (len &&& (9223372036854775807 : Int64)))]), .inr (0, [(0, .long id), (1, .long (gs ^^^ e)), (2, .long ((len &&& (9223372036854775807 : Int64)) ^^^ (d &&& (9223372036854775807 : Int64))))])], 0, 0)) rfl ?_ ?_
      · show EW _ _ _ _ _ ((0, [.val (.ref 2), .val (.ref 1), .unset], []), [.inl (.object "java/lang/Long", A), .inr (1, []), .inr (0, [(0, .long id), (1, .long gs), (2, .long (len &&& (9223372036854775807 : Int64)))]), .inr (0, [(0, .long id), (1, .long (gs ^^^ e)), (2, .long ((len &&& (9223372036854775807 : Int64)) ^^^ (d &&& (9223372036854775807 : Int64))))])], 0, 0)
        refine EW.run 4 (cf' := ((8, [.val (.ref 2), .val (.ref 1), .unset], [.int (0 : Int32)]), [.inl (.object "java/lang/Long", A), .inr (1, []), .inr (0, [(0, .long id), (1, .long gs), (2, .long (len &&& (9223372036854775807 : Int64)))]), .inr (0, [(0, .long id), (1, .long (gs ^^^ e)), (2, .long ((len &&& (9223372036854775807 : Int64)) ^^^ (d &&& (9223372036854775807 : Int64))))])], 0, 0)) rfl ?_
        exact EW.ret rfl rfl
      rintro _ _ _ _ ⟨⟩
      show EW _ _ _ _ _ ((156, [.val (.long id), .second, .val (.long gs), .second, .val (.long len), .second, .val (.long d), .second, .val (.long e), .second, .val (.int sel), .val (.long (len &&& (9223372036854775807 : Int64))), .second, .val (.int (0 : Int32)), .val (.int (1 : Int32)), .val (.int (1 : Int32)), .val (.long id), .second, .val (.long (gs ^^^ e)), .second, .val (.long (d &&& (9223372036854775807 : Int64))), .second, .val (.long ((len &&& (9223372036854775807 : Int64)) ^^^ (d &&& (9223372036854775807 : Int64)))), .second, .val (.ref 2), .val (.ref 3), .val (.int ((XT.ushr sel (3 : Int32)) &&& (3 : Int32))), .unset], [.int (0 : Int32)]), [.inl (.object "java/lang/Long", A), .inr (1, []), .inr (0, [(0, .long id), (1, .long gs), (2, .long (len &&& (9223372036854775807 : Int64)))]), .inr (0, [(0, .long id), (1, .long (gs ^^^ e)), (2, .long ((len &&& (9223372036854775807 : Int64)) ^^^ (d &&& (9223372036854775807 : Int64))))])], 2, 6)
      refine EW.run 3 (cf' := ((164, [.val (.long id), .second, .val (.long gs), .second, .val (.long len), .second, .val (.long d), .second, .val (.long e), .second, .val (.int sel), .val (.long (len &&& (9223372036854775807 : Int64))), .second, .val (.int (0 : Int32)), .val (.int (1 : Int32)), .val (.int (1 : Int32)), .val (.long id), .second, .val (.long (gs ^^^ e)), .second, .val (.long (d &&& (9223372036854775807 : Int64))), .second, .val (.long ((len &&& (9223372036854775807 : Int64)) ^^^ (d &&& (9223372036854775807 : Int64)))), .second, .val (.ref 2), .val (.ref 3), .val (.int ((XT.ushr sel (3 : Int32)) &&& (3 : Int32))), .unset], [.int (1 : Int32)]), [.inl (.object "java/lang/Long", A), .inr (1, []), .inr (0, [(0, .long id), (1, .long gs), (2, .long (len &&& (9223372036854775807 : Int64)))]), .inr (0, [(0, .long id), (1, .long (gs ^^^ e)), (2, .long ((len &&& (9223372036854775807 : Int64)) ^^^ (d &&& (9223372036854775807 : Int64))))])], 2, 6)) rfl ?_
      exact EW.ret rfl ⟨rfl, Nat.le_of_ble_eq_true rfl, Nat.le_of_ble_eq_true rfl⟩
    · cases e0
      show EW _ _ _ _ _ ((153, [.val (.long id), .second, .val (.long gs), .second, .val (.long len), .second, .val (.long d), .second, .val (.long e), .second, .val (.int sel), .val (.long (len &&& (9223372036854775807 : Int64))), .second, .val (.int (0 : Int32)), .val (.int (1 : Int32)), .val (.int (1 : Int32)), .val (.long id), .second, .val (.long (gs ^^^ e)), .second, .val (.long (d &&& (9223372036854775807 : Int64))), .second, .val (.long ((len &&& (9223372036854775807 : Int64)) ^^^ (d &&& (9223372036854775807 : Int64)))), .second, .val (.ref 2), .val (.ref 3), .val (.int ((XT.ushr sel (3 : Int32)) &&& (3 : Int32))), .unset], [.ref 4, .ref 2]), [.inl (.object "java/lang/Long", A), .inr (1, []), .inr (0, [(0, .long id), (1, .long gs), (2, .long (len &&& (9223372036854775807 : Int64)))]), .inr (0, [(0, .long id), (1, .long (gs ^^^ e)), (2, .long ((len &&& (9223372036854775807 : Int64)) ^^^ (d &&& (9223372036854775807 : Int64))))]), .inr (1, [(4, .long id)])], 3, 7)
      refine EW.call (Qc := fun r => r = (some (.int (0 : Int32)), [.inl (.object "java/lang/Long", A), .inr (1, []), .inr (0, [(0, .long id), (1, .long gs), (2, .long (len &&& (9223372036854775807 : Int64)))]), .inr (0, [(0, .long id), (1, .long (gs ^^^ e)), (2, .long ((len &&& (9223372036854775807 : Int64)) ^^^ (d &&& (9223372036854775807 : Int64))))]), .inr (1, [(4, .long id)])], 0, 0)) rfl ?_ ?_
      · show EW _ _ _ _ _ ((0, [.val (.ref 2), .val (.ref 4), .unset], []), [.inl (.object "java/lang/Long", A), .inr (1, []), .inr (0, [(0, .long id), (1, .long gs), (2, .long (len &&& (9223372036854775807 : Int64)))]), .inr (0, [(0, .long id), (1, .long (gs ^^^ e)), (2, .long ((len &&& (9223372036854775807 : Int64)) ^^^ (d &&& (9223372036854775807 : Int64))))]), .inr (1, [(4, .long id)])], 0, 0)
        refine EW.run 4 (cf' := ((8, [.val (.ref 2), .val (.ref 4), .unset], [.int (0 : Int32)]), [.inl (.object "java/lang/Long", A), .inr (1, []), .inr (0, [(0, .long id), (1, .long gs), (2, .long (len &&& (9223372036854775807 : Int64)))]), .inr (0, [(0, .long id), (1, .long (gs ^^^ e)), (2, .long ((len &&& (9223372036854775807 : Int64)) ^^^ (d &&& (9223372036854775807 : Int64))))]), .inr (1, [(4, .long id)])], 0, 0)) rfl ?_
        exact EW.ret rfl rfl
      rintro _ _ _ _ ⟨⟩
      show EW _ _ _ _ _ ((156, [.val (.long id), .second, .val (.long gs), .second, .val (.long len), .second, .val (.long d), .second, .val (.long e), .second, .val (.int sel), .val (.long (len &&& (9223372036854775807 : Int64))), .second, .val (.int (0 : Int32)), .val (.int (1 : Int32)), .val (.int (1 : Int32)), .val (.long id), .second, .val (.long (gs ^^^ e)), .second, .val (.long (d &&& (9223372036854775807 : Int64))), .second, .val (.long ((len &&& (9223372036854775807 : Int64)) ^^^ (d &&& (9223372036854775807 : Int64)))), .second, .val (.ref 2), .val (.ref 3), .val (.int ((XT.ushr sel (3 : Int32)) &&& (3 : Int32))), .unset], [.int (0 : Int32)]), [.inl (.object "java/lang/Long", A), .inr (1, []), .inr (0, [(0, .long id), (1, .long gs), (2, .long (len &&& (9223372036854775807 : Int64)))]), .inr (0, [(0, .long id), (1, .long (gs ^^^ e)), (2, .long ((len &&& (9223372036854775807 : Int64)) ^^^ (d &&& (9223372036854775807 : Int64))))]), .inr (1, [(4, .long id)])], 3, 7)
      refine EW.run 3 (cf' := ((164, [.val (.long id), .second, .val (.long gs), .second, .val (.long len), .second, .val (.long d), .second, .val (.long e), .second, .val (.int sel), .val (.long (len &&& (9223372036854775807 : Int64))), .second, .val (.int (0 : Int32)), .val (.int (1 : Int32)), .val (.int (1 : Int32)), .val (.long id), .second, .val (.long (gs ^^^ e)), .second, .val (.long (d &&& (9223372036854775807 : Int64))), .second, .val (.long ((len &&& (9223372036854775807 : Int64)) ^^^ (d &&& (9223372036854775807 : Int64)))), .second, .val (.ref 2), .val (.ref 3), .val (.int ((XT.ushr sel (3 : Int32)) &&& (3 : Int32))), .unset], [.int (1 : Int32)]), [.inl (.object "java/lang/Long", A), .inr (1, []), .inr (0, [(0, .long id), (1, .long gs), (2, .long (len &&& (9223372036854775807 : Int64)))]), .inr (0, [(0, .long id), (1, .long (gs ^^^ e)), (2, .long ((len &&& (9223372036854775807 : Int64)) ^^^ (d &&& (9223372036854775807 : Int64))))]), .inr (1, [(4, .long id)])], 3, 7)) rfl ?_
      exact EW.ret rfl ⟨rfl, Nat.le_of_ble_eq_true rfl, Nat.le_of_ble_eq_true rfl⟩
set_option maxHeartbeats 8000000 in
theorem own_c4 (A : List Value) (id gs len d e : Int64) (sel : Int32) (hin : -128 ≤ id.toInt → id.toInt ≤ 127 → (¬ (id.toInt32 + 128) < 0 ∧ A[(id.toInt32 + 128).toNatClampNeg]? = some (.ref 1))) : EW gG 7 160 mL (fun r => r.1 = some (.int 1) ∧ r.2.2.1 ≤ 16 ∧ r.2.2.2 ≤ 128) ((105, [.val (.long id), .second, .val (.long gs), .second, .val (.long len), .second, .val (.long d), .second, .val (.long e), .second, .val (.int sel), .val (.long (len &&& (9223372036854775807 : Int64))), .second, .val (.int (1 : Int32)), .val (.int (0 : Int32)), .val (.int (0 : Int32)), .val (.long (id ^^^ d)), .second, .val (.long gs), .second, .val (.long (d &&& (9223372036854775807 : Int64))), .second, .val (.long (len &&& (9223372036854775807 : Int64))), .second, .unset, .unset, .unset, .unset], []), [.inl (.object "java/lang/Long", A), .inr (1, [])], 0, 0) := by
  have lz : (0 : Int64).toInt = 0 := by decide
  refine EW.run 5 (cf' := ((113, [.val (.long id), .second, .val (.long gs), .second, .val (.long len), .second, .val (.long d), .second, .val (.long e), .second, .val (.int sel), .val (.long (len &&& (9223372036854775807 : Int64))), .second, .val (.int (1 : Int32)), .val (.int (0 : Int32)), .val (.int (0 : Int32)), .val (.long (id ^^^ d)), .second, .val (.long gs), .second, .val (.long (d &&& (9223372036854775807 : Int64))), .second, .val (.long (len &&& (9223372036854775807 : Int64))), .second, .unset, .unset, .unset, .unset], [.long (len &&& (9223372036854775807 : Int64)), .long gs, .long id, .ref 2, .ref 2]), [.inl (.object "java/lang/Long", A), .inr (1, []), .inr (0, [(0, .long (0 : Int64)), (1, .long (0 : Int64)), (2, .long (0 : Int64))])], 1, 3)) rfl ?_
  refine EW.call (Qc := fun r => r = (none, [.inl (.object "java/lang/Long", A), .inr (1, []), .inr (0, [(0, .long id), (1, .long gs), (2, .long (len &&& (9223372036854775807 : Int64)))])], 0, 0)) rfl ?_ ?_
  · show EW _ _ _ _ _ ((0, [.val (.ref 2), .val (.long id), .second, .val (.long gs), .second, .val (.long (len &&& (9223372036854775807 : Int64))), .second], []), [.inl (.object "java/lang/Long", A), .inr (1, []), .inr (0, [(0, .long (0 : Int64)), (1, .long (0 : Int64)), (2, .long (0 : Int64))])], 0, 0)
    refine EW.run 5 (cf' := ((8, [.val (.ref 2), .val (.long id), .second, .val (.long gs), .second, .val (.long (len &&& (9223372036854775807 : Int64))), .second], [.int (XT.cmpL (len &&& (9223372036854775807 : Int64)) (0 : Int64))]), [.inl (.object "java/lang/Long", A), .inr (1, []), .inr (0, [(0, .long (0 : Int64)), (1, .long (0 : Int64)), (2, .long (0 : Int64))])], 0, 0)) rfl ?_
    refine EW.iflP rfl (by decide) (fun h => ?_) (fun h => ?_)
    · have h1 : (len &&& (9223372036854775807 : Int64)).toInt ≥ (0 : Int64).toInt := by simp only [cP] at h; omega
      clear h
      show EW _ _ _ _ _ ((27, [.val (.ref 2), .val (.long id), .second, .val (.long gs), .second, .val (.long (len &&& (9223372036854775807 : Int64))), .second], []), [.inl (.object "java/lang/Long", A), .inr (1, []), .inr (0, [(0, .long (0 : Int64)), (1, .long (0 : Int64)), (2, .long (0 : Int64))])], 0, 0)
      refine EW.run 6 (cf' := ((37, [.val (.ref 2), .val (.long id), .second, .val (.long gs), .second, .val (.long (len &&& (9223372036854775807 : Int64))), .second], []), [.inl (.object "java/lang/Long", A), .inr (1, []), .inr (0, [(0, .long id), (1, .long gs), (2, .long (0 : Int64))])], 0, 0)) rfl ?_
      refine EW.run 3 (cf' := ((43, [.val (.ref 2), .val (.long id), .second, .val (.long gs), .second, .val (.long (len &&& (9223372036854775807 : Int64))), .second], []), [.inl (.object "java/lang/Long", A), .inr (1, []), .inr (0, [(0, .long id), (1, .long gs), (2, .long (len &&& (9223372036854775807 : Int64)))])], 0, 0)) rfl ?_
      exact EW.ret rfl rfl
    · exfalso
      simp only [cP] at h
      have := rng64 (len &&& (9223372036854775807 : Int64))
      have := rng64 len
      have lt0 : (9223372036854775807 : Int64).toInt = 9223372036854775807 := by decide
      have : (len &&& (9223372036854775807 : Int64)).toInt = len.toInt % 9223372036854775808 := c_maskL len (9223372036854775807 : Int64) 63 (by decide) (by decide)
      have lt1 : (0 : Int64).toInt = 0 := by decide
      omega
  rintro _ _ _ _ ⟨⟩
  show EW _ _ _ _ _ ((116, [.val (.long id), .second, .val (.long gs), .second, .val (.long len), .second, .val (.long d), .second, .val (.long e), .second, .val (.int sel), .val (.long (len &&& (9223372036854775807 : Int64))), .second, .val (.int (1 : Int32)), .val (.int (0 : Int32)), .val (.int (0 : Int32)), .val (.long (id ^^^ d)), .second, .val (.long gs), .second, .val (.long (d &&& (9223372036854775807 : Int64))), .second, .val (.long (len &&& (9223372036854775807 : Int64))), .second, .unset, .unset, .unset, .unset], [.ref 2]), [.inl (.object "java/lang/Long", A), .inr (1, []), .inr (0, [(0, .long id), (1, .long gs), (2, .long (len &&& (9223372036854775807 : Int64)))])], 1, 3)
  refine EW.run 6 (cf' := ((128, [.val (.long id), .second, .val (.long gs), .second, .val (.long len), .second, .val (.long d), .second, .val (.long e), .second, .val (.int sel), .val (.long (len &&& (9223372036854775807 : Int64))), .second, .val (.int (1 : Int32)), .val (.int (0 : Int32)), .val (.int (0 : Int32)), .val (.long (id ^^^ d)), .second, .val (.long gs), .second, .val (.long (d &&& (9223372036854775807 : Int64))), .second, .val (.long (len &&& (9223372036854775807 : Int64))), .second, .val (.ref 2), .unset, .unset, .unset], [.long (len &&& (9223372036854775807 : Int64)), .long gs, .long (id ^^^ d), .ref 3, .ref 3]), [.inl (.object "java/lang/Long", A), .inr (1, []), .inr (0, [(0, .long id), (1, .long gs), (2, .long (len &&& (9223372036854775807 : Int64)))]), .inr (0, [(0, .long (0 : Int64)), (1, .long (0 : Int64)), (2, .long (0 : Int64))])], 2, 6)) rfl ?_
  refine EW.call (Qc := fun r => r = (none, [.inl (.object "java/lang/Long", A), .inr (1, []), .inr (0, [(0, .long id), (1, .long gs), (2, .long (len &&& (9223372036854775807 : Int64)))]), .inr (0, [(0, .long (id ^^^ d)), (1, .long gs), (2, .long (len &&& (9223372036854775807 : Int64)))])], 0, 0)) rfl ?_ ?_
  · show EW _ _ _ _ _ ((0, [.val (.ref 3), .val (.long (id ^^^ d)), .second, .val (.long gs), .second, .val (.long (len &&& (9223372036854775807 : Int64))), .second], []), [.inl (.object "java/lang/Long", A), .inr (1, []), .inr (0, [(0, .long id), (1, .long gs), (2, .long (len &&& (9223372036854775807 : Int64)))]), .inr (0, [(0, .long (0 : Int64)), (1, .long (0 : Int64)), (2, .long (0 : Int64))])], 0, 0)
    refine EW.run 5 (cf' := ((8, [.val (.ref 3), .val (.long (id ^^^ d)), .second, .val (.long gs), .second, .val (.long (len &&& (9223372036854775807 : Int64))), .second], [.int (XT.cmpL (len &&& (9223372036854775807 : Int64)) (0 : Int64))]), [.inl (.object "java/lang/Long", A), .inr (1, []), .inr (0, [(0, .long id), (1, .long gs), (2, .long (len &&& (9223372036854775807 : Int64)))]), .inr (0, [(0, .long (0 : Int64)), (1, .long (0 : Int64)), (2, .long (0 : Int64))])], 0, 0)) rfl ?_
    refine EW.iflP rfl (by decide) (fun h => ?_) (fun h => ?_)
    · have h1 : (len &&& (9223372036854775807 : Int64)).toInt ≥ (0 : Int64).toInt := by simp only [cP] at h; omega
      clear h
      show EW _ _ _ _ _ ((27, [.val (.ref 3), .val (.long (id ^^^ d)), .second, .val (.long gs), .second, .val (.long (len &&& (9223372036854775807 : Int64))), .second], []), [.inl (.object "java/lang/Long", A), .inr (1, []), .inr (0, [(0, .long id), (1, .long gs), (2, .long (len &&& (9223372036854775807 : Int64)))]), .inr (0, [(0, .long (0 : Int64)), (1, .long (0 : Int64)), (2, .long (0 : Int64))])], 0, 0)
      refine EW.run 6 (cf' := ((37, [.val (.ref 3), .val (.long (id ^^^ d)), .second, .val (.long gs), .second, .val (.long (len &&& (9223372036854775807 : Int64))), .second], []), [.inl (.object "java/lang/Long", A), .inr (1, []), .inr (0, [(0, .long id), (1, .long gs), (2, .long (len &&& (9223372036854775807 : Int64)))]), .inr (0, [(0, .long (id ^^^ d)), (1, .long gs), (2, .long (0 : Int64))])], 0, 0)) rfl ?_
      refine EW.run 3 (cf' := ((43, [.val (.ref 3), .val (.long (id ^^^ d)), .second, .val (.long gs), .second, .val (.long (len &&& (9223372036854775807 : Int64))), .second], []), [.inl (.object "java/lang/Long", A), .inr (1, []), .inr (0, [(0, .long id), (1, .long gs), (2, .long (len &&& (9223372036854775807 : Int64)))]), .inr (0, [(0, .long (id ^^^ d)), (1, .long gs), (2, .long (len &&& (9223372036854775807 : Int64)))])], 0, 0)) rfl ?_
      exact EW.ret rfl rfl
    · exfalso
      simp only [cP] at h
      have := rng64 (len &&& (9223372036854775807 : Int64))
      have := rng64 len
      have lt0 : (9223372036854775807 : Int64).toInt = 9223372036854775807 := by decide
      have : (len &&& (9223372036854775807 : Int64)).toInt = len.toInt % 9223372036854775808 := c_maskL len (9223372036854775807 : Int64) 63 (by decide) (by decide)
      have lt1 : (0 : Int64).toInt = 0 := by decide
      omega
  rintro _ _ _ _ ⟨⟩
  show EW _ _ _ _ _ ((131, [.val (.long id), .second, .val (.long gs), .second, .val (.long len), .second, .val (.long d), .second, .val (.long e), .second, .val (.int sel), .val (.long (len &&& (9223372036854775807 : Int64))), .second, .val (.int (1 : Int32)), .val (.int (0 : Int32)), .val (.int (0 : Int32)), .val (.long (id ^^^ d)), .second, .val (.long gs), .second, .val (.long (d &&& (9223372036854775807 : Int64))), .second, .val (.long (len &&& (9223372036854775807 : Int64))), .second, .val (.ref 2), .unset, .unset, .unset], [.ref 3]), [.inl (.object "java/lang/Long", A), .inr (1, []), .inr (0, [(0, .long id), (1, .long gs), (2, .long (len &&& (9223372036854775807 : Int64)))]), .inr (0, [(0, .long (id ^^^ d)), (1, .long gs), (2, .long (len &&& (9223372036854775807 : Int64)))])], 2, 6)
  refine EW.run 6 (cf' := ((139, [.val (.long id), .second, .val (.long gs), .second, .val (.long len), .second, .val (.long d), .second, .val (.long e), .second, .val (.int sel), .val (.long (len &&& (9223372036854775807 : Int64))), .second, .val (.int (1 : Int32)), .val (.int (0 : Int32)), .val (.int (0 : Int32)), .val (.long (id ^^^ d)), .second, .val (.long gs), .second, .val (.long (d &&& (9223372036854775807 : Int64))), .second, .val (.long (len &&& (9223372036854775807 : Int64))), .second, .val (.ref 2), .val (.ref 3), .unset, .unset], [.int ((XT.ushr sel (3 : Int32)) &&& (3 : Int32))]), [.inl (.object "java/lang/Long", A), .inr (1, []), .inr (0, [(0, .long id), (1, .long gs), (2, .long (len &&& (9223372036854775807 : Int64)))]), .inr (0, [(0, .long (id ^^^ d)), (1, .long gs), (2, .long (len &&& (9223372036854775807 : Int64)))])], 2, 6)) rfl ?_
  refine EW.run 3 (cf' := ((144, [.val (.long id), .second, .val (.long gs), .second, .val (.long len), .second, .val (.long d), .second, .val (.long e), .second, .val (.int sel), .val (.long (len &&& (9223372036854775807 : Int64))), .second, .val (.int (1 : Int32)), .val (.int (0 : Int32)), .val (.int (0 : Int32)), .val (.long (id ^^^ d)), .second, .val (.long gs), .second, .val (.long (d &&& (9223372036854775807 : Int64))), .second, .val (.long (len &&& (9223372036854775807 : Int64))), .second, .val (.ref 2), .val (.ref 3), .val (.int ((XT.ushr sel (3 : Int32)) &&& (3 : Int32))), .unset], [.int (1 : Int32), .int ((XT.ushr sel (3 : Int32)) &&& (3 : Int32))]), [.inl (.object "java/lang/Long", A), .inr (1, []), .inr (0, [(0, .long id), (1, .long gs), (2, .long (len &&& (9223372036854775807 : Int64)))]), .inr (0, [(0, .long (id ^^^ d)), (1, .long gs), (2, .long (len &&& (9223372036854775807 : Int64)))])], 2, 6)) rfl ?_
  refine EW.icmpP rfl (by decide) (fun h => ?_) (fun h => ?_)
  · have h1 : ((XT.ushr sel (3 : Int32)) &&& (3 : Int32)).toInt ≠ (1 : Int32).toInt := by simp only [cP] at h; omega
    clear h
    show EW _ _ _ _ _ ((165, [.val (.long id), .second, .val (.long gs), .second, .val (.long len), .second, .val (.long d), .second, .val (.long e), .second, .val (.int sel), .val (.long (len &&& (9223372036854775807 : Int64))), .second, .val (.int (1 : Int32)), .val (.int (0 : Int32)), .val (.int (0 : Int32)), .val (.long (id ^^^ d)), .second, .val (.long gs), .second, .val (.long (d &&& (9223372036854775807 : Int64))), .second, .val (.long (len &&& (9223372036854775807 : Int64))), .second, .val (.ref 2), .val (.ref 3), .val (.int ((XT.ushr sel (3 : Int32)) &&& (3 : Int32))), .unset], []), [.inl (.object "java/lang/Long", A), .inr (1, []), .inr (0, [(0, .long id), (1, .long gs), (2, .long (len &&& (9223372036854775807 : Int64)))]), .inr (0, [(0, .long (id ^^^ d)), (1, .long gs), (2, .long (len &&& (9223372036854775807 : Int64)))])], 2, 6)
    refine EW.run 2 (cf' := ((168, [.val (.long id), .second, .val (.long gs), .second, .val (.long len), .second, .val (.long d), .second, .val (.long e), .second, .val (.int sel), .val (.long (len &&& (9223372036854775807 : Int64))), .second, .val (.int (1 : Int32)), .val (.int (0 : Int32)), .val (.int (0 : Int32)), .val (.long (id ^^^ d)), .second, .val (.long gs), .second, .val (.long (d &&& (9223372036854775807 : Int64))), .second, .val (.long (len &&& (9223372036854775807 : Int64))), .second, .val (.ref 2), .val (.ref 3), .val (.int ((XT.ushr sel (3 : Int32)) &&& (3 : Int32))), .unset], [.int (2 : Int32), .int ((XT.ushr sel (3 : Int32)) &&& (3 : Int32))]), [.inl (.object "java/lang/Long", A), .inr (1, []), .inr (0, [(0, .long id), (1, .long gs), (2, .long (len &&& (9223372036854775807 : Int64)))]), .inr (0, [(0, .long (id ^^^ d)), (1, .long gs), (2, .long (len &&& (9223372036854775807 : Int64)))])], 2, 6)) rfl ?_
    refine EW.icmpP rfl (by decide) (fun h => ?_) (fun h => ?_)
    · have h2 : ((XT.ushr sel (3 : Int32)) &&& (3 : Int32)).toInt ≠ (2 : Int32).toInt := by simp only [cP] at h; omega
      clear h
      show EW _ _ _ _ _ ((186, [.val (.long id), .second, .val (.long gs), .second, .val (.long len), .second, .val (.long d), .second, .val (.long e), .second, .val (.int sel), .val (.long (len &&& (9223372036854775807 : Int64))), .second, .val (.int (1 : Int32)), .val (.int (0 : Int32)), .val (.int (0 : Int32)), .val (.long (id ^^^ d)), .second, .val (.long gs), .second, .val (.long (d &&& (9223372036854775807 : Int64))), .second, .val (.long (len &&& (9223372036854775807 : Int64))), .second, .val (.ref 2), .val (.ref 3), .val (.int ((XT.ushr sel (3 : Int32)) &&& (3 : Int32))), .unset], []), [.inl (.object "java/lang/Long", A), .inr (1, []), .inr (0, [(0, .long id), (1, .long gs), (2, .long (len &&& (9223372036854775807 : Int64)))]), .inr (0, [(0, .long (id ^^^ d)), (1, .long gs), (2, .long (len &&& (9223372036854775807 : Int64)))])], 2, 6)
      refine EW.run 2 (cf' := ((189, [.val (.long id), .second, .val (.long gs), .second, .val (.long len), .second, .val (.long d), .second, .val (.long e), .second, .val (.int sel), .val (.long (len &&& (9223372036854775807 : Int64))), .second, .val (.int (1 : Int32)), .val (.int (0 : Int32)), .val (.int (0 : Int32)), .val (.long (id ^^^ d)), .second, .val (.long gs), .second, .val (.long (d &&& (9223372036854775807 : Int64))), .second, .val (.long (len &&& (9223372036854775807 : Int64))), .second, .val (.ref 2), .val (.ref 3), .val (.int ((XT.ushr sel (3 : Int32)) &&& (3 : Int32))), .unset], [.int (3 : Int32), .int ((XT.ushr sel (3 : Int32)) &&& (3 : Int32))]), [.inl (.object "java/lang/Long", A), .inr (1, []), .inr (0, [(0, .long id), (1, .long gs), (2, .long (len &&& (9223372036854775807 : Int64)))]), .inr (0, [(0, .long (id ^^^ d)), (1, .long gs), (2, .long (len &&& (9223372036854775807 : Int64)))])], 2, 6)) rfl ?_
      refine EW.icmpP rfl (by decide) (fun h => ?_) (fun h => ?_)
      · have h3 : ((XT.ushr sel (3 : Int32)) &&& (3 : Int32)).toInt ≠ (3 : Int32).toInt := by simp only [cP] at h; omega
        clear h
        show EW _ _ _ _ _ ((200, [.val (.long id), .second, .val (.long gs), .second, .val (.long len), .second, .val (.long d), .second, .val (.long e), .second, .val (.int sel), .val (.long (len &&& (9223372036854775807 : Int64))), .second, .val (.int (1 : Int32)), .val (.int (0 : Int32)), .val (.int (0 : Int32)), .val (.long (id ^^^ d)), .second, .val (.long gs), .second, .val (.long (d &&& (9223372036854775807 : Int64))), .second, .val (.long (len &&& (9223372036854775807 : Int64))), .second, .val (.ref 2), .val (.ref 3), .val (.int ((XT.ushr sel (3 : Int32)) &&& (3 : Int32))), .unset], []), [.inl (.object "java/lang/Long", A), .inr (1, []), .inr (0, [(0, .long id), (1, .long gs), (2, .long (len &&& (9223372036854775807 : Int64)))]), .inr (0, [(0, .long (id ^^^ d)), (1, .long gs), (2, .long (len &&& (9223372036854775807 : Int64)))])], 2, 6)
        refine EW.run 5 (cf' := ((209, [.val (.long id), .second, .val (.long gs), .second, .val (.long len), .second, .val (.long d), .second, .val (.long e), .second, .val (.int sel), .val (.long (len &&& (9223372036854775807 : Int64))), .second, .val (.int (1 : Int32)), .val (.int (0 : Int32)), .val (.int (0 : Int32)), .val (.long (id ^^^ d)), .second, .val (.long gs), .second, .val (.long (d &&& (9223372036854775807 : Int64))), .second, .val (.long (len &&& (9223372036854775807 : Int64))), .second, .val (.ref 2), .val (.ref 3), .val (.int ((XT.ushr sel (3 : Int32)) &&& (3 : Int32))), .unset], [.int (XT.cmpL d (0 : Int64))]), [.inl (.object "java/lang/Long", A), .inr (1, []), .inr (0, [(0, .long id), (1, .long gs), (2, .long (len &&& (9223372036854775807 : Int64)))]), .inr (0, [(0, .long (id ^^^ d)), (1, .long gs), (2, .long (len &&& (9223372036854775807 : Int64)))])], 2, 6)) rfl ?_
        refine EW.iflP rfl (by decide) (fun h => ?_) (fun h => ?_)
        · have h4 : d.toInt ≠ (0 : Int64).toInt := by simp only [cP] at h; omega
          clear h
          show EW _ _ _ _ _ ((240, [.val (.long id), .second, .val (.long gs), .second, .val (.long len), .second, .val (.long d), .second, .val (.long e), .second, .val (.int sel), .val (.long (len &&& (9223372036854775807 : Int64))), .second, .val (.int (1 : Int32)), .val (.int (0 : Int32)), .val (.int (0 : Int32)), .val (.long (id ^^^ d)), .second, .val (.long gs), .second, .val (.long (d &&& (9223372036854775807 : Int64))), .second, .val (.long (len &&& (9223372036854775807 : Int64))), .second, .val (.ref 2), .val (.ref 3), .val (.int ((XT.ushr sel (3 : Int32)) &&& (3 : Int32))), .unset], []), [.inl (.object "java/lang/Long", A), .inr (1, []), .inr (0, [(0, .long id), (1, .long gs), (2, .long (len &&& (9223372036854775807 : Int64)))]), .inr (0, [(0, .long (id ^^^ d)), (1, .long gs), (2, .long (len &&& (9223372036854775807 : Int64)))])], 2, 6)
          refine EW.run 4 (cf' := ((247, [.val (.long id), .second, .val (.long gs), .second, .val (.long len), .second, .val (.long d), .second, .val (.long e), .second, .val (.int sel), .val (.long (len &&& (9223372036854775807 : Int64))), .second, .val (.int (1 : Int32)), .val (.int (0 : Int32)), .val (.int (0 : Int32)), .val (.long (id ^^^ d)), .second, .val (.long gs), .second, .val (.long (d &&& (9223372036854775807 : Int64))), .second, .val (.long (len &&& (9223372036854775807 : Int64))), .second, .val (.ref 2), .val (.ref 3), .val (.int ((XT.ushr sel (3 : Int32)) &&& (3 : Int32))), .val (.int (0 : Int32))], [.ref 3, .ref 2]), [.inl (.object "java/lang/Long", A), .inr (1, []), .inr (0, [(0, .long id), (1, .long gs), (2, .long (len &&& (9223372036854775807 : Int64)))]), .inr (0, [(0, .long (id ^^^ d)), (1, .long gs), (2, .long (len &&& (9223372036854775807 : Int64)))])], 2, 6)) rfl ?_
          refine EW.call rfl (weq_23 _ _ A id gs (len &&& (9223372036854775807 : Int64)) (id ^^^ d) gs (len &&& (9223372036854775807 : Int64))) ?_
          rintro _ _ _ _ ⟨z, e0, ⟨rfl, hz⟩ | ⟨rfl, hz⟩⟩
          · cases e0; have h5 := hz; clear hz
            show EW _ _ _ _ _ ((250, [.val (.long id), .second, .val (.long gs), .second, .val (.long len), .second, .val (.long d), .second, .val (.long e), .second, .val (.int sel), .val (.long (len &&& (9223372036854775807 : Int64))), .second, .val (.int (1 : Int32)), .val (.int (0 : Int32)), .val (.int (0 : Int32)), .val (.long (id ^^^ d)), .second, .val (.long gs), .second, .val (.long (d &&& (9223372036854775807 : Int64))), .second, .val (.long (len &&& (9223372036854775807 : Int64))), .second, .val (.ref 2), .val (.ref 3), .val (.int ((XT.ushr sel (3 : Int32)) &&& (3 : Int32))), .val (.int (0 : Int32))], [.int (1 : Int32)]), [.inl (.object "java/lang/Long", A), .inr (1, []), .inr (0, [(0, .long id), (1, .long gs), (2, .long (len &&& (9223372036854775807 : Int64)))]), .inr (0, [(0, .long (id ^^^ d)), (1, .long gs), (2, .long (len &&& (9223372036854775807 : Int64)))])], 2, 6)
            refine EW.run 3 (cf' := ((272, [.val (.long id), .second, .val (.long gs), .second, .val (.long len), .second, .val (.long d), .second, .val (.long e), .second, .val (.int sel), .val (.long (len &&& (9223372036854775807 : Int64))), .second, .val (.int (1 : Int32)), .val (.int (0 : Int32)), .val (.int (0 : Int32)), .val (.long (id ^^^ d)), .second, .val (.long gs), .second, .val (.long (d &&& (9223372036854775807 : Int64))), .second, .val (.long (len &&& (9223372036854775807 : Int64))), .second, .val (.ref 2), .val (.ref 3), .val (.int ((XT.ushr sel (3 : Int32)) &&& (3 : Int32))), .val (.int (0 : Int32))], [.int (0 : Int32)]), [.inl (.object "java/lang/Long", A), .inr (1, []), .inr (0, [(0, .long id), (1, .long gs), (2, .long (len &&& (9223372036854775807 : Int64)))]), .inr (0, [(0, .long (id ^^^ d)), (1, .long gs), (2, .long (len &&& (9223372036854775807 : Int64)))])], 2, 6)) rfl ?_
            exfalso
            have := rng32 ((XT.ushr sel (3 : Int32)) &&& (3 : Int32))
            have := rng32 (XT.ushr sel (3 : Int32))
            have := rng32 sel
            have lt0 : (3 : Int32).toInt = 3 := by decide
            have : (XT.ushr sel (3 : Int32)).toInt = (sel.toInt % 4294967296) / 8 := c_iushr sel (3 : Int32) 3 (by decide) (by decide)
            have : ((XT.ushr sel (3 : Int32)) &&& (3 : Int32)).toInt = (XT.ushr sel (3 : Int32)).toInt % 4 := c_mask (XT.ushr sel (3 : Int32)) (3 : Int32) 2 (by decide) (by decide)
            have lt1 : (1 : Int32).toInt = 1 := by decide
            have lt2 : (2 : Int32).toInt = 2 := by decide
            have := rng64 d
            have lt3 : (0 : Int64).toInt = 0 := by decide
            have := rng64 (id ^^^ d)
            have := rng64 id
            have := c_xorSL id d
            have := own_xor id d
            omega
          · cases e0; have h5 := hz; clear hz
            show EW _ _ _ _ _ ((250, [.val (.long id), .second, .val (.long gs), .second, .val (.long len), .second, .val (.long d), .second, .val (.long e), .second, .val (.int sel), .val (.long (len &&& (9223372036854775807 : Int64))), .second, .val (.int (1 : Int32)), .val (.int (0 : Int32)), .val (.int (0 : Int32)), .val (.long (id ^^^ d)), .second, .val (.long gs), .second, .val (.long (d &&& (9223372036854775807 : Int64))), .second, .val (.long (len &&& (9223372036854775807 : Int64))), .second, .val (.ref 2), .val (.ref 3), .val (.int ((XT.ushr sel (3 : Int32)) &&& (3 : Int32))), .val (.int (0 : Int32))], [.int (0 : Int32)]), [.inl (.object "java/lang/Long", A), .inr (1, []), .inr (0, [(0, .long id), (1, .long gs), (2, .long (len &&& (9223372036854775807 : Int64)))]), .inr (0, [(0, .long (id ^^^ d)), (1, .long gs), (2, .long (len &&& (9223372036854775807 : Int64)))])], 2, 6)
            refine EW.run 4 (cf' := ((259, [.val (.long id), .second, .val (.long gs), .second, .val (.long len), .second, .val (.long d), .second, .val (.long e), .second, .val (.int sel), .val (.long (len &&& (9223372036854775807 : Int64))), .second, .val (.int (1 : Int32)), .val (.int (0 : Int32)), .val (.int (0 : Int32)), .val (.long (id ^^^ d)), .second, .val (.long gs), .second, .val (.long (d &&& (9223372036854775807 : Int64))), .second, .val (.long (len &&& (9223372036854775807 : Int64))), .second, .val (.ref 2), .val (.ref 3), .val (.int ((XT.ushr sel (3 : Int32)) &&& (3 : Int32))), .val (.int (0 : Int32))], [.ref 2, .ref 3]), [.inl (.object "java/lang/Long", A), .inr (1, []), .inr (0, [(0, .long id), (1, .long gs), (2, .long (len &&& (9223372036854775807 : Int64)))]), .inr (0, [(0, .long (id ^^^ d)), (1, .long gs), (2, .long (len &&& (9223372036854775807 : Int64)))])], 2, 6)) rfl ?_
            refine EW.call rfl (weq_32 _ _ A id gs (len &&& (9223372036854775807 : Int64)) (id ^^^ d) gs (len &&& (9223372036854775807 : Int64))) ?_
            rintro _ _ _ _ ⟨z, e0, ⟨rfl, hz⟩ | ⟨rfl, hz⟩⟩
            · cases e0; have h6 := hz; clear hz
              show EW _ _ _ _ _ ((262, [.val (.long id), .second, .val (.long gs), .second, .val (.long len), .second, .val (.long d), .second, .val (.long e), .second, .val (.int sel), .val (.long (len &&& (9223372036854775807 : Int64))), .second, .val (.int (1 : Int32)), .val (.int (0 : Int32)), .val (.int (0 : Int32)), .val (.long (id ^^^ d)), .second, .val (.long gs), .second, .val (.long (d &&& (9223372036854775807 : Int64))), .second, .val (.long (len &&& (9223372036854775807 : Int64))), .second, .val (.ref 2), .val (.ref 3), .val (.int ((XT.ushr sel (3 : Int32)) &&& (3 : Int32))), .val (.int (0 : Int32))], [.int (1 : Int32)]), [.inl (.object "java/lang/Long", A), .inr (1, []), .inr (0, [(0, .long id), (1, .long gs), (2, .long (len &&& (9223372036854775807 : Int64)))]), .inr (0, [(0, .long (id ^^^ d)), (1, .long gs), (2, .long (len &&& (9223372036854775807 : Int64)))])], 2, 6)
              refine EW.run 3 (cf' := ((272, [.val (.long id), .second, .val (.long gs), .second, .val (.long len), .second, .val (.long d), .second, .val (.long e), .second, .val (.int sel), .val (.long (len &&& (9223372036854775807 : Int64))), .second, .val (.int (1 : Int32)), .val (.int (0 : Int32)), .val (.int (0 : Int32)), .val (.long (id ^^^ d)), .second, .val (.long gs), .second, .val (.long (d &&& (9223372036854775807 : Int64))), .second, .val (.long (len &&& (9223372036854775807 : Int64))), .second, .val (.ref 2), .val (.ref 3), .val (.int ((XT.ushr sel (3 : Int32)) &&& (3 : Int32))), .val (.int (0 : Int32))], [.int (0 : Int32)]), [.inl (.object "java/lang/Long", A), .inr (1, []), .inr (0, [(0, .long id), (1, .long gs), (2, .long (len &&& (9223372036854775807 : Int64)))]), .inr (0, [(0, .long (id ^^^ d)), (1, .long gs), (2, .long (len &&& (9223372036854775807 : Int64)))])], 2, 6)) rfl ?_
              exfalso
              have := rng32 ((XT.ushr sel (3 : Int32)) &&& (3 : Int32))
              have := rng32 (XT.ushr sel (3 : Int32))
              have := rng32 sel
              have lt0 : (3 : Int32).toInt = 3 := by decide
              have : (XT.ushr sel (3 : Int32)).toInt = (sel.toInt % 4294967296) / 8 := c_iushr sel (3 : Int32) 3 (by decide) (by decide)
              have : ((XT.ushr sel (3 : Int32)) &&& (3 : Int32)).toInt = (XT.ushr sel (3 : Int32)).toInt % 4 := c_mask (XT.ushr sel (3 : Int32)) (3 : Int32) 2 (by decide) (by decide)
              have lt1 : (1 : Int32).toInt = 1 := by decide
              have lt2 : (2 : Int32).toInt = 2 := by decide
              have := rng64 d
              have lt3 : (0 : Int64).toInt = 0 := by decide
              have := rng64 (id ^^^ d)
              have := rng64 id
              have := c_xorSL id d
              have := own_xor id d
              omega
            · cases e0; have h6 := hz; clear hz
              show EW _ _ _ _ _ ((262, [.val (.long id), .second, .val (.long gs), .second, .val (.long len), .second, .val (.long d), .second, .val (.long e), .second, .val (.int sel), .val (.long (len &&& (9223372036854775807 : Int64))), .second, .val (.int (1 : Int32)), .val (.int (0 : Int32)), .val (.int (0 : Int32)), .val (.long (id ^^^ d)), .second, .val (.long gs), .second, .val (.long (d &&& (9223372036854775807 : Int64))), .second, .val (.long (len &&& (9223372036854775807 : Int64))), .second, .val (.ref 2), .val (.ref 3), .val (.int ((XT.ushr sel (3 : Int32)) &&& (3 : Int32))), .val (.int (0 : Int32))], [.int (0 : Int32)]), [.inl (.object "java/lang/Long", A), .inr (1, []), .inr (0, [(0, .long id), (1, .long gs), (2, .long (len &&& (9223372036854775807 : Int64)))]), .inr (0, [(0, .long (id ^^^ d)), (1, .long gs), (2, .long (len &&& (9223372036854775807 : Int64)))])], 2, 6)
              refine EW.run 4 (cf' := ((272, [.val (.long id), .second, .val (.long gs), .second, .val (.long len), .second, .val (.long d), .second, .val (.long e), .second, .val (.int sel), .val (.long (len &&& (9223372036854775807 : Int64))), .second, .val (.int (1 : Int32)), .val (.int (0 : Int32)), .val (.int (0 : Int32)), .val (.long (id ^^^ d)), .second, .val (.long gs), .second, .val (.long (d &&& (9223372036854775807 : Int64))), .second, .val (.long (len &&& (9223372036854775807 : Int64))), .second, .val (.ref 2), .val (.ref 3), .val (.int ((XT.ushr sel (3 : Int32)) &&& (3 : Int32))), .val (.int (0 : Int32))], [.int (1 : Int32)]), [.inl (.object "java/lang/Long", A), .inr (1, []), .inr (0, [(0, .long id), (1, .long gs), (2, .long (len &&& (9223372036854775807 : Int64)))]), .inr (0, [(0, .long (id ^^^ d)), (1, .long gs), (2, .long (len &&& (9223372036854775807 : Int64)))])], 2, 6)) rfl ?_
              exact EW.ret rfl ⟨rfl, Nat.le_of_ble_eq_true rfl, Nat.le_of_ble_eq_true rfl⟩
        · have h4 : d.toInt = (0 : Int64).toInt := by simp only [cP] at h; omega
          clear h
          show EW _ _ _ _ _ ((212, [.val (.long id), .second, .val (.long gs), .second, .val (.long len), .second, .val (.long d), .second, .val (.long e), .second, .val (.int sel), .val (.long (len &&& (9223372036854775807 : Int64))), .second, .val (.int (1 : Int32)), .val (.int (0 : Int32)), .val (.int (0 : Int32)), .val (.long (id ^^^ d)), .second, .val (.long gs), .second, .val (.long (d &&& (9223372036854775807 : Int64))), .second, .val (.long (len &&& (9223372036854775807 : Int64))), .second, .val (.ref 2), .val (.ref 3), .val (.int ((XT.ushr sel (3 : Int32)) &&& (3 : Int32))), .unset], []), [.inl (.object "java/lang/Long", A), .inr (1, []), .inr (0, [(0, .long id), (1, .long gs), (2, .long (len &&& (9223372036854775807 : Int64)))]), .inr (0, [(0, .long (id ^^^ d)), (1, .long gs), (2, .long (len &&& (9223372036854775807 : Int64)))])], 2, 6)
          refine EW.run 6 (cf' := ((241, [.val (.long id), .second, .val (.long gs), .second, .val (.long len), .second, .val (.long d), .second, .val (.long e), .second, .val (.int sel), .val (.long (len &&& (9223372036854775807 : Int64))), .second, .val (.int (1 : Int32)), .val (.int (0 : Int32)), .val (.int (0 : Int32)), .val (.long (id ^^^ d)), .second, .val (.long gs), .second, .val (.long (d &&& (9223372036854775807 : Int64))), .second, .val (.long (len &&& (9223372036854775807 : Int64))), .second, .val (.ref 2), .val (.ref 3), .val (.int ((XT.ushr sel (3 : Int32)) &&& (3 : Int32))), .unset], [.int (1 : Int32)]), [.inl (.object "java/lang/Long", A), .inr (1, []), .inr (0, [(0, .long id), (1, .long gs), (2, .long (len &&& (9223372036854775807 : Int64)))]), .inr (0, [(0, .long (id ^^^ d)), (1, .long gs), (2, .long (len &&& (9223372036854775807 : Int64)))])], 2, 6)) rfl ?_
          refine EW.run 3 (cf' := ((247, [.val (.long id), .second, .val (.long gs), .second, .val (.long len), .second, .val (.long d), .second, .val (.long e), .second, .val (.int sel), .val (.long (len &&& (9223372036854775807 : Int64))), .second, .val (.int (1 : Int32)), .val (.int (0 : Int32)), .val (.int (0 : Int32)), .val (.long (id ^^^ d)), .second, .val (.long gs), .second, .val (.long (d &&& (9223372036854775807 : Int64))), .second, .val (.long (len &&& (9223372036854775807 : Int64))), .second, .val (.ref 2), .val (.ref 3), .val (.int ((XT.ushr sel (3 : Int32)) &&& (3 : Int32))), .val (.int (1 : Int32))], [.ref 3, .ref 2]), [.inl (.object "java/lang/Long", A), .inr (1, []), .inr (0, [(0, .long id), (1, .long gs), (2, .long (len &&& (9223372036854775807 : Int64)))]), .inr (0, [(0, .long (id ^^^ d)), (1, .long gs), (2, .long (len &&& (9223372036854775807 : Int64)))])], 2, 6)) rfl ?_
          refine EW.call rfl (weq_23 _ _ A id gs (len &&& (9223372036854775807 : Int64)) (id ^^^ d) gs (len &&& (9223372036854775807 : Int64))) ?_
          rintro _ _ _ _ ⟨z, e0, ⟨rfl, hz⟩ | ⟨rfl, hz⟩⟩
          · cases e0; have h7 := hz; clear hz
            show EW _ _ _ _ _ ((250, [.val (.long id), .second, .val (.long gs), .second, .val (.long len), .second, .val (.long d), .second, .val (.long e), .second, .val (.int sel), .val (.long (len &&& (9223372036854775807 : Int64))), .second, .val (.int (1 : Int32)), .val (.int (0 : Int32)), .val (.int (0 : Int32)), .val (.long (id ^^^ d)), .second, .val (.long gs), .second, .val (.long (d &&& (9223372036854775807 : Int64))), .second, .val (.long (len &&& (9223372036854775807 : Int64))), .second, .val (.ref 2), .val (.ref 3), .val (.int ((XT.ushr sel (3 : Int32)) &&& (3 : Int32))), .val (.int (1 : Int32))], [.int (1 : Int32)]), [.inl (.object "java/lang/Long", A), .inr (1, []), .inr (0, [(0, .long id), (1, .long gs), (2, .long (len &&& (9223372036854775807 : Int64)))]), .inr (0, [(0, .long (id ^^^ d)), (1, .long gs), (2, .long (len &&& (9223372036854775807 : Int64)))])], 2, 6)
            refine EW.run 4 (cf' := ((259, [.val (.long id), .second, .val (.long gs), .second, .val (.long len), .second, .val (.long d), .second, .val (.long e), .second, .val (.int sel), .val (.long (len &&& (9223372036854775807 : Int64))), .second, .val (.int (1 : Int32)), .val (.int (0 : Int32)), .val (.int (0 : Int32)), .val (.long (id ^^^ d)), .second, .val (.long gs), .second, .val (.long (d &&& (9223372036854775807 : Int64))), .second, .val (.long (len &&& (9223372036854775807 : Int64))), .second, .val (.ref 2), .val (.ref 3), .val (.int ((XT.ushr sel (3 : Int32)) &&& (3 : Int32))), .val (.int (1 : Int32))], [.ref 2, .ref 3]), [.inl (.object "java/lang/Long", A), .inr (1, []), .inr (0, [(0, .long id), (1, .long gs), (2, .long (len &&& (9223372036854775807 : Int64)))]), .inr (0, [(0, .long (id ^^^ d)), (1, .long gs), (2, .long (len &&& (9223372036854775807 : Int64)))])], 2, 6)) rfl ?_
            refine EW.call rfl (weq_32 _ _ A id gs (len &&& (9223372036854775807 : Int64)) (id ^^^ d) gs (len &&& (9223372036854775807 : Int64))) ?_
            rintro _ _ _ _ ⟨z, e0, ⟨rfl, hz⟩ | ⟨rfl, hz⟩⟩
            · cases e0; have h8 := hz; clear hz
              show EW _ _ _ _ _ ((262, [.val (.long id), .second, .val (.long gs), .second, .val (.long len), .second, .val (.long d), .second, .val (.long e), .second, .val (.int sel), .val (.long (len &&& (9223372036854775807 : Int64))), .second, .val (.int (1 : Int32)), .val (.int (0 : Int32)), .val (.int (0 : Int32)), .val (.long (id ^^^ d)), .second, .val (.long gs), .second, .val (.long (d &&& (9223372036854775807 : Int64))), .second, .val (.long (len &&& (9223372036854775807 : Int64))), .second, .val (.ref 2), .val (.ref 3), .val (.int ((XT.ushr sel (3 : Int32)) &&& (3 : Int32))), .val (.int (1 : Int32))], [.int (1 : Int32)]), [.inl (.object "java/lang/Long", A), .inr (1, []), .inr (0, [(0, .long id), (1, .long gs), (2, .long (len &&& (9223372036854775807 : Int64)))]), .inr (0, [(0, .long (id ^^^ d)), (1, .long gs), (2, .long (len &&& (9223372036854775807 : Int64)))])], 2, 6)
              refine EW.run 4 (cf' := ((272, [.val (.long id), .second, .val (.long gs), .second, .val (.long len), .second, .val (.long d), .second, .val (.long e), .second, .val (.int sel), .val (.long (len &&& (9223372036854775807 : Int64))), .second, .val (.int (1 : Int32)), .val (.int (0 : Int32)), .val (.int (0 : Int32)), .val (.long (id ^^^ d)), .second, .val (.long gs), .second, .val (.long (d &&& (9223372036854775807 : Int64))), .second, .val (.long (len &&& (9223372036854775807 : Int64))), .second, .val (.ref 2), .val (.ref 3), .val (.int ((XT.ushr sel (3 : Int32)) &&& (3 : Int32))), .val (.int (1 : Int32))], [.int (1 : Int32)]), [.inl (.object "java/lang/Long", A), .inr (1, []), .inr (0, [(0, .long id), (1, .long gs), (2, .long (len &&& (9223372036854775807 : Int64)))]), .inr (0, [(0, .long (id ^^^ d)), (1, .long gs), (2, .long (len &&& (9223372036854775807 : Int64)))])], 2, 6)) rfl ?_
              exact EW.ret rfl ⟨rfl, Nat.le_of_ble_eq_true rfl, Nat.le_of_ble_eq_true rfl⟩
            · cases e0; have h8 := hz; clear hz
              show EW _ _ _ _ _ ((262, [.val (.long id), .second, .val (.long gs), .second, .val (.long len), .second, .val (.long d), .second, .val (.long e), .second, .val (.int sel), .val (.long (len &&& (9223372036854775807 : Int64))), .second, .val (.int (1 : Int32)), .val (.int (0 : Int32)), .val (.int (0 : Int32)), .val (.long (id ^^^ d)), .second, .val (.long gs), .second, .val (.long (d &&& (9223372036854775807 : Int64))), .second, .val (.long (len &&& (9223372036854775807 : Int64))), .second, .val (.ref 2), .val (.ref 3), .val (.int ((XT.ushr sel (3 : Int32)) &&& (3 : Int32))), .val (.int (1 : Int32))], [.int (0 : Int32)]), [.inl (.object "java/lang/Long", A), .inr (1, []), .inr (0, [(0, .long id), (1, .long gs), (2, .long (len &&& (9223372036854775807 : Int64)))]), .inr (0, [(0, .long (id ^^^ d)), (1, .long gs), (2, .long (len &&& (9223372036854775807 : Int64)))])], 2, 6)
              refine EW.run 3 (cf' := ((272, [.val (.long id), .second, .val (.long gs), .second, .val (.long len), .second, .val (.long d), .second, .val (.long e), .second, .val (.int sel), .val (.long (len &&& (9223372036854775807 : Int64))), .second, .val (.int (1 : Int32)), .val (.int (0 : Int32)), .val (.int (0 : Int32)), .val (.long (id ^^^ d)), .second, .val (.long gs), .second, .val (.long (d &&& (9223372036854775807 : Int64))), .second, .val (.long (len &&& (9223372036854775807 : Int64))), .second, .val (.ref 2), .val (.ref 3), .val (.int ((XT.ushr sel (3 : Int32)) &&& (3 : Int32))), .val (.int (1 : Int32))], [.int (0 : Int32)]), [.inl (.object "java/lang/Long", A), .inr (1, []), .inr (0, [(0, .long id), (1, .long gs), (2, .long (len &&& (9223372036854775807 : Int64)))]), .inr (0, [(0, .long (id ^^^ d)), (1, .long gs), (2, .long (len &&& (9223372036854775807 : Int64)))])], 2, 6)) rfl ?_
              exfalso
              have := rng32 ((XT.ushr sel (3 : Int32)) &&& (3 : Int32))
              have := rng32 (XT.ushr sel (3 : Int32))
              have := rng32 sel
              have lt0 : (3 : Int32).toInt = 3 := by decide
              have : (XT.ushr sel (3 : Int32)).toInt = (sel.toInt % 4294967296) / 8 := c_iushr sel (3 : Int32) 3 (by decide) (by decide)
              have : ((XT.ushr sel (3 : Int32)) &&& (3 : Int32)).toInt = (XT.ushr sel (3 : Int32)).toInt % 4 := c_mask (XT.ushr sel (3 : Int32)) (3 : Int32) 2 (by decide) (by decide)
              have lt1 : (1 : Int32).toInt = 1 := by decide
              have lt2 : (2 : Int32).toInt = 2 := by decide
              have := rng64 d
              have lt3 : (0 : Int64).toInt = 0 := by decide
              have := rng64 (id ^^^ d)
              have := rng64 id
              have := c_xorSL id d
              have := own_xor id d
              omega
          · cases e0; have h7 := hz; clear hz
            show EW _ _ _ _ _ ((250, [.val (.long id), .second, .val (.long gs), .second, .val (.long len), .second, .val (.long d), .second, .val (.long e), .second, .val (.int sel), .val (.long (len &&& (9223372036854775807 : Int64))), .second, .val (.int (1 : Int32)), .val (.int (0 : Int32)), .val (.int (0 : Int32)), .val (.long (id ^^^ d)), .second, .val (.long gs), .second, .val (.long (d &&& (9223372036854775807 : Int64))), .second, .val (.long (len &&& (9223372036854775807 : Int64))), .second, .val (.ref 2), .val (.ref 3), .val (.int ((XT.ushr sel (3 : Int32)) &&& (3 : Int32))), .val (.int (1 : Int32))], [.int (0 : Int32)]), [.inl (.object "java/lang/Long", A), .inr (1, []), .inr (0, [(0, .long id), (1, .long gs), (2, .long (len &&& (9223372036854775807 : Int64)))]), .inr (0, [(0, .long (id ^^^ d)), (1, .long gs), (2, .long (len &&& (9223372036854775807 : Int64)))])], 2, 6)
            refine EW.run 3 (cf' := ((272, [.val (.long id), .second, .val (.long gs), .second, .val (.long len), .second, .val (.long d), .second, .val (.long e), .second, .val (.int sel), .val (.long (len &&& (9223372036854775807 : Int64))), .second, .val (.int (1 : Int32)), .val (.int (0 : Int32)), .val (.int (0 : Int32)), .val (.long (id ^^^ d)), .second, .val (.long gs), .second, .val (.long (d &&& (9223372036854775807 : Int64))), .second, .val (.long (len &&& (9223372036854775807 : Int64))), .second, .val (.ref 2), .val (.ref 3), .val (.int ((XT.ushr sel (3 : Int32)) &&& (3 : Int32))), .val (.int (1 : Int32))], [.int (0 : Int32)]), [.inl (.object "java/lang/Long", A), .inr (1, []), .inr (0, [(0, .long id), (1, .long gs), (2, .long (len &&& (9223372036854775807 : Int64)))]), .inr (0, [(0, .long (id ^^^ d)), (1, .long gs), (2, .long (len &&& (9223372036854775807 : Int64)))])], 2, 6)) rfl ?_
            exfalso
            have := rng32 ((XT.ushr sel (3 : Int32)) &&& (3 : Int32))
            have := rng32 (XT.ushr sel (3 : Int32))
            have := rng32 sel
            have lt0 : (3 : Int32).toInt = 3 := by decide
            have : (XT.ushr sel (3 : Int32)).toInt = (sel.toInt % 4294967296) / 8 := c_iushr sel (3 : Int32) 3 (by decide) (by decide)
            have : ((XT.ushr sel (3 : Int32)) &&& (3 : Int32)).toInt = (XT.ushr sel (3 : Int32)).toInt % 4 := c_mask (XT.ushr sel (3 : Int32)) (3 : Int32) 2 (by decide) (by decide)
            have lt1 : (1 : Int32).toInt = 1 := by decide
            have lt2 : (2 : Int32).toInt = 2 := by decide
            have := rng64 d
            have lt3 : (0 : Int64).toInt = 0 := by decide
            have := rng64 (id ^^^ d)
            have := rng64 id
            have := c_xorSL id d
            have := own_xor id d
            omega
      · have h3 : ((XT.ushr sel (3 : Int32)) &&& (3 : Int32)).toInt = (3 : Int32).toInt := by simp only [cP] at h; omega
        clear h
        show EW _ _ _ _ _ ((192, [.val (.long id), .second, .val (.long gs), .second, .val (.long len), .second, .val (.long d), .second, .val (.long e), .second, .val (.int sel), .val (.long (len &&& (9223372036854775807 : Int64))), .second, .val (.int (1 : Int32)), .val (.int (0 : Int32)), .val (.int (0 : Int32)), .val (.long (id ^^^ d)), .second, .val (.long gs), .second, .val (.long (d &&& (9223372036854775807 : Int64))), .second, .val (.long (len &&& (9223372036854775807 : Int64))), .second, .val (.ref 2), .val (.ref 3), .val (.int ((XT.ushr sel (3 : Int32)) &&& (3 : Int32))), .unset], []), [.inl (.object "java/lang/Long", A), .inr (1, []), .inr (0, [(0, .long id), (1, .long gs), (2, .long (len &&& (9223372036854775807 : Int64)))]), .inr (0, [(0, .long (id ^^^ d)), (1, .long gs), (2, .long (len &&& (9223372036854775807 : Int64)))])], 2, 6)
        refine EW.run 2 (cf' := ((196, [.val (.long id), .second, .val (.long gs), .second, .val (.long len), .second, .val (.long d), .second, .val (.long e), .second, .val (.int sel), .val (.long (len &&& (9223372036854775807 : Int64))), .second, .val (.int (1 : Int32)), .val (.int (0 : Int32)), .val (.int (0 : Int32)), .val (.long (id ^^^ d)), .second, .val (.long gs), .second, .val (.long (d &&& (9223372036854775807 : Int64))), .second, .val (.long (len &&& (9223372036854775807 : Int64))), .second, .val (.ref 2), .val (.ref 3), .val (.int ((XT.ushr sel (3 : Int32)) &&& (3 : Int32))), .unset], [.ref 2, .ref 2]), [.inl (.object "java/lang/Long", A), .inr (1, []), .inr (0, [(0, .long id), (1, .long gs), (2, .long (len &&& (9223372036854775807 : Int64)))]), .inr (0, [(0, .long (id ^^^ d)), (1, .long gs), (2, .long (len &&& (9223372036854775807 : Int64)))])], 2, 6)) rfl ?_
        refine EW.call rfl (weq_22 _ _ A id gs (len &&& (9223372036854775807 : Int64)) (id ^^^ d) gs (len &&& (9223372036854775807 : Int64))) ?_
        rintro _ _ _ _ ⟨z, e0, ⟨rfl, hz⟩ | ⟨rfl, hz⟩⟩
        · cases e0; have h9 := hz; clear hz
          show EW _ _ _ _ _ ((199, [.val (.long id), .second, .val (.long gs), .second, .val (.long len), .second, .val (.long d), .second, .val (.long e), .second, .val (.int sel), .val (.long (len &&& (9223372036854775807 : Int64))), .second, .val (.int (1 : Int32)), .val (.int (0 : Int32)), .val (.int (0 : Int32)), .val (.long (id ^^^ d)), .second, .val (.long gs), .second, .val (.long (d &&& (9223372036854775807 : Int64))), .second, .val (.long (len &&& (9223372036854775807 : Int64))), .second, .val (.ref 2), .val (.ref 3), .val (.int ((XT.ushr sel (3 : Int32)) &&& (3 : Int32))), .unset], [.int (1 : Int32)]), [.inl (.object "java/lang/Long", A), .inr (1, []), .inr (0, [(0, .long id), (1, .long gs), (2, .long (len &&& (9223372036854775807 : Int64)))]), .inr (0, [(0, .long (id ^^^ d)), (1, .long gs), (2, .long (len &&& (9223372036854775807 : Int64)))])], 2, 6)
          exact EW.ret rfl ⟨rfl, Nat.le_of_ble_eq_true rfl, Nat.le_of_ble_eq_true rfl⟩
        · cases e0; have h9 := hz; clear hz
          show EW _ _ _ _ _ ((199, [.val (.long id), .second, .val (.long gs), .second, .val (.long len), .second, .val (.long d), .second, .val (.long e), .second, .val (.int sel), .val (.long (len &&& (9223372036854775807 : Int64))), .second, .val (.int (1 : Int32)), .val (.int (0 : Int32)), .val (.int (0 : Int32)), .val (.long (id ^^^ d)), .second, .val (.long gs), .second, .val (.long (d &&& (9223372036854775807 : Int64))), .second, .val (.long (len &&& (9223372036854775807 : Int64))), .second, .val (.ref 2), .val (.ref 3), .val (.int ((XT.ushr sel (3 : Int32)) &&& (3 : Int32))), .unset], [.int (0 : Int32)]), [.inl (.object "java/lang/Long", A), .inr (1, []), .inr (0, [(0, .long id), (1, .long gs), (2, .long (len &&& (9223372036854775807 : Int64)))]), .inr (0, [(0, .long (id ^^^ d)), (1, .long gs), (2, .long (len &&& (9223372036854775807 : Int64)))])], 2, 6)
          exfalso
          have := rng32 ((XT.ushr sel (3 : Int32)) &&& (3 : Int32))
          have := rng32 (XT.ushr sel (3 : Int32))
          have := rng32 sel
          have lt0 : (3 : Int32).toInt = 3 := by decide
          have : (XT.ushr sel (3 : Int32)).toInt = (sel.toInt % 4294967296) / 8 := c_iushr sel (3 : Int32) 3 (by decide) (by decide)
          have : ((XT.ushr sel (3 : Int32)) &&& (3 : Int32)).toInt = (XT.ushr sel (3 : Int32)).toInt % 4 := c_mask (XT.ushr sel (3 : Int32)) (3 : Int32) 2 (by decide) (by decide)
          have lt1 : (1 : Int32).toInt = 1 := by decide
          have lt2 : (2 : Int32).toInt = 2 := by decide
          have := rng64 (id ^^^ d)
          have := rng64 id
          have := rng64 d
          have := c_xorSL id d
          have := own_xor id d
          omega
    · have h2 : ((XT.ushr sel (3 : Int32)) &&& (3 : Int32)).toInt = (2 : Int32).toInt := by simp only [cP] at h; omega
      clear h
      show EW _ _ _ _ _ ((171, [.val (.long id), .second, .val (.long gs), .second, .val (.long len), .second, .val (.long d), .second, .val (.long e), .second, .val (.int sel), .val (.long (len &&& (9223372036854775807 : Int64))), .second, .val (.int (1 : Int32)), .val (.int (0 : Int32)), .val (.int (0 : Int32)), .val (.long (id ^^^ d)), .second, .val (.long gs), .second, .val (.long (d &&& (9223372036854775807 : Int64))), .second, .val (.long (len &&& (9223372036854775807 : Int64))), .second, .val (.ref 2), .val (.ref 3), .val (.int ((XT.ushr sel (3 : Int32)) &&& (3 : Int32))), .unset], []), [.inl (.object "java/lang/Long", A), .inr (1, []), .inr (0, [(0, .long id), (1, .long gs), (2, .long (len &&& (9223372036854775807 : Int64)))]), .inr (0, [(0, .long (id ^^^ d)), (1, .long gs), (2, .long (len &&& (9223372036854775807 : Int64)))])], 2, 6)
      refine EW.run 2 (cf' := ((174, [.val (.long id), .second, .val (.long gs), .second, .val (.long len), .second, .val (.long d), .second, .val (.long e), .second, .val (.int sel), .val (.long (len &&& (9223372036854775807 : Int64))), .second, .val (.int (1 : Int32)), .val (.int (0 : Int32)), .val (.int (0 : Int32)), .val (.long (id ^^^ d)), .second, .val (.long gs), .second, .val (.long (d &&& (9223372036854775807 : Int64))), .second, .val (.long (len &&& (9223372036854775807 : Int64))), .second, .val (.ref 2), .val (.ref 3), .val (.int ((XT.ushr sel (3 : Int32)) &&& (3 : Int32))), .unset], [.null, .ref 2]), [.inl (.object "java/lang/Long", A), .inr (1, []), .inr (0, [(0, .long id), (1, .long gs), (2, .long (len &&& (9223372036854775807 : Int64)))]), .inr (0, [(0, .long (id ^^^ d)), (1, .long gs), (2, .long (len &&& (9223372036854775807 : Int64)))])], 2, 6)) rfl ?_
      refine EW.call (Qc := fun r => r = (some (.int (0 : Int32)), [.inl (.object "java/lang/Long", A), .inr (1, []), .inr (0, [(0, .long id), (1, .long gs), (2, .long (len &&& (9223372036854775807 : Int64)))]), .inr (0, [(0, .long (id ^^^ d)), (1, .long gs), (2, .long (len &&& (9223372036854775807 : Int64)))])], 0, 0)) rfl ?_ ?_
      · show EW _ _ _ _ _ ((0, [.val (.ref 2), .val (.null), .unset], []), [.inl (.object "java/lang/Long", A), .inr (1, []), .inr (0, [(0, .long id), (1, .long gs), (2, .long (len &&& (9223372036854775807 : Int64)))]), .inr (0, [(0, .long (id ^^^ d)), (1, .long gs), (2, .long (len &&& (9223372036854775807 : Int64)))])], 0, 0)
        refine EW.run 4 (cf' := ((8, [.val (.ref 2), .val (.null), .unset], [.int (0 : Int32)]), [.inl (.object "java/lang/Long", A), .inr (1, []), .inr (0, [(0, .long id), (1, .long gs), (2, .long (len &&& (9223372036854775807 : Int64)))]), .inr (0, [(0, .long (id ^^^ d)), (1, .long gs), (2, .long (len &&& (9223372036854775807 : Int64)))])], 0, 0)) rfl ?_
        exact EW.ret rfl rfl
      rintro _ _ _ _ ⟨⟩
      show EW _ _ _ _ _ ((177, [.val (.long id), .second, .val (.long gs), .second, .val (.long len), .second, .val (.long d), .second, .val (.long e), .second, .val (.int sel), .val (.long (len &&& (9223372036854775807 : Int64))), .second, .val (.int (1 : Int32)), .val (.int (0 : Int32)), .val (.int (0 : Int32)), .val (.long (id ^^^ d)), .second, .val (.long gs), .second, .val (.long (d &&& (9223372036854775807 : Int64))), .second, .val (.long (len &&& (9223372036854775807 : Int64))), .second, .val (.ref 2), .val (.ref 3), .val (.int ((XT.ushr sel (3 : Int32)) &&& (3 : Int32))), .unset], [.int (0 : Int32)]), [.inl (.object "java/lang/Long", A), .inr (1, []), .inr (0, [(0, .long id), (1, .long gs), (2, .long (len &&& (9223372036854775807 : Int64)))]), .inr (0, [(0, .long (id ^^^ d)), (1, .long gs), (2, .long (len &&& (9223372036854775807 : Int64)))])], 2, 6)
      refine EW.run 3 (cf' := ((185, [.val (.long id), .second, .val (.long gs), .second, .val (.long len), .second, .val (.long d), .second, .val (.long e), .second, .val (.int sel), .val (.long (len &&& (9223372036854775807 : Int64))), .second, .val (.int (1 : Int32)), .val (.int (0 : Int32)), .val (.int (0 : Int32)), .val (.long (id ^^^ d)), .second, .val (.long gs), .second, .val (.long (d &&& (9223372036854775807 : Int64))), .second, .val (.long (len &&& (9223372036854775807 : Int64))), .second, .val (.ref 2), .val (.ref 3), .val (.int ((XT.ushr sel (3 : Int32)) &&& (3 : Int32))), .unset], [.int (1 : Int32)]), [.inl (.object "java/lang/Long", A), .inr (1, []), .inr (0, [(0, .long id), (1, .long gs), (2, .long (len &&& (9223372036854775807 : Int64)))]), .inr (0, [(0, .long (id ^^^ d)), (1, .long gs), (2, .long (len &&& (9223372036854775807 : Int64)))])], 2, 6)) rfl ?_
      exact EW.ret rfl ⟨rfl, Nat.le_of_ble_eq_true rfl, Nat.le_of_ble_eq_true rfl⟩
  · have h1 : ((XT.ushr sel (3 : Int32)) &&& (3 : Int32)).toInt = (1 : Int32).toInt := by simp only [cP] at h; omega
    clear h
    show EW _ _ _ _ _ ((147, [.val (.long id), .second, .val (.long gs), .second, .val (.long len), .second, .val (.long d), .second, .val (.long e), .second, .val (.int sel), .val (.long (len &&& (9223372036854775807 : Int64))), .second, .val (.int (1 : Int32)), .val (.int (0 : Int32)), .val (.int (0 : Int32)), .val (.long (id ^^^ d)), .second, .val (.long gs), .second, .val (.long (d &&& (9223372036854775807 : Int64))), .second, .val (.long (len &&& (9223372036854775807 : Int64))), .second, .val (.ref 2), .val (.ref 3), .val (.int ((XT.ushr sel (3 : Int32)) &&& (3 : Int32))), .unset], []), [.inl (.object "java/lang/Long", A), .inr (1, []), .inr (0, [(0, .long id), (1, .long gs), (2, .long (len &&& (9223372036854775807 : Int64)))]), .inr (0, [(0, .long (id ^^^ d)), (1, .long gs), (2, .long (len &&& (9223372036854775807 : Int64)))])], 2, 6)
    refine EW.run 2 (cf' := ((150, [.val (.long id), .second, .val (.long gs), .second, .val (.long len), .second, .val (.long d), .second, .val (.long e), .second, .val (.int sel), .val (.long (len &&& (9223372036854775807 : Int64))), .second, .val (.int (1 : Int32)), .val (.int (0 : Int32)), .val (.int (0 : Int32)), .val (.long (id ^^^ d)), .second, .val (.long gs), .second, .val (.long (d &&& (9223372036854775807 : Int64))), .second, .val (.long (len &&& (9223372036854775807 : Int64))), .second, .val (.ref 2), .val (.ref 3), .val (.int ((XT.ushr sel (3 : Int32)) &&& (3 : Int32))), .unset], [.long id, .ref 2]), [.inl (.object "java/lang/Long", A), .inr (1, []), .inr (0, [(0, .long id), (1, .long gs), (2, .long (len &&& (9223372036854775807 : Int64)))]), .inr (0, [(0, .long (id ^^^ d)), (1, .long gs), (2, .long (len &&& (9223372036854775807 : Int64)))])], 2, 6)) rfl ?_
    refine EW.call rfl (wval A id gs (len &&& (9223372036854775807 : Int64)) (id ^^^ d) gs (len &&& (9223372036854775807 : Int64)) id hin) ?_
    rintro _ _ _ _ (e0 | e0)
    · cases e0
      show EW _ _ _ _ _ ((153, [.val (.long id), .second, .val (.long gs), .second, .val (.long len), .second, .val (.long d), .second, .val (.long e), .second, .val (.int sel), .val (.long (len &&& (9223372036854775807 : Int64))), .second, .val (.int (1 : Int32)), .val (.int (0 : Int32)), .val (.int (0 : Int32)), .val (.long (id ^^^ d)), .second, .val (.long gs), .second, .val (.long (d &&& (9223372036854775807 : Int64))), .second, .val (.long (len &&& (9223372036854775807 : Int64))), .second, .val (.ref 2), .val (.ref 3), .val (.int ((XT.ushr sel (3 : Int32)) &&& (3 : Int32))), .unset], [.ref 1, .ref 2]), [.inl (.object "java/lang/Long", A), .inr (1, []), .inr (0, [(0, .long id), (1, .long gs), (2, .long (len &&& (9223372036854775807 : Int64)))]), .inr (0, [(0, .long (id ^^^ d)), (1, .long gs), (2, .long (len &&& (9223372036854775807 : Int64)))])], 2, 6)
      refine EW.call (Qc := fun r => r = (some (.int (0 : Int32)), [.inl (.object "java/lang/Long", A), .inr (1, []), .inr (0, [(0, .long id), (1, .long gs), (2, .long (len &&& (9223372036854775807 : Int64)))]), .inr (0, [(0, .long (id ^^^ d)), (1, .long gs), (2, .long (len &&& (9223372036854775807 : Int64)))])], 0, 0)) rfl ?_ ?_
      · show EW _ _ _ _ _ ((0, [.val (.ref 2), .val (.ref 1), .unset], []), [.inl (.object "java/lang/Long", A), .inr (1, []), .inr (0, [(0, .long id), (1, .long gs), (2, .long (len &&& (9223372036854775807 : Int64)))]), .inr (0, [(0, .long (id ^^^ d)), (1, .long gs), (2, .long (len &&& (9223372036854775807 : Int64)))])], 0, 0)
        refine EW.run 4 (cf' := ((8, [.val (.ref 2), .val (.ref 1), .unset], [.int (0 : Int32)]), [.inl (.object "java/lang/Long", A), .inr (1, []), .inr (0, [(0, .long id), (1, .long gs), (2, .long (len &&& (9223372036854775807 : Int64)))]), .inr (0, [(0, .long (id ^^^ d)), (1, .long gs), (2, .long (len &&& (9223372036854775807 : Int64)))])], 0, 0)) rfl ?_
        exact EW.ret rfl rfl
      rintro _ _ _ _ ⟨⟩
      show EW _ _ _ _ _ ((156, [.val (.long id), .second, .val (.long gs), .second, .val (.long len), .second, .val (.long d), .second, .val (.long e), .second, .val (.int sel), .val (.long (len &&& (9223372036854775807 : Int64))), .second, .val (.int (1 : Int32)), .val (.int (0 : Int32)), .val (.int (0 : Int32)), .val (.long (id ^^^ d)), .second, .val (.long gs), .second, .val (.long (d &&& (9223372036854775807 : Int64))), .second, .val (.long (len &&& (9223372036854775807 : Int64))), .second, .val (.ref 2), .val (.ref 3), .val (.int ((XT.ushr sel (3 : Int32)) &&& (3 : Int32))), .unset], [.int (0 : Int32)]), [.inl (.object "java/lang/Long", A), .inr (1, []), .inr (0, [(0, .long id), (1, .long gs), (2, .long (len &&& (9223372036854775807 : Int64)))]), .inr (0, [(0, .long (id ^^^ d)), (1, .long gs), (2, .long (len &&& (9223372036854775807 : Int64)))])], 2, 6)
      refine EW.run 3 (cf' := ((164, [.val (.long id), .second, .val (.long gs), .second, .val (.long len), .second, .val (.long d), .second, .val (.long e), .second, .val (.int sel), .val (.long (len &&& (9223372036854775807 : Int64))), .second, .val (.int (1 : Int32)), .val (.int (0 : Int32)), .val (.int (0 : Int32)), .val (.long (id ^^^ d)), .second, .val (.long gs), .second, .val (.long (d &&& (9223372036854775807 : Int64))), .second, .val (.long (len &&& (9223372036854775807 : Int64))), .second, .val (.ref 2), .val (.ref 3), .val (.int ((XT.ushr sel (3 : Int32)) &&& (3 : Int32))), .unset], [.int (1 : Int32)]), [.inl (.object "java/lang/Long", A), .inr (1, []), .inr (0, [(0, .long id), (1, .long gs), (2, .long (len &&& (9223372036854775807 : Int64)))]), .inr (0, [(0, .long (id ^^^ d)), (1, .long gs), (2, .long (len &&& (9223372036854775807 : Int64)))])], 2, 6)) rfl ?_
      exact EW.ret rfl ⟨rfl, Nat.le_of_ble_eq_true rfl, Nat.le_of_ble_eq_true rfl⟩
    · cases e0
      show EW _ _ _ _ _ ((153, [.val (.long id), .second, .val (.long gs), .second, .val (.long len), .second, .val (.long d), .second, .val (.long e), .second, .val (.int sel), .val (.long (len &&& (9223372036854775807 : Int64))), .second, .val (.int (1 : Int32)), .val (.int (0 : Int32)), .val (.int (0 : Int32)), .val (.long (id ^^^ d)), .second, .val (.long gs), .second, .val (.long (d &&& (9223372036854775807 : Int64))), .second, .val (.long (len &&& (9223372036854775807 : Int64))), .second, .val (.ref 2), .val (.ref 3), .val (.int ((XT.ushr sel (3 : Int32)) &&& (3 : Int32))), .unset], [.ref 4, .ref 2]), [.inl (.object "java/lang/Long", A), .inr (1, []), .inr (0, [(0, .long id), (1, .long gs), (2, .long (len &&& (9223372036854775807 : Int64)))]), .inr (0, [(0, .long (id ^^^ d)), (1, .long gs), (2, .long (len &&& (9223372036854775807 : Int64)))]), .inr (1, [(4, .long id)])], 3, 7)
      refine EW.call (Qc := fun r => r = (some (.int (0 : Int32)), [.inl (.object "java/lang/Long", A), .inr (1, []), .inr (0, [(0, .long id), (1, .long gs), (2, .long (len &&& (9223372036854775807 : Int64)))]), .inr (0, [(0, .long (id ^^^ d)), (1, .long gs), (2, .long (len &&& (9223372036854775807 : Int64)))]), .inr (1, [(4, .long id)])], 0, 0)) rfl ?_ ?_
      · show EW _ _ _ _ _ ((0, [.val (.ref 2), .val (.ref 4), .unset], []), [.inl (.object "java/lang/Long", A), .inr (1, []), .inr (0, [(0, .long id), (1, .long gs), (2, .long (len &&& (9223372036854775807 : Int64)))]), .inr (0, [(0, .long (id ^^^ d)), (1, .long gs), (2, .long (len &&& (9223372036854775807 : Int64)))]), .inr (1, [(4, .long id)])], 0, 0)
        refine EW.run 4 (cf' := ((8, [.val (.ref 2), .val (.ref 4), .unset], [.int (0 : Int32)]), [.inl (.object "java/lang/Long", A), .inr (1, []), .inr (0, [(0, .long id), (1, .long gs), (2, .long (len &&& (9223372036854775807 : Int64)))]), .inr (0, [(0, .long (id ^^^ d)), (1, .long gs), (2, .long (len &&& (9223372036854775807 : Int64)))]), .inr (1, [(4, .long id)])], 0, 0)) rfl ?_
        exact EW.ret rfl rfl
      rintro _ _ _ _ ⟨⟩
      show EW _ _ _ _ _ ((156, [.val (.long id), .second, .val (.long gs), .second, .val (.long len), .second, .val (.long d), .second, .val (.long e), .second, .val (.int sel), .val (.long (len &&& (9223372036854775807 : Int64))), .second, .val (.int (1 : Int32)), .val (.int (0 : Int32)), .val (.int (0 : Int32)), .val (.long (id ^^^ d)), .second, .val (.long gs), .second, .val (.long (d &&& (9223372036854775807 : Int64))), .second, .val (.long (len &&& (9223372036854775807 : Int64))), .second, .val (.ref 2), .val (.ref 3), .val (.int ((XT.ushr sel (3 : Int32)) &&& (3 : Int32))), .unset], [.int (0 : Int32)]), [.inl (.object "java/lang/Long", A), .inr (1, []), .inr (0, [(0, .long id), (1, .long gs), (2, .long (len &&& (9223372036854775807 : Int64)))]), .inr (0, [(0, .long (id ^^^ d)), (1, .long gs), (2, .long (len &&& (9223372036854775807 : Int64)))]), .inr (1, [(4, .long id)])], 3, 7)
      refine EW.run 3 (cf' := ((164, [.val (.long id), .second, .val (.long gs), .second, .val (.long len), .second, .val (.long d), .second, .val (.long e), .second, .val (.int sel), .val (.long (len &&& (9223372036854775807 : Int64))), .second, .val (.int (1 : Int32)), .val (.int (0 : Int32)), .val (.int (0 : Int32)), .val (.long (id ^^^ d)), .second, .val (.long gs), .second, .val (.long (d &&& (9223372036854775807 : Int64))), .second, .val (.long (len &&& (9223372036854775807 : Int64))), .second, .val (.ref 2), .val (.ref 3), .val (.int ((XT.ushr sel (3 : Int32)) &&& (3 : Int32))), .unset], [.int (1 : Int32)]), [.inl (.object "java/lang/Long", A), .inr (1, []), .inr (0, [(0, .long id), (1, .long gs), (2, .long (len &&& (9223372036854775807 : Int64)))]), .inr (0, [(0, .long (id ^^^ d)), (1, .long gs), (2, .long (len &&& (9223372036854775807 : Int64)))]), .inr (1, [(4, .long id)])], 3, 7)) rfl ?_
      exact EW.ret rfl ⟨rfl, Nat.le_of_ble_eq_true rfl, Nat.le_of_ble_eq_true rfl⟩
set_option maxHeartbeats 8000000 in
theorem own_c5 (A : List Value) (id gs len d e : Int64) (sel : Int32) (hin : -128 ≤ id.toInt → id.toInt ≤ 127 → (¬ (id.toInt32 + 128) < 0 ∧ A[(id.toInt32 + 128).toNatClampNeg]? = some (.ref 1))) : EW gG 7 160 mL (fun r => r.1 = some (.int 1) ∧ r.2.2.1 ≤ 16 ∧ r.2.2.2 ≤ 128) ((105, [.val (.long id), .second, .val (.long gs), .second, .val (.long len), .second, .val (.long d), .second, .val (.long e), .second, .val (.int sel), .val (.long (len &&& (9223372036854775807 : Int64))), .second, .val (.int (1 : Int32)), .val (.int (0 : Int32)), .val (.int (1 : Int32)), .val (.long (id ^^^ d)), .second, .val (.long gs), .second, .val (.long (d &&& (9223372036854775807 : Int64))), .second, .val (.long ((len &&& (9223372036854775807 : Int64)) ^^^ (d &&& (9223372036854775807 : Int64)))), .second, .unset, .unset, .unset, .unset], []), [.inl (.object "java/lang/Long", A), .inr (1, [])], 0, 0) := by
  have lz : (0 : Int64).toInt = 0 := by decide
  refine EW.run 5 (cf' := ((113, [.val (.long id), .second, .val (.long gs), .second, .val (.long len), .second, .val (.long d), .second, .val (.long e), .second, .val (.int sel), .val (.long (len &&& (9223372036854775807 : Int64))), .second, .val (.int (1 : Int32)), .val (.int (0 : Int32)), .val (.int (1 : Int32)), .val (.long (id ^^^ d)), .second, .val (.long gs), .second, .val (.long (d &&& (9223372036854775807 : Int64))), .second, .val (.long ((len &&& (9223372036854775807 : Int64)) ^^^ (d &&& (9223372036854775807 : Int64)))), .second, .unset, .unset, .unset, .unset], [.long (len &&& (9223372036854775807 : Int64)), .long gs, .long id, .ref 2, .ref 2]), [.inl (.object "java/lang/Long", A), .inr (1, []), .inr (0, [(0, .long (0 : Int64)), (1, .long (0 : Int64)), (2, .long (0 : Int64))])], 1, 3)) rfl ?_
  refine EW.call (Qc := fun r => r = (none, [.inl (.object "java/lang/Long", A), .inr (1, []), .inr (0, [(0, .long id), (1, .long gs), (2, .long (len &&& (9223372036854775807 : Int64)))])], 0, 0)) rfl ?_ ?_
  · show EW _ _ _ _ _ ((0, [.val (.ref 2), .val (.long id), .second, .val (.long gs), .second, .val (.long (len &&& (9223372036854775807 : Int64))), .second], []), [.inl (.object "java/lang/Long", A), .inr (1, []), .inr (0, [(0, .long (0 : Int64)), (1, .long (0 : Int64)), (2, .long (0 : Int64))])], 0, 0)
    refine EW.run 5 (cf' := ((8, [.val (.ref 2), .val (.long id), .second, .val (.long gs), .second, .val (.long (len &&& (9223372036854775807 : Int64))), .second], [.int (XT.cmpL (len &&& (9223372036854775807 : Int64)) (0 : Int64))]), [.inl (.object "java/lang/Long", A), .inr (1, []), .inr (0, [(0, .long (0 : Int64)), (1, .long (0 : Int64)), (2, .long (0 : Int64))])], 0, 0)) rfl ?_
    refine EW.iflP rfl (by decide) (fun h => ?_) (fun h => ?_)
    · have h1 : (len &&& (9223372036854775807 : Int64)).toInt ≥ (0 : Int64).toInt := by simp only [cP] at h; omega
      clear h
      show EW _ _ _ _ _ ((27, [.val (.ref 2), .val (.long id), .second, .val (.long gs), .second, .val (.long (len &&& (9223372036854775807 : Int64))), .second], []), [.inl (.object "java/lang/Long", A), .inr (1, []), .inr (0, [(0, .long (0 : Int64)), (1, .long (0 : Int64)), (2, .long (0 : Int64))])], 0, 0)
      refine EW.run 6 (cf' := ((37, [.val (.ref 2), .val (.long id), .second, .val (.long gs), .second, .val (.long (len &&& (9223372036854775807 : Int64))), .second], []), [.inl (.object "java/lang/Long", A), .inr (1, []), .inr (0, [(0, .long id), (1, .long gs), (2, .long (0 : Int64))])], 0, 0)) rfl ?_
      refine EW.run 3 (cf' := ((43, [.val (.ref 2), .val (.long id), .second, .val (.long gs), .second, .val (.long (len &&& (9223372036854775807 : Int64))), .second], []), [.inl (.object "java/lang/Long", A), .inr (1, []), .inr (0, [(0, .long id), (1, .long gs), (2, .long (len &&& (9223372036854775807 : Int64)))])], 0, 0)) rfl ?_
      exact EW.ret rfl rfl
    · exfalso
      simp only [cP] at h
      have := rng64 (len &&& (9223372036854775807 : Int64))
      have := rng64 len
      have lt0 : (9223372036854775807 : Int64).toInt = 9223372036854775807 := by decide
      have : (len &&& (9223372036854775807 : Int64)).toInt = len.toInt % 9223372036854775808 := c_maskL len (9223372036854775807 : Int64) 63 (by decide) (by decide)
      have lt1 : (0 : Int64).toInt = 0 := by decide
      omega
  rintro _ _ _ _ ⟨⟩
  show EW _ _ _ _ _ ((116, [.val (.long id), .second, .val (.long gs), .second, .val (.long len), .second, .val (.long d), .second, .val (.long e), .second, .val (.int sel), .val (.long (len &&& (9223372036854775807 : Int64))), .second, .val (.int (1 : Int32)), .val (.int (0 : Int32)), .val (.int (1 : Int32)), .val (.long (id ^^^ d)), .second, .val (.long gs), .second, .val (.long (d &&& (9223372036854775807 : Int64))), .second, .val (.long ((len &&& (9223372036854775807 : Int64)) ^^^ (d &&& (9223372036854775807 : Int64)))), .second, .unset, .unset, .unset, .unset], [.ref 2]), [.inl (.object "java/lang/Long", A), .inr (1, []), .inr (0, [(0, .long id), (1, .long gs), (2, .long (len &&& (9223372036854775807 : Int64)))])], 1, 3)
  refine EW.run 6 (cf' := ((128, [.val (.long id), .second, .val (.long gs), .second, .val (.long len), .second, .val (.long d), .second, .val (.long e), .second, .val (.int sel), .val (.long (len &&& (9223372036854775807 : Int64))), .second, .val (.int (1 : Int32)), .val (.int (0 : Int32)), .val (.int (1 : Int32)), .val (.long (id ^^^ d)), .second, .val (.long gs), .second, .val (.long (d &&& (9223372036854775807 : Int64))), .second, .val (.long ((len &&& (9223372036854775807 : Int64)) ^^^ (d &&& (9223372036854775807 : Int64)))), .second, .val (.ref 2), .unset, .unset, .unset], [.long ((len &&& (9223372036854775807 : Int64)) ^^^ (d &&& (9223372036854775807 : Int64))), .long gs, .long (id ^^^ d), .ref 3, .ref 3]), [.inl (.object "java/lang/Long", A), .inr (1, []), .inr (0, [(0, .long id), (1, .long gs), (2, .long (len &&& (9223372036854775807 : Int64)))]), .inr (0, [(0, .long (0 : Int64)), (1, .long (0 : Int64)), (2, .long (0 : Int64))])], 2, 6)) rfl ?_
  refine EW.call (Qc := fun r => r = (none, [.inl (.object "java/lang/Long", A), .inr (1, []), .inr (0, [(0, .long id), (1, .long gs), (2, .long (len &&& (9223372036854775807 : Int64)))]), .inr (0, [(0, .long (id ^^^ d)), (1, .long gs), (2, .long ((len &&& (9223372036854775807 : Int64)) ^^^ (d &&& (9223372036854775807 : Int64))))])], 0, 0)) rfl ?_ ?_
  · show EW _ _ _ _ _ ((0, [.val (.ref 3), .val (.long (id ^^^ d)), .second, .val (.long gs), .second, .val (.long ((len &&& (9223372036854775807 : Int64)) ^^^ (d &&& (9223372036854775807 : Int64)))), .second], []), [.inl (.object "java/lang/Long", A), .inr (1, []), .inr (0, [(0, .long id), (1, .long gs), (2, .long (len &&& (9223372036854775807 : Int64)))]), .inr (0, [(0, .long (0 : Int64)), (1, .long (0 : Int64)), (2, .long (0 : Int64))])], 0, 0)
    refine EW.run 5 (cf' := ((8, [.val (.ref 3), .val (.long (id ^^^ d)), .second, .val (.long gs), .second, .val (.long ((len &&& (9223372036854775807 : Int64)) ^^^ (d &&& (9223372036854775807 : Int64)))), .second], [.int (XT.cmpL ((len &&& (9223372036854775807 : Int64)) ^^^ (d &&& (9223372036854775807 : Int64))) (0 : Int64))]), [.inl (.object "java/lang/Long", A), .inr (1, []), .inr (0, [(0, .long id), (1, .long gs), (2, .long (len &&& (9223372036854775807 : Int64)))]), .inr (0, [(0, .long (0 : Int64)), (1, .long (0 : Int64)), (2, .long (0 : Int64))])], 0, 0)) rfl ?_
    refine EW.iflP rfl (by decide) (fun h => ?_) (fun h => ?_)
    · have h1 : ((len &&& (9223372036854775807 : Int64)) ^^^ (d &&& (9223372036854775807 : Int64))).toInt ≥ (0 : Int64).toInt := by simp only [cP] at h; omega
      clear h
      show EW _ _ _ _ _ ((27, [.val (.ref 3), .val (.long (id ^^^ d)), .second, .val (.long gs), .second, .val (.long ((len &&& (9223372036854775807 : Int64)) ^^^ (d &&& (9223372036854775807 : Int64)))), .second], []), [.inl (.object "java/lang/Long", A), .inr (1, []), .inr (0, [(0, .long id), (1, .long gs), (2, .long (len &&& (9223372036854775807 : Int64)))]), .inr (0, [(0, .long (0 : Int64)), (1, .long (0 : Int64)), (2, .long (0 : Int64))])], 0, 0)
      refine EW.run 6 (cf' := ((37, [.val (.ref 3), .val (.long (id ^^^ d)), .second, .val (.long gs), .second, .val (.long ((len &&& (9223372036854775807 : Int64)) ^^^ (d &&& (9223372036854775807 : Int64)))), .second], []), [.inl (.object "java/lang/Long", A), .inr (1, []), .inr (0, [(0, .long id), (1, .long gs), (2, .long (len &&& (9223372036854775807 : Int64)))]), .inr (0, [(0, .long (id ^^^ d)), (1, .long gs), (2, .long (0 : Int64))])], 0, 0)) rfl ?_
      refine EW.run 3 (cf' := ((43, [.val (.ref 3), .val (.long (id ^^^ d)), .second, .val (.long gs), .second, .val (.long ((len &&& (9223372036854775807 : Int64)) ^^^ (d &&& (9223372036854775807 : Int64)))), .second], []), [.inl (.object "java/lang/Long", A), .inr (1, []), .inr (0, [(0, .long id), (1, .long gs), (2, .long (len &&& (9223372036854775807 : Int64)))]), .inr (0, [(0, .long (id ^^^ d)), (1, .long gs), (2, .long ((len &&& (9223372036854775807 : Int64)) ^^^ (d &&& (9223372036854775807 : Int64))))])], 0, 0)) rfl ?_
      exact EW.ret rfl rfl
    · exfalso
      simp only [cP] at h
      have := rng64 ((len &&& (9223372036854775807 : Int64)) ^^^ (d &&& (9223372036854775807 : Int64)))
      have := rng64 (len &&& (9223372036854775807 : Int64))
      have := rng64 len
      have lt0 : (9223372036854775807 : Int64).toInt = 9223372036854775807 := by decide
      have : (len &&& (9223372036854775807 : Int64)).toInt = len.toInt % 9223372036854775808 := c_maskL len (9223372036854775807 : Int64) 63 (by decide) (by decide)
      have := rng64 (d &&& (9223372036854775807 : Int64))
      have := rng64 d
      have : (d &&& (9223372036854775807 : Int64)).toInt = d.toInt % 9223372036854775808 := c_maskL d (9223372036854775807 : Int64) 63 (by decide) (by decide)
      have := c_xorSL (len &&& (9223372036854775807 : Int64)) (d &&& (9223372036854775807 : Int64))
      have := own_xor (len &&& (9223372036854775807 : Int64)) (d &&& (9223372036854775807 : Int64))
      have lt1 : (0 : Int64).toInt = 0 := by decide
      omega
  rintro _ _ _ _ ⟨⟩
  show EW _ _ _ _ _ ((131, [.val (.long id), .second, .val (.long gs), .second, .val (.long len), .second, .val (.long d), .second, .val (.long e), .second, .val (.int sel), .val (.long (len &&& (9223372036854775807 : Int64))), .second, .val (.int (1 : Int32)), .val (.int (0 : Int32)), .val (.int (1 : Int32)), .val (.long (id ^^^ d)), .second, .val (.long gs), .second, .val (.long (d &&& (9223372036854775807 : Int64))), .second, .val (.long ((len &&& (9223372036854775807 : Int64)) ^^^ (d &&& (9223372036854775807 : Int64)))), .second, .val (.ref 2), .unset, .unset, .unset], [.ref 3]), [.inl (.object "java/lang/Long", A), .inr (1, []), .inr (0, [(0, .long id), (1, .long gs), (2, .long (len &&& (9223372036854775807 : Int64)))]), .inr (0, [(0, .long (id ^^^ d)), (1, .long gs), (2, .long ((len &&& (9223372036854775807 : Int64)) ^^^ (d &&& (9223372036854775807 : Int64))))])], 2, 6)
  refine EW.run 6 (cf' := ((139, [.val (.long id), .second, .val (.long gs), .second, .val (.long len), .second, .val (.long d), .second, .val (.long e), .second, .val (.int sel), .val (.long (len &&& (9223372036854775807 : Int64))), .second, .val (.int (1 : Int32)), .val (.int (0 : Int32)), .val (.int (1 : Int32)), .val (.long (id ^^^ d)), .second, .val (.long gs), .second, .val (.long (d &&& (9223372036854775807 : Int64))), .second, .val (.long ((len &&& (9223372036854775807 : Int64)) ^^^ (d &&& (9223372036854775807 : Int64)))), .second, .val (.ref 2), .val (.ref 3), .unset, .unset], [.int ((XT.ushr sel (3 : Int32)) &&& (3 : Int32))]), [.inl (.object "java/lang/Long", A), .inr (1, []), .inr (0, [(0, .long id), (1, .long gs), (2, .long (len &&& (9223372036854775807 : Int64)))]), .inr (0, [(0, .long (id ^^^ d)), (1, .long gs), (2, .long ((len &&& (9223372036854775807 : Int64)) ^^^ (d &&& (9223372036854775807 : Int64))))])], 2, 6)) rfl ?_
  refine EW.run 3 (cf' := ((144, [.val (.long id), .second, .val (.long gs), .second, .val (.long len), .second, .val (.long d), .second, .val (.long e), .second, .val (.int sel), .val (.long (len &&& (9223372036854775807 : Int64))), .second, .val (.int (1 : Int32)), .val (.int (0 : Int32)), .val (.int (1 : Int32)), .val (.long (id ^^^ d)), .second, .val (.long gs), .second, .val (.long (d &&& (9223372036854775807 : Int64))), .second, .val (.long ((len &&& (9223372036854775807 : Int64)) ^^^ (d &&& (9223372036854775807 : Int64)))), .second, .val (.ref 2), .val (.ref 3), .val (.int ((XT.ushr sel (3 : Int32)) &&& (3 : Int32))), .unset], [.int (1 : Int32), .int ((XT.ushr sel (3 : Int32)) &&& (3 : Int32))]), [.inl (.object "java/lang/Long", A), .inr (1, []), .inr (0, [(0, .long id), (1, .long gs), (2, .long (len &&& (9223372036854775807 : Int64)))]), .inr (0, [(0, .long (id ^^^ d)), (1, .long gs), (2, .long ((len &&& (9223372036854775807 : Int64)) ^^^ (d &&& (9223372036854775807 : Int64))))])], 2, 6)) rfl ?_
  refine EW.icmpP rfl (by decide) (fun h => ?_) (fun h => ?_)
  · have h1 : ((XT.ushr sel (3 : Int32)) &&& (3 : Int32)).toInt ≠ (1 : Int32).toInt := by simp only [cP] at h; omega
    clear h
    show EW _ _ _ _ _ ((165, [.val (.long id), .second, .val (.long gs), .second, .val (.long len), .second, .val (.long d), .second, .val (.long e), .second, .val (.int sel), .val (.long (len &&& (9223372036854775807 : Int64))), .second, .val (.int (1 : Int32)), .val (.int (0 : Int32)), .val (.int (1 : Int32)), .val (.long (id ^^^ d)), .second, .val (.long gs), .second, .val (.long (d &&& (9223372036854775807 : Int64))), .second, .val (.long ((len &&& (9223372036854775807 : Int64)) ^^^ (d &&& (9223372036854775807 : Int64)))), .second, .val (.ref 2), .val (.ref 3), .val (.int ((XT.ushr sel (3 : Int32)) &&& (3 : Int32))), .unset], []), [.inl (.object "java/lang/Long", A), .inr (1, []), .inr (0, [(0, .long id), (1, .long gs), (2, .long (len &&& (9223372036854775807 : Int64)))]), .inr (0, [(0, .long (id ^^^ d)), (1, .long gs), (2, .long ((len &&& (9223372036854775807 : Int64)) ^^^ (d &&& (9223372036854775807 : Int64))))])], 2, 6)
    refine EW.run 2 (cf' := ((168, [.val (.long id), .second, .val (.long gs), .second, .val (.long len), .second, .val (.long d), .second, .val (.long e), .second, .val (.int sel), .val (.long (len &&& (9223372036854775807 : Int64))), .second, .val (.int (1 : Int32)), .val (.int (0 : Int32)), .val (.int (1 : Int32)), .val (.long (id ^^^ d)), .second, .val (.long gs), .second, .val (.long (d &&& (9223372036854775807 : Int64))), .second, .val (.long ((len &&& (9223372036854775807 : Int64)) ^^^ (d &&& (9223372036854775807 : Int64)))), .second, .val (.ref 2), .val (.ref 3), .val (.int ((XT.ushr sel (3 : Int32)) &&& (3 : Int32))), .unset], [.int (2 : Int32), .int ((XT.ushr sel (3 : Int32)) &&& (3 : Int32))]), [.inl (.object "java/lang/Long", A), .inr (1, []), .inr (0, [(0, .long id), (1, .long gs), (2, .long (len &&& (9223372036854775807 : Int64)))]), .inr (0, [(0, .long (id ^^^ d)), (1, .long gs), (2, .long ((len &&& (9223372036854775807 : Int64)) ^^^ (d &&& (9223372036854775807 : Int64))))])], 2, 6)) rfl ?_
    refine EW.icmpP rfl (by decide) (fun h => ?_) (fun h => ?_)
    · have h2 : ((XT.ushr sel (3 : Int32)) &&& (3 : Int32)).toInt ≠ (2 : Int32).toInt := by simp only [cP] at h; omega
      clear h
      show EW _ _ _ _ _ ((186, [.val (.long id), .second, .val (.long gs), .second, .val (.long len), .second, .val (.long d), .second, .val (.long e), .second, .val (.int sel), .val (.long (len &&& (9223372036854775807 : Int64))), .second, .val (.int (1 : Int32)), .val (.int (0 : Int32)), .val (.int (1 : Int32)), .val (.long (id ^^^ d)), .second, .val (.long gs), .second, .val (.long (d &&& (9223372036854775807 : Int64))), .second, .val (.long ((len &&& (9223372036854775807 : Int64)) ^^^ (d &&& (9223372036854775807 : Int64)))), .second, .val (.ref 2), .val (.ref 3), .val (.int ((XT.ushr sel (3 : Int32)) &&& (3 : Int32))), .unset], []), [.inl (.object "java/lang/Long", A), .inr (1, []), .inr (0, [(0, .long id), (1, .long gs), (2, .long (len &&& (9223372036854775807 : Int64)))]), .inr (0, [(0, .long (id ^^^ d)), (1, .long gs), (2, .long ((len &&& (9223372036854775807 : Int64)) ^^^ (d &&& (9223372036854775807 : Int64))))])], 2, 6)
      refine EW.run 2 (cf' := ((189, [.val (.long id), .second, .val (.long gs), .second, .val (.long len), .second, .val (.long d), .second, .val (.long e), .second, .val (.int sel), .val (.long (len &&& (9223372036854775807 : Int64))), .second, .val (.int (1 : Int32)), .val (.int (0 : Int32)), .val (.int (1 : Int32)), .val (.long (id ^^^ d)), .second, .val (.long gs), .second, .val (.long (d &&& (9223372036854775807 : Int64))), .second, .val (.long ((len &&& (9223372036854775807 : Int64)) ^^^ (d &&& (9223372036854775807 : Int64)))), .second, .val (.ref 2), .val (.ref 3), .val (.int ((XT.ushr sel (3 : Int32)) &&& (3 : Int32))), .unset], [.int (3 : Int32), .int ((XT.ushr sel (3 : Int32)) &&& (3 : Int32))]), [.inl (.object "java/lang/Long", A), .inr (1, []), .inr (0, [(0, .long id), (1, .long gs), (2, .long (len &&& (9223372036854775807 : Int64)))]), .inr (0, [(0, .long (id ^^^ d)), (1, .long gs), (2, .long ((len &&& (9223372036854775807 : Int64)) ^^^ (d &&& (9223372036854775807 : Int64))))])], 2, 6)) rfl ?_
      refine EW.icmpP rfl (by decide) (fun h => ?_) (fun h => ?_)
      · have h3 : ((XT.ushr sel (3 : Int32)) &&& (3 : Int32)).toInt ≠ (3 : Int32).toInt := by simp only [cP] at h; omega
        clear h
        show EW _ _ _ _ _ ((200, [.val (.long id), .second, .val (.long gs), .second, .val (.long len), .second, .val (.long d), .second, .val (.long e), .second, .val (.int sel), .val (.long (len &&& (9223372036854775807 : Int64))), .second, .val (.int (1 : Int32)), .val (.int (0 : Int32)), .val (.int (1 : Int32)), .val (.long (id ^^^ d)), .second, .val (.long gs), .second, .val (.long (d &&& (9223372036854775807 : Int64))), .second, .val (.long ((len &&& (9223372036854775807 : Int64)) ^^^ (d &&& (9223372036854775807 : Int64)))), .second, .val (.ref 2), .val (.ref 3), .val (.int ((XT.ushr sel (3 : Int32)) &&& (3 : Int32))), .unset], []), [.inl (.object "java/lang/Long", A), .inr (1, []), .inr (0, [(0, .long id), (1, .long gs), (2, .long (len &&& (9223372036854775807 : Int64)))]), .inr (0, [(0, .long (id ^^^ d)), (1, .long gs), (2, .long ((len &&& (9223372036854775807 : Int64)) ^^^ (d &&& (9223372036854775807 : Int64))))])], 2, 6)
        refine EW.run 5 (cf' := ((209, [.val (.long id), .second, .val (.long gs), .second, .val (.long len), .second, .val (.long d), .second, .val (.long e), .second, .val (.int sel), .val (.long (len &&& (9223372036854775807 : Int64))), .second, .val (.int (1 : Int32)), .val (.int (0 : Int32)), .val (.int (1 : Int32)), .val (.long (id ^^^ d)), .second, .val (.long gs), .second, .val (.long (d &&& (9223372036854775807 : Int64))), .second, .val (.long ((len &&& (9223372036854775807 : Int64)) ^^^ (d &&& (9223372036854775807 : Int64)))), .second, .val (.ref 2), .val (.ref 3), .val (.int ((XT.ushr sel (3 : Int32)) &&& (3 : Int32))), .unset], [.int (XT.cmpL d (0 : Int64))]), [.inl (.object "java/lang/Long", A), .inr (1, []), .inr (0, [(0, .long id), (1, .long gs), (2, .long (len &&& (9223372036854775807 : Int64)))]), .inr (0, [(0, .long (id ^^^ d)), (1, .long gs), (2, .long ((len &&& (9223372036854775807 : Int64)) ^^^ (d &&& (9223372036854775807 : Int64))))])], 2, 6)) rfl ?_
        refine EW.iflP rfl (by decide) (fun h => ?_) (fun h => ?_)
        · have h4 : d.toInt ≠ (0 : Int64).toInt := by simp only [cP] at h; omega
          clear h
          show EW _ _ _ _ _ ((240, [.val (.long id), .second, .val (.long gs), .second, .val (.long len), .second, .val (.long d), .second, .val (.long e), .second, .val (.int sel), .val (.long (len &&& (9223372036854775807 : Int64))), .second, .val (.int (1 : Int32)), .val (.int (0 : Int32)), .val (.int (1 : Int32)), .val (.long (id ^^^ d)), .second, .val (.long gs), .second, .val (.long (d &&& (9223372036854775807 : Int64))), .second, .val (.long ((len &&& (9223372036854775807 : Int64)) ^^^ (d &&& (9223372036854775807 : Int64)))), .second, .val (.ref 2), .val (.ref 3), .val (.int ((XT.ushr sel (3 : Int32)) &&& (3 : Int32))), .unset], []), [.inl (.object "java/lang/Long", A), .inr (1, []), .inr (0, [(0, .long id), (1, .long gs), (2, .long (len &&& (9223372036854775807 : Int64)))]), .inr (0, [(0, .long (id ^^^ d)), (1, .long gs), (2, .long ((len &&& (9223372036854775807 : Int64)) ^^^ (d &&& (9223372036854775807 : Int64))))])], 2, 6)
          refine EW.run 4 (cf' := ((247, [.val (.long id), .second, .val (.long gs), .second, .val (.long len), .second, .val (.long d), .second, .val (.long e), .second, .val (.int sel), .val (.long (len &&& (9223372036854775807 : Int64))), .second, .val (.int (1 : Int32)), .val (.int (0 : Int32)), .val (.int (1 : Int32)), .val (.long (id ^^^ d)), .second, .val (.long gs), .second, .val (.long (d &&& (9223372036854775807 : Int64))), .second, .val (.long ((len &&& (9223372036854775807 : Int64)) ^^^ (d &&& (9223372036854775807 : Int64)))), .second, .val (.ref 2), .val (.ref 3), .val (.int ((XT.ushr sel (3 : Int32)) &&& (3 : Int32))), .val (.int (0 : Int32))], [.ref 3, .ref 2]), [.inl (.object "java/lang/Long", A), .inr (1, []), .inr (0, [(0, .long id), (1, .long gs), (2, .long (len &&& (9223372036854775807 : Int64)))]), .inr (0, [(0, .long (id ^^^ d)), (1, .long gs), (2, .long ((len &&& (9223372036854775807 : Int64)) ^^^ (d &&& (9223372036854775807 : Int64))))])], 2, 6)) rfl ?_
          refine EW.call rfl (weq_23 _ _ A id gs (len &&& (9223372036854775807 : Int64)) (id ^^^ d) gs ((len &&& (9223372036854775807 : Int64)) ^^^ (d &&& (9223372036854775807 : Int64)))) ?_
          rintro _ _ _ _ ⟨z, e0, ⟨rfl, hz⟩ | ⟨rfl, hz⟩⟩
          · cases e0; have h5 := hz; clear hz
            show EW _ _ _ _ _ ((250, [.val (.long id), .second, .val (.long gs), .second, .val (.long len), .second, .val (.long d), .second, .val (.long e), .second, .val (.int sel), .val (.long (len &&& (9223372036854775807 : Int64))), .second, .val (.int (1 : Int32)), .val (.int (0 : Int32)), .val (.int (1 : Int32)), .val (.long (id ^^^ d)), .second, .val (.long gs), .second, .val (.long (d &&& (9223372036854775807 : Int64))), .second, .val (.long ((len &&& (9223372036854775807 : Int64)) ^^^ (d &&& (9223372036854775807 : Int64)))), .second, .val (.ref 2), .val (.ref 3), .val (.int ((XT.ushr sel (3 : Int32)) &&& (3 : Int32))), .val (.int (0 : Int32))], [.int (1 : Int32)]), [.inl (.object "java/lang/Long", A), .inr (1, []), .inr (0, [(0, .long id), (1, .long gs), (2, .long (len &&& (9223372036854775807 : Int64)))]), .inr (0, [(0, .long (id ^^^ d)), (1, .long gs), (2, .long ((len &&& (9223372036854775807 : Int64)) ^^^ (d &&& (9223372036854775807 : Int64))))])], 2, 6)
            refine EW.run 3 (cf' := ((272, [.val (.long id), .second, .val (.long gs), .second, .val (.long len), .second, .val (.long d), .second, .val (.long e), .second, .val (.int sel), .val (.long (len &&& (9223372036854775807 : Int64))), .second, .val (.int (1 : Int32)), .val (.int (0 : Int32)), .val (.int (1 : Int32)), .val (.long (id ^^^ d)), .second, .val (.long gs), .second, .val (.long (d &&& (9223372036854775807 : Int64))), .second, .val (.long ((len &&& (9223372036854775807 : Int64)) ^^^ (d &&& (9223372036854775807 : Int64)))), .second, .val (.ref 2), .val (.ref 3), .val (.int ((XT.ushr sel (3 : Int32)) &&& (3 : Int32))), .val (.int (0 : Int32))], [.int (0 : Int32)]), [.inl (.object "java/lang/Long", A), .inr (1, []), .inr (0, [(0, .long id), (1, .long gs), (2, .long (len &&& (9223372036854775807 : Int64)))]), .inr (0, [(0, .long (id ^^^ d)), (1, .long gs), (2, .long ((len &&& (9223372036854775807 : Int64)) ^^^ (d &&& (9223372036854775807 : Int64))))])], 2, 6)) rfl ?_
            exfalso
            have := rng32 ((XT.ushr sel (3 : Int32)) &&& (3 : Int32))
            have := rng32 (XT.ushr sel (3 : Int32))
            have := rng32 sel
            have lt0 : (3 : Int32).toInt = 3 := by decide
            have : (XT.ushr sel (3 : Int32)).toInt = (sel.toInt % 4294967296) / 8 := c_iushr sel (3 : Int32) 3 (by decide) (by decide)
            have : ((XT.ushr sel (3 : Int32)) &&& (3 : Int32)).toInt = (XT.ushr sel (3 : Int32)).toInt % 4 := c_mask (XT.ushr sel (3 : Int32)) (3 : Int32) 2 (by decide) (by decide)
            have lt1 : (1 : Int32).toInt = 1 := by decide
            have lt2 : (2 : Int32).toInt = 2 := by decide
            have := rng64 d
            have lt3 : (0 : Int64).toInt = 0 := by decide
            have := rng64 (id ^^^ d)
            have := rng64 id
            have := c_xorSL id d
            have := own_xor id d
            have := rng64 ((len &&& (9223372036854775807 : Int64)) ^^^ (d &&& (9223372036854775807 : Int64)))
            have := rng64 (len &&& (9223372036854775807 : Int64))
            have := rng64 len
            have lt4 : (9223372036854775807 : Int64).toInt = 9223372036854775807 := by decide
            have : (len &&& (9223372036854775807 : Int64)).toInt = len.toInt % 9223372036854775808 := c_maskL len (9223372036854775807 : Int64) 63 (by decide) (by decide)
            have := rng64 (d &&& (9223372036854775807 : Int64))
            have : (d &&& (9223372036854775807 : Int64)).toInt = d.toInt % 9223372036854775808 := c_maskL d (9223372036854775807 : Int64) 63 (by decide) (by decide)
            have := c_xorSL (len &&& (9223372036854775807 : Int64)) (d &&& (9223372036854775807 : Int64))
            have := own_xor (len &&& (9223372036854775807 : Int64)) (d &&& (9223372036854775807 : Int64))
            omega
          · cases e0; have h5 := hz; clear hz
            show EW _ _ _ _ _ ((250, [.val (.long id), .second, .val (.long gs), .second, .val (.long len), .second, .val (.long d), .second, .val (.long e), .second, .val (.int sel), .val (.long (len &&& (9223372036854775807 : Int64))), .second, .val (.int (1 : Int32)), .val (.int (0 : Int32)), .val (.int (1 : Int32)), .val (.long (id ^^^ d)), .second, .val (.long gs), .second, .val (.long (d &&& (9223372036854775807 : Int64))), .second, .val (.long ((len &&& (9223372036854775807 : Int64)) ^^^ (d &&& (9223372036854775807 : Int64)))), .second, .val (.ref 2), .val (.ref 3), .val (.int ((XT.ushr sel (3 : Int32)) &&& (3 : Int32))), .val (.int (0 : Int32))], [.int (0 : Int32)]), [.inl (.object "java/lang/Long", A), .inr (1, []), .inr (0, [(0, .long id), (1, .long gs), (2, .long (len &&& (9223372036854775807 : Int64)))]), .inr (0, [(0, .long (id ^^^ d)), (1, .long gs), (2, .long ((len &&& (9223372036854775807 : Int64)) ^^^ (d &&& (9223372036854775807 : Int64))))])], 2, 6)
            refine EW.run 4 (cf' := ((259, [.val (.long id), .second, .val (.long gs), .second, .val (.long len), .second, .val (.long d), .second, .val (.long e), .second, .val (.int sel), .val (.long (len &&& (9223372036854775807 : Int64))), .second, .val (.int (1 : Int32)), .val (.int (0 : Int32)), .val (.int (1 : Int32)), .val (.long (id ^^^ d)), .second, .val (.long gs), .second, .val (.long (d &&& (9223372036854775807 : Int64))), .second, .val (.long ((len &&& (9223372036854775807 : Int64)) ^^^ (d &&& (9223372036854775807 : Int64)))), .second, .val (.ref 2), .val (.ref 3), .val (.int ((XT.ushr sel (3 : Int32)) &&& (3 : Int32))), .val (.int (0 : Int32))], [.ref 2, .ref 3]), [.inl (.object "java/lang/Long", A), .inr (1, []), .inr (0, [(0, .long id), (1, .long gs), (2, .long (len &&& (9223372036854775807 : Int64)))]), .inr (0, [(0, .long (id ^^^ d)), (1, .long gs), (2, .long ((len &&& (9223372036854775807 : Int64)) ^^^ (d &&& (9223372036854775807 : Int64))))])], 2, 6)) rfl ?_
            refine EW.call rfl (weq_32 _ _ A id gs (len &&& (9223372036854775807 : Int64)) (id ^^^ d) gs ((len &&& (9223372036854775807 : Int64)) ^^^ (d &&& (9223372036854775807 : Int64)))) ?_
            rintro _ _ _ _ ⟨z, e0, ⟨rfl, hz⟩ | ⟨rfl, hz⟩⟩
            · cases e0; have h6 := hz; clear hz
              show EW _ _ _ _ _ ((262, [.val (.long id), .second, .val (.long gs), .second, .val (.long len), .second, .val (.long d), .second, .val (.long e), .second, .val (.int sel), .val (.long (len &&& (9223372036854775807 : Int64))), .second, .val (.int (1 : Int32)), .val (.int (0 : Int32)), .val (.int (1 : Int32)), .val (.long (id ^^^ d)), .second, .val (.long gs), .second, .val (.long (d &&& (9223372036854775807 : Int64))), .second, .val (.long ((len &&& (9223372036854775807 : Int64)) ^^^ (d &&& (9223372036854775807 : Int64)))), .second, .val (.ref 2), .val (.ref 3), .val (.int ((XT.ushr sel (3 : Int32)) &&& (3 : Int32))), .val (.int (0 : Int32))], [.int (1 : Int32)]), [.inl (.object "java/lang/Long", A), .inr (1, []), .inr (0, [(0, .long id), (1, .long gs), (2, .long (len &&& (9223372036854775807 : Int64)))]), .inr (0, [(0, .long (id ^^^ d)), (1, .long gs), (2, .long ((len &&& (9223372036854775807 : Int64)) ^^^ (d &&& (9223372036854775807 : Int64))))])], 2, 6)
              refine EW.run 3 (cf' := ((272, [.val (.long id), .second, .val (.long gs), .second, .val (.long len), .second, .val (.long d), .second, .val (.long e), .second, .val (.int sel), .val (.long (len &&& (9223372036854775807 : Int64))), .second, .val (.int (1 : Int32)), .val (.int (0 : Int32)), .val (.int (1 : Int32)), .val (.long (id ^^^ d)), .second, .val (.long gs), .second, .val (.long (d &&& (9223372036854775807 : Int64))), .second, .val (.long ((len &&& (9223372036854775807 : Int64)) ^^^ (d &&& (9223372036854775807 : Int64)))), .second, .val (.ref 2), .val (.ref 3), .val (.int ((XT.ushr sel (3 : Int32)) &&& (3 : Int32))), .val (.int (0 : Int32))], [.int (0 : Int32)]), [.inl (.object "java/lang/Long", A), .inr (1, []), .inr (0, [(0, .long id), (1, .long gs), (2, .long (len &&& (9223372036854775807 : Int64)))]), .inr (0, [(0, .long (id ^^^ d)), (1, .long gs), (2, .long ((len &&& (9223372036854775807 : Int64)) ^^^ (d &&& (9223372036854775807 : Int64))))])], 2, 6)) rfl ?_
              exfalso
              have := rng32 ((XT.ushr sel (3 : Int32)) &&& (3 : Int32))
              have := rng32 (XT.ushr sel (3 : Int32))
              have := rng32 sel
              have lt0 : (3 : Int32).toInt = 3 := by decide
              have : (XT.ushr sel (3 : Int32)).toInt = (sel.toInt % 4294967296) / 8 := c_iushr sel (3 : Int32) 3 (by decide) (by decide)
              have : ((XT.ushr sel (3 : Int32)) &&& (3 : Int32)).toInt = (XT.ushr sel (3 : Int32)).toInt % 4 := c_mask (XT.ushr sel (3 : Int32)) (3 : Int32) 2 (by decide) (by decide)
              have lt1 : (1 : Int32).toInt = 1 := by decide
              have lt2 : (2 : Int32).toInt = 2 := by decide
              have := rng64 d
              have lt3 : (0 : Int64).toInt = 0 := by decide
              have := rng64 (id ^^^ d)
              have := rng64 id
              have := c_xorSL id d
              have := own_xor id d
              have := rng64 ((len &&& (9223372036854775807 : Int64)) ^^^ (d &&& (9223372036854775807 : Int64)))
              have := rng64 (len &&& (9223372036854775807 : Int64))
              have := rng64 len
              have lt4 : (9223372036854775807 : Int64).toInt = 9223372036854775807 := by decide
              have : (len &&& (9223372036854775807 : Int64)).toInt = len.toInt % 9223372036854775808 := c_maskL len (9223372036854775807 : Int64) 63 (by decide) (by decide)
              have := rng64 (d &&& (9223372036854775807 : Int64))
              have : (d &&& (9223372036854775807 : Int64)).toInt = d.toInt % 9223372036854775808 := c_maskL d (9223372036854775807 : Int64) 63 (by decide) (by decide)
              have := c_xorSL (len &&& (9223372036854775807 : Int64)) (d &&& (9223372036854775807 : Int64))
              have := own_xor (len &&& (9223372036854775807 : Int64)) (d &&& (9223372036854775807 : Int64))
              omega
            · cases e0; have h6 := hz; clear hz
              show EW _ _ _ _ _ ((262, [.val (.long id), .second, .val (.long gs), .second, .val (.long len), .second, .val (.long d), .second, .val (.long e), .second, .val (.int sel), .val (.long (len &&& (9223372036854775807 : Int64))), .second, .val (.int (1 : Int32)), .val (.int (0 : Int32)), .val (.int (1 : Int32)), .val (.long (id ^^^ d)), .second, .val (.long gs), .second, .val (.long (d &&& (9223372036854775807 : Int64))), .second, .val (.long ((len &&& (9223372036854775807 : Int64)) ^^^ (d &&& (9223372036854775807 : Int64)))), .second, .val (.ref 2), .val (.ref 3), .val (.int ((XT.ushr sel (3 : Int32)) &&& (3 : Int32))), .val (.int (0 : Int32))], [.int (0 : Int32)]), [.inl (.object "java/lang/Long", A), .inr (1, []), .inr (0, [(0, .long id), (1, .long gs), (2, .long (len &&& (9223372036854775807 : Int64)))]), .inr (0, [(0, .long (id ^^^ d)), (1, .long gs), (2, .long ((len &&& (9223372036854775807 : Int64)) ^^^ (d &&& (9223372036854775807 : Int64))))])], 2, 6)
              refine EW.run 4 (cf' := ((272, [.val (.long id), .second, .val (.long gs), .second, .val (.long len), .second, .val (.long d), .second, .val (.long e), .second, .val (.int sel), .val (.long (len &&& (9223372036854775807 : Int64))), .second, .val (.int (1 : Int32)), .val (.int (0 : Int32)), .val (.int (1 : Int32)), .val (.long (id ^^^ d)), .second, .val (.long gs), .second, .val (.long (d &&& (9223372036854775807 : Int64))), .second, .val (.long ((len &&& (9223372036854775807 : Int64)) ^^^ (d &&& (9223372036854775807 : Int64)))), .second, .val (.ref 2), .val (.ref 3), .val (.int ((XT.ushr sel (3 : Int32)) &&& (3 : Int32))), .val (.int (0 : Int32))], [.int (1 : Int32)]), [.inl (.object "java/lang/Long", A), .inr (1, []), .inr (0, [(0, .long id), (1, .long gs), (2, .long (len &&& (9223372036854775807 : Int64)))]), .inr (0, [(0, .long (id ^^^ d)), (1, .long gs), (2, .long ((len &&& (9223372036854775807 : Int64)) ^^^ (d &&& (9223372036854775807 : Int64))))])], 2, 6)) rfl ?_
              exact EW.ret rfl ⟨rfl, Nat.le_of_ble_eq_true rfl, Nat.le_of_ble_eq_true rfl⟩
        · have h4 : d.toInt = (0 : Int64).toInt := by simp only [cP] at h; omega
          clear h
          show EW _ _ _ _ _ ((212, [.val (.long id), .second, .val (.long gs), .second, .val (.long len), .second, .val (.long d), .second, .val (.long e), .second, .val (.int sel), .val (.long (len &&& (9223372036854775807 : Int64))), .second, .val (.int (1 : Int32)), .val (.int (0 : Int32)), .val (.int (1 : Int32)), .val (.long (id ^^^ d)), .second, .val (.long gs), .second, .val (.long (d &&& (9223372036854775807 : Int64))), .second, .val (.long ((len &&& (9223372036854775807 : Int64)) ^^^ (d &&& (9223372036854775807 : Int64)))), .second, .val (.ref 2), .val (.ref 3), .val (.int ((XT.ushr sel (3 : Int32)) &&& (3 : Int32))), .unset], []), [.inl (.object "java/lang/Long", A), .inr (1, []), .inr (0, [(0, .long id), (1, .long gs), (2, .long (len &&& (9223372036854775807 : Int64)))]), .inr (0, [(0, .long (id ^^^ d)), (1, .long gs), (2, .long ((len &&& (9223372036854775807 : Int64)) ^^^ (d &&& (9223372036854775807 : Int64))))])], 2, 6)
          refine EW.run 6 (cf' := ((232, [.val (.long id), .second, .val (.long gs), .second, .val (.long len), .second, .val (.long d), .second, .val (.long e), .second, .val (.int sel), .val (.long (len &&& (9223372036854775807 : Int64))), .second, .val (.int (1 : Int32)), .val (.int (0 : Int32)), .val (.int (1 : Int32)), .val (.long (id ^^^ d)), .second, .val (.long gs), .second, .val (.long (d &&& (9223372036854775807 : Int64))), .second, .val (.long ((len &&& (9223372036854775807 : Int64)) ^^^ (d &&& (9223372036854775807 : Int64)))), .second, .val (.ref 2), .val (.ref 3), .val (.int ((XT.ushr sel (3 : Int32)) &&& (3 : Int32))), .unset], [.long (0 : Int64), .long (d &&& (9223372036854775807 : Int64))]), [.inl (.object "java/lang/Long", A), .inr (1, []), .inr (0, [(0, .long id), (1, .long gs), (2, .long (len &&& (9223372036854775807 : Int64)))]), .inr (0, [(0, .long (id ^^^ d)), (1, .long gs), (2, .long ((len &&& (9223372036854775807 : Int64)) ^^^ (d &&& (9223372036854775807 : Int64))))])], 2, 6)) rfl ?_
          refine EW.run 1 (cf' := ((233, [.val (.long id), .second, .val (.long gs), .second, .val (.long len), .second, .val (.long d), .second, .val (.long e), .second, .val (.int sel), .val (.long (len &&& (9223372036854775807 : Int64))), .second, .val (.int (1 : Int32)), .val (.int (0 : Int32)), .val (.int (1 : Int32)), .val (.long (id ^^^ d)), .second, .val (.long gs), .second, .val (.long (d &&& (9223372036854775807 : Int64))), .second, .val (.long ((len &&& (9223372036854775807 : Int64)) ^^^ (d &&& (9223372036854775807 : Int64)))), .second, .val (.ref 2), .val (.ref 3), .val (.int ((XT.ushr sel (3 : Int32)) &&& (3 : Int32))), .unset], [.int (XT.cmpL (d &&& (9223372036854775807 : Int64)) (0 : Int64))]), [.inl (.object "java/lang/Long", A), .inr (1, []), .inr (0, [(0, .long id), (1, .long gs), (2, .long (len &&& (9223372036854775807 : Int64)))]), .inr (0, [(0, .long (id ^^^ d)), (1, .long gs), (2, .long ((len &&& (9223372036854775807 : Int64)) ^^^ (d &&& (9223372036854775807 : Int64))))])], 2, 6)) rfl ?_
          refine EW.iflP rfl (by decide) (fun h => ?_) (fun h => ?_)
          · have h7 : (d &&& (9223372036854775807 : Int64)).toInt ≠ (0 : Int64).toInt := by simp only [cP] at h; omega
            clear h
            show EW _ _ _ _ _ ((240, [.val (.long id), .second, .val (.long gs), .second, .val (.long len), .second, .val (.long d), .second, .val (.long e), .second, .val (.int sel), .val (.long (len &&& (9223372036854775807 : Int64))), .second, .val (.int (1 : Int32)), .val (.int (0 : Int32)), .val (.int (1 : Int32)), .val (.long (id ^^^ d)), .second, .val (.long gs), .second, .val (.long (d &&& (9223372036854775807 : Int64))), .second, .val (.long ((len &&& (9223372036854775807 : Int64)) ^^^ (d &&& (9223372036854775807 : Int64)))), .second, .val (.ref 2), .val (.ref 3), .val (.int ((XT.ushr sel (3 : Int32)) &&& (3 : Int32))), .unset], []), [.inl (.object "java/lang/Long", A), .inr (1, []), .inr (0, [(0, .long id), (1, .long gs), (2, .long (len &&& (9223372036854775807 : Int64)))]), .inr (0, [(0, .long (id ^^^ d)), (1, .long gs), (2, .long ((len &&& (9223372036854775807 : Int64)) ^^^ (d &&& (9223372036854775807 : Int64))))])], 2, 6)
            refine EW.run 4 (cf' := ((247, [.val (.long id), .second, .val (.long gs), .second, .val (.long len), .second, .val (.long d), .second, .val (.long e), .second, .val (.int sel), .val (.long (len &&& (9223372036854775807 : Int64))), .second, .val (.int (1 : Int32)), .val (.int (0 : Int32)), .val (.int (1 : Int32)), .val (.long (id ^^^ d)), .second, .val (.long gs), .second, .val (.long (d &&& (9223372036854775807 : Int64))), .second, .val (.long ((len &&& (9223372036854775807 : Int64)) ^^^ (d &&& (9223372036854775807 : Int64)))), .second, .val (.ref 2), .val (.ref 3), .val (.int ((XT.ushr sel (3 : Int32)) &&& (3 : Int32))), .val (.int (0 : Int32))], [.ref 3, .ref 2]), [.inl (.object "java/lang/Long", A), .inr (1, []), .inr (0, [(0, .long id), (1, .long gs), (2, .long (len &&& (9223372036854775807 : Int64)))]), .inr (0, [(0, .long (id ^^^ d)), (1, .long gs), (2, .long ((len &&& (9223372036854775807 : Int64)) ^^^ (d &&& (9223372036854775807 : Int64))))])], 2, 6)) rfl ?_
            refine EW.call rfl (weq_23 _ _ A id gs (len &&& (9223372036854775807 : Int64)) (id ^^^ d) gs ((len &&& (9223372036854775807 : Int64)) ^^^ (d &&& (9223372036854775807 : Int64)))) ?_
            rintro _ _ _ _ ⟨z, e0, ⟨rfl, hz⟩ | ⟨rfl, hz⟩⟩
            · cases e0; have h8 := hz; clear hz
              show EW _ _ _ _ _ ((250, [.val (.long id), .second, .val (.long gs), .second, .val (.long len), .second, .val (.long d), .second, .val (.long e), .second, .val (.int sel), .val (.long (len &&& (9223372036854775807 : Int64))), .second, .val (.int (1 : Int32)), .val (.int (0 : Int32)), .val (.int (1 : Int32)), .val (.long (id ^^^ d)), .second, .val (.long gs), .second, .val (.long (d &&& (9223372036854775807 : Int64))), .second, .val (.long ((len &&& (9223372036854775807 : Int64)) ^^^ (d &&& (9223372036854775807 : Int64)))), .second, .val (.ref 2), .val (.ref 3), .val (.int ((XT.ushr sel (3 : Int32)) &&& (3 : Int32))), .val (.int (0 : Int32))], [.int (1 : Int32)]), [.inl (.object "java/lang/Long", A), .inr (1, []), .inr (0, [(0, .long id), (1, .long gs), (2, .long (len &&& (9223372036854775807 : Int64)))]), .inr (0, [(0, .long (id ^^^ d)), (1, .long gs), (2, .long ((len &&& (9223372036854775807 : Int64)) ^^^ (d &&& (9223372036854775807 : Int64))))])], 2, 6)
              refine EW.run 3 (cf' := ((272, [.val (.long id), .second, .val (.long gs), .second, .val (.long len), .second, .val (.long d), .second, .val (.long e), .second, .val (.int sel), .val (.long (len &&& (9223372036854775807 : Int64))), .second, .val (.int (1 : Int32)), .val (.int (0 : Int32)), .val (.int (1 : Int32)), .val (.long (id ^^^ d)), .second, .val (.long gs), .second, .val (.long (d &&& (9223372036854775807 : Int64))), .second, .val (.long ((len &&& (9223372036854775807 : Int64)) ^^^ (d &&& (9223372036854775807 : Int64)))), .second, .val (.ref 2), .val (.ref 3), .val (.int ((XT.ushr sel (3 : Int32)) &&& (3 : Int32))), .val (.int (0 : Int32))], [.int (0 : Int32)]), [.inl (.object "java/lang/Long", A), .inr (1, []), .inr (0, [(0, .long id), (1, .long gs), (2, .long (len &&& (9223372036854775807 : Int64)))]), .inr (0, [(0, .long (id ^^^ d)), (1, .long gs), (2, .long ((len &&& (9223372036854775807 : Int64)) ^^^ (d &&& (9223372036854775807 : Int64))))])], 2, 6)) rfl ?_
              exfalso
              have := rng32 ((XT.ushr sel (3 : Int32)) &&& (3 : Int32))
              have := rng32 (XT.ushr sel (3 : Int32))
              have := rng32 sel
              have lt0 : (3 : Int32).toInt = 3 := by decide
              have : (XT.ushr sel (3 : Int32)).toInt = (sel.toInt % 4294967296) / 8 := c_iushr sel (3 : Int32) 3 (by decide) (by decide)
              have : ((XT.ushr sel (3 : Int32)) &&& (3 : Int32)).toInt = (XT.ushr sel (3 : Int32)).toInt % 4 := c_mask (XT.ushr sel (3 : Int32)) (3 : Int32) 2 (by decide) (by decide)
              have lt1 : (1 : Int32).toInt = 1 := by decide
              have lt2 : (2 : Int32).toInt = 2 := by decide
              have := rng64 d
              have lt3 : (0 : Int64).toInt = 0 := by decide
              have := rng64 (d &&& (9223372036854775807 : Int64))
              have lt4 : (9223372036854775807 : Int64).toInt = 9223372036854775807 := by decide
              have : (d &&& (9223372036854775807 : Int64)).toInt = d.toInt % 9223372036854775808 := c_maskL d (9223372036854775807 : Int64) 63 (by decide) (by decide)
              have := rng64 (id ^^^ d)
              have := rng64 id
              have := c_xorSL id d
              have := own_xor id d
              have := rng64 ((len &&& (9223372036854775807 : Int64)) ^^^ (d &&& (9223372036854775807 : Int64)))
              have := rng64 (len &&& (9223372036854775807 : Int64))
              have := rng64 len
              have : (len &&& (9223372036854775807 : Int64)).toInt = len.toInt % 9223372036854775808 := c_maskL len (9223372036854775807 : Int64) 63 (by decide) (by decide)
              have := c_xorSL (len &&& (9223372036854775807 : Int64)) (d &&& (9223372036854775807 : Int64))
              have := own_xor (len &&& (9223372036854775807 : Int64)) (d &&& (9223372036854775807 : Int64))
              omega
            · cases e0; have h8 := hz; clear hz
              show EW _ _ _ _ _ ((250, [.val (.long id), .second, .val (.long gs), .second, .val (.long len), .second, .val (.long d), .second, .val (.long e), .second, .val (.int sel), .val (.long (len &&& (9223372036854775807 : Int64))), .second, .val (.int (1 : Int32)), .val (.int (0 : Int32)), .val (.int (1 : Int32)), .val (.long (id ^^^ d)), .second, .val (.long gs), .second, .val (.long (d &&& (9223372036854775807 : Int64))), .second, .val (.long ((len &&& (9223372036854775807 : Int64)) ^^^ (d &&& (9223372036854775807 : Int64)))), .second, .val (.ref 2), .val (.ref 3), .val (.int ((XT.ushr sel (3 : Int32)) &&& (3 : Int32))), .val (.int (0 : Int32))], [.int (0 : Int32)]), [.inl (.object "java/lang/Long", A), .inr (1, []), .inr (0, [(0, .long id), (1, .long gs), (2, .long (len &&& (9223372036854775807 : Int64)))]), .inr (0, [(0, .long (id ^^^ d)), (1, .long gs), (2, .long ((len &&& (9223372036854775807 : Int64)) ^^^ (d &&& (9223372036854775807 : Int64))))])], 2, 6)
              refine EW.run 4 (cf' := ((259, [.val (.long id), .second, .val (.long gs), .second, .val (.long len), .second, .val (.long d), .second, .val (.long e), .second, .val (.int sel), .val (.long (len &&& (9223372036854775807 : Int64))), .second, .val (.int (1 : Int32)), .val (.int (0 : Int32)), .val (.int (1 : Int32)), .val (.long (id ^^^ d)), .second, .val (.long gs), .second, .val (.long (d &&& (9223372036854775807 : Int64))), .second, .val (.long ((len &&& (9223372036854775807 : Int64)) ^^^ (d &&& (9223372036854775807 : Int64)))), .second, .val (.ref 2), .val (.ref 3), .val (.int ((XT.ushr sel (3 : Int32)) &&& (3 : Int32))), .val (.int (0 : Int32))], [.ref 2, .ref 3]), [.inl (.object "java/lang/Long", A), .inr (1, []), .inr (0, [(0, .long id), (1, .long gs), (2, .long (len &&& (9223372036854775807 : Int64)))]), .inr (0, [(0, .long (id ^^^ d)), (1, .long gs), (2, .long ((len &&& (9223372036854775807 : Int64)) ^^^ (d &&& (9223372036854775807 : Int64))))])], 2, 6)) rfl ?_
              refine EW.call rfl (weq_32 _ _ A id gs (len &&& (9223372036854775807 : Int64)) (id ^^^ d) gs ((len &&& (9223372036854775807 : Int64)) ^^^ (d &&& (9223372036854775807 : Int64)))) ?_
              rintro _ _ _ _ ⟨z, e0, ⟨rfl, hz⟩ | ⟨rfl, hz⟩⟩
              · cases e0; have h9 := hz; clear hz
                show EW _ _ _ _ _ ((262, [.val (.long id), .second, .val (.long gs), .second, .val (.long len), .second, .val (.long d), .second, .val (.long e), .second, .val (.int sel), .val (.long (len &&& (9223372036854775807 : Int64))), .second, .val (.int (1 : Int32)), .val (.int (0 : Int32)), .val (.int (1 : Int32)), .val (.long (id ^^^ d)), .second, .val (.long gs), .second, .val (.long (d &&& (9223372036854775807 : Int64))), .second, .val (.long ((len &&& (9223372036854775807 : Int64)) ^^^ (d &&& (9223372036854775807 : Int64)))), .second, .val (.ref 2), .val (.ref 3), .val (.int ((XT.ushr sel (3 : Int32)) &&& (3 : Int32))), .val (.int (0 : Int32))], [.int (1 : Int32)]), [.inl (.object "java/lang/Long", A), .inr (1, []), .inr (0, [(0, .long id), (1, .long gs), (2, .long (len &&& (9223372036854775807 : Int64)))]), .inr (0, [(0, .long (id ^^^ d)), (1, .long gs), (2, .long ((len &&& (9223372036854775807 : Int64)) ^^^ (d &&& (9223372036854775807 : Int64))))])], 2, 6)
                refine EW.run 3 (cf' := ((272, [.val (.long id), .second, .val (.long gs), .second, .val (.long len), .second, .val (.long d), .second, .val (.long e), .second, .val (.int sel), .val (.long (len &&& (9223372036854775807 : Int64))), .second, .val (.int (1 : Int32)), .val (.int (0 : Int32)), .val (.int (1 : Int32)), .val (.long (id ^^^ d)), .second, .val (.long gs), .second, .val (.long (d &&& (9223372036854775807 : Int64))), .second, .val (.long ((len &&& (9223372036854775807 : Int64)) ^^^ (d &&& (9223372036854775807 : Int64)))), .second, .val (.ref 2), .val (.ref 3), .val (.int ((XT.ushr sel (3 : Int32)) &&& (3 : Int32))), .val (.int (0 : Int32))], [.int (0 : Int32)]), [.inl (.object "java/lang/Long", A), .inr (1, []), .inr (0, [(0, .long id), (1, .long gs), (2, .long (len &&& (9223372036854775807 : Int64)))]), .inr (0, [(0, .long (id ^^^ d)), (1, .long gs), (2, .long ((len &&& (9223372036854775807 : Int64)) ^^^ (d &&& (9223372036854775807 : Int64))))])], 2, 6)) rfl ?_
                exfalso
                have := rng32 ((XT.ushr sel (3 : Int32)) &&& (3 : Int32))
                have := rng32 (XT.ushr sel (3 : Int32))
                have := rng32 sel
                have lt0 : (3 : Int32).toInt = 3 := by decide
                have : (XT.ushr sel (3 : Int32)).toInt = (sel.toInt % 4294967296) / 8 := c_iushr sel (3 : Int32) 3 (by decide) (by decide)
                have : ((XT.ushr sel (3 : Int32)) &&& (3 : Int32)).toInt = (XT.ushr sel (3 : Int32)).toInt % 4 := c_mask (XT.ushr sel (3 : Int32)) (3 : Int32) 2 (by decide) (by decide)
                have lt1 : (1 : Int32).toInt = 1 := by decide
                have lt2 : (2 : Int32).toInt = 2 := by decide
                have := rng64 d
                have lt3 : (0 : Int64).toInt = 0 := by decide
                have := rng64 (d &&& (9223372036854775807 : Int64))
                have lt4 : (9223372036854775807 : Int64).toInt = 9223372036854775807 := by decide
                have : (d &&& (9223372036854775807 : Int64)).toInt = d.toInt % 9223372036854775808 := c_maskL d (9223372036854775807 : Int64) 63 (by decide) (by decide)
                have := rng64 (id ^^^ d)
                have := rng64 id
                have := c_xorSL id d
                have := own_xor id d
                have := rng64 ((len &&& (9223372036854775807 : Int64)) ^^^ (d &&& (9223372036854775807 : Int64)))
                have := rng64 (len &&& (9223372036854775807 : Int64))
                have := rng64 len
                have : (len &&& (9223372036854775807 : Int64)).toInt = len.toInt % 9223372036854775808 := c_maskL len (9223372036854775807 : Int64) 63 (by decide) (by decide)
                have := c_xorSL (len &&& (9223372036854775807 : Int64)) (d &&& (9223372036854775807 : Int64))
                have := own_xor (len &&& (9223372036854775807 : Int64)) (d &&& (9223372036854775807 : Int64))
                omega
              · cases e0; have h9 := hz; clear hz
                show EW _ _ _ _ _ ((262, [.val (.long id), .second, .val (.long gs), .second, .val (.long len), .second, .val (.long d), .second, .val (.long e), .second, .val (.int sel), .val (.long (len &&& (9223372036854775807 : Int64))), .second, .val (.int (1 : Int32)), .val (.int (0 : Int32)), .val (.int (1 : Int32)), .val (.long (id ^^^ d)), .second, .val (.long gs), .second, .val (.long (d &&& (9223372036854775807 : Int64))), .second, .val (.long ((len &&& (9223372036854775807 : Int64)) ^^^ (d &&& (9223372036854775807 : Int64)))), .second, .val (.ref 2), .val (.ref 3), .val (.int ((XT.ushr sel (3 : Int32)) &&& (3 : Int32))), .val (.int (0 : Int32))], [.int (0 : Int32)]), [.inl (.object "java/lang/Long", A), .inr (1, []), .inr (0, [(0, .long id), (1, .long gs), (2, .long (len &&& (9223372036854775807 : Int64)))]), .inr (0, [(0, .long (id ^^^ d)), (1, .long gs), (2, .long ((len &&& (9223372036854775807 : Int64)) ^^^ (d &&& (9223372036854775807 : Int64))))])], 2, 6)
                refine EW.run 4 (cf' := ((272, [.val (.long id), .second, .val (.long gs), .second, .val (.long len), .second, .val (.long d), .second, .val (.long e), .second, .val (.int sel), .val (.long (len &&& (9223372036854775807 : Int64))), .second, .val (.int (1 : Int32)), .val (.int (0 : Int32)), .val (.int (1 : Int32)), .val (.long (id ^^^ d)), .second, .val (.long gs), .second, .val (.long (d &&& (9223372036854775807 : Int64))), .second, .val (.long ((len &&& (9223372036854775807 : Int64)) ^^^ (d &&& (9223372036854775807 : Int64)))), .second, .val (.ref 2), .val (.ref 3), .val (.int ((XT.ushr sel (3 : Int32)) &&& (3 : Int32))), .val (.int (0 : Int32))], [.int (1 : Int32)]), [.inl (.object "java/lang/Long", A), .inr (1, []), .inr (0, [(0, .long id), (1, .long gs), (2, .long (len &&& (9223372036854775807 : Int64)))]), .inr (0, [(0, .long (id ^^^ d)), (1, .long gs), (2, .long ((len &&& (9223372036854775807 : Int64)) ^^^ (d &&& (9223372036854775807 : Int64))))])], 2, 6)) rfl ?_
                exact EW.ret rfl ⟨rfl, Nat.le_of_ble_eq_true rfl, Nat.le_of_ble_eq_true rfl⟩
          · have h7 : (d &&& (9223372036854775807 : Int64)).toInt = (0 : Int64).toInt := by simp only [cP] at h; omega
            clear h
            show EW _ _ _ _ _ ((236, [.val (.long id), .second, .val (.long gs), .second, .val (.long len), .second, .val (.long d), .second, .val (.long e), .second, .val (.int sel), .val (.long (len &&& (9223372036854775807 : Int64))), .second, .val (.int (1 : Int32)), .val (.int (0 : Int32)), .val (.int (1 : Int32)), .val (.long (id ^^^ d)), .second, .val (.long gs), .second, .val (.long (d &&& (9223372036854775807 : Int64))), .second, .val (.long ((len &&& (9223372036854775807 : Int64)) ^^^ (d &&& (9223372036854775807 : Int64)))), .second, .val (.ref 2), .val (.ref 3), .val (.int ((XT.ushr sel (3 : Int32)) &&& (3 : Int32))), .unset], []), [.inl (.object "java/lang/Long", A), .inr (1, []), .inr (0, [(0, .long id), (1, .long gs), (2, .long (len &&& (9223372036854775807 : Int64)))]), .inr (0, [(0, .long (id ^^^ d)), (1, .long gs), (2, .long ((len &&& (9223372036854775807 : Int64)) ^^^ (d &&& (9223372036854775807 : Int64))))])], 2, 6)
            refine EW.run 5 (cf' := ((247, [.val (.long id), .second, .val (.long gs), .second, .val (.long len), .second, .val (.long d), .second, .val (.long e), .second, .val (.int sel), .val (.long (len &&& (9223372036854775807 : Int64))), .second, .val (.int (1 : Int32)), .val (.int (0 : Int32)), .val (.int (1 : Int32)), .val (.long (id ^^^ d)), .second, .val (.long gs), .second, .val (.long (d &&& (9223372036854775807 : Int64))), .second, .val (.long ((len &&& (9223372036854775807 : Int64)) ^^^ (d &&& (9223372036854775807 : Int64)))), .second, .val (.ref 2), .val (.ref 3), .val (.int ((XT.ushr sel (3 : Int32)) &&& (3 : Int32))), .val (.int (1 : Int32))], [.ref 3, .ref 2]), [.inl (.object "java/lang/Long", A), .inr (1, []), .inr (0, [(0, .long id), (1, .long gs), (2, .long (len &&& (9223372036854775807 : Int64)))]), .inr (0, [(0, .long (id ^^^ d)), (1, .long gs), (2, .long ((len &&& (9223372036854775807 : Int64)) ^^^ (d &&& (9223372036854775807 : Int64))))])], 2, 6)) rfl ?_
            refine EW.call rfl (weq_23 _ _ A id gs (len &&& (9223372036854775807 : Int64)) (id ^^^ d) gs ((len &&& (9223372036854775807 : Int64)) ^^^ (d &&& (9223372036854775807 : Int64)))) ?_
            rintro _ _ _ _ ⟨z, e0, ⟨rfl, hz⟩ | ⟨rfl, hz⟩⟩
            · cases e0; have h10 := hz; clear hz
              show EW _ _ _ _ _ ((250, [.val (.long id), .second, .val (.long gs), .second, .val (.long len), .second, .val (.long d), .second, .val (.long e), .second, .val (.int sel), .val (.long (len &&& (9223372036854775807 : Int64))), .second, .val (.int (1 : Int32)), .val (.int (0 : Int32)), .val (.int (1 : Int32)), .val (.long (id ^^^ d)), .second, .val (.long gs), .second, .val (.long (d &&& (9223372036854775807 : Int64))), .second, .val (.long ((len &&& (9223372036854775807 : Int64)) ^^^ (d &&& (9223372036854775807 : Int64)))), .second, .val (.ref 2), .val (.ref 3), .val (.int ((XT.ushr sel (3 : Int32)) &&& (3 : Int32))), .val (.int (1 : Int32))], [.int (1 : Int32)]), [.inl (.object "java/lang/Long", A), .inr (1, []), .inr (0, [(0, .long id), (1, .long gs), (2, .long (len &&& (9223372036854775807 : Int64)))]), .inr (0, [(0, .long (id ^^^ d)), (1, .long gs), (2, .long ((len &&& (9223372036854775807 : Int64)) ^^^ (d &&& (9223372036854775807 : Int64))))])], 2, 6)
              refine EW.run 4 (cf' := ((259, [.val (.long id), .second, .val (.long gs), .second, .val (.long len), .second, .val (.long d), .second, .val (.long e), .second, .val (.int sel), .val (.long (len &&& (9223372036854775807 : Int64))), .second, .val (.int (1 : Int32)), .val (.int (0 : Int32)), .val (.int (1 : Int32)), .val (.long (id ^^^ d)), .second, .val (.long gs), .second, .val (.long (d &&& (9223372036854775807 : Int64))), .second, .val (.long ((len &&& (9223372036854775807 : Int64)) ^^^ (d &&& (9223372036854775807 : Int64)))), .second, .val (.ref 2), .val (.ref 3), .val (.int ((XT.ushr sel (3 : Int32)) &&& (3 : Int32))), .val (.int (1 : Int32))], [.ref 2, .ref 3]), [.inl (.object "java/lang/Long", A), .inr (1, []), .inr (0, [(0, .long id), (1, .long gs), (2, .long (len &&& (9223372036854775807 : Int64)))]), .inr (0, [(0, .long (id ^^^ d)), (1, .long gs), (2, .long ((len &&& (9223372036854775807 : Int64)) ^^^ (d &&& (9223372036854775807 : Int64))))])], 2, 6)) rfl ?_
              refine EW.call rfl (weq_32 _ _ A id gs (len &&& (9223372036854775807 : Int64)) (id ^^^ d) gs ((len &&& (9223372036854775807 : Int64)) ^^^ (d &&& (9223372036854775807 : Int64)))) ?_
              rintro _ _ _ _ ⟨z, e0, ⟨rfl, hz⟩ | ⟨rfl, hz⟩⟩
              · cases e0; have h11 := hz; clear hz
                show EW _ _ _ _ _ ((262, [.val (.long id), .second, .val (.long gs), .second, .val (.long len), .second, .val (.long d), .second, .val (.long e), .second, .val (.int sel), .val (.long (len &&& (9223372036854775807 : Int64))), .second, .val (.int (1 : Int32)), .val (.int (0 : Int32)), .val (.int (1 : Int32)), .val (.long (id ^^^ d)), .second, .val (.long gs), .second, .val (.long (d &&& (9223372036854775807 : Int64))), .second, .val (.long ((len &&& (9223372036854775807 : Int64)) ^^^ (d &&& (9223372036854775807 : Int64)))), .second, .val (.ref 2), .val (.ref 3), .val (.int ((XT.ushr sel (3 : Int32)) &&& (3 : Int32))), .val (.int (1 : Int32))], [.int (1 : Int32)]), [.inl (.object "java/lang/Long", A), .inr (1, []), .inr (0, [(0, .long id), (1, .long gs), (2, .long (len &&& (9223372036854775807 : Int64)))]), .inr (0, [(0, .long (id ^^^ d)), (1, .long gs), (2, .long ((len &&& (9223372036854775807 : Int64)) ^^^ (d &&& (9223372036854775807 : Int64))))])], 2, 6)
                refine EW.run 4 (cf' := ((272, [.val (.long id), .second, .val (.long gs), .second, .val (.long len), .second, .val (.long d), .second, .val (.long e), .second, .val (.int sel), .val (.long (len &&& (9223372036854775807 : Int64))), .second, .val (.int (1 : Int32)), .val (.int (0 : Int32)), .val (.int (1 : Int32)), .val (.long (id ^^^ d)), .second, .val (.long gs), .second, .val (.long (d &&& (9223372036854775807 : Int64))), .second, .val (.long ((len &&& (9223372036854775807 : Int64)) ^^^ (d &&& (9223372036854775807 : Int64)))), .second, .val (.ref 2), .val (.ref 3), .val (.int ((XT.ushr sel (3 : Int32)) &&& (3 : Int32))), .val (.int (1 : Int32))], [.int (1 : Int32)]), [.inl (.object "java/lang/Long", A), .inr (1, []), .inr (0, [(0, .long id), (1, .long gs), (2, .long (len &&& (9223372036854775807 : Int64)))]), .inr (0, [(0, .long (id ^^^ d)), (1, .long gs), (2, .long ((len &&& (9223372036854775807 : Int64)) ^^^ (d &&& (9223372036854775807 : Int64))))])], 2, 6)) rfl ?_
                exact EW.ret rfl ⟨rfl, Nat.le_of_ble_eq_true rfl, Nat.le_of_ble_eq_true rfl⟩
              · cases e0; have h11 := hz; clear hz
                show EW _ _ _ _ _ ((262, [.val (.long id), .second, .val (.long gs), .second, .val (.long len), .second, .val (.long d), .second, .val (.long e), .second, .val (.int sel), .val (.long (len &&& (9223372036854775807 : Int64))), .second, .val (.int (1 : Int32)), .val (.int (0 : Int32)), .val (.int (1 : Int32)), .val (.long (id ^^^ d)), .second, .val (.long gs), .second, .val (.long (d &&& (9223372036854775807 : Int64))), .second, .val (.long ((len &&& (9223372036854775807 : Int64)) ^^^ (d &&& (9223372036854775807 : Int64)))), .second, .val (.ref 2), .val (.ref 3), .val (.int ((XT.ushr sel (3 : Int32)) &&& (3 : Int32))), .val (.int (1 : Int32))], [.int (0 : Int32)]), [.inl (.object "java/lang/Long", A), .inr (1, []), .inr (0, [(0, .long id), (1, .long gs), (2, .long (len &&& (9223372036854775807 : Int64)))]), .inr (0, [(0, .long (id ^^^ d)), (1, .long gs), (2, .long ((len &&& (9223372036854775807 : Int64)) ^^^ (d &&& (9223372036854775807 : Int64))))])], 2, 6)
                refine EW.run 3 (cf' := ((272, [.val (.long id), .second, .val (.long gs), .second, .val (.long len), .second, .val (.long d), .second, .val (.long e), .second, .val (.int sel), .val (.long (len &&& (9223372036854775807 : Int64))), .second, .val (.int (1 : Int32)), .val (.int (0 : Int32)), .val (.int (1 : Int32)), .val (.long (id ^^^ d)), .second, .val (.long gs), .second, .val (.long (d &&& (9223372036854775807 : Int64))), .second, .val (.long ((len &&& (9223372036854775807 : Int64)) ^^^ (d &&& (9223372036854775807 : Int64)))), .second, .val (.ref 2), .val (.ref 3), .val (.int ((XT.ushr sel (3 : Int32)) &&& (3 : Int32))), .val (.int (1 : Int32))], [.int (0 : Int32)]), [.inl (.object "java/lang/Long", A), .inr (1, []), .inr (0, [(0, .long id), (1, .long gs), (2, .long (len &&& (9223372036854775807 : Int64)))]), .inr (0, [(0, .long (id ^^^ d)), (1, .long gs), (2, .long ((len &&& (9223372036854775807 : Int64)) ^^^ (d &&& (9223372036854775807 : Int64))))])], 2, 6)) rfl ?_
                exfalso
                have := rng32 ((XT.ushr sel (3 : Int32)) &&& (3 : Int32))
                have := rng32 (XT.ushr sel (3 : Int32))
                have := rng32 sel
                have lt0 : (3 : Int32).toInt = 3 := by decide
                have : (XT.ushr sel (3 : Int32)).toInt = (sel.toInt % 4294967296) / 8 := c_iushr sel (3 : Int32) 3 (by decide) (by decide)
                have : ((XT.ushr sel (3 : Int32)) &&& (3 : Int32)).toInt = (XT.ushr sel (3 : Int32)).toInt % 4 := c_mask (XT.ushr sel (3 : Int32)) (3 : Int32) 2 (by decide) (by decide)
                have lt1 : (1 : Int32).toInt = 1 := by decide
                have lt2 : (2 : Int32).toInt = 2 := by decide
                have := rng64 d
                have lt3 : (0 : Int64).toInt = 0 := by decide
                have := rng64 (d &&& (9223372036854775807 : Int64))
                have lt4 : (9223372036854775807 : Int64).toInt = 9223372036854775807 := by decide
                have : (d &&& (9223372036854775807 : Int64)).toInt = d.toInt % 9223372036854775808 := c_maskL d (9223372036854775807 : Int64) 63 (by decide) (by decide)
                have := rng64 (id ^^^ d)
                have := rng64 id
                have := c_xorSL id d
                have := own_xor id d
                have := rng64 ((len &&& (9223372036854775807 : Int64)) ^^^ (d &&& (9223372036854775807 : Int64)))
                have := rng64 (len &&& (9223372036854775807 : Int64))
                have := rng64 len
                have : (len &&& (9223372036854775807 : Int64)).toInt = len.toInt % 9223372036854775808 := c_maskL len (9223372036854775807 : Int64) 63 (by decide) (by decide)
                have := c_xorSL (len &&& (9223372036854775807 : Int64)) (d &&& (9223372036854775807 : Int64))
                have := own_xor (len &&& (9223372036854775807 : Int64)) (d &&& (9223372036854775807 : Int64))
                omega
            · cases e0; have h10 := hz; clear hz
              show EW _ _ _ _ _ ((250, [.val (.long id), .second, .val (.long gs), .second, .val (.long len), .second, .val (.long d), .second, .val (.long e), .second, .val (.int sel), .val (.long (len &&& (9223372036854775807 : Int64))), .second, .val (.int (1 : Int32)), .val (.int (0 : Int32)), .val (.int (1 : Int32)), .val (.long (id ^^^ d)), .second, .val (.long gs), .second, .val (.long (d &&& (9223372036854775807 : Int64))), .second, .val (.long ((len &&& (9223372036854775807 : Int64)) ^^^ (d &&& (9223372036854775807 : Int64)))), .second, .val (.ref 2), .val (.ref 3), .val (.int ((XT.ushr sel (3 : Int32)) &&& (3 : Int32))), .val (.int (1 : Int32))], [.int (0 : Int32)]), [.inl (.object "java/lang/Long", A), .inr (1, []), .inr (0, [(0, .long id), (1, .long gs), (2, .long (len &&& (9223372036854775807 : Int64)))]), .inr (0, [(0, .long (id ^^^ d)), (1, .long gs), (2, .long ((len &&& (9223372036854775807 : Int64)) ^^^ (d &&& (9223372036854775807 : Int64))))])], 2, 6)
              refine EW.run 3 (cf' := ((272, [.val (.long id), .second, .val (.long gs), .second, .val (.long len), .second, .val (.long d), .second, .val (.long e), .second, .val (.int sel), .val (.long (len &&& (9223372036854775807 : Int64))), .second, .val (.int (1 : Int32)), .val (.int (0 : Int32)), .val (.int (1 : Int32)), .val (.long (id ^^^ d)), .second, .val (.long gs), .second, .val (.long (d &&& (9223372036854775807 : Int64))), .second, .val (.long ((len &&& (9223372036854775807 : Int64)) ^^^ (d &&& (9223372036854775807 : Int64)))), .second, .val (.ref 2), .val (.ref 3), .val (.int ((XT.ushr sel (3 : Int32)) &&& (3 : Int32))), .val (.int (1 : Int32))], [.int (0 : Int32)]), [.inl (.object "java/lang/Long", A), .inr (1, []), .inr (0, [(0, .long id), (1, .long gs), (2, .long (len &&& (9223372036854775807 : Int64)))]), .inr (0, [(0, .long (id ^^^ d)), (1, .long gs), (2, .long ((len &&& (9223372036854775807 : Int64)) ^^^ (d &&& (9223372036854775807 : Int64))))])], 2, 6)) rfl ?_
              exfalso
              have := rng32 ((XT.ushr sel (3 : Int32)) &&& (3 : Int32))
              have := rng32 (XT.ushr sel (3 : Int32))
              have := rng32 sel
              have lt0 : (3 : Int32).toInt = 3 := by decide
              have : (XT.ushr sel (3 : Int32)).toInt = (sel.toInt % 4294967296) / 8 := c_iushr sel (3 : Int32) 3 (by decide) (by decide)
              have : ((XT.ushr sel (3 : Int32)) &&& (3 : Int32)).toInt = (XT.ushr sel (3 : Int32)).toInt % 4 := c_mask (XT.ushr sel (3 : Int32)) (3 : Int32) 2 (by decide) (by decide)
              have lt1 : (1 : Int32).toInt = 1 := by decide
              have lt2 : (2 : Int32).toInt = 2 := by decide
              have := rng64 d
              have lt3 : (0 : Int64).toInt = 0 := by decide
              have := rng64 (d &&& (9223372036854775807 : Int64))
              have lt4 : (9223372036854775807 : Int64).toInt = 9223372036854775807 := by decide
              have : (d &&& (9223372036854775807 : Int64)).toInt = d.toInt % 9223372036854775808 := c_maskL d (9223372036854775807 : Int64) 63 (by decide) (by decide)
              have := rng64 (id ^^^ d)
              have := rng64 id
              have := c_xorSL id d
              have := own_xor id d
              have := rng64 ((len &&& (9223372036854775807 : Int64)) ^^^ (d &&& (9223372036854775807 : Int64)))
              have := rng64 (len &&& (9223372036854775807 : Int64))
              have := rng64 len
              have : (len &&& (9223372036854775807 : Int64)).toInt = len.toInt % 9223372036854775808 := c_maskL len (9223372036854775807 : Int64) 63 (by decide) (by decide)
              have := c_xorSL (len &&& (9223372036854775807 : Int64)) (d &&& (9223372036854775807 : Int64))
              have := own_xor (len &&& (9223372036854775807 : Int64)) (d &&& (9223372036854775807 : Int64))
              omega
      · have h3 : ((XT.ushr sel (3 : Int32)) &&& (3 : Int32)).toInt = (3 : Int32).toInt := by simp only [cP] at h; omega
        clear h
        show EW _ _ _ _ _ ((192, [.val (.long id), .second, .val (.long gs), .second, .val (.long len), .second, .val (.long d), .second, .val (.long e), .second, .val (.int sel), .val (.long (len &&& (9223372036854775807 : Int64))), .second, .val (.int (1 : Int32)), .val (.int (0 : Int32)), .val (.int (1 : Int32)), .val (.long (id ^^^ d)), .second, .val (.long gs), .second, .val (.long (d &&& (9223372036854775807 : Int64))), .second, .val (.long ((len &&& (9223372036854775807 : Int64)) ^^^ (d &&& (9223372036854775807 : Int64)))), .second, .val (.ref 2), .val (.ref 3), .val (.int ((XT.ushr sel (3 : Int32)) &&& (3 : Int32))), .unset], []), [.inl (.object "java/lang/Long", A), .inr (1, []), .inr (0, [(0, .long id), (1, .long gs), (2, .long (len &&& (9223372036854775807 : Int64)))]), .inr (0, [(0, .long (id ^^^ d)), (1, .long gs), (2, .long ((len &&& (9223372036854775807 : Int64)) ^^^ (d &&& (9223372036854775807 : Int64))))])], 2, 6)
        refine EW.run 2 (cf' := ((196, [.val (.long id), .second, .val (.long gs), .second, .val (.long len), .second, .val (.long d), .second, .val (.long e), .second, .val (.int sel), .val (.long (len &&& (9223372036854775807 : Int64))), .second, .val (.int (1 : Int32)), .val (.int (0 : Int32)), .val (.int (1 : Int32)), .val (.long (id ^^^ d)), .second, .val (.long gs), .second, .val (.long (d &&& (9223372036854775807 : Int64))), .second, .val (.long ((len &&& (9223372036854775807 : Int64)) ^^^ (d &&& (9223372036854775807 : Int64)))), .second, .val (.ref 2), .val (.ref 3), .val (.int ((XT.ushr sel (3 : Int32)) &&& (3 : Int32))), .unset], [.ref 2, .ref 2]), [.inl (.object "java/lang/Long", A), .inr (1, []), .inr (0, [(0, .long id), (1, .long gs), (2, .long (len &&& (9223372036854775807 : Int64)))]), .inr (0, [(0, .long (id ^^^ d)), (1, .long gs), (2, .long ((len &&& (9223372036854775807 : Int64)) ^^^ (d &&& (9223372036854775807 : Int64))))])], 2, 6)) rfl ?_
        refine EW.call rfl (weq_22 _ _ A id gs (len &&& (9223372036854775807 : Int64)) (id ^^^ d) gs ((len &&& (9223372036854775807 : Int64)) ^^^ (d &&& (9223372036854775807 : Int64)))) ?_
        rintro _ _ _ _ ⟨z, e0, ⟨rfl, hz⟩ | ⟨rfl, hz⟩⟩
        · cases e0; have h12 := hz; clear hz
          show EW _ _ _ _ _ ((199, [.val (.long id), .second, .val (.long gs), .second, .val (.long len), .second, .val (.long d), .second, .val (.long e), .second, .val (.int sel), .val (.long (len &&& (9223372036854775807 : Int64))), .second, .val (.int (1 : Int32)), .val (.int (0 : Int32)), .val (.int (1 : Int32)), .val (.long (id ^^^ d)), .second, .val (.long gs), .second, .val (.long (d &&& (9223372036854775807 : Int64))), .second, .val (.long ((len &&& (9223372036854775807 : Int64)) ^^^ (d &&& (9223372036854775807 : Int64)))), .second, .val (.ref 2), .val (.ref 3), .val (.int ((XT.ushr sel (3 : Int32)) &&& (3 : Int32))), .unset], [.int (1 : Int32)]), [.inl (.object "java/lang/Long", A), .inr (1, []), .inr (0, [(0, .long id), (1, .long gs), (2, .long (len &&& (9223372036854775807 : Int64)))]), .inr (0, [(0, .long (id ^^^ d)), (1, .long gs), (2, .long ((len &&& (9223372036854775807 : Int64)) ^^^ (d &&& (9223372036854775807 : Int64))))])], 2, 6)
          exact EW.ret rfl ⟨rfl, Nat.le_of_ble_eq_true rfl, Nat.le_of_ble_eq_true rfl⟩
        · cases e0; have h12 := hz; clear hz
          show EW _ _ _ _ _ ((199, [.val (.long id), .second, .val (.long gs), .second, .val (.long len), .second, .val (.long d), .second, .val (.long e), .second, .val (.int sel), .val (.long (len &&& (9223372036854775807 : Int64))), .second, .val (.int (1 : Int32)), .val (.int (0 : Int32)), .val (.int (1 : Int32)), .val (.long (id ^^^ d)), .second, .val (.long gs), .second, .val (.long (d &&& (9223372036854775807 : Int64))), .second, .val (.long ((len &&& (9223372036854775807 : Int64)) ^^^ (d &&& (9223372036854775807 : Int64)))), .second, .val (.ref 2), .val (.ref 3), .val (.int ((XT.ushr sel (3 : Int32)) &&& (3 : Int32))), .unset], [.int (0 : Int32)]), [.inl (.object "java/lang/Long", A), .inr (1, []), .inr (0, [(0, .long id), (1, .long gs), (2, .long (len &&& (9223372036854775807 : Int64)))]), .inr (0, [(0, .long (id ^^^ d)), (1, .long gs), (2, .long ((len &&& (9223372036854775807 : Int64)) ^^^ (d &&& (9223372036854775807 : Int64))))])], 2, 6)
          exfalso
          have := rng32 ((XT.ushr sel (3 : Int32)) &&& (3 : Int32))
          have := rng32 (XT.ushr sel (3 : Int32))
          have := rng32 sel
          have lt0 : (3 : Int32).toInt = 3 := by decide
          have : (XT.ushr sel (3 : Int32)).toInt = (sel.toInt % 4294967296) / 8 := c_iushr sel (3 : Int32) 3 (by decide) (by decide)
          have : ((XT.ushr sel (3 : Int32)) &&& (3 : Int32)).toInt = (XT.ushr sel (3 : Int32)).toInt % 4 := c_mask (XT.ushr sel (3 : Int32)) (3 : Int32) 2 (by decide) (by decide)
          have lt1 : (1 : Int32).toInt = 1 := by decide
          have lt2 : (2 : Int32).toInt = 2 := by decide
          have := rng64 (id ^^^ d)
          have := rng64 id
          have := rng64 d
          have := c_xorSL id d
          have := own_xor id d
          have := rng64 ((len &&& (9223372036854775807 : Int64)) ^^^ (d &&& (9223372036854775807 : Int64)))
          have := rng64 (len &&& (9223372036854775807 : Int64))
          have := rng64 len
          have lt3 : (9223372036854775807 : Int64).toInt = 9223372036854775807 := by decide
          have : (len &&& (9223372036854775807 : Int64)).toInt = len.toInt % 9223372036854775808 := c_maskL len (9223372036854775807 : Int64) 63 (by decide) (by decide)
          have := rng64 (d &&& (9223372036854775807 : Int64))
          have : (d &&& (9223372036854775807 : Int64)).toInt = d.toInt % 9223372036854775808 := c_maskL d (9223372036854775807 : Int64) 63 (by decide) (by decide)
          have := c_xorSL (len &&& (9223372036854775807 : Int64)) (d &&& (9223372036854775807 : Int64))
          have := own_xor (len &&& (9223372036854775807 : Int64)) (d &&& (9223372036854775807 : Int64))
          omega
    · have h2 : ((XT.ushr sel (3 : Int32)) &&& (3 : Int32)).toInt = (2 : Int32).toInt := by simp only [cP] at h; omega
      clear h
      show EW _ _ _ _ _ ((171, [.val (.long id), .second, .val (.long gs), .second, .val (.long len), .second, .val (.long d), .second, .val (.long e), .second, .val (.int sel), .val (.long (len &&& (9223372036854775807 : Int64))), .second, .val (.int (1 : Int32)), .val (.int (0 : Int32)), .val (.int (1 : Int32)), .val (.long (id ^^^ d)), .second, .val (.long gs), .second, .val (.long (d &&& (9223372036854775807 : Int64))), .second, .val (.long ((len &&& (9223372036854775807 : Int64)) ^^^ (d &&& (9223372036854775807 : Int64)))), .second, .val (.ref 2), .val (.ref 3), .val (.int ((XT.ushr sel (3 : Int32)) &&& (3 : Int32))), .unset], []), [.inl (.object "java/lang/Long", A), .inr (1, []), .inr (0, [(0, .long id), (1, .long gs), (2, .long (len &&& (9223372036854775807 : Int64)))]), .inr (0, [(0, .long (id ^^^ d)), (1, .long gs), (2, .long ((len &&& (9223372036854775807 : Int64)) ^^^ (d &&& (9223372036854775807 : Int64))))])], 2, 6)
      refine EW.run 2 (cf' := ((174, [.val (.long id), .second, .val (.long gs), .second, .val (.long len), .second, .val (.long d), .second, .val (.long e), .second, .val (.int sel), .val (.long (len &&& (9223372036854775807 : Int64))), .second, .val (.int (1 : Int32)), .val (.int (0 : Int32)), .val (.int (1 : Int32)), .val (.long (id ^^^ d)), .second, .val (.long gs), .second, .val (.long (d &&& (9223372036854775807 : Int64))), .second, .val (.long ((len &&& (9223372036854775807 : Int64)) ^^^ (d &&& (9223372036854775807 : Int64)))), .second, .val (.ref 2), .val (.ref 3), .val (.int ((XT.ushr sel (3 : Int32)) &&& (3 : Int32))), .unset], [.null, .ref 2]), [.inl (.object "java/lang/Long", A), .inr (1, []), .inr (0, [(0, .long id), (1, .long gs), (2, .long (len &&& (9223372036854775807 : Int64)))]), .inr (0, [(0, .long (id ^^^ d)), (1, .long gs), (2, .long ((len &&& (9223372036854775807 : Int64)) ^^^ (d &&& (9223372036854775807 : Int64))))])], 2, 6)) rfl ?_
      refine EW.call (Qc := fun r => r = (some (.int (0 : Int32)), [.inl (.object "java/lang/Long", A), .inr (1, []), .inr (0, [(0, .long id), (1, .long gs), (2, .long (len &&& (9223372036854775807 : Int64)))]), .inr (0, [(0, .long (id ^^^ d)), (1, .long gs), (2, .long ((len &&& (9223372036854775807 : Int64)) ^^^ (d &&& (9223372036854775807 : Int64))))])], 0, 0)) rfl ?_ ?_
      · show EW _ _ _ _ _ ((0, [.val (.ref 2), .val (.null), .unset], []), [.inl (.object "java/lang/Long", A), .inr (1, []), .inr (0, [(0, .long id), (1, .long gs), (2, .long (len &&& (9223372036854775807 : Int64)))]), .inr (0, [(0, .long (id ^^^ d)), (1, .long gs), (2, .long ((len &&& (9223372036854775807 : Int64)) ^^^ (d &&& (9223372036854775807 : Int64))))])], 0, 0)
        refine EW.run 4 (cf' := ((8, [.val (.ref 2), .val (.null), .unset], [.int (0 : Int32)]), [.inl (.object "java/lang/Long", A), .inr (1, []), .inr (0, [(0, .long id), (1, .long gs), (2, .long (len &&& (9223372036854775807 : Int64)))]), .inr (0, [(0, .long (id ^^^ d)), (1, .long gs), (2, .long ((len &&& (9223372036854775807 : Int64)) ^^^ (d &&& (9223372036854775807 : Int64))))])], 0, 0)) rfl ?_
        exact EW.ret rfl rfl
      rintro _ _ _ _ ⟨⟩
      show EW _ _ _ _ _ ((177, [.val (.long id), .second, .val (.long gs), .second, .val (.long len), .second, .val (.long d), .second, .val (.long e), .second, .val (.int sel), .val (.long (len &&& (9223372036854775807 : Int64))), .second, .val (.int (1 : Int32)), .val (.int (0 : Int32)), .val (.int (1 : Int32)), .val (.long (id ^^^ d)), .second, .val (.long gs), .second, .val (.long (d &&& (9223372036854775807 : Int64))), .second, .val (.long ((len &&& (9223372036854775807 : Int64)) ^^^ (d &&& (9223372036854775807 : Int64)))), .second, .val (.ref 2), .val (.ref 3), .val (.int ((XT.ushr sel (3 : Int32)) &&& (3 : Int32))), .unset], [.int (0 : Int32)]), [.inl (.object "java/lang/Long", A), .inr (1, []), .inr (0, [(0, .long id), (1, .long gs), (2, .long (len &&& (9223372036854775807 : Int64)))]), .inr (0, [(0, .long (id ^^^ d)), (1, .long gs), (2, .long ((len &&& (9223372036854775807 : Int64)) ^^^ (d &&& (9223372036854775807 : Int64))))])], 2, 6)
      refine EW.run 3 (cf' := ((185, [.val (.long id), .second, .val (.long gs), .second, .val (.long len), .second, .val (.long d), .second, .val (.long e), .second, .val (.int sel), .val (.long (len &&& (9223372036854775807 : Int64))), .second, .val (.int (1 : Int32)), .val (.int (0 : Int32)), .val (.int (1 : Int32)), .val (.long (id ^^^ d)), .second, .val (.long gs), .second, .val (.long (d &&& (9223372036854775807 : Int64))), .second, .val (.long ((len &&& (9223372036854775807 : Int64)) ^^^ (d &&& (9223372036854775807 : Int64)))), .second, .val (.ref 2), .val (.ref 3), .val (.int ((XT.ushr sel (3 : Int32)) &&& (3 : Int32))), .unset], [.int (1 : Int32)]), [.inl (.object "java/lang/Long", A), .inr (1, []), .inr (0, [(0, .long id), (1, .long gs), (2, .long (len &&& (9223372036854775807 : Int64)))]), .inr (0, [(0, .long (id ^^^ d)), (1, .long gs), (2, .long ((len &&& (9223372036854775807 : Int64)) ^^^ (d &&& (9223372036854775807 : Int64))))])], 2, 6)) rfl ?_
      exact EW.ret rfl ⟨rfl, Nat.le_of_ble_eq_true rfl, Nat.le_of_ble_eq_true rfl⟩
  · have h1 : ((XT.ushr sel (3 : Int32)) &&& (3 : Int32)).toInt = (1 : Int32).toInt := by simp only [cP] at h; omega
    clear h
    show EW _ _ _ _ _ ((147, [.val (.long id), .second, .val (.long gs), .second, .val (.long len), .second, .val (.long d), .second, .val (.long e), .second, .val (.int sel), .val (.long (len &&& (9223372036854775807 : Int64))), .second, .val (.int (1 : Int32)), .val (.int (0 : Int32)), .val (.int (1 : Int32)), .val (.long (id ^^^ d)), .second, .val (.long gs), .second, .val (.long (d &&& (9223372036854775807 : Int64))), .second, .val (.long ((len &&& (9223372036854775807 : Int64)) ^^^ (d &&& (9223372036854775807 : Int64)))), .second, .val (.ref 2), .val (.ref 3), .val (.int ((XT.ushr sel (3 : Int32)) &&& (3 : Int32))), .unset], []), [.inl (.object "java/lang/Long", A), .inr (1, []), .inr (0, [(0, .long id), (1, .long gs), (2, .long (len &&& (9223372036854775807 : Int64)))]), .inr (0, [(0, .long (id ^^^ d)), (1, .long gs), (2, .long ((len &&& (9223372036854775807 : Int64)) ^^^ (d &&& (9223372036854775807 : Int64))))])], 2, 6)
    refine EW.run 2 (cf' := ((150, [.val (.long id), .second, .val (.long gs), .second, .val (.long len), .second, .val (.long d), .second, .val (.long e), .second, .val (.int sel), .val (.long (len &&& (9223372036854775807 : Int64))), .second, .val (.int (1 : Int32)), .val (.int (0 : Int32)), .val (.int (1 : Int32)), .val (.long (id ^^^ d)), .second, .val (.long gs), .second, .val (.long (d &&& (9223372036854775807 : Int64))), .second, .val (.long ((len &&& (9223372036854775807 : Int64)) ^^^ (d &&& (9223372036854775807 : Int64)))), .second, .val (.ref 2), .val (.ref 3), .val (.int ((XT.ushr sel (3 : Int32)) &&& (3 : Int32))), .unset], [.long id, .ref 2]), [.inl (.object "java/lang/Long", A), .inr (1, []), .inr (0, [(0, .long id), (1, .long gs), (2, .long (len &&& (9223372036854775807 : Int64)))]), .inr (0, [(0, .long (id ^^^ d)), (1, .long gs), (2, .long ((len &&& (9223372036854775807 : Int64)) ^^^ (d &&& (9223372036854775807 : Int64))))])], 2, 6)) rfl ?_
    refine EW.call rfl (wval A id gs (len &&& (9223372036854775807 : Int64)) (id ^^^ d) gs ((len &&& (9223372036854775807 : Int64)) ^^^ (d &&& (9223372036854775807 : Int64))) id hin) ?_
    rintro _ _ _ _ (e0 | e0)
    · cases e0
      show EW _ _ _ _ _ ((153, [.val (.long id), .second, .val (.long gs), .second, .val (.long len), .second, .val (.long d), .second, .val (.long e), .second, .val (.int sel), .val (.long (len &&& (9223372036854775807 : Int64))), .second, .val (.int (1 : Int32)), .val (.int (0 : Int32)), .val (.int (1 : Int32)), .val (.long (id ^^^ d)), .second, .val (.long gs), .second, .val (.long (d &&& (9223372036854775807 : Int64))), .second, .val (.long ((len &&& (9223372036854775807 : Int64)) ^^^ (d &&& (9223372036854775807 : Int64)))), .second, .val (.ref 2), .val (.ref 3), .val (.int ((XT.ushr sel (3 : Int32)) &&& (3 : Int32))), .unset], [.ref 1, .ref 2]), [.inl (.object "java/lang/Long", A), .inr (1, []), .inr (0, [(0, .long id), (1, .long gs), (2, .long (len &&& (9223372036854775807 : Int64)))]), .inr (0, [(0, .long (id ^^^ d)), (1, .long gs), (2, .long ((len &&& (9223372036854775807 : Int64)) ^^^ (d &&& (9223372036854775807 : Int64))))])], 2, 6)
      refine EW.call (Qc := fun r => r = (some (.int (0 : Int32)), [.inl (.object "java/lang/Long", A), .inr (1, []), .inr (0, [(0, .long id), (1, .long gs), (2, .long (len &&& (9223372036854775807 : Int64)))]), .inr (0, [(0, .long (id ^^^ d)), (1, .long gs), (2, .long ((len &&& (9223372036854775807 : Int64)) ^^^ (d &&& (9223372036854775807 : Int64))))])], 0, 0)) rfl ?_ ?_
      · show EW _ _ _ _ _ ((0, [.val (.ref 2), .val (.ref 1), .unset], []), [.inl (.object "java/lang/Long", A), .inr (1, []), .inr (0, [(0, .long id), (1, .long gs), (2, .long (len &&& (9223372036854775807 : Int64)))]), .inr (0, [(0, .long (id ^^^ d)), (1, .long gs), (2, .long ((len &&& (9223372036854775807 : Int64)) ^^^ (d &&& (9223372036854775807 : Int64))))])], 0, 0)
        refine EW.run 4 (cf' := ((8, [.val (.ref 2), .val (.ref 1), .unset], [.int (0 : Int32)]), [.inl (.object "java/lang/Long", A), .inr (1, []), .inr (0, [(0, .long id), (1, .long gs), (2, .long (len &&& (9223372036854775807 : Int64)))]), .inr (0, [(0, .long (id ^^^ d)), (1, .long gs), (2, .long ((len &&& (9223372036854775807 : Int64)) ^^^ (d &&& (9223372036854775807 : Int64))))])], 0, 0)) rfl ?_
        exact EW.ret rfl rfl
      rintro _ _ _ _ ⟨⟩
      show EW _ _ _ _ _ ((156, [.val (.long id), .second, .val (.long gs), .second, .val (.long len), .second, .val (.long d), .second, .val (.long e), .second, .val (.int sel), .val (.long (len &&& (9223372036854775807 : Int64))), .second, .val (.int (1 : Int32)), .val (.int (0 : Int32)), .val (.int (1 : Int32)), .val (.long (id ^^^ d)), .second, .val (.long gs), .second, .val (.long (d &&& (9223372036854775807 : Int64))), .second, .val (.long ((len &&& (9223372036854775807 : Int64)) ^^^ (d &&& (9223372036854775807 : Int64)))), .second, .val (.ref 2), .val (.ref 3), .val (.int ((XT.ushr sel (3 : Int32)) &&& (3 : Int32))), .unset], [.int (0 : Int32)]), [.inl (.object "java/lang/Long", A), .inr (1, []), .inr (0, [(0, .long id), (1, .long gs), (2, .long (len &&& (9223372036854775807 : Int64)))]), .inr (0, [(0, .long (id ^^^ d)), (1, .long gs), (2, .long ((len &&& (9223372036854775807 : Int64)) ^^^ (d &&& (9223372036854775807 : Int64))))])], 2, 6)
      refine EW.run 3 (cf' := ((164, [.val (.long id), .second, .val (.long gs), .second, .val (.long len), .second, .val (.long d), .second, .val (.long e), .second, .val (.int sel), .val (.long (len &&& (9223372036854775807 : Int64))), .second, .val (.int (1 : Int32)), .val (.int (0 : Int32)), .val (.int (1 : Int32)), .val (.long (id ^^^ d)), .second, .val (.long gs), .second, .val (.long (d &&& (9223372036854775807 : Int64))), .second, .val (.long ((len &&& (9223372036854775807 : Int64)) ^^^ (d &&& (9223372036854775807 : Int64)))), .second, .val (.ref 2), .val (.ref 3), .val (.int ((XT.ushr sel (3 : Int32)) &&& (3 : Int32))), .unset], [.int (1 : Int32)]), [.inl (.object "java/lang/Long", A), .inr (1, []), .inr (0, [(0, .long id), (1, .long gs), (2, .long (len &&& (9223372036854775807 : Int64)))]), .inr (0, [(0, .long (id ^^^ d)), (1, .long gs), (2, .long ((len &&& (9223372036854775807 : Int64)) ^^^ (d &&& (9223372036854775807 : Int64))))])], 2, 6)) rfl ?_
      exact EW.ret rfl ⟨rfl, Nat.le_of_ble_eq_true rfl, Nat.le_of_ble_eq_true rfl⟩
    · cases e0
      show EW _ _ _ _ _ ((153, [.val (.long id), .second, .val (.long gs), .second, .val (.long len), .second, .val (.long d), .second, .val (.long e), .second, .val (.int sel), .val (.long (len &&& (9223372036854775807 : Int64))), .second, .val (.int (1 : Int32)), .val (.int (0 : Int32)), .val (.int (1 : Int32)), .val (.long (id ^^^ d)), .second, .val (.long gs), .second, .val (.long (d &&& (9223372036854775807 : Int64))), .second, .val (.long ((len &&& (9223372036854775807 : Int64)) ^^^ (d &&& (9223372036854775807 : Int64)))), .second, .val (.ref 2), .val (.ref 3), .val (.int ((XT.ushr sel (3 : Int32)) &&& (3 : Int32))), .unset], [.ref 4, .ref 2]), [.inl (.object "java/lang/Long", A), .inr (1, []), .inr (0, [(0, .long id), (1, .long gs), (2, .long (len &&& (9223372036854775807 : Int64)))]), .inr (0, [(0, .long (id ^^^ d)), (1, .long gs), (2, .long ((len &&& (9223372036854775807 : Int64)) ^^^ (d &&& (9223372036854775807 : Int64))))]), .inr (1, [(4, .long id)])], 3, 7)
      refine EW.call (Qc := fun r => r = (some (.int (0 : Int32)), [.inl (.object "java/lang/Long", A), .inr (1, []), .inr (0, [(0, .long id), (1, .long gs), (2, .long (len &&& (9223372036854775807 : Int64)))]), .inr (0, [(0, .long (id ^^^ d)), (1, .long gs), (2, .long ((len &&& (9223372036854775807 : Int64)) ^^^ (d &&& (9223372036854775807 : Int64))))]), .inr (1, [(4, .long id)])], 0, 0)) rfl ?_ ?_
      · show EW _ _ _ _ _ ((0, [.val (.ref 2), .val (.ref 4), .unset], []), [.inl (.object "java/lang/Long", A), .inr (1, []), .inr (0, [(0, .long id), (1, .long gs), (2, .long (len &&& (9223372036854775807 : Int64)))]), .inr (0, [(0, .long (id ^^^ d)), (1, .long gs), (2, .long ((len &&& (9223372036854775807 : Int64)) ^^^ (d &&& (9223372036854775807 : Int64))))]), .inr (1, [(4, .long id)])], 0, 0)
        refine EW.run 4 (cf' := ((8, [.val (.ref 2), .val (.ref 4), .unset], [.int (0 : Int32)]), [.inl (.object "java/lang/Long", A), .inr (1, []), .inr (0, [(0, .long id), (1, .long gs), (2, .long (len &&& (9223372036854775807 : Int64)))]), .inr (0, [(0, .long (id ^^^ d)), (1, .long gs), (2, .long ((len &&& (9223372036854775807 : Int64)) ^^^ (d &&& (9223372036854775807 : Int64))))]), .inr (1, [(4, .long id)])], 0, 0)) rfl ?_
        exact EW.ret rfl rfl
      rintro _ _ _ _ ⟨⟩
      show EW _ _ _ _ _ ((156, [.val (.long id), .second, .val (.long gs), .second, .val (.long len), .second, .val (.long d), .second, .val (.long e), .second, .val (.int sel), .val (.long (len &&& (9223372036854775807 : Int64))), .second, .val (.int (1 : Int32)), .val (.int (0 : Int32)), .val (.int (1 : Int32)), .val (.long (id ^^^ d)), .second, .val (.long gs), .second, .val (.long (d &&& (9223372036854775807 : Int64))), .second, .val (.long ((len &&& (9223372036854775807 : Int64)) ^^^ (d &&& (9223372036854775807 : Int64)))), .second, .val (.ref 2), .val (.ref 3), .val (.int ((XT.ushr sel (3 : Int32)) &&& (3 : Int32))), .unset], [.int (0 : Int32)]), [.inl (.object "java/lang/Long", A), .inr (1, []), .inr (0, [(0, .long id), (1, .long gs), (2, .long (len &&& (9223372036854775807 : Int64)))]), .inr (0, [(0, .long (id ^^^ d)), (1, .long gs), (2, .long ((len &&& (9223372036854775807 : Int64)) ^^^ (d &&& (9223372036854775807 : Int64))))]), .inr (1, [(4, .long id)])], 3, 7)
      refine EW.run 3 (cf' := ((164, [.val (.long id), .second, .val (.long gs), .second, .val (.long len), .second, .val (.long d), .second, .val (.long e), .second, .val (.int sel), .val (.long (len &&& (9223372036854775807 : Int64))), .second, .val (.int (1 : Int32)), .val (.int (0 : Int32)), .val (.int (1 : Int32)), .val (.long (id ^^^ d)), .second, .val (.long gs), .second, .val (.long (d &&& (9223372036854775807 : Int64))), .second, .val (.long ((len &&& (9223372036854775807 : Int64)) ^^^ (d &&& (9223372036854775807 : Int64)))), .second, .val (.ref 2), .val (.ref 3), .val (.int ((XT.ushr sel (3 : Int32)) &&& (3 : Int32))), .unset], [.int (1 : Int32)]), [.inl (.object "java/lang/Long", A), .inr (1, []), .inr (0, [(0, .long id), (1, .long gs), (2, .long (len &&& (9223372036854775807 : Int64)))]), .inr (0, [(0, .long (id ^^^ d)), (1, .long gs), (2, .long ((len &&& (9223372036854775807 : Int64)) ^^^ (d &&& (9223372036854775807 : Int64))))]), .inr (1, [(4, .long id)])], 3, 7)) rfl ?_
      exact EW.ret rfl ⟨rfl, Nat.le_of_ble_eq_true rfl, Nat.le_of_ble_eq_true rfl⟩
set_option maxHeartbeats 8000000 in
theorem own_c6 (A : List Value) (id gs len d e : Int64) (sel : Int32) (hin : -128 ≤ id.toInt → id.toInt ≤ 127 → (¬ (id.toInt32 + 128) < 0 ∧ A[(id.toInt32 + 128).toNatClampNeg]? = some (.ref 1))) : EW gG 7 160 mL (fun r => r.1 = some (.int 1) ∧ r.2.2.1 ≤ 16 ∧ r.2.2.2 ≤ 128) ((105, [.val (.long id), .second, .val (.long gs), .second, .val (.long len), .second, .val (.long d), .second, .val (.long e), .second, .val (.int sel), .val (.long (len &&& (9223372036854775807 : Int64))), .second, .val (.int (1 : Int32)), .val (.int (1 : Int32)), .val (.int (0 : Int32)), .val (.long (id ^^^ d)), .second, .val (.long (gs ^^^ e)), .second, .val (.long (d &&& (9223372036854775807 : Int64))), .second, .val (.long (len &&& (9223372036854775807 : Int64))), .second, .unset, .unset, .unset, .unset], []), [.inl (.object "java/lang/Long", A), .inr (1, [])], 0, 0) := by
  have lz : (0 : Int64).toInt = 0 := by decide
  refine EW.run 5 (cf' := ((113, [.val (.long id), .second, .val (.long gs), .second, .val (.long len), .second, .val (.long d), .second, .val (.long e), .second, .val (.int sel), .val (.long (len &&& (9223372036854775807 : Int64))), .second, .val (.int (1 : Int32)), .val (.int (1 : Int32)), .val (.int (0 : Int32)), .val (.long (id ^^^ d)), .second, .val (.long (gs ^^^ e)), .second, .val (.long (d &&& (9223372036854775807 : Int64))), .second, .val (.long (len &&& (9223372036854775807 : Int64))), .second, .unset, .unset, .unset, .unset], [.long (len &&& (9223372036854775807 : Int64)), .long gs, .long id, .ref 2, .ref 2]), [.inl (.object "java/lang/Long", A), .inr (1, []), .inr (0, [(0, .long (0 : Int64)), (1, .long (0 : Int64)), (2, .long (0 : Int64))])], 1, 3)) rfl ?_
  refine EW.call (Qc := fun r => r = (none, [.inl (.object "java/lang/Long", A), .inr (1, []), .inr (0, [(0, .long id), (1, .long gs), (2, .long (len &&& (9223372036854775807 : Int64)))])], 0, 0)) rfl ?_ ?_
  · show EW _ _ _ _ _ ((0, [.val (.ref 2), .val (.long id), .second, .val (.long gs), .second, .val (.long (len &&& (9223372036854775807 : Int64))), .second], []), [.inl (.object "java/lang/Long", A), .inr (1, []), .inr (0, [(0, .long (0 : Int64)), (1, .long (0 : Int64)), (2, .long (0 : Int64))])], 0, 0)
    refine EW.run 5 (cf' := ((8, [.val (.ref 2), .val (.long id), .second, .val (.long gs), .second, .val (.long (len &&& (9223372036854775807 : Int64))), .second], [.int (XT.cmpL (len &&& (9223372036854775807 : Int64)) (0 : Int64))]), [.inl (.object "java/lang/Long", A), .inr (1, []), .inr (0, [(0, .long (0 : Int64)), (1, .long (0 : Int64)), (2, .long (0 : Int64))])], 0, 0)) rfl ?_
    refine EW.iflP rfl (by decide) (fun h => ?_) (fun h => ?_)
    · have h1 : (len &&& (9223372036854775807 : Int64)).toInt ≥ (0 : Int64).toInt := by simp only [cP] at h; omega
      clear h
      show EW _ _ _ _ _ ((27, [.val (.ref 2), .val (.long id), .second, .val (.long gs), .second, .val (.long (len &&& (9223372036854775807 : Int64))), .second], []), [.inl (.object "java/lang/Long", A), .inr (1, []), .inr (0, [(0, .long (0 : Int64)), (1, .long (0 : Int64)), (2, .long (0 : Int64))])], 0, 0)
      refine EW.run 6 (cf' := ((37, [.val (.ref 2), .val (.long id), .second, .val (.long gs), .second, .val (.long (len &&& (9223372036854775807 : Int64))), .second], []), [.inl (.object "java/lang/Long", A), .inr (1, []), .inr (0, [(0, .long id), (1, .long gs), (2, .long (0 : Int64))])], 0, 0)) rfl ?_
      refine EW.run 3 (cf' := ((43, [.val (.ref 2), .val (.long id), .second, .val (.long gs), .second, .val (.long (len &&& (9223372036854775807 : Int64))), .second], []), [.inl (.object "java/lang/Long", A), .inr (1, []), .inr (0, [(0, .long id), (1, .long gs), (2, .long (len &&& (9223372036854775807 : Int64)))])], 0, 0)) rfl ?_
      exact EW.ret rfl rfl
    · exfalso
      simp only [cP] at h
      have := rng64 (len &&& (9223372036854775807 : Int64))
      have := rng64 len
      have lt0 : (9223372036854775807 : Int64).toInt = 9223372036854775807 := by decide
      have : (len &&& (9223372036854775807 : Int64)).toInt = len.toInt % 9223372036854775808 := c_maskL len (9223372036854775807 : Int64) 63 (by decide) (by decide)
      have lt1 : (0 : Int64).toInt = 0 := by decide
      omega
  rintro _ _ _ _ ⟨⟩
  show EW _ _ _ _ _ ((116, [.val (.long id), .second, .val (.long gs), .second, .val (.long len), .second, .val (.long d), .second, .val (.long e), .second, .val (.int sel), .val (.long (len &&& (9223372036854775807 : Int64))), .second, .val (.int (1 : Int32)), .val (.int (1 : Int32)), .val (.int (0 : Int32)), .val (.long (id ^^^ d)), .second, .val (.long (gs ^^^ e)), .second, .val (.long (d &&& (9223372036854775807 : Int64))), .second, .val (.long (len &&& (9223372036854775807 : Int64))), .second, .unset, .unset, .unset, .unset], [.ref 2]), [.inl (.object "java/lang/Long", A), .inr (1, []), .inr (0, [(0, .long id), (1, .long gs), (2, .long (len &&& (9223372036854775807 : Int64)))])], 1, 3)
  refine EW.run 6 (cf' := ((128, [.val (.long id), .second, .val (.long gs), .second, .val (.long len), .second, .val (.long d), .second, .val (.long e), .second, .val (.int sel), .val (.long (len &&& (9223372036854775807 : Int64))), .second, .val (.int (1 : Int32)), .val (.int (1 : Int32)), .val (.int (0 : Int32)), .val (.long (id ^^^ d)), .second, .val (.long (gs ^^^ e)), .second, .val (.long (d &&& (9223372036854775807 : Int64))), .second, .val (.long (len &&& (9223372036854775807 : Int64))), .second, .val (.ref 2), .unset, .unset, .unset], [.long (len &&& (9223372036854775807 : Int64)), .long (gs ^^^ e), .long (id ^^^ d), .ref 3, .ref 3]), [.inl (.object "java/lang/Long", A), .inr (1, []), .inr (0, [(0, .long id), (1, .long gs), (2, .long (len &&& (9223372036854775807 : Int64)))]), .inr (0, [(0, .long (0 : Int64)), (1, .long (0 : Int64)), (2, .long (0 : Int64))])], 2, 6)) rfl ?_
  refine EW.call (Qc := fun r => r = (none, [.inl (.object "java/lang/Long", A), .inr (1, []), .inr (0, [(0, .long id), (1, .long gs), (2, .long (len &&& (9223372036854775807 : Int64)))]), .inr (0, [(0, .long (id ^^^ d)), (1, .long (gs ^^^ e)), (2, .long (len &&& (9223372036854775807 : Int64)))])], 0, 0)) rfl ?_ ?_
  · show EW _ _ _ _ _ ((0, [.val (.ref 3), .val (.long (id ^^^ d)), .second, .val (.long (gs ^^^ e)), .second, .val (.long (len &&& (9223372036854775807 : Int64))), .second], []), [.inl (.object "java/lang/Long", A), .inr (1, []), .inr (0, [(0, .long id), (1, .long gs), (2, .long (len &&& (9223372036854775807 : Int64)))]), .inr (0, [(0, .long (0 : Int64)), (1, .long (0 : Int64)), (2, .long (0 : Int64))])], 0, 0)
    refine EW.run 5 (cf' := ((8, [.val (.ref 3), .val (.long (id ^^^ d)), .second, .val (.long (gs ^^^ e)), .second, .val (.long (len &&& (9223372036854775807 : Int64))), .second], [.int (XT.cmpL (len &&& (9223372036854775807 : Int64)) (0 : Int64))]), [.inl (.object "java/lang/Long", A), .inr (1, []), .inr (0, [(0, .long id), (1, .long gs), (2, .long (len &&& (9223372036854775807 : Int64)))]), .inr (0, [(0, .long (0 : Int64)), (1, .long (0 : Int64)), (2, .long (0 : Int64))])], 0, 0)) rfl ?_
    refine EW.iflP rfl (by decide) (fun h => ?_) (fun h => ?_)
    · have h1 : (len &&& (9223372036854775807 : Int64)).toInt ≥ (0 : Int64).toInt := by simp only [cP] at h; omega
      clear h
      show EW _ _ _ _ _ ((27, [.val (.ref 3), .val (.long (id ^^^ d)), .second, .val (.long (gs ^^^ e)), .second, .val (.long (len &&& (9223372036854775807 : Int64))), .second], []), [.inl (.object "java/lang/Long", A), .inr (1, []), .inr (0, [(0, .long id), (1, .long gs), (2, .long (len &&& (9223372036854775807 : Int64)))]), .inr (0, [(0, .long (0 : Int64)), (1, .long (0 : Int64)), (2, .long (0 : Int64))])], 0, 0)
      refine EW.run 6 (cf' := ((37, [.val (.ref 3), .val (.long (id ^^^ d)), .second, .val (.long (gs ^^^ e)), .second, .val (.long (len &&& (9223372036854775807 : Int64))), .second], []), [.inl (.object "java/lang/Long", A), .inr (1, []), .inr (0, [(0, .long id), (1, .long gs), (2, .long (len &&& (9223372036854775807 : Int64)))]), .inr (0, [(0, .long (id ^^^ d)), (1, .long (gs ^^^ e)), (2, .long (0 : Int64))])], 0, 0)) rfl ?_
      refine EW.run 3 (cf' := ((43, [.val (.ref 3), .val (.long (id ^^^ d)), .second, .val (.long (gs ^^^ e)), .second, .val (.long (len &&& (9223372036854775807 : Int64))), .second], []), [.inl (.object "java/lang/Long", A), .inr (1, []), .inr (0, [(0, .long id), (1, .long gs), (2, .long (len &&& (9223372036854775807 : Int64)))]), .inr (0, [(0, .long (id ^^^ d)), (1, .long (gs ^^^ e)), (2, .long (len &&& (9223372036854775807 : Int64)))])], 0, 0)) rfl ?_
      exact EW.ret rfl rfl
    · exfalso
      simp only [cP] at h
      have := rng64 (len &&& (9223372036854775807 : Int64))
      have := rng64 len
      have lt0 : (9223372036854775807 : Int64).toInt = 9223372036854775807 := by decide
      have : (len &&& (9223372036854775807 : Int64)).toInt = len.toInt % 9223372036854775808 := c_maskL len (9223372036854775807 : Int64) 63 (by decide) (by decide)
      have lt1 : (0 : Int64).toInt = 0 := by decide
      omega
  rintro _ _ _ _ ⟨⟩
  show EW _ _ _ _ _ ((131, [.val (.long id), .second, .val (.long gs), .second, .val (.long len), .second, .val (.long d), .second, .val (.long e), .second, .val (.int sel), .val (.long (len &&& (9223372036854775807 : Int64))), .second, .val (.int (1 : Int32)), .val (.int (1 : Int32)), .val (.int (0 : Int32)), .val (.long (id ^^^ d)), .second, .val (.long (gs ^^^ e)), .second, .val (.long (d &&& (9223372036854775807 : Int64))), .second, .val (.long (len &&& (9223372036854775807 : Int64))), .second, .val (.ref 2), .unset, .unset, .unset], [.ref 3]), [.inl (.object "java/lang/Long", A), .inr (1, []), .inr (0, [(0, .long id), (1, .long gs), (2, .long (len &&& (9223372036854775807 : Int64)))]), .inr (0, [(0, .long (id ^^^ d)), (1, .long (gs ^^^ e)), (2, .long (len &&& (9223372036854775807 : Int64)))])], 2, 6)
  refine EW.run 6 (cf' := ((139, [.val (.long id), .second, .val (.long gs), .second, .val (.long len), .second, .val (.long d), .second, .val (.long e), .second, .val (.int sel), .val (.long (len &&& (9223372036854775807 : Int64))), .second, .val (.int (1 : Int32)), .val (.int (1 : Int32)), .val (.int (0 : Int32)), .val (.long (id ^^^ d)), .second, .val (.long (gs ^^^ e)), .second, .val (.long (d &&& (9223372036854775807 : Int64))), .second, .val (.long (len &&& (9223372036854775807 : Int64))), .second, .val (.ref 2), .val (.ref 3), .unset, .unset], [.int ((XT.ushr sel (3 : Int32)) &&& (3 : Int32))]), [.inl (.object "java/lang/Long", A), .inr (1, []), .inr (0, [(0, .long id), (1, .long gs), (2, .long (len &&& (9223372036854775807 : Int64)))]), .inr (0, [(0, .long (id ^^^ d)), (1, .long (gs ^^^ e)), (2, .long (len &&& (9223372036854775807 : Int64)))])], 2, 6)) rfl ?_
  refine EW.run 3 (cf' := ((144, [.val (.long id), .second, .val (.long gs), .second, .val (.long len), .second, .val (.long d), .second, .val (.long e), .second, .val (.int sel), .val (.long (len &&& (9223372036854775807 : Int64))), .second, .val (.int (1 : Int32)), .val (.int (1 : Int32)), .val (.int (0 : Int32)), .val (.long (id ^^^ d)), .second, .val (.long (gs ^^^ e)), .second, .val (.long (d &&& (9223372036854775807 : Int64))), .second, .val (.long (len &&& (9223372036854775807 : Int64))), .second, .val (.ref 2), .val (.ref 3), .val (.int ((XT.ushr sel (3 : Int32)) &&& (3 : Int32))), .unset], [.int (1 : Int32), .int ((XT.ushr sel (3 : Int32)) &&& (3 : Int32))]), [.inl (.object "java/lang/Long", A), .inr (1, []), .inr (0, [(0, .long id), (1, .long gs), (2, .long (len &&& (9223372036854775807 : Int64)))]), .inr (0, [(0, .long (id ^^^ d)), (1, .long (gs ^^^ e)), (2, .long (len &&& (9223372036854775807 : Int64)))])], 2, 6)) rfl ?_
  refine EW.icmpP rfl (by decide) (fun h => ?_) (fun h => ?_)
  · have h1 : ((XT.ushr sel (3 : Int32)) &&& (3 : Int32)).toInt ≠ (1 : Int32).toInt := by simp only [cP] at h; omega
    clear h
    show EW _ _ _ _ _ ((165, [.val (.long id), .second, .val (.long gs), .second, .val (.long len), .second, .val (.long d), .second, .val (.long e), .second, .val (.int sel), .val (.long (len &&& (9223372036854775807 : Int64))), .second, .val (.int (1 : Int32)), .val (.int (1 : Int32)), .val (.int (0 : Int32)), .val (.long (id ^^^ d)), .second, .val (.long (gs ^^^ e)), .second, .val (.long (d &&& (9223372036854775807 : Int64))), .second, .val (.long (len &&& (9223372036854775807 : Int64))), .second, .val (.ref 2), .val (.ref 3), .val (.int ((XT.ushr sel (3 : Int32)) &&& (3 : Int32))), .unset], []), [.inl (.object "java/lang/Long", A), .inr (1, []), .inr (0, [(0, .long id), (1, .long gs), (2, .long (len &&& (9223372036854775807 : Int64)))]), .inr (0, [(0, .long (id ^^^ d)), (1, .long (gs ^^^ e)), (2, .long (len &&& (9223372036854775807 : Int64)))])], 2, 6)
    refine EW.run 2 (cf' := ((168, [.val (.long id), .second, .val (.long gs), .second, .val (.long len), .second, .val (.long d), .second, .val (.long e), .second, .val (.int sel), .val (.long (len &&& (9223372036854775807 : Int64))), .second, .val (.int (1 : Int32)), .val (.int (1 : Int32)), .val (.int (0 : Int32)), .val (.long (id ^^^ d)), .second, .val (.long (gs ^^^ e)), .second, .val (.long (d &&& (9223372036854775807 : Int64))), .second, .val (.long (len &&& (9223372036854775807 : Int64))), .second, .val (.ref 2), .val (.ref 3), .val (.int ((XT.ushr sel (3 : Int32)) &&& (3 : Int32))), .unset], [.int (2 : Int32), .int ((XT.ushr sel (3 : Int32)) &&& (3 : Int32))]), [.inl (.object "java/lang/Long", A), .inr (1, []), .inr (0, [(0, .long id), (1, .long gs), (2, .long (len &&& (9223372036854775807 : Int64)))]), .inr (0, [(0, .long (id ^^^ d)), (1, .long (gs ^^^ e)), (2, .long (len &&& (9223372036854775807 : Int64)))])], 2, 6)) rfl ?_
    refine EW.icmpP rfl (by decide) (fun h => ?_) (fun h => ?_)
    · have h2 : ((XT.ushr sel (3 : Int32)) &&& (3 : Int32)).toInt ≠ (2 : Int32).toInt := by simp only [cP] at h; omega
      clear h
      show EW _ _ _ _ _ ((186, [.val (.long id), .second, .val (.long gs), .second, .val (.long len), .second, .val (.long d), .second, .val (.long e), .second, .val (.int sel), .val (.long (len &&& (9223372036854775807 : Int64))), .second, .val (.int (1 : Int32)), .val (.int (1 : Int32)), .val (.int (0 : Int32)), .val (.long (id ^^^ d)), .second, .val (.long (gs ^^^ e)), .second, .val (.long (d &&& (9223372036854775807 : Int64))), .second, .val (.long (len &&& (9223372036854775807 : Int64))), .second, .val (.ref 2), .val (.ref 3), .val (.int ((XT.ushr sel (3 : Int32)) &&& (3 : Int32))), .unset], []), [.inl (.object "java/lang/Long", A), .inr (1, []), .inr (0, [(0, .long id), (1, .long gs), (2, .long (len &&& (9223372036854775807 : Int64)))]), .inr (0, [(0, .long (id ^^^ d)), (1, .long (gs ^^^ e)), (2, .long (len &&& (9223372036854775807 : Int64)))])], 2, 6)
      refine EW.run 2 (cf' := ((189, [.val (.long id), .second, .val (.long gs), .second, .val (.long len), .second, .val (.long d), .second, .val (.long e), .second, .val (.int sel), .val (.long (len &&& (9223372036854775807 : Int64))), .second, .val (.int (1 : Int32)), .val (.int (1 : Int32)), .val (.int (0 : Int32)), .val (.long (id ^^^ d)), .second, .val (.long (gs ^^^ e)), .second, .val (.long (d &&& (9223372036854775807 : Int64))), .second, .val (.long (len &&& (9223372036854775807 : Int64))), .second, .val (.ref 2), .val (.ref 3), .val (.int ((XT.ushr sel (3 : Int32)) &&& (3 : Int32))), .unset], [.int (3 : Int32), .int ((XT.ushr sel (3 : Int32)) &&& (3 : Int32))]), [.inl (.object "java/lang/Long", A), .inr (1, []), .inr (0, [(0, .long id), (1, .long gs), (2, .long (len &&& (9223372036854775807 : Int64)))]), .inr (0, [(0, .long (id ^^^ d)), (1, .long (gs ^^^ e)), (2, .long (len &&& (9223372036854775807 : Int64)))])], 2, 6)) rfl ?_
      refine EW.icmpP rfl (by decide) (fun h => ?_) (fun h => ?_)
      · have h3 : ((XT.ushr sel (3 : Int32)) &&& (3 : Int32)).toInt ≠ (3 : Int32).toInt := by simp only [cP] at h; omega
        clear h
        show EW _ _ _ _ _ ((200, [.val (.long id), .second, .val (.long gs), .second, .val (.long len), .second, .val (.long d), .second, .val (.long e), .second, .val (.int sel), .val (.long (len &&& (9223372036854775807 : Int64))), .second, .val (.int (1 : Int32)), .val (.int (1 : Int32)), .val (.int (0 : Int32)), .val (.long (id ^^^ d)), .second, .val (.long (gs ^^^ e)), .second, .val (.long (d &&& (9223372036854775807 : Int64))), .second, .val (.long (len &&& (9223372036854775807 : Int64))), .second, .val (.ref 2), .val (.ref 3), .val (.int ((XT.ushr sel (3 : Int32)) &&& (3 : Int32))), .unset], []), [.inl (.object "java/lang/Long", A), .inr (1, []), .inr (0, [(0, .long id), (1, .long gs), (2, .long (len &&& (9223372036854775807 : Int64)))]), .inr (0, [(0, .long (id ^^^ d)), (1, .long (gs ^^^ e)), (2, .long (len &&& (9223372036854775807 : Int64)))])], 2, 6)
        refine EW.run 5 (cf' := ((209, [.val (.long id), .second, .val (.long gs), .second, .val (.long len), .second, .val (.long d), .second, .val (.long e), .second, .val (.int sel), .val (.long (len &&& (9223372036854775807 : Int64))), .second, .val (.int (1 : Int32)), .val (.int (1 : Int32)), .val (.int (0 : Int32)), .val (.long (id ^^^ d)), .second, .val (.long (gs ^^^ e)), .second, .val (.long (d &&& (9223372036854775807 : Int64))), .second, .val (.long (len &&& (9223372036854775807 : Int64))), .second, .val (.ref 2), .val (.ref 3), .val (.int ((XT.ushr sel (3 : Int32)) &&& (3 : Int32))), .unset], [.int (XT.cmpL d (0 : Int64))]), [.inl (.object "java/lang/Long", A), .inr (1, []), .inr (0, [(0, .long id), (1, .long gs), (2, .long (len &&& (9223372036854775807 : Int64)))]), .inr (0, [(0, .long (id ^^^ d)), (1, .long (gs ^^^ e)), (2, .long (len &&& (9223372036854775807 : Int64)))])], 2, 6)) rfl ?_
        refine EW.iflP rfl (by decide) (fun h => ?_) (fun h => ?_)
        · have h4 : d.toInt ≠ (0 : Int64).toInt := by simp only [cP] at h; omega
          clear h
          show EW _ _ _ _ _ ((240, [.val (.long id), .second, .val (.long gs), .second, .val (.long len), .second, .val (.long d), .second, .val (.long e), .second, .val (.int sel), .val (.long (len &&& (9223372036854775807 : Int64))), .second, .val (.int (1 : Int32)), .val (.int (1 : Int32)), .val (.int (0 : Int32)), .val (.long (id ^^^ d)), .second, .val (.long (gs ^^^ e)), .second, .val (.long (d &&& (9223372036854775807 : Int64))), .second, .val (.long (len &&& (9223372036854775807 : Int64))), .second, .val (.ref 2), .val (.ref 3), .val (.int ((XT.ushr sel (3 : Int32)) &&& (3 : Int32))), .unset], []), [.inl (.object "java/lang/Long", A), .inr (1, []), .inr (0, [(0, .long id), (1, .long gs), (2, .long (len &&& (9223372036854775807 : Int64)))]), .inr (0, [(0, .long (id ^^^ d)), (1, .long (gs ^^^ e)), (2, .long (len &&& (9223372036854775807 : Int64)))])], 2, 6)
          refine EW.run 4 (cf' := ((247, [.val (.long id), .second, .val (.long gs), .second, .val (.long len), .second, .val (.long d), .second, .val (.long e), .second, .val (.int sel), .val (.long (len &&& (9223372036854775807 : Int64))), .second, .val (.int (1 : Int32)), .val (.int (1 : Int32)), .val (.int (0 : Int32)), .val (.long (id ^^^ d)), .second, .val (.long (gs ^^^ e)), .second, .val (.long (d &&& (9223372036854775807 : Int64))), .second, .val (.long (len &&& (9223372036854775807 : Int64))), .second, .val (.ref 2), .val (.ref 3), .val (.int ((XT.ushr sel (3 : Int32)) &&& (3 : Int32))), .val (.int (0 : Int32))], [.ref 3, .ref 2]), [.inl (.object "java/lang/Long", A), .inr (1, []), .inr (0, [(0, .long id), (1, .long gs), (2, .long (len &&& (9223372036854775807 : Int64)))]), .inr (0, [(0, .long (id ^^^ d)), (1, .long (gs ^^^ e)), (2, .long (len &&& (9223372036854775807 : Int64)))])], 2, 6)) rfl ?_
          refine EW.call rfl (weq_23 _ _ A id gs (len &&& (9223372036854775807 : Int64)) (id ^^^ d) (gs ^^^ e) (len &&& (9223372036854775807 : Int64))) ?_
          rintro _ _ _ _ ⟨z, e0, ⟨rfl, hz⟩ | ⟨rfl, hz⟩⟩
          · cases e0; have h5 := hz; clear hz
            show EW _ _ _ _ _ ((250, [.val (.long id), .second, .val (.long gs), .second, .val (.long len), .second, .val (.long d), .second, .val (.long e), .second, .val (.int sel), .val (.long (len &&& (9223372036854775807 : Int64))), .second, .val (.int (1 : Int32)), .val (.int (1 : Int32)), .val (.int (0 : Int32)), .val (.long (id ^^^ d)), .second, .val (.long (gs ^^^ e)), .second, .val (.long (d &&& (9223372036854775807 : Int64))), .second, .val (.long (len &&& (9223372036854775807 : Int64))), .second, .val (.ref 2), .val (.ref 3), .val (.int ((XT.ushr sel (3 : Int32)) &&& (3 : Int32))), .val (.int (0 : Int32))], [.int (1 : Int32)]), [.inl (.object "java/lang/Long", A), .inr (1, []), .inr (0, [(0, .long id), (1, .long gs), (2, .long (len &&& (9223372036854775807 : Int64)))]), .inr (0, [(0, .long (id ^^^ d)), (1, .long (gs ^^^ e)), (2, .long (len &&& (9223372036854775807 : Int64)))])], 2, 6)
            refine EW.run 3 (cf' := ((272, [.val (.long id), .second, .val (.long gs), .second, .val (.long len), .second, .val (.long d), .second, .val (.long e), .second, .val (.int sel), .val (.long (len &&& (9223372036854775807 : Int64))), .second, .val (.int (1 : Int32)), .val (.int (1 : Int32)), .val (.int (0 : Int32)), .val (.long (id ^^^ d)), .second, .val (.long (gs ^^^ e)), .second, .val (.long (d &&& (9223372036854775807 : Int64))), .second, .val (.long (len &&& (9223372036854775807 : Int64))), .second, .val (.ref 2), .val (.ref 3), .val (.int ((XT.ushr sel (3 : Int32)) &&& (3 : Int32))), .val (.int (0 : Int32))], [.int (0 : Int32)]), [.inl (.object "java/lang/Long", A), .inr (1, []), .inr (0, [(0, .long id), (1, .long gs), (2, .long (len &&& (9223372036854775807 : Int64)))]), .inr (0, [(0, .long (id ^^^ d)), (1, .long (gs ^^^ e)), (2, .long (len &&& (9223372036854775807 : Int64)))])], 2, 6)) rfl ?_
            exfalso
            have := rng32 ((XT.ushr sel (3 : Int32)) &&& (3 : Int32))
            have := rng32 (XT.ushr sel (3 : Int32))
            have := rng32 sel
            have lt0 : (3 : Int32).toInt = 3 := by decide
            have : (XT.ushr sel (3 : Int32)).toInt = (sel.toInt % 4294967296) / 8 := c_iushr sel (3 : Int32) 3 (by decide) (by decide)
            have : ((XT.ushr sel (3 : Int32)) &&& (3 : Int32)).toInt = (XT.ushr sel (3 : Int32)).toInt % 4 := c_mask (XT.ushr sel (3 : Int32)) (3 : Int32) 2 (by decide) (by decide)
            have lt1 : (1 : Int32).toInt = 1 := by decide
            have lt2 : (2 : Int32).toInt = 2 := by decide
            have := rng64 d
            have lt3 : (0 : Int64).toInt = 0 := by decide
            have := rng64 (id ^^^ d)
            have := rng64 id
            have := c_xorSL id d
            have := own_xor id d
            have := rng64 (gs ^^^ e)
            have := rng64 gs
            have := rng64 e
            have := c_xorSL gs e
            have := own_xor gs e
            omega
          · cases e0; have h5 := hz; clear hz
            show EW _ _ _ _ _ ((250, [.val (.long id), .second, .val (.long gs), .second, .val (.long len), .second, .val (.long d), .second, .val (.long e), .second, .val (.int sel), .val (.long (len &&& (9223372036854775807 : Int64))), .second, .val (.int (1 : Int32)), .val (.int (1 : Int32)), .val (.int (0 : Int32)), .val (.long (id ^^^ d)), .second, .val (.long (gs ^^^ e)), .second, .val (.long (d &&& (9223372036854775807 : Int64))), .second, .val (.long (len &&& (9223372036854775807 : Int64))), .second, .val (.ref 2), .val (.ref 3), .val (.int ((XT.ushr sel (3 : Int32)) &&& (3 : Int32))), .val (.int (0 : Int32))], [.int (0 : Int32)]), [.inl (.object "java/lang/Long", A), .inr (1, []), .inr (0, [(0, .long id), (1, .long gs), (2, .long (len &&& (9223372036854775807 : Int64)))]), .inr (0, [(0, .long (id ^^^ d)), (1, .long (gs ^^^ e)), (2, .long (len &&& (9223372036854775807 : Int64)))])], 2, 6)
            refine EW.run 4 (cf' := ((259, [.val (.long id), .second, .val (.long gs), .second, .val (.long len), .second, .val (.long d), .second, .val (.long e), .second, .val (.int sel), .val (.long (len &&& (9223372036854775807 : Int64))), .second, .val (.int (1 : Int32)), .val (.int (1 : Int32)), .val (.int (0 : Int32)), .val (.long (id ^^^ d)), .second, .val (.long (gs ^^^ e)), .second, .val (.long (d &&& (9223372036854775807 : Int64))), .second, .val (.long (len &&& (9223372036854775807 : Int64))), .second, .val (.ref 2), .val (.ref 3), .val (.int ((XT.ushr sel (3 : Int32)) &&& (3 : Int32))), .val (.int (0 : Int32))], [.ref 2, .ref 3]), [.inl (.object "java/lang/Long", A), .inr (1, []), .inr (0, [(0, .long id), (1, .long gs), (2, .long (len &&& (9223372036854775807 : Int64)))]), .inr (0, [(0, .long (id ^^^ d)), (1, .long (gs ^^^ e)), (2, .long (len &&& (9223372036854775807 : Int64)))])], 2, 6)) rfl ?_
            refine EW.call rfl (weq_32 _ _ A id gs (len &&& (9223372036854775807 : Int64)) (id ^^^ d) (gs ^^^ e) (len &&& (9223372036854775807 : Int64))) ?_
            rintro _ _ _ _ ⟨z, e0, ⟨rfl, hz⟩ | ⟨rfl, hz⟩⟩
            · cases e0; have h6 := hz; clear hz
              show EW _ _ _ _ _ ((262, [.val (.long id), .second, .val (.long gs), .second, .val (.long len), .second, .val (.long d), .second, .val (.long e), .second, .val (.int sel), .val (.long (len &&& (9223372036854775807 : Int64))), .second, .val (.int (1 : Int32)), .val (.int (1 : Int32)), .val (.int (0 : Int32)), .val (.long (id ^^^ d)), .second, .val (.long (gs ^^^ e)), .second, .val (.long (d &&& (9223372036854775807 : Int64))), .second, .val (.long (len &&& (9223372036854775807 : Int64))), .second, .val (.ref 2), .val (.ref 3), .val (.int ((XT.ushr sel (3 : Int32)) &&& (3 : Int32))), .val (.int (0 : Int32))], [.int (1 : Int32)]), [.inl (.object "java/lang/Long", A), .inr (1, []), .inr (0, [(0, .long id), (1, .long gs), (2, .long (len &&& (9223372036854775807 : Int64)))]), .inr (0, [(0, .long (id ^^^ d)), (1, .long (gs ^^^ e)), (2, .long (len &&& (9223372036854775807 : Int64)))])], 2, 6)
              refine EW.run 3 (cf' := ((272, [.val (.long id), .second, .val (.long gs), .second, .val (.long len), .second, .val (.long d), .second, .val (.long e), .second, .val (.int sel), .val (.long (len &&& (9223372036854775807 : Int64))), .second, .val (.int (1 : Int32)), .val (.int (1 : Int32)), .val (.int (0 : Int32)), .val (.long (id ^^^ d)), .second, .val (.long (gs ^^^ e)), .second, .val (.long (d &&& (9223372036854775807 : Int64))), .second, .val (.long (len &&& (9223372036854775807 : Int64))), .second, .val (.ref 2), .val (.ref 3), .val (.int ((XT.ushr sel (3 : Int32)) &&& (3 : Int32))), .val (.int (0 : Int32))], [.int (0 : Int32)]), [.inl (.object "java/lang/Long", A), .inr (1, []), .inr (0, [(0, .long id), (1, .long gs), (2, .long (len &&& (9223372036854775807 : Int64)))]), .inr (0, [(0, .long (id ^^^ d)), (1, .long (gs ^^^ e)), (2, .long (len &&& (9223372036854775807 : Int64)))])], 2, 6)) rfl ?_
              exfalso
              have := rng32 ((XT.ushr sel (3 : Int32)) &&& (3 : Int32))
              have := rng32 (XT.ushr sel (3 : Int32))
              have := rng32 sel
              have lt0 : (3 : Int32).toInt = 3 := by decide
              have : (XT.ushr sel (3 : Int32)).toInt = (sel.toInt % 4294967296) / 8 := c_iushr sel (3 : Int32) 3 (by decide) (by decide)
              have : ((XT.ushr sel (3 : Int32)) &&& (3 : Int32)).toInt = (XT.ushr sel (3 : Int32)).toInt % 4 := c_mask (XT.ushr sel (3 : Int32)) (3 : Int32) 2 (by decide) (by decide)
              have lt1 : (1 : Int32).toInt = 1 := by decide
              have lt2 : (2 : Int32).toInt = 2 := by decide
              have := rng64 d
              have lt3 : (0 : Int64).toInt = 0 := by decide
              have := rng64 (id ^^^ d)
              have := rng64 id
              have := c_xorSL id d
              have := own_xor id d
              have := rng64 (gs ^^^ e)
              have := rng64 gs
              have := rng64 e
              have := c_xorSL gs e
              have := own_xor gs e
              omega
            · cases e0; have h6 := hz; clear hz
              show EW _ _ _ _ _ ((262, [.val (.long id), .second, .val (.long gs), .second, .val (.long len), .second, .val (.long d), .second, .val (.long e), .second, .val (.int sel), .val (.long (len &&& (9223372036854775807 : Int64))), .second, .val (.int (1 : Int32)), .val (.int (1 : Int32)), .val (.int (0 : Int32)), .val (.long (id ^^^ d)), .second, .val (.long (gs ^^^ e)), .second, .val (.long (d &&& (9223372036854775807 : Int64))), .second, .val (.long (len &&& (9223372036854775807 : Int64))), .second, .val (.ref 2), .val (.ref 3), .val (.int ((XT.ushr sel (3 : Int32)) &&& (3 : Int32))), .val (.int (0 : Int32))], [.int (0 : Int32)]), [.inl (.object "java/lang/Long", A), .inr (1, []), .inr (0, [(0, .long id), (1, .long gs), (2, .long (len &&& (9223372036854775807 : Int64)))]), .inr (0, [(0, .long (id ^^^ d)), (1, .long (gs ^^^ e)), (2, .long (len &&& (9223372036854775807 : Int64)))])], 2, 6)
              refine EW.run 4 (cf' := ((272, [.val (.long id), .second, .val (.long gs), .second, .val (.long len), .second, .val (.long d), .second, .val (.long e), .second, .val (.int sel), .val (.long (len &&& (9223372036854775807 : Int64))), .second, .val (.int (1 : Int32)), .val (.int (1 : Int32)), .val (.int (0 : Int32)), .val (.long (id ^^^ d)), .second, .val (.long (gs ^^^ e)), .second, .val (.long (d &&& (9223372036854775807 : Int64))), .second, .val (.long (len &&& (9223372036854775807 : Int64))), .second, .val (.ref 2), .val (.ref 3), .val (.int ((XT.ushr sel (3 : Int32)) &&& (3 : Int32))), .val (.int (0 : Int32))], [.int (1 : Int32)]), [.inl (.object "java/lang/Long", A), .inr (1, []), .inr (0, [(0, .long id), (1, .long gs), (2, .long (len &&& (9223372036854775807 : Int64)))]), .inr (0, [(0, .long (id ^^^ d)), (1, .long (gs ^^^ e)), (2, .long (len &&& (9223372036854775807 : Int64)))])], 2, 6)) rfl ?_
              exact EW.ret rfl ⟨rfl, Nat.le_of_ble_eq_true rfl, Nat.le_of_ble_eq_true rfl⟩
        · have h4 : d.toInt = (0 : Int64).toInt := by simp only [cP] at h; omega
          clear h
          show EW _ _ _ _ _ ((212, [.val (.long id), .second, .val (.long gs), .second, .val (.long len), .second, .val (.long d), .second, .val (.long e), .second, .val (.int sel), .val (.long (len &&& (9223372036854775807 : Int64))), .second, .val (.int (1 : Int32)), .val (.int (1 : Int32)), .val (.int (0 : Int32)), .val (.long (id ^^^ d)), .second, .val (.long (gs ^^^ e)), .second, .val (.long (d &&& (9223372036854775807 : Int64))), .second, .val (.long (len &&& (9223372036854775807 : Int64))), .second, .val (.ref 2), .val (.ref 3), .val (.int ((XT.ushr sel (3 : Int32)) &&& (3 : Int32))), .unset], []), [.inl (.object "java/lang/Long", A), .inr (1, []), .inr (0, [(0, .long id), (1, .long gs), (2, .long (len &&& (9223372036854775807 : Int64)))]), .inr (0, [(0, .long (id ^^^ d)), (1, .long (gs ^^^ e)), (2, .long (len &&& (9223372036854775807 : Int64)))])], 2, 6)
          refine EW.run 5 (cf' := ((221, [.val (.long id), .second, .val (.long gs), .second, .val (.long len), .second, .val (.long d), .second, .val (.long e), .second, .val (.int sel), .val (.long (len &&& (9223372036854775807 : Int64))), .second, .val (.int (1 : Int32)), .val (.int (1 : Int32)), .val (.int (0 : Int32)), .val (.long (id ^^^ d)), .second, .val (.long (gs ^^^ e)), .second, .val (.long (d &&& (9223372036854775807 : Int64))), .second, .val (.long (len &&& (9223372036854775807 : Int64))), .second, .val (.ref 2), .val (.ref 3), .val (.int ((XT.ushr sel (3 : Int32)) &&& (3 : Int32))), .unset], [.int (XT.cmpL e (0 : Int64))]), [.inl (.object "java/lang/Long", A), .inr (1, []), .inr (0, [(0, .long id), (1, .long gs), (2, .long (len &&& (9223372036854775807 : Int64)))]), .inr (0, [(0, .long (id ^^^ d)), (1, .long (gs ^^^ e)), (2, .long (len &&& (9223372036854775807 : Int64)))])], 2, 6)) rfl ?_
          refine EW.iflP rfl (by decide) (fun h => ?_) (fun h => ?_)
          · have h7 : e.toInt ≠ (0 : Int64).toInt := by simp only [cP] at h; omega
            clear h
            show EW _ _ _ _ _ ((240, [.val (.long id), .second, .val (.long gs), .second, .val (.long len), .second, .val (.long d), .second, .val (.long e), .second, .val (.int sel), .val (.long (len &&& (9223372036854775807 : Int64))), .second, .val (.int (1 : Int32)), .val (.int (1 : Int32)), .val (.int (0 : Int32)), .val (.long (id ^^^ d)), .second, .val (.long (gs ^^^ e)), .second, .val (.long (d &&& (9223372036854775807 : Int64))), .second, .val (.long (len &&& (9223372036854775807 : Int64))), .second, .val (.ref 2), .val (.ref 3), .val (.int ((XT.ushr sel (3 : Int32)) &&& (3 : Int32))), .unset], []), [.inl (.object "java/lang/Long", A), .inr (1, []), .inr (0, [(0, .long id), (1, .long gs), (2, .long (len &&& (9223372036854775807 : Int64)))]), .inr (0, [(0, .long (id ^^^ d)), (1, .long (gs ^^^ e)), (2, .long (len &&& (9223372036854775807 : Int64)))])], 2, 6)
            refine EW.run 4 (cf' := ((247, [.val (.long id), .second, .val (.long gs), .second, .val (.long len), .second, .val (.long d), .second, .val (.long e), .second, .val (.int sel), .val (.long (len &&& (9223372036854775807 : Int64))), .second, .val (.int (1 : Int32)), .val (.int (1 : Int32)), .val (.int (0 : Int32)), .val (.long (id ^^^ d)), .second, .val (.long (gs ^^^ e)), .second, .val (.long (d &&& (9223372036854775807 : Int64))), .second, .val (.long (len &&& (9223372036854775807 : Int64))), .second, .val (.ref 2), .val (.ref 3), .val (.int ((XT.ushr sel (3 : Int32)) &&& (3 : Int32))), .val (.int (0 : Int32))], [.ref 3, .ref 2]), [.inl (.object "java/lang/Long", A), .inr (1, []), .inr (0, [(0, .long id), (1, .long gs), (2, .long (len &&& (9223372036854775807 : Int64)))]), .inr (0, [(0, .long (id ^^^ d)), (1, .long (gs ^^^ e)), (2, .long (len &&& (9223372036854775807 : Int64)))])], 2, 6)) rfl ?_
            refine EW.call rfl (weq_23 _ _ A id gs (len &&& (9223372036854775807 : Int64)) (id ^^^ d) (gs ^^^ e) (len &&& (9223372036854775807 : Int64))) ?_
            rintro _ _ _ _ ⟨z, e0, ⟨rfl, hz⟩ | ⟨rfl, hz⟩⟩
            · cases e0; have h8 := hz; clear hz
              show EW _ _ _ _ _ ((250, [.val (.long id), .second, .val (.long gs), .second, .val (.long len), .second, .val (.long d), .second, .val (.long e), .second, .val (.int sel), .val (.long (len &&& (9223372036854775807 : Int64))), .second, .val (.int (1 : Int32)), .val (.int (1 : Int32)), .val (.int (0 : Int32)), .val (.long (id ^^^ d)), .second, .val (.long (gs ^^^ e)), .second, .val (.long (d &&& (9223372036854775807 : Int64))), .second, .val (.long (len &&& (9223372036854775807 : Int64))), .second, .val (.ref 2), .val (.ref 3), .val (.int ((XT.ushr sel (3 : Int32)) &&& (3 : Int32))), .val (.int (0 : Int32))], [.int (1 : Int32)]), [.inl (.object "java/lang/Long", A), .inr (1, []), .inr (0, [(0, .long id), (1, .long gs), (2, .long (len &&& (9223372036854775807 : Int64)))]), .inr (0, [(0, .long (id ^^^ d)), (1, .long (gs ^^^ e)), (2, .long (len &&& (9223372036854775807 : Int64)))])], 2, 6)
              refine EW.run 3 (cf' := ((272, [.val (.long id), .second, .val (.long gs), .second, .val (.long len), .second, .val (.long d), .second, .val (.long e), .second, .val (.int sel), .val (.long (len &&& (9223372036854775807 : Int64))), .second, .val (.int (1 : Int32)), .val (.int (1 : Int32)), .val (.int (0 : Int32)), .val (.long (id ^^^ d)), .second, .val (.long (gs ^^^ e)), .second, .val (.long (d &&& (9223372036854775807 : Int64))), .second, .val (.long (len &&& (9223372036854775807 : Int64))), .second, .val (.ref 2), .val (.ref 3), .val (.int ((XT.ushr sel (3 : Int32)) &&& (3 : Int32))), .val (.int (0 : Int32))], [.int (0 : Int32)]), [.inl (.object "java/lang/Long", A), .inr (1, []), .inr (0, [(0, .long id), (1, .long gs), (2, .long (len &&& (9223372036854775807 : Int64)))]), .inr (0, [(0, .long (id ^^^ d)), (1, .long (gs ^^^ e)), (2, .long (len &&& (9223372036854775807 : Int64)))])], 2, 6)) rfl ?_
              exfalso
              have := rng32 ((XT.ushr sel (3 : Int32)) &&& (3 : Int32))
              have := rng32 (XT.ushr sel (3 : Int32))
              have := rng32 sel
              have lt0 : (3 : Int32).toInt = 3 := by decide
              have : (XT.ushr sel (3 : Int32)).toInt = (sel.toInt % 4294967296) / 8 := c_iushr sel (3 : Int32) 3 (by decide) (by decide)
              have : ((XT.ushr sel (3 : Int32)) &&& (3 : Int32)).toInt = (XT.ushr sel (3 : Int32)).toInt % 4 := c_mask (XT.ushr sel (3 : Int32)) (3 : Int32) 2 (by decide) (by decide)
              have lt1 : (1 : Int32).toInt = 1 := by decide
              have lt2 : (2 : Int32).toInt = 2 := by decide
              have := rng64 d
              have lt3 : (0 : Int64).toInt = 0 := by decide
              have := rng64 e
              have := rng64 (id ^^^ d)
              have := rng64 id
              have := c_xorSL id d
              have := own_xor id d
              have := rng64 (gs ^^^ e)
              have := rng64 gs
              have := c_xorSL gs e
              have := own_xor gs e
              omega
            · cases e0; have h8 := hz; clear hz
              show EW _ _ _ _ _ ((250, [.val (.long id), .second, .val (.long gs), .second, .val (.long len), .second, .val (.long d), .second, .val (.long e), .second, .val (.int sel), .val (.long (len &&& (9223372036854775807 : Int64))), .second, .val (.int (1 : Int32)), .val (.int (1 : Int32)), .val (.int (0 : Int32)), .val (.long (id ^^^ d)), .second, .val (.long (gs ^^^ e)), .second, .val (.long (d &&& (9223372036854775807 : Int64))), .second, .val (.long (len &&& (9223372036854775807 : Int64))), .second, .val (.ref 2), .val (.ref 3), .val (.int ((XT.ushr sel (3 : Int32)) &&& (3 : Int32))), .val (.int (0 : Int32))], [.int (0 : Int32)]), [.inl (.object "java/lang/Long", A), .inr (1, []), .inr (0, [(0, .long id), (1, .long gs), (2, .long (len &&& (9223372036854775807 : Int64)))]), .inr (0, [(0, .long (id ^^^ d)), (1, .long (gs ^^^ e)), (2, .long (len &&& (9223372036854775807 : Int64)))])], 2, 6)
              refine EW.run 4 (cf' := ((259, [.val (.long id), .second, .val (.long gs), .second, .val (.long len), .second, .val (.long d), .second, .val (.long e), .second, .val (.int sel), .val (.long (len &&& (9223372036854775807 : Int64))), .second, .val (.int (1 : Int32)), .val (.int (1 : Int32)), .val (.int (0 : Int32)), .val (.long (id ^^^ d)), .second, .val (.long (gs ^^^ e)), .second, .val (.long (d &&& (9223372036854775807 : Int64))), .second, .val (.long (len &&& (9223372036854775807 : Int64))), .second, .val (.ref 2), .val (.ref 3), .val (.int ((XT.ushr sel (3 : Int32)) &&& (3 : Int32))), .val (.int (0 : Int32))], [.ref 2, .ref 3]), [.inl (.object "java/lang/Long", A), .inr (1, []), .inr (0, [(0, .long id), (1, .long gs), (2, .long (len &&& (9223372036854775807 : Int64)))]), .inr (0, [(0, .long (id ^^^ d)), (1, .long (gs ^^^ e)), (2, .long (len &&& (9223372036854775807 : Int64)))])], 2, 6)) rfl ?_
              refine EW.call rfl (weq_32 _ _ A id gs (len &&& (9223372036854775807 : Int64)) (id ^^^ d) (gs ^^^ e) (len &&& (9223372036854775807 : Int64))) ?_
              rintro _ _ _ _ ⟨z, e0, ⟨rfl, hz⟩ | ⟨rfl, hz⟩⟩
              · cases e0; have h9 := hz; clear hz
                show EW _ _ _ _ _ ((262, [.val (.long id), .second, .val (.long gs), .second, .val (.long len), .second, .val (.long d), .second, .val (.long e), .second, .val (.int sel), .val (.long (len &&& (9223372036854775807 : Int64))), .second, .val (.int (1 : Int32)), .val (.int (1 : Int32)), .val (.int (0 : Int32)), .val (.long (id ^^^ d)), .second, .val (.long (gs ^^^ e)), .second, .val (.long (d &&& (9223372036854775807 : Int64))), .second, .val (.long (len &&& (9223372036854775807 : Int64))), .second, .val (.ref 2), .val (.ref 3), .val (.int ((XT.ushr sel (3 : Int32)) &&& (3 : Int32))), .val (.int (0 : Int32))], [.int (1 : Int32)]), [.inl (.object "java/lang/Long", A), .inr (1, []), .inr (0, [(0, .long id), (1, .long gs), (2, .long (len &&& (9223372036854775807 : Int64)))]), .inr (0, [(0, .long (id ^^^ d)), (1, .long (gs ^^^ e)), (2, .long (len &&& (9223372036854775807 : Int64)))])], 2, 6)
                refine EW.run 3 (cf' := ((272, [.val (.long id), .second, .val (.long gs), .second, .val (.long len), .second, .val (.long d), .second, .val (.long e), .second, .val (.int sel), .val (.long (len &&& (9223372036854775807 : Int64))), .second, .val (.int (1 : Int32)), .val (.int (1 : Int32)), .val (.int (0 : Int32)), .val (.long (id ^^^ d)), .second, .val (.long (gs ^^^ e)), .second, .val (.long (d &&& (9223372036854775807 : Int64))), .second, .val (.long (len &&& (9223372036854775807 : Int64))), .second, .val (.ref 2), .val (.ref 3), .val (.int ((XT.ushr sel (3 : Int32)) &&& (3 : Int32))), .val (.int (0 : Int32))], [.int (0 : Int32)]), [.inl (.object "java/lang/Long", A), .inr (1, []), .inr (0, [(0, .long id), (1, .long gs), (2, .long (len &&& (9223372036854775807 : Int64)))]), .inr (0, [(0, .long (id ^^^ d)), (1, .long (gs ^^^ e)), (2, .long (len &&& (9223372036854775807 : Int64)))])], 2, 6)) rfl ?_
                exfalso
                have := rng32 ((XT.ushr sel (3 : Int32)) &&& (3 : Int32))
                have := rng32 (XT.ushr sel (3 : Int32))
                have := rng32 sel
                have lt0 : (3 : Int32).toInt = 3 := by decide
                have : (XT.ushr sel (3 : Int32)).toInt = (sel.toInt % 4294967296) / 8 := c_iushr sel (3 : Int32) 3 (by decide) (by decide)
                have : ((XT.ushr sel (3 : Int32)) &&& (3 : Int32)).toInt = (XT.ushr sel (3 : Int32)).toInt % 4 := c_mask (XT.ushr sel (3 : Int32)) (3 : Int32) 2 (by decide) (by decide)
                have lt1 : (1 : Int32).toInt = 1 := by decide
                have lt2 : (2 : Int32).toInt = 2 := by decide
                have := rng64 d
                have lt3 : (0 : Int64).toInt = 0 := by decide
                have := rng64 e
                have := rng64 (id ^^^ d)
                have := rng64 id
                have := c_xorSL id d
                have := own_xor id d
                have := rng64 (gs ^^^ e)
                have := rng64 gs
                have := c_xorSL gs e
                have := own_xor gs e
                omega
              · cases e0; have h9 := hz; clear hz
                show EW _ _ _ _ _ ((262, [.val (.long id), .second, .val (.long gs), .second, .val (.long len), .second, .val (.long d), .second, .val (.long e), .second, .val (.int sel), .val (.long (len &&& (9223372036854775807 : Int64))), .second, .val (.int (1 : Int32)), .val (.int (1 : Int32)), .val (.int (0 : Int32)), .val (.long (id ^^^ d)), .second, .val (.long (gs ^^^ e)), .second, .val (.long (d &&& (9223372036854775807 : Int64))), .second, .val (.long (len &&& (9223372036854775807 : Int64))), .second, .val (.ref 2), .val (.ref 3), .val (.int ((XT.ushr sel (3 : Int32)) &&& (3 : Int32))), .val (.int (0 : Int32))], [.int (0 : Int32)]), [.inl (.object "java/lang/Long", A), .inr (1, []), .inr (0, [(0, .long id), (1, .long gs), (2, .long (len &&& (9223372036854775807 : Int64)))]), .inr (0, [(0, .long (id ^^^ d)), (1, .long (gs ^^^ e)), (2, .long (len &&& (9223372036854775807 : Int64)))])], 2, 6)
                refine EW.run 4 (cf' := ((272, [.val (.long id), .second, .val (.long gs), .second, .val (.long len), .second, .val (.long d), .second, .val (.long e), .second, .val (.int sel), .val (.long (len &&& (9223372036854775807 : Int64))), .second, .val (.int (1 : Int32)), .val (.int (1 : Int32)), .val (.int (0 : Int32)), .val (.long (id ^^^ d)), .second, .val (.long (gs ^^^ e)), .second, .val (.long (d &&& (9223372036854775807 : Int64))), .second, .val (.long (len &&& (9223372036854775807 : Int64))), .second, .val (.ref 2), .val (.ref 3), .val (.int ((XT.ushr sel (3 : Int32)) &&& (3 : Int32))), .val (.int (0 : Int32))], [.int (1 : Int32)]), [.inl (.object "java/lang/Long", A), .inr (1, []), .inr (0, [(0, .long id), (1, .long gs), (2, .long (len &&& (9223372036854775807 : Int64)))]), .inr (0, [(0, .long (id ^^^ d)), (1, .long (gs ^^^ e)), (2, .long (len &&& (9223372036854775807 : Int64)))])], 2, 6)) rfl ?_
                exact EW.ret rfl ⟨rfl, Nat.le_of_ble_eq_true rfl, Nat.le_of_ble_eq_true rfl⟩
          · have h7 : e.toInt = (0 : Int64).toInt := by simp only [cP] at h; omega
            clear h
            show EW _ _ _ _ _ ((224, [.val (.long id), .second, .val (.long gs), .second, .val (.long len), .second, .val (.long d), .second, .val (.long e), .second, .val (.int sel), .val (.long (len &&& (9223372036854775807 : Int64))), .second, .val (.int (1 : Int32)), .val (.int (1 : Int32)), .val (.int (0 : Int32)), .val (.long (id ^^^ d)), .second, .val (.long (gs ^^^ e)), .second, .val (.long (d &&& (9223372036854775807 : Int64))), .second, .val (.long (len &&& (9223372036854775807 : Int64))), .second, .val (.ref 2), .val (.ref 3), .val (.int ((XT.ushr sel (3 : Int32)) &&& (3 : Int32))), .unset], []), [.inl (.object "java/lang/Long", A), .inr (1, []), .inr (0, [(0, .long id), (1, .long gs), (2, .long (len &&& (9223372036854775807 : Int64)))]), .inr (0, [(0, .long (id ^^^ d)), (1, .long (gs ^^^ e)), (2, .long (len &&& (9223372036854775807 : Int64)))])], 2, 6)
            refine EW.run 6 (cf' := ((245, [.val (.long id), .second, .val (.long gs), .second, .val (.long len), .second, .val (.long d), .second, .val (.long e), .second, .val (.int sel), .val (.long (len &&& (9223372036854775807 : Int64))), .second, .val (.int (1 : Int32)), .val (.int (1 : Int32)), .val (.int (0 : Int32)), .val (.long (id ^^^ d)), .second, .val (.long (gs ^^^ e)), .second, .val (.long (d &&& (9223372036854775807 : Int64))), .second, .val (.long (len &&& (9223372036854775807 : Int64))), .second, .val (.ref 2), .val (.ref 3), .val (.int ((XT.ushr sel (3 : Int32)) &&& (3 : Int32))), .val (.int (1 : Int32))], [.ref 2]), [.inl (.object "java/lang/Long", A), .inr (1, []), .inr (0, [(0, .long id), (1, .long gs), (2, .long (len &&& (9223372036854775807 : Int64)))]), .inr (0, [(0, .long (id ^^^ d)), (1, .long (gs ^^^ e)), (2, .long (len &&& (9223372036854775807 : Int64)))])], 2, 6)) rfl ?_
            refine EW.run 1 (cf' := ((247, [.val (.long id), .second, .val (.long gs), .second, .val (.long len), .second, .val (.long d), .second, .val (.long e), .second, .val (.int sel), .val (.long (len &&& (9223372036854775807 : Int64))), .second, .val (.int (1 : Int32)), .val (.int (1 : Int32)), .val (.int (0 : Int32)), .val (.long (id ^^^ d)), .second, .val (.long (gs ^^^ e)), .second, .val (.long (d &&& (9223372036854775807 : Int64))), .second, .val (.long (len &&& (9223372036854775807 : Int64))), .second, .val (.ref 2), .val (.ref 3), .val (.int ((XT.ushr sel (3 : Int32)) &&& (3 : Int32))), .val (.int (1 : Int32))], [.ref 3, .ref 2]), [.inl (.object "java/lang/Long", A), .inr (1, []), .inr (0, [(0, .long id), (1, .long gs), (2, .long (len &&& (9223372036854775807 : Int64)))]), .inr (0, [(0, .long (id ^^^ d)), (1, .long (gs ^^^ e)), (2, .long (len &&& (9223372036854775807 : Int64)))])], 2, 6)) rfl ?_
            refine EW.call rfl (weq_23 _ _ A id gs (len &&& (9223372036854775807 : Int64)) (id ^^^ d) (gs ^^^ e) (len &&& (9223372036854775807 : Int64))) ?_
            rintro _ _ _ _ ⟨z, e0, ⟨rfl, hz⟩ | ⟨rfl, hz⟩⟩
            · cases e0; have h10 := hz; clear hz
              show EW _ _ _ _ _ ((250, [.val (.long id), .second, .val (.long gs), .second, .val (.long len), .second, .val (.long d), .second, .val (.long e), .second, .val (.int sel), .val (.long (len &&& (9223372036854775807 : Int64))), .second, .val (.int (1 : Int32)), .val (.int (1 : Int32)), .val (.int (0 : Int32)), .val (.long (id ^^^ d)), .second, .val (.long (gs ^^^ e)), .second, .val (.long (d &&& (9223372036854775807 : Int64))), .second, .val (.long (len &&& (9223372036854775807 : Int64))), .second, .val (.ref 2), .val (.ref 3), .val (.int ((XT.ushr sel (3 : Int32)) &&& (3 : Int32))), .val (.int (1 : Int32))], [.int (1 : Int32)]), [.inl (.object "java/lang/Long", A), .inr (1, []), .inr (0, [(0, .long id), (1, .long gs), (2, .long (len &&& (9223372036854775807 : Int64)))]), .inr (0, [(0, .long (id ^^^ d)), (1, .long (gs ^^^ e)), (2, .long (len &&& (9223372036854775807 : Int64)))])], 2, 6)
              refine EW.run 4 (cf' := ((259, [.val (.long id), .second, .val (.long gs), .second, .val (.long len), .second, .val (.long d), .second, .val (.long e), .second, .val (.int sel), .val (.long (len &&& (9223372036854775807 : Int64))), .second, .val (.int (1 : Int32)), .val (.int (1 : Int32)), .val (.int (0 : Int32)), .val (.long (id ^^^ d)), .second, .val (.long (gs ^^^ e)), .second, .val (.long (d &&& (9223372036854775807 : Int64))), .second, .val (.long (len &&& (9223372036854775807 : Int64))), .second, .val (.ref 2), .val (.ref 3), .val (.int ((XT.ushr sel (3 : Int32)) &&& (3 : Int32))), .val (.int (1 : Int32))], [.ref 2, .ref 3]), [.inl (.object "java/lang/Long", A), .inr (1, []), .inr (0, [(0, .long id), (1, .long gs), (2, .long (len &&& (9223372036854775807 : Int64)))]), .inr (0, [(0, .long (id ^^^ d)), (1, .long (gs ^^^ e)), (2, .long (len &&& (9223372036854775807 : Int64)))])], 2, 6)) rfl ?_
              refine EW.call rfl (weq_32 _ _ A id gs (len &&& (9223372036854775807 : Int64)) (id ^^^ d) (gs ^^^ e) (len &&& (9223372036854775807 : Int64))) ?_
              rintro _ _ _ _ ⟨z, e0, ⟨rfl, hz⟩ | ⟨rfl, hz⟩⟩
              · cases e0; have h11 := hz; clear hz
                show EW _ _ _ _ _ ((262, [.val (.long id), .second, .val (.long gs), .second, .val (.long len), .second, .val (.long d), .second, .val (.long e), .second, .val (.int sel), .val (.long (len &&& (9223372036854775807 : Int64))), .second, .val (.int (1 : Int32)), .val (.int (1 : Int32)), .val (.int (0 : Int32)), .val (.long (id ^^^ d)), .second, .val (.long (gs ^^^ e)), .second, .val (.long (d &&& (9223372036854775807 : Int64))), .second, .val (.long (len &&& (9223372036854775807 : Int64))), .second, .val (.ref 2), .val (.ref 3), .val (.int ((XT.ushr sel (3 : Int32)) &&& (3 : Int32))), .val (.int (1 : Int32))], [.int (1 : Int32)]), [.inl (.object "java/lang/Long", A), .inr (1, []), .inr (0, [(0, .long id), (1, .long gs), (2, .long (len &&& (9223372036854775807 : Int64)))]), .inr (0, [(0, .long (id ^^^ d)), (1, .long (gs ^^^ e)), (2, .long (len &&& (9223372036854775807 : Int64)))])], 2, 6)
                refine EW.run 4 (cf' := ((272, [.val (.long id), .second, .val (.long gs), .second, .val (.long len), .second, .val (.long d), .second, .val (.long e), .second, .val (.int sel), .val (.long (len &&& (9223372036854775807 : Int64))), .second, .val (.int (1 : Int32)), .val (.int (1 : Int32)), .val (.int (0 : Int32)), .val (.long (id ^^^ d)), .second, .val (.long (gs ^^^ e)), .second, .val (.long (d &&& (9223372036854775807 : Int64))), .second, .val (.long (len &&& (9223372036854775807 : Int64))), .second, .val (.ref 2), .val (.ref 3), .val (.int ((XT.ushr sel (3 : Int32)) &&& (3 : Int32))), .val (.int (1 : Int32))], [.int (1 : Int32)]), [.inl (.object "java/lang/Long", A), .inr (1, []), .inr (0, [(0, .long id), (1, .long gs), (2, .long (len &&& (9223372036854775807 : Int64)))]), .inr (0, [(0, .long (id ^^^ d)), (1, .long (gs ^^^ e)), (2, .long (len &&& (9223372036854775807 : Int64)))])], 2, 6)) rfl ?_
                exact EW.ret rfl ⟨rfl, Nat.le_of_ble_eq_true rfl, Nat.le_of_ble_eq_true rfl⟩
              · cases e0; have h11 := hz; clear hz
                show EW _ _ _ _ _ ((262, [.val (.long id), .second, .val (.long gs), .second, .val (.long len), .second, .val (.long d), .second, .val (.long e), .second, .val (.int sel), .val (.long (len &&& (9223372036854775807 : Int64))), .second, .val (.int (1 : Int32)), .val (.int (1 : Int32)), .val (.int (0 : Int32)), .val (.long (id ^^^ d)), .second, .val (.long (gs ^^^ e)), .second, .val (.long (d &&& (9223372036854775807 : Int64))), .second, .val (.long (len &&& (9223372036854775807 : Int64))), .second, .val (.ref 2), .val (.ref 3), .val (.int ((XT.ushr sel (3 : Int32)) &&& (3 : Int32))), .val (.int (1 : Int32))], [.int (0 : Int32)]), [.inl (.object "java/lang/Long", A), .inr (1, []), .inr (0, [(0, .long id), (1, .long gs), (2, .long (len &&& (9223372036854775807 : Int64)))]), .inr (0, [(0, .long (id ^^^ d)), (1, .long (gs ^^^ e)), (2, .long (len &&& (9223372036854775807 : Int64)))])], 2, 6)
                refine EW.run 3 (cf' := ((272, [.val (.long id), .second, .val (.long gs), .second, .val (.long len), .second, .val (.long d), .second, .val (.long e), .second, .val (.int sel), .val (.long (len &&& (9223372036854775807 : Int64))), .second, .val (.int (1 : Int32)), .val (.int (1 : Int32)), .val (.int (0 : Int32)), .val (.long (id ^^^ d)), .second, .val (.long (gs ^^^ e)), .second, .val (.long (d &&& (9223372036854775807 : Int64))), .second, .val (.long (len &&& (9223372036854775807 : Int64))), .second, .val (.ref 2), .val (.ref 3), .val (.int ((XT.ushr sel (3 : Int32)) &&& (3 : Int32))), .val (.int (1 : Int32))], [.int (0 : Int32)]), [.inl (.object "java/lang/Long", A), .inr (1, []), .inr (0, [(0, .long id), (1, .long gs), (2, .long (len &&& (9223372036854775807 : Int64)))]), .inr (0, [(0, .long (id ^^^ d)), (1, .long (gs ^^^ e)), (2, .long (len &&& (9223372036854775807 : Int64)))])], 2, 6)) rfl ?_
                exfalso
                have := rng32 ((XT.ushr sel (3 : Int32)) &&& (3 : Int32))
                have := rng32 (XT.ushr sel (3 : Int32))
                have := rng32 sel
                have lt0 : (3 : Int32).toInt = 3 := by decide
                have : (XT.ushr sel (3 : Int32)).toInt = (sel.toInt % 4294967296) / 8 := c_iushr sel (3 : Int32) 3 (by decide) (by decide)
                have : ((XT.ushr sel (3 : Int32)) &&& (3 : Int32)).toInt = (XT.ushr sel (3 : Int32)).toInt % 4 := c_mask (XT.ushr sel (3 : Int32)) (3 : Int32) 2 (by decide) (by decide)
                have lt1 : (1 : Int32).toInt = 1 := by decide
                have lt2 : (2 : Int32).toInt = 2 := by decide
                have := rng64 d
                have lt3 : (0 : Int64).toInt = 0 := by decide
                have := rng64 e
                have := rng64 (id ^^^ d)
                have := rng64 id
                have := c_xorSL id d
                have := own_xor id d
                have := rng64 (gs ^^^ e)
                have := rng64 gs
                have := c_xorSL gs e
                have := own_xor gs e
                omega
            · cases e0; have h10 := hz; clear hz
              show EW _ _ _ _ _ ((250, [.val (.long id), .second, .val (.long gs), .second, .val (.long len), .second, .val (.long d), .second, .val (.long e), .second, .val (.int sel), .val (.long (len &&& (9223372036854775807 : Int64))), .second, .val (.int (1 : Int32)), .val (.int (1 : Int32)), .val (.int (0 : Int32)), .val (.long (id ^^^ d)), .second, .val (.long (gs ^^^ e)), .second, .val (.long (d &&& (9223372036854775807 : Int64))), .second, .val (.long (len &&& (9223372036854775807 : Int64))), .second, .val (.ref 2), .val (.ref 3), .val (.int ((XT.ushr sel (3 : Int32)) &&& (3 : Int32))), .val (.int (1 : Int32))], [.int (0 : Int32)]), [.inl (.object "java/lang/Long", A), .inr (1, []), .inr (0, [(0, .long id), (1, .long gs), (2, .long (len &&& (9223372036854775807 : Int64)))]), .inr (0, [(0, .long (id ^^^ d)), (1, .long (gs ^^^ e)), (2, .long (len &&& (9223372036854775807 : Int64)))])], 2, 6)
              refine EW.run 3 (cf' := ((272, [.val (.long id), .second, .val (.long gs), .second, .val (.long len), .second, .val (.long d), .second, .val (.long e), .second, .val (.int sel), .val (.long (len &&& (9223372036854775807 : Int64))), .second, .val (.int (1 : Int32)), .val (.int (1 : Int32)), .val (.int (0 : Int32)), .val (.long (id ^^^ d)), .second, .val (.long (gs ^^^ e)), .second, .val (.long (d &&& (9223372036854775807 : Int64))), .second, .val (.long (len &&& (9223372036854775807 : Int64))), .second, .val (.ref 2), .val (.ref 3), .val (.int ((XT.ushr sel (3 : Int32)) &&& (3 : Int32))), .val (.int (1 : Int32))], [.int (0 : Int32)]), [.inl (.object "java/lang/Long", A), .inr (1, []), .inr (0, [(0, .long id), (1, .long gs), (2, .long (len &&& (9223372036854775807 : Int64)))]), .inr (0, [(0, .long (id ^^^ d)), (1, .long (gs ^^^ e)), (2, .long (len &&& (9223372036854775807 : Int64)))])], 2, 6)) rfl ?_
              exfalso
              have := rng32 ((XT.ushr sel (3 : Int32)) &&& (3 : Int32))
              have := rng32 (XT.ushr sel (3 : Int32))
              have := rng32 sel
              have lt0 : (3 : Int32).toInt = 3 := by decide
              have : (XT.ushr sel (3 : Int32)).toInt = (sel.toInt % 4294967296) / 8 := c_iushr sel (3 : Int32) 3 (by decide) (by decide)
              have : ((XT.ushr sel (3 : Int32)) &&& (3 : Int32)).toInt = (XT.ushr sel (3 : Int32)).toInt % 4 := c_mask (XT.ushr sel (3 : Int32)) (3 : Int32) 2 (by decide) (by decide)
              have lt1 : (1 : Int32).toInt = 1 := by decide
              have lt2 : (2 : Int32).toInt = 2 := by decide
              have := rng64 d
              have lt3 : (0 : Int64).toInt = 0 := by decide
              have := rng64 e
              have := rng64 (id ^^^ d)
              have := rng64 id
              have := c_xorSL id d
              have := own_xor id d
              have := rng64 (gs ^^^ e)
              have := rng64 gs
              have := c_xorSL gs e
              have := own_xor gs e
              omega
      · have h3 : ((XT.ushr sel (3 : Int32)) &&& (3 : Int32)).toInt = (3 : Int32).toInt := by simp only [cP] at h; omega
        clear h
        show EW _ _ _ _ _ ((192, [.val (.long id), .second, .val (.long gs), .second, .val (.long len), .second, .val (.long d), .second, .val (.long e), .second, .val (.int sel), .val (.long (len &&& (9223372036854775807 : Int64))), .second, .val (.int (1 : Int32)), .val (.int (1 : Int32)), .val (.int (0 : Int32)), .val (.long (id ^^^ d)), .second, .val (.long (gs ^^^ e)), .second, .val (.long (d &&& (9223372036854775807 : Int64))), .second, .val (.long (len &&& (9223372036854775807 : Int64))), .second, .val (.ref 2), .val (.ref 3), .val (.int ((XT.ushr sel (3 : Int32)) &&& (3 : Int32))), .unset], []), [.inl (.object "java/lang/Long", A), .inr (1, []), .inr (0, [(0, .long id), (1, .long gs), (2, .long (len &&& (9223372036854775807 : Int64)))]), .inr (0, [(0, .long (id ^^^ d)), (1, .long (gs ^^^ e)), (2, .long (len &&& (9223372036854775807 : Int64)))])], 2, 6)
        refine EW.run 2 (cf' := ((196, [.val (.long id), .second, .val (.long gs), .second, .val (.long len), .second, .val (.long d), .second, .val (.long e), .second, .val (.int sel), .val (.long (len &&& (9223372036854775807 : Int64))), .second, .val (.int (1 : Int32)), .val (.int (1 : Int32)), .val (.int (0 : Int32)), .val (.long (id ^^^ d)), .second, .val (.long (gs ^^^ e)), .second, .val (.long (d &&& (9223372036854775807 : Int64))), .second, .val (.long (len &&& (9223372036854775807 : Int64))), .second, .val (.ref 2), .val (.ref 3), .val (.int ((XT.ushr sel (3 : Int32)) &&& (3 : Int32))), .unset], [.ref 2, .ref 2]), [.inl (.object "java/lang/Long", A), .inr (1, []), .inr (0, [(0, .long id), (1, .long gs), (2, .long (len &&& (9223372036854775807 : Int64)))]), .inr (0, [(0, .long (id ^^^ d)), (1, .long (gs ^^^ e)), (2, .long (len &&& (9223372036854775807 : Int64)))])], 2, 6)) rfl ?_
        refine EW.call rfl (weq_22 _ _ A id gs (len &&& (9223372036854775807 : Int64)) (id ^^^ d) (gs ^^^ e) (len &&& (9223372036854775807 : Int64))) ?_
        rintro _ _ _ _ ⟨z, e0, ⟨rfl, hz⟩ | ⟨rfl, hz⟩⟩
        · cases e0; have h12 := hz; clear hz
          show EW _ _ _ _ _ ((199, [.val (.long id), .second, .val (.long gs), .second, .val (.long len), .second, .val (.long d), .second, .val (.long e), .second, .val (.int sel), .val (.long (len &&& (9223372036854775807 : Int64))), .second, .val (.int (1 : Int32)), .val (.int (1 : Int32)), .val (.int (0 : Int32)), .val (.long (id ^^^ d)), .second, .val (.long (gs ^^^ e)), .second, .val (.long (d &&& (9223372036854775807 : Int64))), .second, .val (.long (len &&& (9223372036854775807 : Int64))), .second, .val (.ref 2), .val (.ref 3), .val (.int ((XT.ushr sel (3 : Int32)) &&& (3 : Int32))), .unset], [.int (1 : Int32)]), [.inl (.object "java/lang/Long", A), .inr (1, []), .inr (0, [(0, .long id), (1, .long gs), (2, .long (len &&& (9223372036854775807 : Int64)))]), .inr (0, [(0, .long (id ^^^ d)), (1, .long (gs ^^^ e)), (2, .long (len &&& (9223372036854775807 : Int64)))])], 2, 6)
          exact EW.ret rfl ⟨rfl, Nat.le_of_ble_eq_true rfl, Nat.le_of_ble_eq_true rfl⟩
        · cases e0; have h12 := hz; clear hz
          show EW _ _ _ _ _ ((199, [.val (.long id), .second, .val (.long gs), .second, .val (.long len), .second, .val (.long d), .second, .val (.long e), .second, .val (.int sel), .val (.long (len &&& (9223372036854775807 : Int64))), .second, .val (.int (1 : Int32)), .val (.int (1 : Int32)), .val (.int (0 : Int32)), .val (.long (id ^^^ d)), .second, .val (.long (gs ^^^ e)), .second, .val (.long (d &&& (9223372036854775807 : Int64))), .second, .val (.long (len &&& (9223372036854775807 : Int64))), .second, .val (.ref 2), .val (.ref 3), .val (.int ((XT.ushr sel (3 : Int32)) &&& (3 : Int32))), .unset], [.int (0 : Int32)]), [.inl (.object "java/lang/Long", A), .inr (1, []), .inr (0, [(0, .long id), (1, .long gs), (2, .long (len &&& (9223372036854775807 : Int64)))]), .inr (0, [(0, .long (id ^^^ d)), (1, .long (gs ^^^ e)), (2, .long (len &&& (9223372036854775807 : Int64)))])], 2, 6)
          exfalso
          have := rng32 ((XT.ushr sel (3 : Int32)) &&& (3 : Int32))
          have := rng32 (XT.ushr sel (3 : Int32))
          have := rng32 sel
          have lt0 : (3 : Int32).toInt = 3 := by decide
          have : (XT.ushr sel (3 : Int32)).toInt = (sel.toInt % 4294967296) / 8 := c_iushr sel (3 : Int32) 3 (by decide) (by decide)
          have : ((XT.ushr sel (3 : Int32)) &&& (3 : Int32)).toInt = (XT.ushr sel (3 : Int32)).toInt % 4 := c_mask (XT.ushr sel (3 : Int32)) (3 : Int32) 2 (by decide) (by decide)
          have lt1 : (1 : Int32).toInt = 1 := by decide
          have lt2 : (2 : Int32).toInt = 2 := by decide
          have := rng64 (id ^^^ d)
          have := rng64 id
          have := rng64 d
          have := c_xorSL id d
          have := own_xor id d
          have := rng64 (gs ^^^ e)
          have := rng64 gs
          have := rng64 e
          have := c_xorSL gs e
          have := own_xor gs e
          omega
    · have h2 : ((XT.ushr sel (3 : Int32)) &&& (3 : Int32)).toInt = (2 : Int32).toInt := by simp only [cP] at h; omega
      clear h
      show EW _ _ _ _ _ ((171, [.val (.long id), .second, .val (.long gs), .second, .val (.long len), .second, .val (.long d), .second, .val (.long e), .second, .val (.int sel), .val (.long (len &&& (9223372036854775807 : Int64))), .second, .val (.int (1 : Int32)), .val (.int (1 : Int32)), .val (.int (0 : Int32)), .val (.long (id ^^^ d)), .second, .val (.long (gs ^^^ e)), .second, .val (.long (d &&& (9223372036854775807 : Int64))), .second, .val (.long (len &&& (9223372036854775807 : Int64))), .second, .val (.ref 2), .val (.ref 3), .val (.int ((XT.ushr sel (3 : Int32)) &&& (3 : Int32))), .unset], []), [.inl (.object "java/lang/Long", A), .inr (1, []), .inr (0, [(0, .long id), (1, .long gs), (2, .long (len &&& (9223372036854775807 : Int64)))]), .inr (0, [(0, .long (id ^^^ d)), (1, .long (gs ^^^ e)), (2, .long (len &&& (9223372036854775807 : Int64)))])], 2, 6)
      refine EW.run 2 (cf' := ((174, [.val (.long id), .second, .val (.long gs), .second, .val (.long len), .second, .val (.long d), .second, .val (.long e), .second, .val (.int sel), .val (.long (len &&& (9223372036854775807 : Int64))), .second, .val (.int (1 : Int32)), .val (.int (1 : Int32)), .val (.int (0 : Int32)), .val (.long (id ^^^ d)), .second, .val (.long (gs ^^^ e)), .second, .val (.long (d &&& (9223372036854775807 : Int64))), .second, .val (.long (len &&& (9223372036854775807 : Int64))), .second, .val (.ref 2), .val (.ref 3), .val (.int ((XT.ushr sel (3 : Int32)) &&& (3 : Int32))), .unset], [.null, .ref 2]), [.inl (.object "java/lang/Long", A), .inr (1, []), .inr (0, [(0, .long id), (1, .long gs), (2, .long (len &&& (9223372036854775807 : Int64)))]), .inr (0, [(0, .long (id ^^^ d)), (1, .long (gs ^^^ e)), (2, .long (len &&& (9223372036854775807 : Int64)))])], 2, 6)) rfl ?_
      refine EW.call (Qc := fun r => r = (some (.int (0 : Int32)), [.inl (.object "java/lang/Long", A), .inr (1, []), .inr (0, [(0, .long id), (1, .long gs), (2, .long (len &&& (9223372036854775807 : Int64)))]), .inr (0, [(0, .long (id ^^^ d)), (1, .long (gs ^^^ e)), (2, .long (len &&& (9223372036854775807 : Int64)))])], 0, 0)) rfl ?_ ?_
      · show EW _ _ _ _ _ ((0, [.val (.ref 2), .val (.null), .unset], []), [.inl (.object "java/lang/Long", A), .inr (1, []), .inr (0, [(0, .long id), (1, .long gs), (2, .long (len &&& (9223372036854775807 : Int64)))]), .inr (0, [(0, .long (id ^^^ d)), (1, .long (gs ^^^ e)), (2, .long (len &&& (9223372036854775807 : Int64)))])], 0, 0)
        refine EW.run 4 (cf' := ((8, [.val (.ref 2), .val (.null), .unset], [.int (0 : Int32)]), [.inl (.object "java/lang/Long", A), .inr (1, []), .inr (0, [(0, .long id), (1, .long gs), (2, .long (len &&& (9223372036854775807 : Int64)))]), .inr (0, [(0, .long (id ^^^ d)), (1, .long (gs ^^^ e)), (2, .long (len &&& (9223372036854775807 : Int64)))])], 0, 0)) rfl ?_
        exact EW.ret rfl rfl
      rintro _ _ _ _ ⟨⟩
      show EW _ _ _ _ _ ((177, [.val (.long id), .second, .val (.long gs), .second, .val (.long len), .second, .val (.long d), .second, .val (.long e), .second, .val (.int sel), .val (.long (len &&& (9223372036854775807 : Int64))), .second, .val (.int (1 : Int32)), .val (.int (1 : Int32)), .val (.int (0 : Int32)), .val (.long (id ^^^ d)), .second, .val (.long (gs ^^^ e)), .second, .val (.long (d &&& (9223372036854775807 : Int64))), .second, .val (.long (len &&& (9223372036854775807 : Int64))), .second, .val (.ref 2), .val (.ref 3), .val (.int ((XT.ushr sel (3 : Int32)) &&& (3 : Int32))), .unset], [.int (0 : Int32)]), [.inl (.object "java/lang/Long", A), .inr (1, []), .inr (0, [(0, .long id), (1, .long gs), (2, .long (len &&& (9223372036854775807 : Int64)))]), .inr (0, [(0, .long (id ^^^ d)), (1, .long (gs ^^^ e)), (2, .long (len &&& (9223372036854775807 : Int64)))])], 2, 6)
      refine EW.run 3 (cf' := ((185, [.val (.long id), .second, .val (.long gs), .second, .val (.long len), .second, .val (.long d), .second, .val (.long e), .second, .val (.int sel), .val (.long (len &&& (9223372036854775807 : Int64))), .second, .val (.int (1 : Int32)), .val (.int (1 : Int32)), .val (.int (0 : Int32)), .val (.long (id ^^^ d)), .second, .val (.long (gs ^^^ e)), .second, .val (.long (d &&& (9223372036854775807 : Int64))), .second, .val (.long (len &&& (9223372036854775807 : Int64))), .second, .val (.ref 2), .val (.ref 3), .val (.int ((XT.ushr sel (3 : Int32)) &&& (3 : Int32))), .unset], [.int (1 : Int32)]), [.inl (.object "java/lang/Long", A), .inr (1, []), .inr (0, [(0, .long id), (1, .long gs), (2, .long (len &&& (9223372036854775807 : Int64)))]), .inr (0, [(0, .long (id ^^^ d)), (1, .long (gs ^^^ e)), (2, .long (len &&& (9223372036854775807 : Int64)))])], 2, 6)) rfl ?_
      exact EW.ret rfl ⟨rfl, Nat.le_of_ble_eq_true rfl, Nat.le_of_ble_eq_true rfl⟩
  · have h1 : ((XT.ushr sel (3 : Int32)) &&& (3 : Int32)).toInt = (1 : Int32).toInt := by simp only [cP] at h; omega
    clear h
    show EW _ _ _ _ _ ((147, [.val (.long id), .second, .val (.long gs), .second, .val (.long len), .second, .val (.long d), .second, .val (.long e), .second, .val (.int sel), .val (.long (len &&& (9223372036854775807 : Int64))), .second, .val (.int (1 : Int32)), .val (.int (1 : Int32)), .val (.int (0 : Int32)), .val (.long (id ^^^ d)), .second, .val (.long (gs ^^^ e)), .second, .val (.long (d &&& (9223372036854775807 : Int64))), .second, .val (.long (len &&& (9223372036854775807 : Int64))), .second, .val (.ref 2), .val (.ref 3), .val (.int ((XT.ushr sel (3 : Int32)) &&& (3 : Int32))), .unset], []), [.inl (.object "java/lang/Long", A), .inr (1, []), .inr (0, [(0, .long id), (1, .long gs), (2, .long (len &&& (9223372036854775807 : Int64)))]), .inr (0, [(0, .long (id ^^^ d)), (1, .long (gs ^^^ e)), (2, .long (len &&& (9223372036854775807 : Int64)))])], 2, 6)
    refine EW.run 2 (cf' := ((150, [.val (.long id), .second, .val (.long gs), .second, .val (.long len), .second, .val (.long d), .second, .val (.long e), .second, .val (.int sel), .val (.long (len &&& (9223372036854775807 : Int64))), .second, .val (.int (1 : Int32)), .val (.int (1 : Int32)), .val (.int (0 : Int32)), .val (.long (id ^^^ d)), .second, .val (.long (gs ^^^ e)), .second, .val (.long (d &&& (9223372036854775807 : Int64))), .second, .val (.long (len &&& (9223372036854775807 : Int64))), .second, .val (.ref 2), .val (.ref 3), .val (.int ((XT.ushr sel (3 : Int32)) &&& (3 : Int32))), .unset], [.long id, .ref 2]), [.inl (.object "java/lang/Long", A), .inr (1, []), .inr (0, [(0, .long id), (1, .long gs), (2, .long (len &&& (9223372036854775807 : Int64)))]), .inr (0, [(0, .long (id ^^^ d)), (1, .long (gs ^^^ e)), (2, .long (len &&& (9223372036854775807 : Int64)))])], 2, 6)) rfl ?_
    refine EW.call rfl (wval A id gs (len &&& (9223372036854775807 : Int64)) (id ^^^ d) (gs ^^^ e) (len &&& (9223372036854775807 : Int64)) id hin) ?_
    rintro _ _ _ _ (e0 | e0)
    · cases e0
      show EW _ _ _ _ _ ((153, [.val (.long id), .second, .val (.long gs), .second, .val (.long len), .second, .val (.long d), .second, .val (.long e), .second, .val (.int sel), .val (.long (len &&& (9223372036854775807 : Int64))), .second, .val (.int (1 : Int32)), .val (.int (1 : Int32)), .val (.int (0 : Int32)), .val (.long (id ^^^ d)), .second, .val (.long (gs ^^^ e)), .second, .val (.long (d &&& (9223372036854775807 : Int64))), .second, .val (.long (len &&& (9223372036854775807 : Int64))), .second, .val (.ref 2), .val (.ref 3), .val (.int ((XT.ushr sel (3 : Int32)) &&& (3 : Int32))), .unset], [.ref 1, .ref 2]), [.inl (.object "java/lang/Long", A), .inr (1, []), .inr (0, [(0, .long id), (1, .long gs), (2, .long (len &&& (9223372036854775807 : Int64)))]), .inr (0, [(0, .long (id ^^^ d)), (1, .long (gs ^^^ e)), (2, .long (len &&& (9223372036854775807 : Int64)))])], 2, 6)
      refine EW.call (Qc := fun r => r = (some (.int (0 : Int32)), [.inl (.object "java/lang/Long", A), .inr (1, []), .inr (0, [(0, .long id), (1, .long gs), (2, .long (len &&& (9223372036854775807 : Int64)))]), .inr (0, [(0, .long (id ^^^ d)), (1, .long (gs ^^^ e)), (2, .long (len &&& (9223372036854775807 : Int64)))])], 0, 0)) rfl ?_ ?_
      · show EW _ _ _ _ _ ((0, [.val (.ref 2), .val (.ref 1), .unset], []), [.inl (.object "java/lang/Long", A), .inr (1, []), .inr (0, [(0, .long id), (1, .long gs), (2, .long (len &&& (9223372036854775807 : Int64)))]), .inr (0, [(0, .long (id ^^^ d)), (1, .long (gs ^^^ e)), (2, .long (len &&& (9223372036854775807 : Int64)))])], 0, 0)
        refine EW.run 4 (cf' := ((8, [.val (.ref 2), .val (.ref 1), .unset], [.int (0 : Int32)]), [.inl (.object "java/lang/Long", A), .inr (1, []), .inr (0, [(0, .long id), (1, .long gs), (2, .long (len &&& (9223372036854775807 : Int64)))]), .inr (0, [(0, .long (id ^^^ d)), (1, .long (gs ^^^ e)), (2, .long (len &&& (9223372036854775807 : Int64)))])], 0, 0)) rfl ?_
        exact EW.ret rfl rfl
      rintro _ _ _ _ ⟨⟩
      show EW _ _ _ _ _ ((156, [.val (.long id), .second, .val (.long gs), .second, .val (.long len), .second, .val (.long d), .second, .val (.long e), .second, .val (.int sel), .val (.long (len &&& (9223372036854775807 : Int64))), .second, .val (.int (1 : Int32)), .val (.int (1 : Int32)), .val (.int (0 : Int32)), .val (.long (id ^^^ d)), .second, .val (.long (gs ^^^ e)), .second, .val (.long (d &&& (9223372036854775807 : Int64))), .second, .val (.long (len &&& (9223372036854775807 : Int64))), .second, .val (.ref 2), .val (.ref 3), .val (.int ((XT.ushr sel (3 : Int32)) &&& (3 : Int32))), .unset], [.int (0 : Int32)]), [.inl (.object "java/lang/Long", A), .inr (1, []), .inr (0, [(0, .long id), (1, .long gs), (2, .long (len &&& (9223372036854775807 : Int64)))]), .inr (0, [(0, .long (id ^^^ d)), (1, .long (gs ^^^ e)), (2, .long (len &&& (9223372036854775807 : Int64)))])], 2, 6)
      refine EW.run 3 (cf' := ((164, [.val (.long id), .second, .val (.long gs), .second, .val (.long len), .second, .val (.long d), .second, .val (.long e), .second, .val (.int sel), .val (.long (len &&& (9223372036854775807 : Int64))), .second, .val (.int (1 : Int32)), .val (.int (1 : Int32)), .val (.int (0 : Int32)), .val (.long (id ^^^ d)), .second, .val (.long (gs ^^^ e)), .second, .val (.long (d &&& (9223372036854775807 : Int64))), .second, .val (.long (len &&& (9223372036854775807 : Int64))), .second, .val (.ref 2), .val (.ref 3), .val (.int ((XT.ushr sel (3 : Int32)) &&& (3 : Int32))), .unset], [.int (1 : Int32)]), [.inl (.object "java/lang/Long", A), .inr (1, []), .inr (0, [(0, .long id), (1, .long gs), (2, .long (len &&& (9223372036854775807 : Int64)))]), .inr (0, [(0, .long (id ^^^ d)), (1, .long (gs ^^^ e)), (2, .long (len &&& (9223372036854775807 : Int64)))])], 2, 6)) rfl ?_
      exact EW.ret rfl ⟨rfl, Nat.le_of_ble_eq_true rfl, Nat.le_of_ble_eq_true rfl⟩
    · cases e0
      show EW _ _ _ _ _ ((153, [.val (.long id), .second, .val (.long gs), .second, .val (.long len), .second, .val (.long d), .second, .val (.long e), .second, .val (.int sel), .val (.long (len &&& (9223372036854775807 : Int64))), .second, .val (.int (1 : Int32)), .val (.int (1 : Int32)), .val (.int (0 : Int32)), .val (.long (id ^^^ d)), .second, .val (.long (gs ^^^ e)), .second, .val (.long (d &&& (9223372036854775807 : Int64))), .second, .val (.long (len &&& (9223372036854775807 : Int64))), .second, .val (.ref 2), .val (.ref 3), .val (.int ((XT.ushr sel (3 : Int32)) &&& (3 : Int32))), .unset], [.ref 4, .ref 2]), [.inl (.object "java/lang/Long", A), .inr (1, []), .inr (0, [(0, .long id), (1, .long gs), (2, .long (len &&& (9223372036854775807 : Int64)))]), .inr (0, [(0, .long (id ^^^ d)), (1, .long (gs ^^^ e)), (2, .long (len &&& (9223372036854775807 : Int64)))]), .inr (1, [(4, .long id)])], 3, 7)
      refine EW.call (Qc := fun r => r = (some (.int (0 : Int32)), [.inl (.object "java/lang/Long", A), .inr (1, []), .inr (0, [(0, .long id), (1, .long gs), (2, .long (len &&& (9223372036854775807 : Int64)))]), .inr (0, [(0, .long (id ^^^ d)), (1, .long (gs ^^^ e)), (2, .long (len &&& (9223372036854775807 : Int64)))]), .inr (1, [(4, .long id)])], 0, 0)) rfl ?_ ?_
      · show EW _ _ _ _ _ ((0, [.val (.ref 2), .val (.ref 4), .unset], []), [.inl (.object "java/lang/Long", A), .inr (1, []), .inr (0, [(0, .long id), (1, .long gs), (2, .long (len &&& (9223372036854775807 : Int64)))]), .inr (0, [(0, .long (id ^^^ d)), (1, .long (gs ^^^ e)), (2, .long (len &&& (9223372036854775807 : Int64)))]), .inr (1, [(4, .long id)])], 0, 0)
        refine EW.run 4 (cf' := ((8, [.val (.ref 2), .val (.ref 4), .unset], [.int (0 : Int32)]), [.inl (.object "java/lang/Long", A), .inr (1, []), .inr (0, [(0, .long id), (1, .long gs), (2, .long (len &&& (9223372036854775807 : Int64)))]), .inr (0, [(0, .long (id ^^^ d)), (1, .long (gs ^^^ e)), (2, .long (len &&& (9223372036854775807 : Int64)))]), .inr (1, [(4, .long id)])], 0, 0)) rfl ?_
        exact EW.ret rfl rfl
      rintro _ _ _ _ ⟨⟩
      show EW _ _ _ _ _ ((156, [.val (.long id), .second, .val (.long gs), .second, .val (.long len), .second, .val (.long d), .second, .val (.long e), .second, .val (.int sel), .val (.long (len &&& (9223372036854775807 : Int64))), .second, .val (.int (1 : Int32)), .val (.int (1 : Int32)), .val (.int (0 : Int32)), .val (.long (id ^^^ d)), .second, .val (.long (gs ^^^ e)), .second, .val (.long (d &&& (9223372036854775807 : Int64))), .second, .val (.long (len &&& (9223372036854775807 : Int64))), .second, .val (.ref 2), .val (.ref 3), .val (.int ((XT.ushr sel (3 : Int32)) &&& (3 : Int32))), .unset], [.int (0 : Int32)]), [.inl (.object "java/lang/Long", A), .inr (1, []), .inr (0, [(0, .long id), (1, .long gs), (2, .long (len &&& (9223372036854775807 : Int64)))]), .inr (0, [(0, .long (id ^^^ d)), (1, .long (gs ^^^ e)), (2, .long (len &&& (9223372036854775807 : Int64)))]), .inr (1, [(4, .long id)])], 3, 7)
      refine EW.run 3 (cf' := ((164, [.val (.long id), .second, .val (.long gs), .second, .val (.long len), .second, .val (.long d), .second, .val (.long e), .second, .val (.int sel), .val (.long (len &&& (9223372036854775807 : Int64))), .second, .val (.int (1 : Int32)), .val (.int (1 : Int32)), .val (.int (0 : Int32)), .val (.long (id ^^^ d)), .second, .val (.long (gs ^^^ e)), .second, .val (.long (d &&& (9223372036854775807 : Int64))), .second, .val (.long (len &&& (9223372036854775807 : Int64))), .second, .val (.ref 2), .val (.ref 3), .val (.int ((XT.ushr sel (3 : Int32)) &&& (3 : Int32))), .unset], [.int (1 : Int32)]), [.inl (.object "java/lang/Long", A), .inr (1, []), .inr (0, [(0, .long id), (1, .long gs), (2, .long (len &&& (9223372036854775807 : Int64)))]), .inr (0, [(0, .long (id ^^^ d)), (1, .long (gs ^^^ e)), (2, .long (len &&& (9223372036854775807 : Int64)))]), .inr (1, [(4, .long id)])], 3, 7)) rfl ?_
      exact EW.ret rfl ⟨rfl, Nat.le_of_ble_eq_true rfl, Nat.le_of_ble_eq_true rfl⟩
set_option maxHeartbeats 8000000 in
theorem own_c7 (A : List Value) (id gs len d e : Int64) (sel : Int32) (hin : -128 ≤ id.toInt → id.toInt ≤ 127 → (¬ (id.toInt32 + 128) < 0 ∧ A[(id.toInt32 + 128).toNatClampNeg]? = some (.ref 1))) : EW gG 7 160 mL (fun r => r.1 = some (.int 1) ∧ r.2.2.1 ≤ 16 ∧ r.2.2.2 ≤ 128) ((105, [.val (.long id), .second, .val (.long gs), .second, .val (.long len), .second, .val (.long d), .second, .val (.long e), .second, .val (.int sel), .val (.long (len &&& (9223372036854775807 : Int64))), .second, .val (.int (1 : Int32)), .val (.int (1 : Int32)), .val (.int (1 : Int32)), .val (.long (id ^^^ d)), .second, .val (.long (gs ^^^ e)), .second, .val (.long (d &&& (9223372036854775807 : Int64))), .second, .val (.long ((len &&& (9223372036854775807 : Int64)) ^^^ (d &&& (9223372036854775807 : Int64)))), .second, .unset, .unset, .unset, .unset], []), [.inl (.object "java/lang/Long", A), .inr (1, [])], 0, 0) := by
  have lz : (0 : Int64).toInt = 0 := by decide
  refine EW.run 5 (cf' := ((113, [.val (.long id), .second, .val (.long gs), .second, .val (.long len), .second, .val (.long d), .second, .val (.long e), .second, .val (.int sel), .val (.long (len &&& (9223372036854775807 : Int64))), .second, .val (.int (1 : Int32)), .val (.int (1 : Int32)), .val (.int (1 : Int32)), .val (.long (id ^^^ d)), .second, .val (.long (gs ^^^ e)), .second, .val (.long (d &&& (9223372036854775807 : Int64))), .second, .val (.long ((len &&& (9223372036854775807 : Int64)) ^^^ (d &&& (9223372036854775807 : Int64)))), .second, .unset, .unset, .unset, .unset], [.long (len &&& (9223372036854775807 : Int64)), .long gs, .long id, .ref 2, .ref 2]), [.inl (.object "java/lang/Long", A), .inr (1, []), .inr (0, [(0, .long (0 : Int64)), (1, .long (0 : Int64)), (2, .long (0 : Int64))])], 1, 3)) rfl ?_
  refine EW.call (Qc := fun r => r = (none, [.inl (.object "java/lang/Long", A), .inr (1, []), .inr (0, [(0, .long id), (1, .long gs), (2, .long (len &&& (9223372036854775807 : Int64)))])], 0, 0)) rfl ?_ ?_
  · show EW _ _ _ _ _ ((0, [.val (.ref 2), .val (.long id), .second, .val (.long gs), .second, .val (.long (len &&& (9223372036854775807 : Int64))), .second], []), [.inl (.object "java/lang/Long", A), .inr (1, []), .inr (0, [(0, .long (0 : Int64)), (1, .long (0 : Int64)), (2, .long (0 : Int64))])], 0, 0)
    refine EW.run 5 (cf' := ((8, [.val (.ref 2), .val (.long id), .second, .val (.long gs), .second, .val (.long (len &&& (9223372036854775807 : Int64))), .second], [.int (XT.cmpL (len &&& (9223372036854775807 : Int64)) (0 : Int64))]), [.inl (.object "java/lang/Long", A), .inr (1, []), .inr (0, [(0, .long (0 : Int64)), (1, .long (0 : Int64)), (2, .long (0 : Int64))])], 0, 0)) rfl ?_
    refine EW.iflP rfl (by decide) (fun h => ?_) (fun h => ?_)
    · have h1 : (len &&& (9223372036854775807 : Int64)).toInt ≥ (0 : Int64).toInt := by simp only [cP] at h; omega
      clear h
      show EW _ _ _ _ _ ((27, [.val (.ref 2), .val (.long id), .second, .val (.long gs), .second, .val (.long (len &&& (9223372036854775807 : Int64))), .second], []), [.inl (.object "java/lang/Long", A), .inr (1, []), .inr (0, [(0, .long (0 : Int64)), (1, .long (0 : Int64)), (2, .long (0 : Int64))])], 0, 0)
      refine EW.run 6 (cf' := ((37, [.val (.ref 2), .val (.long id), .second, .val (.long gs), .second, .val (.long (len &&& (9223372036854775807 : Int64))), .second], []), [.inl (.object "java/lang/Long", A), .inr (1, []), .inr (0, [(0, .long id), (1, .long gs), (2, .long (0 : Int64))])], 0, 0)) rfl ?_
      refine EW.run 3 (cf' := ((43, [.val (.ref 2), .val (.long id), .second, .val (.long gs), .second, .val (.long (len &&& (9223372036854775807 : Int64))), .second], []), [.inl (.object "java/lang/Long", A), .inr (1, []), .inr (0, [(0, .long id), (1, .long gs), (2, .long (len &&& (9223372036854775807 : Int64)))])], 0, 0)) rfl ?_
      exact EW.ret rfl rfl
    · exfalso
      simp only [cP] at h
      have := rng64 (len &&& (9223372036854775807 : Int64))
      have := rng64 len
      have lt0 : (9223372036854775807 : Int64).toInt = 9223372036854775807 := by decide
      have : (len &&& (9223372036854775807 : Int64)).toInt = len.toInt % 9223372036854775808 := c_maskL len (9223372036854775807 : Int64) 63 (by decide) (by decide)
      have lt1 : (0 : Int64).toInt = 0 := by decide
      omega
  rintro _ _ _ _ ⟨⟩
  show EW _ _ _ _ _ ((116, [.val (.long id), .second, .val (.long gs), .second, .val (.long len), .second, .val (.long d), .second, .val (.long e), .second, .val (.int sel), .val (.long (len &&& (9223372036854775807 : Int64))), .second, .val (.int (1 : Int32)), .val (.int (1 : Int32)), .val (.int (1 : Int32)), .val (.long (id ^^^ d)), .second, .val (.long (gs ^^^ e)), .second, .val (.long (d &&& (9223372036854775807 : Int64))), .second, .val (.long ((len &&& (9223372036854775807 : Int64)) ^^^ (d &&& (9223372036854775807 : Int64)))), .second, .unset, .unset, .unset, .unset], [.ref 2]), [.inl (.object "java/lang/Long", A), .inr (1, []), .inr (0, [(0, .long id), (1, .long gs), (2, .long (len &&& (9223372036854775807 : Int64)))])], 1, 3)
  refine EW.run 6 (cf' := ((128, [.val (.long id), .second, .val (.long gs), .second, .val (.long len), .second, .val (.long d), .second, .val (.long e), .second, .val (.int sel), .val (.long (len &&& (9223372036854775807 : Int64))), .second, .val (.int (1 : Int32)), .val (.int (1 : Int32)), .val (.int (1 : Int32)), .val (.long (id ^^^ d)), .second, .val (.long (gs ^^^ e)), .second, .val (.long (d &&& (9223372036854775807 : Int64))), .second, .val (.long ((len &&& (9223372036854775807 : Int64)) ^^^ (d &&& (9223372036854775807 : Int64)))), .second, .val (.ref 2), .unset, .unset, .unset], [.long ((len &&& (9223372036854775807 : Int64)) ^^^ (d &&& (9223372036854775807 : Int64))), .long (gs ^^^ e), .long (id ^^^ d), .ref 3, .ref 3]), [.inl (.object "java/lang/Long", A), .inr (1, []), .inr (0, [(0, .long id), (1, .long gs), (2, .long (len &&& (9223372036854775807 : Int64)))]), .inr (0, [(0, .long (0 : Int64)), (1, .long (0 : Int64)), (2, .long (0 : Int64))])], 2, 6)) rfl ?_
  refine EW.call (Qc := fun r => r = (none, [.inl (.object "java/lang/Long", A), .inr (1, []), .inr (0, [(0, .long id), (1, .long gs), (2, .long (len &&& (9223372036854775807 : Int64)))]), .inr (0, [(0, .long (id ^^^ d)), (1, .long (gs ^^^ e)), (2, .long ((len &&& (9223372036854775807 : Int64)) ^^^ (d &&& (9223372036854775807 : Int64))))])], 0, 0)) rfl ?_ ?_
  · show EW _ _ _ _ _ ((0, [.val (.ref 3), .val (.long (id ^^^ d)), .second, .val (.long (gs ^^^ e)), .second, .val (.long ((len &&& (9223372036854775807 : Int64)) ^^^ (d &&& (9223372036854775807 : Int64)))), .second], []), [.inl (.object "java/lang/Long", A), .inr (1, []), .inr (0, [(0, .long id), (1, .long gs), (2, .long (len &&& (9223372036854775807 : Int64)))]), .inr (0, [(0, .long (0 : Int64)), (1, .long (0 : Int64)), (2, .long (0 : Int64))])], 0, 0)
    refine EW.run 5 (cf' := ((8, [.val (.ref 3), .val (.long (id ^^^ d)), .second, .val (.long (gs ^^^ e)), .second, .val (.long ((len &&& (9223372036854775807 : Int64)) ^^^ (d &&& (9223372036854775807 : Int64)))), .second], [.int (XT.cmpL ((len &&& (9223372036854775807 : Int64)) ^^^ (d &&& (9223372036854775807 : Int64))) (0 : Int64))]), [.inl (.object "java/lang/Long", A), .inr (1, []), .inr (0, [(0, .long id), (1, .long gs), (2, .long (len &&& (9223372036854775807 : Int64)))]), .inr (0, [(0, .long (0 : Int64)), (1, .long (0 : Int64)), (2, .long (0 : Int64))])], 0, 0)) rfl ?_
    refine EW.iflP rfl (by decide) (fun h => ?_) (fun h => ?_)
    · have h1 : ((len &&& (9223372036854775807 : Int64)) ^^^ (d &&& (9223372036854775807 : Int64))).toInt ≥ (0 : Int64).toInt := by simp only [cP] at h; omega
      clear h
      show EW _ _ _ _ _ ((27, [.val (.ref 3), .val (.long (id ^^^ d)), .second, .val (.long (gs ^^^ e)), .second, .val (.long ((len &&& (9223372036854775807 : Int64)) ^^^ (d &&& (9223372036854775807 : Int64)))), .second], []), [.inl (.object "java/lang/Long", A), .inr (1, []), .inr (0, [(0, .long id), (1, .long gs), (2, .long (len &&& (9223372036854775807 : Int64)))]), .inr (0, [(0, .long (0 : Int64)), (1, .long (0 : Int64)), (2, .long (0 : Int64))])], 0, 0)
      refine EW.run 6 (cf' := ((37, [.val (.ref 3), .val (.long (id ^^^ d)), .second, .val (.long (gs ^^^ e)), .second, .val (.long ((len &&& (9223372036854775807 : Int64)) ^^^ (d &&& (9223372036854775807 : Int64)))), .second], []), [.inl (.object "java/lang/Long", A), .inr (1, []), .inr (0, [(0, .long id), (1, .long gs), (2, .long (len &&& (9223372036854775807 : Int64)))]), .inr (0, [(0, .long (id ^^^ d)), (1, .long (gs ^^^ e)), (2, .long (0 : Int64))])], 0, 0)) rfl ?_
      refine EW.run 3 (cf' := ((43, [.val (.ref 3), .val (.long (id ^^^ d)), .second, .val (.long (gs ^^^ e)), .second, .val (.long ((len &&& (9223372036854775807 : Int64)) ^^^ (d &&& (9223372036854775807 : Int64)))), .second], []), [.inl (.object "java/lang/Long", A), .inr (1, []), .inr (0, [(0, .long id), (1, .long gs), (2, .long (len &&& (9223372036854775807 : Int64)))]), .inr (0, [(0, .long (id ^^^ d)), (1, .long (gs ^^^ e)), (2, .long ((len &&& (9223372036854775807 : Int64)) ^^^ (d &&& (9223372036854775807 : Int64))))])], 0, 0)) rfl ?_
      exact EW.ret rfl rfl
    · exfalso
      simp only [cP] at h
      have := rng64 ((len &&& (9223372036854775807 : Int64)) ^^^ (d &&& (9223372036854775807 : Int64)))
      have := rng64 (len &&& (9223372036854775807 : Int64))
      have := rng64 len
      have lt0 : (9223372036854775807 : Int64).toInt = 9223372036854775807 := by decide
      have : (len &&& (9223372036854775807 : Int64)).toInt = len.toInt % 9223372036854775808 := c_maskL len (9223372036854775807 : Int64) 63 (by decide) (by decide)
      have := rng64 (d &&& (9223372036854775807 : Int64))
      have := rng64 d
      have : (d &&& (9223372036854775807 : Int64)).toInt = d.toInt % 9223372036854775808 := c_maskL d (9223372036854775807 : Int64) 63 (by decide) (by decide)
      have := c_xorSL (len &&& (9223372036854775807 : Int64)) (d &&& (9223372036854775807 : Int64))
      have := own_xor (len &&& (9223372036854775807 : Int64)) (d &&& (9223372036854775807 : Int64))
      have lt1 : (0 : Int64).toInt = 0 := by decide
      omega
  rintro _ _ _ _ ⟨⟩
  show EW _ _ _ _ _ ((131, [.val (.long id), .second, .val (.long gs), .second, .val (.long len), .second, .val (.long d), .second, .val (.long e), .second, .val (.int sel), .val (.long (len &&& (9223372036854775807 : Int64))), .second, .val (.int (1 : Int32)), .val (.int (1 : Int32)), .val (.int (1 : Int32)), .val (.long (id ^^^ d)), .second, .val (.long (gs ^^^ e)), .second, .val (.long (d &&& (9223372036854775807 : Int64))), .second, .val (.long ((len &&& (9223372036854775807 : Int64)) ^^^ (d &&& (9223372036854775807 : Int64)))), .second, .val (.ref 2), .unset, .unset, .unset], [.ref 3]), [.inl (.object "java/lang/Long", A), .inr (1, []), .inr (0, [(0, .long id), (1, .long gs), (2, .long (len &&& (9223372036854775807 : Int64)))]), .inr (0, [(0, .long (id ^^^ d)), (1, .long (gs ^^^ e)), (2, .long ((len &&& (9223372036854775807 : Int64)) ^^^ (d &&& (9223372036854775807 : Int64))))])], 2, 6)
  refine EW.run 6 (cf' := ((139, [.val (.long id), .second, .val (.long gs), .second, .val (.long len), .second, .val (.long d), .second, .val (.long e), .second, .val (.int sel), .val (.long (len &&& (9223372036854775807 : Int64))), .second, .val (.int (1 : Int32)), .val (.int (1 : Int32)), .val (.int (1 : Int32)), .val (.long (id ^^^ d)), .second, .val (.long (gs ^^^ e)), .second, .val (.long (d &&& (9223372036854775807 : Int64))), .second, .val (.long ((len &&& (9223372036854775807 : Int64)) ^^^ (d &&& (9223372036854775807 : Int64)))), .second, .val (.ref 2), .val (.ref 3), .unset, .unset], [.int ((XT.ushr sel (3 : Int32)) &&& (3 : Int32))]), [.inl (.object "java/lang/Long", A), .inr (1, []), .inr (0, [(0, .long id), (1, .long gs), (2, .long (len &&& (9223372036854775807 : Int64)))]), .inr (0, [(0, .long (id ^^^ d)), (1, .long (gs ^^^ e)), (2, .long ((len &&& (9223372036854775807 : Int64)) ^^^ (d &&& (9223372036854775807 : Int64))))])], 2, 6)) rfl ?_
  refine EW.run 3 (cf' := ((144, [.val (.long id), .second, .val (.long gs), .second, .val (.long len), .second, .val (.long d), .second, .val (.long e), .second, .val (.int sel), .val (.long (len &&& (9223372036854775807 : Int64))), .second, .val (.int (1 : Int32)), .val (.int (1 : Int32)), .val (.int (1 : Int32)), .val (.long (id ^^^ d)), .second, .val (.long (gs ^^^ e)), .second, .val (.long (d &&& (9223372036854775807 : Int64))), .second, .val (.long ((len &&& (9223372036854775807 : Int64)) ^^^ (d &&& (9223372036854775807 : Int64)))), .second, .val (.ref 2), .val (.ref 3), .val (.int ((XT.ushr sel (3 : Int32)) &&& (3 : Int32))), .unset], [.int (1 : Int32), .int ((XT.ushr sel (3 : Int32)) &&& (3 : Int32))]), [.inl (.object "java/lang/Long", A), .inr (1, []), .inr (0, [(0, .long id), (1, .long gs), (2, .long (len &&& (9223372036854775807 : Int64)))]), .inr (0, [(0, .long (id ^^^ d)), (1, .long (gs ^^^ e)), (2, .long ((len &&& (9223372036854775807 : Int64)) ^^^ (d &&& (9223372036854775807 : Int64))))])], 2, 6)) rfl ?_
  refine EW.icmpP rfl (by decide) (fun h => ?_) (fun h => ?_)
  · have h1 : ((XT.ushr sel (3 : Int32)) &&& (3 : Int32)).toInt ≠ (1 : Int32).toInt := by simp only [cP] at h; omega
    clear h
    show EW _ _ _ _ _ ((165, [.val (.long id), .second, .val (.long gs), .second, .val (.long len), .second, .val (.long d), .second, .val (.long e), .second, .val (.int sel), .val (.long (len &&& (9223372036854775807 : Int64))), .second, .val (.int (1 : Int32)), .val (.int (1 : Int32)), .val (.int (1 : Int32)), .val (.long (id ^^^ d)), .second, .val (.long (gs ^^^ e)), .second, .val (.long (d &&& (9223372036854775807 : Int64))), .second, .val (.long ((len &&& (9223372036854775807 : Int64)) ^^^ (d &&& (9223372036854775807 : Int64)))), .second, .val (.ref 2), .val (.ref 3), .val (.int ((XT.ushr sel (3 : Int32)) &&& (3 : Int32))), .unset], []), [.inl (.object "java/lang/Long", A), .inr (1, []), .inr (0, [(0, .long id), (1, .long gs), (2, .long (len &&& (9223372036854775807 : Int64)))]), .inr (0, [(0, .long (id ^^^ d)), (1, .long (gs ^^^ e)), (2, .long ((len &&& (9223372036854775807 : Int64)) ^^^ (d &&& (9223372036854775807 : Int64))))])], 2, 6)
    refine EW.run 2 (cf' := ((168, [.val (.long id), .second, .val (.long gs), .second, .val (.long len), .second, .val (.long d), .second, .val (.long e), .second, .val (.int sel), .val (.long (len &&& (9223372036854775807 : Int64))), .second, .val (.int (1 : Int32)), .val (.int (1 : Int32)), .val (.int (1 : Int32)), .val (.long (id ^^^ d)), .second, .val (.long (gs ^^^ e)), .second, .val (.long (d &&& (9223372036854775807 : Int64))), .second, .val (.long ((len &&& (9223372036854775807 : Int64)) ^^^ (d &&& (9223372036854775807 : Int64)))), .second, .val (.ref 2), .val (.ref 3), .val (.int ((XT.ushr sel (3 : Int32)) &&& (3 : Int32))), .unset], [.int (2 : Int32), .int ((XT.ushr sel (3 : Int32)) &&& (3 : Int32))]), [.inl (.object "java/lang/Long", A), .inr (1, []), .inr (0, [(0, .long id), (1, .long gs), (2, .long (len &&& (9223372036854775807 : Int64)))]), .inr (0, [(0, .long (id ^^^ d)), (1, .long (gs ^^^ e)), (2, .long ((len &&& (9223372036854775807 : Int64)) ^^^ (d &&& (9223372036854775807 : Int64))))])], 2, 6)) rfl ?_
    refine EW.icmpP rfl (by decide) (fun h => ?_) (fun h => ?_)
    · have h2 : ((XT.ushr sel (3 : Int32)) &&& (3 : Int32)).toInt ≠ (2 : Int32).toInt := by simp only [cP] at h; omega
      clear h
      show EW _ _ _ _ _ ((186, [.val (.long id), .second, .val (.long gs), .second, .val (.long len), .second, .val (.long d), .second, .val (.long e), .second, .val (.int sel), .val (.long (len &&& (9223372036854775807 : Int64))), .second, .val (.int (1 : Int32)), .val (.int (1 : Int32)), .val (.int (1 : Int32)), .val (.long (id ^^^ d)), .second, .val (.long (gs ^^^ e)), .second, .val (.long (d &&& (9223372036854775807 : Int64))), .second, .val (.long ((len &&& (9223372036854775807 : Int64)) ^^^ (d &&& (9223372036854775807 : Int64)))), .second, .val (.ref 2), .val (.ref 3), .val (.int ((XT.ushr sel (3 : Int32)) &&& (3 : Int32))), .unset], []), [.inl (.object "java/lang/Long", A), .inr (1, []), .inr (0, [(0, .long id), (1, .long gs), (2, .long (len &&& (9223372036854775807 : Int64)))]), .inr (0, [(0, .long (id ^^^ d)), (1, .long (gs ^^^ e)), (2, .long ((len &&& (9223372036854775807 : Int64)) ^^^ (d &&& (9223372036854775807 : Int64))))])], 2, 6)
      refine EW.run 2 (cf' := ((189, [.val (.long id), .second, .val (.long gs), .second, .val (.long len), .second, .val (.long d), .second, .val (.long e), .second, .val (.int sel), .val (.long (len &&& (9223372036854775807 : Int64))), .second, .val (.int (1 : Int32)), .val (.int (1 : Int32)), .val (.int (1 : Int32)), .val (.long (id ^^^ d)), .second, .val (.long (gs ^^^ e)), .second, .val (.long (d &&& (9223372036854775807 : Int64))), .second, .val (.long ((len &&& (9223372036854775807 : Int64)) ^^^ (d &&& (9223372036854775807 : Int64)))), .second, .val (.ref 2), .val (.ref 3), .val (.int ((XT.ushr sel (3 : Int32)) &&& (3 : Int32))), .unset], [.int (3 : Int32), .int ((XT.ushr sel (3 : Int32)) &&& (3 : Int32))]), [.inl (.object "java/lang/Long", A), .inr (1, []), .inr (0, [(0, .long id), (1, .long gs), (2, .long (len &&& (9223372036854775807 : Int64)))]), .inr (0, [(0, .long (id ^^^ d)), (1, .long (gs ^^^ e)), (2, .long ((len &&& (9223372036854775807 : Int64)) ^^^ (d &&& (9223372036854775807 : Int64))))])], 2, 6)) rfl ?_
      refine EW.icmpP rfl (by decide) (fun h => ?_) (fun h => ?_)
      · have h3 : ((XT.ushr sel (3 : Int32)) &&& (3 : Int32)).toInt ≠ (3 : Int32).toInt := by simp only [cP] at h; omega
        clear h
        show EW _ _ _ _ _ ((200, [.val (.long id), .second, .val (.long gs), .second, .val (.long len), .second, .val (.long d), .second, .val (.long e), .second, .val (.int sel), .val (.long (len &&& (9223372036854775807 : Int64))), .second, .val (.int (1 : Int32)), .val (.int (1 : Int32)), .val (.int (1 : Int32)), .val (.long (id ^^^ d)), .second, .val (.long (gs ^^^ e)), .second, .val (.long (d &&& (9223372036854775807 : Int64))), .second, .val (.long ((len &&& (9223372036854775807 : Int64)) ^^^ (d &&& (9223372036854775807 : Int64)))), .second, .val (.ref 2), .val (.ref 3), .val (.int ((XT.ushr sel (3 : Int32)) &&& (3 : Int32))), .unset], []), [.inl (.object "java/lang/Long", A), .inr (1, []), .inr (0, [(0, .long id), (1, .long gs), (2, .long (len &&& (9223372036854775807 : Int64)))]), .inr (0, [(0, .long (id ^^^ d)), (1, .long (gs ^^^ e)), (2, .long ((len &&& (9223372036854775807 : Int64)) ^^^ (d &&& (9223372036854775807 : Int64))))])], 2, 6)
        refine EW.run 5 (cf' := ((209, [.val (.long id), .second, .val (.long gs), .second, .val (.long len), .second, .val (.long d), .second, .val (.long e), .second, .val (.int sel), .val (.long (len &&& (9223372036854775807 : Int64))), .second, .val (.int (1 : Int32)), .val (.int (1 : Int32)), .val (.int (1 : Int32)), .val (.long (id ^^^ d)), .second, .val (.long (gs ^^^ e)), .second, .val (.long (d &&& (9223372036854775807 : Int64))), .second, .val (.long ((len &&& (9223372036854775807 : Int64)) ^^^ (d &&& (9223372036854775807 : Int64)))), .second, .val (.ref 2), .val (.ref 3), .val (.int ((XT.ushr sel (3 : Int32)) &&& (3 : Int32))), .unset], [.int (XT.cmpL d (0 : Int64))]), [.inl (.object "java/lang/Long", A), .inr (1, []), .inr (0, [(0, .long id), (1, .long gs), (2, .long (len &&& (9223372036854775807 : Int64)))]), .inr (0, [(0, .long (id ^^^ d)), (1, .long (gs ^^^ e)), (2, .long ((len &&& (9223372036854775807 : Int64)) ^^^ (d &&& (9223372036854775807 : Int64))))])], 2, 6)) rfl ?_
        refine EW.iflP rfl (by decide) (fun h => ?_) (fun h => ?_)
        · have h4 : d.toInt ≠ (0 : Int64).toInt := by simp only [cP] at h; omega
          clear h
          show EW _ _ _ _ _ ((240, [.val (.long id), .second, .val (.long gs), .second, .val (.long len), .second, .val (.long d), .second, .val (.long e), .second, .val (.int sel), .val (.long (len &&& (9223372036854775807 : Int64))), .second, .val (.int (1 : Int32)), .val (.int (1 : Int32)), .val (.int (1 : Int32)), .val (.long (id ^^^ d)), .second, .val (.long (gs ^^^ e)), .second, .val (.long (d &&& (9223372036854775807 : Int64))), .second, .val (.long ((len &&& (9223372036854775807 : Int64)) ^^^ (d &&& (9223372036854775807 : Int64)))), .second, .val (.ref 2), .val (.ref 3), .val (.int ((XT.ushr sel (3 : Int32)) &&& (3 : Int32))), .unset], []), [.inl (.object "java/lang/Long", A), .inr (1, []), .inr (0, [(0, .long id), (1, .long gs), (2, .long (len &&& (9223372036854775807 : Int64)))]), .inr (0, [(0, .long (id ^^^ d)), (1, .long (gs ^^^ e)), (2, .long ((len &&& (9223372036854775807 : Int64)) ^^^ (d &&& (9223372036854775807 : Int64))))])], 2, 6)
          refine EW.run 4 (cf' := ((247, [.val (.long id), .second, .val (.long gs), .second, .val (.long len), .second, .val (.long d), .second, .val (.long e), .second, .val (.int sel), .val (.long (len &&& (9223372036854775807 : Int64))), .second, .val (.int (1 : Int32)), .val (.int (1 : Int32)), .val (.int (1 : Int32)), .val (.long (id ^^^ d)), .second, .val (.long (gs ^^^ e)), .second, .val (.long (d &&& (9223372036854775807 : Int64))), .second, .val (.long ((len &&& (9223372036854775807 : Int64)) ^^^ (d &&& (9223372036854775807 : Int64)))), .second, .val (.ref 2), .val (.ref 3), .val (.int ((XT.ushr sel (3 : Int32)) &&& (3 : Int32))), .val (.int (0 : Int32))], [.ref 3, .ref 2]), [.inl (.object "java/lang/Long", A), .inr (1, []), .inr (0, [(0, .long id), (1, .long gs), (2, .long (len &&& (9223372036854775807 : Int64)))]), .inr (0, [(0, .long (id ^^^ d)), (1, .long (gs ^^^ e)), (2, .long ((len &&& (9223372036854775807 : Int64)) ^^^ (d &&& (9223372036854775807 : Int64))))])], 2, 6)) rfl ?_
          refine EW.call rfl (weq_23 _ _ A id gs (len &&& (9223372036854775807 : Int64)) (id ^^^ d) (gs ^^^ e) ((len &&& (9223372036854775807 : Int64)) ^^^ (d &&& (9223372036854775807 : Int64)))) ?_
          rintro _ _ _ _ ⟨z, e0, ⟨rfl, hz⟩ | ⟨rfl, hz⟩⟩
          · cases e0; have h5 := hz; clear hz
            show EW _ _ _ _ _ ((250, [.val (.long id), .second, .val (.long gs), .second, .val (.long len), .second, .val (.long d), .second, .val (.long e), .second, .val (.int sel), .val (.long (len &&& (9223372036854775807 : Int64))), .second, .val (.int (1 : Int32)), .val (.int (1 : Int32)), .val (.int (1 : Int32)), .val (.long (id ^^^ d)), .second, .val (.long (gs ^^^ e)), .second, .val (.long (d &&& (9223372036854775807 : Int64))), .second, .val (.long ((len &&& (9223372036854775807 : Int64)) ^^^ (d &&& (9223372036854775807 : Int64)))), .second, .val (.ref 2), .val (.ref 3), .val (.int ((XT.ushr sel (3 : Int32)) &&& (3 : Int32))), .val (.int (0 : Int32))], [.int (1 : Int32)]), [.inl (.object "java/lang/Long", A), .inr (1, []), .inr (0, [(0, .long id), (1, .long gs), (2, .long (len &&& (9223372036854775807 : Int64)))]), .inr (0, [(0, .long (id ^^^ d)), (1, .long (gs ^^^ e)), (2, .long ((len &&& (9223372036854775807 : Int64)) ^^^ (d &&& (9223372036854775807 : Int64))))])], 2, 6)
            refine EW.run 3 (cf' := ((272, [.val (.long id), .second, .val (.long gs), .second, .val (.long len), .second, .val (.long d), .second, .val (.long e), .second, .val (.int sel), .val (.long (len &&& (9223372036854775807 : Int64))), .second, .val (.int (1 : Int32)), .val (.int (1 : Int32)), .val (.int (1 : Int32)), .val (.long (id ^^^ d)), .second, .val (.long (gs ^^^ e)), .second, .val (.long (d &&& (9223372036854775807 : Int64))), .second, .val (.long ((len &&& (9223372036854775807 : Int64)) ^^^ (d &&& (9223372036854775807 : Int64)))), .second, .val (.ref 2), .val (.ref 3), .val (.int ((XT.ushr sel (3 : Int32)) &&& (3 : Int32))), .val (.int (0 : Int32))], [.int (0 : Int32)]), [.inl (.object "java/lang/Long", A), .inr (1, []), .inr (0, [(0, .long id), (1, .long gs), (2, .long (len &&& (9223372036854775807 : Int64)))]), .inr (0, [(0, .long (id ^^^ d)), (1, .long (gs ^^^ e)), (2, .long ((len &&& (9223372036854775807 : Int64)) ^^^ (d &&& (9223372036854775807 : Int64))))])], 2, 6)) rfl ?_
            exfalso
            have := rng32 ((XT.ushr sel (3 : Int32)) &&& (3 : Int32))
            have := rng32 (XT.ushr sel (3 : Int32))
            have := rng32 sel
            have lt0 : (3 : Int32).toInt = 3 := by decide
            have : (XT.ushr sel (3 : Int32)).toInt = (sel.toInt % 4294967296) / 8 := c_iushr sel (3 : Int32) 3 (by decide) (by decide)
            have : ((XT.ushr sel (3 : Int32)) &&& (3 : Int32)).toInt = (XT.ushr sel (3 : Int32)).toInt % 4 := c_mask (XT.ushr sel (3 : Int32)) (3 : Int32) 2 (by decide) (by decide)
            have lt1 : (1 : Int32).toInt = 1 := by decide
            have lt2 : (2 : Int32).toInt = 2 := by decide
            have := rng64 d
            have lt3 : (0 : Int64).toInt = 0 := by decide
            have := rng64 (id ^^^ d)
            have := rng64 id
            have := c_xorSL id d
            have := own_xor id d
            have := rng64 (gs ^^^ e)
            have := rng64 gs
            have := rng64 e
            have := c_xorSL gs e
            have := own_xor gs e
            have := rng64 ((len &&& (9223372036854775807 : Int64)) ^^^ (d &&& (9223372036854775807 : Int64)))
            have := rng64 (len &&& (9223372036854775807 : Int64))
            have := rng64 len
            have lt4 : (9223372036854775807 : Int64).toInt = 9223372036854775807 := by decide
            have : (len &&& (9223372036854775807 : Int64)).toInt = len.toInt % 9223372036854775808 := c_maskL len (9223372036854775807 : Int64) 63 (by decide) (by decide)
            have := rng64 (d &&& (9223372036854775807 : Int64))
            have : (d &&& (9223372036854775807 : Int64)).toInt = d.toInt % 9223372036854775808 := c_maskL d (9223372036854775807 : Int64) 63 (by decide) (by decide)
            have := c_xorSL (len &&& (9223372036854775807 : Int64)) (d &&& (9223372036854775807 : Int64))
            have := own_xor (len &&& (9223372036854775807 : Int64)) (d &&& (9223372036854775807 : Int64))
            omega
          · cases e0; have h5 := hz; clear hz
            show EW _ _ _ _ _ ((250, [.val (.long id), .second, .val (.long gs), .second, .val (.long len), .second, .val (.long d), .second, .val (.long e), .second, .val (.int sel), .val (.long (len &&& (9223372036854775807 : Int64))), .second, .val (.int (1 : Int32)), .val (.int (1 : Int32)), .val (.int (1 : Int32)), .val (.long (id ^^^ d)), .second, .val (.long (gs ^^^ e)), .second, .val (.long (d &&& (9223372036854775807 : Int64))), .second, .val (.long ((len &&& (9223372036854775807 : Int64)) ^^^ (d &&& (9223372036854775807 : Int64)))), .second, .val (.ref 2), .val (.ref 3), .val (.int ((XT.ushr sel (3 : Int32)) &&& (3 : Int32))), .val (.int (0 : Int32))], [.int (0 : Int32)]), [.inl (.object "java/lang/Long", A), .inr (1, []), .inr (0, [(0, .long id), (1, .long gs), (2, .long (len &&& (9223372036854775807 : Int64)))]), .inr (0, [(0, .long (id ^^^ d)), (1, .long (gs ^^^ e)), (2, .long ((len &&& (9223372036854775807 : Int64)) ^^^ (d &&& (9223372036854775807 : Int64))))])], 2, 6)
            refine EW.run 4 (cf' := ((259, [.val (.long id), .second, .val (.long gs), .second, .val (.long len), .second, .val (.long d), .second, .val (.long e), .second, .val (.int sel), .val (.long (len &&& (9223372036854775807 : Int64))), .second, .val (.int (1 : Int32)), .val (.int (1 : Int32)), .val (.int (1 : Int32)), .val (.long (id ^^^ d)), .second, .val (.long (gs ^^^ e)), .second, .val (.long (d &&& (9223372036854775807 : Int64))), .second, .val (.long ((len &&& (9223372036854775807 : Int64)) ^^^ (d &&& (9223372036854775807 : Int64)))), .second, .val (.ref 2), .val (.ref 3), .val (.int ((XT.ushr sel (3 : Int32)) &&& (3 : Int32))), .val (.int (0 : Int32))], [.ref 2, .ref 3]), [.inl (.object "java/lang/Long", A), .inr (1, []), .inr (0, [(0, .long id), (1, .long gs), (2, .long (len &&& (9223372036854775807 : Int64)))]), .inr (0, [(0, .long (id ^^^ d)), (1, .long (gs ^^^ e)), (2, .long ((len &&& (9223372036854775807 : Int64)) ^^^ (d &&& (9223372036854775807 : Int64))))])], 2, 6)) rfl ?_
            refine EW.call rfl (weq_32 _ _ A id gs (len &&& (9223372036854775807 : Int64)) (id ^^^ d) (gs ^^^ e) ((len &&& (9223372036854775807 : Int64)) ^^^ (d &&& (9223372036854775807 : Int64)))) ?_
            rintro _ _ _ _ ⟨z, e0, ⟨rfl, hz⟩ | ⟨rfl, hz⟩⟩
            · cases e0; have h6 := hz; clear hz
              show EW _ _ _ _ _ ((262, [.val (.long id), .second, .val (.long gs), .second, .val (.long len), .second, .val (.long d), .second, .val (.long e), .second, .val (.int sel), .val (.long (len &&& (9223372036854775807 : Int64))), .second, .val (.int (1 : Int32)), .val (.int (1 : Int32)), .val (.int (1 : Int32)), .val (.long (id ^^^ d)), .second, .val (.long (gs ^^^ e)), .second, .val (.long (d &&& (9223372036854775807 : Int64))), .second, .val (.long ((len &&& (9223372036854775807 : Int64)) ^^^ (d &&& (9223372036854775807 : Int64)))), .second, .val (.ref 2), .val (.ref 3), .val (.int ((XT.ushr sel (3 : Int32)) &&& (3 : Int32))), .val (.int (0 : Int32))], [.int (1 : Int32)]), [.inl (.object "java/lang/Long", A), .inr (1, []), .inr (0, [(0, .long id), (1, .long gs), (2, .long (len &&& (9223372036854775807 : Int64)))]), .inr (0, [(0, .long (id ^^^ d)), (1, .long (gs ^^^ e)), (2, .long ((len &&& (9223372036854775807 : Int64)) ^^^ (d &&& (9223372036854775807 : Int64))))])], 2, 6)
              refine EW.run 3 (cf' := ((272, [.val (.long id), .second, .val (.long gs), .second, .val (.long len), .second, .val (.long d), .second, .val (.long e), .second, .val (.int sel), .val (.long (len &&& (9223372036854775807 : Int64))), .second, .val (.int (1 : Int32)), .val (.int (1 : Int32)), .val (.int (1 : Int32)), .val (.long (id ^^^ d)), .second, .val (.long (gs ^^^ e)), .second, .val (.long (d &&& (9223372036854775807 : Int64))), .second, .val (.long ((len &&& (9223372036854775807 : Int64)) ^^^ (d &&& (9223372036854775807 : Int64)))), .second, .val (.ref 2), .val (.ref 3), .val (.int ((XT.ushr sel (3 : Int32)) &&& (3 : Int32))), .val (.int (0 : Int32))], [.int (0 : Int32)]), [.inl (.object "java/lang/Long", A), .inr (1, []), .inr (0, [(0, .long id), (1, .long gs), (2, .long (len &&& (9223372036854775807 : Int64)))]), .inr (0, [(0, .long (id ^^^ d)), (1, .long (gs ^^^ e)), (2, .long ((len &&& (9223372036854775807 : Int64)) ^^^ (d &&& (9223372036854775807 : Int64))))])], 2, 6)) rfl ?_
              exfalso
              have := rng32 ((XT.ushr sel (3 : Int32)) &&& (3 : Int32))
              have := rng32 (XT.ushr sel (3 : Int32))
              have := rng32 sel
              have lt0 : (3 : Int32).toInt = 3 := by decide
              have : (XT.ushr sel (3 : Int32)).toInt = (sel.toInt % 4294967296) / 8 := c_iushr sel (3 : Int32) 3 (by decide) (by decide)
              have : ((XT.ushr sel (3 : Int32)) &&& (3 : Int32)).toInt = (XT.ushr sel (3 : Int32)).toInt % 4 := c_mask (XT.ushr sel (3 : Int32)) (3 : Int32) 2 (by decide) (by decide)
              have lt1 : (1 : Int32).toInt = 1 := by decide
              have lt2 : (2 : Int32).toInt = 2 := by decide
              have := rng64 d
              have lt3 : (0 : Int64).toInt = 0 := by decide
              have := rng64 (id ^^^ d)
              have := rng64 id
              have := c_xorSL id d
              have := own_xor id d
              have := rng64 (gs ^^^ e)
              have := rng64 gs
              have := rng64 e
              have := c_xorSL gs e
              have := own_xor gs e
              have := rng64 ((len &&& (9223372036854775807 : Int64)) ^^^ (d &&& (9223372036854775807 : Int64)))
              have := rng64 (len &&& (9223372036854775807 : Int64))
              have := rng64 len
              have lt4 : (9223372036854775807 : Int64).toInt = 9223372036854775807 := by decide
              have : (len &&& (9223372036854775807 : Int64)).toInt = len.toInt % 9223372036854775808 := c_maskL len (9223372036854775807 : Int64) 63 (by decide) (by decide)
              have := rng64 (d &&& (9223372036854775807 : Int64))
              have : (d &&& (9223372036854775807 : Int64)).toInt = d.toInt % 9223372036854775808 := c_maskL d (9223372036854775807 : Int64) 63 (by decide) (by decide)
              have := c_xorSL (len &&& (9223372036854775807 : Int64)) (d &&& (9223372036854775807 : Int64))
              have := own_xor (len &&& (9223372036854775807 : Int64)) (d &&& (9223372036854775807 : Int64))
              omega
            · cases e0; have h6 := hz; clear hz
              show EW _ _ _ _ _ ((262, [.val (.long id), .second, .val (.long gs), .second, .val (.long len), .second, .val (.long d), .second, .val (.long e), .second, .val (.int sel), .val (.long (len &&& (9223372036854775807 : Int64))), .second, .val (.int (1 : Int32)), .val (.int (1 : Int32)), .val (.int (1 : Int32)), .val (.long (id ^^^ d)), .second, .val (.long (gs ^^^ e)), .second, .val (.long (d &&& (9223372036854775807 : Int64))), .second, .val (.long ((len &&& (9223372036854775807 : Int64)) ^^^ (d &&& (9223372036854775807 : Int64)))), .second, .val (.ref 2), .val (.ref 3), .val (.int ((XT.ushr sel (3 : Int32)) &&& (3 : Int32))), .val (.int (0 : Int32))], [.int (0 : Int32)]), [.inl (.object "java/lang/Long", A), .inr (1, []), .inr (0, [(0, .long id), (1, .long gs), (2, .long (len &&& (9223372036854775807 : Int64)))]), .inr (0, [(0, .long (id ^^^ d)), (1, .long (gs ^^^ e)), (2, .long ((len &&& (9223372036854775807 : Int64)) ^^^ (d &&& (9223372036854775807 : Int64))))])], 2, 6)
              refine EW.run 4 (cf' := ((272, [.val (.long id), .second, .val (.long gs), .second, .val (.long len), .second, .val (.long d), .second, .val (.long e), .second, .val (.int sel), .val (.long (len &&& (9223372036854775807 : Int64))), .second, .val (.int (1 : Int32)), .val (.int (1 : Int32)), .val (.int (1 : Int32)), .val (.long (id ^^^ d)), .second, .val (.long (gs ^^^ e)), .second, .val (.long (d &&& (9223372036854775807 : Int64))), .second, .val (.long ((len &&& (9223372036854775807 : Int64)) ^^^ (d &&& (9223372036854775807 : Int64)))), .second, .val (.ref 2), .val (.ref 3), .val (.int ((XT.ushr sel (3 : Int32)) &&& (3 : Int32))), .val (.int (0 : Int32))], [.int (1 : Int32)]), [.inl (.object "java/lang/Long", A), .inr (1, []), .inr (0, [(0, .long id), (1, .long gs), (2, .long (len &&& (9223372036854775807 : Int64)))]), .inr (0, [(0, .long (id ^^^ d)), (1, .long (gs ^^^ e)), (2, .long ((len &&& (9223372036854775807 : Int64)) ^^^ (d &&& (9223372036854775807 : Int64))))])], 2, 6)) rfl ?_
              exact EW.ret rfl ⟨rfl, Nat.le_of_ble_eq_true rfl, Nat.le_of_ble_eq_true rfl⟩
        · have h4 : d.toInt = (0 : Int64).toInt := by simp only [cP] at h; omega
          clear h
          show EW _ _ _ _ _ ((212, [.val (.long id), .second, .val (.long gs), .second, .val (.long len), .second, .val (.long d), .second, .val (.long e), .second, .val (.int sel), .val (.long (len &&& (9223372036854775807 : Int64))), .second, .val (.int (1 : Int32)), .val (.int (1 : Int32)), .val (.int (1 : Int32)), .val (.long (id ^^^ d)), .second, .val (.long (gs ^^^ e)), .second, .val (.long (d &&& (9223372036854775807 : Int64))), .second, .val (.long ((len &&& (9223372036854775807 : Int64)) ^^^ (d &&& (9223372036854775807 : Int64)))), .second, .val (.ref 2), .val (.ref 3), .val (.int ((XT.ushr sel (3 : Int32)) &&& (3 : Int32))), .unset], []), [.inl (.object "java/lang/Long", A), .inr (1, []), .inr (0, [(0, .long id), (1, .long gs), (2, .long (len &&& (9223372036854775807 : Int64)))]), .inr (0, [(0, .long (id ^^^ d)), (1, .long (gs ^^^ e)), (2, .long ((len &&& (9223372036854775807 : Int64)) ^^^ (d &&& (9223372036854775807 : Int64))))])], 2, 6)
          refine EW.run 5 (cf' := ((221, [.val (.long id), .second, .val (.long gs), .second, .val (.long len), .second, .val (.long d), .second, .val (.long e), .second, .val (.int sel), .val (.long (len &&& (9223372036854775807 : Int64))), .second, .val (.int (1 : Int32)), .val (.int (1 : Int32)), .val (.int (1 : Int32)), .val (.long (id ^^^ d)), .second, .val (.long (gs ^^^ e)), .second, .val (.long (d &&& (9223372036854775807 : Int64))), .second, .val (.long ((len &&& (9223372036854775807 : Int64)) ^^^ (d &&& (9223372036854775807 : Int64)))), .second, .val (.ref 2), .val (.ref 3), .val (.int ((XT.ushr sel (3 : Int32)) &&& (3 : Int32))), .unset], [.int (XT.cmpL e (0 : Int64))]), [.inl (.object "java/lang/Long", A), .inr (1, []), .inr (0, [(0, .long id), (1, .long gs), (2, .long (len &&& (9223372036854775807 : Int64)))]), .inr (0, [(0, .long (id ^^^ d)), (1, .long (gs ^^^ e)), (2, .long ((len &&& (9223372036854775807 : Int64)) ^^^ (d &&& (9223372036854775807 : Int64))))])], 2, 6)) rfl ?_
          refine EW.iflP rfl (by decide) (fun h => ?_) (fun h => ?_)
          · have h7 : e.toInt ≠ (0 : Int64).toInt := by simp only [cP] at h; omega
            clear h
            show EW _ _ _ _ _ ((240, [.val (.long id), .second, .val (.long gs), .second, .val (.long len), .second, .val (.long d), .second, .val (.long e), .second, .val (.int sel), .val (.long (len &&& (9223372036854775807 : Int64))), .second, .val (.int (1 : Int32)), .val (.int (1 : Int32)), .val (.int (1 : Int32)), .val (.long (id ^^^ d)), .second, .val (.long (gs ^^^ e)), .second, .val (.long (d &&& (9223372036854775807 : Int64))), .second, .val (.long ((len &&& (9223372036854775807 : Int64)) ^^^ (d &&& (9223372036854775807 : Int64)))), .second, .val (.ref 2), .val (.ref 3), .val (.int ((XT.ushr sel (3 : Int32)) &&& (3 : Int32))), .unset], []), [.inl (.object "java/lang/Long", A), .inr (1, []), .inr (0, [(0, .long id), (1, .long gs), (2, .long (len &&& (9223372036854775807 : Int64)))]), .inr (0, [(0, .long (id ^^^ d)), (1, .long (gs ^^^ e)), (2, .long ((len &&& (9223372036854775807 : Int64)) ^^^ (d &&& (9223372036854775807 : Int64))))])], 2, 6)
            refine EW.run 4 (cf' := ((247, [.val (.long id), .second, .val (.long gs), .second, .val (.long len), .second, .val (.long d), .second, .val (.long e), .second, .val (.int sel), .val (.long (len &&& (9223372036854775807 : Int64))), .second, .val (.int (1 : Int32)), .val (.int (1 : Int32)), .val (.int (1 : Int32)), .val (.long (id ^^^ d)), .second, .val (.long (gs ^^^ e)), .second, .val (.long (d &&& (9223372036854775807 : Int64))), .second, .val (.long ((len &&& (9223372036854775807 : Int64)) ^^^ (d &&& (9223372036854775807 : Int64)))), .second, .val (.ref 2), .val (.ref 3), .val (.int ((XT.ushr sel (3 : Int32)) &&& (3 : Int32))), .val (.int (0 : Int32))], [.ref 3, .ref 2]), [.inl (.object "java/lang/Long", A), .inr (1, []), .inr (0, [(0, .long id), (1, .long gs), (2, .long (len &&& (9223372036854775807 : Int64)))]), .inr (0, [(0, .long (id ^^^ d)), (1, .long (gs ^^^ e)), (2, .long ((len &&& (9223372036854775807 : Int64)) ^^^ (d &&& (9223372036854775807 : Int64))))])], 2, 6)) rfl ?_
            refine EW.call rfl (weq_23 _ _ A id gs (len &&& (9223372036854775807 : Int64)) (id ^^^ d) (gs ^^^ e) ((len &&& (9223372036854775807 : Int64)) ^^^ (d &&& (9223372036854775807 : Int64)))) ?_
            rintro _ _ _ _ ⟨z, e0, ⟨rfl, hz⟩ | ⟨rfl, hz⟩⟩
            · cases e0; have h8 := hz; clear hz
              show EW _ _ _ _ _ ((250, [.val (.long id), .second, .val (.long gs), .second, .val (.long len), .second, .val (.long d), .second, .val (.long e), .second, .val (.int sel), .val (.long (len &&& (9223372036854775807 : Int64))), .second, .val (.int (1 : Int32)), .val (.int (1 : Int32)), .val (.int (1 : Int32)), .val (.long (id ^^^ d)), .second, .val (.long (gs ^^^ e)), .second, .val (.long (d &&& (9223372036854775807 : Int64))), .second, .val (.long ((len &&& (9223372036854775807 : Int64)) ^^^ (d &&& (9223372036854775807 : Int64)))), .second, .val (.ref 2), .val (.ref 3), .val (.int ((XT.ushr sel (3 : Int32)) &&& (3 : Int32))), .val (.int (0 : Int32))], [.int (1 : Int32)]), [.inl (.object "java/lang/Long", A), .inr (1, []), .inr (0, [(0, .long id), (1, .long gs), (2, .long (len &&& (9223372036854775807 : Int64)))]), .inr (0, [(0, .long (id ^^^ d)), (1, .long (gs ^^^ e)), (2, .long ((len &&& (9223372036854775807 : Int64)) ^^^ (d &&& (9223372036854775807 : Int64))))])], 2, 6)
              refine EW.run 3 (cf' := ((272, [.val (.long id), .second, .val (.long gs), .second, .val (.long len), .second, .val (.long d), .second, .val (.long e), .second, .val (.int sel), .val (.long (len &&& (9223372036854775807 : Int64))), .second, .val (.int (1 : Int32)), .val (.int (1 : Int32)), .val (.int (1 : Int32)), .val (.long (id ^^^ d)), .second, .val (.long (gs ^^^ e)), .second, .val (.long (d &&& (9223372036854775807 : Int64))), .second, .val (.long ((len &&& (9223372036854775807 : Int64)) ^^^ (d &&& (9223372036854775807 : Int64)))), .second, .val (.ref 2), .val (.ref 3), .val (.int ((XT.ushr sel (3 : Int32)) &&& (3 : Int32))), .val (.int (0 : Int32))], [.int (0 : Int32)]), [.inl (.object "java/lang/Long", A), .inr (1, []), .inr (0, [(0, .long id), (1, .long gs), (2, .long (len &&& (9223372036854775807 : Int64)))]), .inr (0, [(0, .long (id ^^^ d)), (1, .long (gs ^^^ e)), (2, .long ((len &&& (9223372036854775807 : Int64)) ^^^ (d &&& (9223372036854775807 : Int64))))])], 2, 6)) rfl ?_
              exfalso
              have := rng32 ((XT.ushr sel (3 : Int32)) &&& (3 : Int32))
              have := rng32 (XT.ushr sel (3 : Int32))
              have := rng32 sel
              have lt0 : (3 : Int32).toInt = 3 := by decide
              have : (XT.ushr sel (3 : Int32)).toInt = (sel.toInt % 4294967296) / 8 := c_iushr sel (3 : Int32) 3 (by decide) (by decide)
              have : ((XT.ushr sel (3 : Int32)) &&& (3 : Int32)).toInt = (XT.ushr sel (3 : Int32)).toInt % 4 := c_mask (XT.ushr sel (3 : Int32)) (3 : Int32) 2 (by decide) (by decide)
              have lt1 : (1 : Int32).toInt = 1 := by decide
              have lt2 : (2 : Int32).toInt = 2 := by decide
              have := rng64 d
              have lt3 : (0 : Int64).toInt = 0 := by decide
              have := rng64 e
              have := rng64 (id ^^^ d)
              have := rng64 id
              have := c_xorSL id d
              have := own_xor id d
              have := rng64 (gs ^^^ e)
              have := rng64 gs
              have := c_xorSL gs e
              have := own_xor gs e
              have := rng64 ((len &&& (9223372036854775807 : Int64)) ^^^ (d &&& (9223372036854775807 : Int64)))
              have := rng64 (len &&& (9223372036854775807 : Int64))
              have := rng64 len
              have lt4 : (9223372036854775807 : Int64).toInt = 9223372036854775807 := by decide
              have : (len &&& (9223372036854775807 : Int64)).toInt = len.toInt % 9223372036854775808 := c_maskL len (9223372036854775807 : Int64) 63 (by decide) (by decide)
              have := rng64 (d &&& (9223372036854775807 : Int64))
              have : (d &&& (9223372036854775807 : Int64)).toInt = d.toInt % 9223372036854775808 := c_maskL d (9223372036854775807 : Int64) 63 (by decide) (by decide)
              have := c_xorSL (len &&& (9223372036854775807 : Int64)) (d &&& (9223372036854775807 : Int64))
              have := own_xor (len &&& (9223372036854775807 : Int64)) (d &&& (9223372036854775807 : Int64))
              omega
            · cases e0; have h8 := hz; clear hz
              show EW _ _ _ _ _ ((250, [.val (.long id), .second, .val (.long gs), .second, .val (.long len), .second, .val (.long d), .second, .val (.long e), .second, .val (.int sel), .val (.long (len &&& (9223372036854775807 : Int64))), .second, .val (.int (1 : Int32)), .val (.int (1 : Int32)), .val (.int (1 : Int32)), .val (.long (id ^^^ d)), .second, .val (.long (gs ^^^ e)), .second, .val (.long (d &&& (9223372036854775807 : Int64))), .second, .val (.long ((len &&& (9223372036854775807 : Int64)) ^^^ (d &&& (9223372036854775807 : Int64)))), .second, .val (.ref 2), .val (.ref 3), .val (.int ((XT.ushr sel (3 : Int32)) &&& (3 : Int32))), .val (.int (0 : Int32))], [.int (0 : Int32)]), [.inl (.object "java/lang/Long", A), .inr (1, []), .inr (0, [(0, .long id), (1, .long gs), (2, .long (len &&& (9223372036854775807 : Int64)))]), .inr (0, [(0, .long (id ^^^ d)), (1, .long (gs ^^^ e)), (2, .long ((len &&& (9223372036854775807 : Int64)) ^^^ (d &&& (9223372036854775807 : Int64))))])], 2, 6)
              refine EW.run 4 (cf' := ((259, [.val (.long id), .second, .val (.long gs), .second, .val (.long len), .second, .val (.long d), .second, .val (.long e), .second, .val (.int sel), .val (.long (len &&& (9223372036854775807 : Int64))), .second, .val (.int (1 : Int32)), .val (.int (1 : Int32)), .val (.int (1 : Int32)), .val (.long (id ^^^ d)), .second, .val (.long (gs ^^^ e)), .second, .val (.long (d &&& (9223372036854775807 : Int64))), .second, .val (.long ((len &&& (9223372036854775807 : Int64)) ^^^ (d &&& (9223372036854775807 : Int64)))), .second, .val (.ref 2), .val (.ref 3), .val (.int ((XT.ushr sel (3 : Int32)) &&& (3 : Int32))), .val (.int (0 : Int32))], [.ref 2, .ref 3]), [.inl (.object "java/lang/Long", A), .inr (1, []), .inr (0, [(0, .long id), (1, .long gs), (2, .long (len &&& (9223372036854775807 : Int64)))]), .inr (0, [(0, .long (id ^^^ d)), (1, .long (gs ^^^ e)), (2, .long ((len &&& (9223372036854775807 : Int64)) ^^^ (d &&& (9223372036854775807 : Int64))))])], 2, 6)) rfl ?_
              refine EW.call rfl (weq_32 _ _ A id gs (len &&& (9223372036854775807 : Int64)) (id ^^^ d) (gs ^^^ e) ((len &&& (9223372036854775807 : Int64)) ^^^ (d &&& (9223372036854775807 : Int64)))) ?_
              rintro _ _ _ _ ⟨z, e0, ⟨rfl, hz⟩ | ⟨rfl, hz⟩⟩
              · cases e0; have h9 := hz; clear hz
                show EW _ _ _ _ _ ((262, [.val (.long id), .second, .val (.long gs), .second, .val (.long len), .second, .val (.long d), .second, .val (.long e), .second, .val (.int sel), .val (.long (len &&& (9223372036854775807 : Int64))), .second, .val (.int (1 : Int32)), .val (.int (1 : Int32)), .val (.int (1 : Int32)), .val (.long (id ^^^ d)), .second, .val (.long (gs ^^^ e)), .second, .val (.long (d &&& (9223372036854775807 : Int64))), .second, .val (.long ((len &&& (9223372036854775807 : Int64)) ^^^ (d &&& (9223372036854775807 : Int64)))), .second, .val (.ref 2), .val (.ref 3), .val (.int ((XT.ushr sel (3 : Int32)) &&& (3 : Int32))), .val (.int (0 : Int32))], [.int (1 : Int32)]), [.inl (.object "java/lang/Long", A), .inr (1, []), .inr (0, [(0, .long id), (1, .long gs), (2, .long (len &&& (9223372036854775807 : Int64)))]), .inr (0, [(0, .long (id ^^^ d)), (1, .long (gs ^^^ e)), (2, .long ((len &&& (9223372036854775807 : Int64)) ^^^ (d &&& (9223372036854775807 : Int64))))])], 2, 6)
                refine EW.run 3 (cf' := ((272, [.val (.long id), .second, .val (.long gs), .second, .val (.long len), .second, .val (.long d), .second, .val (.long e), .second, .val (.int sel), .val (.long (len &&& (9223372036854775807 : Int64))), .second, .val (.int (1 : Int32)), .val (.int (1 : Int32)), .val (.int (1 : Int32)), .val (.long (id ^^^ d)), .second, .val (.long (gs ^^^ e)), .second, .val (.long (d &&& (9223372036854775807 : Int64))), .second, .val (.long ((len &&& (9223372036854775807 : Int64)) ^^^ (d &&& (9223372036854775807 : Int64)))), .second, .val (.ref 2), .val (.ref 3), .val (.int ((XT.ushr sel (3 : Int32)) &&& (3 : Int32))), .val (.int (0 : Int32))], [.int (0 : Int32)]), [.inl (.object "java/lang/Long", A), .inr (1, []), .inr (0, [(0, .long id), (1, .long gs), (2, .long (len &&& (9223372036854775807 : Int64)))]), .inr (0, [(0, .long (id ^^^ d)), (1, .long (gs ^^^ e)), (2, .long ((len &&& (9223372036854775807 : Int64)) ^^^ (d &&& (9223372036854775807 : Int64))))])], 2, 6)) rfl ?_
                exfalso
                have := rng32 ((XT.ushr sel (3 : Int32)) &&& (3 : Int32))
                have := rng32 (XT.ushr sel (3 : Int32))
                have := rng32 sel
                have lt0 : (3 : Int32).toInt = 3 := by decide
                have : (XT.ushr sel (3 : Int32)).toInt = (sel.toInt % 4294967296) / 8 := c_iushr sel (3 : Int32) 3 (by decide) (by decide)
                have : ((XT.ushr sel (3 : Int32)) &&& (3 : Int32)).toInt = (XT.ushr sel (3 : Int32)).toInt % 4 := c_mask (XT.ushr sel (3 : Int32)) (3 : Int32) 2 (by decide) (by decide)
                have lt1 : (1 : Int32).toInt = 1 := by decide
                have lt2 : (2 : Int32).toInt = 2 := by decide
                have := rng64 d
                have lt3 : (0 : Int64).toInt = 0 := by decide
                have := rng64 e
                have := rng64 (id ^^^ d)
                have := rng64 id
                have := c_xorSL id d
                have := own_xor id d
                have := rng64 (gs ^^^ e)
                have := rng64 gs
                have := c_xorSL gs e
                have := own_xor gs e
                have := rng64 ((len &&& (9223372036854775807 : Int64)) ^^^ (d &&& (9223372036854775807 : Int64)))
                have := rng64 (len &&& (9223372036854775807 : Int64))
                have := rng64 len
                have lt4 : (9223372036854775807 : Int64).toInt = 9223372036854775807 := by decide
                have : (len &&& (9223372036854775807 : Int64)).toInt = len.toInt % 9223372036854775808 := c_maskL len (9223372036854775807 : Int64) 63 (by decide) (by decide)
                have := rng64 (d &&& (9223372036854775807 : Int64))
                have : (d &&& (9223372036854775807 : Int64)).toInt = d.toInt % 9223372036854775808 := c_maskL d (9223372036854775807 : Int64) 63 (by decide) (by decide)
                have := c_xorSL (len &&& (9223372036854775807 : Int64)) (d &&& (9223372036854775807 : Int64))
                have := own_xor (len &&& (9223372036854775807 : Int64)) (d &&& (9223372036854775807 : Int64))
                omega
              · cases e0; have h9 := hz; clear hz
                show EW _ _ _ _ _ ((262, [.val (.long id), .second, .val (.long gs), .second, .val (.long len), .second, .val (.long d), .second, .val (.long e), .second, .val (.int sel), .val (.long (len &&& (9223372036854775807 : Int64))), .second, .val (.int (1 : Int32)), .val (.int (1 : Int32)), .val (.int (1 : Int32)), .val (.long (id ^^^ d)), .second, .val (.long (gs ^^^ e)), .second, .val (.long (d &&& (9223372036854775807 : Int64))), .second, .val (.long ((len &&& (9223372036854775807 : Int64)) ^^^ (d &&& (9223372036854775807 : Int64)))), .second, .val (.ref 2), .val (.ref 3), .val (.int ((XT.ushr sel (3 : Int32)) &&& (3 : Int32))), .val (.int (0 : Int32))], [.int (0 : Int32)]), [.inl (.object "java/lang/Long", A), .inr (1, []), .inr (0, [(0, .long id), (1, .long gs), (2, .long (len &&& (9223372036854775807 : Int64)))]), .inr (0, [(0, .long (id ^^^ d)), (1, .long (gs ^^^ e)), (2, .long ((len &&& (9223372036854775807 : Int64)) ^^^ (d &&& (9223372036854775807 : Int64))))])], 2, 6)
                refine EW.run 4 (cf' := ((272, [.val (.long id), .second, .val (.long gs), .second, .val (.long len), .second, .val (.long d), .second, .val (.long e), .second, .val (.int sel), .val (.long (len &&& (9223372036854775807 : Int64))), .second, .val (.int (1 : Int32)), .val (.int (1 : Int32)), .val (.int (1 : Int32)), .val (.long (id ^^^ d)), .second, .val (.long (gs ^^^ e)), .second, .val (.long (d &&& (9223372036854775807 : Int64))), .second, .val (.long ((len &&& (9223372036854775807 : Int64)) ^^^ (d &&& (9223372036854775807 : Int64)))), .second, .val (.ref 2), .val (.ref 3), .val (.int ((XT.ushr sel (3 : Int32)) &&& (3 : Int32))), .val (.int (0 : Int32))], [.int (1 : Int32)]), [.inl (.object "java/lang/Long", A), .inr (1, []), .inr (0, [(0, .long id), (1, .long gs), (2, .long (len &&& (9223372036854775807 : Int64)))]), .inr (0, [(0, .long (id ^^^ d)), (1, .long (gs ^^^ e)), (2, .long ((len &&& (9223372036854775807 : Int64)) ^^^ (d &&& (9223372036854775807 : Int64))))])], 2, 6)) rfl ?_
                exact EW.ret rfl ⟨rfl, Nat.le_of_ble_eq_true rfl, Nat.le_of_ble_eq_true rfl⟩
          · have h7 : e.toInt = (0 : Int64).toInt := by simp only [cP] at h; omega
            clear h
            show EW _ _ _ _ _ ((224, [.val (.long id), .second, .val (.long gs), .second, .val (.long len), .second, .val (.long d), .second, .val (.long e), .second, .val (.int sel), .val (.long (len &&& (9223372036854775807 : Int64))), .second, .val (.int (1 : Int32)), .val (.int (1 : Int32)), .val (.int (1 : Int32)), .val (.long (id ^^^ d)), .second, .val (.long (gs ^^^ e)), .second, .val (.long (d &&& (9223372036854775807 : Int64))), .second, .val (.long ((len &&& (9223372036854775807 : Int64)) ^^^ (d &&& (9223372036854775807 : Int64)))), .second, .val (.ref 2), .val (.ref 3), .val (.int ((XT.ushr sel (3 : Int32)) &&& (3 : Int32))), .unset], []), [.inl (.object "java/lang/Long", A), .inr (1, []), .inr (0, [(0, .long id), (1, .long gs), (2, .long (len &&& (9223372036854775807 : Int64)))]), .inr (0, [(0, .long (id ^^^ d)), (1, .long (gs ^^^ e)), (2, .long ((len &&& (9223372036854775807 : Int64)) ^^^ (d &&& (9223372036854775807 : Int64))))])], 2, 6)
            refine EW.run 5 (cf' := ((233, [.val (.long id), .second, .val (.long gs), .second, .val (.long len), .second, .val (.long d), .second, .val (.long e), .second, .val (.int sel), .val (.long (len &&& (9223372036854775807 : Int64))), .second, .val (.int (1 : Int32)), .val (.int (1 : Int32)), .val (.int (1 : Int32)), .val (.long (id ^^^ d)), .second, .val (.long (gs ^^^ e)), .second, .val (.long (d &&& (9223372036854775807 : Int64))), .second, .val (.long ((len &&& (9223372036854775807 : Int64)) ^^^ (d &&& (9223372036854775807 : Int64)))), .second, .val (.ref 2), .val (.ref 3), .val (.int ((XT.ushr sel (3 : Int32)) &&& (3 : Int32))), .unset], [.int (XT.cmpL (d &&& (9223372036854775807 : Int64)) (0 : Int64))]), [.inl (.object "java/lang/Long", A), .inr (1, []), .inr (0, [(0, .long id), (1, .long gs), (2, .long (len &&& (9223372036854775807 : Int64)))]), .inr (0, [(0, .long (id ^^^ d)), (1, .long (gs ^^^ e)), (2, .long ((len &&& (9223372036854775807 : Int64)) ^^^ (d &&& (9223372036854775807 : Int64))))])], 2, 6)) rfl ?_
            refine EW.iflP rfl (by decide) (fun h => ?_) (fun h => ?_)
            · have h10 : (d &&& (9223372036854775807 : Int64)).toInt ≠ (0 : Int64).toInt := by simp only [cP] at h; omega
              clear h
              show EW _ _ _ _ _ ((240, [.val (.long id), .second, .val (.long gs), .second, .val (.long len), .second, .val (.long d), .second, .val (.long e), .second, .val (.int sel), .val (.long (len &&& (9223372036854775807 : Int64))), .second, .val (.int (1 : Int32)), .val (.int (1 : Int32)), .val (.int (1 : Int32)), .val (.long (id ^^^ d)), .second, .val (.long (gs ^^^ e)), .second, .val (.long (d &&& (9223372036854775807 : Int64))), .second, .val (.long ((len &&& (9223372036854775807 : Int64)) ^^^ (d &&& (9223372036854775807 : Int64)))), .second, .val (.ref 2), .val (.ref 3), .val (.int ((XT.ushr sel (3 : Int32)) &&& (3 : Int32))), .unset], []), [.inl (.object "java/lang/Long", A), .inr (1, []), .inr (0, [(0, .long id), (1, .long gs), (2, .long (len &&& (9223372036854775807 : Int64)))]), .inr (0, [(0, .long (id ^^^ d)), (1, .long (gs ^^^ e)), (2, .long ((len &&& (9223372036854775807 : Int64)) ^^^ (d &&& (9223372036854775807 : Int64))))])], 2, 6)
              refine EW.run 4 (cf' := ((247, [.val (.long id), .second, .val (.long gs), .second, .val (.long len), .second, .val (.long d), .second, .val (.long e), .second, .val (.int sel), .val (.long (len &&& (9223372036854775807 : Int64))), .second, .val (.int (1 : Int32)), .val (.int (1 : Int32)), .val (.int (1 : Int32)), .val (.long (id ^^^ d)), .second, .val (.long (gs ^^^ e)), .second, .val (.long (d &&& (9223372036854775807 : Int64))), .second, .val (.long ((len &&& (9223372036854775807 : Int64)) ^^^ (d &&& (9223372036854775807 : Int64)))), .second, .val (.ref 2), .val (.ref 3), .val (.int ((XT.ushr sel (3 : Int32)) &&& (3 : Int32))), .val (.int (0 : Int32))], [.ref 3, .ref 2]), [.inl (.object "java/lang/Long", A), .inr (1, []), .inr (0, [(0, .long id), (1, .long gs), (2, .long (len &&& (9223372036854775807 : Int64)))]), .inr (0, [(0, .long (id ^^^ d)), (1, .long (gs ^^^ e)), (2, .long ((len &&& (9223372036854775807 : Int64)) ^^^ (d &&& (9223372036854775807 : Int64))))])], 2, 6)) rfl ?_
              refine EW.call rfl (weq_23 _ _ A id gs (len &&& (9223372036854775807 : Int64)) (id ^^^ d) (gs ^^^ e) ((len &&& (9223372036854775807 : Int64)) ^^^ (d &&& (9223372036854775807 : Int64)))) ?_
              rintro _ _ _ _ ⟨z, e0, ⟨rfl, hz⟩ | ⟨rfl, hz⟩⟩
              · cases e0; have h11 := hz; clear hz
                show EW _ _ _ _ _ ((250, [.val (.long id), .second, .val (.long gs), .second, .val (.long len), .second, .val (.long d), .second, .val (.long e), .second, .val (.int sel), .val (.long (len &&& (9223372036854775807 : Int64))), .second, .val (.int (1 : Int32)), .val (.int (1 : Int32)), .val (.int (1 : Int32)), .val (.long (id ^^^ d)), .second, .val (.long (gs ^^^ e)), .second, .val (.long (d &&& (9223372036854775807 : Int64))), .second, .val (.long ((len &&& (9223372036854775807 : Int64)) ^^^ (d &&& (9223372036854775807 : Int64)))), .second, .val (.ref 2), .val (.ref 3), .val (.int ((XT.ushr sel (3 : Int32)) &&& (3 : Int32))), .val (.int (0 : Int32))], [.int (1 : Int32)]), [.inl (.object "java/lang/Long", A), .inr (1, []), .inr (0, [(0, .long id), (1, .long gs), (2, .long (len &&& (9223372036854775807 : Int64)))]), .inr (0, [(0, .long (id ^^^ d)), (1, .long (gs ^^^ e)), (2, .long ((len &&& (9223372036854775807 : Int64)) ^^^ (d &&& (9223372036854775807 : Int64))))])], 2, 6)
                refine EW.run 3 (cf' := ((272, [.val (.long id), .second, .val (.long gs), .second, .val (.long len), .second, .val (.long d), .second, .val (.long e), .second, .val (.int sel), .val (.long (len &&& (9223372036854775807 : Int64))), .second, .val (.int (1 : Int32)), .val (.int (1 : Int32)), .val (.int (1 : Int32)), .val (.long (id ^^^ d)), .second, .val (.long (gs ^^^ e)), .second, .val (.long (d &&& (9223372036854775807 : Int64))), .second, .val (.long ((len &&& (9223372036854775807 : Int64)) ^^^ (d &&& (9223372036854775807 : Int64)))), .second, .val (.ref 2), .val (.ref 3), .val (.int ((XT.ushr sel (3 : Int32)) &&& (3 : Int32))), .val (.int (0 : Int32))], [.int (0 : Int32)]), [.inl (.object "java/lang/Long", A), .inr (1, []), .inr (0, [(0, .long id), (1, .long gs), (2, .long (len &&& (9223372036854775807 : Int64)))]), .inr (0, [(0, .long (id ^^^ d)), (1, .long (gs ^^^ e)), (2, .long ((len &&& (9223372036854775807 : Int64)) ^^^ (d &&& (9223372036854775807 : Int64))))])], 2, 6)) rfl ?_
                exfalso
                have := rng32 ((XT.ushr sel (3 : Int32)) &&& (3 : Int32))
                have := rng32 (XT.ushr sel (3 : Int32))
                have := rng32 sel
                have lt0 : (3 : Int32).toInt = 3 := by decide
                have : (XT.ushr sel (3 : Int32)).toInt = (sel.toInt % 4294967296) / 8 := c_iushr sel (3 : Int32) 3 (by decide) (by decide)
                have : ((XT.ushr sel (3 : Int32)) &&& (3 : Int32)).toInt = (XT.ushr sel (3 : Int32)).toInt % 4 := c_mask (XT.ushr sel (3 : Int32)) (3 : Int32) 2 (by decide) (by decide)
                have lt1 : (1 : Int32).toInt = 1 := by decide
                have lt2 : (2 : Int32).toInt = 2 := by decide
                have := rng64 d
                have lt3 : (0 : Int64).toInt = 0 := by decide
                have := rng64 e
                have := rng64 (d &&& (9223372036854775807 : Int64))
                have lt4 : (9223372036854775807 : Int64).toInt = 9223372036854775807 := by decide
                have : (d &&& (9223372036854775807 : Int64)).toInt = d.toInt % 9223372036854775808 := c_maskL d (9223372036854775807 : Int64) 63 (by decide) (by decide)
                have := rng64 (id ^^^ d)
                have := rng64 id
                have := c_xorSL id d
                have := own_xor id d
                have := rng64 (gs ^^^ e)
                have := rng64 gs
                have := c_xorSL gs e
                have := own_xor gs e
                have := rng64 ((len &&& (9223372036854775807 : Int64)) ^^^ (d &&& (9223372036854775807 : Int64)))
                have := rng64 (len &&& (9223372036854775807 : Int64))
                have := rng64 len
                have : (len &&& (9223372036854775807 : Int64)).toInt = len.toInt % 9223372036854775808 := c_maskL len (9223372036854775807 : Int64) 63 (by decide) (by decide)
                have := c_xorSL (len &&& (9223372036854775807 : Int64)) (d &&& (9223372036854775807 : Int64))
                have := own_xor (len &&& (9223372036854775807 : Int64)) (d &&& (9223372036854775807 : Int64))
                omega
              · cases e0; have h11 := hz; clear hz
                show EW _ _ _ _ _ ((250, [.val (.long id), .second, .val (.long gs), .second, .val (.long len), .second, .val (.long d), .second, .val (.long e), .second, .val (.int sel), .val (.long (len &&& (9223372036854775807 : Int64))), .second, .val (.int (1 : Int32)), .val (.int (1 : Int32)), .val (.int (1 : Int32)), .val (.long (id ^^^ d)), .second, .val (.long (gs ^^^ e)), .second, .val (.long (d &&& (9223372036854775807 : Int64))), .second, .val (.long ((len &&& (9223372036854775807 : Int64)) ^^^ (d &&& (9223372036854775807 : Int64)))), .second, .val (.ref 2), .val (.ref 3), .val (.int ((XT.ushr sel (3 : Int32)) &&& (3 : Int32))), .val (.int (0 : Int32))], [.int (0 : Int32)]), [.inl (.object "java/lang/Long", A), .inr (1, []), .inr (0, [(0, .long id), (1, .long gs), (2, .long (len &&& (9223372036854775807 : Int64)))]), .inr (0, [(0, .long (id ^^^ d)), (1, .long (gs ^^^ e)), (2, .long ((len &&& (9223372036854775807 : Int64)) ^^^ (d &&& (9223372036854775807 : Int64))))])], 2, 6)
                refine EW.run 4 (cf' := ((259, [.val (.long id), .second, .val (.long gs), .second, .val (.long len), .second, .val (.long d), .second, .val (.long e), .second, .val (.int sel), .val (.long (len &&& (9223372036854775807 : Int64))), .second, .val (.int (1 : Int32)), .val (.int (1 : Int32)), .val (.int (1 : Int32)), .val (.long (id ^^^ d)), .second, .val (.long (gs ^^^ e)), .second, .val (.long (d &&& (9223372036854775807 : Int64))), .second, .val (.long ((len &&& (9223372036854775807 : Int64)) ^^^ (d &&& (9223372036854775807 : Int64)))), .second, .val (.ref 2), .val (.ref 3), .val (.int ((XT.ushr sel (3 : Int32)) &&& (3 : Int32))), .val (.int (0 : Int32))], [.ref 2, .ref 3]), [.inl (.object "java/lang/Long", A), .inr (1, []), .inr (0, [(0, .long id), (1, .long gs), (2, .long (len &&& (9223372036854775807 : Int64)))]), .inr (0, [(0, .long (id ^^^ d)), (1, .long (gs ^^^ e)), (2, .long ((len &&& (9223372036854775807 : Int64)) ^^^ (d &&& (9223372036854775807 : Int64))))])], 2, 6)) rfl ?_
                refine EW.call rfl (weq_32 _ _ A id gs (len &&& (9223372036854775807 : Int64)) (id ^^^ d) (gs ^^^ e) ((len &&& (9223372036854775807 : Int64)) ^^^ (d &&& (9223372036854775807 : Int64)))) ?_
                rintro _ _ _ _ ⟨z, e0, ⟨rfl, hz⟩ | ⟨rfl, hz⟩⟩
                · cases e0; have h12 := hz; clear hz
                  show EW _ _ _ _ _ ((262, [.val (.long id), .second, .val (.long gs), .second, .val (.long len), .second, .val (.long d), .second, .val (.long e), .second, .val (.int sel), .val (.long (len &&& (9223372036854775807 : Int64))), .second, .val (.int (1 : Int32)), .val (.int (1 : Int32)), .val (.int (1 : Int32)), .val (.long (id ^^^ d)), .second, .val (.long (gs ^^^ e)), .second, .val (.long (d &&& (9223372036854775807 : Int64))), .second, .val (.long ((len &&& (9223372036854775807 : Int64)) ^^^ (d &&& (9223372036854775807 : Int64)))), .second, .val (.ref 2), .val (.ref 3), .val (.int ((XT.ushr sel (3 : Int32)) &&& (3 : Int32))), .val (.int (0 : Int32))], [.int (1 : Int32)]), [.inl (.object "java/lang/Long", A), .inr (1, []), .inr (0, [(0, .long id), (1, .long gs), (2, .long (len &&& (9223372036854775807 : Int64)))]), .inr (0, [(0, .long (id ^^^ d)), (1, .long (gs ^^^ e)), (2, .long ((len &&& (9223372036854775807 : Int64)) ^^^ (d &&& (9223372036854775807 : Int64))))])], 2, 6)
                  refine EW.run 3 (cf' := ((272, [.val (.long id), .second, .val (.long gs), .second, .val (.long len), .second, .val (.long d), .second, .val (.long e), .second, .val (.int sel), .val (.long (len &&& (9223372036854775807 : Int64))), .second, .val (.int (1 : Int32)), .val (.int (1 : Int32)), .val (.int (1 : Int32)), .val (.long (id ^^^ d)), .second, .val (.long (gs ^^^ e)), .second, .val (.long (d &&& (9223372036854775807 : Int64))), .second, .val (.long ((len &&& (9223372036854775807 : Int64)) ^^^ (d &&& (9223372036854775807 : Int64)))), .second, .val (.ref 2), .val (.ref 3), .val (.int ((XT.ushr sel (3 : Int32)) &&& (3 : Int32))), .val (.int (0 : Int32))], [.int (0 : Int32)]), [.inl (.object "java/lang/Long", A), .inr (1, []), .inr (0, [(0, .long id), (1, .long gs), (2, .long (len &&& (9223372036854775807 : Int64)))]), .inr (0, [(0, .long (id ^^^ d)), (1, .long (gs ^^^ e)), (2, .long ((len &&& (9223372036854775807 : Int64)) ^^^ (d &&& (9223372036854775807 : Int64))))])], 2, 6)) rfl ?_
                  exfalso
                  have := rng32 ((XT.ushr sel (3 : Int32)) &&& (3 : Int32))
                  have := rng32 (XT.ushr sel (3 : Int32))
                  have := rng32 sel
                  have lt0 : (3 : Int32).toInt = 3 := by decide
                  have : (XT.ushr sel (3 : Int32)).toInt = (sel.toInt % 4294967296) / 8 := c_iushr sel (3 : Int32) 3 (by decide) (by decide)
                  have : ((XT.ushr sel (3 : Int32)) &&& (3 : Int32)).toInt = (XT.ushr sel (3 : Int32)).toInt % 4 := c_mask (XT.ushr sel (3 : Int32)) (3 : Int32) 2 (by decide) (by decide)
                  have lt1 : (1 : Int32).toInt = 1 := by decide
                  have lt2 : (2 : Int32).toInt = 2 := by decide
                  have := rng64 d
                  have lt3 : (0 : Int64).toInt = 0 := by decide
                  have := rng64 e
                  have := rng64 (d &&& (9223372036854775807 : Int64))
                  have lt4 : (9223372036854775807 : Int64).toInt = 9223372036854775807 := by decide
                  have : (d &&& (9223372036854775807 : Int64)).toInt = d.toInt % 9223372036854775808 := c_maskL d (9223372036854775807 : Int64) 63 (by decide) (by decide)
                  have := rng64 (id ^^^ d)
                  have := rng64 id
                  have := c_xorSL id d
                  have := own_xor id d
                  have := rng64 (gs ^^^ e)
                  have := rng64 gs
                  have := c_xorSL gs e
                  have := own_xor gs e
                  have := rng64 ((len &&& (9223372036854775807 : Int64)) ^^^ (d &&& (9223372036854775807 : Int64)))
                  have := rng64 (len &&& (9223372036854775807 : Int64))
                  have := rng64 len
                  have : (len &&& (9223372036854775807 : Int64)).toInt = len.toInt % 9223372036854775808 := c_maskL len (9223372036854775807 : Int64) 63 (by decide) (by decide)
                  have := c_xorSL (len &&& (9223372036854775807 : Int64)) (d &&& (9223372036854775807 : Int64))
                  have := own_xor (len &&& (9223372036854775807 : Int64)) (d &&& (9223372036854775807 : Int64))
                  omega
                · cases e0; have h12 := hz; clear hz
                  show EW _ _ _ _ _ ((262, [.val (.long id), .second, .val (.long gs), .second, .val (.long len), .second, .val (.long d), .second, .val (.long e), .second, .val (.int sel), .val (.long (len &&& (9223372036854775807 : Int64))), .second, .val (.int (1 : Int32)), .val (.int (1 : Int32)), .val (.int (1 : Int32)), .val (.long (id ^^^ d)), .second, .val (.long (gs ^^^ e)), .second, .val (.long (d &&& (9223372036854775807 : Int64))), .second, .val (.long ((len &&& (9223372036854775807 : Int64)) ^^^ (d &&& (9223372036854775807 : Int64)))), .second, .val (.ref 2), .val (.ref 3), .val (.int ((XT.ushr sel (3 : Int32)) &&& (3 : Int32))), .val (.int (0 : Int32))], [.int (0 : Int32)]), [.inl (.object "java/lang/Long", A), .inr (1, []), .inr (0, [(0, .long id), (1, .long gs), (2, .long (len &&& (9223372036854775807 : Int64)))]), .inr (0, [(0, .long (id ^^^ d)), (1, .long (gs ^^^ e)), (2, .long ((len &&& (9223372036854775807 : Int64)) ^^^ (d &&& (9223372036854775807 : Int64))))])], 2, 6)
                  refine EW.run 4 (cf' := ((272, [.val (.long id), .second, .val (.long gs), .second, .val (.long len), .second, .val (.long d), .second, .val (.long e), .second, .val (.int sel), .val (.long (len &&& (9223372036854775807 : Int64))), .second, .val (.int (1 : Int32)), .val (.int (1 : Int32)), .val (.int (1 : Int32)), .val (.long (id ^^^ d)), .second, .val (.long (gs ^^^ e)), .second, .val (.long (d &&& (9223372036854775807 : Int64))), .second, .val (.long ((len &&& (9223372036854775807 : Int64)) ^^^ (d &&& (9223372036854775807 : Int64)))), .second, .val (.ref 2), .val (.ref 3), .val (.int ((XT.ushr sel (3 : Int32)) &&& (3 : Int32))), .val (.int (0 : Int32))], [.int (1 : Int32)]), [.inl (.object "java/lang/Long", A), .inr (1, []), .inr (0, [(0, .long id), (1, .long gs), (2, .long (len &&& (9223372036854775807 : Int64)))]), .inr (0, [(0, .long (id ^^^ d)), (1, .long (gs ^^^ e)), (2, .long ((len &&& (9223372036854775807 : Int64)) ^^^ (d &&& (9223372036854775807 : Int64))))])], 2, 6)) rfl ?_
                  exact EW.ret rfl ⟨rfl, Nat.le_of_ble_eq_true rfl, Nat.le_of_ble_eq_true rfl⟩
            · have h10 : (d &&& (9223372036854775807 : Int64)).toInt = (0 : Int64).toInt := by simp only [cP] at h; omega
              clear h
              show EW _ _ _ _ _ ((236, [.val (.long id), .second, .val (.long gs), .second, .val (.long len), .second, .val (.long d), .second, .val (.long e), .second, .val (.int sel), .val (.long (len &&& (9223372036854775807 : Int64))), .second, .val (.int (1 : Int32)), .val (.int (1 : Int32)), .val (.int (1 : Int32)), .val (.long (id ^^^ d)), .second, .val (.long (gs ^^^ e)), .second, .val (.long (d &&& (9223372036854775807 : Int64))), .second, .val (.long ((len &&& (9223372036854775807 : Int64)) ^^^ (d &&& (9223372036854775807 : Int64)))), .second, .val (.ref 2), .val (.ref 3), .val (.int ((XT.ushr sel (3 : Int32)) &&& (3 : Int32))), .unset], []), [.inl (.object "java/lang/Long", A), .inr (1, []), .inr (0, [(0, .long id), (1, .long gs), (2, .long (len &&& (9223372036854775807 : Int64)))]), .inr (0, [(0, .long (id ^^^ d)), (1, .long (gs ^^^ e)), (2, .long ((len &&& (9223372036854775807 : Int64)) ^^^ (d &&& (9223372036854775807 : Int64))))])], 2, 6)
              refine EW.run 5 (cf' := ((247, [.val (.long id), .second, .val (.long gs), .second, .val (.long len), .second, .val (.long d), .second, .val (.long e), .second, .val (.int sel), .val (.long (len &&& (9223372036854775807 : Int64))), .second, .val (.int (1 : Int32)), .val (.int (1 : Int32)), .val (.int (1 : Int32)), .val (.long (id ^^^ d)), .second, .val (.long (gs ^^^ e)), .second, .val (.long (d &&& (9223372036854775807 : Int64))), .second, .val (.long ((len &&& (9223372036854775807 : Int64)) ^^^ (d &&& (9223372036854775807 : Int64)))), .second, .val (.ref 2), .val (.ref 3), .val (.int ((XT.ushr sel (3 : Int32)) &&& (3 : Int32))), .val (.int (1 : Int32))], [.ref 3, .ref 2]), [.inl (.object "java/lang/Long", A), .inr (1, []), .inr (0, [(0, .long id), (1, .long gs), (2, .long (len &&& (9223372036854775807 : Int64)))]), .inr (0, [(0, .long (id ^^^ d)), (1, .long (gs ^^^ e)), (2, .long ((len &&& (9223372036854775807 : Int64)) ^^^ (d &&& (9223372036854775807 : Int64))))])], 2, 6)) rfl ?_
              refine EW.call rfl (weq_23 _ _ A id gs (len &&& (9223372036854775807 : Int64)) (id ^^^ d) (gs ^^^ e) ((len &&& (9223372036854775807 : Int64)) ^^^ (d &&& (9223372036854775807 : Int64)))) ?_
              rintro _ _ _ _ ⟨z, e0, ⟨rfl, hz⟩ | ⟨rfl, hz⟩⟩
              · cases e0; have h13 := hz; clear hz
                show EW _ _ _ _ _ ((250, [.val (.long id), .second, .val (.long gs), .second, .val (.long len), .second, .val (.long d), .second, .val (.long e), .second, .val (.int sel), .val (.long (len &&& (9223372036854775807 : Int64))), .second, .val (.int (1 : Int32)), .val (.int (1 : Int32)), .val (.int (1 : Int32)), .val (.long (id ^^^ d)), .second, .val (.long (gs ^^^ e)), .second, .val (.long (d &&& (9223372036854775807 : Int64))), .second, .val (.long ((len &&& (9223372036854775807 : Int64)) ^^^ (d &&& (9223372036854775807 : Int64)))), .second, .val (.ref 2), .val (.ref 3), .val (.int ((XT.ushr sel (3 : Int32)) &&& (3 : Int32))), .val (.int (1 : Int32))], [.int (1 : Int32)]), [.inl (.object "java/lang/Long", A), .inr (1, []), .inr (0, [(0, .long id), (1, .long gs), (2, .long (len &&& (9223372036854775807 : Int64)))]), .inr (0, [(0, .long (id ^^^ d)), (1, .long (gs ^^^ e)), (2, .long ((len &&& (9223372036854775807 : Int64)) ^^^ (d &&& (9223372036854775807 : Int64))))])], 2, 6)
                refine EW.run 4 (cf' := ((259, [.val (.long id), .second, .val (.long gs), .second, .val (.long len), .second, .val (.long d), .second, .val (.long e), .second, .val (.int sel), .val (.long (len &&& (9223372036854775807 : Int64))), .second, .val (.int (1 : Int32)), .val (.int (1 : Int32)), .val (.int (1 : Int32)), .val (.long (id ^^^ d)), .second, .val (.long (gs ^^^ e)), .second, .val (.long (d &&& (9223372036854775807 : Int64))), .second, .val (.long ((len &&& (9223372036854775807 : Int64)) ^^^ (d &&& (9223372036854775807 : Int64)))), .second, .val (.ref 2), .val (.ref 3), .val (.int ((XT.ushr sel (3 : Int32)) &&& (3 : Int32))), .val (.int (1 : Int32))], [.ref 2, .ref 3]), [.inl (.object "java/lang/Long", A), .inr (1, []), .inr (0, [(0, .long id), (1, .long gs), (2, .long (len &&& (9223372036854775807 : Int64)))]), .inr (0, [(0, .long (id ^^^ d)), (1, .long (gs ^^^ e)), (2, .long ((len &&& (9223372036854775807 : Int64)) ^^^ (d &&& (9223372036854775807 : Int64))))])], 2, 6)) rfl ?_
                refine EW.call rfl (weq_32 _ _ A id gs (len &&& (9223372036854775807 : Int64)) (id ^^^ d) (gs ^^^ e) ((len &&& (9223372036854775807 : Int64)) ^^^ (d &&& (9223372036854775807 : Int64)))) ?_
                rintro _ _ _ _ ⟨z, e0, ⟨rfl, hz⟩ | ⟨rfl, hz⟩⟩
                · cases e0; have h14 := hz; clear hz
                  show EW _ _ _ _ _ ((262, [.val (.long id), .second, .val (.long gs), .second, .val (.long len), .second, .val (.long d), .second, .val (.long e), .second, .val (.int sel), .val (.long (len &&& (9223372036854775807 : Int64))), .second, .val (.int (1 : Int32)), .val (.int (1 : Int32)), .val (.int (1 : Int32)), .val (.long (id ^^^ d)), .second, .val (.long (gs ^^^ e)), .second, .val (.long (d &&& (9223372036854775807 : Int64))), .second, .val (.long ((len &&& (9223372036854775807 : Int64)) ^^^ (d &&& (9223372036854775807 : Int64)))), .second, .val (.ref 2), .val (.ref 3), .val (.int ((XT.ushr sel (3 : Int32)) &&& (3 : Int32))), .val (.int (1 : Int32))], [.int (1 : Int32)]), [.inl (.object "java/lang/Long", A), .inr (1, []), .inr (0, [(0, .long id), (1, .long gs), (2, .long (len &&& (9223372036854775807 : Int64)))]), .inr (0, [(0, .long (id ^^^ d)), (1, .long (gs ^^^ e)), (2, .long ((len &&& (9223372036854775807 : Int64)) ^^^ (d &&& (9223372036854775807 : Int64))))])], 2, 6)
                  refine EW.run 4 (cf' := ((272, [.val (.long id), .second, .val (.long gs), .second, .val (.long len), .second, .val (.long d), .second, .val (.long e), .second, .val (.int sel), .val (.long (len &&& (9223372036854775807 : Int64))), .second, .val (.int (1 : Int32)), .val (.int (1 : Int32)), .val (.int (1 : Int32)), .val (.long (id ^^^ d)), .second, .val (.long (gs ^^^ e)), .second, .val (.long (d &&& (9223372036854775807 : Int64))), .second, .val (.long ((len &&& (9223372036854775807 : Int64)) ^^^ (d &&& (9223372036854775807 : Int64)))), .second, .val (.ref 2), .val (.ref 3), .val (.int ((XT.ushr sel (3 : Int32)) &&& (3 : Int32))), .val (.int (1 : Int32))], [.int (1 : Int32)]), [.inl (.object "java/lang/Long", A), .inr (1, []), .inr (0, [(0, .long id), (1, .long gs), (2, .long (len &&& (9223372036854775807 : Int64)))]), .inr (0, [(0, .long (id ^^^ d)), (1, .long (gs ^^^ e)), (2, .long ((len &&& (9223372036854775807 : Int64)) ^^^ (d &&& (9223372036854775807 : Int64))))])], 2, 6)) rfl ?_
                  exact EW.ret rfl ⟨rfl, Nat.le_of_ble_eq_true rfl, Nat.le_of_ble_eq_true rfl⟩
                · cases e0; have h14 := hz; clear hz
                  show EW _ _ _ _ _ ((262, [.val (.long id), .second, .val (.long gs), .second, .val (.long len), .second, .val (.long d), .second, .val (.long e), .second, .val (.int sel), .val (.long (len &&& (9223372036854775807 : Int64))), .second, .val (.int (1 : Int32)), .val (.int (1 : Int32)), .val (.int (1 : Int32)), .val (.long (id ^^^ d)), .second, .val (.long (gs ^^^ e)), .second, .val (.long (d &&& (9223372036854775807 : Int64))), .second, .val (.long ((len &&& (9223372036854775807 : Int64)) ^^^ (d &&& (9223372036854775807 : Int64)))), .second, .val (.ref 2), .val (.ref 3), .val (.int ((XT.ushr sel (3 : Int32)) &&& (3 : Int32))), .val (.int (1 : Int32))], [.int (0 : Int32)]), [.inl (.object "java/lang/Long", A), .inr (1, []), .inr (0, [(0, .long id), (1, .long gs), (2, .long (len &&& (9223372036854775807 : Int64)))]), .inr (0, [(0, .long (id ^^^ d)), (1, .long (gs ^^^ e)), (2, .long ((len &&& (9223372036854775807 : Int64)) ^^^ (d &&& (9223372036854775807 : Int64))))])], 2, 6)
                  refine EW.run 3 (cf' := ((272, [.val (.long id), .second, .val (.long gs), .second, .val (.long len), .second, .val (.long d), .second, .val (.long e), .second, .val (.int sel), .val (.long (len &&& (9223372036854775807 : Int64))), .second, .val (.int (1 : Int32)), .val (.int (1 : Int32)), .val (.int (1 : Int32)), .val (.long (id ^^^ d)), .second, .val (.long (gs ^^^ e)), .second, .val (.long (d &&& (9223372036854775807 : Int64))), .second, .val (.long ((len &&& (9223372036854775807 : Int64)) ^^^ (d &&& (9223372036854775807 : Int64)))), .second, .val (.ref 2), .val (.ref 3), .val (.int ((XT.ushr sel (3 : Int32)) &&& (3 : Int32))), .val (.int (1 : Int32))], [.int (0 : Int32)]), [.inl (.object "java/lang/Long", A), .inr (1, []), .inr (0, [(0, .long id), (1, .long gs), (2, .long (len &&& (9223372036854775807 : Int64)))]), .inr (0, [(0, .long (id ^^^ d)), (1, .long (gs ^^^ e)), (2, .long ((len &&& (9223372036854775807 : Int64)) ^^^ (d &&& (9223372036854775807 : Int64))))])], 2, 6)) rfl ?_
                  exfalso
                  have := rng32 ((XT.ushr sel (3 : Int32)) &&& (3 : Int32))
                  have := rng32 (XT.ushr sel (3 : Int32))
                  have := rng32 sel
                  have lt0 : (3 : Int32).toInt = 3 := by decide
                  have : (XT.ushr sel (3 : Int32)).toInt = (sel.toInt % 4294967296) / 8 := c_iushr sel (3 : Int32) 3 (by decide) (by decide)
                  have : ((XT.ushr sel (3 : Int32)) &&& (3 : Int32)).toInt = (XT.ushr sel (3 : Int32)).toInt % 4 := c_mask (XT.ushr sel (3 : Int32)) (3 : Int32) 2 (by decide) (by decide)
                  have lt1 : (1 : Int32).toInt = 1 := by decide
                  have lt2 : (2 : Int32).toInt = 2 := by decide
                  have := rng64 d
                  have lt3 : (0 : Int64).toInt = 0 := by decide
                  have := rng64 e
                  have := rng64 (d &&& (9223372036854775807 : Int64))
                  have lt4 : (9223372036854775807 : Int64).toInt = 9223372036854775807 := by decide
                  have : (d &&& (9223372036854775807 : Int64)).toInt = d.toInt % 9223372036854775808 := c_maskL d (9223372036854775807 : Int64) 63 (by decide) (by decide)
                  have := rng64 (id ^^^ d)
                  have := rng64 id
                  have := c_xorSL id d
                  have := own_xor id d
                  have := rng64 (gs ^^^ e)
                  have := rng64 gs
                  have := c_xorSL gs e
                  have := own_xor gs e
                  have := rng64 ((len &&& (9223372036854775807 : Int64)) ^^^ (d &&& (9223372036854775807 : Int64)))
                  have := rng64 (len &&& (9223372036854775807 : Int64))
                  have := rng64 len
                  have : (len &&& (9223372036854775807 : Int64)).toInt = len.toInt % 9223372036854775808 := c_maskL len (9223372036854775807 : Int64) 63 (by decide) (by decide)
                  have := c_xorSL (len &&& (9223372036854775807 : Int64)) (d &&& (9223372036854775807 : Int64))
                  have := own_xor (len &&& (9223372036854775807 : Int64)) (d &&& (9223372036854775807 : Int64))
                  omega
              · cases e0; have h13 := hz; clear hz
                show EW _ _ _ _ _ ((250, [.val (.long id), .second, .val (.long gs), .second, .val (.long len), .second, .val (.long d), .second, .val (.long e), .second, .val (.int sel), .val (.long (len &&& (9223372036854775807 : Int64))), .second, .val (.int (1 : Int32)), .val (.int (1 : Int32)), .val (.int (1 : Int32)), .val (.long (id ^^^ d)), .second, .val (.long (gs ^^^ e)), .second, .val (.long (d &&& (9223372036854775807 : Int64))), .second, .val (.long ((len &&& (9223372036854775807 : Int64)) ^^^ (d &&& (9223372036854775807 : Int64)))), .second, .val (.ref 2), .val (.ref 3), .val (.int ((XT.ushr sel (3 : Int32)) &&& (3 : Int32))), .val (.int (1 : Int32))], [.int (0 : Int32)]), [.inl (.object "java/lang/Long", A), .inr (1, []), .inr (0, [(0, .long id), (1, .long gs), (2, .long (len &&& (9223372036854775807 : Int64)))]), .inr (0, [(0, .long (id ^^^ d)), (1, .long (gs ^^^ e)), (2, .long ((len &&& (9223372036854775807 : Int64)) ^^^ (d &&& (9223372036854775807 : Int64))))])], 2, 6)
                refine EW.run 3 (cf' := ((272, [.val (.long id), .second, .val (.long gs), .second, .val (.long len), .second, .val (.long d), .second, .val (.long e), .second, .val (.int sel), .val (.long (len &&& (9223372036854775807 : Int64))), .second, .val (.int (1 : Int32)), .val (.int (1 : Int32)), .val (.int (1 : Int32)), .val (.long (id ^^^ d)), .second, .val (.long (gs ^^^ e)), .second, .val (.long (d &&& (9223372036854775807 : Int64))), .second, .val (.long ((len &&& (9223372036854775807 : Int64)) ^^^ (d &&& (9223372036854775807 : Int64)))), .second, .val (.ref 2), .val (.ref 3), .val (.int ((XT.ushr sel (3 : Int32)) &&& (3 : Int32))), .val (.int (1 : Int32))], [.int (0 : Int32)]), [.inl (.object "java/lang/Long", A), .inr (1, []), .inr (0, [(0, .long id), (1, .long gs), (2, .long (len &&& (9223372036854775807 : Int64)))]), .inr (0, [(0, .long (id ^^^ d)), (1, .long (gs ^^^ e)), (2, .long ((len &&& (9223372036854775807 : Int64)) ^^^ (d &&& (9223372036854775807 : Int64))))])], 2, 6)) rfl ?_
                exfalso
                have := rng32 ((XT.ushr sel (3 : Int32)) &&& (3 : Int32))
                have := rng32 (XT.ushr sel (3 : Int32))
                have := rng32 sel
                have lt0 : (3 : Int32).toInt = 3 := by decide
                have : (XT.ushr sel (3 : Int32)).toInt = (sel.toInt % 4294967296) / 8 := c_iushr sel (3 : Int32) 3 (by decide) (by decide)
                have : ((XT.ushr sel (3 : Int32)) &&& (3 : Int32)).toInt = (XT.ushr sel (3 : Int32)).toInt % 4 := c_mask (XT.ushr sel (3 : Int32)) (3 : Int32) 2 (by decide) (by decide)
                have lt1 : (1 : Int32).toInt = 1 := by decide
                have lt2 : (2 : Int32).toInt = 2 := by decide
                have := rng64 d
                have lt3 : (0 : Int64).toInt = 0 := by decide
                have := rng64 e
                have := rng64 (d &&& (9223372036854775807 : Int64))
                have lt4 : (9223372036854775807 : Int64).toInt = 9223372036854775807 := by decide
                have : (d &&& (9223372036854775807 : Int64)).toInt = d.toInt % 9223372036854775808 := c_maskL d (9223372036854775807 : Int64) 63 (by decide) (by decide)
                have := rng64 (id ^^^ d)
                have := rng64 id
                have := c_xorSL id d
                have := own_xor id d
                have := rng64 (gs ^^^ e)
                have := rng64 gs
                have := c_xorSL gs e
                have := own_xor gs e
                have := rng64 ((len &&& (9223372036854775807 : Int64)) ^^^ (d &&& (9223372036854775807 : Int64)))
                have := rng64 (len &&& (9223372036854775807 : Int64))
                have := rng64 len
                have : (len &&& (9223372036854775807 : Int64)).toInt = len.toInt % 9223372036854775808 := c_maskL len (9223372036854775807 : Int64) 63 (by decide) (by decide)
                have := c_xorSL (len &&& (9223372036854775807 : Int64)) (d &&& (9223372036854775807 : Int64))
                have := own_xor (len &&& (9223372036854775807 : Int64)) (d &&& (9223372036854775807 : Int64))
                omega
      · have h3 : ((XT.ushr sel (3 : Int32)) &&& (3 : Int32)).toInt = (3 : Int32).toInt := by simp only [cP] at h; omega
        clear h
        show EW _ _ _ _ _ ((192, [.val (.long id), .second, .val (.long gs), .second, .val (.long len), .second, .val (.long d), .second, .val (.long e), .second, .val (.int sel), .val (.long (len &&& (9223372036854775807 : Int64))), .second, .val (.int (1 : Int32)), .val (.int (1 : Int32)), .val (.int (1 : Int32)), .val (.long (id ^^^ d)), .second, .val (.long (gs ^^^ e)), .second, .val (.long (d &&& (9223372036854775807 : Int64))), .second, .val (.long ((len &&& (9223372036854775807 : Int64)) ^^^ (d &&& (9223372036854775807 : Int64)))), .second, .val (.ref 2), .val (.ref 3), .val (.int ((XT.ushr sel (3 : Int32)) &&& (3 : Int32))), .unset], []), [.inl (.object "java/lang/Long", A), .inr (1, []), .inr (0, [(0, .long id), (1, .long gs), (2, .long (len &&& (9223372036854775807 : Int64)))]), .inr (0, [(0, .long (id ^^^ d)), (1, .long (gs ^^^ e)), (2, .long ((len &&& (9223372036854775807 : Int64)) ^^^ (d &&& (9223372036854775807 : Int64))))])], 2, 6)
        refine EW.run 2 (cf' := ((196, [.val (.long id), .second, .val (.long gs), .second, .val (.long len), .second, .val (.long d), .second, .val (.long e), .second, .val (.int sel), .val (.long (len &&& (9223372036854775807 : Int64))), .second, .val (.int (1 : Int32)), .val (.int (1 : Int32)), .val (.int (1 : Int32)), .val (.long (id ^^^ d)), .second, .val (.long (gs ^^^ e)), .second, .val (.long (d &&& (9223372036854775807 : Int64))), .second, .val (.long ((len &&& (9223372036854775807 : Int64)) ^^^ (d &&& (9223372036854775807 : Int64)))), .second, .val (.ref 2), .val (.ref 3), .val (.int ((XT.ushr sel (3 : Int32)) &&& (3 : Int32))), .unset], [.ref 2, .ref 2]), [.inl (.object "java/lang/Long", A), .inr (1, []), .inr (0, [(0, .long id), (1, .long gs), (2, .long (len &&& (9223372036854775807 : Int64)))]), .inr (0, [(0, .long (id ^^^ d)), (1, .long (gs ^^^ e)), (2, .long ((len &&& (9223372036854775807 : Int64)) ^^^ (d &&& (9223372036854775807 : Int64))))])], 2, 6)) rfl ?_
        refine EW.call rfl (weq_22 _ _ A id gs (len &&& (9223372036854775807 : Int64)) (id ^^^ d) (gs ^^^ e) ((len &&& (9223372036854775807 : Int64)) ^^^ (d &&& (9223372036854775807 : Int64)))) ?_
        rintro _ _ _ _ ⟨z, e0, ⟨rfl, hz⟩ | ⟨rfl, hz⟩⟩
        · cases e0; have h15 := hz; clear hz
          show EW _ _ _ _ _ ((199, [.val (.long id), .second, .val (.long gs), .second, .val (.long len), .second, .val (.long d), .second, .val (.long e), .second, .val (.int sel), .val (.long (len &&& (9223372036854775807 : Int64))), .second, .val (.int (1 : Int32)), .val (.int (1 : Int32)), .val (.int (1 : Int32)), .val (.long (id ^^^ d)), .second, .val (.long (gs ^^^ e)), .second, .val (.long (d &&& (9223372036854775807 : Int64))), .second, .val (.long ((len &&& (9223372036854775807 : Int64)) ^^^ (d &&& (9223372036854775807 : Int64)))), .second, .val (.ref 2), .val (.ref 3), .val (.int ((XT.ushr sel (3 : Int32)) &&& (3 : Int32))), .unset], [.int (1 : Int32)]), [.inl (.object "java/lang/Long", A), .inr (1, []), .inr (0, [(0, .long id), (1, .long gs), (2, .long (len &&& (9223372036854775807 : Int64)))]), .inr (0, [(0, .long (id ^^^ d)), (1, .long (gs ^^^ e)), (2, .long ((len &&& (9223372036854775807 : Int64)) ^^^ (d &&& (9223372036854775807 : Int64))))])], 2, 6)
          exact EW.ret rfl ⟨rfl, Nat.le_of_ble_eq_true rfl, Nat.le_of_ble_eq_true rfl⟩
        · cases e0; have h15 := hz; clear hz
          show EW _ _ _ _ _ ((199, [.val (.long id), .second, .val (.long gs), .second, .val (.long len), .second, .val (.long d), .second, .val (.long e), .second, .val (.int sel), .val (.long (len &&& (9223372036854775807 : Int64))), .second, .val (.int (1 : Int32)), .val (.int (1 : Int32)), .val (.int (1 : Int32)), .val (.long (id ^^^ d)), .second, .val (.long (gs ^^^ e)), .second, .val (.long (d &&& (9223372036854775807 : Int64))), .second, .val (.long ((len &&& (9223372036854775807 : Int64)) ^^^ (d &&& (9223372036854775807 : Int64)))), .second, .val (.ref 2), .val (.ref 3), .val (.int ((XT.ushr sel (3 : Int32)) &&& (3 : Int32))), .unset], [.int (0 : Int32)]), [.inl (.object "java/lang/Long", A), .inr (1, []), .inr (0, [(0, .long id), (1, .long gs), (2, .long (len &&& (9223372036854775807 : Int64)))]), .inr (0, [(0, .long (id ^^^ d)), (1, .long (gs ^^^ e)), (2, .long ((len &&& (9223372036854775807 : Int64)) ^^^ (d &&& (9223372036854775807 : Int64))))])], 2, 6)
          exfalso
          have := rng32 ((XT.ushr sel (3 : Int32)) &&& (3 : Int32))
          have := rng32 (XT.ushr sel (3 : Int32))
          have := rng32 sel
          have lt0 : (3 : Int32).toInt = 3 := by decide
          have : (XT.ushr sel (3 : Int32)).toInt = (sel.toInt % 4294967296) / 8 := c_iushr sel (3 : Int32) 3 (by decide) (by decide)
          have : ((XT.ushr sel (3 : Int32)) &&& (3 : Int32)).toInt = (XT.ushr sel (3 : Int32)).toInt % 4 := c_mask (XT.ushr sel (3 : Int32)) (3 : Int32) 2 (by decide) (by decide)
          have lt1 : (1 : Int32).toInt = 1 := by decide
          have lt2 : (2 : Int32).toInt = 2 := by decide
          have := rng64 (id ^^^ d)
          have := rng64 id
          have := rng64 d
          have := c_xorSL id d
          have := own_xor id d
          have := rng64 (gs ^^^ e)
          have := rng64 gs
          have := rng64 e
          have := c_xorSL gs e
          have := own_xor gs e
          have := rng64 ((len &&& (9223372036854775807 : Int64)) ^^^ (d &&& (9223372036854775807 : Int64)))
          have := rng64 (len &&& (9223372036854775807 : Int64))
          have := rng64 len
          have lt3 : (9223372036854775807 : Int64).toInt = 9223372036854775807 := by decide
          have : (len &&& (9223372036854775807 : Int64)).toInt = len.toInt % 9223372036854775808 := c_maskL len (9223372036854775807 : Int64) 63 (by decide) (by decide)
          have := rng64 (d &&& (9223372036854775807 : Int64))
          have : (d &&& (9223372036854775807 : Int64)).toInt = d.toInt % 9223372036854775808 := c_maskL d (9223372036854775807 : Int64) 63 (by decide) (by decide)
          have := c_xorSL (len &&& (9223372036854775807 : Int64)) (d &&& (9223372036854775807 : Int64))
          have := own_xor (len &&& (9223372036854775807 : Int64)) (d &&& (9223372036854775807 : Int64))
          omega
    · have h2 : ((XT.ushr sel (3 : Int32)) &&& (3 : Int32)).toInt = (2 : Int32).toInt := by simp only [cP] at h; omega
      clear h
      show EW _ _ _ _ _ ((171, [.val (.long id), .second, .val (.long gs), .second, .val (.long len), .second, .val (.long d), .second, .val (.long e), .second, .val (.int sel), .val (.long (len &&& (9223372036854775807 : Int64))), .second, .val (.int (1 : Int32)), .val (.int (1 : Int32)), .val (.int (1 : Int32)), .val (.long (id ^^^ d)), .second, .val (.long (gs ^^^ e)), .second, .val (.long (d &&& (9223372036854775807 : Int64))), .second, .val (.long ((len &&& (9223372036854775807 : Int64)) ^^^ (d &&& (9223372036854775807 : Int64)))), .second, .val (.ref 2), .val (.ref 3), .val (.int ((XT.ushr sel (3 : Int32)) &&& (3 : Int32))), .unset], []), [.inl (.object "java/lang/Long", A), .inr (1, []), .inr (0, [(0, .long id), (1, .long gs), (2, .long (len &&& (9223372036854775807 : Int64)))]), .inr (0, [(0, .long (id ^^^ d)), (1, .long (gs ^^^ e)), (2, .long ((len &&& (9223372036854775807 : Int64)) ^^^ (d &&& (9223372036854775807 : Int64))))])], 2, 6)
      refine EW.run 2 (cf' := ((174, [.val (.long id), .second, .val (.long gs), .second, .val (.long len), .second, .val (.long d), .second, .val (.long e), .second, .val (.int sel), .val (.long (len &&& (9223372036854775807 : Int64))), .second, .val (.int (1 : Int32)), .val (.int (1 : Int32)), .val (.int (1 : Int32)), .val (.long (id ^^^ d)), .second, .val (.long (gs ^^^ e)), .second, .val (.long (d &&& (9223372036854775807 : Int64))), .second, .val (.long ((len &&& (9223372036854775807 : Int64)) ^^^ (d &&& (9223372036854775807 : Int64)))), .second, .val (.ref 2), .val (.ref 3), .val (.int ((XT.ushr sel (3 : Int32)) &&& (3 : Int32))), .unset], [.null, .ref 2]), [.inl (.object "java/lang/Long", A), .inr (1, []), .inr (0, [(0, .long id), (1, .long gs), (2, .long (len &&& (9223372036854775807 : Int64)))]), .inr (0, [(0, .long (id ^^^ d)), (1, .long (gs ^^^ e)), (2, .long ((len &&& (9223372036854775807 : Int64)) ^^^ (d &&& (9223372036854775807 : Int64))))])], 2, 6)) rfl ?_
      refine EW.call (Qc := fun r => r = (some (.int (0 : Int32)), [.inl (.object "java/lang/Long", A), .inr (1, []), .inr (0, [(0, .long id), (1, .long gs), (2, .long (len &&& (9223372036854775807 : Int64)))]), .inr (0, [(0, .long (id ^^^ d)), (1, .long (gs ^^^ e)), (2, .long ((len &&& (9223372036854775807 : Int64)) ^^^ (d &&& (9223372036854775807 : Int64))))])], 0, 0)) rfl ?_ ?_
      · show EW _ _ _ _ _ ((0, [.val (.ref 2), .val (.null), .unset], []), [.inl (.object "java/lang/Long", A), .inr (1, []), .inr (0, [(0, .long id), (1, .long gs), (2, .long (len &&& (9223372036854775807 : Int64)))]), .inr (0, [(0, .long (id ^^^ d)), (1, .long (gs ^^^ e)), (2, .long ((len &&& (9223372036854775807 : Int64)) ^^^ (d &&& (9223372036854775807 : Int64))))])], 0, 0)
        refine EW.run 4 (cf' := ((8, [.val (.ref 2), .val (.null), .unset], [.int (0 : Int32)]), [.inl (.object "java/lang/Long", A), .inr (1, []), .inr (0, [(0, .long id), (1, .long gs), (2, .long (len &&& (9223372036854775807 : Int64)))]), .inr (0, [(0, .long (id ^^^ d)), (1, .long (gs ^^^ e)), (2, .long ((len &&& (9223372036854775807 : Int64)) ^^^ (d &&& (9223372036854775807 : Int64))))])], 0, 0)) rfl ?_
        exact EW.ret rfl rfl
      rintro _ _ _ _ ⟨⟩
      show EW _ _ _ _ _ ((177, [.val (.long id), .second, .val (.long gs), .second, .val (.long len), .second, .val (.long d), .second, .val (.long e), .second, .val (.int sel), .val (.long (len &&& (9223372036854775807 : Int64))), .second, .val (.int (1 : Int32)), .val (.int (1 : Int32)), .val (.int (1 : Int32)), .val (.long (id ^^^ d)), .second, .val (.long (gs ^^^ e)), .second, .val (.long (d &&& (9223372036854775807 : Int64))), .second, .val (.long ((len &&& (9223372036854775807 : Int64)) ^^^ (d &&& (9223372036854775807 : Int64)))), .second, .val (.ref 2), .val (.ref 3), .val (.int ((XT.ushr sel (3 : Int32)) &&& (3 : Int32))), .unset], [.int (0 : Int32)]), [.inl (.object "java/lang/Long", A), .inr (1, []), .inr (0, [(0, .long id), (1, .long gs), (2, .long (len &&& (9223372036854775807 : Int64)))]), .inr (0, [(0, .long (id ^^^ d)), (1, .long (gs ^^^ e)), (2, .long ((len &&& (9223372036854775807 : Int64)) ^^^ (d &&& (9223372036854775807 : Int64))))])], 2, 6)
      refine EW.run 3 (cf' := ((185, [.val (.long id), .second, .val (.long gs), .second, .val (.long len), .second, .val (.long d), .second, .val (.long e), .second, .val (.int sel), .val (.long (len &&& (9223372036854775807 : Int64))), .second, .val (.int (1 : Int32)), .val (.int (1 : Int32)), .val (.int (1 : Int32)), .val (.long (id ^^^ d)), .second, .val (.long (gs ^^^ e)), .second, .val (.long (d &&& (9223372036854775807 : Int64))), .second, .val (.long ((len &&& (9223372036854775807 : Int64)) ^^^ (d &&& (9223372036854775807 : Int64)))), .second, .val (.ref 2), .val (.ref 3), .val (.int ((XT.ushr sel (3 : Int32)) &&& (3 : Int32))), .unset], [.int (1 : Int32)]), [.inl (.object "java/lang/Long", A), .inr (1, []), .inr (0, [(0, .long id), (1, .long gs), (2, .long (len &&& (9223372036854775807 : Int64)))]), .inr (0, [(0, .long (id ^^^ d)), (1, .long (gs ^^^ e)), (2, .long ((len &&& (9223372036854775807 : Int64)) ^^^ (d &&& (9223372036854775807 : Int64))))])], 2, 6)) rfl ?_
      exact EW.ret rfl ⟨rfl, Nat.le_of_ble_eq_true rfl, Nat.le_of_ble_eq_true rfl⟩
  · have h1 : ((XT.ushr sel (3 : Int32)) &&& (3 : Int32)).toInt = (1 : Int32).toInt := by simp only [cP] at h; omega
    clear h
    show EW _ _ _ _ _ ((147, [.val (.long id), .second, .val (.long gs), .second, .val (.long len), .second, .val (.long d), .second, .val (.long e), .second, .val (.int sel), .val (.long (len &&& (9223372036854775807 : Int64))), .second, .val (.int (1 : Int32)), .val (.int (1 : Int32)), .val (.int (1 : Int32)), .val (.long (id ^^^ d)), .second, .val (.long (gs ^^^ e)), .second, .val (.long (d &&& (9223372036854775807 : Int64))), .second, .val (.long ((len &&& (9223372036854775807 : Int64)) ^^^ (d &&& (9223372036854775807 : Int64)))), .second, .val (.ref 2), .val (.ref 3), .val (.int ((XT.ushr sel (3 : Int32)) &&& (3 : Int32))), .unset], []), [.inl (.object "java/lang/Long", A), .inr (1, []), .inr (0, [(0, .long id), (1, .long gs), (2, .long (len &&& (9223372036854775807 : Int64)))]), .inr (0, [(0, .long (id ^^^ d)), (1, .long (gs ^^^ e)), (2, .long ((len &&& (9223372036854775807 : Int64)) ^^^ (d &&& (9223372036854775807 : Int64))))])], 2, 6)
    refine EW.run 2 (cf' := ((150, [.val (.long id), .second, .val (.long gs), .second, .val (.long len), .second, .val (.long d), .second, .val (.long e), .second, .val (.int sel), .val (.long (len &&& (9223372036854775807 : Int64))), .second, .val (.int (1 : Int32)), .val (.int (1 : Int32)), .val (.int (1 : Int32)), .val (.long (id ^^^ d)), .second, .val (.long (gs ^^^ e)), .second, .val (.long (d &&& (9223372036854775807 : Int64))), .second, .val (.long ((len &&& (9223372036854775807 : Int64)) ^^^ (d &&& (9223372036854775807 : Int64)))), .second, .val (.ref 2), .val (.ref 3), .val (.int ((XT.ushr sel (3 : Int32)) &&& (3 : Int32))), .unset], [.long id, .ref 2]), [.inl (.object "java/lang/Long", A), .inr (1, []), .inr (0, [(0, .long id), (1, .long gs), (2, .long (len &&& (9223372036854775807 : Int64)))]), .inr (0, [(0, .long (id ^^^ d)), (1, .long (gs ^^^ e)), (2, .long ((len &&& (9223372036854775807 : Int64)) ^^^ (d &&& (9223372036854775807 : Int64))))])], 2, 6)) rfl ?_
    refine EW.call rfl (wval A id gs (len &&& (9223372036854775807 : Int64)) (id ^^^ d) (gs ^^^ e) ((len &&& (9223372036854775807 : Int64)) ^^^ (d &&& (9223372036854775807 : Int64))) id hin) ?_
    rintro _ _ _ _ (e0 | e0)
    · cases e0
      show EW _ _ _ _ _ ((153, [.val (.long id), .second, .val (.long gs), .second, .val (.long len), .second, .val (.long d), .second, .val (.long e), .second, .val (.int sel), .val (.long (len &&& (9223372036854775807 : Int64))), .second, .val (.int (1 : Int32)), .val (.int (1 : Int32)), .val (.int (1 : Int32)), .val (.long (id ^^^ d)), .second, .val (.long (gs ^^^ e)), .second, .val (.long (d &&& (9223372036854775807 : Int64))), .second, .val (.long ((len &&& (9223372036854775807 : Int64)) ^^^ (d &&& (9223372036854775807 : Int64)))), .second, .val (.ref 2), .val (.ref 3), .val (.int ((XT.ushr sel (3 : Int32)) &&& (3 : Int32))), .unset], [.ref 1, .ref 2]), [.inl (.object "java/lang/Long", A), .inr (1, []), .inr (0, [(0, .long id), (1, .long gs), (2, .long (len &&& (9223372036854775807 : Int64)))]), .inr (0, [(0, .long (id ^^^ d)), (1, .long (gs ^^^ e)), (2, .long ((len &&& (9223372036854775807 : Int64)) ^^^ (d &&& (9223372036854775807 : Int64))))])], 2, 6)
      refine EW.call (Qc := fun r => r = (some (.int (0 : Int32)), [.inl (.object "java/lang/Long", A), .inr (1, []), .inr (0, [(0, .long id), (1, .long gs), (2, .long (len &&& (9223372036854775807 : Int64)))]), .inr (0, [(0, .long (id ^^^ d)), (1, .long (gs ^^^ e)), (2, .long ((len &&& (9223372036854775807 : Int64)) ^^^ (d &&& (9223372036854775807 : Int64))))])], 0, 0)) rfl ?_ ?_
      · show EW _ _ _ _ _ ((0, [.val (.ref 2), .val (.ref 1), .unset], []), [.inl (.object "java/lang/Long", A), .inr (1, []), .inr (0, [(0, .long id), (1, .long gs), (2, .long (len &&& (9223372036854775807 : Int64)))]), .inr (0, [(0, .long (id ^^^ d)), (1, .long (gs ^^^ e)), (2, .long ((len &&& (9223372036854775807 : Int64)) ^^^ (d &&& (9223372036854775807 : Int64))))])], 0, 0)
        refine EW.run 4 (cf' := ((8, [.val (.ref 2), .val (.ref 1), .unset], [.int (0 : Int32)]), [.inl (.object "java/lang/Long", A), .inr (1, []), .inr (0, [(0, .long id), (1, .long gs), (2, .long (len &&& (9223372036854775807 : Int64)))]), .inr (0, [(0, .long (id ^^^ d)), (1, .long (gs ^^^ e)), (2, .long ((len &&& (9223372036854775807 : Int64)) ^^^ (d &&& (9223372036854775807 : Int64))))])], 0, 0)) rfl ?_
        exact EW.ret rfl rfl
      rintro _ _ _ _ ⟨⟩
      show EW _ _ _ _ _ ((156, [.val (.long id), .second, .val (.long gs), .second, .val (.long len), .second, .val (.long d), .second, .val (.long e), .second, .val (.int sel), .val (.long (len &&& (9223372036854775807 : Int64))), .second, .val (.int (1 : Int32)), .val (.int (1 : Int32)), .val (.int (1 : Int32)), .val (.long (id ^^^ d)), .second, .val (.long (gs ^^^ e)), .second, .val (.long (d &&& (9223372036854775807 : Int64))), .second, .val (.long ((len &&& (9223372036854775807 : Int64)) ^^^ (d &&& (9223372036854775807 : Int64)))), .second, .val (.ref 2), .val (.ref 3), .val (.int ((XT.ushr sel (3 : Int32)) &&& (3 : Int32))), .unset], [.int (0 : Int32)]), [.inl (.object "java/lang/Long", A), .inr (1, []), .inr (0, [(0, .long id), (1, .long gs), (2, .long (len &&& (9223372036854775807 : Int64)))]), .inr (0, [(0, .long (id ^^^ d)), (1, .long (gs ^^^ e)), (2, .long ((len &&& (9223372036854775807 : Int64)) ^^^ (d &&& (9223372036854775807 : Int64))))])], 2, 6)
      refine EW.run 3 (cf' := ((164, [.val (.long id), .second, .val (.long gs), .second, .val (.long len), .second, .val (.long d), .second, .val (.long e), .second, .val (.int sel), .val (.long (len &&& (9223372036854775807 : Int64))), .second, .val (.int (1 : Int32)), .val (.int (1 : Int32)), .val (.int (1 : Int32)), .val (.long (id ^^^ d)), .second, .val (.long (gs ^^^ e)), .second, .val (.long (d &&& (9223372036854775807 : Int64))), .second, .val (.long ((len &&& (9223372036854775807 : Int64)) ^^^ (d &&& (9223372036854775807 : Int64)))), .second, .val (.ref 2), .val (.ref 3), .val (.int ((XT.ushr sel (3 : Int32)) &&& (3 : Int32))), .unset], [.int (1 : Int32)]), [.inl (.object "java/lang/Long", A), .inr (1, []), .inr (0, [(0, .long id), (1, .long gs), (2, .long (len &&& (9223372036854775807 : Int64)))]), .inr (0, [(0, .long (id ^^^ d)), (1, .long (gs ^^^ e)), (2, .long ((len &&& (9223372036854775807 : Int64)) ^^^ (d &&& (9223372036854775807 : Int64))))])], 2, 6)) rfl ?_
      exact EW.ret rfl ⟨rfl, Nat.le_of_ble_eq_true rfl, Nat.le_of_ble_eq_true rfl⟩
    · cases e0
      show EW _ _ _ _ _ ((153, [.val (.long id), .second, .val (.long gs), .second, .val (.long len), .second, .val (.long d), .second, .val (.long e), .second, .val (.int sel), .val (.long (len &&& (9223372036854775807 : Int64))), .second, .val (.int (1 : Int32)), .val (.int (1 : Int32)), .val (.int (1 : Int32)), .val (.long (id ^^^ d)), .second, .val (.long (gs ^^^ e)), .second, .val (.long (d &&& (9223372036854775807 : Int64))), .second, .val (.long ((len &&& (9223372036854775807 : Int64)) ^^^ (d &&& (9223372036854775807 : Int64)))), .second, .val (.ref 2), .val (.ref 3), .val (.int ((XT.ushr sel (3 : Int32)) &&& (3 : Int32))), .unset], [.ref 4, .ref 2]), [.inl (.object "java/lang/Long", A), .inr (1, []), .inr (0, [(0, .long id), (1, .long gs), (2, .long (len &&& (9223372036854775807 : Int64)))]), .inr (0, [(0, .long (id ^^^ d)), (1, .long (gs ^^^ e)), (2, .long ((len &&& (9223372036854775807 : Int64)) ^^^ (d &&& (9223372036854775807 : Int64))))]), .inr (1, [(4, .long id)])], 3, 7)
      refine EW.call (Qc := fun r => r = (some (.int (0 : Int32)), [.inl (.object "java/lang/Long", A), .inr (1, []), .inr (0, [(0, .long id), (1, .long gs), (2, .long (len &&& (9223372036854775807 : Int64)))]), .inr (0, [(0, .long (id ^^^ d)), (1, .long (gs ^^^ e)), (2, .long ((len &&& (9223372036854775807 : Int64)) ^^^ (d &&& (9223372036854775807 : Int64))))]), .inr (1, [(4, .long id)])], 0, 0)) rfl ?_ ?_
      · show EW _ _ _ _ _ ((0, [.val (.ref 2), .val (.ref 4), .unset], []), [.inl (.object "java/lang/Long", A), .inr (1, []), .inr (0, [(0, .long id), (1, .long gs), (2, .long (len &&& (9223372036854775807 : Int64)))]), .inr (0, [(0, .long (id ^^^ d)), (1, .long (gs ^^^ e)), (2, .long ((len &&& (9223372036854775807 : Int64)) ^^^ (d &&& (9223372036854775807 : Int64))))]), .inr (1, [(4, .long id)])], 0, 0)
        refine EW.run 4 (cf' := ((8, [.val (.ref 2), .val (.ref 4), .unset], [.int (0 : Int32)]), [.inl (.object "java/lang/Long", A), .inr (1, []), .inr (0, [(0, .long id), (1, .long gs), (2, .long (len &&& (9223372036854775807 : Int64)))]), .inr (0, [(0, .long (id ^^^ d)), (1, .long (gs ^^^ e)), (2, .long ((len &&& (9223372036854775807 : Int64)) ^^^ (d &&& (9223372036854775807 : Int64))))]), .inr (1, [(4, .long id)])], 0, 0)) rfl ?_
        exact EW.ret rfl rfl
      rintro _ _ _ _ ⟨⟩
      show EW _ _ _ _ _ ((156, [.val (.long id), .second, .val (.long gs), .second, .val (.long len), .second, .val (.long d), .second, .val (.long e), .second, .val (.int sel), .val (.long (len &&& (9223372036854775807 : Int64))), .second, .val (.int (1 : Int32)), .val (.int (1 : Int32)), .val (.int (1 : Int32)), .val (.long (id ^^^ d)), .second, .val (.long (gs ^^^ e)), .second, .val (.long (d &&& (9223372036854775807 : Int64))), .second, .val (.long ((len &&& (9223372036854775807 : Int64)) ^^^ (d &&& (9223372036854775807 : Int64)))), .second, .val (.ref 2), .val (.ref 3), .val (.int ((XT.ushr sel (3 : Int32)) &&& (3 : Int32))), .unset], [.int (0 : Int32)]), [.inl (.object "java/lang/Long", A), .inr (1, []), .inr (0, [(0, .long id), (1, .long gs), (2, .long (len &&& (9223372036854775807 : Int64)))]), .inr (0, [(0, .long (id ^^^ d)), (1, .long (gs ^^^ e)), (2, .long ((len &&& (9223372036854775807 : Int64)) ^^^ (d &&& (9223372036854775807 : Int64))))]), .inr (1, [(4, .long id)])], 3, 7)
      refine EW.run 3 (cf' := ((164, [.val (.long id), .second, .val (.long gs), .second, .val (.long len), .second, .val (.long d), .second, .val (.long e), .second, .val (.int sel), .val (.long (len &&& (9223372036854775807 : Int64))), .second, .val (.int (1 : Int32)), .val (.int (1 : Int32)), .val (.int (1 : Int32)), .val (.long (id ^^^ d)), .second, .val (.long (gs ^^^ e)), .second, .val (.long (d &&& (9223372036854775807 : Int64))), .second, .val (.long ((len &&& (9223372036854775807 : Int64)) ^^^ (d &&& (9223372036854775807 : Int64)))), .second, .val (.ref 2), .val (.ref 3), .val (.int ((XT.ushr sel (3 : Int32)) &&& (3 : Int32))), .unset], [.int (1 : Int32)]), [.inl (.object "java/lang/Long", A), .inr (1, []), .inr (0, [(0, .long id), (1, .long gs), (2, .long (len &&& (9223372036854775807 : Int64)))]), .inr (0, [(0, .long (id ^^^ d)), (1, .long (gs ^^^ e)), (2, .long ((len &&& (9223372036854775807 : Int64)) ^^^ (d &&& (9223372036854775807 : Int64))))]), .inr (1, [(4, .long id)])], 3, 7)) rfl ?_
      exact EW.ret rfl ⟨rfl, Nat.le_of_ble_eq_true rfl, Nat.le_of_ble_eq_true rfl⟩
set_option maxHeartbeats 4000000 in
theorem law_run (A : List Value) (id gs len d e : Int64) (sel : Int32) (hin : -128 ≤ id.toInt → id.toInt ≤ 127 → (¬ (id.toInt32 + 128) < 0 ∧ A[(id.toInt32 + 128).toNatClampNeg]? = some (.ref 1))) : EW gG 7 160 mL (fun r => r.1 = some (.int 1) ∧ r.2.2.1 ≤ 16 ∧ r.2.2.2 ≤ 128) ((0, entL [.long id, .long gs, .long len, .long d, .long e, .int sel] maxLocals, []), [.inl (.object "java/lang/Long", A), .inr (1, [])], 0, 0) := by
  show EW _ _ _ _ _ ((0, [.val (.long id), .second, .val (.long gs), .second, .val (.long len), .second, .val (.long d), .second, .val (.long e), .second, .val (.int sel), .unset, .unset, .unset, .unset, .unset, .unset, .unset, .unset, .unset, .unset, .unset, .unset, .unset, .unset, .unset, .unset, .unset], []), [.inl (.object "java/lang/Long", A), .inr (1, [])], 0, 0)
  refine EW.run 6 (cf' := ((11, [.val (.long id), .second, .val (.long gs), .second, .val (.long len), .second, .val (.long d), .second, .val (.long e), .second, .val (.int sel), .val (.long (len &&& (9223372036854775807 : Int64))), .second, .unset, .unset, .unset, .unset, .unset, .unset, .unset, .unset, .unset, .unset, .unset, .unset, .unset, .unset, .unset], [.int (1 : Int32), .int sel]), [.inl (.object "java/lang/Long", A), .inr (1, [])], 0, 0)) rfl ?_
  refine EW.run 1 (cf' := ((12, [.val (.long id), .second, .val (.long gs), .second, .val (.long len), .second, .val (.long d), .second, .val (.long e), .second, .val (.int sel), .val (.long (len &&& (9223372036854775807 : Int64))), .second, .unset, .unset, .unset, .unset, .unset, .unset, .unset, .unset, .unset, .unset, .unset, .unset, .unset, .unset, .unset], [.int (sel &&& (1 : Int32))]), [.inl (.object "java/lang/Long", A), .inr (1, [])], 0, 0)) rfl ?_
  refine EW.ifP rfl (by decide) (fun h => ?_) (fun h => ?_)
  · have h1 : (sel &&& (1 : Int32)).toInt = 0 := by simp only [cP] at h; omega
    clear h
    show EW _ _ _ _ _ ((19, [.val (.long id), .second, .val (.long gs), .second, .val (.long len), .second, .val (.long d), .second, .val (.long e), .second, .val (.int sel), .val (.long (len &&& (9223372036854775807 : Int64))), .second, .unset, .unset, .unset, .unset, .unset, .unset, .unset, .unset, .unset, .unset, .unset, .unset, .unset, .unset, .unset], []), [.inl (.object "java/lang/Long", A), .inr (1, [])], 0, 0)
    refine EW.run 5 (cf' := ((26, [.val (.long id), .second, .val (.long gs), .second, .val (.long len), .second, .val (.long d), .second, .val (.long e), .second, .val (.int sel), .val (.long (len &&& (9223372036854775807 : Int64))), .second, .val (.int (0 : Int32)), .unset, .unset, .unset, .unset, .unset, .unset, .unset, .unset, .unset, .unset, .unset, .unset, .unset, .unset], [.int (sel &&& (2 : Int32))]), [.inl (.object "java/lang/Long", A), .inr (1, [])], 0, 0)) rfl ?_
    refine EW.ifP rfl (by decide) (fun h => ?_) (fun h => ?_)
    · have h2 : (sel &&& (2 : Int32)).toInt = 0 := by simp only [cP] at h; omega
      clear h
      show EW _ _ _ _ _ ((33, [.val (.long id), .second, .val (.long gs), .second, .val (.long len), .second, .val (.long d), .second, .val (.long e), .second, .val (.int sel), .val (.long (len &&& (9223372036854775807 : Int64))), .second, .val (.int (0 : Int32)), .unset, .unset, .unset, .unset, .unset, .unset, .unset, .unset, .unset, .unset, .unset, .unset, .unset, .unset], []), [.inl (.object "java/lang/Long", A), .inr (1, [])], 0, 0)
      refine EW.run 5 (cf' := ((40, [.val (.long id), .second, .val (.long gs), .second, .val (.long len), .second, .val (.long d), .second, .val (.long e), .second, .val (.int sel), .val (.long (len &&& (9223372036854775807 : Int64))), .second, .val (.int (0 : Int32)), .val (.int (0 : Int32)), .unset, .unset, .unset, .unset, .unset, .unset, .unset, .unset, .unset, .unset, .unset, .unset, .unset], [.int (sel &&& (4 : Int32))]), [.inl (.object "java/lang/Long", A), .inr (1, [])], 0, 0)) rfl ?_
      refine EW.ifP rfl (by decide) (fun h => ?_) (fun h => ?_)
      · have h3 : (sel &&& (4 : Int32)).toInt = 0 := by simp only [cP] at h; omega
        clear h
        show EW _ _ _ _ _ ((47, [.val (.long id), .second, .val (.long gs), .second, .val (.long len), .second, .val (.long d), .second, .val (.long e), .second, .val (.int sel), .val (.long (len &&& (9223372036854775807 : Int64))), .second, .val (.int (0 : Int32)), .val (.int (0 : Int32)), .unset, .unset, .unset, .unset, .unset, .unset, .unset, .unset, .unset, .unset, .unset, .unset, .unset], []), [.inl (.object "java/lang/Long", A), .inr (1, [])], 0, 0)
        refine EW.run 6 (cf' := ((65, [.val (.long id), .second, .val (.long gs), .second, .val (.long len), .second, .val (.long d), .second, .val (.long e), .second, .val (.int sel), .val (.long (len &&& (9223372036854775807 : Int64))), .second, .val (.int (0 : Int32)), .val (.int (0 : Int32)), .val (.int (0 : Int32)), .val (.long id), .second, .unset, .unset, .unset, .unset, .unset, .unset, .unset, .unset, .unset, .unset], []), [.inl (.object "java/lang/Long", A), .inr (1, [])], 0, 0)) rfl ?_
        refine EW.run 6 (cf' := ((85, [.val (.long id), .second, .val (.long gs), .second, .val (.long len), .second, .val (.long d), .second, .val (.long e), .second, .val (.int sel), .val (.long (len &&& (9223372036854775807 : Int64))), .second, .val (.int (0 : Int32)), .val (.int (0 : Int32)), .val (.int (0 : Int32)), .val (.long id), .second, .val (.long gs), .second, .unset, .unset, .unset, .unset, .unset, .unset, .unset, .unset], [.long (9223372036854775807 : Int64), .long d]), [.inl (.object "java/lang/Long", A), .inr (1, [])], 0, 0)) rfl ?_
        refine EW.run 6 (cf' := ((105, [.val (.long id), .second, .val (.long gs), .second, .val (.long len), .second, .val (.long d), .second, .val (.long e), .second, .val (.int sel), .val (.long (len &&& (9223372036854775807 : Int64))), .second, .val (.int (0 : Int32)), .val (.int (0 : Int32)), .val (.int (0 : Int32)), .val (.long id), .second, .val (.long gs), .second, .val (.long (d &&& (9223372036854775807 : Int64))), .second, .val (.long (len &&& (9223372036854775807 : Int64))), .second, .unset, .unset, .unset, .unset], []), [.inl (.object "java/lang/Long", A), .inr (1, [])], 0, 0)) rfl ?_
        exact own_c0 A id gs len d e sel hin
      · have h3 : (sel &&& (4 : Int32)).toInt ≠ 0 := by simp only [cP] at h; omega
        clear h
        show EW _ _ _ _ _ ((43, [.val (.long id), .second, .val (.long gs), .second, .val (.long len), .second, .val (.long d), .second, .val (.long e), .second, .val (.int sel), .val (.long (len &&& (9223372036854775807 : Int64))), .second, .val (.int (0 : Int32)), .val (.int (0 : Int32)), .unset, .unset, .unset, .unset, .unset, .unset, .unset, .unset, .unset, .unset, .unset, .unset, .unset], []), [.inl (.object "java/lang/Long", A), .inr (1, [])], 0, 0)
        refine EW.run 6 (cf' := ((63, [.val (.long id), .second, .val (.long gs), .second, .val (.long len), .second, .val (.long d), .second, .val (.long e), .second, .val (.int sel), .val (.long (len &&& (9223372036854775807 : Int64))), .second, .val (.int (0 : Int32)), .val (.int (0 : Int32)), .val (.int (1 : Int32)), .unset, .unset, .unset, .unset, .unset, .unset, .unset, .unset, .unset, .unset, .unset, .unset], [.long id]), [.inl (.object "java/lang/Long", A), .inr (1, [])], 0, 0)) rfl ?_
        refine EW.run 6 (cf' := ((82, [.val (.long id), .second, .val (.long gs), .second, .val (.long len), .second, .val (.long d), .second, .val (.long e), .second, .val (.int sel), .val (.long (len &&& (9223372036854775807 : Int64))), .second, .val (.int (0 : Int32)), .val (.int (0 : Int32)), .val (.int (1 : Int32)), .val (.long id), .second, .val (.long gs), .second, .unset, .unset, .unset, .unset, .unset, .unset, .unset, .unset], [.long d]), [.inl (.object "java/lang/Long", A), .inr (1, [])], 0, 0)) rfl ?_
        refine EW.run 6 (cf' := ((95, [.val (.long id), .second, .val (.long gs), .second, .val (.long len), .second, .val (.long d), .second, .val (.long e), .second, .val (.int sel), .val (.long (len &&& (9223372036854775807 : Int64))), .second, .val (.int (0 : Int32)), .val (.int (0 : Int32)), .val (.int (1 : Int32)), .val (.long id), .second, .val (.long gs), .second, .val (.long (d &&& (9223372036854775807 : Int64))), .second, .unset, .unset, .unset, .unset, .unset, .unset], [.long (len &&& (9223372036854775807 : Int64))]), [.inl (.object "java/lang/Long", A), .inr (1, [])], 0, 0)) rfl ?_
        refine EW.run 4 (cf' := ((105, [.val (.long id), .second, .val (.long gs), .second, .val (.long len), .second, .val (.long d), .second, .val (.long e), .second, .val (.int sel), .val (.long (len &&& (9223372036854775807 : Int64))), .second, .val (.int (0 : Int32)), .val (.int (0 : Int32)), .val (.int (1 : Int32)), .val (.long id), .second, .val (.long gs), .second, .val (.long (d &&& (9223372036854775807 : Int64))), .second, .val (.long ((len &&& (9223372036854775807 : Int64)) ^^^ (d &&& (9223372036854775807 : Int64)))), .second, .unset, .unset, .unset, .unset], []), [.inl (.object "java/lang/Long", A), .inr (1, [])], 0, 0)) rfl ?_
        exact own_c1 A id gs len d e sel hin
    · have h2 : (sel &&& (2 : Int32)).toInt ≠ 0 := by simp only [cP] at h; omega
      clear h
      show EW _ _ _ _ _ ((29, [.val (.long id), .second, .val (.long gs), .second, .val (.long len), .second, .val (.long d), .second, .val (.long e), .second, .val (.int sel), .val (.long (len &&& (9223372036854775807 : Int64))), .second, .val (.int (0 : Int32)), .unset, .unset, .unset, .unset, .unset, .unset, .unset, .unset, .unset, .unset, .unset, .unset, .unset, .unset], []), [.inl (.object "java/lang/Long", A), .inr (1, [])], 0, 0)
      refine EW.run 6 (cf' := ((40, [.val (.long id), .second, .val (.long gs), .second, .val (.long len), .second, .val (.long d), .second, .val (.long e), .second, .val (.int sel), .val (.long (len &&& (9223372036854775807 : Int64))), .second, .val (.int (0 : Int32)), .val (.int (1 : Int32)), .unset, .unset, .unset, .unset, .unset, .unset, .unset, .unset, .unset, .unset, .unset, .unset, .unset], [.int (sel &&& (4 : Int32))]), [.inl (.object "java/lang/Long", A), .inr (1, [])], 0, 0)) rfl ?_
      refine EW.ifP rfl (by decide) (fun h => ?_) (fun h => ?_)
      · have h4 : (sel &&& (4 : Int32)).toInt = 0 := by simp only [cP] at h; omega
        clear h
        show EW _ _ _ _ _ ((47, [.val (.long id), .second, .val (.long gs), .second, .val (.long len), .second, .val (.long d), .second, .val (.long e), .second, .val (.int sel), .val (.long (len &&& (9223372036854775807 : Int64))), .second, .val (.int (0 : Int32)), .val (.int (1 : Int32)), .unset, .unset, .unset, .unset, .unset, .unset, .unset, .unset, .unset, .unset, .unset, .unset, .unset], []), [.inl (.object "java/lang/Long", A), .inr (1, [])], 0, 0)
        refine EW.run 6 (cf' := ((65, [.val (.long id), .second, .val (.long gs), .second, .val (.long len), .second, .val (.long d), .second, .val (.long e), .second, .val (.int sel), .val (.long (len &&& (9223372036854775807 : Int64))), .second, .val (.int (0 : Int32)), .val (.int (1 : Int32)), .val (.int (0 : Int32)), .val (.long id), .second, .unset, .unset, .unset, .unset, .unset, .unset, .unset, .unset, .unset, .unset], []), [.inl (.object "java/lang/Long", A), .inr (1, [])], 0, 0)) rfl ?_
        refine EW.run 6 (cf' := ((78, [.val (.long id), .second, .val (.long gs), .second, .val (.long len), .second, .val (.long d), .second, .val (.long e), .second, .val (.int sel), .val (.long (len &&& (9223372036854775807 : Int64))), .second, .val (.int (0 : Int32)), .val (.int (1 : Int32)), .val (.int (0 : Int32)), .val (.long id), .second, .unset, .unset, .unset, .unset, .unset, .unset, .unset, .unset, .unset, .unset], [.long (gs ^^^ e)]), [.inl (.object "java/lang/Long", A), .inr (1, [])], 0, 0)) rfl ?_
        refine EW.run 6 (cf' := ((90, [.val (.long id), .second, .val (.long gs), .second, .val (.long len), .second, .val (.long d), .second, .val (.long e), .second, .val (.int sel), .val (.long (len &&& (9223372036854775807 : Int64))), .second, .val (.int (0 : Int32)), .val (.int (1 : Int32)), .val (.int (0 : Int32)), .val (.long id), .second, .val (.long (gs ^^^ e)), .second, .val (.long (d &&& (9223372036854775807 : Int64))), .second, .unset, .unset, .unset, .unset, .unset, .unset], [.int (0 : Int32)]), [.inl (.object "java/lang/Long", A), .inr (1, [])], 0, 0)) rfl ?_
        refine EW.run 3 (cf' := ((105, [.val (.long id), .second, .val (.long gs), .second, .val (.long len), .second, .val (.long d), .second, .val (.long e), .second, .val (.int sel), .val (.long (len &&& (9223372036854775807 : Int64))), .second, .val (.int (0 : Int32)), .val (.int (1 : Int32)), .val (.int (0 : Int32)), .val (.long id), .second, .val (.long (gs ^^^ e)), .second, .val (.long (d &&& (9223372036854775807 : Int64))), .second, .val (.long (len &&& (9223372036854775807 : Int64))), .second, .unset, .unset, .unset, .unset], []), [.inl (.object "java/lang/Long", A), .inr (1, [])], 0, 0)) rfl ?_
        exact own_c2 A id gs len d e sel hin
      · have h4 : (sel &&& (4 : Int32)).toInt ≠ 0 := by simp only [cP] at h; omega
        clear h
        show EW _ _ _ _ _ ((43, [.val (.long id), .second, .val (.long gs), .second, .val (.long len), .second, .val (.long d), .second, .val (.long e), .second, .val (.int sel), .val (.long (len &&& (9223372036854775807 : Int64))), .second, .val (.int (0 : Int32)), .val (.int (1 : Int32)), .unset, .unset, .unset, .unset, .unset, .unset, .unset, .unset, .unset, .unset, .unset, .unset, .unset], []), [.inl (.object "java/lang/Long", A), .inr (1, [])], 0, 0)
        refine EW.run 6 (cf' := ((63, [.val (.long id), .second, .val (.long gs), .second, .val (.long len), .second, .val (.long d), .second, .val (.long e), .second, .val (.int sel), .val (.long (len &&& (9223372036854775807 : Int64))), .second, .val (.int (0 : Int32)), .val (.int (1 : Int32)), .val (.int (1 : Int32)), .unset, .unset, .unset, .unset, .unset, .unset, .unset, .unset, .unset, .unset, .unset, .unset], [.long id]), [.inl (.object "java/lang/Long", A), .inr (1, [])], 0, 0)) rfl ?_
        refine EW.run 6 (cf' := ((74, [.val (.long id), .second, .val (.long gs), .second, .val (.long len), .second, .val (.long d), .second, .val (.long e), .second, .val (.int sel), .val (.long (len &&& (9223372036854775807 : Int64))), .second, .val (.int (0 : Int32)), .val (.int (1 : Int32)), .val (.int (1 : Int32)), .val (.long id), .second, .unset, .unset, .unset, .unset, .unset, .unset, .unset, .unset, .unset, .unset], [.long (gs ^^^ e)]), [.inl (.object "java/lang/Long", A), .inr (1, [])], 0, 0)) rfl ?_
        refine EW.run 6 (cf' := ((88, [.val (.long id), .second, .val (.long gs), .second, .val (.long len), .second, .val (.long d), .second, .val (.long e), .second, .val (.int sel), .val (.long (len &&& (9223372036854775807 : Int64))), .second, .val (.int (0 : Int32)), .val (.int (1 : Int32)), .val (.int (1 : Int32)), .val (.long id), .second, .val (.long (gs ^^^ e)), .second, .val (.long (d &&& (9223372036854775807 : Int64))), .second, .unset, .unset, .unset, .unset, .unset, .unset], []), [.inl (.object "java/lang/Long", A), .inr (1, [])], 0, 0)) rfl ?_
        refine EW.run 6 (cf' := ((103, [.val (.long id), .second, .val (.long gs), .second, .val (.long len), .second, .val (.long d), .second, .val (.long e), .second, .val (.int sel), .val (.long (len &&& (9223372036854775807 : Int64))), .second, .val (.int (0 : Int32)), .val (.int (1 : Int32)), .val (.int (1 : Int32)), .val (.long id), .second, .val (.long (gs ^^^ e)), .second, .val (.long (d &&& (9223372036854775807 : Int64))), .second, .unset, .unset, .unset, .unset, .unset, .unset], [.long ((len &&& (9223372036854775807 : Int64)) ^^^ (d &&& (9223372036854775807 : Int64)))]), [.inl (.object "java/lang/Long", A), .inr (1, [])], 0, 0)) rfl ?_
        refine EW.run 1 (cf' := ((105, [.val (.long id), .second, .val (.long gs), .second, .val (.long len), .second, .val (.long d), .second, .val (.long e), .second, .val (.int sel), .val (.long (len &&& (9223372036854775807 : Int64))), .second, .val (.int (0 : Int32)), .val (.int (1 : Int32)), .val (.int (1 : Int32)), .val (.long id), .second, .val (.long (gs ^^^ e)), .second, .val (.long (d &&& (9223372036854775807 : Int64))), .second, .val (.long ((len &&& (9223372036854775807 : Int64)) ^^^ (d &&& (9223372036854775807 : Int64)))), .second, .unset, .unset, .unset, .unset], []), [.inl (.object "java/lang/Long", A), .inr (1, [])], 0, 0)) rfl ?_
        exact own_c3 A id gs len d e sel hin
  · have h1 : (sel &&& (1 : Int32)).toInt ≠ 0 := by simp only [cP] at h; omega
    clear h
    show EW _ _ _ _ _ ((15, [.val (.long id), .second, .val (.long gs), .second, .val (.long len), .second, .val (.long d), .second, .val (.long e), .second, .val (.int sel), .val (.long (len &&& (9223372036854775807 : Int64))), .second, .unset, .unset, .unset, .unset, .unset, .unset, .unset, .unset, .unset, .unset, .unset, .unset, .unset, .unset, .unset], []), [.inl (.object "java/lang/Long", A), .inr (1, [])], 0, 0)
    refine EW.run 6 (cf' := ((26, [.val (.long id), .second, .val (.long gs), .second, .val (.long len), .second, .val (.long d), .second, .val (.long e), .second, .val (.int sel), .val (.long (len &&& (9223372036854775807 : Int64))), .second, .val (.int (1 : Int32)), .unset, .unset, .unset, .unset, .unset, .unset, .unset, .unset, .unset, .unset, .unset, .unset, .unset, .unset], [.int (sel &&& (2 : Int32))]), [.inl (.object "java/lang/Long", A), .inr (1, [])], 0, 0)) rfl ?_
    refine EW.ifP rfl (by decide) (fun h => ?_) (fun h => ?_)
    · have h5 : (sel &&& (2 : Int32)).toInt = 0 := by simp only [cP] at h; omega
      clear h
      show EW _ _ _ _ _ ((33, [.val (.long id), .second, .val (.long gs), .second, .val (.long len), .second, .val (.long d), .second, .val (.long e), .second, .val (.int sel), .val (.long (len &&& (9223372036854775807 : Int64))), .second, .val (.int (1 : Int32)), .unset, .unset, .unset, .unset, .unset, .unset, .unset, .unset, .unset, .unset, .unset, .unset, .unset, .unset], []), [.inl (.object "java/lang/Long", A), .inr (1, [])], 0, 0)
      refine EW.run 5 (cf' := ((40, [.val (.long id), .second, .val (.long gs), .second, .val (.long len), .second, .val (.long d), .second, .val (.long e), .second, .val (.int sel), .val (.long (len &&& (9223372036854775807 : Int64))), .second, .val (.int (1 : Int32)), .val (.int (0 : Int32)), .unset, .unset, .unset, .unset, .unset, .unset, .unset, .unset, .unset, .unset, .unset, .unset, .unset], [.int (sel &&& (4 : Int32))]), [.inl (.object "java/lang/Long", A), .inr (1, [])], 0, 0)) rfl ?_
      refine EW.ifP rfl (by decide) (fun h => ?_) (fun h => ?_)
      · have h6 : (sel &&& (4 : Int32)).toInt = 0 := by simp only [cP] at h; omega
        clear h
        show EW _ _ _ _ _ ((47, [.val (.long id), .second, .val (.long gs), .second, .val (.long len), .second, .val (.long d), .second, .val (.long e), .second, .val (.int sel), .val (.long (len &&& (9223372036854775807 : Int64))), .second, .val (.int (1 : Int32)), .val (.int (0 : Int32)), .unset, .unset, .unset, .unset, .unset, .unset, .unset, .unset, .unset, .unset, .unset, .unset, .unset], []), [.inl (.object "java/lang/Long", A), .inr (1, [])], 0, 0)
        refine EW.run 6 (cf' := ((58, [.val (.long id), .second, .val (.long gs), .second, .val (.long len), .second, .val (.long d), .second, .val (.long e), .second, .val (.int sel), .val (.long (len &&& (9223372036854775807 : Int64))), .second, .val (.int (1 : Int32)), .val (.int (0 : Int32)), .val (.int (0 : Int32)), .unset, .unset, .unset, .unset, .unset, .unset, .unset, .unset, .unset, .unset, .unset, .unset], [.long d, .long id]), [.inl (.object "java/lang/Long", A), .inr (1, [])], 0, 0)) rfl ?_
        refine EW.run 6 (cf' := ((78, [.val (.long id), .second, .val (.long gs), .second, .val (.long len), .second, .val (.long d), .second, .val (.long e), .second, .val (.int sel), .val (.long (len &&& (9223372036854775807 : Int64))), .second, .val (.int (1 : Int32)), .val (.int (0 : Int32)), .val (.int (0 : Int32)), .val (.long (id ^^^ d)), .second, .unset, .unset, .unset, .unset, .unset, .unset, .unset, .unset, .unset, .unset], [.long gs]), [.inl (.object "java/lang/Long", A), .inr (1, [])], 0, 0)) rfl ?_
        refine EW.run 6 (cf' := ((90, [.val (.long id), .second, .val (.long gs), .second, .val (.long len), .second, .val (.long d), .second, .val (.long e), .second, .val (.int sel), .val (.long (len &&& (9223372036854775807 : Int64))), .second, .val (.int (1 : Int32)), .val (.int (0 : Int32)), .val (.int (0 : Int32)), .val (.long (id ^^^ d)), .second, .val (.long gs), .second, .val (.long (d &&& (9223372036854775807 : Int64))), .second, .unset, .unset, .unset, .unset, .unset, .unset], [.int (0 : Int32)]), [.inl (.object "java/lang/Long", A), .inr (1, [])], 0, 0)) rfl ?_
        refine EW.run 3 (cf' := ((105, [.val (.long id), .second, .val (.long gs), .second, .val (.long len), .second, .val (.long d), .second, .val (.long e), .second, .val (.int sel), .val (.long (len &&& (9223372036854775807 : Int64))), .second, .val (.int (1 : Int32)), .val (.int (0 : Int32)), .val (.int (0 : Int32)), .val (.long (id ^^^ d)), .second, .val (.long gs), .second, .val (.long (d &&& (9223372036854775807 : Int64))), .second, .val (.long (len &&& (9223372036854775807 : Int64))), .second, .unset, .unset, .unset, .unset], []), [.inl (.object "java/lang/Long", A), .inr (1, [])], 0, 0)) rfl ?_
        exact own_c4 A id gs len d e sel hin
      · have h6 : (sel &&& (4 : Int32)).toInt ≠ 0 := by simp only [cP] at h; omega
        clear h
        show EW _ _ _ _ _ ((43, [.val (.long id), .second, .val (.long gs), .second, .val (.long len), .second, .val (.long d), .second, .val (.long e), .second, .val (.int sel), .val (.long (len &&& (9223372036854775807 : Int64))), .second, .val (.int (1 : Int32)), .val (.int (0 : Int32)), .unset, .unset, .unset, .unset, .unset, .unset, .unset, .unset, .unset, .unset, .unset, .unset, .unset], []), [.inl (.object "java/lang/Long", A), .inr (1, [])], 0, 0)
        refine EW.run 6 (cf' := ((56, [.val (.long id), .second, .val (.long gs), .second, .val (.long len), .second, .val (.long d), .second, .val (.long e), .second, .val (.int sel), .val (.long (len &&& (9223372036854775807 : Int64))), .second, .val (.int (1 : Int32)), .val (.int (0 : Int32)), .val (.int (1 : Int32)), .unset, .unset, .unset, .unset, .unset, .unset, .unset, .unset, .unset, .unset, .unset, .unset], [.long id]), [.inl (.object "java/lang/Long", A), .inr (1, [])], 0, 0)) rfl ?_
        refine EW.run 6 (cf' := ((77, [.val (.long id), .second, .val (.long gs), .second, .val (.long len), .second, .val (.long d), .second, .val (.long e), .second, .val (.int sel), .val (.long (len &&& (9223372036854775807 : Int64))), .second, .val (.int (1 : Int32)), .val (.int (0 : Int32)), .val (.int (1 : Int32)), .val (.long (id ^^^ d)), .second, .unset, .unset, .unset, .unset, .unset, .unset, .unset, .unset, .unset, .unset], []), [.inl (.object "java/lang/Long", A), .inr (1, [])], 0, 0)) rfl ?_
        refine EW.run 6 (cf' := ((88, [.val (.long id), .second, .val (.long gs), .second, .val (.long len), .second, .val (.long d), .second, .val (.long e), .second, .val (.int sel), .val (.long (len &&& (9223372036854775807 : Int64))), .second, .val (.int (1 : Int32)), .val (.int (0 : Int32)), .val (.int (1 : Int32)), .val (.long (id ^^^ d)), .second, .val (.long gs), .second, .val (.long (d &&& (9223372036854775807 : Int64))), .second, .unset, .unset, .unset, .unset, .unset, .unset], []), [.inl (.object "java/lang/Long", A), .inr (1, [])], 0, 0)) rfl ?_
        refine EW.run 6 (cf' := ((103, [.val (.long id), .second, .val (.long gs), .second, .val (.long len), .second, .val (.long d), .second, .val (.long e), .second, .val (.int sel), .val (.long (len &&& (9223372036854775807 : Int64))), .second, .val (.int (1 : Int32)), .val (.int (0 : Int32)), .val (.int (1 : Int32)), .val (.long (id ^^^ d)), .second, .val (.long gs), .second, .val (.long (d &&& (9223372036854775807 : Int64))), .second, .unset, .unset, .unset, .unset, .unset, .unset], [.long ((len &&& (9223372036854775807 : Int64)) ^^^ (d &&& (9223372036854775807 : Int64)))]), [.inl (.object "java/lang/Long", A), .inr (1, [])], 0, 0)) rfl ?_
        refine EW.run 1 (cf' := ((105, [.val (.long id), .second, .val (.long gs), .second, .val (.long len), .second, .val (.long d), .second, .val (.long e), .second, .val (.int sel), .val (.long (len &&& (9223372036854775807 : Int64))), .second, .val (.int (1 : Int32)), .val (.int (0 : Int32)), .val (.int (1 : Int32)), .val (.long (id ^^^ d)), .second, .val (.long gs), .second, .val (.long (d &&& (9223372036854775807 : Int64))), .second, .val (.long ((len &&& (9223372036854775807 : Int64)) ^^^ (d &&& (9223372036854775807 : Int64)))), .second, .unset, .unset, .unset, .unset], []), [.inl (.object "java/lang/Long", A), .inr (1, [])], 0, 0)) rfl ?_
        exact own_c5 A id gs len d e sel hin
    · have h5 : (sel &&& (2 : Int32)).toInt ≠ 0 := by simp only [cP] at h; omega
      clear h
      show EW _ _ _ _ _ ((29, [.val (.long id), .second, .val (.long gs), .second, .val (.long len), .second, .val (.long d), .second, .val (.long e), .second, .val (.int sel), .val (.long (len &&& (9223372036854775807 : Int64))), .second, .val (.int (1 : Int32)), .unset, .unset, .unset, .unset, .unset, .unset, .unset, .unset, .unset, .unset, .unset, .unset, .unset, .unset], []), [.inl (.object "java/lang/Long", A), .inr (1, [])], 0, 0)
      refine EW.run 6 (cf' := ((40, [.val (.long id), .second, .val (.long gs), .second, .val (.long len), .second, .val (.long d), .second, .val (.long e), .second, .val (.int sel), .val (.long (len &&& (9223372036854775807 : Int64))), .second, .val (.int (1 : Int32)), .val (.int (1 : Int32)), .unset, .unset, .unset, .unset, .unset, .unset, .unset, .unset, .unset, .unset, .unset, .unset, .unset], [.int (sel &&& (4 : Int32))]), [.inl (.object "java/lang/Long", A), .inr (1, [])], 0, 0)) rfl ?_
      refine EW.ifP rfl (by decide) (fun h => ?_) (fun h => ?_)
      · have h7 : (sel &&& (4 : Int32)).toInt = 0 := by simp only [cP] at h; omega
        clear h
        show EW _ _ _ _ _ ((47, [.val (.long id), .second, .val (.long gs), .second, .val (.long len), .second, .val (.long d), .second, .val (.long e), .second, .val (.int sel), .val (.long (len &&& (9223372036854775807 : Int64))), .second, .val (.int (1 : Int32)), .val (.int (1 : Int32)), .unset, .unset, .unset, .unset, .unset, .unset, .unset, .unset, .unset, .unset, .unset, .unset, .unset], []), [.inl (.object "java/lang/Long", A), .inr (1, [])], 0, 0)
        refine EW.run 6 (cf' := ((58, [.val (.long id), .second, .val (.long gs), .second, .val (.long len), .second, .val (.long d), .second, .val (.long e), .second, .val (.int sel), .val (.long (len &&& (9223372036854775807 : Int64))), .second, .val (.int (1 : Int32)), .val (.int (1 : Int32)), .val (.int (0 : Int32)), .unset, .unset, .unset, .unset, .unset, .unset, .unset, .unset, .unset, .unset, .unset, .unset], [.long d, .long id]), [.inl (.object "java/lang/Long", A), .inr (1, [])], 0, 0)) rfl ?_
        refine EW.run 6 (cf' := ((71, [.val (.long id), .second, .val (.long gs), .second, .val (.long len), .second, .val (.long d), .second, .val (.long e), .second, .val (.int sel), .val (.long (len &&& (9223372036854775807 : Int64))), .second, .val (.int (1 : Int32)), .val (.int (1 : Int32)), .val (.int (0 : Int32)), .val (.long (id ^^^ d)), .second, .unset, .unset, .unset, .unset, .unset, .unset, .unset, .unset, .unset, .unset], [.long gs]), [.inl (.object "java/lang/Long", A), .inr (1, [])], 0, 0)) rfl ?_
        refine EW.run 6 (cf' := ((85, [.val (.long id), .second, .val (.long gs), .second, .val (.long len), .second, .val (.long d), .second, .val (.long e), .second, .val (.int sel), .val (.long (len &&& (9223372036854775807 : Int64))), .second, .val (.int (1 : Int32)), .val (.int (1 : Int32)), .val (.int (0 : Int32)), .val (.long (id ^^^ d)), .second, .val (.long (gs ^^^ e)), .second, .unset, .unset, .unset, .unset, .unset, .unset, .unset, .unset], [.long (9223372036854775807 : Int64), .long d]), [.inl (.object "java/lang/Long", A), .inr (1, [])], 0, 0)) rfl ?_
        refine EW.run 6 (cf' := ((105, [.val (.long id), .second, .val (.long gs), .second, .val (.long len), .second, .val (.long d), .second, .val (.long e), .second, .val (.int sel), .val (.long (len &&& (9223372036854775807 : Int64))), .second, .val (.int (1 : Int32)), .val (.int (1 : Int32)), .val (.int (0 : Int32)), .val (.long (id ^^^ d)), .second, .val (.long (gs ^^^ e)), .second, .val (.long (d &&& (9223372036854775807 : Int64))), .second, .val (.long (len &&& (9223372036854775807 : Int64))), .second, .unset, .unset, .unset, .unset], []), [.inl (.object "java/lang/Long", A), .inr (1, [])], 0, 0)) rfl ?_
        exact own_c6 A id gs len d e sel hin
      · have h7 : (sel &&& (4 : Int32)).toInt ≠ 0 := by simp only [cP] at h; omega
        clear h
        show EW _ _ _ _ _ ((43, [.val (.long id), .second, .val (.long gs), .second, .val (.long len), .second, .val (.long d), .second, .val (.long e), .second, .val (.int sel), .val (.long (len &&& (9223372036854775807 : Int64))), .second, .val (.int (1 : Int32)), .val (.int (1 : Int32)), .unset, .unset, .unset, .unset, .unset, .unset, .unset, .unset, .unset, .unset, .unset, .unset, .unset], []), [.inl (.object "java/lang/Long", A), .inr (1, [])], 0, 0)
        refine EW.run 6 (cf' := ((56, [.val (.long id), .second, .val (.long gs), .second, .val (.long len), .second, .val (.long d), .second, .val (.long e), .second, .val (.int sel), .val (.long (len &&& (9223372036854775807 : Int64))), .second, .val (.int (1 : Int32)), .val (.int (1 : Int32)), .val (.int (1 : Int32)), .unset, .unset, .unset, .unset, .unset, .unset, .unset, .unset, .unset, .unset, .unset, .unset], [.long id]), [.inl (.object "java/lang/Long", A), .inr (1, [])], 0, 0)) rfl ?_
        refine EW.run 6 (cf' := ((70, [.val (.long id), .second, .val (.long gs), .second, .val (.long len), .second, .val (.long d), .second, .val (.long e), .second, .val (.int sel), .val (.long (len &&& (9223372036854775807 : Int64))), .second, .val (.int (1 : Int32)), .val (.int (1 : Int32)), .val (.int (1 : Int32)), .val (.long (id ^^^ d)), .second, .unset, .unset, .unset, .unset, .unset, .unset, .unset, .unset, .unset, .unset], []), [.inl (.object "java/lang/Long", A), .inr (1, [])], 0, 0)) rfl ?_
        refine EW.run 6 (cf' := ((82, [.val (.long id), .second, .val (.long gs), .second, .val (.long len), .second, .val (.long d), .second, .val (.long e), .second, .val (.int sel), .val (.long (len &&& (9223372036854775807 : Int64))), .second, .val (.int (1 : Int32)), .val (.int (1 : Int32)), .val (.int (1 : Int32)), .val (.long (id ^^^ d)), .second, .val (.long (gs ^^^ e)), .second, .unset, .unset, .unset, .unset, .unset, .unset, .unset, .unset], [.long d]), [.inl (.object "java/lang/Long", A), .inr (1, [])], 0, 0)) rfl ?_
        refine EW.run 6 (cf' := ((95, [.val (.long id), .second, .val (.long gs), .second, .val (.long len), .second, .val (.long d), .second, .val (.long e), .second, .val (.int sel), .val (.long (len &&& (9223372036854775807 : Int64))), .second, .val (.int (1 : Int32)), .val (.int (1 : Int32)), .val (.int (1 : Int32)), .val (.long (id ^^^ d)), .second, .val (.long (gs ^^^ e)), .second, .val (.long (d &&& (9223372036854775807 : Int64))), .second, .unset, .unset, .unset, .unset, .unset, .unset], [.long (len &&& (9223372036854775807 : Int64))]), [.inl (.object "java/lang/Long", A), .inr (1, [])], 0, 0)) rfl ?_
        refine EW.run 4 (cf' := ((105, [.val (.long id), .second, .val (.long gs), .second, .val (.long len), .second, .val (.long d), .second, .val (.long e), .second, .val (.int sel), .val (.long (len &&& (9223372036854775807 : Int64))), .second, .val (.int (1 : Int32)), .val (.int (1 : Int32)), .val (.int (1 : Int32)), .val (.long (id ^^^ d)), .second, .val (.long (gs ^^^ e)), .second, .val (.long (d &&& (9223372036854775807 : Int64))), .second, .val (.long ((len &&& (9223372036854775807 : Int64)) ^^^ (d &&& (9223372036854775807 : Int64)))), .second, .unset, .unset, .unset, .unset], []), [.inl (.object "java/lang/Long", A), .inr (1, [])], 0, 0)) rfl ?_
        exact own_c7 A id gs len d e sel hin
theorem hT {Z : State} {a0 : Array Value} (hw : ∀ d ∈ tables_1, d.before a0 Z = true) : ∀ C F, gT C = some F → ClsOk Z a0 gK gC C F := by
  intro C F h
  match C, h with
  | 0, h => exact cls_of hw (by obtain rfl := Option.some.inj h; decide +kernel)
  | 1, h => exact cls_of hw (by obtain rfl := Option.some.inj h; decide +kernel)
  | _ + 2, h => cases h
theorem pnL : plainFor x = true := plainFor_of_name (by first | (simp [plainName, overriddenIn, x]; done) | decide +kernel)
set_option maxRecDepth 65536 in
set_option maxHeartbeats 40000000 in
theorem comes_1 {Post : Tables → Env → Array Value → State → Outcome → State → Prop} (hpost : ∀ tb e args s v u, (limb_1_1.after args s (.returned v) u = true ∧ limb_1_2.after args s (.returned v) u = true ∧ True) → FrameEnd s (.returned v) u (Jvm.fieldLocs frame_1_writes args s ++ Jvm.arrayLocs frame_1_arrays args s ++ Jvm.staticLocs frame_1_statics s) 16 128 → Post tb e args s (.returned v) u) :
    ArmFor flags0 classFile x code maxLocals ret World_1 tables_1 room_1 Calls_1 rest_1 Pre_1 Post := by
  intro l hfl _ _ p e ha hc hk s m args below hf hA hF happ hP0
  obtain ⟨hcalls, hrest, hpre⟩ := hP0
  obtain ⟨-, -, -, hnamed, -, -, -, hat⟩ := (Spec.applies_iff hf).mp happ
  obtain ⟨hg, hn⟩ := and_e (Cond.before_iff.mp (show (Jvm.Cond.and given_1 narrow_1).before args s = true from hpre))
  obtain ⟨gc, g0⟩ := and_e hg
  obtain ⟨k0, g1⟩ := and_e g0
  obtain ⟨k1, g2⟩ := and_e g1
  obtain ⟨k2, g3⟩ := and_e g2
  obtain ⟨k3, g4⟩ := and_e g3
  obtain ⟨k4, g5⟩ := and_e g4
  obtain ⟨w0, w1, w2, w3, w4, w5, rfl⟩ : ∃ w0 w1 w2 w3 w4 w5 : Value, args = #[w0, w1, w2, w3, w4, w5] := by
    have hs : args.size = 6 := by simpa [Cond.value, given_1] using gc
    obtain ⟨L⟩ := args
    match L, hs with
    | [w0, w1, w2, w3, w4, w5], _ => exact ⟨w0, w1, w2, w3, w4, w5, rfl⟩
  have hw := fun d (hd : d ∈ tables_1) => atoms_spec (ws := Jvm.Cond.code x code maxLocals ret :: tables_1) hat d (List.mem_cons_of_mem _ hd)
  obtain ⟨i0, e0⟩ := isL_v k0
  obtain rfl : w0 = (.long i0) := Option.some.inj e0
  obtain ⟨i1, e1⟩ := isL_v k1
  obtain rfl : w1 = (.long i1) := Option.some.inj e1
  obtain ⟨i2, e2⟩ := isL_v k2
  obtain rfl : w2 = (.long i2) := Option.some.inj e2
  obtain ⟨i3, e3⟩ := isL_v k3
  obtain rfl : w3 = (.long i3) := Option.some.inj e3
  obtain ⟨i4, e4⟩ := isL_v k4
  obtain rfl : w4 = (.long i4) := Option.some.inj e4
  obtain ⟨i5, e5⟩ := is_v g5
  obtain rfl : w5 = (.int i5) := Option.some.inj e5
  obtain ⟨hsets, -⟩ := atoms_of _ (rest_1_c_eq ▸ (show rest_1_c.before _ s = true from hrest))
  have n2 := Cond.before_iff.mp (hsets _ (List.mem_of_getElem? (i := 2) rfl))
  have n4 := Cond.before_iff.mp (hsets _ (List.mem_of_getElem? (i := 4) rfl))
  have n5 := Cond.before_iff.mp (hsets _ (List.mem_of_getElem? (i := 5) rfl))
  obtain ⟨a0, ea0⟩ := arr_v n2
  obtain ⟨c0, A0⟩ := Arr.start ea0 n2
  have TS := Sta.start ea0 (Or.inl (hsets _ (List.mem_of_getElem? (i := 1) rfl)))
  obtain ⟨hl1, hl2⟩ := len_out ea0 A0 (eq_out n4 (Term.int_eval _))
  have hsz : c0.slots.size = 256 := by
    have q : c0.slots.size.toInt32.toInt = c0.slots.size := len_toInt hl1
    rw [hl2] at q
    have q2 : (256 : Int32).toInt = 256 := by decide
    omega
  obtain ⟨j, hj0, hj1, hjE⟩ : ∃ j : Int32, ¬ j < 0 ∧ j.toNatClampNeg < 256 ∧ (-128 ≤ i0.toInt → i0.toInt ≤ 127 → j = i0.toInt32 + 128) := by
    by_cases hr : -128 ≤ i0.toInt ∧ i0.toInt ≤ 127
    · have f1 := c_l2i i0
      have f2 := c_iadd i0.toInt32 128
      have f3 := rng32 i0.toInt32
      have f4 := rng32 (i0.toInt32 + 128)
      have f5 : (128 : Int32).toInt = 128 := by decide
      refine ⟨i0.toInt32 + 128, ?_, ?_, fun _ _ => rfl⟩
      · rw [Int32.lt_iff_toInt_lt]; simp only [Int32.reduceToInt]; omega
      · simp only [Int32.toNatClampNeg]; omega
    · exact ⟨0, by decide, by decide, fun q1 q2 => absurd ⟨q1, q2⟩ hr⟩
  obtain ⟨u1, -⟩ := and_e (Cond.all_elim ea0 (A0.fin (Vm.Alike.refl _)) n5 j.toNatClampNeg (by omega))
  obtain ⟨a1, ea1⟩ := exa_v u1
  have X1 := exa_at ea1 u1
  have E1 : c0.slots[j.toNatClampNeg]? = some (.ref a1) := (elem_f (idx := [j.toNatClampNeg]) ea0 (idx_at hj0) (A0.fin (Vm.Alike.refl _)) hj0).symm.trans ea1
  obtain ⟨A, hA⟩ : ∃ A : List Value, A = (List.replicate 256 (.float 0)).set j.toNatClampNeg (.ref 1) := ⟨_, rfl⟩
  have hAj : A[j.toNatClampNeg]? = some (.ref 1) := by rw [hA, List.getElem?_set_self (by simpa using hj1)]
  obtain ⟨ρ, hρ⟩ : ∃ ρ : Rho, ρ = (fun i => match i with | 0 => a0 | 1 => a1 | i + 2 => s.heap.size + i, fun _ => 0) := ⟨_, rfl⟩
  obtain ⟨r, ⟨N, hrun⟩, hr1, hrc, hrs⟩ := law_run A i0 i1 i2 i3 i4 i5 (fun q1 q2 => by rw [← hjE q1 q2]; exact ⟨hj0, hAj⟩)
  have hR := exec_ok (P := gP) (b := 2) (S := gS) (CT := gT) (D := D0) (NI := NI0) (TB := T0) (l := l) (Z := s) (a0 := _) (ρ := ρ) (K := gK) (CN := gC) (MN := gM) (n0 := s.heap.size) (fun i hi => by subst hρ; match i, hi with | i + 2, _ => exact congrArg (s.heap.size + ·) (Nat.add_sub_cancel ..).symm) (fun i hi => by
    subst hρ
    match i, hi with
    | 0, _ => exact A0.lt
    | 1, _ => exact X1.lt
    | j + 2, h => exact absurd h (by omega)) (fun i j h => by cases h) (hT hw) (fun C k h => by
      obtain ⟨q1, q2⟩ := Bool.and_eq_true_iff.mp h
      have e1 := Nat.eq_of_beq_eq_true q1
      have e2 := Nat.eq_of_beq_eq_true q2
      subst e1 e2
      have w1 := hw (Jvm.Cond.noSuperclass "java/lang/Object") (by decide +kernel)
      have w2 := hw (Jvm.Cond.superclass "java/lang/Number" "java/lang/Object") (by decide +kernel)
      have w3 := hw (Jvm.Cond.superclass "java/lang/Long" "java/lang/Number") (by decide +kernel)
      have w4 := hw (Jvm.Cond.instantiable "com/example/holdfast/holdfast/protocol/Block" 3) (by decide +kernel)
      exact ns_no w3 w4 (NS.step w3 (NS.step w2 (ns_root w1 w4 (by decide)) (by decide)) (by decide)) (by decide)) (hP hw) (fun t y v => ⟨fun h => by (cases h), fun h => by (cases h), fun h => by (cases h)⟩) N _ _ _ _ _ (good_of hw cL rfl) hrun
  have hSim : Sim s ρ gK gC 2 s.heap.size gS [.inl (.object "java/lang/Long", A), .inr (1, [])] s.heap := by
    subst hρ
    refine ⟨Nat.le_of_ble_eq_true rfl, rfl, fun i o h => ?_, ?_⟩
    · match i, h with
      | 0, h =>
        obtain rfl := Option.some.inj h
        refine ⟨c0, A0, by rw [hA, hsz]; simp, fun i v hv hk => ?_⟩
        rw [hA] at hv
        by_cases hi : i = j.toNatClampNeg
        · subst hi
          rw [List.getElem?_set_self (by simpa using hj1)] at hv
          cases hv
          exact E1
        · rw [List.getElem?_set_ne (fun q => hi q.symm), List.getElem?_replicate] at hv
          split at hv
          · cases hv; cases hk
          · cases hv
      | 1, h => obtain rfl := Option.some.inj h; exact ⟨X1, fun _ h => nomatch h⟩
      | j + 2, h => cases h
    · exact List.forall_mem_cons.mpr ⟨TS, fun _ h => nomatch h⟩
  obtain ⟨n, o, h1, h2, h3, _, L, rfl, ⟨hv, Nf, -, -⟩, hq⟩ := met_of hR pnL (h0 := s.heap) hSim tables_1 room_1 rfl rfl (Nat.le_trans hrc (by decide)) (Nat.le_trans hrs (by decide)) p e ha hc hk s m _ below hf ((Spec.applies_iff_loose hf).mp happ).1 ⟨by subst hρ; rfl, State.Warmed39.refl s, rfl⟩ trivial
  have hv1 : _ = some (Value.int 1) := hv.trans (by rw [hr1]; rfl)
  subst hv1
  refine ⟨n, _, h1, h2, h3, hpost _ _ _ _ _ _ ⟨Cond.after_iff.mpr rfl, Cond.after_iff.mpr (eq_i res_at (Term.int_eval (1)) rfl), trivial⟩ ⟨hq.1, hq.2.1, (hq.2.2.sift fun y hy => Or.inr (Nf y hy)).mono hrc hrs⟩⟩
theorem main_1_1 : Claimed_1_1 := comes_1 fun _ _ _ _ _ _ h hF => ⟨h.1, hF⟩
theorem main_1_2 : Claimed_1_2 := comes_1 fun _ _ _ _ _ _ h hF => ⟨h.2.1, hF⟩
end Jvm.Pilot.@@N@@
namespace Jvm.Pilot.@@N@@
open Jvm Jvm.ClassFile Sem Op Lib Jvm.Free Jvm.Stand Jvm.Pilot.@@N@@.Jvm.D
/-! MADE BY PROGRAM (witnessworld.py) out of the Statement's table words and the real class files: 16 classes; the members and pool entries that the words name. The judged class is class 1, her method 1. -/
namespace start1
open Jvm.ClassFile
def u (s : String) : CpInfo := .utf8 (stringToUtf16 s)
/-- a pool by its gaps: so many unusable entries, then the entry; so many at the end -/
def gap : Nat → List CpInfo → List CpInfo
  | 0, r => r
  | n + 1, r => .unusable :: gap n r
def poolList (es : List (Nat × CpInfo)) (last : Nat) : List CpInfo := es.foldr (fun e r => gap e.1 (e.2 :: r)) (gap last [])
def pool (es : List (Nat × CpInfo)) (last : Nat) : Array CpInfo := ⟨poolList es last⟩
def fileOf (pool : Array CpInfo) (this : Nat) (attrs : Array Attribute := #[]) (ms : Array MethodInfo := #[]) (fl : Nat := 33) (sup : Nat := 0) (ifs : Array Nat := #[]) (fds : Array FieldInfo := #[]) : ClassFile where
  minorVersion := 0
  majorVersion := 65
  constantPool := pool
  accessFlags := fl
  thisClass := this
  superClass := sup
  interfaces := ifs
  fields := fds
  methods := ms
  attributes := attrs
def plain (name : String) (sup : Option ClassId) : Class where
  name := name
  kind := .ordinary
  loader := none
  accessFlags := 33
  super := sup
  interfaces := #[]
  cf := none
  fields := #[]
  methods := #[]
  instanceTypes := #[]
  staticTypes := #[]
  resolved := #[]
  callSites := []
  init := .initialized
  statics := none
  mirror := none

def pool0 : Array CpInfo := pool [(5, u "<init>"), (0, u "()V"), (1, .class_ 10), (1, u "java/lang/Object")] 113

def k0c0 : Code := { maxStack := 0, maxLocals := 1, code := object_method_1_code, exceptionTable := #[], attributes := #[] }
def k0m0 : Method := { name := "<init>", desc := "()V", sig := { parameters := [], returnType := none }, accessFlags := 1, code := some k0c0 }
/-- java/lang/Object -/
def k0 : Class := { plain "java/lang/Object" none with
  accessFlags := 33
  interfaces := #[]
  cf := some (fileOf pool0 8 #[] #[{ accessFlags := 1, nameIndex := 5, descriptorIndex := 6, attributes := #[] }] 33 0 #[] #[])
  fields := #[]
  methods := #[k0m0]
  instanceTypes := #[]
  staticTypes := #[]
  resolved := Array.replicate 124 none
  statics := none }

def pool1 : Array CpInfo := pool [(2, .class_ 4), (1, u "java/lang/Object"), (0, u "<init>"), (0, u "()V"), (0, .class_ 8), (0, u "java/lang/Long"), (0, .long 9223372036854775807), (1, .class_ 12), (0, u "com/example/holdfast/holdfast/protocol/Block"), (0, .methodref 11 14), (0, .nameAndType 5 15), (0, u "(JJJ)V"), (0, .methodref 7 17), (0, .nameAndType 18 19), (0, u "valueOf"), (0, u "(J)Ljava/lang/Long;"), (0, .methodref 11 21), (0, .nameAndType 22 23), (0, u "equals"), (0, u "(Ljava/lang/Object;)Z"), (0, .class_ 25), (0, u "com/example/holdfast/holdfast/protocol/BlockEqualsPinLaw"), (2, u "law"), (0, u "(JJJJJI)Z")] 3

def k1m0 : Method := { name := "<init>", desc := "()V", sig := { parameters := [], returnType := none }, accessFlags := 1, code := none }
def k1c1 : Code := { maxStack := 8, maxLocals := 28, code := code, exceptionTable := #[], attributes := #[] }
def k1m1 : Method := { name := "law", desc := "(JJJJJI)Z", sig := { parameters := [.long, .long, .long, .long, .long, .int], returnType := some .boolean }, accessFlags := 9, code := some k1c1 }
/-- com/example/holdfast/holdfast/protocol/BlockEqualsPinLaw -/
def k1 : Class := { plain "com/example/holdfast/holdfast/protocol/BlockEqualsPinLaw" (some 0) with
  accessFlags := 49
  interfaces := #[]
  cf := some (fileOf pool1 24 #[] #[{ accessFlags := 1, nameIndex := 5, descriptorIndex := 6, attributes := #[] }, { accessFlags := 9, nameIndex := 28, descriptorIndex := 29, attributes := #[] }] 49 2 #[] #[])
  fields := #[]
  methods := #[k1m0, k1m1]
  instanceTypes := #[]
  staticTypes := #[]
  resolved := Array.replicate 33 none
  statics := none }

def pool2 : Array CpInfo := pool [(1, .methodref 2 3), (0, .class_ 4), (0, .nameAndType 5 6), (0, u "java/lang/Object"), (0, u "<init>"), (0, u "()V"), (9, .fieldref 17 18), (0, .class_ 19), (0, .nameAndType 20 21), (0, u "com/example/holdfast/holdfast/protocol/Block"), (0, u "id"), (0, u "J"), (0, .fieldref 17 23), (0, .nameAndType 24 21), (0, u "generationStamp"), (0, .fieldref 17 26), (0, .nameAndType 27 21), (0, u "length"), (17, u "(JJJ)V"), (25, u "equals"), (0, u "(Ljava/lang/Object;)Z")] 23

def k2c0 : Code := { maxStack := 6, maxLocals := 7, code := prog_38_method_1_code, exceptionTable := #[], attributes := #[] }
def k2m0 : Method := { name := "<init>", desc := "(JJJ)V", sig := { parameters := [.long, .long, .long], returnType := none }, accessFlags := 1, code := some k2c0 }
def k2c1 : Code := { maxStack := 4, maxLocals := 3, code := prog_38_method_7_code, exceptionTable := #[], attributes := #[] }
def k2m1 : Method := { name := "equals", desc := "(Ljava/lang/Object;)Z", sig := { parameters := [(.object "java/lang/Object")], returnType := some .boolean }, accessFlags := 1, code := some k2c1 }
/-- com/example/holdfast/holdfast/protocol/Block -/
def k2 : Class := { plain "com/example/holdfast/holdfast/protocol/Block" (some 0) with
  accessFlags := 49
  interfaces := #[]
  cf := some (fileOf pool2 17 #[] #[{ accessFlags := 1, nameIndex := 5, descriptorIndex := 45, attributes := #[] }, { accessFlags := 1, nameIndex := 71, descriptorIndex := 72, attributes := #[] }] 49 2 #[] #[{ accessFlags := 18, nameIndex := 20, descriptorIndex := 21, attributes := #[] }, { accessFlags := 18, nameIndex := 24, descriptorIndex := 21, attributes := #[] }, { accessFlags := 18, nameIndex := 27, descriptorIndex := 21, attributes := #[] }])
  fields := #[{ name := "id", type := .long, accessFlags := 18, slot := 0, constantValue := 0 }, { name := "generationStamp", type := .long, accessFlags := 18, slot := 1, constantValue := 0 }, { name := "length", type := .long, accessFlags := 18, slot := 2, constantValue := 0 }]
  methods := #[k2m0, k2m1]
  instanceTypes := #[.long, .long, .long]
  staticTypes := #[]
  resolved := Array.replicate 96 none
  statics := none }

def pool3 : Array CpInfo := pool [(1, .class_ 2), (0, u "java/io/Serializable"), (0, .class_ 4), (0, u "java/lang/Object")] 2

/-- java/io/Serializable -/
def k3 : Class := { plain "java/io/Serializable" (some 0) with
  accessFlags := 1537
  interfaces := #[]
  cf := some (fileOf pool3 1 #[] #[] 1537 3 #[] #[])
  fields := #[]
  methods := #[]
  instanceTypes := #[]
  staticTypes := #[]
  resolved := Array.replicate 7 none
  statics := none }

def pool4 : Array CpInfo := pool [(1, .methodref 2 3), (0, .class_ 4), (0, .nameAndType 5 6), (0, u "java/lang/Object"), (0, u "<init>"), (0, u "()V"), (1, .class_ 10), (1, u "java/lang/Number"), (2, .class_ 14), (0, u "java/io/Serializable"), (0, u "serialVersionUID"), (0, u "J")] 20

def k4c0 : Code := { maxStack := 1, maxLocals := 1, code := jdk_18_method_1_code, exceptionTable := #[], attributes := #[] }
def k4m0 : Method := { name := "<init>", desc := "()V", sig := { parameters := [], returnType := none }, accessFlags := 1, code := some k4c0 }
/-- java/lang/Number -/
def k4 : Class := { plain "java/lang/Number" (some 0) with
  accessFlags := 1057
  interfaces := #[3]
  cf := some (fileOf pool4 8 #[] #[{ accessFlags := 1, nameIndex := 5, descriptorIndex := 6, attributes := #[] }] 1057 2 #[13] #[{ accessFlags := 26, nameIndex := 15, descriptorIndex := 16, attributes := #[] }])
  fields := #[{ name := "serialVersionUID", type := .long, accessFlags := 26, slot := 0, constantValue := 0 }]
  methods := #[k4m0]
  instanceTypes := #[]
  staticTypes := #[.long]
  resolved := Array.replicate 37 none
  statics := none }

def pool5 : Array CpInfo := pool [(1, .class_ 2), (0, u "java/lang/Comparable"), (0, .class_ 4), (0, u "java/lang/Object")] 7

/-- java/lang/Comparable -/
def k5 : Class := { plain "java/lang/Comparable" (some 0) with
  accessFlags := 1537
  interfaces := #[]
  cf := some (fileOf pool5 1 #[] #[] 1537 3 #[] #[])
  fields := #[]
  methods := #[]
  instanceTypes := #[]
  staticTypes := #[]
  resolved := Array.replicate 12 none
  statics := none }

def pool6 : Array CpInfo := pool [(1, .class_ 2), (0, u "java/lang/constant/Constable"), (0, .class_ 4), (0, u "java/lang/Object")] 6

/-- java/lang/constant/Constable -/
def k6 : Class := { plain "java/lang/constant/Constable" (some 0) with
  accessFlags := 1537
  interfaces := #[]
  cf := some (fileOf pool6 1 #[] #[] 1537 3 #[] #[])
  fields := #[]
  methods := #[]
  instanceTypes := #[]
  staticTypes := #[]
  resolved := Array.replicate 11 none
  statics := none }

def pool7 : Array CpInfo := pool [(1, .class_ 2), (0, u "java/lang/constant/ConstantDesc"), (0, .class_ 4), (0, u "java/lang/Object")] 32

/-- java/lang/constant/ConstantDesc -/
def k7 : Class := { plain "java/lang/constant/ConstantDesc" (some 0) with
  accessFlags := 1537
  interfaces := #[]
  cf := some (fileOf pool7 1 #[] #[] 1537 3 #[] #[])
  fields := #[]
  methods := #[]
  instanceTypes := #[]
  staticTypes := #[]
  resolved := Array.replicate 37 none
  statics := none }

def pool8 : Array CpInfo := pool [(1, .class_ 2), (0, u "java/lang/Long"), (55, .nameAndType 59 60), (0, u "<init>"), (0, u "()V"), (24, u "valueOf"), (143, u "(J)Ljava/lang/Long;"), (0, .long 18446744073709551488), (1, .long 127), (1, .fieldref 235 236), (0, .class_ 237), (0, .nameAndType 238 239), (0, u "java/lang/Long$LongCache"), (0, u "cache"), (0, u "[Ljava/lang/Long;"), (0, .methodref 1 241), (0, .nameAndType 59 242), (0, u "(J)V"), (27, .methodref 271 58), (0, .class_ 272), (0, u "java/lang/Number"), (0, .fieldref 1 274), (0, .nameAndType 275 276), (0, u "value"), (0, u "J"), (84, u "TYPE"), (0, u "Ljava/lang/Class;"), (0, .class_ 364), (0, u "java/lang/Comparable"), (0, .class_ 366), (0, u "java/lang/constant/Constable"), (0, .class_ 368), (0, u "java/lang/constant/ConstantDesc"), (0, u "MIN_VALUE"), (1, u "MAX_VALUE"), (4, u "SIZE"), (0, u "I"), (1, u "BYTES"), (1, u "serialVersionUID")] 142

def k8c0 : Code := { maxStack := 4, maxLocals := 3, code := jdk_35_method_24_code, exceptionTable := #[], attributes := #[] }
def k8m0 : Method := { name := "valueOf", desc := "(J)Ljava/lang/Long;", sig := { parameters := [.long], returnType := some (.object "java/lang/Long") }, accessFlags := 9, code := some k8c0 }
def k8c1 : Code := { maxStack := 3, maxLocals := 3, code := jdk_35_method_26_code, exceptionTable := #[], attributes := #[] }
def k8m1 : Method := { name := "<init>", desc := "(J)V", sig := { parameters := [.long], returnType := none }, accessFlags := 1, code := some k8c1 }
/-- java/lang/Long -/
def k8 : Class := { plain "java/lang/Long" (some 4) with
  accessFlags := 49
  interfaces := #[5, 6, 7]
  cf := some (fileOf pool8 1 #[.nestMembers #[235]] #[{ accessFlags := 9, nameIndex := 85, descriptorIndex := 229, attributes := #[] }, { accessFlags := 1, nameIndex := 59, descriptorIndex := 242, attributes := #[] }] 49 271 #[363, 365, 367] #[{ accessFlags := 25, nameIndex := 369, descriptorIndex := 276, attributes := #[] }, { accessFlags := 25, nameIndex := 371, descriptorIndex := 276, attributes := #[] }, { accessFlags := 25, nameIndex := 361, descriptorIndex := 362, attributes := #[] }, { accessFlags := 18, nameIndex := 275, descriptorIndex := 276, attributes := #[] }, { accessFlags := 25, nameIndex := 376, descriptorIndex := 377, attributes := #[] }, { accessFlags := 25, nameIndex := 379, descriptorIndex := 377, attributes := #[] }, { accessFlags := 26, nameIndex := 381, descriptorIndex := 276, attributes := #[] }])
  fields := #[{ name := "MIN_VALUE", type := .long, accessFlags := 25, slot := 0, constantValue := 0 }, { name := "MAX_VALUE", type := .long, accessFlags := 25, slot := 1, constantValue := 0 }, { name := "TYPE", type := (.object "java/lang/Class"), accessFlags := 25, slot := 2, constantValue := 0 }, { name := "value", type := .long, accessFlags := 18, slot := 0, constantValue := 0 }, { name := "SIZE", type := .int, accessFlags := 25, slot := 3, constantValue := 0 }, { name := "BYTES", type := .int, accessFlags := 25, slot := 4, constantValue := 0 }, { name := "serialVersionUID", type := .long, accessFlags := 26, slot := 5, constantValue := 0 }]
  methods := #[k8m0, k8m1]
  instanceTypes := #[.long]
  staticTypes := #[.long, .long, (.object "java/lang/Class"), .int, .int, .long]
  resolved := Array.replicate 524 none
  statics := none }

def pool9 : Array CpInfo := pool [(2, .class_ 4), (1, u "java/lang/Object"), (0, u "<init>"), (0, u "()V"), (0, .class_ 8), (0, u "java/lang/Long"), (7, .class_ 18), (1, u "java/lang/Long$LongCache"), (0, u "$assertionsDisabled"), (0, u "Z"), (8, u "archivedCache"), (0, u "[Ljava/lang/Long;"), (7, u "cache")] 24

def k9m0 : Method := { name := "<init>", desc := "()V", sig := { parameters := [], returnType := none }, accessFlags := 2, code := none }
/-- java/lang/Long$LongCache -/
def k9 : Class := { plain "java/lang/Long$LongCache" (some 0) with
  accessFlags := 48
  interfaces := #[]
  cf := some (fileOf pool9 16 #[.nestHost 7] #[{ accessFlags := 2, nameIndex := 5, descriptorIndex := 6, attributes := #[] }] 48 2 #[] #[{ accessFlags := 24, nameIndex := 38, descriptorIndex := 30, attributes := #[] }, { accessFlags := 8, nameIndex := 29, descriptorIndex := 30, attributes := #[] }, { accessFlags := 4120, nameIndex := 19, descriptorIndex := 20, attributes := #[] }])
  fields := #[{ name := "cache", type := (.array (.object "java/lang/Long")), accessFlags := 24, slot := 0, constantValue := 0 }, { name := "archivedCache", type := (.array (.object "java/lang/Long")), accessFlags := 8, slot := 1, constantValue := 0 }, { name := "$assertionsDisabled", type := .boolean, accessFlags := 4120, slot := 2, constantValue := 0 }]
  methods := #[k9m0]
  instanceTypes := #[]
  staticTypes := #[(.array (.object "java/lang/Long")), (.array (.object "java/lang/Long")), .boolean]
  resolved := Array.replicate 63 none
  statics := some 0 }

def pool10 : Array CpInfo := pool [(1, u "java/lang/Cloneable"), (0, .class_ 1), (0, u "java/lang/Object"), (0, .class_ 3)] 3

/-- java/lang/Cloneable -/
def k10 : Class := { plain "java/lang/Cloneable" (some 0) with
  accessFlags := 1537
  interfaces := #[]
  cf := some (fileOf pool10 2 #[] #[] 1537 4 #[] #[])
  fields := #[]
  methods := #[]
  instanceTypes := #[]
  staticTypes := #[]
  resolved := Array.replicate 8 none
  statics := none }

/-- the primitive byte -/
def k11 : Class := { plain "byte" none with kind := .primitive 'B', accessFlags := 0x411 }
/-- [B -/
def k12 : Class := { plain "[B" (some 0) with kind := .array 11 .byte, interfaces := #[10, 3], accessFlags := 1041 }

/-- the primitive int -/
def k13 : Class := { plain "int" none with kind := .primitive 'I', accessFlags := 0x411 }
/-- [I -/
def k14 : Class := { plain "[I" (some 0) with kind := .array 13 .int, interfaces := #[10, 3], accessFlags := 1041 }

/-- [Ljava/lang/Long; -/
def k15 : Class := { plain "[Ljava/lang/Long;" (some 0) with kind := .array 8 (.object "java/lang/Long"), interfaces := #[10, 3], accessFlags := 1041 }

def heap : Heap := #[{ cls := 9, slots := #[.ref 1, .null, .int 0], vm := .statics 9 },
  { cls := 15, slots := #[.ref 2, .ref 3, .ref 4, .ref 5, .ref 6, .ref 7, .ref 8, .ref 9, .ref 10, .ref 11, .ref 12, .ref 13, .ref 14, .ref 15, .ref 16, .ref 17, .ref 18, .ref 19, .ref 20, .ref 21, .ref 22, .ref 23, .ref 24, .ref 25, .ref 26, .ref 27, .ref 28, .ref 29, .ref 30, .ref 31, .ref 32, .ref 33, .ref 34, .ref 35, .ref 36, .ref 37, .ref 38, .ref 39, .ref 40, .ref 41, .ref 42, .ref 43, .ref 44, .ref 45, .ref 46, .ref 47, .ref 48, .ref 49, .ref 50, .ref 51, .ref 52, .ref 53, .ref 54, .ref 55, .ref 56, .ref 57, .ref 58, .ref 59, .ref 60, .ref 61, .ref 62, .ref 63, .ref 64, .ref 65, .ref 66, .ref 67, .ref 68, .ref 69, .ref 70, .ref 71, .ref 72, .ref 73, .ref 74, .ref 75, .ref 76, .ref 77, .ref 78, .ref 79, .ref 80, .ref 81, .ref 82, .ref 83, .ref 84, .ref 85, .ref 86, .ref 87, .ref 88, .ref 89, .ref 90, .ref 91, .ref 92, .ref 93, .ref 94, .ref 95, .ref 96, .ref 97, .ref 98, .ref 99, .ref 100, .ref 101, .ref 102, .ref 103, .ref 104, .ref 105, .ref 106, .ref 107, .ref 108, .ref 109, .ref 110, .ref 111, .ref 112, .ref 113, .ref 114, .ref 115, .ref 116, .ref 117, .ref 118, .ref 119, .ref 120, .ref 121, .ref 122, .ref 123, .ref 124, .ref 125, .ref 126, .ref 127, .ref 128, .ref 129, .ref 130, .ref 131, .ref 132, .ref 133, .ref 134, .ref 135, .ref 136, .ref 137, .ref 138, .ref 139, .ref 140, .ref 141, .ref 142, .ref 143, .ref 144, .ref 145, .ref 146, .ref 147, .ref 148, .ref 149, .ref 150, .ref 151, .ref 152, .ref 153, .ref 154, .ref 155, .ref 156, .ref 157, .ref 158, .ref 159, .ref 160, .ref 161, .ref 162, .ref 163, .ref 164, .ref 165, .ref 166, .ref 167, .ref 168, .ref 169, .ref 170, .ref 171, .ref 172, .ref 173, .ref 174, .ref 175, .ref 176, .ref 177, .ref 178, .ref 179, .ref 180, .ref 181, .ref 182, .ref 183, .ref 184, .ref 185, .ref 186, .ref 187, .ref 188, .ref 189, .ref 190, .ref 191, .ref 192, .ref 193, .ref 194, .ref 195, .ref 196, .ref 197, .ref 198, .ref 199, .ref 200, .ref 201, .ref 202, .ref 203, .ref 204, .ref 205, .ref 206, .ref 207, .ref 208, .ref 209, .ref 210, .ref 211, .ref 212, .ref 213, .ref 214, .ref 215, .ref 216, .ref 217, .ref 218, .ref 219, .ref 220, .ref 221, .ref 222, .ref 223, .ref 224, .ref 225, .ref 226, .ref 227, .ref 228, .ref 229, .ref 230, .ref 231, .ref 232, .ref 233, .ref 234, .ref 235, .ref 236, .ref 237, .ref 238, .ref 239, .ref 240, .ref 241, .ref 242, .ref 243, .ref 244, .ref 245, .ref 246, .ref 247, .ref 248, .ref 249, .ref 250, .ref 251, .ref 252, .ref 253, .ref 254, .ref 255, .ref 256, .ref 257], vm := .none },
  { cls := 8, slots := #[.long (-128)], vm := .none },
  { cls := 8, slots := #[.long (-127)], vm := .none },
  { cls := 8, slots := #[.long (-126)], vm := .none },
  { cls := 8, slots := #[.long (-125)], vm := .none },
  { cls := 8, slots := #[.long (-124)], vm := .none },
  { cls := 8, slots := #[.long (-123)], vm := .none },
  { cls := 8, slots := #[.long (-122)], vm := .none },
  { cls := 8, slots := #[.long (-121)], vm := .none },
  { cls := 8, slots := #[.long (-120)], vm := .none },
  { cls := 8, slots := #[.long (-119)], vm := .none },
  { cls := 8, slots := #[.long (-118)], vm := .none },
  { cls := 8, slots := #[.long (-117)], vm := .none },
  { cls := 8, slots := #[.long (-116)], vm := .none },
  { cls := 8, slots := #[.long (-115)], vm := .none },
  { cls := 8, slots := #[.long (-114)], vm := .none },
  { cls := 8, slots := #[.long (-113)], vm := .none },
  { cls := 8, slots := #[.long (-112)], vm := .none },
  { cls := 8, slots := #[.long (-111)], vm := .none },
  { cls := 8, slots := #[.long (-110)], vm := .none },
  { cls := 8, slots := #[.long (-109)], vm := .none },
  { cls := 8, slots := #[.long (-108)], vm := .none },
  { cls := 8, slots := #[.long (-107)], vm := .none },
  { cls := 8, slots := #[.long (-106)], vm := .none },
  { cls := 8, slots := #[.long (-105)], vm := .none },
  { cls := 8, slots := #[.long (-104)], vm := .none },
  { cls := 8, slots := #[.long (-103)], vm := .none },
  { cls := 8, slots := #[.long (-102)], vm := .none },
  { cls := 8, slots := #[.long (-101)], vm := .none },
  { cls := 8, slots := #[.long (-100)], vm := .none },
  { cls := 8, slots := #[.long (-99)], vm := .none },
  { cls := 8, slots := #[.long (-98)], vm := .none },
  { cls := 8, slots := #[.long (-97)], vm := .none },
  { cls := 8, slots := #[.long (-96)], vm := .none },
  { cls := 8, slots := #[.long (-95)], vm := .none },
  { cls := 8, slots := #[.long (-94)], vm := .none },
  { cls := 8, slots := #[.long (-93)], vm := .none },
  { cls := 8, slots := #[.long (-92)], vm := .none },
  { cls := 8, slots := #[.long (-91)], vm := .none },
  { cls := 8, slots := #[.long (-90)], vm := .none },
  { cls := 8, slots := #[.long (-89)], vm := .none },
  { cls := 8, slots := #[.long (-88)], vm := .none },
  { cls := 8, slots := #[.long (-87)], vm := .none },
  { cls := 8, slots := #[.long (-86)], vm := .none },
  { cls := 8, slots := #[.long (-85)], vm := .none },
  { cls := 8, slots := #[.long (-84)], vm := .none },
  { cls := 8, slots := #[.long (-83)], vm := .none },
  { cls := 8, slots := #[.long (-82)], vm := .none },
  { cls := 8, slots := #[.long (-81)], vm := .none },
  { cls := 8, slots := #[.long (-80)], vm := .none },
  { cls := 8, slots := #[.long (-79)], vm := .none },
  { cls := 8, slots := #[.long (-78)], vm := .none },
  { cls := 8, slots := #[.long (-77)], vm := .none },
  { cls := 8, slots := #[.long (-76)], vm := .none },
  { cls := 8, slots := #[.long (-75)], vm := .none },
  { cls := 8, slots := #[.long (-74)], vm := .none },
  { cls := 8, slots := #[.long (-73)], vm := .none },
  { cls := 8, slots := #[.long (-72)], vm := .none },
  { cls := 8, slots := #[.long (-71)], vm := .none },
  { cls := 8, slots := #[.long (-70)], vm := .none },
  { cls := 8, slots := #[.long (-69)], vm := .none },
  { cls := 8, slots := #[.long (-68)], vm := .none },
  { cls := 8, slots := #[.long (-67)], vm := .none },
  { cls := 8, slots := #[.long (-66)], vm := .none },
  { cls := 8, slots := #[.long (-65)], vm := .none },
  { cls := 8, slots := #[.long (-64)], vm := .none },
  { cls := 8, slots := #[.long (-63)], vm := .none },
  { cls := 8, slots := #[.long (-62)], vm := .none },
  { cls := 8, slots := #[.long (-61)], vm := .none },
  { cls := 8, slots := #[.long (-60)], vm := .none },
  { cls := 8, slots := #[.long (-59)], vm := .none },
  { cls := 8, slots := #[.long (-58)], vm := .none },
  { cls := 8, slots := #[.long (-57)], vm := .none },
  { cls := 8, slots := #[.long (-56)], vm := .none },
  { cls := 8, slots := #[.long (-55)], vm := .none },
  { cls := 8, slots := #[.long (-54)], vm := .none },
  { cls := 8, slots := #[.long (-53)], vm := .none },
  { cls := 8, slots := #[.long (-52)], vm := .none },
  { cls := 8, slots := #[.long (-51)], vm := .none },
  { cls := 8, slots := #[.long (-50)], vm := .none },
  { cls := 8, slots := #[.long (-49)], vm := .none },
  { cls := 8, slots := #[.long (-48)], vm := .none },
  { cls := 8, slots := #[.long (-47)], vm := .none },
  { cls := 8, slots := #[.long (-46)], vm := .none },
  { cls := 8, slots := #[.long (-45)], vm := .none },
  { cls := 8, slots := #[.long (-44)], vm := .none },
  { cls := 8, slots := #[.long (-43)], vm := .none },
  { cls := 8, slots := #[.long (-42)], vm := .none },
  { cls := 8, slots := #[.long (-41)], vm := .none },
  { cls := 8, slots := #[.long (-40)], vm := .none },
  { cls := 8, slots := #[.long (-39)], vm := .none },
  { cls := 8, slots := #[.long (-38)], vm := .none },
  { cls := 8, slots := #[.long (-37)], vm := .none },
  { cls := 8, slots := #[.long (-36)], vm := .none },
  { cls := 8, slots := #[.long (-35)], vm := .none },
  { cls := 8, slots := #[.long (-34)], vm := .none },
  { cls := 8, slots := #[.long (-33)], vm := .none },
  { cls := 8, slots := #[.long (-32)], vm := .none },
  { cls := 8, slots := #[.long (-31)], vm := .none },
  { cls := 8, slots := #[.long (-30)], vm := .none },
  { cls := 8, slots := #[.long (-29)], vm := .none },
  { cls := 8, slots := #[.long (-28)], vm := .none },
  { cls := 8, slots := #[.long (-27)], vm := .none },
  { cls := 8, slots := #[.long (-26)], vm := .none },
  { cls := 8, slots := #[.long (-25)], vm := .none },
  { cls := 8, slots := #[.long (-24)], vm := .none },
  { cls := 8, slots := #[.long (-23)], vm := .none },
  { cls := 8, slots := #[.long (-22)], vm := .none },
  { cls := 8, slots := #[.long (-21)], vm := .none },
  { cls := 8, slots := #[.long (-20)], vm := .none },
  { cls := 8, slots := #[.long (-19)], vm := .none },
  { cls := 8, slots := #[.long (-18)], vm := .none },
  { cls := 8, slots := #[.long (-17)], vm := .none },
  { cls := 8, slots := #[.long (-16)], vm := .none },
  { cls := 8, slots := #[.long (-15)], vm := .none },
  { cls := 8, slots := #[.long (-14)], vm := .none },
  { cls := 8, slots := #[.long (-13)], vm := .none },
  { cls := 8, slots := #[.long (-12)], vm := .none },
  { cls := 8, slots := #[.long (-11)], vm := .none },
  { cls := 8, slots := #[.long (-10)], vm := .none },
  { cls := 8, slots := #[.long (-9)], vm := .none },
  { cls := 8, slots := #[.long (-8)], vm := .none },
  { cls := 8, slots := #[.long (-7)], vm := .none },
  { cls := 8, slots := #[.long (-6)], vm := .none },
  { cls := 8, slots := #[.long (-5)], vm := .none },
  { cls := 8, slots := #[.long (-4)], vm := .none },
  { cls := 8, slots := #[.long (-3)], vm := .none },
  { cls := 8, slots := #[.long (-2)], vm := .none },
  { cls := 8, slots := #[.long (-1)], vm := .none },
  { cls := 8, slots := #[.long (0)], vm := .none },
  { cls := 8, slots := #[.long (1)], vm := .none },
  { cls := 8, slots := #[.long (2)], vm := .none },
  { cls := 8, slots := #[.long (3)], vm := .none },
  { cls := 8, slots := #[.long (4)], vm := .none },
  { cls := 8, slots := #[.long (5)], vm := .none },
  { cls := 8, slots := #[.long (6)], vm := .none },
  { cls := 8, slots := #[.long (7)], vm := .none },
  { cls := 8, slots := #[.long (8)], vm := .none },
  { cls := 8, slots := #[.long (9)], vm := .none },
  { cls := 8, slots := #[.long (10)], vm := .none },
  { cls := 8, slots := #[.long (11)], vm := .none },
  { cls := 8, slots := #[.long (12)], vm := .none },
  { cls := 8, slots := #[.long (13)], vm := .none },
  { cls := 8, slots := #[.long (14)], vm := .none },
  { cls := 8, slots := #[.long (15)], vm := .none },
  { cls := 8, slots := #[.long (16)], vm := .none },
  { cls := 8, slots := #[.long (17)], vm := .none },
  { cls := 8, slots := #[.long (18)], vm := .none },
  { cls := 8, slots := #[.long (19)], vm := .none },
  { cls := 8, slots := #[.long (20)], vm := .none },
  { cls := 8, slots := #[.long (21)], vm := .none },
  { cls := 8, slots := #[.long (22)], vm := .none },
  { cls := 8, slots := #[.long (23)], vm := .none },
  { cls := 8, slots := #[.long (24)], vm := .none },
  { cls := 8, slots := #[.long (25)], vm := .none },
  { cls := 8, slots := #[.long (26)], vm := .none },
  { cls := 8, slots := #[.long (27)], vm := .none },
  { cls := 8, slots := #[.long (28)], vm := .none },
  { cls := 8, slots := #[.long (29)], vm := .none },
  { cls := 8, slots := #[.long (30)], vm := .none },
  { cls := 8, slots := #[.long (31)], vm := .none },
  { cls := 8, slots := #[.long (32)], vm := .none },
  { cls := 8, slots := #[.long (33)], vm := .none },
  { cls := 8, slots := #[.long (34)], vm := .none },
  { cls := 8, slots := #[.long (35)], vm := .none },
  { cls := 8, slots := #[.long (36)], vm := .none },
  { cls := 8, slots := #[.long (37)], vm := .none },
  { cls := 8, slots := #[.long (38)], vm := .none },
  { cls := 8, slots := #[.long (39)], vm := .none },
  { cls := 8, slots := #[.long (40)], vm := .none },
  { cls := 8, slots := #[.long (41)], vm := .none },
  { cls := 8, slots := #[.long (42)], vm := .none },
  { cls := 8, slots := #[.long (43)], vm := .none },
  { cls := 8, slots := #[.long (44)], vm := .none },
  { cls := 8, slots := #[.long (45)], vm := .none },
  { cls := 8, slots := #[.long (46)], vm := .none },
  { cls := 8, slots := #[.long (47)], vm := .none },
  { cls := 8, slots := #[.long (48)], vm := .none },
  { cls := 8, slots := #[.long (49)], vm := .none },
  { cls := 8, slots := #[.long (50)], vm := .none },
  { cls := 8, slots := #[.long (51)], vm := .none },
  { cls := 8, slots := #[.long (52)], vm := .none },
  { cls := 8, slots := #[.long (53)], vm := .none },
  { cls := 8, slots := #[.long (54)], vm := .none },
  { cls := 8, slots := #[.long (55)], vm := .none },
  { cls := 8, slots := #[.long (56)], vm := .none },
  { cls := 8, slots := #[.long (57)], vm := .none },
  { cls := 8, slots := #[.long (58)], vm := .none },
  { cls := 8, slots := #[.long (59)], vm := .none },
  { cls := 8, slots := #[.long (60)], vm := .none },
  { cls := 8, slots := #[.long (61)], vm := .none },
  { cls := 8, slots := #[.long (62)], vm := .none },
  { cls := 8, slots := #[.long (63)], vm := .none },
  { cls := 8, slots := #[.long (64)], vm := .none },
  { cls := 8, slots := #[.long (65)], vm := .none },
  { cls := 8, slots := #[.long (66)], vm := .none },
  { cls := 8, slots := #[.long (67)], vm := .none },
  { cls := 8, slots := #[.long (68)], vm := .none },
  { cls := 8, slots := #[.long (69)], vm := .none },
  { cls := 8, slots := #[.long (70)], vm := .none },
  { cls := 8, slots := #[.long (71)], vm := .none },
  { cls := 8, slots := #[.long (72)], vm := .none },
  { cls := 8, slots := #[.long (73)], vm := .none },
  { cls := 8, slots := #[.long (74)], vm := .none },
  { cls := 8, slots := #[.long (75)], vm := .none },
  { cls := 8, slots := #[.long (76)], vm := .none },
  { cls := 8, slots := #[.long (77)], vm := .none },
  { cls := 8, slots := #[.long (78)], vm := .none },
  { cls := 8, slots := #[.long (79)], vm := .none },
  { cls := 8, slots := #[.long (80)], vm := .none },
  { cls := 8, slots := #[.long (81)], vm := .none },
  { cls := 8, slots := #[.long (82)], vm := .none },
  { cls := 8, slots := #[.long (83)], vm := .none },
  { cls := 8, slots := #[.long (84)], vm := .none },
  { cls := 8, slots := #[.long (85)], vm := .none },
  { cls := 8, slots := #[.long (86)], vm := .none },
  { cls := 8, slots := #[.long (87)], vm := .none },
  { cls := 8, slots := #[.long (88)], vm := .none },
  { cls := 8, slots := #[.long (89)], vm := .none },
  { cls := 8, slots := #[.long (90)], vm := .none },
  { cls := 8, slots := #[.long (91)], vm := .none },
  { cls := 8, slots := #[.long (92)], vm := .none },
  { cls := 8, slots := #[.long (93)], vm := .none },
  { cls := 8, slots := #[.long (94)], vm := .none },
  { cls := 8, slots := #[.long (95)], vm := .none },
  { cls := 8, slots := #[.long (96)], vm := .none },
  { cls := 8, slots := #[.long (97)], vm := .none },
  { cls := 8, slots := #[.long (98)], vm := .none },
  { cls := 8, slots := #[.long (99)], vm := .none },
  { cls := 8, slots := #[.long (100)], vm := .none },
  { cls := 8, slots := #[.long (101)], vm := .none },
  { cls := 8, slots := #[.long (102)], vm := .none },
  { cls := 8, slots := #[.long (103)], vm := .none },
  { cls := 8, slots := #[.long (104)], vm := .none },
  { cls := 8, slots := #[.long (105)], vm := .none },
  { cls := 8, slots := #[.long (106)], vm := .none },
  { cls := 8, slots := #[.long (107)], vm := .none },
  { cls := 8, slots := #[.long (108)], vm := .none },
  { cls := 8, slots := #[.long (109)], vm := .none },
  { cls := 8, slots := #[.long (110)], vm := .none },
  { cls := 8, slots := #[.long (111)], vm := .none },
  { cls := 8, slots := #[.long (112)], vm := .none },
  { cls := 8, slots := #[.long (113)], vm := .none },
  { cls := 8, slots := #[.long (114)], vm := .none },
  { cls := 8, slots := #[.long (115)], vm := .none },
  { cls := 8, slots := #[.long (116)], vm := .none },
  { cls := 8, slots := #[.long (117)], vm := .none },
  { cls := 8, slots := #[.long (118)], vm := .none },
  { cls := 8, slots := #[.long (119)], vm := .none },
  { cls := 8, slots := #[.long (120)], vm := .none },
  { cls := 8, slots := #[.long (121)], vm := .none },
  { cls := 8, slots := #[.long (122)], vm := .none },
  { cls := 8, slots := #[.long (123)], vm := .none },
  { cls := 8, slots := #[.long (124)], vm := .none },
  { cls := 8, slots := #[.long (125)], vm := .none },
  { cls := 8, slots := #[.long (126)], vm := .none },
  { cls := 8, slots := #[.long (127)], vm := .none }]
def classes : Array Class := #[k0, k1, k2, k3, k4, k5, k6, k7, k8, k9, k10, k11, k12, k13, k14, k15]
def interned : List (Array UInt16 × Addr) := []
def slotsUsed : Nat := 515
def theMethod : MethodId := ⟨1, 1⟩
def args0 : Array Value := #[.long 5, .long 6, .long 7, .long 8, .long 9, .int 3]
def aboutOver (below : List Frame) : State where
  vm := { classes := classes, interned := interned.toArray }
  heap := heap
  slotsUsed := slotsUsed
  threads := #[{ frames := .invoking theMethod args0 :: below }]
def below0 : List Frame := [.native { method := ⟨0, 0⟩, args := #[] }]
def about1 : State := aboutOver below0
def p0 : Program := .bare "" "" ""
def e0 : Env := launch0.env 0 0 0
theorem w_frames : about1.frames = Frame.invoking theMethod args0 :: below0 := rfl
set_option maxRecDepth 65536 in
theorem w_args : argsFit about1.vm theMethod args0 = true := by decide +kernel
set_option maxRecDepth 65536 in
theorem w_heap : heapFits about1 = true := by decide +kernel
set_option maxRecDepth 65536 in
theorem w_runnable : about1.curStatus? = some .runnable := by decide +kernel
set_option maxRecDepth 65536 in
theorem w_alone : about1.alone = true := by decide +kernel
set_option maxRecDepth 65536 in
theorem w_named : about1.methodNamed? x = some theMethod := by decide +kernel
set_option maxRecDepth 65536 in
theorem w_hears : about1.hears theMethod below0 = true := by decide +kernel
set_option maxRecDepth 65536 in
theorem w_ripe : about1.ripe theMethod args0 below0 = true := by decide +kernel
theorem w_running : about1.status = .running := rfl
set_option maxRecDepth 65536 in
theorem w_room : about1.hasRoom e0.platform room_1 = true :=
  launch0.hasRoom_least _ room_1 (by decide +kernel) (by decide +kernel) (by decide +kernel) (by decide +kernel) (by decide +kernel) (by decide +kernel)
theorem allAtoms_all (ts : List Jvm.Cond) (a : Array Jvm.Value) (st : Jvm.State) : (allAtoms ts).before a st = ts.all (fun c => c.before a st) := by
  induction ts with
  | nil => rfl
  | cons c t ih =>
    show (Jvm.Cond.and c (allAtoms t)).before a st = _
    rw [Jvm.Cond.before_and, ih, List.all_cons]
def words1 : List Jvm.Cond := Jvm.Cond.code x code maxLocals ret :: tables_1
/-- a 'code' word, met by the world's own term for the bytes: nothing is compared byte by byte -/
theorem code_word {y : MethodName} {bytes : ByteArray} {mx : Nat} {rt : Option FieldType} {a : Array Value} {s : State} {m : MethodId} {meth : Method} {c : Code} (h1 : s.methodNamed? y = some m) (h2 : s.vm.method? m = some meth) (h3 : meth.code = some c) (h4 : c.code = bytes)
    (h5 : (c.maxLocals == mx && c.exceptionTable.isEmpty && decide (c.maxStack ≤ mostOperands) && decide (meth.sig.returnType = rt) && !meth.locks && decide (parseMethodDescriptor y.desc = some meth.sig)) = true) : (Jvm.Cond.code y bytes mx rt).before a s = true := by
  simp only [Bool.and_eq_true, beq_iff_eq, Bool.not_eq_true', decide_eq_true_eq] at h5
  obtain ⟨⟨⟨⟨⟨g1, g2⟩, g3⟩, g4⟩, g5⟩, g6⟩ := h5
  simp [Cond.before, Cond.holds, Cond.value, h1, h2, h3, h4, g1, g2, g3, g4, g5, g6]
def isCode : Jvm.Cond → Bool
  | .code _ _ _ _ => true
  | _ => false
theorem all_split {L : List Jvm.Cond} {P : Jvm.Cond → Bool} (h1 : L.all (fun c => isCode c || P c) = true) (h2 : ∀ c ∈ L.filter isCode, P c = true) : L.all P = true := by
  refine List.all_eq_true.mpr fun c hc => ?_
  have h := List.all_eq_true.mp h1 c hc
  rcases Bool.eq_false_or_eq_true (isCode c) with hi | hi
  · exact h2 c (List.mem_filter.mpr ⟨hc, hi⟩)
  · simpa [hi] using h
set_option maxRecDepth 65536 in
theorem w_c0 : (Jvm.Cond.code x code maxLocals ret).before args0 about1 = true := code_word (m := ⟨1, 1⟩) (meth := k1m1) (c := k1c1) (by decide +kernel) rfl rfl rfl (by decide +kernel)
set_option maxRecDepth 65536 in
theorem w_c1 : (Jvm.Cond.code ({ cls := "com/example/holdfast/holdfast/protocol/Block", name := "<init>", desc := "(JJJ)V" } : Jvm.MethodName) prog_38_method_1_code (7 : Nat) (Option.none : Option Jvm.ClassFile.FieldType)).before args0 about1 = true := code_word (m := ⟨2, 0⟩) (meth := k2m0) (c := k2c0) (by decide +kernel) rfl rfl rfl (by decide +kernel)
set_option maxRecDepth 65536 in
theorem w_c2 : (Jvm.Cond.code ({ cls := "java/lang/Object", name := "<init>", desc := "()V" } : Jvm.MethodName) object_method_1_code (1 : Nat) (Option.none : Option Jvm.ClassFile.FieldType)).before args0 about1 = true := code_word (m := ⟨0, 0⟩) (meth := k0m0) (c := k0c0) (by decide +kernel) rfl rfl rfl (by decide +kernel)
set_option maxRecDepth 65536 in
theorem w_c3 : (Jvm.Cond.code ({ cls := "com/example/holdfast/holdfast/protocol/Block", name := "equals", desc := "(Ljava/lang/Object;)Z" } : Jvm.MethodName) prog_38_method_7_code (3 : Nat) (Option.some Jvm.ClassFile.FieldType.boolean)).before args0 about1 = true := code_word (m := ⟨2, 1⟩) (meth := k2m1) (c := k2c1) (by decide +kernel) rfl rfl rfl (by decide +kernel)
set_option maxRecDepth 65536 in
theorem w_c4 : (Jvm.Cond.code ({ cls := "java/lang/Long", name := "valueOf", desc := "(J)Ljava/lang/Long;" } : Jvm.MethodName) jdk_35_method_24_code (3 : Nat) (Option.some (Jvm.ClassFile.FieldType.object "java/lang/Long"))).before args0 about1 = true := code_word (m := ⟨8, 0⟩) (meth := k8m0) (c := k8c0) (by decide +kernel) rfl rfl rfl (by decide +kernel)
set_option maxRecDepth 65536 in
theorem w_c5 : (Jvm.Cond.code ({ cls := "java/lang/Long", name := "<init>", desc := "(J)V" } : Jvm.MethodName) jdk_35_method_26_code (3 : Nat) (Option.none : Option Jvm.ClassFile.FieldType)).before args0 about1 = true := code_word (m := ⟨8, 1⟩) (meth := k8m1) (c := k8c1) (by decide +kernel) rfl rfl rfl (by decide +kernel)
set_option maxRecDepth 65536 in
theorem w_c6 : (Jvm.Cond.code ({ cls := "java/lang/Number", name := "<init>", desc := "()V" } : Jvm.MethodName) jdk_18_method_1_code (1 : Nat) (Option.none : Option Jvm.ClassFile.FieldType)).before args0 about1 = true := code_word (m := ⟨4, 0⟩) (meth := k4m0) (c := k4c0) (by decide +kernel) rfl rfl rfl (by decide +kernel)
def codes1 : List Jvm.Cond := [Jvm.Cond.code x code maxLocals ret, Jvm.Cond.code ({ cls := "com/example/holdfast/holdfast/protocol/Block", name := "<init>", desc := "(JJJ)V" } : Jvm.MethodName) prog_38_method_1_code (7 : Nat) (Option.none : Option Jvm.ClassFile.FieldType), Jvm.Cond.code ({ cls := "java/lang/Object", name := "<init>", desc := "()V" } : Jvm.MethodName) object_method_1_code (1 : Nat) (Option.none : Option Jvm.ClassFile.FieldType), Jvm.Cond.code ({ cls := "com/example/holdfast/holdfast/protocol/Block", name := "equals", desc := "(Ljava/lang/Object;)Z" } : Jvm.MethodName) prog_38_method_7_code (3 : Nat) (Option.some Jvm.ClassFile.FieldType.boolean), Jvm.Cond.code ({ cls := "java/lang/Long", name := "valueOf", desc := "(J)Ljava/lang/Long;" } : Jvm.MethodName) jdk_35_method_24_code (3 : Nat) (Option.some (Jvm.ClassFile.FieldType.object "java/lang/Long")), Jvm.Cond.code ({ cls := "java/lang/Long", name := "<init>", desc := "(J)V" } : Jvm.MethodName) jdk_35_method_26_code (3 : Nat) (Option.none : Option Jvm.ClassFile.FieldType), Jvm.Cond.code ({ cls := "java/lang/Number", name := "<init>", desc := "()V" } : Jvm.MethodName) jdk_18_method_1_code (1 : Nat) (Option.none : Option Jvm.ClassFile.FieldType)]
set_option maxRecDepth 65536 in
theorem codes_eq : words1.filter isCode = codes1 := rfl
theorem w_codes : ∀ c ∈ words1.filter isCode, c.before args0 about1 = true := by
  rw [codes_eq]
  intro c hc
  simp only [codes1, List.mem_cons, List.not_mem_nil, or_false] at hc
  rcases hc with rfl | rfl | rfl | rfl | rfl | rfl | rfl
  · exact w_c0
  · exact w_c1
  · exact w_c2
  · exact w_c3
  · exact w_c4
  · exact w_c5
  · exact w_c6
set_option maxRecDepth 65536 in
theorem w_t1 : (words1.take 24).all (fun c => isCode c || c.before args0 about1) = true := by decide +kernel
set_option maxRecDepth 65536 in
theorem w_t2 : ((words1.drop 24).take 24).all (fun c => isCode c || c.before args0 about1) = true := by decide +kernel
set_option maxRecDepth 65536 in
theorem w_t3 : ((words1.drop 24).drop 24).all (fun c => isCode c || c.before args0 about1) = true := by decide +kernel
theorem w_tables : (allAtoms (Jvm.Cond.code x code maxLocals ret :: tables_1)).before args0 about1 = true := by
  rw [allAtoms_all]
  show words1.all (fun c => c.before args0 about1) = true
  refine all_split ?_ w_codes
  rw [← List.take_append_drop 24 words1, List.all_append, w_t1, ← List.take_append_drop 24 (words1.drop 24), List.all_append, w_t2, w_t3]
  rfl
set_option maxRecDepth 65536 in
theorem w_rest : rest_1_c.before args0 about1 = true := by decide +kernel
set_option maxRecDepth 65536 in
theorem w_case : (Jvm.Cond.and given_1 narrow_1).before args0 about1 = true := by decide +kernel
theorem w_applies : (headSpec (Jvm.Cond.code x code maxLocals ret :: tables_1) room_1).applies x e0.platform about1 = true :=
  (Spec.applies_iff w_frames).mpr ⟨w_running, w_runnable, w_alone, w_named, w_hears, w_ripe, w_room, w_tables⟩
theorem atStart : AtStart classFile x code maxLocals ret World_1 tables_1 room_1 Calls_1 rest_1 Pre_1 launch0 p0 e0 about1 theMethod args0 below0 :=
  ⟨lists_1, trivial, launch0.admits_env _ _ _, launch0.least_env, fairChoices_fair.cas, fairChoices_fair.clock, w_frames, w_args, w_heap, w_applies, trivial, w_rest, w_case⟩
end start1
theorem witness_1 : WitnessClaimed_1 := ⟨start1.p0, start1.e0, start1.about1, start1.theMethod, start1.args0, start1.below0, start1.atStart⟩
end Jvm.Pilot.@@N@@
