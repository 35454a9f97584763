import JvmDerived
import JvmDerived.Pilot.@@N@@Statement
import JvmDerived.Pilot.@@N@@Code
set_option linter.unusedVariables false
set_option linter.unusedSimpArgs false
namespace Jvm.Eng
open Jvm Jvm.ClassFile Sem Op Lib Jvm.Free Jvm.Stand Jvm.LawKit Jvm.RoadKit

/-! ## A small machine over abstract objects, and that the JVM's model does what it does -/
abbrev Obj : Type := Sum (FieldType × List Value) (Nat × List (Nat × Value))
abbrev Row : Type := Instr × Nat × Nat × Nat × Value
abbrev Meth : Type := MethodName × ByteArray × Nat × Option FieldType × (Nat → Option Row)
abbrev Fm : Type := Nat × List Slot × List Value
abbrev Cfg : Type := Fm × List Obj × Nat × Nat
abbrev Res : Type := Option Value × List Obj × Nat × Nat
abbrev Fls : Type := Nat × List (Nat × Value × Bool)

/-- where the abstract references lie, and what the tokens (ints that are not known) stand for -/
abbrev Rho : Type := (Nat → Addr) × (Nat → Int32)
/-- an abstract value read by the map of its references and tokens -/
def rl (ρ : Rho) : Value → Value
  | .ref i => .ref (ρ.1 i)
  | .retAddr t => .int (ρ.2 t)
  | v => v
def rs (ρ : Rho) : Slot → Slot
  | .val v => .val (rl ρ v)
  | s => s
abbrev ar (ρ : Rho) (l : List Slot) : Array Slot := (l.map (rs ρ)).toArray
abbrev fm (ρ : Rho) (m : MethodId) (f : Fm) : JFrame := mkF m f.1 (ar ρ f.2.1) (f.2.2.map (rl ρ))

theorem rl_isRef (ρ : Rho) (v : Value) : (rl ρ v).isRef = v.isRef := by cases v <;> rfl
theorem rl_cat (ρ : Rho) (v : Value) : (rl ρ v).category = v.category := by cases v <;> rfl

/-! ### local variables -/
def setS (l : List Slot) (i : Nat) (x : Slot) : Option (List Slot) := if i < l.length then some (l.set i x) else none
def stSelf (l : List Slot) (i : Nat) (v : Value) : Option (List Slot) :=
  match setS l i (.val v) with
  | none => none
  | some l => if v.category = 2 then
      match l[i + 1]? with
      | none => none
      | some (.val old) => if old.category = 2 then (match setS l (i + 2) .unset with | none => none | some l' => setS l' (i + 1) .second) else setS l (i + 1) .second
      | some _ => setS l (i + 1) .second
    else some l
def stL (l : List Slot) (i : Nat) (v : Value) : Option (List Slot) :=
  match l[i]? with
  | none => none
  | some .second => (match setS l (i - 1) .unset with | none => none | some l' => stSelf l' i v)
  | some (.val old) => if old.category = 2 then (match setS l (i + 1) .unset with | none => none | some l' => stSelf l' i v) else stSelf l i v
  | some .unset => stSelf l i v

theorem ar_get {ρ : Rho} {l : List Slot} {i : Nat} {x : Slot} (h : l[i]? = some x) : (ar ρ l)[i]? = some (rs ρ x) := by simp [ar, h]
theorem setS_ok {ρ : Rho} {l l' : List Slot} {i : Nat} {x : Slot} (h : setS l i x = some l') : setAt (ar ρ l) i (rs ρ x) = some (ar ρ l') := by
  unfold setS at h
  split at h
  · rename_i q
    cases h
    unfold setAt
    rw [if_pos (by simpa [ar] using q)]
    simp [ar, List.map_set]
  · cases h
theorem stSelf_ok {ρ : Rho} {l l' : List Slot} {i : Nat} {v : Value} (h : stSelf l i v = some l') : storeSelf (ar ρ l) i (rl ρ v) = some (ar ρ l') := by
  unfold stSelf at h
  unfold storeSelf
  cases h1 : setS l i (.val v) with
  | none => rw [h1] at h; cases h
  | some l1 =>
    rw [h1] at h
    have q1 : setAt (ar ρ l) i (.val (rl ρ v)) = some (ar ρ l1) := setS_ok (ρ := ρ) h1
    simp only [q1, Option.bind_eq_bind, Option.bind_some, rl_cat]
    dsimp only at h
    split at h
    · rename_i hc
      rw [if_pos hc]
      cases h2 : l1[i + 1]? with
      | none => rw [h2] at h; cases h
      | some s2 =>
        rw [h2] at h
        rw [ar_get h2]
        cases s2 with
        | unset => exact setS_ok (ρ := ρ) h
        | second => exact setS_ok (ρ := ρ) h
        | val old =>
          simp only [rs, Option.bind_some, rl_cat]
          dsimp only at h
          split at h
          · rename_i hc2
            rw [if_pos hc2]
            cases h3 : setS l1 (i + 2) .unset with
            | none => rw [h3] at h; cases h
            | some l3 =>
              rw [h3] at h
              have q3 : setAt (ar ρ l1) (i + 2) .unset = some (ar ρ l3) := setS_ok (ρ := ρ) h3
              rw [q3]
              exact setS_ok (ρ := ρ) h
          · rename_i hc2
            rw [if_neg hc2]
            exact setS_ok (ρ := ρ) h
    · rename_i hc
      rw [if_neg hc]
      cases h; rfl
theorem stL_ok {ρ : Rho} {l l' : List Slot} {i : Nat} {v : Value} (h : stL l i v = some l') : storeLocals (ar ρ l) i (rl ρ v) = some (ar ρ l') := by
  unfold stL at h
  unfold storeLocals
  cases h1 : l[i]? with
  | none => rw [h1] at h; cases h
  | some s1 =>
    rw [h1] at h
    rw [ar_get h1]
    cases s1 with
    | unset => exact stSelf_ok h
    | second =>
      dsimp only at h
      simp only [rs, Option.bind_eq_bind, Option.bind_some]
      cases h2 : setS l (i - 1) .unset with
      | none => rw [h2] at h; cases h
      | some l2 =>
        rw [h2] at h
        have q : setAt (ar ρ l) (i - 1) .unset = some (ar ρ l2) := setS_ok (ρ := ρ) h2
        rw [q]
        exact stSelf_ok h
    | val old =>
      dsimp only at h
      simp only [rs, Option.bind_eq_bind, Option.bind_some, rl_cat]
      split at h
      · rename_i hc
        rw [if_pos hc]
        cases h2 : setS l (i + 1) .unset with
        | none => rw [h2] at h; cases h
        | some l2 =>
          rw [h2] at h
          have q : setAt (ar ρ l) (i + 1) .unset = some (ar ρ l2) := setS_ok (ρ := ρ) h2
          rw [q]
          exact stSelf_ok h
      · rename_i hc
        rw [if_neg hc]
        exact stSelf_ok h

/-- the frame with which a method is entered -/
def flat : List Value → List Slot
  | [] => []
  | v :: vs => if v.category = 2 then .val v :: .second :: flat vs else .val v :: flat vs
def entL (as : List Value) (maxL : Nat) : List Slot := flat as ++ List.replicate (maxL - (flat as).length) .unset
theorem flat_fold (ρ : Rho) : ∀ (as : List Value) (acc : Array Slot),
    (as.map (rl ρ)).foldl (fun acc v => if v.category = 2 then (acc.push (.val v)).push .second else acc.push (.val v)) acc = acc ++ ar ρ (flat as)
  | [], acc => by simp [flat, ar]
  | v :: vs, acc => by
    simp only [List.map_cons, List.foldl_cons, rl_cat]
    rw [flat_fold ρ vs]
    by_cases hc : v.category = 2
    · simp [flat, hc, ar, rs]
    · simp [flat, hc, ar, rs]
theorem ent_ok (ρ : Rho) (m : MethodId) (as : List Value) (maxL : Nat) : entryFrame m (as.map (rl ρ)).toArray maxL = fm ρ m (0, entL as maxL, []) := by
  have h : argsToLocals (as.map (rl ρ)).toArray maxL = ar ρ (entL as maxL) := by
    unfold argsToLocals
    have q := flat_fold ρ as #[]
    simp only [List.foldl_toArray'] at *
    rw [q]
    simp [entL, ar, rs]
  simp only [entryFrame, h, fm, mkF, List.map_nil]

/-! ### the pure steps -/
def isI : Value → Bool | .int _ => true | .retAddr _ => true | _ => false
def isJ : Value → Bool | .long _ => true | _ => false
def bI (g : Int32 → Int32 → Int32) : Fm → Option Fm
  | (pc, ls, .int y :: .int x :: st) => some (pc + 1, ls, .int (g x y) :: st)
  | _ => none
def bI0 (g : Int32 → Int32 → Int32) : Fm → Option Fm
  | (pc, ls, .int y :: .int x :: st) => if y = 0 then none else some (pc + 1, ls, .int (g x y) :: st)
  | _ => none
def bL (g : Int64 → Int64 → Int64) : Fm → Option Fm
  | (pc, ls, .long y :: .long x :: st) => some (pc + 1, ls, .long (g x y) :: st)
  | _ => none
def bL0 (g : Int64 → Int64 → Int64) : Fm → Option Fm
  | (pc, ls, .long y :: .long x :: st) => if y = 0 then none else some (pc + 1, ls, .long (g x y) :: st)
  | _ => none
def sL (g : Int64 → Int32 → Int64) : Fm → Option Fm
  | (pc, ls, .int y :: .long x :: st) => some (pc + 1, ls, .long (g x y) :: st)
  | _ => none
def uI (g : Int32 → Int32) : Fm → Option Fm
  | (pc, ls, .int x :: st) => some (pc + 1, ls, .int (g x) :: st)
  | _ => none
def ld (n k : Nat) (ok : Value → Bool) : Fm → Option Fm
  | (pc, ls, st) => match ls[k]? with
    | some (.val v) => if ok v then some (pc + n, ls, v :: st) else none
    | _ => none
def sto (n k : Nat) (ok : Value → Bool) : Fm → Option Fm
  | (pc, ls, v :: st) => if ok v then (match stL ls k v with | some ls' => some (pc + n, ls', st) | none => none) else none
  | _ => none
def psh (n : Nat) (v : Value) : Fm → Option Fm
  | (pc, ls, st) => some (pc + n, ls, v :: st)
def br (c : Bool) (o : Int) (pc : Nat) (ls : List Slot) (st : List Value) : Option Fm :=
  match c with
  | true => if 0 ≤ (pc : Int) + o then some (((pc : Int) + o).toNat, ls, st) else none
  | false => some (pc + 3, ls, st)
/-- the same reference? D: those that are known to be apart -/
def sameR (D : Nat → Nat → Bool) : Value → Value → Option Bool
  | .null, .null => some true
  | .null, .ref _ => some false
  | .ref _, .null => some false
  | .ref i, .ref j => if i = j then some true else if D i j then some false else none
  | _, _ => none
def pIinc (k : Nat) (c : Int) : Fm → Option Fm
  | (pc, ls, st) => match ls[k]? with
    | some (.val (.int x)) => (match stL ls k (.int (x + Int32.ofInt c)) with | some ls' => some (pc + 3, ls', st) | none => none)
    | _ => none
def pGoto (o : Int) : Fm → Option Fm
  | (pc, ls, st) => if 0 ≤ (pc : Int) + o then some (((pc : Int) + o).toNat, ls, st) else none
def pIf (cd : ClassFile.Cond) (o : Int) : Fm → Option Fm
  | (pc, ls, .int x :: st) => br (ifCond.holds cd x) o pc ls st
  | _ => none
def pIcmp (cd : ClassFile.Cond) (o : Int) : Fm → Option Fm
  | (pc, ls, .int y :: .int x :: st) => br (if_icmp.holds cd x y) o pc ls st
  | _ => none
def pAcmp (D : Nat → Nat → Bool) (cd : ACond) (o : Int) : Fm → Option Fm
  | (pc, ls, y :: x :: st) => if 0 ≤ (pc : Int) + o then (match sameR D x y with | some sm => br (acV cd sm) o pc ls st | none => none) else none
  | _ => none
def pNull (w : Bool) (o : Int) : Fm → Option Fm
  | (pc, ls, .null :: st) => br w o pc ls st
  | (pc, ls, .ref _ :: st) => br (!w) o pc ls st
  | _ => none
def pLcmp : Fm → Option Fm
  | (pc, ls, .long y :: .long x :: st) => some (pc + 1, ls, .int (XT.cmpL x y) :: st)
  | _ => none
def pI2l : Fm → Option Fm
  | (pc, ls, .int x :: st) => some (pc + 1, ls, .long x.toInt64 :: st)
  | _ => none
def pL2i : Fm → Option Fm
  | (pc, ls, .long x :: st) => some (pc + 1, ls, .int x.toInt32 :: st)
  | _ => none
def c1 (v : Value) : Bool := v.category == 1
def pDup : Fm → Option Fm
  | (pc, ls, x :: st) => if c1 x then some (pc + 1, ls, x :: x :: st) else none
  | _ => none
def pPop : Fm → Option Fm
  | (pc, ls, x :: st) => if c1 x then some (pc + 1, ls, st) else none
  | _ => none
def pDupX1 : Fm → Option Fm
  | (pc, ls, x :: y :: st) => if c1 x && c1 y then some (pc + 1, ls, x :: y :: x :: st) else none
  | _ => none
def pDup2 : Fm → Option Fm
  | (pc, ls, x :: y :: st) => if c1 x && c1 y then some (pc + 1, ls, x :: y :: x :: y :: st) else none
  | _ => none
def pDupX2 : Fm → Option Fm
  | (pc, ls, x :: y :: z :: st) => if c1 x && c1 y && c1 z then some (pc + 1, ls, x :: y :: z :: x :: st) else none
  | _ => none
def pLdc (v : Value) (f : Fm) : Option Fm := match v with | .int _ => psh 2 v f | _ => none
def pLdc2 (v : Value) (f : Fm) : Option Fm := match v with | .long _ => psh 3 v f | _ => none

def pstep (D : Nat → Nat → Bool) (i : Instr) (v : Value) (f : Fm) : Option Fm :=
  match i with
  | .aload_n k => ld 1 k.val Value.isRef f
  | .aload k => ld 2 k Value.isRef f
  | .iload_n k => ld 1 k.val isI f
  | .iload k => ld 2 k isI f
  | .lload_n k => ld 1 k.val isJ f
  | .lload k => ld 2 k isJ f
  | .astore_n k => sto 1 k.val Value.isRef f
  | .astore k => sto 2 k Value.isRef f
  | .istore_n k => sto 1 k.val isI f
  | .istore k => sto 2 k isI f
  | .lstore_n k => sto 1 k.val isJ f
  | .lstore k => sto 2 k isJ f
  | .iconst c => psh 1 (.int (Int32.ofInt c)) f
  | .lconst c => psh 1 (.long (Int64.ofNat c)) f
  | .bipush c => psh 2 (.int (Int8.ofInt c).toInt32) f
  | .sipush c => psh 3 (.int (Int16.ofInt c).toInt32) f
  | .aconst_null => psh 1 .null f
  | .ldc _ => pLdc v f
  | .ldc2_w _ => pLdc2 v f
  | .iadd => bI (fun x y => x + y) f
  | .isub => bI (fun x y => x - y) f
  | .imul => bI (fun x y => x * y) f
  | .iand => bI (fun x y => x &&& y) f
  | .ior => bI (fun x y => x ||| y) f
  | .ixor => bI (fun x y => x ^^^ y) f
  | .ishl => bI (fun x y => x <<< (y &&& 31)) f
  | .ishr => bI (fun x y => x >>> (y &&& 31)) f
  | .iushr => bI XT.ushr f
  | .irem => bI0 (fun x y => x % y) f
  | .idiv => bI0 (fun x y => x / y) f
  | .ladd => bL (fun x y => x + y) f
  | .lsub => bL (fun x y => x - y) f
  | .lmul => bL (fun x y => x * y) f
  | .land => bL (fun x y => x &&& y) f
  | .lor => bL (fun x y => x ||| y) f
  | .lxor => bL (fun x y => x ^^^ y) f
  | .ldiv => bL0 (fun x y => x / y) f
  | .lrem => bL0 (fun x y => x - (x / y) * y) f
  | .lushr => sL XT.ushrL f
  | .iinc k c => pIinc k c f
  | .goto o => pGoto o f
  | .ifCond cd o => pIf cd o f
  | .if_icmp cd o => pIcmp cd o f
  | .if_acmp cd o => pAcmp D cd o f
  | .ifnull o => pNull true o f
  | .ifnonnull o => pNull false o f
  | .lcmp => pLcmp f
  | .i2l => pI2l f
  | .l2i => pL2i f
  | .i2b => uI (fun x => x.toInt8.toInt32) f
  | .i2c => uI (fun x => x.toUInt32.toUInt16.toUInt32.toInt32) f
  | .dup => pDup f
  | .dup_x1 => pDupX1 f
  | .dup_x2 => pDupX2 f
  | .dup2 => pDup2 f
  | .pop => pPop f
  | _ => none

/-- arithmetic of a token and a number: by a table of known answers -/
def tstep (TB : Instr → Nat → Int32 → Option Value) (i : Instr) (f : Fm) : Option Fm :=
  match i with
  | .iand => tI2 TB i f
  | .iushr => tI2 TB i f
  | .irem => tI2 TB i f
  | _ => none
where tI2 (TB : Instr → Nat → Int32 → Option Value) (i : Instr) : Fm → Option Fm
  | (pc, ls, .int y :: .retAddr t :: st) => match TB i t y with
    | some v => some (pc + 1, ls, v :: st)
    | none => none
  | _ => none
def ilen : Instr → Nat
  | .aload _ | .iload _ | .lload _ | .astore _ | .istore _ | .lstore _ | .bipush _ | .ldc _ | .newarray _ => 2
  | .sipush _ | .ldc2_w _ | .iinc _ _ | .goto _ | .ifCond _ _ | .if_icmp _ _ | .if_acmp _ _ | .ifnull _ | .ifnonnull _
  | .getfield _ | .putfield _ | .getstatic _ | .new _ | .anewarray _ | .checkcast _ | .instanceof _ | .invokestatic _ | .invokespecial _ | .invokevirtual _ => 3
  | .invokeinterface _ _ => 5
  | _ => 1

section Pure
variable {p : Program} {l : Launch} {e : Env} {R : Room} {s : State} {m : MethodId} {args : Array Value} {below : List Frame} {meth : Method} {c : Code} {T : State} {locs : List Loc} {cells slots : Nat} {Z : State} {a0 : Array Value}
variable {ρ : Rho} {D : Nat → Nat → Bool} {pc : Nat} {ls : List Slot} {st : List Value} {f' : Fm}

theorem bI_inv {g : Int32 → Int32 → Int32} (h : bI g (pc, ls, st) = some f') : ∃ x y r, st = .int y :: .int x :: r ∧ f' = (pc + 1, ls, .int (g x y) :: r) := by
  unfold bI at h
  split at h
  · rename_i q; cases q; cases h; exact ⟨_, _, _, rfl, rfl⟩
  · cases h
theorem bI0_inv {g : Int32 → Int32 → Int32} (h : bI0 g (pc, ls, st) = some f') : ∃ x y r, st = .int y :: .int x :: r ∧ y ≠ 0 ∧ f' = (pc + 1, ls, .int (g x y) :: r) := by
  unfold bI0 at h
  split at h
  · rename_i q; cases q
    split at h
    · cases h
    · rename_i hy; cases h; exact ⟨_, _, _, rfl, hy, rfl⟩
  · cases h
theorem bL_inv {g : Int64 → Int64 → Int64} (h : bL g (pc, ls, st) = some f') : ∃ x y r, st = .long y :: .long x :: r ∧ f' = (pc + 1, ls, .long (g x y) :: r) := by
  unfold bL at h
  split at h
  · rename_i q; cases q; cases h; exact ⟨_, _, _, rfl, rfl⟩
  · cases h
theorem bL0_inv {g : Int64 → Int64 → Int64} (h : bL0 g (pc, ls, st) = some f') : ∃ x y r, st = .long y :: .long x :: r ∧ y ≠ 0 ∧ f' = (pc + 1, ls, .long (g x y) :: r) := by
  unfold bL0 at h
  split at h
  · rename_i q; cases q
    split at h
    · cases h
    · rename_i hy; cases h; exact ⟨_, _, _, rfl, hy, rfl⟩
  · cases h
theorem sL_inv {g : Int64 → Int32 → Int64} (h : sL g (pc, ls, st) = some f') : ∃ x y r, st = .int y :: .long x :: r ∧ f' = (pc + 1, ls, .long (g x y) :: r) := by
  unfold sL at h
  split at h
  · rename_i q; cases q; cases h; exact ⟨_, _, _, rfl, rfl⟩
  · cases h
theorem uI_inv {g : Int32 → Int32} (h : uI g (pc, ls, st) = some f') : ∃ x r, st = .int x :: r ∧ f' = (pc + 1, ls, .int (g x) :: r) := by
  unfold uI at h
  split at h
  · rename_i q; cases q; cases h; exact ⟨_, _, rfl, rfl⟩
  · cases h
theorem ld_inv {n k : Nat} {ok : Value → Bool} (h : ld n k ok (pc, ls, st) = some f') : ∃ v, ls[k]? = some (.val v) ∧ ok v = true ∧ f' = (pc + n, ls, v :: st) := by
  unfold ld at h
  dsimp only at h
  split at h
  · rename_i v q
    split at h
    · rename_i hv; cases h; exact ⟨v, q, hv, rfl⟩
    · cases h
  · cases h
theorem sto_inv {n k : Nat} {ok : Value → Bool} (h : sto n k ok (pc, ls, st) = some f') : ∃ v r ls', st = v :: r ∧ ok v = true ∧ stL ls k v = some ls' ∧ f' = (pc + n, ls', r) := by
  unfold sto at h
  split at h
  · rename_i q; cases q
    split at h
    · rename_i hv
      split at h
      · rename_i ls' q; cases h; exact ⟨_, _, ls', rfl, hv, q, rfl⟩
      · cases h
    · cases h
  · cases h
theorem br_inv {b : Bool} {o : Int} {r : List Value} (h : br b o pc ls r = some f') : (b = true ∧ 0 ≤ (pc : Int) + o ∧ f' = (((pc : Int) + o).toNat, ls, r)) ∨ (b = false ∧ f' = (pc + 3, ls, r)) := by
  unfold br at h
  split at h
  · split at h
    · rename_i q; cases h; exact Or.inl ⟨rfl, q, rfl⟩
    · cases h
  · cases h; exact Or.inr ⟨rfl, rfl⟩
theorem isI_inv {v : Value} (h : isI v = true) : ∃ x, rl ρ v = .int x := by cases v <;> first | exact ⟨_, rfl⟩ | cases h
theorem isJ_inv {v : Value} (h : isJ v = true) : ∃ x, v = .long x := by cases v <;> first | exact ⟨_, rfl⟩ | cases h
theorem c1_inv {v : Value} (h : c1 v = true) : (rl ρ v).category = 1 := by rw [rl_cat]; simpa [c1] using h
theorem sameR_ok (hD : ∀ i j, D i j = true → ρ.1 i ≠ ρ.1 j) {x y : Value} {b : Bool} (h : sameR D x y = some b) : (rl ρ x).isRef = true ∧ (rl ρ y).isRef = true ∧ decide (rl ρ x = rl ρ y) = b := by
  unfold sameR at h
  split at h
  · cases h; exact ⟨rfl, rfl, rfl⟩
  · cases h; exact ⟨rfl, rfl, by simp [rl]⟩
  · cases h; exact ⟨rfl, rfl, by simp [rl]⟩
  · rename_i i j
    split at h
    · rename_i q; cases h; subst q; exact ⟨rfl, rfl, by simp⟩
    · split at h
      · rename_i q; cases h; exact ⟨rfl, rfl, by simpa [rl] using hD i j q⟩
      · cases h
  · cases h

theorem pstep_ok (X : Stand p l e R s m args below meth c T locs cells slots) (hx : p.tables.exec = Jvm.exec) {own : String} (hown : s.vm.findClass own = some m.cls) (hD : ∀ i j, D i j = true → ρ.1 i ≠ ρ.1 j)
    {i : Instr} {v : Value} (hd : decode c.code pc = .ok (i, ilen i)) (h1 : ∀ k x, i = .ldc k → v = .int x → (Cond.constant own k x).before args s = true) (h2 : ∀ k x, i = .ldc2_w k → v = .long x → (Cond.constantLong own k x).before args s = true)
    (h : pstep D i v (pc, ls, st) = some f') (target : State) (hr : Steps p.tables e below (T.setTop (fm ρ m f')) target) : Steps p.tables e below (T.setTop (fm ρ m (pc, ls, st))) target := by
  cases i
  case aload_n k => obtain ⟨v, q1, q2, rfl⟩ := ld_inv h; exact XS.aloadN X.here hx rfl hd (ar_get q1) (by rw [rl_isRef]; exact q2) hr
  case aload k => obtain ⟨v, q1, q2, rfl⟩ := ld_inv h; exact XS.aload X.here hx rfl hd (ar_get q1) (by rw [rl_isRef]; exact q2) hr
  case iload_n k =>
    obtain ⟨v, q1, q2, rfl⟩ := ld_inv h
    obtain ⟨x, hxv⟩ := isI_inv (ρ := ρ) q2
    exact XS.iloadN X.here hx rfl hd ((ar_get q1).trans (by rw [rs, hxv])) (by rw [← hxv]; exact hr)
  case iload k =>
    obtain ⟨v, q1, q2, rfl⟩ := ld_inv h
    obtain ⟨x, hxv⟩ := isI_inv (ρ := ρ) q2
    exact XS.iload X.here hx rfl hd ((ar_get q1).trans (by rw [rs, hxv])) (by rw [← hxv]; exact hr)
  case lload_n k => obtain ⟨v, q1, q2, rfl⟩ := ld_inv h; obtain ⟨x, rfl⟩ := isJ_inv q2; exact XT.lloadN X.here hx rfl hd (ar_get q1) hr
  case lload k => obtain ⟨v, q1, q2, rfl⟩ := ld_inv h; obtain ⟨x, rfl⟩ := isJ_inv q2; exact XT.lload X.here hx rfl hd (ar_get q1) hr
  case astore_n k => obtain ⟨v, r, ls', rfl, q2, q3, rfl⟩ := sto_inv h; exact XS.astoreN X.here hx rfl hd rfl (by rw [rl_isRef]; exact q2) (stL_ok q3) hr
  case astore k => obtain ⟨v, r, ls', rfl, q2, q3, rfl⟩ := sto_inv h; exact XS.astore X.here hx rfl hd rfl (by rw [rl_isRef]; exact q2) (stL_ok q3) hr
  case istore_n k =>
    obtain ⟨v, r, ls', rfl, q2, q3, rfl⟩ := sto_inv h
    obtain ⟨x, hxv⟩ := isI_inv (ρ := ρ) q2
    have q3' := stL_ok (ρ := ρ) q3
    rw [hxv] at q3'
    exact XS.istoreN X.here hx rfl hd (by show rl ρ v :: _ = _; rw [hxv]) q3' hr
  case istore k =>
    obtain ⟨v, r, ls', rfl, q2, q3, rfl⟩ := sto_inv h
    obtain ⟨x, hxv⟩ := isI_inv (ρ := ρ) q2
    have q3' := stL_ok (ρ := ρ) q3
    rw [hxv] at q3'
    exact XS.istore X.here hx rfl hd (by show rl ρ v :: _ = _; rw [hxv]) q3' hr
  case lstore_n k => obtain ⟨v, r, ls', rfl, q2, q3, rfl⟩ := sto_inv h; obtain ⟨x, rfl⟩ := isJ_inv q2; exact XT.lstoreN X.here hx rfl hd rfl (stL_ok (ρ := ρ) q3) hr
  case lstore k => obtain ⟨v, r, ls', rfl, q2, q3, rfl⟩ := sto_inv h; obtain ⟨x, rfl⟩ := isJ_inv q2; exact XT.lstore X.here hx rfl hd rfl (stL_ok (ρ := ρ) q3) hr
  case iconst k => cases h; exact XS.iconst X.here hx rfl hd hr
  case lconst k => cases h; exact XT.lconst X.here hx rfl hd hr
  case bipush k => cases h; exact XS.bipush X.here hx rfl hd hr
  case sipush k => cases h; exact XS.sipush X.here hx rfl hd hr
  case aconst_null => cases h; exact XS.aconstNull X.here hx rfl hd hr
  case ldc k =>
    cases v <;> first | (cases h; done) | skip
    cases h
    exact X.ldcI hx hown (h1 _ _ rfl rfl) rfl hd hr
  case ldc2_w k =>
    cases v <;> first | (cases h; done) | skip
    cases h
    exact X.ldc2J hx hown (h2 _ _ rfl rfl) rfl hd hr
  case iadd => obtain ⟨x, y, r, rfl, rfl⟩ := bI_inv h; exact XS.iadd X.here hx rfl hd rfl hr
  case isub => obtain ⟨x, y, r, rfl, rfl⟩ := bI_inv h; exact XS.isub X.here hx rfl hd rfl hr
  case imul => obtain ⟨x, y, r, rfl, rfl⟩ := bI_inv h; exact XS.imul X.here hx rfl hd rfl hr
  case iand => obtain ⟨x, y, r, rfl, rfl⟩ := bI_inv h; exact XS.iand X.here hx rfl hd rfl hr
  case ior => obtain ⟨x, y, r, rfl, rfl⟩ := bI_inv h; exact XT.ior X.here hx rfl hd rfl hr
  case ixor => obtain ⟨x, y, r, rfl, rfl⟩ := bI_inv h; exact XT.ixor X.here hx rfl hd rfl hr
  case ishl => obtain ⟨x, y, r, rfl, rfl⟩ := bI_inv h; exact XT.ishl X.here hx rfl hd rfl hr
  case ishr => obtain ⟨x, y, r, rfl, rfl⟩ := bI_inv h; exact XT.ishr X.here hx rfl hd rfl hr
  case iushr => obtain ⟨x, y, r, rfl, rfl⟩ := bI_inv h; exact XT.iushr X.here hx rfl hd rfl hr
  case irem => obtain ⟨x, y, r, rfl, hy, rfl⟩ := bI0_inv h; exact iremM X hx rfl hd rfl hy hr
  case idiv => obtain ⟨x, y, r, rfl, hy, rfl⟩ := bI0_inv h; exact XS.idiv X.here hx rfl hd rfl hy hr
  case ladd => obtain ⟨x, y, r, rfl, rfl⟩ := bL_inv h; exact XT.ladd X.here hx rfl hd rfl hr
  case lsub => obtain ⟨x, y, r, rfl, rfl⟩ := bL_inv h; exact XT.lsub X.here hx rfl hd rfl hr
  case lmul => obtain ⟨x, y, r, rfl, rfl⟩ := bL_inv h; exact XT.lmul X.here hx rfl hd rfl hr
  case land => obtain ⟨x, y, r, rfl, rfl⟩ := bL_inv h; exact XT.land X.here hx rfl hd rfl hr
  case lor => obtain ⟨x, y, r, rfl, rfl⟩ := bL_inv h; exact XT.lor X.here hx rfl hd rfl hr
  case lxor => obtain ⟨x, y, r, rfl, rfl⟩ := bL_inv h; exact XT.lxor X.here hx rfl hd rfl hr
  case ldiv => obtain ⟨x, y, r, rfl, hy, rfl⟩ := bL0_inv h; exact XT.ldiv X.here hx rfl hd rfl hy hr
  case lrem => obtain ⟨x, y, r, rfl, hy, rfl⟩ := bL0_inv h; exact XT.lrem X.here hx rfl hd rfl hy hr
  case lushr => obtain ⟨x, y, r, rfl, rfl⟩ := sL_inv h; exact XT.lushr X.here hx rfl hd rfl hr
  case i2b => obtain ⟨x, r, rfl, rfl⟩ := uI_inv h; exact XT.i2b X.here hx rfl hd rfl hr
  case i2c => obtain ⟨x, r, rfl, rfl⟩ := uI_inv h; exact XT.i2c X.here hx rfl hd rfl hr
  case iinc k cst =>
    have h' : pIinc k cst (pc, ls, st) = some f' := h
    unfold pIinc at h'
    dsimp only at h'
    split at h'
    · rename_i x q
      split at h'
      · rename_i ls' q2; cases h'; exact XS.iinc X.here hx rfl hd (ar_get q) (stL_ok (ρ := ρ) q2) hr
      · cases h'
    · cases h'
  case goto o =>
    have h' : pGoto o (pc, ls, st) = some f' := h
    unfold pGoto at h'
    dsimp only at h'
    split at h'
    · rename_i q; cases h'; exact XS.goto X.here hx rfl rfl hd q rfl hr
    · cases h'
  case ifCond cd o =>
    have h' : pIf cd o (pc, ls, st) = some f' := h
    unfold pIf at h'
    split at h'
    · rename_i q; cases q
      rcases br_inv h' with ⟨q1, q2, rfl⟩ | ⟨q1, rfl⟩
      · exact XS.ifYes X.here hx rfl rfl hd rfl q1 q2 rfl hr
      · exact XS.ifNo X.here hx rfl hd rfl q1 hr
    · cases h'
  case if_icmp cd o =>
    have h' : pIcmp cd o (pc, ls, st) = some f' := h
    unfold pIcmp at h'
    split at h'
    · rename_i q; cases q
      rcases br_inv h' with ⟨q1, q2, rfl⟩ | ⟨q1, rfl⟩
      · exact XS.icmpYes X.here hx rfl rfl hd rfl q1 q2 rfl hr
      · exact XS.icmpNo X.here hx rfl hd rfl q1 hr
    · cases h'
  case if_acmp cd o =>
    have h' : pAcmp D cd o (pc, ls, st) = some f' := h
    unfold pAcmp at h'
    split at h'
    · rename_i q; cases q
      split at h'
      · rename_i ho
        split at h'
        · rename_i sm q
          obtain ⟨g1, g2, g3⟩ := sameR_ok hD q
          rcases br_inv h' with ⟨q1, q2, rfl⟩ | ⟨q1, rfl⟩
          · exact Jvm.RoadKit.acmp X hx rfl g1 g2 rfl hd rfl g3 ho (by rw [if_pos q1]) hr
          · exact Jvm.RoadKit.acmp X hx rfl g1 g2 rfl hd rfl g3 ho (by rw [if_neg (by rw [q1]; simp)]) hr
        · cases h'
      · cases h'
    · cases h'
  case ifnull o =>
    have h' : pNull true o (pc, ls, st) = some f' := h
    unfold pNull at h'
    split at h'
    · rename_i q; cases q
      rcases br_inv h' with ⟨q1, q2, rfl⟩ | ⟨q1, rfl⟩
      · exact XS.ifnullYes X.here hx rfl rfl hd rfl q2 rfl hr
      · cases q1
    · rename_i q; cases q
      rcases br_inv h' with ⟨q1, q2, rfl⟩ | ⟨q1, rfl⟩
      · cases q1
      · exact XS.ifnullNo X.here hx rfl hd rfl hr
    · cases h'
  case ifnonnull o =>
    have h' : pNull false o (pc, ls, st) = some f' := h
    unfold pNull at h'
    split at h'
    · rename_i q; cases q
      rcases br_inv h' with ⟨q1, q2, rfl⟩ | ⟨q1, rfl⟩
      · cases q1
      · exact XT.ifnonnullNo X.here hx rfl hd rfl hr
    · rename_i q; cases q
      rcases br_inv h' with ⟨q1, q2, rfl⟩ | ⟨q1, rfl⟩
      · exact XT.ifnonnullYes X.here hx rfl rfl hd rfl q2 rfl hr
      · cases q1
    · cases h'
  case lcmp =>
    have h' : pLcmp (pc, ls, st) = some f' := h
    unfold pLcmp at h'
    split at h'
    · rename_i q; cases q; cases h'; exact XT.lcmp X.here hx rfl hd rfl hr
    · cases h'
  case i2l =>
    have h' : pI2l (pc, ls, st) = some f' := h
    unfold pI2l at h'
    split at h'
    · rename_i q; cases q; cases h'; exact XT.i2l X.here hx rfl hd rfl hr
    · cases h'
  case l2i =>
    have h' : pL2i (pc, ls, st) = some f' := h
    unfold pL2i at h'
    split at h'
    · rename_i q; cases q; cases h'; exact XT.l2i X.here hx rfl hd rfl hr
    · cases h'
  case dup =>
    have h' : pDup (pc, ls, st) = some f' := h
    unfold pDup at h'
    split at h'
    · rename_i q; cases q
      split at h'
      · rename_i q; cases h'; exact XS.dup X.here hx rfl hd rfl (c1_inv q) hr
      · cases h'
    · cases h'
  case pop =>
    have h' : pPop (pc, ls, st) = some f' := h
    unfold pPop at h'
    split at h'
    · rename_i q; cases q
      split at h'
      · rename_i q; cases h'; exact XT.pop X.here hx rfl hd rfl (c1_inv q) hr
      · cases h'
    · cases h'
  case dup_x1 =>
    have h' : pDupX1 (pc, ls, st) = some f' := h
    unfold pDupX1 at h'
    split at h'
    · rename_i q; cases q
      split at h'
      · rename_i q; cases h'
        obtain ⟨q1, q2⟩ := Bool.and_eq_true_iff.mp q
        exact XT.dupX1 X.here hx rfl hd rfl (c1_inv q1) (c1_inv q2) hr
      · cases h'
    · cases h'
  case dup2 =>
    have h' : pDup2 (pc, ls, st) = some f' := h
    unfold pDup2 at h'
    split at h'
    · rename_i q; cases q
      split at h'
      · rename_i q; cases h'
        obtain ⟨q1, q2⟩ := Bool.and_eq_true_iff.mp q
        exact XT.dup2 X.here hx rfl hd rfl (c1_inv q1) (c1_inv q2) hr
      · cases h'
    · cases h'
  case dup_x2 =>
    have h' : pDupX2 (pc, ls, st) = some f' := h
    unfold pDupX2 at h'
    split at h'
    · rename_i q; cases q
      split at h'
      · rename_i q; cases h'
        obtain ⟨q12, q3⟩ := Bool.and_eq_true_iff.mp q
        obtain ⟨q1, q2⟩ := Bool.and_eq_true_iff.mp q12
        have w1 := c1_inv (ρ := ρ) q1
        have w2 := c1_inv (ρ := ρ) q2
        have w3 := c1_inv (ρ := ρ) q3
        have hX := X.here
        show Steps p.tables e below (T.setTop { method := m, pc := pc, locals := ar ρ ls, stack := _ :: _ :: _ :: _, locked := none }) _
        jvm_step hX [hX.top, hx, hd, ilen, w1, w2, w3]
        exact hr
      · cases h'
    · cases h'
  all_goals exact absurd (show none = some f' from h) (by simp)
/-- what a table of answers must say -/
def TbOk (ρ : Rho) (TB : Instr → Nat → Int32 → Option Value) : Prop := ∀ t y v, (TB .iand t y = some v → rl ρ v = .int (ρ.2 t &&& y)) ∧ (TB .iushr t y = some v → rl ρ v = .int (XT.ushr (ρ.2 t) y)) ∧ (TB .irem t y = some v → y ≠ 0 ∧ rl ρ v = .int (ρ.2 t % y))
theorem tI2_inv {TB : Instr → Nat → Int32 → Option Value} {i : Instr} (h : tstep.tI2 TB i (pc, ls, st) = some f') : ∃ t y v r, st = .int y :: .retAddr t :: r ∧ TB i t y = some v ∧ f' = (pc + 1, ls, v :: r) := by
  unfold tstep.tI2 at h
  split at h
  · rename_i q; cases q
    split at h
    · rename_i v q; cases h; exact ⟨_, _, _, _, rfl, q, rfl⟩
    · cases h
  · cases h
theorem tstep_ok {TB : Instr → Nat → Int32 → Option Value} (hTB : TbOk ρ TB) (X : Stand p l e R s m args below meth c T locs cells slots) (hx : p.tables.exec = Jvm.exec) {i : Instr} (hd : decode c.code pc = .ok (i, ilen i)) (h : tstep TB i (pc, ls, st) = some f')
    (target : State) (hr : Steps p.tables e below (T.setTop (fm ρ m f')) target) : Steps p.tables e below (T.setTop (fm ρ m (pc, ls, st))) target := by
  cases i
  case iand => obtain ⟨t, y, v, r, rfl, q, rfl⟩ := tI2_inv h; have q' := (hTB t y v).1 q; exact XS.iand X.here hx rfl hd rfl (by rw [← q']; exact hr)
  case iushr => obtain ⟨t, y, v, r, rfl, q, rfl⟩ := tI2_inv h; have q' := (hTB t y v).2.1 q; exact XT.iushr X.here hx rfl hd rfl (by rw [← q']; exact hr)
  case irem => obtain ⟨t, y, v, r, rfl, q, rfl⟩ := tI2_inv h; have q' := (hTB t y v).2.2 q; exact iremM X hx rfl hd rfl q'.1 (by rw [← q'.2]; exact hr)
  all_goals exact absurd (show none = some f' from h) (by simp)
end Pure
end Jvm.Eng
namespace Jvm.Eng
open Jvm Jvm.ClassFile Sem Op Lib Jvm.Free Jvm.Stand Jvm.LawKit Jvm.RoadKit
/-! ### abstract objects on the model's heap -/
/-- a component that is known: a `.float` in an abstract array says that nothing is known of it -/
def kn : Value → Bool | .float _ => false | _ => true
def ObjOk (Z : State) (ρ : Rho) (K : Nat → String × String × String) (CN : Nat → String) (h : Heap) (a : Addr) : Obj → Prop
  | .inl (ty, vs) => ∃ c : Cell, Arr Z h a c ty ∧ c.slots.size = vs.length ∧ ∀ (i : Nat) (v : Value), vs[i]? = some v → kn v = true → c.slots[i]? = some (rl ρ v)
  | .inr (C, fs) => Exa Z h a (CN C) ∧ ∀ q ∈ fs, Fld Z h a (K q.1).1 (K q.1).2.1 (K q.1).2.2 (rl ρ q.2)
def Sim (Z : State) (ρ : Rho) (K : Nat → String × String × String) (CN : Nat → String) (b n0 : Nat) (S : List (Nat × Value)) (H : List Obj) (h : Heap) : Prop :=
  b ≤ H.length ∧ h.size = n0 + (H.length - b) ∧ (∀ i o, H[i]? = some o → ObjOk Z ρ K CN h (ρ.1 i) o) ∧ ∀ q ∈ S, Sta Z h (K q.1).1 (K q.1).2.1 (K q.1).2.2 (rl ρ q.2)

section Objs
variable {Z : State} {ρ : Rho} {K : Nat → String × String × String} {CN : Nat → String} {b n0 : Nat} {S : List (Nat × Value)} {H : List Obj} {h h' : Heap} {a : Addr} {o : Obj}
theorem ObjOk.of_slots {c : Cell} {ty : FieldType} {vs : List Value} (A : Arr Z h a c ty) (e : c.slots = (vs.map (rl ρ)).toArray) : ObjOk Z ρ K CN h a (.inl (ty, vs)) :=
  ⟨c, A, by rw [e]; simp, fun i v hv _ => by rw [e]; simp [hv]⟩
theorem ObjOk.ext (E : Ext h h') (O : ObjOk Z ρ K CN h a o) : ObjOk Z ρ K CN h' a o := by
  rcases o with ⟨ty, vs⟩ | ⟨C, fs⟩
  · obtain ⟨c, A, q⟩ := O; exact ⟨c, A.ext E, q⟩
  · exact ⟨O.1.ext E, fun q hq => (O.2 q hq).ext E⟩
theorem ObjOk.other {a' : Addr} {sl : Nat} {v : Value} (W : Wr h h' a' sl v) (ne : a ≠ a') (O : ObjOk Z ρ K CN h a o) : ObjOk Z ρ K CN h' a o := by
  rcases o with ⟨ty, vs⟩ | ⟨C, fs⟩
  · obtain ⟨c, A, q⟩ := O; exact ⟨c, A.other W ne, q⟩
  · exact ⟨O.1.wr W, fun q hq => (O.2 q hq).other W (Or.inl ne)⟩
theorem Sim.new (hρ1 : ∀ i, b ≤ i → ρ.1 i = n0 + (i - b)) (X : Sim Z ρ K CN b n0 S H h) (E : Ext h h') (hsz : h'.size = h.size + 1) (O : ObjOk Z ρ K CN h' h.size o) : Sim Z ρ K CN b n0 S (H ++ [o]) h' := by
  obtain ⟨h1, h2, h3, h4⟩ := X
  refine ⟨by simp; omega, by rw [hsz, h2]; simp; omega, fun i o' ho => ?_, fun q hq => (h4 q hq).ext E⟩
  by_cases hi : i < H.length
  · rw [List.getElem?_append_left hi] at ho
    exact (h3 i o' ho).ext E
  · rw [List.getElem?_append_right (Nat.le_of_not_lt hi)] at ho
    have e0 : i - H.length = 0 := by
      rcases Nat.eq_zero_or_pos (i - H.length) with z | z
      · exact z
      · rw [List.getElem?_eq_none (show [o].length ≤ i - H.length from z)] at ho; cases ho
    rw [e0] at ho
    cases ho
    have ei : i = H.length := by omega
    rw [ei, hρ1 _ h1, ← h2]
    exact O
theorem Sim.wr (hρ1 : ∀ i, b ≤ i → ρ.1 i = n0 + (i - b)) (hρ0 : ∀ i, i < b → ρ.1 i < n0) (X : Sim Z ρ K CN b n0 S H h) {a : Nat} {sl : Nat} {v : Value} (W : Wr h h' (ρ.1 a) sl v) (hb : b ≤ a) (O : ObjOk Z ρ K CN h' (ρ.1 a) o) : Sim Z ρ K CN b n0 S (H.set a o) h' := by
  obtain ⟨h1, h2, h3, h4⟩ := X
  refine ⟨by simpa using h1, by rw [W.size, h2]; simp, fun i o' ho => ?_, fun q hq => (h4 q hq).wr W⟩
  by_cases hi : i = a
  · subst hi
    rw [List.getElem?_set] at ho
    simp only [if_true] at ho
    split at ho
    · cases ho; exact O
    · cases ho
  · rw [List.getElem?_set_ne (fun q => hi q.symm)] at ho
    refine (h3 i o' ho).other W fun q => ?_
    have e1 := hρ1 a hb
    by_cases hi' : i < b
    · have e2 : n0 + (a - b) < n0 := by rw [← e1, ← q]; exact hρ0 i hi'
      omega
    · have e2 : n0 + (a - b) = n0 + (i - b) := by rw [← e1, ← q]; exact hρ1 i (by omega)
      omega
end Objs

/-! ### steps that read or write the heap -/
def look (a : Nat) : List (Nat × Value) → Option Value
  | [] => none
  | (k, v) :: r => match Nat.beq k a with | true => some v | false => look a r
def setF (a : Nat) (v : Value) : List (Nat × Value) → List (Nat × Value)
  | [] => []
  | (k, w) :: r => (match Nat.beq k a with | true => (k, v) | false => (k, w)) :: setF a v r
def lookT (a : Nat) : List (Nat × Value × Bool) → Option (Value × Bool)
  | [] => none
  | (k, v, f) :: r => match Nat.beq k a with | true => some (v, f) | false => lookT a r
def sameKeys : List (Nat × Value) → List (Nat × Value × Bool) → Bool
  | [], [] => true
  | (k, _) :: r, (k', _) :: r' => match Nat.beq k k' with | true => sameKeys r r' | false => false
  | _, _ => false
def sameKind : Value → Value → Bool
  | .int _, .int _ => true
  | .long _, .long _ => true
  | .null, .null => true
  | .null, .ref _ => true
  | _, _ => false
theorem look_mem {a : Nat} {v : Value} : ∀ {fs : List (Nat × Value)}, look a fs = some v → (a, v) ∈ fs
  | [], h => by cases h
  | (k, w) :: r, h => by
    unfold look at h
    split at h
    · rename_i q; cases h; rw [Nat.eq_of_beq_eq_true q]; exact List.mem_cons_self ..
    · exact List.mem_cons_of_mem _ (look_mem h)
theorem lookT_mem {a : Nat} {v : Value} {f : Bool} : ∀ {fs : List (Nat × Value × Bool)}, lookT a fs = some (v, f) → (a, v, f) ∈ fs
  | [], h => by cases h
  | (k, w, g) :: r, h => by
    unfold lookT at h
    split at h
    · rename_i q; cases h; rw [Nat.eq_of_beq_eq_true q]; exact List.mem_cons_self ..
    · exact List.mem_cons_of_mem _ (lookT_mem h)
theorem setF_mem {a : Nat} {v : Value} {q : Nat × Value} : ∀ {fs : List (Nat × Value)}, q ∈ setF a v fs → (q = (a, v)) ∨ (q.1 ≠ a ∧ q ∈ fs)
  | [], h => by cases h
  | (k, w) :: r, h => by
    unfold setF at h
    rcases List.mem_cons.mp h with h | h
    · split at h
      · rename_i e; rw [Nat.eq_of_beq_eq_true e] at h; exact Or.inl h
      · rename_i e; subst h; exact Or.inr ⟨fun z => by subst z; simp at e, List.mem_cons_self ..⟩
    · rcases setF_mem h with h | ⟨h1, h2⟩
      · exact Or.inl h
      · exact Or.inr ⟨h1, List.mem_cons_of_mem _ h2⟩
theorem keys_mem {a : Nat} : ∀ {fs : List (Nat × Value)} {fl : List (Nat × Value × Bool)}, sameKeys fs fl = true → (∀ q ∈ fs, ∃ v f, (q.1, v, f) ∈ fl) ∧ (∀ q ∈ fl, ∃ w, (q.1, w) ∈ fs)
  | [], [], _ => ⟨fun q h => by (cases h), fun q h => by (cases h)⟩
  | (k, w) :: r, (k', w', f') :: r', h => by
    unfold sameKeys at h
    split at h
    · rename_i e
      have e' := Nat.eq_of_beq_eq_true e
      obtain ⟨h1, h2⟩ := keys_mem (a := a) h
      refine ⟨fun q hq => ?_, fun q hq => ?_⟩
      · rcases List.mem_cons.mp hq with rfl | hq
        · exact ⟨w', f', by rw [e']; exact List.mem_cons_self ..⟩
        · obtain ⟨v, f, hm⟩ := h1 q hq; exact ⟨v, f, List.mem_cons_of_mem _ hm⟩
      · rcases List.mem_cons.mp hq with rfl | hq
        · exact ⟨w, by rw [← e']; exact List.mem_cons_self ..⟩
        · obtain ⟨v, hm⟩ := h2 q hq; exact ⟨v, List.mem_cons_of_mem _ hm⟩
    · cases h
  | [], _ :: _, h => by cases h
  | _ :: _, [], h => by cases h

def getA (H : List Obj) (a : Nat) : Option (FieldType × List Value) := match H[a]? with | some (.inl p) => some p | _ => none
def getO (H : List Obj) (a : Nat) : Option (Nat × List (Nat × Value)) := match H[a]? with | some (.inr p) => some p | _ => none
theorem getA_inv {H : List Obj} {a : Nat} {p : FieldType × List Value} (h : getA H a = some p) : H[a]? = some (.inl p) := by
  unfold getA at h; split at h
  · rename_i q; cases h; exact q
  · cases h
theorem getO_inv {H : List Obj} {a : Nat} {p : Nat × List (Nat × Value)} (h : getO H a = some p) : H[a]? = some (.inr p) := by
  unfold getO at h; split at h
  · rename_i q; cases h; exact q
  · cases h

def tI : FieldType → Bool | .int => true | _ => false
def tJ : FieldType → Bool | .long => true | _ => false
def tB : FieldType → Bool | .byte => true | .boolean => true | _ => false
def tC : FieldType → Bool | .char => true | _ => false

def hGet (a : Nat) : Fm → List Obj → Option (Fm × List Obj)
  | (pc, ls, .ref o :: st), H => match getO H o with
    | some (_, fs) => (match look a fs with | some v => some ((pc + 3, ls, v :: st), H) | none => none)
    | none => none
  | _, _ => none
def hPut (b : Nat) (CT : Nat → Option Fls) (a k : Nat) : Fm → List Obj → Option (Fm × List Obj)
  | (pc, ls, v :: .ref o :: st), H => match getO H o with
    | some (C, fs) => (match CT C with
      | some (_, fl) => (match lookT a fl with
        | some (dv, fin) => if Nat.ble b o && sameKeys fs fl && sameKind dv v && (!fin || Nat.beq k 1) then some ((pc + 3, ls, st), H.set o (.inr (C, setF a v fs))) else none
        | none => none)
      | none => none)
    | none => none
  | _, _ => none
def hSta (S : List (Nat × Value)) (a c : Nat) : Fm → List Obj → Option (Fm × List Obj)
  | (pc, ls, st), H => match S[a]? with
    | some (c', v) => if Nat.beq c' c then some ((pc + 3, ls, v :: st), H) else none
    | none => none
def hLen : Fm → List Obj → Option (Fm × List Obj)
  | (pc, ls, .ref a :: st), H => match getA H a with
    | some (_, vs) => some ((pc + 1, ls, .int vs.length.toInt32 :: st), H)
    | none => none
  | _, _ => none
def hLd (ok : FieldType → Bool) : Fm → List Obj → Option (Fm × List Obj)
  | (pc, ls, .int j :: .ref a :: st), H => match getA H a with
    | some (ty, vs) => if ok ty && !decide (j < 0) then (match vs[j.toNatClampNeg]? with | some v => if kn v then some ((pc + 1, ls, v :: st), H) else none | none => none) else none
    | none => none
  | _, _ => none
def hSt (b : Nat) (ok : FieldType → Bool) : Fm → List Obj → Option (Fm × List Obj)
  | (pc, ls, .int x :: .int j :: .ref a :: st), H => match getA H a with
    | some (ty, vs) => if ok ty && Nat.ble b a && !decide (j < 0) && Nat.blt j.toNatClampNeg vs.length then some ((pc + 1, ls, st), H.set a (.inl (ty, vs.set j.toNatClampNeg (.int (nar ty x))))) else none
    | none => none
  | _, _ => none
def hStJ (b : Nat) : Fm → List Obj → Option (Fm × List Obj)
  | (pc, ls, .long x :: .int j :: .ref a :: st), H => match getA H a with
    | some (ty, vs) => if tJ ty && Nat.ble b a && !decide (j < 0) && Nat.blt j.toNatClampNeg vs.length then some ((pc + 1, ls, st), H.set a (.inl (ty, vs.set j.toNatClampNeg (.long x)))) else none
    | none => none
  | _, _ => none
def hCast (c : Nat) : Fm → List Obj → Option (Fm × List Obj)
  | (pc, ls, .null :: st), H => some ((pc + 3, ls, .null :: st), H)
  | (pc, ls, .ref a :: st), H => match getO H a with
    | some (C, _) => if Nat.beq C c then some ((pc + 3, ls, .ref a :: st), H) else none
    | none => none
  | _, _ => none
def hInst (NI : Nat → Nat → Bool) (c : Nat) : Fm → List Obj → Option (Fm × List Obj)
  | (pc, ls, .null :: st), H => some ((pc + 3, ls, .int 0 :: st), H)
  | (pc, ls, .ref a :: st), H => match getO H a with
    | some (C, _) => if Nat.beq C c then some ((pc + 3, ls, .int 1 :: st), H) else if NI C c then some ((pc + 3, ls, .int 0 :: st), H) else none
    | none => none
  | _, _ => none

def hstep (b : Nat) (S : List (Nat × Value)) (CT : Nat → Option Fls) (NI : Nat → Nat → Bool) (i : Instr) (a k c : Nat) (f : Fm) (H : List Obj) : Option (Fm × List Obj) :=
  match i with
  | .getfield _ => hGet a f H
  | .putfield _ => hPut b CT a k f H
  | .getstatic _ => hSta S a c f H
  | .arraylength => hLen f H
  | .iaload => hLd tI f H
  | .laload => hLd tJ f H
  | .baload => hLd tB f H
  | .caload => hLd tC f H
  | .aaload => hLd FieldType.isReference f H
  | .iastore => hSt b tI f H
  | .bastore => hSt b tB f H
  | .castore => hSt b tC f H
  | .lastore => hStJ b f H
  | .checkcast _ => hCast c f H
  | .instanceof _ => hInst NI c f H
  | _ => none

/-- the words that a row leans on -/
def need (P : Nat → Option Meth) (K : Nat → String × String × String) (CN : Nat → String) (MN : Nat → MethodName) (own : String) (r : Row) : List Cond :=
  match r with
  | (i, a, _, c, v) =>
    match i with
    | .ldc idx => (match v with | .int x => [.constant own idx x] | _ => [])
    | .ldc2_w idx => (match v with | .long x => [.constantLong own idx x] | _ => [])
    | .getfield idx => [.fieldLink own idx (K a).1 (K a).2.1 (K a).2.2]
    | .putfield idx => [.fieldLink own idx (K a).1 (K a).2.1 (K a).2.2]
    | .getstatic idx => [.fieldLink own idx (K c).1 (K c).2.1 (K c).2.2]
    | .new idx => [.classLink own idx (CN c)]
    | .newarray aty => [.arrayClass (newarray.typeOf aty)]
    | .checkcast idx => [.classLink own idx (CN c)]
    | .instanceof idx => [.classLink own idx (CN c)]
    | .invokestatic idx => (match P a with | some M => [.methodLink own idx M.1, .static M.1] | none => [])
    | .invokespecial idx => (match Nat.beq c 1 with
      | true => [.methodLink own idx Lib.objectInit, .instanceMethod Lib.objectInit, .code Lib.objectInit ⟨#[0xb1]⟩ 1 none]
      | false => (match P a with | some M => [.methodLink own idx M.1, .instanceMethod M.1] | none => []))
    | .invokevirtual idx => (match P a with | some M => [.methodLink own idx M.1, .declares M.1, .selects (CN c) M.1 M.1, .instanceMethod M.1] | none => [])
    | .invokeinterface idx _ => (match P a, v with
      | some M, .retAddr r => [.methodLink own idx (MN r), .declares (MN r), .interfaceMethod (MN r).cls (MN r).cls (MN r).name (MN r).desc, .selects (CN c) (MN r) M.1, .instanceMethod M.1, .publicMethod M.1, .unhidden (CN c) (MN r).name (MN r).desc, .castable (CN c) (MN r).cls]
      | _, _ => [])
    | _ => []
def notMH (s : String) : Bool := s != "java/lang/invoke/MethodHandle" && s != "java/lang/invoke/VarHandle"
def arity (d : String) (k : Nat) : Bool := match parseMethodDescriptor d with | some sig => sig.parameters.length == k | none => true
def side (P : Nat → Option Meth) (K : Nat → String × String × String) (MN : Nat → MethodName) (x : MethodName) (r : Row) : Bool :=
  match r with
  | (i, a, k, c, v) =>
    match i with
    | .putfield _ => Nat.beq k 0 || (x.cls == (K a).1 && x.name == "<init>")
    | .invokestatic _ => (match P a with | some M => notMH M.1.cls && arity M.1.desc k | none => true)
    | .invokespecial _ => Nat.beq c 1 || (match P a with | some M => notMH M.1.cls && arity M.1.desc (k - 1) && M.1.name == "<init>" && decide (M.2.2.2.1 = none) | none => true)
    | .invokevirtual _ => (match P a with | some M => notMH M.1.cls && arity M.1.desc (k - 1) | none => true)
    | .invokeinterface _ _ => (match v with | .retAddr r => notMH (MN r).cls && arity (MN r).desc (k - 1) | _ => false)
    | _ => true
/-- what is known of a class whose objects are made here -/
def ClsOk (Z : State) (a0 : Array Value) (K : Nat → String × String × String) (CN : Nat → String) (C : Nat) (F : Fls) : Prop :=
  (Cond.instantiable (CN C) F.1).before a0 Z = true ∧ (Cond.initialized (CN C)).before a0 Z = true ∧
  (∀ q ∈ F.2, (if q.2.2 = true then (Cond.laysFinal (CN C) (K q.1).1 (K q.1).2.1 (K q.1).2.2).before a0 Z = true else (Cond.lays (CN C) (K q.1).1 (K q.1).2.1 (K q.1).2.2).before a0 Z = true) ∧
    ∃ ty, parseFieldDescriptor (K q.1).2.2 = some ty ∧ defaultValue ty = q.2.1 ∧ (ty = .int ∨ ty = .long ∨ ty.isReference = true)) ∧
  ∀ q ∈ F.2, ∀ q' ∈ F.2, q.1 ≠ q'.1 → (K q.1).2.1 ≠ (K q'.1).2.1
theorem cls_laid {Z : State} {a0 : Array Value} {K : Nat → String × String × String} {CN : Nat → String} {C : Nat} {F : Fls} (h : ClsOk Z a0 K CN C F) {q : Nat × Value × Bool} (hq : q ∈ F.2) : Laid Z a0 (CN C) (K q.1).1 (K q.1).2.1 (K q.1).2.2 := by
  obtain ⟨-, -, h3, -⟩ := h
  have w := (h3 q hq).1
  split at w
  · exact Or.inr w
  · exact Or.inl w

section HeapSteps
variable {p : Program} {l : Launch} {e : Env} {R : Room} {s : State} {m : MethodId} {args : Array Value} {below : List Frame} {meth : Method} {c : Code} {T : State} {locs : List Loc} {cells slots : Nat} {Z : State} {a0 : Array Value}
variable {ρ : Rho} {D NI : Nat → Nat → Bool} {pc : Nat} {ls : List Slot} {st : List Value} {f' : Fm} {K : Nat → String × String × String} {CN : Nat → String} {MN : Nat → MethodName} {b n0 : Nat} {S : List (Nat × Value)} {H H' : List Obj} {CT : Nat → Option Fls} {P : Nat → Option Meth} {x : MethodName}

theorem in_of {j : Int32} {n : Nat} (h1 : ¬ j < 0) (h2 : j.toNatClampNeg < n) : ¬ (j < 0 ∨ n ≤ j.toNatClampNeg) := fun q => q.elim h1 (fun z => absurd h2 (Nat.not_lt.mpr z))

/-- what a step that keeps the accounts leaves -/
abbrev Goes (p : Program) (l : Launch) (e : Env) (R : Room) (s : State) (m : MethodId) (args : Array Value) (below : List Frame) (meth : Method) (c : Code) (T : State) (cells slots : Nat) (Z : State) (ρ : Rho) (K : Nat → String × String × String) (CN : Nat → String) (b n0 : Nat) (S : List (Nat × Value)) (H' : List Obj) (f f' : Fm) : Prop :=
  ∃ (T' : State) (locs' : List Loc), Stand p l e R s m args below meth c T' locs' cells slots ∧ Fr n0 locs' ∧ Sim Z ρ K CN b n0 S H' T'.heap ∧ T'.heap.size = T.heap.size ∧ ∀ target, Steps p.tables e below (T'.setTop (fm ρ m f')) target → Steps p.tables e below (T.setTop (fm ρ m f)) target

theorem ld_ok (X : Stand p l e R s m args below meth c T locs cells slots) (hx : p.tables.exec = Jvm.exec) (hZ : Z.Warmed39 s.vm) (N : Fr n0 locs) (hS : Sim Z ρ K CN b n0 S H T.heap) {ok : FieldType → Bool} (h : hLd ok (pc, ls, st) H = some (f', H'))
    (law : ∀ {a : Addr} {cell : Cell} {ty : FieldType} {j : Int32} {v : Value} {rest : List Value}, ok ty = true → T.heap[a]? = some cell → s.isArrayOf cell ty → cell.vm ≠ .unknown → ¬ (j < 0 ∨ cell.slots.size ≤ j.toNatClampNeg) → cell.slots[j.toNatClampNeg]? = some v → ∀ target, Steps p.tables e below (T.setTop (mkF m (pc + 1) (ar ρ ls) (v :: rest))) target → Steps p.tables e below (T.setTop (mkF m pc (ar ρ ls) (.int j :: .ref a :: rest))) target) :
    Goes p l e R s m args below meth c T cells slots Z ρ K CN b n0 S H' (pc, ls, st) f' := by
  unfold hLd at h
  split at h
  · rename_i q; cases q
    split at h
    · rename_i ty vs q
      have q' := getA_inv q
      split at h
      · rename_i q1
        obtain ⟨q1, q2⟩ := Bool.and_eq_true_iff.mp q1
        split at h
        · rename_i v q3
          split at h
          · rename_i q5
            cases h
            obtain ⟨cl, A, e1, e2⟩ := hS.2.2.1 _ _ q'
            have hj := q2
            simp only [Bool.not_eq_true', decide_eq_false_iff_not] at hj
            have hlt := (List.getElem?_eq_some_iff.mp q3).1
            exact ⟨T, locs, X, N, hS, rfl, law q1 A.1 (State.isArrayOf_alike hZ.alike A.2.1) A.2.2 (in_of hj (by rw [e1]; exact hlt)) (e2 _ _ q3 q5)⟩
          · cases h
        · cases h
      · cases h
    · cases h
  · cases h
theorem set_arr {h h' : Heap} {a : Addr} {ty : FieldType} {vs : List Value} {cl : Cell} {j : Nat} {v : Value} (A : Arr Z h a cl ty) (e1 : cl.slots.size = vs.length) (e2 : ∀ (i : Nat) (v : Value), vs[i]? = some v → kn v = true → cl.slots[i]? = some (rl ρ v)) (hj : j < vs.length) (W : Wr h h' a j (rl ρ v)) : ObjOk Z ρ K CN h' a (.inl (ty, vs.set j v)) := by
  refine ⟨_, A.same W, by simp [Cell.setSlot, e1], fun i w hw hk => ?_⟩
  by_cases hi : i = j
  · subst hi
    rw [List.getElem?_set_self hj] at hw
    cases hw
    simp [Cell.setSlot, e1, hj]
  · rw [List.getElem?_set_ne (fun q => hi q.symm)] at hw
    show (cl.slots.setIfInBounds j (rl ρ v))[i]? = _
    rw [Array.getElem?_setIfInBounds_ne (fun q => hi q.symm)]
    exact e2 i w hw hk
theorem rl_nar (ρ : Rho) (ty : FieldType) (x : Int32) : rl ρ (.int (nar ty x)) = .int (nar ty x) := rfl
theorem st_ok (hρ1 : ∀ i, b ≤ i → ρ.1 i = n0 + (i - b)) (hρ0 : ∀ i, i < b → ρ.1 i < n0) (X : Stand p l e R s m args below meth c T locs cells slots) (N : Fr n0 locs) (hS : Sim Z ρ K CN b n0 S H T.heap) {ok : FieldType → Bool} (h : hSt b ok (pc, ls, st) H = some (f', H'))
    (law : ∀ {a : Addr} {cell : Cell} {ty : FieldType} {j x : Int32} {rest : List Value}, ok ty = true → Arr Z T.heap a cell ty → ¬ (j < 0 ∨ cell.slots.size ≤ j.toNatClampNeg) → ∃ T' h', Stand p l e R s m args below meth c T' (locs ++ [⟨a, j.toNatClampNeg⟩]) cells slots ∧ T'.heap = h' ∧ Wr T.heap h' a j.toNatClampNeg (.int (nar ty x)) ∧ ∀ target, Steps p.tables e below (T'.setTop (mkF m (pc + 1) (ar ρ ls) rest)) target → Steps p.tables e below (T.setTop (mkF m pc (ar ρ ls) (.int x :: .int j :: .ref a :: rest))) target) :
    Goes p l e R s m args below meth c T cells slots Z ρ K CN b n0 S H' (pc, ls, st) f' := by
  unfold hSt at h
  split at h
  · rename_i q; cases q
    split at h
    · rename_i ty vs q
      have q' := getA_inv q
      split at h
      · rename_i q1
        obtain ⟨q1, q4⟩ := Bool.and_eq_true_iff.mp q1
        obtain ⟨q1, q3⟩ := Bool.and_eq_true_iff.mp q1
        obtain ⟨q1, q2⟩ := Bool.and_eq_true_iff.mp q1
        cases h
        obtain ⟨cl, A, e1, e2⟩ := hS.2.2.1 _ _ q'
        have hj := q3
        simp only [Bool.not_eq_true', decide_eq_false_iff_not] at hj
        have hlt := Nat.le_of_ble_eq_true (show Nat.ble _ vs.length = true from q4)
        have hba := Nat.le_of_ble_eq_true q2
        obtain ⟨T', h', X', e3, W, st'⟩ := law q1 A (in_of hj (by rw [e1]; exact hlt))
        subst e3
        exact ⟨T', _, X', Fr.snoc X' N (by rw [hρ1 _ hba]; omega), hS.wr hρ1 hρ0 W hba (set_arr A e1 e2 hlt W), W.size, st' ⟩
      · cases h
    · cases h
  · cases h
theorem stJ_ok (hρ1 : ∀ i, b ≤ i → ρ.1 i = n0 + (i - b)) (hρ0 : ∀ i, i < b → ρ.1 i < n0) (X : Stand p l e R s m args below meth c T locs cells slots) (hx : p.tables.exec = Jvm.exec) (hZ : Z.Warmed39 s.vm) (hd : decode c.code pc = .ok (.lastore, 1)) (N : Fr n0 locs) (hS : Sim Z ρ K CN b n0 S H T.heap) (h : hStJ b (pc, ls, st) H = some (f', H')) :
    Goes p l e R s m args below meth c T cells slots Z ρ K CN b n0 S H' (pc, ls, st) f' := by
  unfold hStJ at h
  split at h
  · rename_i q; cases q
    rename_i xx jj aa st
    split at h
    · rename_i ty vs q
      have q' := getA_inv q
      split at h
      · rename_i q1
        obtain ⟨q1, q4⟩ := Bool.and_eq_true_iff.mp q1
        obtain ⟨q1, q3⟩ := Bool.and_eq_true_iff.mp q1
        obtain ⟨q1, q2⟩ := Bool.and_eq_true_iff.mp q1
        cases h
        obtain ⟨cl, A, e1, e2⟩ := hS.2.2.1 _ _ q'
        have hj := q3
        simp only [Bool.not_eq_true', decide_eq_false_iff_not] at hj
        have hlt := Nat.le_of_ble_eq_true (show Nat.ble _ vs.length = true from q4)
        have hba := Nat.le_of_ble_eq_true q2
        have hty : ty = .long := by cases ty <;> first | rfl | cases q1
        subst hty
        obtain ⟨T', h', X', e3, W, st'⟩ := stJ X hx hZ rfl A (in_of hj (by rw [e1]; exact hlt)) (g := fm ρ m (pc, ls, .long xx :: .int jj :: .ref aa :: st)) rfl rfl hd
        subst e3
        exact ⟨T', _, X', Fr.snoc X' N (by rw [hρ1 _ hba]; omega), hS.wr hρ1 hρ0 W hba (set_arr (v := .long _) A e1 e2 hlt W), W.size, st'⟩
      · cases h
    · cases h
  · cases h
theorem kind_ok {ty : FieldType} {dv v : Value} (h1 : defaultValue ty = dv) (h2 : ty = .int ∨ ty = .long ∨ ty.isReference = true) (h3 : sameKind dv v = true) : narrow ty (rl ρ v) = rl ρ v ∧ fits ty (rl ρ v) = true := by
  subst h1
  rcases h2 with rfl | rfl | h2
  · cases v <;> first | exact ⟨rfl, rfl⟩ | cases h3
  · cases v <;> first | exact ⟨rfl, rfl⟩ | cases h3
  · cases ty <;> first | (cases h2; done) | (cases v <;> first | exact ⟨rfl, rfl⟩ | cases h3)
set_option maxHeartbeats 1600000 in
theorem put_ok (hρ1 : ∀ i, b ≤ i → ρ.1 i = n0 + (i - b)) (hρ0 : ∀ i, i < b → ρ.1 i < n0) (hCT : ∀ C F, CT C = some F → ClsOk Z a0 K CN C F) (X : Stand p l e R s m args below meth c T locs cells slots) (hx : p.tables.exec = Jvm.exec) (hZ : Z.Warmed39 s.vm) {own : String} (hown : s.vm.findClass own = some m.cls) {idx a k : Nat}
    (w : (Cond.fieldLink own idx (K a).1 (K a).2.1 (K a).2.2).before a0 Z = true) (hfin : k = 1 → own = (K a).1 ∧ meth.name = "<init>") (hd : decode c.code pc = .ok (.putfield idx, 3)) (N : Fr n0 locs) (hS : Sim Z ρ K CN b n0 S H T.heap) (h : hPut b CT a k (pc, ls, st) H = some (f', H')) :
    Goes p l e R s m args below meth c T cells slots Z ρ K CN b n0 S H' (pc, ls, st) f' := by
  unfold hPut at h
  split at h
  · rename_i q; cases q
    rename_i v o st
    split at h
    · rename_i C fs q
      have q' := getO_inv q
      split at h
      · rename_i sl fl qc
        split at h
        · rename_i dv fin ql
          split at h
          · rename_i q1
            obtain ⟨q1, q4⟩ := Bool.and_eq_true_iff.mp q1
            obtain ⟨q1, q3⟩ := Bool.and_eq_true_iff.mp q1
            obtain ⟨q1, q2⟩ := Bool.and_eq_true_iff.mp q1
            cases h
            have hC := hCT _ _ qc
            have hm := lookT_mem ql
            obtain ⟨k1, k2⟩ := keys_mem (a := 0) q2
            obtain ⟨old, hold⟩ := k2 _ hm
            obtain ⟨E, Fs⟩ := hS.2.2.1 _ _ q'
            obtain ⟨wl, ty, t1, t2, t3⟩ := hC.2.2.1 (a, dv, fin) hm
            obtain ⟨n1, n2⟩ := kind_ok (ρ := ρ) t2 t3 q3
            have hba := Nat.le_of_ble_eq_true q1
            have L : (Cond.lays (CN C) (K a).1 (K a).2.1 (K a).2.2).before a0 Z = true ∨ ((Cond.laysFinal (CN C) (K a).1 (K a).2.1 (K a).2.2).before a0 Z = true ∧ own = (K a).1 ∧ meth.name = "<init>") := by
              dsimp only at wl
              cases fin with
              | false => exact Or.inl (by simpa using wl)
              | true => exact Or.inr ⟨by simpa using wl, hfin (Nat.eq_of_beq_eq_true (by simpa using q4))⟩
            obtain ⟨T', h', X', e2, W, st'⟩ := putF X hx hZ hown (host := "") (Or.inl w) Via.refl rfl (Fs _ hold) E L hC.1 t1 n1 n2 (g := fm ρ m (pc, ls, v :: .ref o :: st)) rfl rfl hd
            subst e2
            refine ⟨T', _, X', Fr.snoc X' N (by rw [hρ1 _ hba]; omega), hS.wr hρ1 hρ0 W hba ⟨E.wr W, fun r hr => ?_⟩, W.size, st'⟩
            rcases setF_mem hr with rfl | ⟨r1, r2⟩
            · exact (Fs _ hold).same W
            · obtain ⟨dv', fin', hm'⟩ := k1 _ r2
              obtain ⟨-, ty', t1', -⟩ := hC.2.2.1 (r.1, dv', fin') hm'
              have l1 : Laid Z a0 (CN C) (K r.1).1 (K r.1).2.1 (K r.1).2.2 := cls_laid (F := (sl, fl)) (q := (r.1, dv', fin')) hC hm'
              have l2 : Laid Z a0 (CN C) (K a).1 (K a).2.1 (K a).2.2 := cls_laid (F := (sl, fl)) (q := (a, dv, fin)) hC hm
              have ne : (K r.1).2.1 ≠ (K a).2.1 := hC.2.2.2 (r.1, dv', fin') hm' (a, dv, fin) hm r1
              have sn := slot_ne l1 l2 ne t1' t1
              exact (Fs _ r2).other W (Or.inr sn)
          · cases h
        · cases h
      · cases h
    · cases h
  · cases h
theorem hstep_ok (hρ1 : ∀ i, b ≤ i → ρ.1 i = n0 + (i - b)) (hρ0 : ∀ i, i < b → ρ.1 i < n0) (hCT : ∀ C F, CT C = some F → ClsOk Z a0 K CN C F)
    (hNI : ∀ C k, NI C k = true → ∃ c t, Z.vm.findClass (CN C) = some c ∧ Z.vm.findClass (CN k) = some t ∧ Z.vm.assignable c t = false)
    (X : Stand p l e R s m args below meth c T locs cells slots) (hx : p.tables.exec = Jvm.exec) (hZ : Z.Warmed39 s.vm) (hown : s.vm.findClass x.cls = some m.cls) (hnm : meth.name = x.name)
    {i : Instr} {a k cc : Nat} {v : Value} (hw : ∀ w ∈ need P K CN MN x.cls (i, a, k, cc, v), w.before a0 Z = true) (hsd : side P K MN x (i, a, k, cc, v) = true)
    (hd : decode c.code pc = .ok (i, ilen i)) (N : Fr n0 locs) (hS : Sim Z ρ K CN b n0 S H T.heap) (h : hstep b S CT NI i a k cc (pc, ls, st) H = some (f', H')) :
    Goes p l e R s m args below meth c T cells slots Z ρ K CN b n0 S H' (pc, ls, st) f' := by
  cases i
  case iaload => exact ld_ok X hx hZ N hS h (fun {a cell ty j v rest} h1 h2 h3 h4 h5 h6 target hr => by
    have hty : ty = .int := by cases ty <;> first | rfl | cases h1
    subst hty
    exact X.iaload hx h2 h3 h4 h5 h6 (g := mkF m pc (ar ρ ls) (.int j :: .ref a :: rest)) rfl rfl hd target hr)
  case laload => exact ld_ok X hx hZ N hS h (fun {a cell ty j v rest} h1 h2 h3 h4 h5 h6 target hr => by
    have hty : ty = .long := by cases ty <;> first | rfl | cases h1
    subst hty
    exact X.laload hx h2 h3 h4 h5 h6 (g := mkF m pc (ar ρ ls) (.int j :: .ref a :: rest)) rfl rfl hd target hr)
  case caload => exact ld_ok X hx hZ N hS h (fun {a cell ty j v rest} h1 h2 h3 h4 h5 h6 target hr => by
    have hty : ty = .char := by cases ty <;> first | rfl | cases h1
    subst hty
    exact X.caload hx h2 h3 h4 h5 h6 (g := mkF m pc (ar ρ ls) (.int j :: .ref a :: rest)) rfl rfl hd target hr)
  case baload => exact ld_ok X hx hZ N hS h (fun {a cell ty j v rest} h1 h2 h3 h4 h5 h6 target hr => by
    have hty : ty = .byte ∨ ty = .boolean := by cases ty <;> first | exact Or.inl rfl | exact Or.inr rfl | cases h1
    rcases hty with rfl | rfl
    · exact X.baloadBytes hx h2 h3 h4 h5 h6 (g := mkF m pc (ar ρ ls) (.int j :: .ref a :: rest)) rfl rfl hd target hr
    · exact X.baloadBooleans hx h2 h3 h4 h5 h6 (g := mkF m pc (ar ρ ls) (.int j :: .ref a :: rest)) rfl rfl hd target hr)
  case aaload => exact ld_ok X hx hZ N hS h (fun {a cell ty j v rest} h1 h2 h3 h4 h5 h6 target hr => X.aaload hx h2 h3 h1 h4 h5 h6 (g := mkF m pc (ar ρ ls) (.int j :: .ref a :: rest)) rfl rfl hd target hr)
  case iastore => exact st_ok hρ1 hρ0 X N hS h (fun {a cell ty j x rest} h1 A h2 => by
    have hty : ty = .int := by cases ty <;> first | rfl | cases h1
    subst hty
    exact stI X hx hZ rfl A h2 (g := mkF m pc (ar ρ ls) (.int x :: .int j :: .ref a :: rest)) rfl rfl hd)
  case castore => exact st_ok hρ1 hρ0 X N hS h (fun {a cell ty j x rest} h1 A h2 => by
    have hty : ty = .char := by cases ty <;> first | rfl | cases h1
    subst hty
    exact stC X hx hZ rfl A h2 (g := mkF m pc (ar ρ ls) (.int x :: .int j :: .ref a :: rest)) rfl rfl hd)
  case bastore => exact st_ok hρ1 hρ0 X N hS h (fun {a cell ty j x rest} h1 A h2 => by
    have hty : ty = .byte ∨ ty = .boolean := by cases ty <;> first | exact Or.inl rfl | exact Or.inr rfl | cases h1
    rcases hty with rfl | rfl
    · exact stB X hx hZ rfl A h2 (g := mkF m pc (ar ρ ls) (.int x :: .int j :: .ref a :: rest)) rfl rfl hd
    · exact stZ X hx hZ rfl A h2 (g := mkF m pc (ar ρ ls) (.int x :: .int j :: .ref a :: rest)) rfl rfl hd)
  case lastore => exact stJ_ok hρ1 hρ0 X hx hZ hd N hS h
  case putfield idx =>
    refine put_ok hρ1 hρ0 hCT X hx hZ hown (idx := idx) (hw _ (List.mem_cons_self ..)) (fun hk => ?_) hd N hS h
    subst hk
    have q : (x.cls == (K a).1 && x.name == "<init>") = true := by simpa [side] using hsd
    obtain ⟨q1, q2⟩ := Bool.and_eq_true_iff.mp q
    exact ⟨by simpa using q1, by rw [hnm]; simpa using q2⟩
  case getfield idx =>
    have h' : hGet a (pc, ls, st) H = some (f', H') := h
    unfold hGet at h'
    split at h'
    · rename_i q; cases q
      rename_i o st
      split at h'
      · rename_i C fs q
        split at h'
        · rename_i v q2
          cases h'
          obtain ⟨E, Fs⟩ := hS.2.2.1 _ _ (getO_inv q)
          obtain ⟨T', X', e', st'⟩ := getF X hx hZ hown (host := "") (Or.inl (hw _ (List.mem_cons_self ..))) Via.refl rfl (Fs _ (look_mem q2)) (g := fm ρ m (pc, ls, .ref o :: st)) rfl rfl hd
          exact ⟨T', _, X', N, by rw [e']; exact hS, by rw [e'], st'⟩
        · cases h'
      · cases h'
    · cases h'
  case getstatic idx =>
    have h' : hSta S a cc (pc, ls, st) H = some (f', H') := h
    unfold hSta at h'
    dsimp only at h'
    split at h'
    · rename_i c' v q
      split at h'
      · rename_i q2
        cases h'
        have e1 := Nat.eq_of_beq_eq_true q2
        subst e1
        have F := hS.2.2.2 _ (List.mem_of_getElem? q)
        obtain ⟨T', X', e', st'⟩ := getS (host := "") X hx hZ hown (hw _ (List.mem_cons_self ..)) Via.refl rfl F (g := fm ρ m (pc, ls, st)) rfl hd
        exact ⟨T', _, X', N, by rw [e']; exact hS, by rw [e'], st'⟩
      · cases h'
    · cases h'
  case arraylength =>
    have h' : hLen (pc, ls, st) H = some (f', H') := h
    unfold hLen at h'
    split at h'
    · rename_i q; cases q
      rename_i o st
      split at h'
      · rename_i ty vs q
        cases h'
        obtain ⟨cl, A, e1, -⟩ := hS.2.2.1 _ _ (getA_inv q)
        refine ⟨T, _, X, N, hS, rfl, fun target hr => X.arraylength hx A.1 (State.isArrayOf_alike hZ.alike A.2.1) (g := fm ρ m (pc, ls, .ref o :: st)) rfl rfl hd target ?_⟩
        rw [e1]
        exact hr
      · cases h'
    · cases h'
  case checkcast idx =>
    have h' : hCast cc (pc, ls, st) H = some (f', H') := h
    unfold hCast at h'
    split at h'
    · rename_i q; cases q; cases h'
      exact ⟨T, _, X, N, hS, rfl, fun target hr => X.checkcastNull hx (g := fm ρ m (pc, ls, .null :: _)) rfl rfl hd target hr⟩
    · rename_i q; cases q
      rename_i o st
      split at h'
      · rename_i C fs q
        split at h'
        · rename_i q2; cases h'
          have e1 := Nat.eq_of_beq_eq_true q2
          subst e1
          obtain ⟨E, -⟩ := hS.2.2.1 _ _ (getO_inv q)
          obtain ⟨T', X', e', st'⟩ := castY X hx hZ hown (hw _ (List.mem_cons_self ..)) rfl (Ins.self E) (g := fm ρ m (pc, ls, .ref o :: st)) rfl rfl hd
          exact ⟨T', _, X', N, by rw [e']; exact hS, by rw [e'], st'⟩
        · cases h'
      · cases h'
    · cases h'
  case instanceof idx =>
    have h' : hInst NI cc (pc, ls, st) H = some (f', H') := h
    unfold hInst at h'
    split at h'
    · rename_i q; cases q; cases h'
      exact ⟨T, _, X, N, hS, rfl, fun target hr => X.instanceofNull hx (g := fm ρ m (pc, ls, .null :: _)) rfl rfl hd target hr⟩
    · rename_i q; cases q
      rename_i o st
      split at h'
      · rename_i C fs q
        obtain ⟨E, -⟩ := hS.2.2.1 _ _ (getO_inv q)
        split at h'
        · rename_i q2; cases h'
          have e1 := Nat.eq_of_beq_eq_true q2
          subst e1
          obtain ⟨T', X', e', st'⟩ := instY X hx hZ hown (hw _ (List.mem_cons_self ..)) rfl (Ins.self E) (g := fm ρ m (pc, ls, .ref o :: st)) rfl rfl hd
          exact ⟨T', _, X', N, by rw [e']; exact hS, by rw [e'], st'⟩
        · split at h'
          · rename_i q3; cases h'
            obtain ⟨T', X', e', st'⟩ := instNo X hx hZ hown (hw _ (List.mem_cons_self ..)) rfl E (hNI _ _ q3) (g := fm ρ m (pc, ls, .ref o :: st)) rfl rfl hd
            exact ⟨T', _, X', N, by rw [e']; exact hS, by rw [e'], st'⟩
          · cases h'
      · cases h'
    · cases h'
  all_goals exact absurd (show none = some (f', H') from h) (by simp)

/-! ### steps that make a cell -/
def aNew (CT : Nat → Option Fls) (c : Nat) : Fm → List Obj → Option (Fm × List Obj × Nat)
  | (pc, ls, st), H => match CT c with
    | some (sl, fl) => some ((pc + 3, ls, .ref H.length :: st), H ++ [.inr (c, fl.map fun q => (q.1, q.2.1))], sl)
    | none => none
def aArr (aty : ArrayType) : Fm → List Obj → Option (Fm × List Obj × Nat)
  | (pc, ls, .int n :: st), H => if !decide (n < 0) && Nat.ble (n.toNatClampNeg * 8) 536870912 then some ((pc + 2, ls, .ref H.length :: st), H ++ [.inl (newarray.typeOf aty, List.replicate n.toNatClampNeg (defaultValue (newarray.typeOf aty)))], n.toNatClampNeg) else none
  | _, _ => none
def astep (CT : Nat → Option Fls) (i : Instr) (c : Nat) (f : Fm) (H : List Obj) : Option (Fm × List Obj × Nat) :=
  match i with
  | .new _ => aNew CT c f H
  | .newarray aty => aArr aty f H
  | _ => none
theorem rl_default (ρ : Rho) (ty : FieldType) : rl ρ (defaultValue ty) = defaultValue ty := by cases ty <;> rfl
theorem astep_ok (hρ1 : ∀ i, b ≤ i → ρ.1 i = n0 + (i - b)) (hCT : ∀ C F, CT C = some F → ClsOk Z a0 K CN C F)
    (X : Stand p l e R s m args below meth c T locs cells slots) (hx : p.tables.exec = Jvm.exec) (hZ : Z.Warmed39 s.vm) (hown : s.vm.findClass x.cls = some m.cls)
    {i : Instr} {a k cc ds : Nat} {v : Value} (hw : ∀ w ∈ need P K CN MN x.cls (i, a, k, cc, v), w.before a0 Z = true)
    (hd : decode c.code pc = .ok (i, ilen i)) (hS : Sim Z ρ K CN b n0 S H T.heap) (hsz : T.heap.size = s.heap.size + cells) (h : astep CT i cc (pc, ls, st) H = some (f', H', ds)) (hc : cells + 1 ≤ R.cells) (hl : slots + ds ≤ R.slots) :
    ∃ T', Stand p l e R s m args below meth c T' locs (cells + 1) (slots + ds) ∧ Sim Z ρ K CN b n0 S H' T'.heap ∧ T'.heap.size = s.heap.size + (cells + 1) ∧ ∀ target, Steps p.tables e below (T'.setTop (fm ρ m f')) target → Steps p.tables e below (T.setTop (fm ρ m (pc, ls, st))) target := by
  have eρ : ρ.1 H.length = T.heap.size := by rw [hρ1 _ hS.1, ← hS.2.1]
  cases i
  case new idx =>
    have h' : aNew CT cc (pc, ls, st) H = some (f', H', ds) := h
    unfold aNew at h'
    dsimp only at h'
    split at h'
    · rename_i sl fl q
      cases h'
      have hC := hCT _ _ q
      obtain ⟨T', h', X', e', E, A, Dv, -, st'⟩ := newO X hx hZ hown (hw _ (List.mem_cons_self ..)) hC.1 hC.2.1 rfl (g := fm ρ m (pc, ls, st)) rfl hd hc hl
      subst e'
      have hs1 : T'.heap.size = T.heap.size + 1 := by
        have q1 : T'.heap.size ≤ s.heap.size + (cells + 1) := X'.heapSize
        have q2 : T.heap.size < T'.heap.size := A.lt
        omega
      refine ⟨T', X', hS.new hρ1 E hs1 ⟨A, fun r hr => ?_⟩, by omega, fun target hr => st' target ?_⟩
      · obtain ⟨y, hy, rfl⟩ := List.mem_map.mp hr
        obtain ⟨-, ty, t1, t2, -⟩ := hC.2.2.1 _ hy
        have F := Dv (cls_laid hC hy) t1
        show Fld Z T'.heap T.heap.size (K y.1).1 (K y.1).2.1 (K y.1).2.2 (rl ρ y.2.1)
        rw [← t2, rl_default]
        exact F
      · show Steps p.tables e below (T'.setTop (mkF m (pc + 3) (ar ρ ls) (.ref T.heap.size :: st.map (rl ρ)))) target
        rw [← eρ]
        exact hr
    · cases h'
  case newarray aty =>
    have h' : aArr aty (pc, ls, st) H = some (f', H', ds) := h
    unfold aArr at h'
    split at h'
    · rename_i q; cases q
      rename_i n st
      split at h'
      · rename_i q1
        cases h'
        obtain ⟨q1, q2⟩ := Bool.and_eq_true_iff.mp q1
        have hn : ¬ n < 0 := by simpa using q1
        obtain ⟨T', h', cA, X', e', E, A, st'⟩ := newP X hx hZ (hw _ (List.mem_cons_self ..)) rfl (g := fm ρ m (pc, ls, .int n :: st)) rfl hd rfl hn (Nat.le_refl _) (Nat.le_of_ble_eq_true q2) hc hl
        subst e'
        have hs1 : T'.heap.size = T.heap.size + 1 := by
          have q1 : T'.heap.size ≤ s.heap.size + (cells + 1) := X'.heapSize
          have q2 : T.heap.size < T'.heap.size := A.lt
          omega
        refine ⟨T', X', hS.new hρ1 E hs1 (ObjOk.of_slots A ?_), by omega, fun target hr => st' target ?_⟩
        · simp [newA, rl_default]
        · show Steps p.tables e below (T'.setTop (mkF m (pc + 2) (ar ρ ls) (.ref T.heap.size :: st.map (rl ρ)))) target
          rw [← eρ]
          exact hr
      · cases h'
    · cases h'
  all_goals exact absurd (show none = some (f', H', ds) from h) (by simp)

/-! ### Object's constructor, and returning -/
def wt (st : List Value) : Nat := (st.map fun v => v.category).sum
theorem wt_rl (ρ : Rho) (st : List Value) : ((st.map (rl ρ)).map fun v => v.category).sum = wt st := by
  unfold wt
  rw [List.map_map]
  congr 1
  apply List.map_congr_left
  intro v _
  exact rl_cat ρ v
def istep (maxL fr lo : Nat) (i : Instr) (c : Nat) (f : Fm) : Option Fm :=
  match i with
  | .invokespecial _ => (match f with
    | (pc, ls, .ref _ :: st) => if Nat.beq c 1 && Nat.ble 1 fr && Nat.ble (wt st + 12) lo && Nat.beq ls.length maxL then some (pc + 3, ls, st) else none
    | _ => none)
  | _ => none
theorem istep_ok (X : Stand p l e R s m args below meth c T locs cells slots) (hx : p.tables.exec = Jvm.exec) (hZ : Z.Warmed39 s.vm) (hown : s.vm.findClass x.cls = some m.cls)
    {i : Instr} {a k cc maxL fr lo : Nat} {v : Value} (hml : c.maxLocals = maxL) (hfr : R.frames = fr) (hlo : R.locals = lo) (hw : ∀ w ∈ need P K CN MN x.cls (i, a, k, cc, v), w.before a0 Z = true)
    (hd : decode c.code pc = .ok (i, ilen i)) (N : Fr n0 locs) (hS : Sim Z ρ K CN b n0 S H T.heap) (h : istep maxL fr lo i cc (pc, ls, st) = some f') :
    Goes p l e R s m args below meth c T cells slots Z ρ K CN b n0 S H (pc, ls, st) f' := by
  cases i
  case invokespecial idx =>
    unfold istep at h
    dsimp only at h
    split at h
    · rename_i q; cases q
      rename_i o st
      split at h
      · rename_i q1
        obtain ⟨q1, q4⟩ := Bool.and_eq_true_iff.mp q1
        obtain ⟨q1, q3⟩ := Bool.and_eq_true_iff.mp q1
        obtain ⟨q1, q2⟩ := Bool.and_eq_true_iff.mp q1
        cases h
        have e1 := Nat.eq_of_beq_eq_true q1
        subst e1
        have hlen := Nat.eq_of_beq_eq_true q4
        obtain ⟨T', X', e', st'⟩ := initO X hx hZ hown (idx := idx) (hw _ (by simp [need])) (hw _ (by simp [need])) (hw _ (by simp [need])) rfl (g := fm ρ m (pc, ls, .ref o :: st)) rfl (by rw [hml]; simpa [ar] using hlen) rfl hd (by rw [hfr]; exact Nat.le_of_ble_eq_true q2) (W := wt st) (by show 2 * 0 + _ ≤ _; rw [wt_rl]; omega) (by rw [hlo]; exact Nat.le_of_ble_eq_true q3)
        exact ⟨T', _, X', N, by rw [e']; exact hS, by rw [e'], st'⟩
      · cases h
    · cases h
  all_goals exact absurd (show none = some f' from h) (by simp)
def rstep (ret : Option FieldType) (i : Instr) (st : List Value) : Option (Option Value) :=
  match i with
  | .ireturn => (match st with
    | .int x :: _ => (match ret with
      | some .int => some (some (.int x))
      | some .boolean => some (some (.int (nar .boolean x)))
      | some .byte => some (some (.int (nar .byte x)))
      | some .char => some (some (.int (nar .char x)))
      | _ => none)
    | _ => none)
  | .lreturn => (match st with
    | .long x :: _ => (match ret with | some .long => some (some (.long x)) | _ => none)
    | _ => none)
  | .areturn => (match st with
    | v :: _ => (match ret with | some t => if t.isReference && v.isRef then some (some v) else none | none => none)
    | _ => none)
  | .return_ => (match st with
    | [] => (match ret with | none => some none | _ => none)
    | _ => none)
  | _ => none
theorem rstep_ok (X : Stand p l e R s m args below meth c T locs cells slots) (hx : p.tables.exec = Jvm.exec) {i : Instr} {ret : Option FieldType} {v : Option Value} (hret : meth.sig.returnType = ret) (hd : decode c.code pc = .ok (i, ilen i)) (h : rstep ret i st = some v) :
    (meth.sig.returnType = none → v.map (rl ρ) = none) ∧ ∀ fs, (∀ (f : JFrame) (acts : List Action), f.method = m → f.locked = none → f.entered = [] → (doReturn e (T.setTop f) acts (v.map (rl ρ))).1 = T.setFrames fs) → Steps p.tables e below (T.setTop (fm ρ m (pc, ls, st))) (T.setFrames fs) := by
  cases i
  case ireturn =>
    unfold rstep at h
    dsimp only at h
    split at h
    · split at h
      · cases h
        exact ⟨fun q => by (rw [hret] at q; cases q), fun fs hl => retOut X hx hret rfl (Or.inl ⟨rfl, Or.inl rfl, _, rfl⟩) hd hl⟩
      · cases h
        exact ⟨fun q => by (rw [hret] at q; cases q), fun fs hl => retN X hx (t := .boolean) hret (by simp) hd hl⟩
      · cases h
        exact ⟨fun q => by (rw [hret] at q; cases q), fun fs hl => retN X hx (t := .byte) hret (by simp) hd hl⟩
      · cases h
        exact ⟨fun q => by (rw [hret] at q; cases q), fun fs hl => retN X hx (t := .char) hret (by simp) hd hl⟩
      · cases h
    · cases h
  case lreturn =>
    unfold rstep at h
    dsimp only at h
    split at h
    · split at h
      · cases h
        exact ⟨fun q => by (rw [hret] at q; cases q), fun fs hl => retOut X hx hret rfl (Or.inr (Or.inl ⟨rfl, rfl, _, rfl⟩)) hd hl⟩
      · cases h
    · cases h
  case areturn =>
    unfold rstep at h
    dsimp only at h
    split at h
    · rename_i w r
      split at h
      · rename_i t
        split at h
        · rename_i q1
          obtain ⟨q1, q2⟩ := Bool.and_eq_true_iff.mp q1
          cases h
          have hn : narrow t (rl ρ w) = rl ρ w := by cases t <;> first | (cases q1; done) | (cases w <;> rfl)
          exact ⟨fun q => by (rw [hret] at q; cases q), fun fs hl => retOut X hx hret hn (Or.inr (Or.inr (Or.inr (Or.inr ⟨rfl, q1, by rw [rl_isRef]; exact q2⟩)))) hd hl⟩
        · cases h
      · cases h
    · cases h
  case return_ =>
    unfold rstep at h
    dsimp only at h
    split at h
    · split at h
      · cases h
        exact ⟨fun _ => rfl, fun fs hl => X.returnOut hx hret hd hl⟩
      · cases h
    · cases h
  all_goals exact absurd (show none = some v from h) (by simp)
end HeapSteps
/-! ### calls -/
def recvOk (i : Instr) (H : List Obj) (c : Nat) (as : List Value) : Bool :=
  match i with
  | .invokestatic _ => true
  | .invokespecial _ => (match as with | .ref _ :: _ => Nat.beq c 0 | _ => false)
  | .invokevirtual _ => (match as with | .ref o :: _ => (match getO H o with | some (C, _) => Nat.beq C c | none => false) | _ => false)
  | .invokeinterface _ _ => (match as with | .ref o :: _ => (match getO H o with | some (C, _) => Nat.beq C c | none => false) | _ => false)
  | _ => false
def callee (P : Nat → Option Meth) (maxL fr lo : Nat) (i : Instr) (a k c : Nat) (f : Fm) (H : List Obj) : Option (Meth × Nat × Nat × List Value × List Value) :=
  match P a with
  | none => none
  | some M => if Nat.beq (f.2.2.take k).length k && Nat.ble 1 fr && Nat.ble (wt (f.2.2.drop k) + (M.2.2.1 + 11)) lo && Nat.beq f.2.1.length maxL && recvOk i H c (f.2.2.take k).reverse then
      some (M, fr - 1, lo - (wt (f.2.2.drop k) + (M.2.2.1 + 11)), (f.2.2.take k).reverse, f.2.2.drop k)
    else none
/-- what a run leans on: methods, how many objects stood at the start, statics, classes, references apart, classes apart, tokens' answers -/
abbrev Cx : Type := (Nat → Option Meth) × Nat × List (Nat × Value) × (Nat → Option Fls) × (Nat → Nat → Bool) × (Nat → Nat → Bool) × (Instr → Nat → Int32 → Option Value)
def body (G : Cx) (self : Nat → Nat → Meth → Cfg → Option Res) (fr lo : Nat) (M : Meth) (cf : Cfg) : Option Res :=
  match M.2.2.2.2 cf.1.1 with
  | none => none
  | some (i, a, k, c, v) =>
    match pstep G.2.2.2.2.1 i v cf.1 with
    | some f' => self fr lo M (f', cf.2)
    | none =>
     match tstep G.2.2.2.2.2.2 i cf.1 with
     | some f' => self fr lo M (f', cf.2)
     | none =>
      match hstep G.2.1 G.2.2.1 G.2.2.2.1 G.2.2.2.2.2.1 i a k c cf.1 cf.2.1 with
      | some (f', H') => self fr lo M (f', H', cf.2.2)
      | none =>
        match rstep M.2.2.2.1 i cf.1.2.2 with
        | some v => some (v, cf.2)
        | none =>
          match astep G.2.2.2.1 i c cf.1 cf.2.1 with
          | some (f', H', ds) => self fr lo M (f', H', cf.2.2.1 + 1, cf.2.2.2 + ds)
          | none =>
            match istep M.2.2.1 fr lo i c cf.1 with
            | some f' => self fr lo M (f', cf.2)
            | none =>
              match callee G.1 M.2.2.1 fr lo i a k c cf.1 cf.2.1 with
              | some (M', fr', lo', as, rest) =>
                (match self fr' lo' M' ((0, entL as M'.2.2.1, []), cf.2.1, 0, 0) with
                | some (r, H', c', s') => self fr lo M ((cf.1.1 + ilen i, cf.1.2.1, r.toList ++ rest), H', cf.2.2.1 + c', cf.2.2.2 + s')
                | none => none)
              | none => none
def exec (G : Cx) : Nat → Nat → Nat → Meth → Cfg → Option Res
  | 0 => fun _ _ _ _ => none
  | n + 1 => body G (exec G n)

section Exec
variable {P : Nat → Option Meth} {b : Nat} {S : List (Nat × Value)} {CT : Nat → Option Fls} {D NI : Nat → Nat → Bool} {TB : Instr → Nat → Int32 → Option Value}
theorem exec_mono {G : Cx} : ∀ (n fr lo : Nat) (M : Meth) (cf : Cfg) (r : Res), exec G n fr lo M cf = some r → cf.2.2.1 ≤ r.2.2.1 ∧ cf.2.2.2 ≤ r.2.2.2
  | 0, _, _, _, _, _, h => by cases h
  | n + 1, fr, lo, M, cf, r, h => by
    have h' : body G (exec G n) fr lo M cf = some r := h
    unfold body at h'
    split at h'
    · cases h'
    · split at h'
      · have q := exec_mono n _ _ _ _ _ h'
        exact q
      · split at h'
        · have q := exec_mono n _ _ _ _ _ h'
          exact q
        · split at h'
          · have q := exec_mono n _ _ _ _ _ h'
            exact q
          · split at h'
            · cases h'; exact ⟨Nat.le_refl _, Nat.le_refl _⟩
            · split at h'
              · have q := exec_mono n _ _ _ _ _ h'
                exact ⟨Nat.le_trans (Nat.le_add_right _ _) q.1, Nat.le_trans (Nat.le_add_right _ _) q.2⟩
              · split at h'
                · have q := exec_mono n _ _ _ _ _ h'
                  exact q
                · split at h'
                  · split at h'
                    · have q := exec_mono n _ _ _ _ _ h'
                      exact ⟨Nat.le_trans (Nat.le_add_right _ _) q.1, Nat.le_trans (Nat.le_add_right _ _) q.2⟩
                    · cases h'
                  · cases h'

def GoodM (Z : State) (a0 : Array Value) (P : Nat → Option Meth) (K : Nat → String × String × String) (CN : Nat → String) (MN : Nat → MethodName) (M : Meth) : Prop :=
  ∀ pc r, M.2.2.2.2 pc = some r → decode M.2.1 pc = .ok (r.1, ilen r.1) ∧ (∀ w ∈ need P K CN MN M.1.cls r, w.before a0 Z = true) ∧ side P K MN M.1 r = true
def GoodP (Z : State) (a0 : Array Value) (P : Nat → Option Meth) (K : Nat → String × String × String) (CN : Nat → String) (MN : Nat → MethodName) : Prop :=
  ∀ a M, P a = some M → GoodM Z a0 P K CN MN M ∧ plainFor M.1 = true ∧ (Cond.code M.1 M.2.1 M.2.2.1 M.2.2.2.1).before a0 Z = true ∧ (Cond.initialized M.1.cls).before a0 Z = true

variable {l : Launch} {Z : State} {a0 : Array Value} {ρ : Rho} {K : Nat → String × String × String} {CN : Nat → String} {MN : Nat → MethodName} {n0 : Nat}

/-- what a run of the machine says of the model, inside a method -/
def Runs (l : Launch) (Z : State) (ρ : Rho) (K : Nat → String × String × String) (CN : Nat → String) (b n0 : Nat) (S : List (Nat × Value)) (fr lo : Nat) (M : Meth) (cf : Cfg) (r : Res) : Prop :=
  ∀ (p : Program) (e : Env) (R : Room) (s : State) (m : MethodId) (args : Array Value) (below : List Frame) (meth : Method) (c : Code) (T : State) (locs : List Loc),
    Stand p l e R s m args below meth c T locs cf.2.2.1 cf.2.2.2 → p.tables.exec = Jvm.exec → Z.Warmed39 s.vm → s.vm.findClass M.1.cls = some m.cls → meth.name = M.1.name → c.code = M.2.1 → c.maxLocals = M.2.2.1 → meth.sig.returnType = M.2.2.2.1 →
    R.frames = fr → R.locals = lo → r.2.2.1 ≤ R.cells → r.2.2.2 ≤ R.slots → Fr n0 locs → Sim Z ρ K CN b n0 S cf.2.1 T.heap → T.heap.size = s.heap.size + cf.2.2.1 →
    ∃ (T' : State) (locs' : List Loc), Stand p l e R s m args below meth c T' locs' r.2.2.1 r.2.2.2 ∧ Fr n0 locs' ∧ Sim Z ρ K CN b n0 S r.2.1 T'.heap ∧ T'.heap.size = s.heap.size + r.2.2.1 ∧ (meth.sig.returnType = none → r.1.map (rl ρ) = none) ∧
      ∀ fs, (∀ (f : JFrame) (acts : List Action), f.method = m → f.locked = none → f.entered = [] → (doReturn e (T'.setTop f) acts (r.1.map (rl ρ))).1 = T'.setFrames fs) → Steps p.tables e below (T.setTop (fm ρ m cf.1)) (T'.setFrames fs)

abbrev QR (Z : State) (ρ : Rho) (K : Nat → String × String × String) (CN : Nat → String) (b n0 : Nat) (S : List (Nat × Value)) (r : Res) (h0 : Heap) (v : Option Value) (h : Heap) (L : List Loc) : Prop :=
  v = r.1.map (rl ρ) ∧ Fr n0 L ∧ Sim Z ρ K CN b n0 S r.2.1 h ∧ h.size = h0.size + r.2.2.1

theorem met_of {fr lo : Nat} {M : Meth} {as : List Value} {H : List Obj} {r : Res} (hR : Runs l Z ρ K CN b n0 S fr lo M ((0, entL as M.2.2.1, []), H, 0, 0) r) (hp : plainFor M.1 = true) {h0 : Heap} (hS : Sim Z ρ K CN b n0 S H h0) (ws : List Cond) (R : Room) (h1 : R.frames = fr) (h2 : R.locals = lo) (h3 : r.2.2.1 ≤ R.cells) (h4 : r.2.2.2 ≤ R.slots) :
    MetFree l M.1 (head1 (Cond.code M.1 M.2.1 M.2.2.1 M.2.2.2.1 :: ws) R) (fun a U => a = (as.map (rl ρ)).toArray ∧ Z.Warmed39 U.vm ∧ U.heap = h0) (fun _ _ _ _ _ => True)
      (fun _ U o U' => ∃ v L, o = .returned v ∧ QR Z ρ K CN b n0 S r h0 v U'.heap L ∧ FrameEnd U o U' L r.2.2.1 r.2.2.2) := by
  refine MetFree.of_bodySF hp hisR ?_
  intro p e s m args below meth c s₁ Bd hml0 hP hK
  obtain ⟨rfl, hZ, hh⟩ := hP
  have hx := Bd.exec
  have hby := Bd.bytes
  have hown : s.vm.findClass M.1.cls = some m.cls := findClass_of_methodNamed Bd.named
  have hnm := (name_of_methodNamed Bd.named Bd.method).1
  have X0 : Stand p l e R s m (as.map (rl ρ)).toArray below meth c s₁ [] 0 0 := Stand.of_body Bd
  have e0 : s₁.heap = h0 := by rw [← hh, Bd.state]; rfl
  have es : s₁.heap = s.heap := by rw [Bd.state]; rfl
  obtain ⟨T', L', X', N', hS', hsz, hv, st⟩ := hR _ _ _ _ _ _ _ _ _ _ _ X0 hx hZ hown hnm hby hml0 Bd.returns h1 h2 h3 h4 (Fr.nil n0) (by rw [e0]; exact hS) (by rw [es]; rfl)
  obtain ⟨fs, hr, hrun, hended, hW, hsame⟩ := X'.leave (v := r.1.map (rl ρ)) hv
  refine ⟨_, _, castTop (ent_ok ρ m as M.2.2.1) (st fs hr), hrun, hended, _, _, rfl, ⟨rfl, N', hS', ?_⟩, ⟨_, rfl⟩, hW, hsame⟩
  show T'.heap.size = _
  rw [hsz, ← hh]

theorem toList_map (ρ : Rho) (r : Option Value) (rest : List Value) : (r.map (rl ρ)).toList ++ rest.map (rl ρ) = (r.toList ++ rest).map (rl ρ) := by cases r <;> rfl
theorem arity_ok {d : String} {k : Nat} (h : arity d k = true) {L : List Value} (hl : L.length = k) : ∀ sig, parseMethodDescriptor d = some sig → L.length = sig.parameters.length := fun sig hs => by
  unfold arity at h
  rw [hs] at h
  rw [hl]
  exact (by simpa using h : sig.parameters.length = k).symm
theorem notMH_ok {s : String} (h : notMH s = true) : s ≠ "java/lang/invoke/MethodHandle" ∧ s ≠ "java/lang/invoke/VarHandle" := by
  unfold notMH at h
  simpa using h

theorem call_ok {p : Program} {e : Env} {R : Room} {s : State} {m : MethodId} {args : Array Value} {below : List Frame} {meth : Method} {c : Code} {T : State} {locs : List Loc} {cells slots : Nat} {x : MethodName} {pc : Nat} {ls : List Slot} {st : List Value} {H : List Obj}
    (hP : GoodP Z a0 P K CN MN) (X : Stand p l e R s m args below meth c T locs cells slots) (hx : p.tables.exec = Jvm.exec) (hZ : Z.Warmed39 s.vm) (hown : s.vm.findClass x.cls = some m.cls)
    {i : Instr} {a k cc maxL fr lo fr' lo' : Nat} {v : Value} {M' : Meth} {as rest : List Value} {r : Res} (hml : c.maxLocals = maxL) (hfr : R.frames = fr) (hlo : R.locals = lo) (hw : ∀ w ∈ need P K CN MN x.cls (i, a, k, cc, v), w.before a0 Z = true) (hsd : side P K MN x (i, a, k, cc, v) = true)
    (hd : decode c.code pc = .ok (i, ilen i)) (hS : Sim Z ρ K CN b n0 S H T.heap) (h : callee P maxL fr lo i a k cc (pc, ls, st) H = some (M', fr', lo', as, rest))
    (hR : Runs l Z ρ K CN b n0 S fr' lo' M' ((0, entL as M'.2.2.1, []), H, 0, 0) r) (hc : cells + r.2.2.1 ≤ R.cells) (hs : slots + r.2.2.2 ≤ R.slots) :
    ∃ (T' : State) (L : List Loc), Stand p l e R s m args below meth c T' (locs ++ L) (cells + r.2.2.1) (slots + r.2.2.2) ∧ Fr n0 L ∧ Sim Z ρ K CN b n0 S r.2.1 T'.heap ∧ T'.heap.size = T.heap.size + r.2.2.1 ∧
      ∀ target, Steps p.tables e below (T'.setTop (fm ρ m (pc + ilen i, ls, r.1.toList ++ rest))) target → Steps p.tables e below (T.setTop (fm ρ m (pc, ls, st))) target := by
  unfold callee at h
  split at h
  · cases h
  · rename_i M hPa
    split at h
    · rename_i q
      obtain ⟨q, q5⟩ := Bool.and_eq_true_iff.mp q
      obtain ⟨q, q4⟩ := Bool.and_eq_true_iff.mp q
      obtain ⟨q, q3⟩ := Bool.and_eq_true_iff.mp q
      obtain ⟨q1, q2⟩ := Bool.and_eq_true_iff.mp q
      simp only [Option.some.injEq, Prod.mk.injEq] at h
      obtain ⟨rfl, rfl, rfl, has, rfl⟩ := h
      dsimp only at q1 q2 q3 q4 q5 has
      obtain ⟨hG, hpl, hcode, hini⟩ := hP a M hPa
      have hk : (st.take k).length = k := Nat.eq_of_beq_eq_true q1
      have hfr1 : 1 ≤ fr := Nat.le_of_ble_eq_true q2
      have hlo1 : wt (st.drop k) + (M.2.2.1 + 11) ≤ lo := Nat.le_of_ble_eq_true q3
      have hsize : (ar ρ ls).size = c.maxLocals := by rw [hml]; simpa [ar] using Nat.eq_of_beq_eq_true q4
      have hM := met_of hR hpl hS [] ({ frames := fr - 1, cells := r.2.2.1, slots := r.2.2.2, locals := lo - (wt (st.drop k) + (M.2.2.1 + 11)) } : Room) rfl rfl (Nat.le_refl _) (Nat.le_refl _)
      have hK := fun len => backOf (p := p) (e := e) (below := below) (s := s) (args := args) (R := R) (len := len) (W := wt (st.drop k)) (rm := ({ frames := fr - 1, cells := r.2.2.1, slots := r.2.2.2, locals := lo - (wt (st.drop k) + (M.2.2.1 + 11)) } : Room)) hM hZ hcode hini (by show fr - 1 + 1 ≤ _; omega) (by show wt (st.drop k) + (M.2.2.1 + 11) + (lo - (wt (st.drop k) + (M.2.2.1 + 11))) ≤ _; omega)
      have hWt : 2 * 0 + ((((st.drop k).map (rl ρ)).map fun v => v.category).sum) ≤ wt (st.drop k) := by rw [wt_rl]; omega
      have hstk : st.map (rl ρ) = ((as.map (rl ρ)).reverse) ++ (st.drop k).map (rl ρ) := by
        rw [← has, ← List.map_reverse, List.reverse_reverse, ← List.map_append, List.take_append_drop]
      have hal : as.length = k := by rw [← has]; simpa using hk
      cases i
      case invokestatic idx =>
        have hw' : ∀ w ∈ [Cond.methodLink x.cls idx M.1, Cond.static M.1], w.before a0 Z = true := fun w hm => hw w (by simp only [need, hPa]; exact hm)
        have hsd' : (notMH M.1.cls && arity M.1.desc k) = true := by simpa [side, hPa] using hsd
        obtain ⟨s1, s2⟩ := Bool.and_eq_true_iff.mp hsd'
        obtain ⟨v, vm₁, ⟨T1, L1, k1, n1⟩, -, X', ⟨L, ⟨hv, N, hS', hsz⟩, e1, e2, e3⟩, st'⟩ := Jvm.LawKit.callS X hx (y := M.1) hown (mvT hZ (hw' _ (by simp))) (mvT hZ (hw' _ (by simp))) (mvT hZ hini) (mvT hZ hcode) (notMH_ok s1) (hK 3) (g := fm ρ m (pc, ls, st)) rfl hsize (argsL := as.map (rl ρ)) (rest := (st.drop k).map (rl ρ)) (arity_ok s2 (by simpa using hal)) hstk hWt hd (fun _ _ => ⟨rfl, rfl, hc, hs⟩)
        dsimp only [Pt.U, Pt.locs, Pt.cells, Pt.slots] at X' e1 e2 e3 st' hS' hsz
        subst e1 e2 e3 hv
        exact ⟨T1, L, X', N, hS', hsz, fun target hr => st' target (by rw [toList_map]; exact hr)⟩
      case invokespecial idx =>
        unfold recvOk at q5
        rw [has] at q5
        dsimp only at q5
        split at q5
        · rename_i o as'
          have hc0 := Nat.eq_of_beq_eq_true q5
          subst hc0
          have hw' : ∀ w ∈ [Cond.methodLink x.cls idx M.1, Cond.instanceMethod M.1], w.before a0 Z = true := fun w hm => hw w (by simp only [need, hPa]; exact hm)
          have hsd' : (notMH M.1.cls && arity M.1.desc (k - 1) && M.1.name == "<init>" && decide (M.2.2.2.1 = none)) = true := by simpa [side, hPa] using hsd
          obtain ⟨s1, s4⟩ := Bool.and_eq_true_iff.mp hsd'
          obtain ⟨s1, s3⟩ := Bool.and_eq_true_iff.mp s1
          obtain ⟨s1, s2⟩ := Bool.and_eq_true_iff.mp s1
          have hret : M.2.2.2.1 = none := of_decide_eq_true s4
          have hcode' := hcode
          rw [hret] at hcode'
          obtain ⟨v, vm₁, ⟨T1, L1, k1, n1⟩, -, X', ⟨L, ⟨hv, N, hS', hsz⟩, e1, e2, e3⟩, st'⟩ := X.specialBack hx (y := M.1) (by simpa using s3) hown (mvT hZ (hw' _ (by simp))) (mvT hZ (hw' _ (by simp))) (mvT hZ hcode') (notMH_ok s1) (hK 3) (g := fm ρ m (pc, ls, st)) rfl hsize (Steps.refl _) (a := ρ.1 o) (argsL := as'.map (rl ρ)) (rest := (st.drop k).map (rl ρ)) (arity_ok s2 (by simp at hal ⊢; omega)) (by rw [show (fm ρ m (pc, ls, st)).stack = st.map (rl ρ) from rfl, hstk]; simp [rl]) hWt hd (fun _ _ => ⟨rfl, rfl, hc, hs⟩)
          dsimp only [Pt.U, Pt.locs, Pt.cells, Pt.slots] at X' e1 e2 e3 st' hS' hsz
          subst e1 e2 e3 hv
          exact ⟨T1, L, X', N, hS', hsz, fun target hr => st'.trans (by rw [toList_map]; exact hr)⟩
        · cases q5
      case invokevirtual idx =>
        unfold recvOk at q5
        rw [has] at q5
        dsimp only at q5
        split at q5
        · rename_i o as'
          split at q5
          · rename_i C fs qo
            have hc0 := Nat.eq_of_beq_eq_true q5
            subst hc0
            obtain ⟨E, -⟩ := hS.2.2.1 _ _ (getO_inv qo)
            have hw' : ∀ w ∈ [Cond.methodLink x.cls idx M.1, Cond.declares M.1, Cond.selects (CN C) M.1 M.1, Cond.instanceMethod M.1], w.before a0 Z = true := fun w hm => hw w (by simp only [need, hPa]; exact hm)
            have hsd' : (notMH M.1.cls && arity M.1.desc (k - 1)) = true := by simpa [side, hPa] using hsd
            obtain ⟨s1, s2⟩ := Bool.and_eq_true_iff.mp hsd'
            obtain ⟨cq, kq, qa, qb, qc⟩ := isOf hZ (T := T) rfl E
            obtain ⟨v, vm₁, ⟨T1, L1, k1, n1⟩, -, X', ⟨L, ⟨hv, N, hS', hsz⟩, e1, e2, e3⟩, st'⟩ := X.virtualBack hx (y := M.1) (z := M.1) hown (mvT hZ (hw' _ (by simp))) (mvT hZ (hw' _ (by simp))) (notFace_of_selects (args := #[]) (C := CN C) (mvT hZ (hw' _ (by simp)))) (mvT hZ (hw' (Cond.selects (CN C) M.1 M.1) (by simp))) (mvT hZ (hw' _ (by simp))) (notMH_ok s1) (hK 3) qa qc (g := fm ρ m (pc, ls, st)) rfl hsize (Steps.refl _) (argsL := as'.map (rl ρ)) (rest := (st.drop k).map (rl ρ)) (arity_ok s2 (by simp at hal ⊢; omega)) (by rw [show (fm ρ m (pc, ls, st)).stack = st.map (rl ρ) from rfl, hstk]; simp [rl]) hWt hd (fun _ _ => ⟨rfl, rfl, hc, hs⟩)
            dsimp only [Pt.U, Pt.locs, Pt.cells, Pt.slots] at X' e1 e2 e3 st' hS' hsz
            subst e1 e2 e3 hv
            exact ⟨T1, L, X', N, hS', hsz, fun target hr => st'.trans (by rw [toList_map]; exact hr)⟩
          · cases q5
        · cases q5
      case invokeinterface idx cnt =>
        unfold recvOk at q5
        rw [has] at q5
        dsimp only at q5
        split at q5
        · rename_i o as'
          split at q5
          · rename_i C fs qo
            have hc0 := Nat.eq_of_beq_eq_true q5
            subst hc0
            obtain ⟨E, -⟩ := hS.2.2.1 _ _ (getO_inv qo)
            cases v with
            | retAddr r0 =>
              have hw' : ∀ w ∈ [Cond.methodLink x.cls idx (MN r0), Cond.declares (MN r0), Cond.interfaceMethod (MN r0).cls (MN r0).cls (MN r0).name (MN r0).desc, Cond.selects (CN C) (MN r0) M.1, Cond.instanceMethod M.1, Cond.publicMethod M.1, Cond.unhidden (CN C) (MN r0).name (MN r0).desc, Cond.castable (CN C) (MN r0).cls], w.before a0 Z = true := fun w hm => hw w (by simp only [need, hPa]; exact hm)
              have hsd' : (notMH (MN r0).cls && arity (MN r0).desc (k - 1)) = true := by simpa [side] using hsd
              obtain ⟨s1, s2⟩ := Bool.and_eq_true_iff.mp hsd'
              obtain ⟨cq, kq, qa, qb, qc⟩ := isOf hZ (T := T) rfl E
              obtain ⟨v, vm₁, ⟨T1, L1, k1, n1⟩, -, X', ⟨L, ⟨hv, N, hS', hsz⟩, e1, e2, e3⟩, st'⟩ := X.interfaceBack hx (C := CN C) (xi := MN r0) (y := M.1) hown (mvT hZ (hw' (Cond.methodLink x.cls idx (MN r0)) (by simp))) (mvT hZ (hw' (Cond.declares (MN r0)) (by simp))) (mvT hZ (hw' (Cond.interfaceMethod (MN r0).cls (MN r0).cls (MN r0).name (MN r0).desc) (by simp)) (hd := by simpa [Cond.onTables, Cond.keepsFace, Cond.keeps, Cond.steady, Cond.faceAtom] using notMH_ok s1)) (mvT hZ (hw' (Cond.selects (CN C) (MN r0) M.1) (by simp))) (mvT hZ (hw' (Cond.instanceMethod M.1) (by simp))) (mvT hZ (hw' (Cond.publicMethod M.1) (by simp))) (mvT hZ (hw' (Cond.unhidden (CN C) (MN r0).name (MN r0).desc) (by simp))) (mvT hZ (hw' (Cond.castable (CN C) (MN r0).cls) (by simp))) (notMH_ok s1) (hK 5) qa qb qc (g := fm ρ m (pc, ls, st)) rfl hsize (Steps.refl _) (argsL := as'.map (rl ρ)) (rest := (st.drop k).map (rl ρ)) (arity_ok s2 (by simp at hal ⊢; omega)) (by rw [show (fm ρ m (pc, ls, st)).stack = st.map (rl ρ) from rfl, hstk]; simp [rl]) hWt hd (fun _ _ => ⟨rfl, rfl, hc, hs⟩)
              dsimp only [Pt.U, Pt.locs, Pt.cells, Pt.slots] at X' e1 e2 e3 st' hS' hsz
              subst e1 e2 e3 hv
              exact ⟨T1, L, X', N, hS', hsz, fun target hr => st'.trans (by rw [toList_map]; exact hr)⟩
            | _ => exact absurd hsd (by simp [side])
          · cases q5
        · cases q5
      all_goals exact absurd (show false = true from q5) (by simp)
    · cases h

theorem exec_ok (hρ1 : ∀ i, b ≤ i → ρ.1 i = n0 + (i - b)) (hρ0 : ∀ i, i < b → ρ.1 i < n0) (hD : ∀ i j, D i j = true → ρ.1 i ≠ ρ.1 j) (hCT : ∀ C F, CT C = some F → ClsOk Z a0 K CN C F)
    (hNI : ∀ C k, NI C k = true → ∃ c t, Z.vm.findClass (CN C) = some c ∧ Z.vm.findClass (CN k) = some t ∧ Z.vm.assignable c t = false) (hP : GoodP Z a0 P K CN MN) (hTB : TbOk ρ TB) :
    ∀ (n fr lo : Nat) (M : Meth) (cf : Cfg) (r : Res), GoodM Z a0 P K CN MN M → exec (P, b, S, CT, D, NI, TB) n fr lo M cf = some r → Runs l Z ρ K CN b n0 S fr lo M cf r
  | 0, _, _, _, _, _, _, h => by cases h
  | n + 1, fr, lo, M, ⟨⟨pc, ls, st⟩, H, cells, slots⟩, r, hG, h => by

    intro p e R s m args below meth c T locs X hx hZ hown hnm hby hml hret hfr hlo hrc hrs N hS hsz
    have ih := exec_ok hρ1 hρ0 hD hCT hNI hP hTB n
    have h' : body (P, b, S, CT, D, NI, TB) (exec (P, b, S, CT, D, NI, TB) n) fr lo M ((pc, ls, st), H, cells, slots) = some r := h
    unfold body at h'
    dsimp only at h' X hS hsz
    split at h'
    · cases h'
    · rename_i i a k cc v hf
      obtain ⟨hd0, hw, hsd⟩ := hG _ _ hf
      have hd : decode c.code pc = .ok (i, ilen i) := by rw [hby]; exact hd0
      split at h'
      · rename_i f' hstep
        obtain ⟨T', L', X', N', hS', hsz', hv, st'⟩ := ih _ _ _ _ _ hG h' _ _ _ _ _ _ _ _ _ _ _ X hx hZ hown hnm hby hml hret hfr hlo hrc hrs N hS hsz
        refine ⟨T', L', X', N', hS', hsz', hv, fun fs hl => pstep_ok X hx hown hD hd (fun k' x' e1 e2 => ?_) (fun k' x' e1 e2 => ?_) hstep _ (st' fs hl)⟩
        · subst e1 e2; exact mvT hZ (hw _ (by simp [need]))
        · subst e1 e2; exact mvT hZ (hw _ (by simp [need]))
      · split at h'
        · rename_i f' hstep
          obtain ⟨T', L', X', N', hS', hsz', hv, st'⟩ := ih _ _ _ _ _ hG h' _ _ _ _ _ _ _ _ _ _ _ X hx hZ hown hnm hby hml hret hfr hlo hrc hrs N hS hsz
          exact ⟨T', L', X', N', hS', hsz', hv, fun fs hl => tstep_ok hTB X hx hd hstep _ (st' fs hl)⟩
        · split at h'
          · rename_i f' H' hstep
            obtain ⟨T1, L1, X1, N1, hS1, hsz1, st1⟩ := hstep_ok hρ1 hρ0 hCT hNI X hx hZ hown hnm hw hsd hd N hS hstep
            obtain ⟨T', L', X', N', hS', hsz', hv, st'⟩ := ih _ _ _ _ _ hG h' _ _ _ _ _ _ _ _ _ _ _ X1 hx hZ hown hnm hby hml hret hfr hlo hrc hrs N1 hS1 (hsz1.trans hsz)
            exact ⟨T', L', X', N', hS', hsz', hv, fun fs hl => st1 _ (st' fs hl)⟩
          · split at h'
            · rename_i v' hstep
              cases h'
              obtain ⟨q1, q2⟩ := rstep_ok (ρ := ρ) (ls := ls) X hx hret hd hstep
              exact ⟨T, locs, X, N, hS, hsz, q1, q2⟩
            · split at h'
              · rename_i f' H' ds hstep
                have hm := exec_mono _ _ _ _ _ _ h'
                dsimp only at hm
                obtain ⟨T1, X1, hS1, hsz1, st1⟩ := astep_ok hρ1 hCT X hx hZ hown hw hd hS hsz hstep (Nat.le_trans hm.1 hrc) (Nat.le_trans hm.2 hrs)
                obtain ⟨T', L', X', N', hS', hsz', hv, st'⟩ := ih _ _ _ _ _ hG h' _ _ _ _ _ _ _ _ _ _ _ X1 hx hZ hown hnm hby hml hret hfr hlo hrc hrs N hS1 hsz1
                exact ⟨T', L', X', N', hS', hsz', hv, fun fs hl => st1 _ (st' fs hl)⟩
              · split at h'
                · rename_i f' hstep
                  obtain ⟨T1, L1, X1, N1, hS1, hsz1, st1⟩ := istep_ok X hx hZ hown hml hfr hlo hw hd N hS hstep
                  obtain ⟨T', L', X', N', hS', hsz', hv, st'⟩ := ih _ _ _ _ _ hG h' _ _ _ _ _ _ _ _ _ _ _ X1 hx hZ hown hnm hby hml hret hfr hlo hrc hrs N1 hS1 (hsz1.trans hsz)
                  exact ⟨T', L', X', N', hS', hsz', hv, fun fs hl => st1 _ (st' fs hl)⟩
                · split at h'
                  · rename_i M' fr' lo' as rest hcal
                    split at h'
                    · rename_i r' H' c' s' hrun
                      have hm := exec_mono _ _ _ _ _ _ h'
                      dsimp only at hm
                      have hG' : GoodM Z a0 P K CN MN M' := by
                        unfold callee at hcal
                        split at hcal
                        · cases hcal
                        · rename_i M2 hPa
                          split at hcal
                          · cases hcal; exact (hP _ _ hPa).1
                          · cases hcal
                      have hrun' := ih _ _ _ _ _ hG' hrun
                      obtain ⟨T1, L1, X1, N1, hS1, hsz1, st1⟩ := call_ok hP X hx hZ hown hml hfr hlo hw hsd hd hS hcal hrun' (Nat.le_trans hm.1 hrc) (Nat.le_trans hm.2 hrs)
                      obtain ⟨T', L', X', N', hS', hsz', hv, st'⟩ := ih _ _ _ _ _ hG h' _ _ _ _ _ _ _ _ _ _ _ X1 hx hZ hown hnm hby hml hret hfr hlo hrc hrs (Fr.app N N1) hS1 (by rw [hsz1, hsz]; exact Nat.add_assoc ..)
                      exact ⟨T', L', X', N', hS', hsz', hv, fun fs hl => st1 _ (st' fs hl)⟩
                    · cases h'
                  · cases h'
end Exec
end Jvm.Eng
namespace Jvm.Eng
open Jvm Jvm.ClassFile Sem Op Lib Jvm.Free Jvm.Stand Jvm.LawKit Jvm.RoadKit
/-! ### a program's rows, and that the sheet's words pay them -/
def lf (pc : Nat) (r : Row) : Nat → Option Row := fun q => match Nat.beq q pc with | true => some r | false => none
def nd (k : Nat) (A B : Nat → Option Row) : Nat → Option Row := fun q => match Nat.ble k q with | true => B q | false => A q
def upTo (n : Nat) (A : Nat → Option Row) : Nat → Option Row := fun q => match Nat.ble n q with | true => none | false => A q
def chk1 (P : Nat → Option Meth) (K : Nat → String × String × String) (CN : Nat → String) (MN : Nat → MethodName) (tb : List Cond) (M : Meth) (q : Nat) : Bool :=
  match M.2.2.2.2 q with
  | none => true
  | some r => decide (decode M.2.1 q = .ok (r.1, ilen r.1)) && ((need P K CN MN M.1.cls r).all (fun w => decide (w ∈ tb)) && side P K MN M.1 r)
def chk (P : Nat → Option Meth) (K : Nat → String × String × String) (CN : Nat → String) (MN : Nat → MethodName) (tb : List Cond) (n : Nat) (M : Meth) : Bool := (List.range n).all (chk1 P K CN MN tb M)
section Checks
variable {Z : State} {a0 : Array Value} {tb : List Cond} {P : Nat → Option Meth} {K : Nat → String × String × String} {CN : Nat → String} {MN : Nat → MethodName}
theorem good_of (hw : ∀ d ∈ tb, d.before a0 Z = true) {n : Nat} {M : Meth} (h : chk P K CN MN tb n M = true) {t : Nat → Option Row} (hM : M.2.2.2.2 = upTo n t) : GoodM Z a0 P K CN MN M := by
  intro pc r hr
  have hlt : pc < n := by
    rw [hM] at hr
    unfold upTo at hr
    split at hr
    · cases hr
    · rename_i q; exact Nat.lt_of_not_le fun z => by rw [Nat.ble_eq_true_of_le z] at q; cases q
  have h1 := List.all_eq_true.mp h pc (List.mem_range.mpr hlt)
  unfold chk1 at h1
  rw [hr] at h1
  dsimp only at h1
  obtain ⟨q1, q2⟩ := Bool.and_eq_true_iff.mp h1
  obtain ⟨q2, q3⟩ := Bool.and_eq_true_iff.mp q2
  exact ⟨of_decide_eq_true q1, fun w hm => hw w (of_decide_eq_true (List.all_eq_true.mp q2 w hm)), q3⟩
def clsChk (K : Nat → String × String × String) (CN : Nat → String) (tb : List Cond) (C : Nat) (F : Fls) : Bool :=
  decide (Cond.instantiable (CN C) F.1 ∈ tb) && decide (Cond.initialized (CN C) ∈ tb) &&
  (F.2.all fun q => decide ((if q.2.2 = true then Cond.laysFinal (CN C) (K q.1).1 (K q.1).2.1 (K q.1).2.2 else Cond.lays (CN C) (K q.1).1 (K q.1).2.1 (K q.1).2.2) ∈ tb) &&
    (match parseFieldDescriptor (K q.1).2.2 with | some ty => decide (defaultValue ty = q.2.1) && (decide (ty = .int) || decide (ty = .long) || ty.isReference) | none => false)) &&
  F.2.all fun q => F.2.all fun q' => decide (q.1 = q'.1) || decide ((K q.1).2.1 ≠ (K q'.1).2.1)
theorem cls_of (hw : ∀ d ∈ tb, d.before a0 Z = true) {C : Nat} {F : Fls} (h : clsChk K CN tb C F = true) : ClsOk Z a0 K CN C F := by
  unfold clsChk at h
  obtain ⟨h, h4⟩ := Bool.and_eq_true_iff.mp h
  obtain ⟨h, h3⟩ := Bool.and_eq_true_iff.mp h
  obtain ⟨h1, h2⟩ := Bool.and_eq_true_iff.mp h
  refine ⟨hw _ (of_decide_eq_true h1), hw _ (of_decide_eq_true h2), fun q hq => ?_, fun q hq q' hq' ne => ?_⟩
  · have w := List.all_eq_true.mp h3 q hq
    obtain ⟨w1, w2⟩ := Bool.and_eq_true_iff.mp w
    refine ⟨?_, ?_⟩
    · have w3 := hw _ (of_decide_eq_true w1)
      split
      · rename_i e; rw [if_pos e] at w3; exact w3
      · rename_i e; rw [if_neg e] at w3; exact w3
    · split at w2
      · rename_i ty e
        obtain ⟨v1, v2⟩ := Bool.and_eq_true_iff.mp w2
        refine ⟨ty, e, of_decide_eq_true v1, ?_⟩
        rcases Bool.or_eq_true_iff.mp v2 with v2 | v2
        · rcases Bool.or_eq_true_iff.mp v2 with v2 | v2
          · exact Or.inl (of_decide_eq_true v2)
          · exact Or.inr (Or.inl (of_decide_eq_true v2))
        · exact Or.inr (Or.inr v2)
      · cases w2
  · have w := List.all_eq_true.mp (List.all_eq_true.mp h4 q hq) q' hq'
    rcases Bool.or_eq_true_iff.mp w with w | w
    · exact absurd (of_decide_eq_true w) ne
    · exact of_decide_eq_true w
theorem code_of (hw : ∀ d ∈ tb, d.before a0 Z = true) {M : Meth} (h : (decide (Cond.code M.1 M.2.1 M.2.2.1 M.2.2.2.1 ∈ tb) && decide (Cond.initialized M.1.cls ∈ tb)) = true) : (Cond.code M.1 M.2.1 M.2.2.1 M.2.2.2.1).before a0 Z = true ∧ (Cond.initialized M.1.cls).before a0 Z = true := by
  obtain ⟨h1, h2⟩ := Bool.and_eq_true_iff.mp h
  exact ⟨hw _ (of_decide_eq_true h1), hw _ (of_decide_eq_true h2)⟩
end Checks

/-! ### running by hand -/
section Reach
variable {G : Cx}
/-- one step that is no call and no return -/
def next (G : Cx) (fr lo : Nat) (M : Meth) (cf : Cfg) : Option Cfg :=
  match M.2.2.2.2 cf.1.1 with
  | none => none
  | some (i, a, k, c, v) =>
    match pstep G.2.2.2.2.1 i v cf.1 with
    | some f' => some (f', cf.2)
    | none =>
     match tstep G.2.2.2.2.2.2 i cf.1 with
     | some f' => some (f', cf.2)
     | none =>
      match hstep G.2.1 G.2.2.1 G.2.2.2.1 G.2.2.2.2.2.1 i a k c cf.1 cf.2.1 with
      | some (f', H') => some (f', H', cf.2.2)
      | none =>
        match rstep M.2.2.2.1 i cf.1.2.2 with
        | some _ => none
        | none =>
          match astep G.2.2.2.1 i c cf.1 cf.2.1 with
          | some (f', H', ds) => some (f', H', cf.2.2.1 + 1, cf.2.2.2 + ds)
          | none =>
            match istep M.2.2.1 fr lo i c cf.1 with
            | some f' => some (f', cf.2)
            | none => none
def runK (G : Cx) (fr lo : Nat) (M : Meth) : Nat → Cfg → Option Cfg
  | 0, cf => some cf
  | n + 1, cf => match next G fr lo M cf with
    | some cf' => runK G fr lo M n cf'
    | none => none
def Rch (G : Cx) (fr lo : Nat) (M : Meth) (cf : Cfg) (r : Res) : Prop := ∃ n, exec G n fr lo M cf = some r

theorem exec_more : ∀ (n fr lo : Nat) (M : Meth) (cf : Cfg) (r : Res), exec G n fr lo M cf = some r → exec G (n + 1) fr lo M cf = some r
  | 0, _, _, _, _, _, h => by cases h
  | n + 1, fr, lo, M, cf, r, h => by
    have h' : body G (exec G n) fr lo M cf = some r := h
    show body G (exec G (n + 1)) fr lo M cf = some r
    unfold body at h' ⊢
    split at h'
    · cases h'
    · rename_i q0
      
      split at h'
      · rename_i q1; exact exec_more n _ _ _ _ _ h'
      · rename_i q1
        split at h'
        · rename_i q2; exact exec_more n _ _ _ _ _ h'
        · rename_i q2
          split at h'
          · rename_i q3; exact exec_more n _ _ _ _ _ h'
          · rename_i q3
            split at h'
            · rename_i q4; exact h'
            · rename_i q4
              split at h'
              · rename_i q5; exact exec_more n _ _ _ _ _ h'
              · rename_i q5
                split at h'
                · rename_i q6; exact exec_more n _ _ _ _ _ h'
                · rename_i q6
                  split at h'
                  · rename_i q7
                    split at h'
                    · rename_i q8; simp only [exec_more n _ _ _ _ _ q8]; exact exec_more n _ _ _ _ _ h'
                    · cases h'
                  · cases h'
theorem exec_add (k : Nat) {n fr lo : Nat} {M : Meth} {cf : Cfg} {r : Res} (h : exec G n fr lo M cf = some r) : exec G (n + k) fr lo M cf = some r := by
  induction k with
  | zero => exact h
  | succ k ih => exact exec_more _ _ _ _ _ _ ih
theorem next_exec {n fr lo : Nat} {M : Meth} {cf cf' : Cfg} (h : next G fr lo M cf = some cf') : exec G (n + 1) fr lo M cf = exec G n fr lo M cf' := by
  show body G (exec G n) fr lo M cf = _
  unfold next at h
  unfold body
  split at h
  · cases h
  · rename_i q0
    (try simp only [q0])
    split at h
    · rename_i q1; (try simp only [q1]); cases h; rfl
    · rename_i q1; (try simp only [q1])
      split at h
      · rename_i q2; (try simp only [q2]); cases h; rfl
      · rename_i q2; (try simp only [q2])
        split at h
        · rename_i q3; (try simp only [q3]); cases h; rfl
        · rename_i q3; (try simp only [q3])
          split at h
          · cases h
          · rename_i q4; (try simp only [q4])
            split at h
            · rename_i q5; (try simp only [q5]); cases h; rfl
            · rename_i q5; (try simp only [q5])
              split at h
              · rename_i q6; (try simp only [q6]); cases h; rfl
              · cases h
theorem Rch.step1 {fr lo : Nat} {M : Meth} {cf cf' : Cfg} {r : Res} (h : next G fr lo M cf = some cf') (hr : Rch G fr lo M cf' r) : Rch G fr lo M cf r := by
  obtain ⟨n, hn⟩ := hr
  exact ⟨n + 1, by rw [next_exec h]; exact hn⟩
theorem Rch.run {fr lo : Nat} {M : Meth} (k : Nat) {cf cf' : Cfg} {r : Res} (h : runK G fr lo M k cf = some cf') (hr : Rch G fr lo M cf' r) : Rch G fr lo M cf r := by
  induction k generalizing cf with
  | zero => cases h; exact hr
  | succ k ih =>
    have h' : (match next G fr lo M cf with | some cf' => runK G fr lo M k cf' | none => none) = some cf' := h
    split at h'
    · rename_i q; exact Rch.step1 q (ih h')
    · cases h'
theorem Rch.ret {fr lo : Nat} {M : Meth} {cf : Cfg} {r : Res} (h : exec G 1 fr lo M cf = some r) : Rch G fr lo M cf r := ⟨1, h⟩
theorem Rch.call {fr lo fr' lo' i a k c pc cells slots c' s' : Nat} {ins : Instr} {v : Value} {M M' : Meth} {ls : List Slot} {st as rest : List Value} {H H' : List Obj} {r : Res} {w : Option Value} (hf : M.2.2.2.2 pc = some (ins, a, k, c, v)) (hp : pstep G.2.2.2.2.1 ins v (pc, ls, st) = none) (ht : tstep G.2.2.2.2.2.2 ins (pc, ls, st) = none) (hh : hstep G.2.1 G.2.2.1 G.2.2.2.1 G.2.2.2.2.2.1 ins a k c (pc, ls, st) H = none) (hr0 : rstep M.2.2.2.1 ins st = none) (ha : astep G.2.2.2.1 ins c (pc, ls, st) H = none)
    (hi : istep M.2.2.1 fr lo ins c (pc, ls, st) = none) (hc : callee G.1 M.2.2.1 fr lo ins a k c (pc, ls, st) H = some (M', fr', lo', as, rest)) (hcall : Rch G fr' lo' M' ((0, entL as M'.2.2.1, []), H, 0, 0) (w, H', c', s'))
    (hr : Rch G fr lo M ((pc + ilen ins, ls, w.toList ++ rest), H', cells + c', slots + s') r) : Rch G fr lo M ((pc, ls, st), H, cells, slots) r := by
  obtain ⟨n1, h1⟩ := hcall
  obtain ⟨n2, h2⟩ := hr
  have h1' := exec_add n2 h1
  have h2' := exec_add n1 h2
  rw [Nat.add_comm n2 n1] at h2'
  refine ⟨n1 + n2 + 1, ?_⟩
  show body G (exec G (n1 + n2)) fr lo M ((pc, ls, st), H, cells, slots) = some r
  unfold body
  simp only [hf, hp, ht, hh, hr0, ha, hi, hc, h1']
  exact h2'
end Reach
end Jvm.Eng
namespace Jvm.Eng
open Jvm Jvm.ClassFile Sem Op Lib Jvm.Free Jvm.Stand Jvm.LawKit Jvm.RoadKit
section Walk
variable {G : Cx} {fr lo : Nat} {M : Meth} {Q : Res → Prop} {cf : Cfg}
/-- the machine ends, and Q holds of what it leaves -/
def EW (G : Cx) (fr lo : Nat) (M : Meth) (Q : Res → Prop) (cf : Cfg) : Prop := ∃ r, Rch G fr lo M cf r ∧ Q r
theorem EW.run (k : Nat) {cf' : Cfg} (h : runK G fr lo M k cf = some cf') (hr : EW G fr lo M Q cf') : EW G fr lo M Q cf := by
  obtain ⟨r, h1, h2⟩ := hr; exact ⟨r, h1.run k h, h2⟩
theorem EW.ret {r : Res} (h : exec G 1 fr lo M cf = some r) (q : Q r) : EW G fr lo M Q cf := ⟨r, Rch.ret h, q⟩
theorem EW.all (n : Nat) {r : Res} (h : exec G n fr lo M cf = some r) (q : Q r) : EW G fr lo M Q cf := ⟨r, ⟨n, h⟩, q⟩
theorem EW.mono {Q' : Res → Prop} (h : EW G fr lo M Q cf) (q : ∀ r, Q r → Q' r) : EW G fr lo M Q' cf := by
  obtain ⟨r, h1, h2⟩ := h; exact ⟨r, h1, q r h2⟩
/-- a branch on two ints -/
theorem EW.icmp {pc : Nat} {ls : List Slot} {st : List Value} {H : List Obj × Nat × Nat} {cd : ClassFile.Cond} {o : Int} {a k c : Nat} {v : Value} {x y : Int32} (hf : M.2.2.2.2 pc = some (.if_icmp cd o, a, k, c, v)) (ho : 0 ≤ (pc : Int) + o)
    (h1 : if_icmp.holds cd x y = true → EW G fr lo M Q ((((pc : Int) + o).toNat, ls, st), H)) (h2 : if_icmp.holds cd x y = false → EW G fr lo M Q ((pc + 3, ls, st), H)) : EW G fr lo M Q ((pc, ls, .int y :: .int x :: st), H) := by
  cases hc : if_icmp.holds cd x y with
  | true =>
    refine EW.run 1 ?_ (h1 hc)
    show (match next G fr lo M ((pc, ls, .int y :: .int x :: st), H) with | some cf' => runK G fr lo M 0 cf' | none => none) = _
    have : next G fr lo M ((pc, ls, .int y :: .int x :: st), H) = some ((((pc : Int) + o).toNat, ls, st), H) := by
      unfold next
      simp only [hf, pstep, pIcmp, br, hc, ho, if_true]
    rw [this]; rfl
  | false =>
    refine EW.run 1 ?_ (h2 hc)
    show (match next G fr lo M ((pc, ls, .int y :: .int x :: st), H) with | some cf' => runK G fr lo M 0 cf' | none => none) = _
    have : next G fr lo M ((pc, ls, .int y :: .int x :: st), H) = some ((pc + 3, ls, st), H) := by
      unfold next
      simp only [hf, pstep, pIcmp, br, hc]
    rw [this]; rfl
theorem EW.ifc {pc : Nat} {ls : List Slot} {st : List Value} {H : List Obj × Nat × Nat} {cd : ClassFile.Cond} {o : Int} {a k c : Nat} {v : Value} {x : Int32} (hf : M.2.2.2.2 pc = some (.ifCond cd o, a, k, c, v)) (ho : 0 ≤ (pc : Int) + o)
    (h1 : ifCond.holds cd x = true → EW G fr lo M Q ((((pc : Int) + o).toNat, ls, st), H)) (h2 : ifCond.holds cd x = false → EW G fr lo M Q ((pc + 3, ls, st), H)) : EW G fr lo M Q ((pc, ls, .int x :: st), H) := by
  cases hc : ifCond.holds cd x with
  | true =>
    refine EW.run 1 ?_ (h1 hc)
    show (match next G fr lo M ((pc, ls, .int x :: st), H) with | some cf' => runK G fr lo M 0 cf' | none => none) = _
    have : next G fr lo M ((pc, ls, .int x :: st), H) = some ((((pc : Int) + o).toNat, ls, st), H) := by
      unfold next
      simp only [hf, pstep, pIf, br, hc, ho, if_true]
    rw [this]; rfl
  | false =>
    refine EW.run 1 ?_ (h2 hc)
    show (match next G fr lo M ((pc, ls, .int x :: st), H) with | some cf' => runK G fr lo M 0 cf' | none => none) = _
    have : next G fr lo M ((pc, ls, .int x :: st), H) = some ((pc + 3, ls, st), H) := by
      unfold next
      simp only [hf, pstep, pIf, br, hc]
    rw [this]; rfl
/-- a branch's condition in plain integers -/
def cP : ClassFile.Cond → Int → Int → Prop
  | .eq, x, y => x = y
  | .ne, x, y => x ≠ y
  | .lt, x, y => x < y
  | .ge, x, y => y ≤ x
  | .gt, x, y => y < x
  | .le, x, y => x ≤ y
theorem cP_t {cd : ClassFile.Cond} {x y : Int32} (h : if_icmp.holds cd x y = true) : cP cd x.toInt y.toInt := by
  cases cd <;> simp [if_icmp.holds, Int32.lt_iff_toInt_lt, Int32.le_iff_toInt_le, ← Int32.toInt_inj] at h <;> exact h
theorem cP_f {cd : ClassFile.Cond} {x y : Int32} (h : if_icmp.holds cd x y = false) : ¬ cP cd x.toInt y.toInt := by
  cases cd <;> simp [if_icmp.holds, Int32.lt_iff_toInt_lt, Int32.le_iff_toInt_le, ← Int32.toInt_inj] at h <;> simp [cP] <;> exact h
theorem cP_l (x y : Int64) (cd : ClassFile.Cond) : (ifCond.holds cd (XT.cmpL x y) = true → cP cd x.toInt y.toInt) ∧ (ifCond.holds cd (XT.cmpL x y) = false → ¬ cP cd x.toInt y.toInt) := by
  have key : (x.toInt < y.toInt ∧ XT.cmpL x y = -1) ∨ (x.toInt = y.toInt ∧ XT.cmpL x y = 0) ∨ (y.toInt < x.toInt ∧ XT.cmpL x y = 1) := by
    unfold XT.cmpL
    by_cases h1 : y < x
    · rw [if_pos h1]; exact Or.inr (Or.inr ⟨Int64.lt_iff_toInt_lt.mp h1, rfl⟩)
    · rw [if_neg h1]
      by_cases h2 : x = y
      · rw [if_pos h2]; exact Or.inr (Or.inl ⟨by rw [h2], rfl⟩)
      · rw [if_neg h2]
        refine Or.inl ⟨?_, rfl⟩
        have q1 : ¬ y.toInt < x.toInt := fun q => h1 (Int64.lt_iff_toInt_lt.mpr q)
        have q2 : ¬ x.toInt = y.toInt := fun q => h2 (Int64.toInt_inj.mp q)
        omega
  rcases key with ⟨k1, k2⟩ | ⟨k1, k2⟩ | ⟨k1, k2⟩ <;> rw [k2] <;> cases cd <;> simp [cP, ifCond.holds] <;> omega
theorem EW.icmpP {pc : Nat} {ls : List Slot} {st : List Value} {H : List Obj × Nat × Nat} {cd : ClassFile.Cond} {o : Int} {a k c : Nat} {v : Value} {x y : Int32} (hf : M.2.2.2.2 pc = some (.if_icmp cd o, a, k, c, v)) (ho : 0 ≤ (pc : Int) + o)
    (h1 : cP cd x.toInt y.toInt → EW G fr lo M Q ((((pc : Int) + o).toNat, ls, st), H)) (h2 : ¬ cP cd x.toInt y.toInt → EW G fr lo M Q ((pc + 3, ls, st), H)) : EW G fr lo M Q ((pc, ls, .int y :: .int x :: st), H) :=
  EW.icmp hf ho (fun h => h1 (cP_t h)) (fun h => h2 (cP_f h))
theorem EW.ifP {pc : Nat} {ls : List Slot} {st : List Value} {H : List Obj × Nat × Nat} {cd : ClassFile.Cond} {o : Int} {a k c : Nat} {v : Value} {x : Int32} (hf : M.2.2.2.2 pc = some (.ifCond cd o, a, k, c, v)) (ho : 0 ≤ (pc : Int) + o)
    (h1 : cP cd x.toInt 0 → EW G fr lo M Q ((((pc : Int) + o).toNat, ls, st), H)) (h2 : ¬ cP cd x.toInt 0 → EW G fr lo M Q ((pc + 3, ls, st), H)) : EW G fr lo M Q ((pc, ls, .int x :: st), H) :=
  EW.ifc hf ho (fun h => h1 (by rw [if0] at h; exact cP_t h)) (fun h => h2 (by rw [if0] at h; exact cP_f h))
theorem EW.iflP {pc : Nat} {ls : List Slot} {st : List Value} {H : List Obj × Nat × Nat} {cd : ClassFile.Cond} {o : Int} {a k c : Nat} {v : Value} {x y : Int64} (hf : M.2.2.2.2 pc = some (.ifCond cd o, a, k, c, v)) (ho : 0 ≤ (pc : Int) + o)
    (h1 : cP cd x.toInt y.toInt → EW G fr lo M Q ((((pc : Int) + o).toNat, ls, st), H)) (h2 : ¬ cP cd x.toInt y.toInt → EW G fr lo M Q ((pc + 3, ls, st), H)) : EW G fr lo M Q ((pc, ls, .int (XT.cmpL x y) :: st), H) :=
  EW.ifc hf ho (fun h => h1 ((cP_l x y cd).1 h)) (fun h => h2 ((cP_l x y cd).2 h))
/-- the call at hand -/
def cstep (G : Cx) (fr lo : Nat) (M : Meth) (cf : Cfg) : Option (Nat × Meth × Nat × Nat × List Value × List Value) :=
  match M.2.2.2.2 cf.1.1 with
  | none => none
  | some (i, a, k, c, v) =>
    match pstep G.2.2.2.2.1 i v cf.1 with
    | some _ => none
    | none =>
     match tstep G.2.2.2.2.2.2 i cf.1 with
     | some _ => none
     | none =>
      match hstep G.2.1 G.2.2.1 G.2.2.2.1 G.2.2.2.2.2.1 i a k c cf.1 cf.2.1 with
      | some _ => none
      | none =>
        match rstep M.2.2.2.1 i cf.1.2.2 with
        | some _ => none
        | none =>
          match astep G.2.2.2.1 i c cf.1 cf.2.1 with
          | some _ => none
          | none =>
            match istep M.2.2.1 fr lo i c cf.1 with
            | some _ => none
            | none => match callee G.1 M.2.2.1 fr lo i a k c cf.1 cf.2.1 with
              | some q => some (ilen i, q)
              | none => none
theorem EW.call {f : Fm} {H : List Obj} {cells slots fr' lo' n : Nat} {M' : Meth} {as rest : List Value} {Qc : Res → Prop} (h : cstep G fr lo M (f, H, cells, slots) = some (n, M', fr', lo', as, rest)) (hc : EW G fr' lo' M' Qc ((0, entL as M'.2.2.1, []), H, 0, 0))
    (hr : ∀ w H' c' s', Qc (w, H', c', s') → EW G fr lo M Q ((f.1 + n, f.2.1, w.toList ++ rest), H', cells + c', slots + s')) : EW G fr lo M Q (f, H, cells, slots) := by
  obtain ⟨⟨w, H', c', s'⟩, h1, h2⟩ := hc
  obtain ⟨r, h3, h4⟩ := hr w H' c' s' h2
  refine ⟨r, ?_, h4⟩
  unfold cstep at h
  split at h
  · cases h
  · rename_i q0
    split at h
    · cases h
    · rename_i q1
      split at h
      · cases h
      · rename_i qt
        split at h
        · cases h
        · rename_i q2
          split at h
          · cases h
          · rename_i q3
            split at h
            · cases h
            · rename_i q4
              split at h
              · cases h
              · rename_i q5
                split at h
                · rename_i q q6
                  cases h
                  exact Rch.call (i := 0) q0 q1 qt q2 q3 q4 q5 q6 h1 h3
                · cases h
end Walk
end Jvm.Eng
namespace Jvm.Eng
open Jvm Jvm.RoadKit
theorem lt_cases {E : Int32} {n : Nat} (h0 : 0 ≤ E.toInt) (h1 : E.toInt < n) : ∃ j : Nat, j < n ∧ E = Int32.ofNat j := by
  refine ⟨E.toNatClampNeg, by simp only [Int32.toNatClampNeg]; omega, ?_⟩
  have q : ¬ E < 0 := by rw [Int32.lt_iff_toInt_lt]; simp only [Int32.reduceToInt]; omega
  exact ((back32 q).1).symm
end Jvm.Eng
namespace Jvm.Eng
open Jvm Jvm.ClassFile Sem Op Lib Jvm.Free Jvm.Stand Jvm.LawKit Jvm.RoadKit
/-! ### what a case says of statics -/
section Stat
variable {Z : State} {args : Array Value}
theorem eq_out {t u : Term} {w : Value} (h : (Cond.eq t u).value args Z none Z [] = some true) (hu : u.eval args Z none [] Z = some w) (hw : (match w with | .int _ => true | .null => true | .ref _ => true | _ => false) = true := by rfl) : t.eval args Z none [] Z = some w := by
  cases ht : t.eval args Z none [] Z with
  | none => simp [Cond.value, ht] at h
  | some x => cases w <;> first | (cases hw; done) | (cases x <;> simp [Cond.value, ht, hu] at h <;> subst h <;> rfl) | (cases x <;> simp [Cond.value, ht, hu] at h <;> rfl)
theorem len_out {t : Term} {a : Addr} {c : Cell} {n : Int32} {ty : FieldType} (ev : t.eval args Z none [] Z = some (.ref a)) (A : Arr Z Z.heap a c ty) (h : (Term.length t).eval args Z none [] Z = some (.int n)) : c.slots.size < 2 ^ 31 ∧ c.slots.size.toInt32 = n := by
  have e := A.fin (U := Z) (Vm.Alike.refl _)
  by_cases q : c.slots.size < 2 ^ 31
  · refine ⟨q, ?_⟩
    rw [len_f ev e q] at h
    cases h; rfl
  · have q' : ¬ c.slots.size < 2147483648 := q
    simp [Term.eval, ev, e, q'] at h
theorem arr_out {t : Term} {a : Addr} {c : Cell} {n : Int32} {ty : FieldType} (ev : t.eval args Z none [] Z = some (.ref a)) (A : Arr Z Z.heap a c ty) (h : (Term.length t).eval args Z none [] Z = some (.int n)) (vs : List Value) (hn : n.toInt = vs.length)
    (he : ∀ j v, vs[j]? = some v → (Term.elem t (.int (Int32.ofNat j))).eval args Z none [] Z = some v) : c.slots = vs.toArray := by
  obtain ⟨h1, h2⟩ := len_out ev A h
  have hs : c.slots.size = vs.length := by
    have q : c.slots.size.toInt32.toInt = c.slots.size := len_toInt h1
    rw [h2, hn] at q
    omega
  apply Array.ext (by simpa using hs)
  intro j hj hj'
  have hv : j < vs.length := by omega
  have q := elem_in (he j _ (List.getElem?_eq_getElem hv)) ev (Term.int_eval _) A.1
  have e1 : (Int32.ofNat j).toNatClampNeg = j := by
    have q2 : (j.toInt32).toInt = j := len_toInt (by omega)
    have q3 : (Int32.ofNat j).toInt = j := q2
    simp only [Int32.toNatClampNeg, q3]; omega
  have q3 := q.2
  rw [e1, Array.getElem?_eq_getElem hj] at q3
  simpa using Option.some.inj q3
end Stat
end Jvm.Eng
namespace Jvm.Eng
open Jvm Jvm.ClassFile Sem Op Lib Jvm.Free Jvm.Stand Jvm.LawKit Jvm.RoadKit
/-! ### tables of tokens' answers, and runs by evaluation -/
def tbFind : List (Nat × Nat × Int32 × Value) → Nat → Nat → Int32 → Option Value
  | [], _, _, _ => none
  | (o', t', y', v) :: r, o, t, y => match Nat.beq o' o && Nat.beq t' t && decide (y' = y) with
    | true => some v
    | false => tbFind r o t y
def tbOf (E : List (Nat × Nat × Int32 × Value)) : Instr → Nat → Int32 → Option Value := fun i t y => match i with
  | .iand => tbFind E 0 t y
  | .iushr => tbFind E 1 t y
  | .irem => tbFind E 2 t y
  | _ => none
def entOk (ρ : Rho) (e : Nat × Nat × Int32 × Value) : Prop := (e.1 = 0 → rl ρ e.2.2.2 = .int (ρ.2 e.2.1 &&& e.2.2.1)) ∧ (e.1 = 1 → rl ρ e.2.2.2 = .int (XT.ushr (ρ.2 e.2.1) e.2.2.1)) ∧ (e.1 = 2 → e.2.2.1 ≠ 0 ∧ rl ρ e.2.2.2 = .int (ρ.2 e.2.1 % e.2.2.1))
theorem tbFind_mem {o t : Nat} {y : Int32} {v : Value} : ∀ {E : List (Nat × Nat × Int32 × Value)}, tbFind E o t y = some v → (o, t, y, v) ∈ E
  | [], h => by cases h
  | (o', t', y', v') :: r, h => by
    unfold tbFind at h
    split at h
    · rename_i q
      obtain ⟨q, q3⟩ := Bool.and_eq_true_iff.mp q
      obtain ⟨q1, q2⟩ := Bool.and_eq_true_iff.mp q
      cases h
      rw [Nat.eq_of_beq_eq_true q1, Nat.eq_of_beq_eq_true q2, of_decide_eq_true q3]
      exact List.mem_cons_self ..
    · exact List.mem_cons_of_mem _ (tbFind_mem h)
theorem tb_ok {ρ : Rho} {E : List (Nat × Nat × Int32 × Value)} (h : ∀ e ∈ E, entOk ρ e) : TbOk ρ (tbOf E) := by
  intro t y v
  refine ⟨fun q => (h _ (tbFind_mem q)).1 rfl, fun q => (h _ (tbFind_mem q)).2.1 rfl, fun q => (h _ (tbFind_mem q)).2.2 rfl⟩
theorem ent_and {ρ : Rho} {t : Nat} {y : Int32} {v : Value} (h : rl ρ v = .int (ρ.2 t &&& y)) : entOk ρ (0, t, y, v) := ⟨fun _ => h, fun q => by (cases q), fun q => by (cases q)⟩
theorem ent_ushr {ρ : Rho} {t : Nat} {y : Int32} {v : Value} (h : rl ρ v = .int (XT.ushr (ρ.2 t) y)) : entOk ρ (1, t, y, v) := ⟨fun q => by (cases q), fun _ => h, fun q => by (cases q)⟩
theorem ent_rem {ρ : Rho} {t : Nat} {y : Int32} {v : Value} (hy : y ≠ 0) (h : rl ρ v = .int (ρ.2 t % y)) : entOk ρ (2, t, y, v) := ⟨fun q => by (cases q), fun q => by (cases q), fun _ => ⟨hy, h⟩⟩
/-- a run that answers 1 within so many cells and slots -/
def okR (c s : Nat) : Option Res → Bool
  | some (some (.int z), _, c', s') => decide (z = 1) && Nat.ble c' c && Nat.ble s' s
  | _ => false
theorem okR_ok {c s : Nat} {o : Option Res} (h : okR c s o = true) : ∃ r, o = some r ∧ r.1 = some (.int 1) ∧ r.2.2.1 ≤ c ∧ r.2.2.2 ≤ s := by
  unfold okR at h
  split at h
  · rename_i z H c' s'
    obtain ⟨q, q3⟩ := Bool.and_eq_true_iff.mp h
    obtain ⟨q1, q2⟩ := Bool.and_eq_true_iff.mp q
    have e := of_decide_eq_true q1
    exact ⟨_, rfl, by rw [e], Nat.le_of_ble_eq_true q2, Nat.le_of_ble_eq_true q3⟩
  · cases h
end Jvm.Eng
namespace Jvm.Eng
open Jvm Jvm.RoadKit
theorem bit_ex (x : Int32) (k : Nat) : ∃ a : Nat, a < 2 ∧ x &&& Int32.ofNat (2 ^ k) = Int32.ofNat (2 ^ k * a) := by
  have hm : (Int32.ofNat (2 ^ k)).toBitVec = BitVec.twoPow 32 k := by
    apply BitVec.eq_of_toNat_eq
    rw [BitVec.toNat_twoPow]
    rfl
  have h : (x &&& Int32.ofNat (2 ^ k)).toBitVec = x.toBitVec &&& (Int32.ofNat (2 ^ k)).toBitVec := Int32.toBitVec_and ..
  rw [hm, BitVec.and_twoPow] at h
  split at h
  · exact ⟨1, by omega, by rw [Nat.mul_one]; exact Int32.toBitVec_inj.mp (h.trans hm.symm)⟩
  · exact ⟨0, by omega, by rw [Nat.mul_zero]; exact Int32.toBitVec_inj.mp h⟩
end Jvm.Eng
namespace Jvm.Eng
open Jvm Jvm.ClassFile Sem Op Lib Jvm.Free Jvm.Stand Jvm.LawKit Jvm.RoadKit
/-- an array's load at an index that isn't a numeral -/
theorem EW.aald {G : Cx} {fr lo : Nat} {M : Meth} {Q : Res → Prop} {pc : Nat} {ls : List Slot} {st : List Value} {H : List Obj} {n : Nat × Nat} {a k c o : Nat} {w : Value} {j : Int32} {ty : FieldType} {vs : List Value} {v : Value} (hf : M.2.2.2.2 pc = some (.aaload, a, k, c, w)) (hA : getA H o = some (ty, vs)) (ht : ty.isReference = true) (hj : ¬ j < 0) (hv : vs[j.toNatClampNeg]? = some v) (hk : kn v = true)
    (hr : EW G fr lo M Q ((pc + 1, ls, v :: st), H, n)) : EW G fr lo M Q ((pc, ls, .int j :: .ref o :: st), H, n) := by
  refine EW.run 1 ?_ hr
  show (match next G fr lo M ((pc, ls, .int j :: .ref o :: st), H, n) with | some cf' => runK G fr lo M 0 cf' | none => none) = _
  have : next G fr lo M ((pc, ls, .int j :: .ref o :: st), H, n) = some ((pc + 1, ls, v :: st), H, n) := by
    unfold next
    simp only [hf, pstep, tstep, hstep, hLd, hA, ht, hv, hk, hj, decide_false, Bool.not_false, Bool.and_self, if_true]
  rw [this]; rfl
/-- no object of the class C is one of the class K: by C's superclasses, K a class that can be instantiated -/
theorem ns_root {Z : State} {a0 : Array Value} {O K : String} {n : Nat} (w : (Cond.noSuperclass O).before a0 Z = true) (wk : (Cond.instantiable K n).before a0 Z = true) (hn : O ≠ K) : NS Z O K := by
  obtain ⟨c, k, h1, h2, h3, -, -⟩ := Cond.noSuperclass_spec w
  obtain ⟨t, kt, g1, -⟩ := Cond.instantiable_spec wk
  have ne := ids_ne h1 g1 hn
  refine ⟨c, t, h1, g1, fun fuel => ?_⟩
  cases fuel with
  | zero => rfl
  | succ f => simp [Vm.isSubclassAux, ne, h2, h3]
theorem ns_no {Z : State} {a0 : Array Value} {C S K : String} {n : Nat} (w : (Cond.superclass C S).before a0 Z = true) (wk : (Cond.instantiable K n).before a0 Z = true) (nn : NS Z C K) (hn : C ≠ K) : ∃ c t, Z.vm.findClass C = some c ∧ Z.vm.findClass K = some t ∧ Z.vm.assignable c t = false := by
  obtain ⟨c, t, h0, g0, n3⟩ := nn
  obtain ⟨p, k, kp, h1, h2, h3, h4, h5, -, h7⟩ := Cond.superclass_spec h0 w
  obtain ⟨t', k', g1, g2, g3, g4, -⟩ := Cond.instantiable_spec wk
  cases g0.symm.trans g1
  have g5 : k'.isInterface = false := by
    cases hq : k'.isInterface with
    | false => rfl
    | true => rw [hq] at g4; cases g4
  have ne := ids_ne h0 g0 hn
  refine ⟨c, t, h0, g0, ?_⟩
  show Z.vm.assignableAux (255 + 1) c t = false
  simp [Vm.assignableAux, ne, h2, g2, h5, g3, g5, Vm.isSubclass, n3]
end Jvm.Eng
namespace Jvm.Eng
open Jvm Jvm.ClassFile Sem Op Lib Jvm.Free Jvm.Stand Jvm.LawKit Jvm.RoadKit
/-! ## Compiled code: a method as one nest of small functions, and that the machine does what it says -/
abbrev Code (α : Type) : Type := List Slot → List Value → List Obj → Nat → Nat → α
section Cc
/-- the bits of an int -/
def bts (x : Int32) : Nat := x.toUInt32.toBitVec.toFin.val
def sg (x : Int32) : Nat := Nat.mod (Nat.add (bts x) 2147483648) 4294967296
def eqB (x y : Int32) : Bool := Nat.beq (bts x) (bts y)
def neB (x y : Int32) : Bool := match Nat.beq (bts x) (bts y) with | true => false | false => true
def ltB (x y : Int32) : Bool := Nat.ble (Nat.succ (sg x)) (sg y)
def geB (x y : Int32) : Bool := Nat.ble (sg y) (sg x)
def gtB (x y : Int32) : Bool := Nat.ble (Nat.succ (sg y)) (sg x)
def leB (x y : Int32) : Bool := Nat.ble (sg x) (sg y)
theorem bts_int (x : Int32) : x.toInt = if bts x < 2147483648 then (bts x : Int) else (bts x : Int) - 4294967296 := by
  show BitVec.toInt x.toBitVec = _
  rw [BitVec.toInt_eq_toNat_cond]
  show (if 2 * bts x < 2 ^ 32 then (bts x : Int) else (bts x : Int) - ((2 ^ 32 : Nat) : Int)) = _
  split <;> split <;> first | rfl | omega
theorem bts_lt (x : Int32) : bts x < 4294967296 := x.toUInt32.toBitVec.toFin.isLt
theorem bts_eq {x y : Int32} (h : bts x = bts y) : x = y := by
  apply Int32.toInt_inj.mp
  rw [bts_int, bts_int, h]
theorem sg_int (x : Int32) : (sg x : Int) = x.toInt + 2147483648 := by
  have := bts_lt x
  rw [bts_int]
  have e : sg x = (bts x + 2147483648) % 4294967296 := rfl
  rw [e]
  split <;> omega
theorem hEq (x y : Int32) : if_icmp.holds .eq x y = eqB x y := by
  show (x == y) = Nat.beq (bts x) (bts y)
  by_cases h : x = y
  · subst h; simp
  · rw [beq_eq_false_iff_ne.mpr h]
    cases hb : Nat.beq (bts x) (bts y) with
    | false => rfl
    | true => exact absurd (bts_eq (Nat.eq_of_beq_eq_true hb)) h
theorem hNe (x y : Int32) : if_icmp.holds .ne x y = neB x y := by
  have := hEq x y
  have h2 : if_icmp.holds .ne x y = !(if_icmp.holds .eq x y) := rfl
  rw [h2, this]
  unfold neB eqB
  cases Nat.beq (bts x) (bts y) <;> rfl
theorem hLt (x y : Int32) : if_icmp.holds .lt x y = ltB x y := by
  show decide (x < y) = Nat.ble (sg x + 1) (sg y)
  have h1 := sg_int x; have h2 := sg_int y
  by_cases h : x < y
  · rw [decide_eq_true h]
    rw [Int32.lt_iff_toInt_lt] at h
    exact (Nat.ble_eq_true_of_le (by omega)).symm
  · rw [decide_eq_false h]
    rw [Int32.lt_iff_toInt_lt] at h
    cases hb : Nat.ble (sg x + 1) (sg y) with
    | false => rfl
    | true => have := Nat.le_of_ble_eq_true hb; omega
theorem hLe (x y : Int32) : if_icmp.holds .le x y = leB x y := by
  show decide (x ≤ y) = Nat.ble (sg x) (sg y)
  have h1 := sg_int x; have h2 := sg_int y
  by_cases h : x ≤ y
  · rw [decide_eq_true h]
    rw [Int32.le_iff_toInt_le] at h
    exact (Nat.ble_eq_true_of_le (by omega)).symm
  · rw [decide_eq_false h]
    rw [Int32.le_iff_toInt_le] at h
    cases hb : Nat.ble (sg x) (sg y) with
    | false => rfl
    | true => have := Nat.le_of_ble_eq_true hb; omega
theorem hGt (x y : Int32) : if_icmp.holds .gt x y = gtB x y := hLt y x
theorem hGe (x y : Int32) : if_icmp.holds .ge x y = geB x y := hLe y x
theorem h0 (cd : ClassFile.Cond) (x : Int32) : ifCond.holds cd x = if_icmp.holds cd x 0 := by cases cd <;> rfl
theorem bts_in {j : Int32} (h : bts j < 2147483648) : ¬ j < 0 ∧ j.toNatClampNeg = bts j := by
  have h1 := bts_int j
  rw [if_pos h] at h1
  refine ⟨fun q => ?_, ?_⟩
  · rw [Int32.lt_iff_toInt_lt] at q
    have : (0 : Int32).toInt = 0 := rfl
    omega
  · simp only [Int32.toNatClampNeg]; omega

/-- an int by its bits: sums that stay numerals -/
def mkI (n : Nat) : Int32 := Int32.ofUInt32 (UInt32.ofBitVec (BitVec.ofFin ⟨n % 4294967296, Nat.mod_lt _ (by decide)⟩))
def addF (x y : Int32) : Int32 := mkI (Nat.add (bts x) (bts y))
theorem addF_ok (x y : Int32) : addF x y = x + y := by
  apply bts_eq
  show (bts x + bts y) % 4294967296 = (x.toBitVec + y.toBitVec).toNat
  rw [BitVec.toNat_add]; rfl
def lk0 (_ : Nat) (_ : List (Nat × Value)) : Option Value := none
/-! ### locals -/
def pl : Slot → Bool
  | .unset => true
  | .second => false
  | .val v => c1f v
where c1f : Value → Bool | .int _ => true | .ref _ => true | .null => true | .retAddr _ => true | _ => false
theorem c1f_cat {v : Value} (h : pl.c1f v = true) : v.category = 1 := by cases v <;> first | rfl | cases h
theorem isI_cat {v : Value} (h : isI v = true) : v.category = 1 := by cases v <;> first | rfl | cases h
theorem isRef_cat {v : Value} (h : v.isRef = true) : v.category = 1 := by cases v <;> first | rfl | cases h
theorem stL_pl {ls : List Slot} {k : Nat} {v : Value} {s0 : Slot} (h : ls[k]? = some s0) (hp : pl s0 = true) (hv : v.category = 1) : stL ls k v = some (ls.set k (.val v)) := by
  have hk : k < ls.length := (List.getElem?_eq_some_iff.mp h).1
  have e1 : stSelf ls k v = some (ls.set k (.val v)) := by
    unfold stSelf setS
    rw [if_pos hk]
    simp only [hv]
    rfl
  unfold stL
  rw [h]
  cases s0 with
  | unset => exact e1
  | second => cases hp
  | val old =>
    have : old.category = 1 := c1f_cat hp
    simp only [this]
    exact e1
def Acc (acc : List Slot → Slot) (k : Nat) : Prop := ∀ ls, acc ls = .second ∨ ls[k]? = some (acc ls)
def Upd (upd : List Slot → Slot → List Slot) (k : Nat) : Prop := ∀ ls x, k < ls.length → upd ls x = ls.set k x
theorem Acc.at {acc : List Slot → Slot} {k : Nat} (h : Acc acc k) {ls : List Slot} {v : Value} (e : acc ls = .val v) : ls[k]? = some (.val v) := by
  rcases h ls with q | q
  · rw [e] at q; cases q
  · rw [e] at q; exact q
theorem Acc.pl {acc : List Slot → Slot} {k : Nat} (h : Acc acc k) {ls : List Slot} (e : pl (acc ls) = true) : ls[k]? = some (acc ls) := by
  rcases h ls with q | q
  · rw [q] at e; cases e
  · exact q
def ac0 : List Slot → Slot | x :: _ => x | _ => .second
theorem ac0_ok : Acc ac0 0 := fun ls => by
  unfold ac0
  split
  · exact Or.inr rfl
  · exact Or.inl rfl
def up0 : List Slot → Slot → List Slot | _ :: t, x => x :: t | l, _ => l
theorem up0_ok : Upd up0 0 := fun ls x h => by
  match ls, h with
  | y :: t, _ => rfl
  | [], h => exact absurd h (by simp)
def ac1 : List Slot → Slot | _ :: x :: _ => x | _ => .second
theorem ac1_ok : Acc ac1 1 := fun ls => by
  unfold ac1
  split
  · exact Or.inr rfl
  · exact Or.inl rfl
def up1 : List Slot → Slot → List Slot | x0 :: _ :: t, x => x0 :: x :: t | l, _ => l
theorem up1_ok : Upd up1 1 := fun ls x h => by
  match ls, h with
  | x0 :: y :: t, _ => rfl
  | [], h => exact absurd h (by simp)
  | [_], h => exact absurd h (by simp)
def ac2 : List Slot → Slot | _ :: _ :: x :: _ => x | _ => .second
theorem ac2_ok : Acc ac2 2 := fun ls => by
  unfold ac2
  split
  · exact Or.inr rfl
  · exact Or.inl rfl
def up2 : List Slot → Slot → List Slot | x0 :: x1 :: _ :: t, x => x0 :: x1 :: x :: t | l, _ => l
theorem up2_ok : Upd up2 2 := fun ls x h => by
  match ls, h with
  | x0 :: x1 :: y :: t, _ => rfl
  | [], h => exact absurd h (by simp)
  | [_], h => exact absurd h (by simp)
  | [_, _], h => exact absurd h (by simp)
def ac3 : List Slot → Slot | _ :: _ :: _ :: x :: _ => x | _ => .second
theorem ac3_ok : Acc ac3 3 := fun ls => by
  unfold ac3
  split
  · exact Or.inr rfl
  · exact Or.inl rfl
def up3 : List Slot → Slot → List Slot | x0 :: x1 :: x2 :: _ :: t, x => x0 :: x1 :: x2 :: x :: t | l, _ => l
theorem up3_ok : Upd up3 3 := fun ls x h => by
  match ls, h with
  | x0 :: x1 :: x2 :: y :: t, _ => rfl
  | [], h => exact absurd h (by simp)
  | [_], h => exact absurd h (by simp)
  | [_, _], h => exact absurd h (by simp)
  | [_, _, _], h => exact absurd h (by simp)
def ac4 : List Slot → Slot | _ :: _ :: _ :: _ :: x :: _ => x | _ => .second
theorem ac4_ok : Acc ac4 4 := fun ls => by
  unfold ac4
  split
  · exact Or.inr rfl
  · exact Or.inl rfl
def up4 : List Slot → Slot → List Slot | x0 :: x1 :: x2 :: x3 :: _ :: t, x => x0 :: x1 :: x2 :: x3 :: x :: t | l, _ => l
theorem up4_ok : Upd up4 4 := fun ls x h => by
  match ls, h with
  | x0 :: x1 :: x2 :: x3 :: y :: t, _ => rfl
  | [], h => exact absurd h (by simp)
  | [_], h => exact absurd h (by simp)
  | [_, _], h => exact absurd h (by simp)
  | [_, _, _], h => exact absurd h (by simp)
  | [_, _, _, _], h => exact absurd h (by simp)
def ac5 : List Slot → Slot | _ :: _ :: _ :: _ :: _ :: x :: _ => x | _ => .second
theorem ac5_ok : Acc ac5 5 := fun ls => by
  unfold ac5
  split
  · exact Or.inr rfl
  · exact Or.inl rfl
def up5 : List Slot → Slot → List Slot | x0 :: x1 :: x2 :: x3 :: x4 :: _ :: t, x => x0 :: x1 :: x2 :: x3 :: x4 :: x :: t | l, _ => l
theorem up5_ok : Upd up5 5 := fun ls x h => by
  match ls, h with
  | x0 :: x1 :: x2 :: x3 :: x4 :: y :: t, _ => rfl
  | [], h => exact absurd h (by simp)
  | [_], h => exact absurd h (by simp)
  | [_, _], h => exact absurd h (by simp)
  | [_, _, _], h => exact absurd h (by simp)
  | [_, _, _, _], h => exact absurd h (by simp)
  | [_, _, _, _, _], h => exact absurd h (by simp)
def ac6 : List Slot → Slot | _ :: _ :: _ :: _ :: _ :: _ :: x :: _ => x | _ => .second
theorem ac6_ok : Acc ac6 6 := fun ls => by
  unfold ac6
  split
  · exact Or.inr rfl
  · exact Or.inl rfl
def up6 : List Slot → Slot → List Slot | x0 :: x1 :: x2 :: x3 :: x4 :: x5 :: _ :: t, x => x0 :: x1 :: x2 :: x3 :: x4 :: x5 :: x :: t | l, _ => l
theorem up6_ok : Upd up6 6 := fun ls x h => by
  match ls, h with
  | x0 :: x1 :: x2 :: x3 :: x4 :: x5 :: y :: t, _ => rfl
  | [], h => exact absurd h (by simp)
  | [_], h => exact absurd h (by simp)
  | [_, _], h => exact absurd h (by simp)
  | [_, _, _], h => exact absurd h (by simp)
  | [_, _, _, _], h => exact absurd h (by simp)
  | [_, _, _, _, _], h => exact absurd h (by simp)
  | [_, _, _, _, _, _], h => exact absurd h (by simp)
def ac7 : List Slot → Slot | _ :: _ :: _ :: _ :: _ :: _ :: _ :: x :: _ => x | _ => .second
theorem ac7_ok : Acc ac7 7 := fun ls => by
  unfold ac7
  split
  · exact Or.inr rfl
  · exact Or.inl rfl
def up7 : List Slot → Slot → List Slot | x0 :: x1 :: x2 :: x3 :: x4 :: x5 :: x6 :: _ :: t, x => x0 :: x1 :: x2 :: x3 :: x4 :: x5 :: x6 :: x :: t | l, _ => l
theorem up7_ok : Upd up7 7 := fun ls x h => by
  match ls, h with
  | x0 :: x1 :: x2 :: x3 :: x4 :: x5 :: x6 :: y :: t, _ => rfl
  | [], h => exact absurd h (by simp)
  | [_], h => exact absurd h (by simp)
  | [_, _], h => exact absurd h (by simp)
  | [_, _, _], h => exact absurd h (by simp)
  | [_, _, _, _], h => exact absurd h (by simp)
  | [_, _, _, _, _], h => exact absurd h (by simp)
  | [_, _, _, _, _, _], h => exact absurd h (by simp)
  | [_, _, _, _, _, _, _], h => exact absurd h (by simp)
def ac8 : List Slot → Slot | _ :: _ :: _ :: _ :: _ :: _ :: _ :: _ :: x :: _ => x | _ => .second
theorem ac8_ok : Acc ac8 8 := fun ls => by
  unfold ac8
  split
  · exact Or.inr rfl
  · exact Or.inl rfl
def up8 : List Slot → Slot → List Slot | x0 :: x1 :: x2 :: x3 :: x4 :: x5 :: x6 :: x7 :: _ :: t, x => x0 :: x1 :: x2 :: x3 :: x4 :: x5 :: x6 :: x7 :: x :: t | l, _ => l
theorem up8_ok : Upd up8 8 := fun ls x h => by
  match ls, h with
  | x0 :: x1 :: x2 :: x3 :: x4 :: x5 :: x6 :: x7 :: y :: t, _ => rfl
  | [], h => exact absurd h (by simp)
  | [_], h => exact absurd h (by simp)
  | [_, _], h => exact absurd h (by simp)
  | [_, _, _], h => exact absurd h (by simp)
  | [_, _, _, _], h => exact absurd h (by simp)
  | [_, _, _, _, _], h => exact absurd h (by simp)
  | [_, _, _, _, _, _], h => exact absurd h (by simp)
  | [_, _, _, _, _, _, _], h => exact absurd h (by simp)
  | [_, _, _, _, _, _, _, _], h => exact absurd h (by simp)
def ac9 : List Slot → Slot | _ :: _ :: _ :: _ :: _ :: _ :: _ :: _ :: _ :: x :: _ => x | _ => .second
theorem ac9_ok : Acc ac9 9 := fun ls => by
  unfold ac9
  split
  · exact Or.inr rfl
  · exact Or.inl rfl
def up9 : List Slot → Slot → List Slot | x0 :: x1 :: x2 :: x3 :: x4 :: x5 :: x6 :: x7 :: x8 :: _ :: t, x => x0 :: x1 :: x2 :: x3 :: x4 :: x5 :: x6 :: x7 :: x8 :: x :: t | l, _ => l
theorem up9_ok : Upd up9 9 := fun ls x h => by
  match ls, h with
  | x0 :: x1 :: x2 :: x3 :: x4 :: x5 :: x6 :: x7 :: x8 :: y :: t, _ => rfl
  | [], h => exact absurd h (by simp)
  | [_], h => exact absurd h (by simp)
  | [_, _], h => exact absurd h (by simp)
  | [_, _, _], h => exact absurd h (by simp)
  | [_, _, _, _], h => exact absurd h (by simp)
  | [_, _, _, _, _], h => exact absurd h (by simp)
  | [_, _, _, _, _, _], h => exact absurd h (by simp)
  | [_, _, _, _, _, _, _], h => exact absurd h (by simp)
  | [_, _, _, _, _, _, _, _], h => exact absurd h (by simp)
  | [_, _, _, _, _, _, _, _, _], h => exact absurd h (by simp)
def ac10 : List Slot → Slot | _ :: _ :: _ :: _ :: _ :: _ :: _ :: _ :: _ :: _ :: x :: _ => x | _ => .second
theorem ac10_ok : Acc ac10 10 := fun ls => by
  unfold ac10
  split
  · exact Or.inr rfl
  · exact Or.inl rfl
def up10 : List Slot → Slot → List Slot | x0 :: x1 :: x2 :: x3 :: x4 :: x5 :: x6 :: x7 :: x8 :: x9 :: _ :: t, x => x0 :: x1 :: x2 :: x3 :: x4 :: x5 :: x6 :: x7 :: x8 :: x9 :: x :: t | l, _ => l
theorem up10_ok : Upd up10 10 := fun ls x h => by
  match ls, h with
  | x0 :: x1 :: x2 :: x3 :: x4 :: x5 :: x6 :: x7 :: x8 :: x9 :: y :: t, _ => rfl
  | [], h => exact absurd h (by simp)
  | [_], h => exact absurd h (by simp)
  | [_, _], h => exact absurd h (by simp)
  | [_, _, _], h => exact absurd h (by simp)
  | [_, _, _, _], h => exact absurd h (by simp)
  | [_, _, _, _, _], h => exact absurd h (by simp)
  | [_, _, _, _, _, _], h => exact absurd h (by simp)
  | [_, _, _, _, _, _, _], h => exact absurd h (by simp)
  | [_, _, _, _, _, _, _, _], h => exact absurd h (by simp)
  | [_, _, _, _, _, _, _, _, _], h => exact absurd h (by simp)
  | [_, _, _, _, _, _, _, _, _, _], h => exact absurd h (by simp)
def ac11 : List Slot → Slot | _ :: _ :: _ :: _ :: _ :: _ :: _ :: _ :: _ :: _ :: _ :: x :: _ => x | _ => .second
theorem ac11_ok : Acc ac11 11 := fun ls => by
  unfold ac11
  split
  · exact Or.inr rfl
  · exact Or.inl rfl
def up11 : List Slot → Slot → List Slot | x0 :: x1 :: x2 :: x3 :: x4 :: x5 :: x6 :: x7 :: x8 :: x9 :: x10 :: _ :: t, x => x0 :: x1 :: x2 :: x3 :: x4 :: x5 :: x6 :: x7 :: x8 :: x9 :: x10 :: x :: t | l, _ => l
theorem up11_ok : Upd up11 11 := fun ls x h => by
  match ls, h with
  | x0 :: x1 :: x2 :: x3 :: x4 :: x5 :: x6 :: x7 :: x8 :: x9 :: x10 :: y :: t, _ => rfl
  | [], h => exact absurd h (by simp)
  | [_], h => exact absurd h (by simp)
  | [_, _], h => exact absurd h (by simp)
  | [_, _, _], h => exact absurd h (by simp)
  | [_, _, _, _], h => exact absurd h (by simp)
  | [_, _, _, _, _], h => exact absurd h (by simp)
  | [_, _, _, _, _, _], h => exact absurd h (by simp)
  | [_, _, _, _, _, _, _], h => exact absurd h (by simp)
  | [_, _, _, _, _, _, _, _], h => exact absurd h (by simp)
  | [_, _, _, _, _, _, _, _, _], h => exact absurd h (by simp)
  | [_, _, _, _, _, _, _, _, _, _], h => exact absurd h (by simp)
  | [_, _, _, _, _, _, _, _, _, _, _], h => exact absurd h (by simp)
def ac12 : List Slot → Slot | _ :: _ :: _ :: _ :: _ :: _ :: _ :: _ :: _ :: _ :: _ :: _ :: x :: _ => x | _ => .second
theorem ac12_ok : Acc ac12 12 := fun ls => by
  unfold ac12
  split
  · exact Or.inr rfl
  · exact Or.inl rfl
def up12 : List Slot → Slot → List Slot | x0 :: x1 :: x2 :: x3 :: x4 :: x5 :: x6 :: x7 :: x8 :: x9 :: x10 :: x11 :: _ :: t, x => x0 :: x1 :: x2 :: x3 :: x4 :: x5 :: x6 :: x7 :: x8 :: x9 :: x10 :: x11 :: x :: t | l, _ => l
theorem up12_ok : Upd up12 12 := fun ls x h => by
  match ls, h with
  | x0 :: x1 :: x2 :: x3 :: x4 :: x5 :: x6 :: x7 :: x8 :: x9 :: x10 :: x11 :: y :: t, _ => rfl
  | [], h => exact absurd h (by simp)
  | [_], h => exact absurd h (by simp)
  | [_, _], h => exact absurd h (by simp)
  | [_, _, _], h => exact absurd h (by simp)
  | [_, _, _, _], h => exact absurd h (by simp)
  | [_, _, _, _, _], h => exact absurd h (by simp)
  | [_, _, _, _, _, _], h => exact absurd h (by simp)
  | [_, _, _, _, _, _, _], h => exact absurd h (by simp)
  | [_, _, _, _, _, _, _, _], h => exact absurd h (by simp)
  | [_, _, _, _, _, _, _, _, _], h => exact absurd h (by simp)
  | [_, _, _, _, _, _, _, _, _, _], h => exact absurd h (by simp)
  | [_, _, _, _, _, _, _, _, _, _, _], h => exact absurd h (by simp)
  | [_, _, _, _, _, _, _, _, _, _, _, _], h => exact absurd h (by simp)
def ac13 : List Slot → Slot | _ :: _ :: _ :: _ :: _ :: _ :: _ :: _ :: _ :: _ :: _ :: _ :: _ :: x :: _ => x | _ => .second
theorem ac13_ok : Acc ac13 13 := fun ls => by
  unfold ac13
  split
  · exact Or.inr rfl
  · exact Or.inl rfl
def up13 : List Slot → Slot → List Slot | x0 :: x1 :: x2 :: x3 :: x4 :: x5 :: x6 :: x7 :: x8 :: x9 :: x10 :: x11 :: x12 :: _ :: t, x => x0 :: x1 :: x2 :: x3 :: x4 :: x5 :: x6 :: x7 :: x8 :: x9 :: x10 :: x11 :: x12 :: x :: t | l, _ => l
theorem up13_ok : Upd up13 13 := fun ls x h => by
  match ls, h with
  | x0 :: x1 :: x2 :: x3 :: x4 :: x5 :: x6 :: x7 :: x8 :: x9 :: x10 :: x11 :: x12 :: y :: t, _ => rfl
  | [], h => exact absurd h (by simp)
  | [_], h => exact absurd h (by simp)
  | [_, _], h => exact absurd h (by simp)
  | [_, _, _], h => exact absurd h (by simp)
  | [_, _, _, _], h => exact absurd h (by simp)
  | [_, _, _, _, _], h => exact absurd h (by simp)
  | [_, _, _, _, _, _], h => exact absurd h (by simp)
  | [_, _, _, _, _, _, _], h => exact absurd h (by simp)
  | [_, _, _, _, _, _, _, _], h => exact absurd h (by simp)
  | [_, _, _, _, _, _, _, _, _], h => exact absurd h (by simp)
  | [_, _, _, _, _, _, _, _, _, _], h => exact absurd h (by simp)
  | [_, _, _, _, _, _, _, _, _, _, _], h => exact absurd h (by simp)
  | [_, _, _, _, _, _, _, _, _, _, _, _], h => exact absurd h (by simp)
  | [_, _, _, _, _, _, _, _, _, _, _, _, _], h => exact absurd h (by simp)
def ac14 : List Slot → Slot | _ :: _ :: _ :: _ :: _ :: _ :: _ :: _ :: _ :: _ :: _ :: _ :: _ :: _ :: x :: _ => x | _ => .second
theorem ac14_ok : Acc ac14 14 := fun ls => by
  unfold ac14
  split
  · exact Or.inr rfl
  · exact Or.inl rfl
def up14 : List Slot → Slot → List Slot | x0 :: x1 :: x2 :: x3 :: x4 :: x5 :: x6 :: x7 :: x8 :: x9 :: x10 :: x11 :: x12 :: x13 :: _ :: t, x => x0 :: x1 :: x2 :: x3 :: x4 :: x5 :: x6 :: x7 :: x8 :: x9 :: x10 :: x11 :: x12 :: x13 :: x :: t | l, _ => l
theorem up14_ok : Upd up14 14 := fun ls x h => by
  match ls, h with
  | x0 :: x1 :: x2 :: x3 :: x4 :: x5 :: x6 :: x7 :: x8 :: x9 :: x10 :: x11 :: x12 :: x13 :: y :: t, _ => rfl
  | [], h => exact absurd h (by simp)
  | [_], h => exact absurd h (by simp)
  | [_, _], h => exact absurd h (by simp)
  | [_, _, _], h => exact absurd h (by simp)
  | [_, _, _, _], h => exact absurd h (by simp)
  | [_, _, _, _, _], h => exact absurd h (by simp)
  | [_, _, _, _, _, _], h => exact absurd h (by simp)
  | [_, _, _, _, _, _, _], h => exact absurd h (by simp)
  | [_, _, _, _, _, _, _, _], h => exact absurd h (by simp)
  | [_, _, _, _, _, _, _, _, _], h => exact absurd h (by simp)
  | [_, _, _, _, _, _, _, _, _, _], h => exact absurd h (by simp)
  | [_, _, _, _, _, _, _, _, _, _, _], h => exact absurd h (by simp)
  | [_, _, _, _, _, _, _, _, _, _, _, _], h => exact absurd h (by simp)
  | [_, _, _, _, _, _, _, _, _, _, _, _, _], h => exact absurd h (by simp)
  | [_, _, _, _, _, _, _, _, _, _, _, _, _, _], h => exact absurd h (by simp)
def ac15 : List Slot → Slot | _ :: _ :: _ :: _ :: _ :: _ :: _ :: _ :: _ :: _ :: _ :: _ :: _ :: _ :: _ :: x :: _ => x | _ => .second
theorem ac15_ok : Acc ac15 15 := fun ls => by
  unfold ac15
  split
  · exact Or.inr rfl
  · exact Or.inl rfl
def up15 : List Slot → Slot → List Slot | x0 :: x1 :: x2 :: x3 :: x4 :: x5 :: x6 :: x7 :: x8 :: x9 :: x10 :: x11 :: x12 :: x13 :: x14 :: _ :: t, x => x0 :: x1 :: x2 :: x3 :: x4 :: x5 :: x6 :: x7 :: x8 :: x9 :: x10 :: x11 :: x12 :: x13 :: x14 :: x :: t | l, _ => l
theorem up15_ok : Upd up15 15 := fun ls x h => by
  match ls, h with
  | x0 :: x1 :: x2 :: x3 :: x4 :: x5 :: x6 :: x7 :: x8 :: x9 :: x10 :: x11 :: x12 :: x13 :: x14 :: y :: t, _ => rfl
  | [], h => exact absurd h (by simp)
  | [_], h => exact absurd h (by simp)
  | [_, _], h => exact absurd h (by simp)
  | [_, _, _], h => exact absurd h (by simp)
  | [_, _, _, _], h => exact absurd h (by simp)
  | [_, _, _, _, _], h => exact absurd h (by simp)
  | [_, _, _, _, _, _], h => exact absurd h (by simp)
  | [_, _, _, _, _, _, _], h => exact absurd h (by simp)
  | [_, _, _, _, _, _, _, _], h => exact absurd h (by simp)
  | [_, _, _, _, _, _, _, _, _], h => exact absurd h (by simp)
  | [_, _, _, _, _, _, _, _, _, _], h => exact absurd h (by simp)
  | [_, _, _, _, _, _, _, _, _, _, _], h => exact absurd h (by simp)
  | [_, _, _, _, _, _, _, _, _, _, _, _], h => exact absurd h (by simp)
  | [_, _, _, _, _, _, _, _, _, _, _, _, _], h => exact absurd h (by simp)
  | [_, _, _, _, _, _, _, _, _, _, _, _, _, _], h => exact absurd h (by simp)
  | [_, _, _, _, _, _, _, _, _, _, _, _, _, _, _], h => exact absurd h (by simp)
def ac16 : List Slot → Slot | _ :: _ :: _ :: _ :: _ :: _ :: _ :: _ :: _ :: _ :: _ :: _ :: _ :: _ :: _ :: _ :: x :: _ => x | _ => .second
theorem ac16_ok : Acc ac16 16 := fun ls => by
  unfold ac16
  split
  · exact Or.inr rfl
  · exact Or.inl rfl
def up16 : List Slot → Slot → List Slot | x0 :: x1 :: x2 :: x3 :: x4 :: x5 :: x6 :: x7 :: x8 :: x9 :: x10 :: x11 :: x12 :: x13 :: x14 :: x15 :: _ :: t, x => x0 :: x1 :: x2 :: x3 :: x4 :: x5 :: x6 :: x7 :: x8 :: x9 :: x10 :: x11 :: x12 :: x13 :: x14 :: x15 :: x :: t | l, _ => l
theorem up16_ok : Upd up16 16 := fun ls x h => by
  match ls, h with
  | x0 :: x1 :: x2 :: x3 :: x4 :: x5 :: x6 :: x7 :: x8 :: x9 :: x10 :: x11 :: x12 :: x13 :: x14 :: x15 :: y :: t, _ => rfl
  | [], h => exact absurd h (by simp)
  | [_], h => exact absurd h (by simp)
  | [_, _], h => exact absurd h (by simp)
  | [_, _, _], h => exact absurd h (by simp)
  | [_, _, _, _], h => exact absurd h (by simp)
  | [_, _, _, _, _], h => exact absurd h (by simp)
  | [_, _, _, _, _, _], h => exact absurd h (by simp)
  | [_, _, _, _, _, _, _], h => exact absurd h (by simp)
  | [_, _, _, _, _, _, _, _], h => exact absurd h (by simp)
  | [_, _, _, _, _, _, _, _, _], h => exact absurd h (by simp)
  | [_, _, _, _, _, _, _, _, _, _], h => exact absurd h (by simp)
  | [_, _, _, _, _, _, _, _, _, _, _], h => exact absurd h (by simp)
  | [_, _, _, _, _, _, _, _, _, _, _, _], h => exact absurd h (by simp)
  | [_, _, _, _, _, _, _, _, _, _, _, _, _], h => exact absurd h (by simp)
  | [_, _, _, _, _, _, _, _, _, _, _, _, _, _], h => exact absurd h (by simp)
  | [_, _, _, _, _, _, _, _, _, _, _, _, _, _, _], h => exact absurd h (by simp)
  | [_, _, _, _, _, _, _, _, _, _, _, _, _, _, _, _], h => exact absurd h (by simp)
def ac17 : List Slot → Slot | _ :: _ :: _ :: _ :: _ :: _ :: _ :: _ :: _ :: _ :: _ :: _ :: _ :: _ :: _ :: _ :: _ :: x :: _ => x | _ => .second
theorem ac17_ok : Acc ac17 17 := fun ls => by
  unfold ac17
  split
  · exact Or.inr rfl
  · exact Or.inl rfl
def up17 : List Slot → Slot → List Slot | x0 :: x1 :: x2 :: x3 :: x4 :: x5 :: x6 :: x7 :: x8 :: x9 :: x10 :: x11 :: x12 :: x13 :: x14 :: x15 :: x16 :: _ :: t, x => x0 :: x1 :: x2 :: x3 :: x4 :: x5 :: x6 :: x7 :: x8 :: x9 :: x10 :: x11 :: x12 :: x13 :: x14 :: x15 :: x16 :: x :: t | l, _ => l
theorem up17_ok : Upd up17 17 := fun ls x h => by
  match ls, h with
  | x0 :: x1 :: x2 :: x3 :: x4 :: x5 :: x6 :: x7 :: x8 :: x9 :: x10 :: x11 :: x12 :: x13 :: x14 :: x15 :: x16 :: y :: t, _ => rfl
  | [], h => exact absurd h (by simp)
  | [_], h => exact absurd h (by simp)
  | [_, _], h => exact absurd h (by simp)
  | [_, _, _], h => exact absurd h (by simp)
  | [_, _, _, _], h => exact absurd h (by simp)
  | [_, _, _, _, _], h => exact absurd h (by simp)
  | [_, _, _, _, _, _], h => exact absurd h (by simp)
  | [_, _, _, _, _, _, _], h => exact absurd h (by simp)
  | [_, _, _, _, _, _, _, _], h => exact absurd h (by simp)
  | [_, _, _, _, _, _, _, _, _], h => exact absurd h (by simp)
  | [_, _, _, _, _, _, _, _, _, _], h => exact absurd h (by simp)
  | [_, _, _, _, _, _, _, _, _, _, _], h => exact absurd h (by simp)
  | [_, _, _, _, _, _, _, _, _, _, _, _], h => exact absurd h (by simp)
  | [_, _, _, _, _, _, _, _, _, _, _, _, _], h => exact absurd h (by simp)
  | [_, _, _, _, _, _, _, _, _, _, _, _, _, _], h => exact absurd h (by simp)
  | [_, _, _, _, _, _, _, _, _, _, _, _, _, _, _], h => exact absurd h (by simp)
  | [_, _, _, _, _, _, _, _, _, _, _, _, _, _, _, _], h => exact absurd h (by simp)
  | [_, _, _, _, _, _, _, _, _, _, _, _, _, _, _, _, _], h => exact absurd h (by simp)

/-! ### lists by their index, without recursion -/
def Nth {β : Type} (f : List β → Nat → Option β) (n : Nat) : Prop := ∀ l i x, f l i = some x → l[i]? = some x ∧ i < n
def St1 {β : Type} (f : List β → Nat → β → Option (List β)) (n : Nat) : Prop := ∀ l i x l', f l i x = some l' → i < l.length ∧ l' = l.set i x ∧ i < n
def Sn1 {β : Type} (f : List β → β → Option (List β × Nat)) (j : Nat) : Prop := ∀ l x l' n, f l x = some (l', n) → l' = l ++ [x] ∧ n = j + l.length
def nx0 {β : Type} (_ : List β) (_ : Nat) : Option β := none
theorem nx0_ok {β : Type} : Nth (β := β) nx0 0 := fun _ _ _ h => by cases h
def sx0 {β : Type} (_ : List β) (_ : Nat) (_ : β) : Option (List β) := none
theorem sx0_ok {β : Type} : St1 (β := β) sx0 0 := fun _ _ _ _ h => by cases h
def sn20 {β : Type} (_ : List β) (_ : β) : Option (List β × Nat) := none
theorem sn20_ok {β : Type} : Sn1 (β := β) sn20 20 := fun _ _ _ _ h => by cases h
theorem Nth.succ {β : Type} {f g : List β → Nat → Option β} {n : Nat} (hf : Nth f n) (hg : ∀ l i, g l i = match l with | [] => none | x :: t => (match i with | 0 => some x | j + 1 => f t j)) : Nth g (n + 1) := by
  intro l i x h
  rw [hg] at h
  cases l with
  | nil => cases h
  | cons y t => cases i with
    | zero => cases h; exact ⟨rfl, by omega⟩
    | succ j => obtain ⟨a, b⟩ := hf t j x h; exact ⟨by simpa using a, by omega⟩
theorem St1.succ {β : Type} {f g : List β → Nat → β → Option (List β)} {n : Nat} (hf : St1 f n) (hg : ∀ l i y, g l i y = match l with | [] => none | x :: t => (match i with | 0 => some (y :: t) | j + 1 => (match f t j y with | some t' => some (x :: t') | none => none))) : St1 g (n + 1) := by
  intro l i x l' h
  rw [hg] at h
  cases l with
  | nil => cases h
  | cons y t => cases i with
    | zero => cases h; exact ⟨by simp, rfl, by omega⟩
    | succ j =>
      dsimp only at h
      split at h
      · rename_i t' q
        cases h
        obtain ⟨a, b, c⟩ := hf t j x t' q
        exact ⟨by simpa using a, by rw [b]; rfl, by omega⟩
      · cases h
theorem Sn1.succ {β : Type} {f g : List β → β → Option (List β × Nat)} {j : Nat} (hf : Sn1 f (j + 1)) (hg : ∀ l y, g l y = match l with | [] => some ([y], j) | x :: t => (match f t y with | some (t', n) => some (x :: t', n) | none => none)) : Sn1 g j := by
  intro l x l' n h
  rw [hg] at h
  cases l with
  | nil => cases h; exact ⟨rfl, rfl⟩
  | cons y t =>
    dsimp only at h
    split at h
    · rename_i t' n' q
      cases h
      obtain ⟨a, b⟩ := hf t x _ _ q
      exact ⟨by rw [a]; rfl, by rw [b]; simp only [List.length_cons]; omega⟩
    · cases h
def nx1 {β : Type} (l : List β) (i : Nat) : Option β := match l with | [] => none | x :: t => (match i with | 0 => some x | j + 1 => nx0 t j)
theorem nx1_ok {β : Type} : Nth (β := β) nx1 1 := Nth.succ nx0_ok fun _ _ => rfl
def sx1 {β : Type} (l : List β) (i : Nat) (y : β) : Option (List β) := match l with | [] => none | x :: t => (match i with | 0 => some (y :: t) | j + 1 => (match sx0 t j y with | some t' => some (x :: t') | none => none))
theorem sx1_ok {β : Type} : St1 (β := β) sx1 1 := St1.succ sx0_ok fun _ _ _ => rfl
def nx2 {β : Type} (l : List β) (i : Nat) : Option β := match l with | [] => none | x :: t => (match i with | 0 => some x | j + 1 => nx1 t j)
theorem nx2_ok {β : Type} : Nth (β := β) nx2 2 := Nth.succ nx1_ok fun _ _ => rfl
def sx2 {β : Type} (l : List β) (i : Nat) (y : β) : Option (List β) := match l with | [] => none | x :: t => (match i with | 0 => some (y :: t) | j + 1 => (match sx1 t j y with | some t' => some (x :: t') | none => none))
theorem sx2_ok {β : Type} : St1 (β := β) sx2 2 := St1.succ sx1_ok fun _ _ _ => rfl
def nx3 {β : Type} (l : List β) (i : Nat) : Option β := match l with | [] => none | x :: t => (match i with | 0 => some x | j + 1 => nx2 t j)
theorem nx3_ok {β : Type} : Nth (β := β) nx3 3 := Nth.succ nx2_ok fun _ _ => rfl
def sx3 {β : Type} (l : List β) (i : Nat) (y : β) : Option (List β) := match l with | [] => none | x :: t => (match i with | 0 => some (y :: t) | j + 1 => (match sx2 t j y with | some t' => some (x :: t') | none => none))
theorem sx3_ok {β : Type} : St1 (β := β) sx3 3 := St1.succ sx2_ok fun _ _ _ => rfl
def nx4 {β : Type} (l : List β) (i : Nat) : Option β := match l with | [] => none | x :: t => (match i with | 0 => some x | j + 1 => nx3 t j)
theorem nx4_ok {β : Type} : Nth (β := β) nx4 4 := Nth.succ nx3_ok fun _ _ => rfl
def sx4 {β : Type} (l : List β) (i : Nat) (y : β) : Option (List β) := match l with | [] => none | x :: t => (match i with | 0 => some (y :: t) | j + 1 => (match sx3 t j y with | some t' => some (x :: t') | none => none))
theorem sx4_ok {β : Type} : St1 (β := β) sx4 4 := St1.succ sx3_ok fun _ _ _ => rfl
def nx5 {β : Type} (l : List β) (i : Nat) : Option β := match l with | [] => none | x :: t => (match i with | 0 => some x | j + 1 => nx4 t j)
theorem nx5_ok {β : Type} : Nth (β := β) nx5 5 := Nth.succ nx4_ok fun _ _ => rfl
def sx5 {β : Type} (l : List β) (i : Nat) (y : β) : Option (List β) := match l with | [] => none | x :: t => (match i with | 0 => some (y :: t) | j + 1 => (match sx4 t j y with | some t' => some (x :: t') | none => none))
theorem sx5_ok {β : Type} : St1 (β := β) sx5 5 := St1.succ sx4_ok fun _ _ _ => rfl
def nx6 {β : Type} (l : List β) (i : Nat) : Option β := match l with | [] => none | x :: t => (match i with | 0 => some x | j + 1 => nx5 t j)
theorem nx6_ok {β : Type} : Nth (β := β) nx6 6 := Nth.succ nx5_ok fun _ _ => rfl
def sx6 {β : Type} (l : List β) (i : Nat) (y : β) : Option (List β) := match l with | [] => none | x :: t => (match i with | 0 => some (y :: t) | j + 1 => (match sx5 t j y with | some t' => some (x :: t') | none => none))
theorem sx6_ok {β : Type} : St1 (β := β) sx6 6 := St1.succ sx5_ok fun _ _ _ => rfl
def nx7 {β : Type} (l : List β) (i : Nat) : Option β := match l with | [] => none | x :: t => (match i with | 0 => some x | j + 1 => nx6 t j)
theorem nx7_ok {β : Type} : Nth (β := β) nx7 7 := Nth.succ nx6_ok fun _ _ => rfl
def sx7 {β : Type} (l : List β) (i : Nat) (y : β) : Option (List β) := match l with | [] => none | x :: t => (match i with | 0 => some (y :: t) | j + 1 => (match sx6 t j y with | some t' => some (x :: t') | none => none))
theorem sx7_ok {β : Type} : St1 (β := β) sx7 7 := St1.succ sx6_ok fun _ _ _ => rfl
def nx8 {β : Type} (l : List β) (i : Nat) : Option β := match l with | [] => none | x :: t => (match i with | 0 => some x | j + 1 => nx7 t j)
theorem nx8_ok {β : Type} : Nth (β := β) nx8 8 := Nth.succ nx7_ok fun _ _ => rfl
def sx8 {β : Type} (l : List β) (i : Nat) (y : β) : Option (List β) := match l with | [] => none | x :: t => (match i with | 0 => some (y :: t) | j + 1 => (match sx7 t j y with | some t' => some (x :: t') | none => none))
theorem sx8_ok {β : Type} : St1 (β := β) sx8 8 := St1.succ sx7_ok fun _ _ _ => rfl
def nx9 {β : Type} (l : List β) (i : Nat) : Option β := match l with | [] => none | x :: t => (match i with | 0 => some x | j + 1 => nx8 t j)
theorem nx9_ok {β : Type} : Nth (β := β) nx9 9 := Nth.succ nx8_ok fun _ _ => rfl
def sx9 {β : Type} (l : List β) (i : Nat) (y : β) : Option (List β) := match l with | [] => none | x :: t => (match i with | 0 => some (y :: t) | j + 1 => (match sx8 t j y with | some t' => some (x :: t') | none => none))
theorem sx9_ok {β : Type} : St1 (β := β) sx9 9 := St1.succ sx8_ok fun _ _ _ => rfl
def nx10 {β : Type} (l : List β) (i : Nat) : Option β := match l with | [] => none | x :: t => (match i with | 0 => some x | j + 1 => nx9 t j)
theorem nx10_ok {β : Type} : Nth (β := β) nx10 10 := Nth.succ nx9_ok fun _ _ => rfl
def sx10 {β : Type} (l : List β) (i : Nat) (y : β) : Option (List β) := match l with | [] => none | x :: t => (match i with | 0 => some (y :: t) | j + 1 => (match sx9 t j y with | some t' => some (x :: t') | none => none))
theorem sx10_ok {β : Type} : St1 (β := β) sx10 10 := St1.succ sx9_ok fun _ _ _ => rfl
def nx11 {β : Type} (l : List β) (i : Nat) : Option β := match l with | [] => none | x :: t => (match i with | 0 => some x | j + 1 => nx10 t j)
theorem nx11_ok {β : Type} : Nth (β := β) nx11 11 := Nth.succ nx10_ok fun _ _ => rfl
def sx11 {β : Type} (l : List β) (i : Nat) (y : β) : Option (List β) := match l with | [] => none | x :: t => (match i with | 0 => some (y :: t) | j + 1 => (match sx10 t j y with | some t' => some (x :: t') | none => none))
theorem sx11_ok {β : Type} : St1 (β := β) sx11 11 := St1.succ sx10_ok fun _ _ _ => rfl
def nx12 {β : Type} (l : List β) (i : Nat) : Option β := match l with | [] => none | x :: t => (match i with | 0 => some x | j + 1 => nx11 t j)
theorem nx12_ok {β : Type} : Nth (β := β) nx12 12 := Nth.succ nx11_ok fun _ _ => rfl
def sx12 {β : Type} (l : List β) (i : Nat) (y : β) : Option (List β) := match l with | [] => none | x :: t => (match i with | 0 => some (y :: t) | j + 1 => (match sx11 t j y with | some t' => some (x :: t') | none => none))
theorem sx12_ok {β : Type} : St1 (β := β) sx12 12 := St1.succ sx11_ok fun _ _ _ => rfl
def nx13 {β : Type} (l : List β) (i : Nat) : Option β := match l with | [] => none | x :: t => (match i with | 0 => some x | j + 1 => nx12 t j)
theorem nx13_ok {β : Type} : Nth (β := β) nx13 13 := Nth.succ nx12_ok fun _ _ => rfl
def sx13 {β : Type} (l : List β) (i : Nat) (y : β) : Option (List β) := match l with | [] => none | x :: t => (match i with | 0 => some (y :: t) | j + 1 => (match sx12 t j y with | some t' => some (x :: t') | none => none))
theorem sx13_ok {β : Type} : St1 (β := β) sx13 13 := St1.succ sx12_ok fun _ _ _ => rfl
def nx14 {β : Type} (l : List β) (i : Nat) : Option β := match l with | [] => none | x :: t => (match i with | 0 => some x | j + 1 => nx13 t j)
theorem nx14_ok {β : Type} : Nth (β := β) nx14 14 := Nth.succ nx13_ok fun _ _ => rfl
def sx14 {β : Type} (l : List β) (i : Nat) (y : β) : Option (List β) := match l with | [] => none | x :: t => (match i with | 0 => some (y :: t) | j + 1 => (match sx13 t j y with | some t' => some (x :: t') | none => none))
theorem sx14_ok {β : Type} : St1 (β := β) sx14 14 := St1.succ sx13_ok fun _ _ _ => rfl
def nx15 {β : Type} (l : List β) (i : Nat) : Option β := match l with | [] => none | x :: t => (match i with | 0 => some x | j + 1 => nx14 t j)
theorem nx15_ok {β : Type} : Nth (β := β) nx15 15 := Nth.succ nx14_ok fun _ _ => rfl
def sx15 {β : Type} (l : List β) (i : Nat) (y : β) : Option (List β) := match l with | [] => none | x :: t => (match i with | 0 => some (y :: t) | j + 1 => (match sx14 t j y with | some t' => some (x :: t') | none => none))
theorem sx15_ok {β : Type} : St1 (β := β) sx15 15 := St1.succ sx14_ok fun _ _ _ => rfl
def nx16 {β : Type} (l : List β) (i : Nat) : Option β := match l with | [] => none | x :: t => (match i with | 0 => some x | j + 1 => nx15 t j)
theorem nx16_ok {β : Type} : Nth (β := β) nx16 16 := Nth.succ nx15_ok fun _ _ => rfl
def sx16 {β : Type} (l : List β) (i : Nat) (y : β) : Option (List β) := match l with | [] => none | x :: t => (match i with | 0 => some (y :: t) | j + 1 => (match sx15 t j y with | some t' => some (x :: t') | none => none))
theorem sx16_ok {β : Type} : St1 (β := β) sx16 16 := St1.succ sx15_ok fun _ _ _ => rfl
def nx17 {β : Type} (l : List β) (i : Nat) : Option β := match l with | [] => none | x :: t => (match i with | 0 => some x | j + 1 => nx16 t j)
theorem nx17_ok {β : Type} : Nth (β := β) nx17 17 := Nth.succ nx16_ok fun _ _ => rfl
def sx17 {β : Type} (l : List β) (i : Nat) (y : β) : Option (List β) := match l with | [] => none | x :: t => (match i with | 0 => some (y :: t) | j + 1 => (match sx16 t j y with | some t' => some (x :: t') | none => none))
theorem sx17_ok {β : Type} : St1 (β := β) sx17 17 := St1.succ sx16_ok fun _ _ _ => rfl
def nx18 {β : Type} (l : List β) (i : Nat) : Option β := match l with | [] => none | x :: t => (match i with | 0 => some x | j + 1 => nx17 t j)
theorem nx18_ok {β : Type} : Nth (β := β) nx18 18 := Nth.succ nx17_ok fun _ _ => rfl
def sx18 {β : Type} (l : List β) (i : Nat) (y : β) : Option (List β) := match l with | [] => none | x :: t => (match i with | 0 => some (y :: t) | j + 1 => (match sx17 t j y with | some t' => some (x :: t') | none => none))
theorem sx18_ok {β : Type} : St1 (β := β) sx18 18 := St1.succ sx17_ok fun _ _ _ => rfl
def nx19 {β : Type} (l : List β) (i : Nat) : Option β := match l with | [] => none | x :: t => (match i with | 0 => some x | j + 1 => nx18 t j)
theorem nx19_ok {β : Type} : Nth (β := β) nx19 19 := Nth.succ nx18_ok fun _ _ => rfl
def sx19 {β : Type} (l : List β) (i : Nat) (y : β) : Option (List β) := match l with | [] => none | x :: t => (match i with | 0 => some (y :: t) | j + 1 => (match sx18 t j y with | some t' => some (x :: t') | none => none))
theorem sx19_ok {β : Type} : St1 (β := β) sx19 19 := St1.succ sx18_ok fun _ _ _ => rfl
def nx20 {β : Type} (l : List β) (i : Nat) : Option β := match l with | [] => none | x :: t => (match i with | 0 => some x | j + 1 => nx19 t j)
theorem nx20_ok {β : Type} : Nth (β := β) nx20 20 := Nth.succ nx19_ok fun _ _ => rfl
def sx20 {β : Type} (l : List β) (i : Nat) (y : β) : Option (List β) := match l with | [] => none | x :: t => (match i with | 0 => some (y :: t) | j + 1 => (match sx19 t j y with | some t' => some (x :: t') | none => none))
theorem sx20_ok {β : Type} : St1 (β := β) sx20 20 := St1.succ sx19_ok fun _ _ _ => rfl
def sn19 {β : Type} (l : List β) (y : β) : Option (List β × Nat) := match l with | [] => some ([y], 19) | x :: t => (match sn20 t y with | some (t', n) => some (x :: t', n) | none => none)
theorem sn19_ok {β : Type} : Sn1 (β := β) sn19 19 := Sn1.succ sn20_ok fun _ _ => rfl
def sn18 {β : Type} (l : List β) (y : β) : Option (List β × Nat) := match l with | [] => some ([y], 18) | x :: t => (match sn19 t y with | some (t', n) => some (x :: t', n) | none => none)
theorem sn18_ok {β : Type} : Sn1 (β := β) sn18 18 := Sn1.succ sn19_ok fun _ _ => rfl
def sn17 {β : Type} (l : List β) (y : β) : Option (List β × Nat) := match l with | [] => some ([y], 17) | x :: t => (match sn18 t y with | some (t', n) => some (x :: t', n) | none => none)
theorem sn17_ok {β : Type} : Sn1 (β := β) sn17 17 := Sn1.succ sn18_ok fun _ _ => rfl
def sn16 {β : Type} (l : List β) (y : β) : Option (List β × Nat) := match l with | [] => some ([y], 16) | x :: t => (match sn17 t y with | some (t', n) => some (x :: t', n) | none => none)
theorem sn16_ok {β : Type} : Sn1 (β := β) sn16 16 := Sn1.succ sn17_ok fun _ _ => rfl
def sn15 {β : Type} (l : List β) (y : β) : Option (List β × Nat) := match l with | [] => some ([y], 15) | x :: t => (match sn16 t y with | some (t', n) => some (x :: t', n) | none => none)
theorem sn15_ok {β : Type} : Sn1 (β := β) sn15 15 := Sn1.succ sn16_ok fun _ _ => rfl
def sn14 {β : Type} (l : List β) (y : β) : Option (List β × Nat) := match l with | [] => some ([y], 14) | x :: t => (match sn15 t y with | some (t', n) => some (x :: t', n) | none => none)
theorem sn14_ok {β : Type} : Sn1 (β := β) sn14 14 := Sn1.succ sn15_ok fun _ _ => rfl
def sn13 {β : Type} (l : List β) (y : β) : Option (List β × Nat) := match l with | [] => some ([y], 13) | x :: t => (match sn14 t y with | some (t', n) => some (x :: t', n) | none => none)
theorem sn13_ok {β : Type} : Sn1 (β := β) sn13 13 := Sn1.succ sn14_ok fun _ _ => rfl
def sn12 {β : Type} (l : List β) (y : β) : Option (List β × Nat) := match l with | [] => some ([y], 12) | x :: t => (match sn13 t y with | some (t', n) => some (x :: t', n) | none => none)
theorem sn12_ok {β : Type} : Sn1 (β := β) sn12 12 := Sn1.succ sn13_ok fun _ _ => rfl
def sn11 {β : Type} (l : List β) (y : β) : Option (List β × Nat) := match l with | [] => some ([y], 11) | x :: t => (match sn12 t y with | some (t', n) => some (x :: t', n) | none => none)
theorem sn11_ok {β : Type} : Sn1 (β := β) sn11 11 := Sn1.succ sn12_ok fun _ _ => rfl
def sn10 {β : Type} (l : List β) (y : β) : Option (List β × Nat) := match l with | [] => some ([y], 10) | x :: t => (match sn11 t y with | some (t', n) => some (x :: t', n) | none => none)
theorem sn10_ok {β : Type} : Sn1 (β := β) sn10 10 := Sn1.succ sn11_ok fun _ _ => rfl
def sn9 {β : Type} (l : List β) (y : β) : Option (List β × Nat) := match l with | [] => some ([y], 9) | x :: t => (match sn10 t y with | some (t', n) => some (x :: t', n) | none => none)
theorem sn9_ok {β : Type} : Sn1 (β := β) sn9 9 := Sn1.succ sn10_ok fun _ _ => rfl
def sn8 {β : Type} (l : List β) (y : β) : Option (List β × Nat) := match l with | [] => some ([y], 8) | x :: t => (match sn9 t y with | some (t', n) => some (x :: t', n) | none => none)
theorem sn8_ok {β : Type} : Sn1 (β := β) sn8 8 := Sn1.succ sn9_ok fun _ _ => rfl
def sn7 {β : Type} (l : List β) (y : β) : Option (List β × Nat) := match l with | [] => some ([y], 7) | x :: t => (match sn8 t y with | some (t', n) => some (x :: t', n) | none => none)
theorem sn7_ok {β : Type} : Sn1 (β := β) sn7 7 := Sn1.succ sn8_ok fun _ _ => rfl
def sn6 {β : Type} (l : List β) (y : β) : Option (List β × Nat) := match l with | [] => some ([y], 6) | x :: t => (match sn7 t y with | some (t', n) => some (x :: t', n) | none => none)
theorem sn6_ok {β : Type} : Sn1 (β := β) sn6 6 := Sn1.succ sn7_ok fun _ _ => rfl
def sn5 {β : Type} (l : List β) (y : β) : Option (List β × Nat) := match l with | [] => some ([y], 5) | x :: t => (match sn6 t y with | some (t', n) => some (x :: t', n) | none => none)
theorem sn5_ok {β : Type} : Sn1 (β := β) sn5 5 := Sn1.succ sn6_ok fun _ _ => rfl
def sn4 {β : Type} (l : List β) (y : β) : Option (List β × Nat) := match l with | [] => some ([y], 4) | x :: t => (match sn5 t y with | some (t', n) => some (x :: t', n) | none => none)
theorem sn4_ok {β : Type} : Sn1 (β := β) sn4 4 := Sn1.succ sn5_ok fun _ _ => rfl
def sn3 {β : Type} (l : List β) (y : β) : Option (List β × Nat) := match l with | [] => some ([y], 3) | x :: t => (match sn4 t y with | some (t', n) => some (x :: t', n) | none => none)
theorem sn3_ok {β : Type} : Sn1 (β := β) sn3 3 := Sn1.succ sn4_ok fun _ _ => rfl
def sn2 {β : Type} (l : List β) (y : β) : Option (List β × Nat) := match l with | [] => some ([y], 2) | x :: t => (match sn3 t y with | some (t', n) => some (x :: t', n) | none => none)
theorem sn2_ok {β : Type} : Sn1 (β := β) sn2 2 := Sn1.succ sn3_ok fun _ _ => rfl
def sn1 {β : Type} (l : List β) (y : β) : Option (List β × Nat) := match l with | [] => some ([y], 1) | x :: t => (match sn2 t y with | some (t', n) => some (x :: t', n) | none => none)
theorem sn1_ok {β : Type} : Sn1 (β := β) sn1 1 := Sn1.succ sn2_ok fun _ _ => rfl
def sn0 {β : Type} (l : List β) (y : β) : Option (List β × Nat) := match l with | [] => some ([y], 0) | x :: t => (match sn1 t y with | some (t', n) => some (x :: t', n) | none => none)
theorem sn0_ok {β : Type} : Sn1 (β := β) sn0 0 := Sn1.succ sn1_ok fun _ _ => rfl
abbrev nx {β : Type} : List β → Nat → Option β := nx20
abbrev sx {β : Type} : List β → Nat → β → Option (List β) := sx20
abbrev sn {β : Type} : List β → β → Option (List β × Nat) := sn0
theorem nx_ok {β : Type} : Nth (β := β) nx 20 := nx20_ok
theorem sx_ok {β : Type} : St1 (β := β) sx 20 := sx20_ok
theorem sn_ok {β : Type} : Sn1 (β := β) sn 0 := sn0_ok
/-! ### arguments: off the stack into a new frame -/
def Tk (f : List Value → List Slot → Option (List Slot × List Value)) (k : Nat) : Prop := ∀ st acc ls rest, f st acc = some (ls, rest) → (st.take k).length = k ∧ rest = st.drop k ∧ ls = flat (st.take k).reverse ++ acc ∧ (flat (st.take k).reverse).length = k
theorem flat_app : ∀ (xs ys : List Value), flat (xs ++ ys) = flat xs ++ flat ys
  | [], _ => rfl
  | x :: xs, ys => by
    simp only [List.cons_append, flat, flat_app xs ys]
    split <;> rfl
def tk0 (st : List Value) (acc : List Slot) : Option (List Slot × List Value) := some (acc, st)
theorem tk0_ok : Tk tk0 0 := fun st acc ls rest h => by cases h; exact ⟨rfl, rfl, rfl, rfl⟩
theorem Tk.succ {f g : List Value → List Slot → Option (List Slot × List Value)} {k : Nat} (hf : Tk f k) (hg : ∀ st acc, g st acc = match st with | [] => none | v :: t => (match pl.c1f v with | true => f t (.val v :: acc) | false => none)) : Tk g (k + 1) := by
  intro st acc ls rest h
  rw [hg] at h
  cases st with
  | nil => cases h
  | cons v t =>
    dsimp only at h
    split at h
    · rename_i q
      obtain ⟨a, b, c, d⟩ := hf _ _ _ _ h
      have e : flat [v] = [.val v] := by
        simp only [flat, c1f_cat q]; rfl
      refine ⟨by simp only [List.take_succ_cons, List.length_cons, a], by rw [b]; rfl, ?_, ?_⟩
      · rw [c]
        simp only [List.take_succ_cons, List.reverse_cons, flat_app, e]
        simp
      · simp only [List.take_succ_cons, List.reverse_cons, flat_app, e, List.length_append, d]; rfl
    · cases h
def tk1 (st : List Value) (acc : List Slot) : Option (List Slot × List Value) := match st with | [] => none | v :: t => (match pl.c1f v with | true => tk0 t (.val v :: acc) | false => none)
theorem tk1_ok : Tk tk1 1 := Tk.succ tk0_ok fun _ _ => rfl
def tk2 (st : List Value) (acc : List Slot) : Option (List Slot × List Value) := match st with | [] => none | v :: t => (match pl.c1f v with | true => tk1 t (.val v :: acc) | false => none)
theorem tk2_ok : Tk tk2 2 := Tk.succ tk1_ok fun _ _ => rfl
def tk3 (st : List Value) (acc : List Slot) : Option (List Slot × List Value) := match st with | [] => none | v :: t => (match pl.c1f v with | true => tk2 t (.val v :: acc) | false => none)
theorem tk3_ok : Tk tk3 3 := Tk.succ tk2_ok fun _ _ => rfl
def tk4 (st : List Value) (acc : List Slot) : Option (List Slot × List Value) := match st with | [] => none | v :: t => (match pl.c1f v with | true => tk3 t (.val v :: acc) | false => none)
theorem tk4_ok : Tk tk4 4 := Tk.succ tk3_ok fun _ _ => rfl
def tk5 (st : List Value) (acc : List Slot) : Option (List Slot × List Value) := match st with | [] => none | v :: t => (match pl.c1f v with | true => tk4 t (.val v :: acc) | false => none)
theorem tk5_ok : Tk tk5 5 := Tk.succ tk4_ok fun _ _ => rfl
def tk6 (st : List Value) (acc : List Slot) : Option (List Slot × List Value) := match st with | [] => none | v :: t => (match pl.c1f v with | true => tk5 t (.val v :: acc) | false => none)
theorem tk6_ok : Tk tk6 6 := Tk.succ tk5_ok fun _ _ => rfl
def tk7 (st : List Value) (acc : List Slot) : Option (List Slot × List Value) := match st with | [] => none | v :: t => (match pl.c1f v with | true => tk6 t (.val v :: acc) | false => none)
theorem tk7_ok : Tk tk7 7 := Tk.succ tk6_ok fun _ _ => rfl
def tk8 (st : List Value) (acc : List Slot) : Option (List Slot × List Value) := match st with | [] => none | v :: t => (match pl.c1f v with | true => tk7 t (.val v :: acc) | false => none)
theorem tk8_ok : Tk tk8 8 := Tk.succ tk7_ok fun _ _ => rfl
def tk9 (st : List Value) (acc : List Slot) : Option (List Slot × List Value) := match st with | [] => none | v :: t => (match pl.c1f v with | true => tk8 t (.val v :: acc) | false => none)
theorem tk9_ok : Tk tk9 9 := Tk.succ tk8_ok fun _ _ => rfl
theorem lk0_ok (a : Nat) (fs : List (Nat × Value)) (v : Value) (h : lk0 a fs = some v) : look a fs = some v := by cases h
def lk1 (a : Nat) (fs : List (Nat × Value)) : Option Value := match fs with | [] => none | (b, v) :: r => (match Nat.beq b a with | true => some v | false => lk0 a r)
theorem lk1_ok (a : Nat) (fs : List (Nat × Value)) (v : Value) (h : lk1 a fs = some v) : look a fs = some v := by
  unfold lk1 at h
  unfold look
  split at h
  · cases h
  · (try dsimp only)
    split at h
    · rename_i q; first | exact h | (rw [q]; exact h) | (simp only [q]; exact h)
    · rename_i q; first | exact lk0_ok _ _ _ h | (rw [q]; exact lk0_ok _ _ _ h) | (simp only [q]; exact lk0_ok _ _ _ h)
def lk2 (a : Nat) (fs : List (Nat × Value)) : Option Value := match fs with | [] => none | (b, v) :: r => (match Nat.beq b a with | true => some v | false => lk1 a r)
theorem lk2_ok (a : Nat) (fs : List (Nat × Value)) (v : Value) (h : lk2 a fs = some v) : look a fs = some v := by
  unfold lk2 at h
  unfold look
  split at h
  · cases h
  · (try dsimp only)
    split at h
    · rename_i q; first | exact h | (rw [q]; exact h) | (simp only [q]; exact h)
    · rename_i q; first | exact lk1_ok _ _ _ h | (rw [q]; exact lk1_ok _ _ _ h) | (simp only [q]; exact lk1_ok _ _ _ h)
def lk3 (a : Nat) (fs : List (Nat × Value)) : Option Value := match fs with | [] => none | (b, v) :: r => (match Nat.beq b a with | true => some v | false => lk2 a r)
theorem lk3_ok (a : Nat) (fs : List (Nat × Value)) (v : Value) (h : lk3 a fs = some v) : look a fs = some v := by
  unfold lk3 at h
  unfold look
  split at h
  · cases h
  · (try dsimp only)
    split at h
    · rename_i q; first | exact h | (rw [q]; exact h) | (simp only [q]; exact h)
    · rename_i q; first | exact lk2_ok _ _ _ h | (rw [q]; exact lk2_ok _ _ _ h) | (simp only [q]; exact lk2_ok _ _ _ h)
def lk4 (a : Nat) (fs : List (Nat × Value)) : Option Value := match fs with | [] => none | (b, v) :: r => (match Nat.beq b a with | true => some v | false => lk3 a r)
theorem lk4_ok (a : Nat) (fs : List (Nat × Value)) (v : Value) (h : lk4 a fs = some v) : look a fs = some v := by
  unfold lk4 at h
  unfold look
  split at h
  · cases h
  · (try dsimp only)
    split at h
    · rename_i q; first | exact h | (rw [q]; exact h) | (simp only [q]; exact h)
    · rename_i q; first | exact lk3_ok _ _ _ h | (rw [q]; exact lk3_ok _ _ _ h) | (simp only [q]; exact lk3_ok _ _ _ h)
def lk5 (a : Nat) (fs : List (Nat × Value)) : Option Value := match fs with | [] => none | (b, v) :: r => (match Nat.beq b a with | true => some v | false => lk4 a r)
theorem lk5_ok (a : Nat) (fs : List (Nat × Value)) (v : Value) (h : lk5 a fs = some v) : look a fs = some v := by
  unfold lk5 at h
  unfold look
  split at h
  · cases h
  · (try dsimp only)
    split at h
    · rename_i q; first | exact h | (rw [q]; exact h) | (simp only [q]; exact h)
    · rename_i q; first | exact lk4_ok _ _ _ h | (rw [q]; exact lk4_ok _ _ _ h) | (simp only [q]; exact lk4_ok _ _ _ h)
def lk6 (a : Nat) (fs : List (Nat × Value)) : Option Value := match fs with | [] => none | (b, v) :: r => (match Nat.beq b a with | true => some v | false => lk5 a r)
theorem lk6_ok (a : Nat) (fs : List (Nat × Value)) (v : Value) (h : lk6 a fs = some v) : look a fs = some v := by
  unfold lk6 at h
  unfold look
  split at h
  · cases h
  · (try dsimp only)
    split at h
    · rename_i q; first | exact h | (rw [q]; exact h) | (simp only [q]; exact h)
    · rename_i q; first | exact lk5_ok _ _ _ h | (rw [q]; exact lk5_ok _ _ _ h) | (simp only [q]; exact lk5_ok _ _ _ h)
def lk7 (a : Nat) (fs : List (Nat × Value)) : Option Value := match fs with | [] => none | (b, v) :: r => (match Nat.beq b a with | true => some v | false => lk6 a r)
theorem lk7_ok (a : Nat) (fs : List (Nat × Value)) (v : Value) (h : lk7 a fs = some v) : look a fs = some v := by
  unfold lk7 at h
  unfold look
  split at h
  · cases h
  · (try dsimp only)
    split at h
    · rename_i q; first | exact h | (rw [q]; exact h) | (simp only [q]; exact h)
    · rename_i q; first | exact lk6_ok _ _ _ h | (rw [q]; exact lk6_ok _ _ _ h) | (simp only [q]; exact lk6_ok _ _ _ h)
def lk8 (a : Nat) (fs : List (Nat × Value)) : Option Value := match fs with | [] => none | (b, v) :: r => (match Nat.beq b a with | true => some v | false => lk7 a r)
theorem lk8_ok (a : Nat) (fs : List (Nat × Value)) (v : Value) (h : lk8 a fs = some v) : look a fs = some v := by
  unfold lk8 at h
  unfold look
  split at h
  · cases h
  · (try dsimp only)
    split at h
    · rename_i q; first | exact h | (rw [q]; exact h) | (simp only [q]; exact h)
    · rename_i q; first | exact lk7_ok _ _ _ h | (rw [q]; exact lk7_ok _ _ _ h) | (simp only [q]; exact lk7_ok _ _ _ h)
def lk9 (a : Nat) (fs : List (Nat × Value)) : Option Value := match fs with | [] => none | (b, v) :: r => (match Nat.beq b a with | true => some v | false => lk8 a r)
theorem lk9_ok (a : Nat) (fs : List (Nat × Value)) (v : Value) (h : lk9 a fs = some v) : look a fs = some v := by
  unfold lk9 at h
  unfold look
  split at h
  · cases h
  · (try dsimp only)
    split at h
    · rename_i q; first | exact h | (rw [q]; exact h) | (simp only [q]; exact h)
    · rename_i q; first | exact lk8_ok _ _ _ h | (rw [q]; exact lk8_ok _ _ _ h) | (simp only [q]; exact lk8_ok _ _ _ h)
def lk10 (a : Nat) (fs : List (Nat × Value)) : Option Value := match fs with | [] => none | (b, v) :: r => (match Nat.beq b a with | true => some v | false => lk9 a r)
theorem lk10_ok (a : Nat) (fs : List (Nat × Value)) (v : Value) (h : lk10 a fs = some v) : look a fs = some v := by
  unfold lk10 at h
  unfold look
  split at h
  · cases h
  · (try dsimp only)
    split at h
    · rename_i q; first | exact h | (rw [q]; exact h) | (simp only [q]; exact h)
    · rename_i q; first | exact lk9_ok _ _ _ h | (rw [q]; exact lk9_ok _ _ _ h) | (simp only [q]; exact lk9_ok _ _ _ h)
def lk11 (a : Nat) (fs : List (Nat × Value)) : Option Value := match fs with | [] => none | (b, v) :: r => (match Nat.beq b a with | true => some v | false => lk10 a r)
theorem lk11_ok (a : Nat) (fs : List (Nat × Value)) (v : Value) (h : lk11 a fs = some v) : look a fs = some v := by
  unfold lk11 at h
  unfold look
  split at h
  · cases h
  · (try dsimp only)
    split at h
    · rename_i q; first | exact h | (rw [q]; exact h) | (simp only [q]; exact h)
    · rename_i q; first | exact lk10_ok _ _ _ h | (rw [q]; exact lk10_ok _ _ _ h) | (simp only [q]; exact lk10_ok _ _ _ h)
def lk12 (a : Nat) (fs : List (Nat × Value)) : Option Value := match fs with | [] => none | (b, v) :: r => (match Nat.beq b a with | true => some v | false => lk11 a r)
theorem lk12_ok (a : Nat) (fs : List (Nat × Value)) (v : Value) (h : lk12 a fs = some v) : look a fs = some v := by
  unfold lk12 at h
  unfold look
  split at h
  · cases h
  · (try dsimp only)
    split at h
    · rename_i q; first | exact h | (rw [q]; exact h) | (simp only [q]; exact h)
    · rename_i q; first | exact lk11_ok _ _ _ h | (rw [q]; exact lk11_ok _ _ _ h) | (simp only [q]; exact lk11_ok _ _ _ h)
/-! ### what an answer means -/
/-- an answer's meaning goes back over steps and calls; z says nothing -/
def Bk (G : Cx) (fr lo : Nat) (M : Meth) {α : Type} (z : α) (Ok : α → Cfg → Prop) : Prop :=
  (∀ cf, Ok z cf) ∧ (∀ x cf cf', next G fr lo M cf = some cf' → Ok x cf' → Ok x cf) ∧
  (∀ x f H c s n M' fr' lo' as rest w H' c' s', cstep G fr lo M (f, H, c, s) = some (n, M', fr', lo', as, rest) → EW G fr' lo' M' (fun q => q = (w, H', c', s')) ((0, entL as M'.2.2.1, []), H, 0, 0) → Ok x ((f.1 + n, f.2.1, w.toList ++ rest), H', c + c', s + s') → Ok x (f, H, c, s))
def Snd (M : Meth) {α : Type} (Ok : α → Cfg → Prop) (pc : Nat) (f : Code α) : Prop := ∀ ls st H c s, ls.length = M.2.2.1 → Ok (f ls st H c s) ((pc, ls, st), H, c, s)
variable {G : Cx} {fr lo : Nat} {M : Meth} {Q : Res → Prop}
def OkR (G : Cx) (fr lo : Nat) (M : Meth) (o : Option Res) (cf : Cfg) : Prop := ∀ r, o = some r → EW G fr lo M (fun q => q = r) cf
def OkB (G : Cx) (fr lo : Nat) (M : Meth) (Q : Res → Prop) (b : Bool) (cf : Cfg) : Prop := b = true → EW G fr lo M Q cf
theorem bkR : Bk G fr lo M none (OkR G fr lo M) :=
  ⟨fun _ r h => by (cases h), fun x cf cf' h q r e => EW.run 1 (show (match next G fr lo M cf with | some cf' => some cf' | none => none) = _ by rw [h]) (q r e),
   fun x f H c s n M' fr' lo' as rest w H' c' s' h hc q r e => EW.call h hc (fun w2 H2 c2 s2 e2 => by cases e2; exact q r e)⟩
theorem bkB : Bk G fr lo M false (OkB G fr lo M Q) :=
  ⟨fun _ h => by (cases h), fun x cf cf' h q e => EW.run 1 (show (match next G fr lo M cf with | some cf' => some cf' | none => none) = _ by rw [h]) (q e),
   fun x f H c s n M' fr' lo' as rest w H' c' s' h hc q e => EW.call h hc (fun w2 H2 c2 s2 e2 => by cases e2; exact q e)⟩

section Next
variable {i : Instr} {a k c : Nat} {v : Value} {f f' : Fm} {H H' : List Obj} {X : Nat × Nat}
theorem next_p {Y : List Obj × Nat × Nat} (hf : M.2.2.2.2 f.1 = some (i, a, k, c, v)) (h : pstep G.2.2.2.2.1 i v f = some f') : next G fr lo M (f, Y) = some (f', Y) := by
  unfold next; simp only [hf, h]
theorem next_t {Y : List Obj × Nat × Nat} (hf : M.2.2.2.2 f.1 = some (i, a, k, c, v)) (h0 : pstep G.2.2.2.2.1 i v f = none) (h : tstep G.2.2.2.2.2.2 i f = some f') : next G fr lo M (f, Y) = some (f', Y) := by
  unfold next; simp only [hf, h0, h]
theorem next_h (hf : M.2.2.2.2 f.1 = some (i, a, k, c, v)) (h0 : pstep G.2.2.2.2.1 i v f = none) (h1 : tstep G.2.2.2.2.2.2 i f = none) (h : hstep G.2.1 G.2.2.1 G.2.2.2.1 G.2.2.2.2.2.1 i a k c f H = some (f', H')) : next G fr lo M (f, H, X) = some (f', H', X) := by
  unfold next; simp only [hf, h0, h1, h]
theorem next_a {ds cc s : Nat} (hf : M.2.2.2.2 f.1 = some (i, a, k, c, v)) (h0 : pstep G.2.2.2.2.1 i v f = none) (h1 : tstep G.2.2.2.2.2.2 i f = none) (h2 : hstep G.2.1 G.2.2.1 G.2.2.2.1 G.2.2.2.2.2.1 i a k c f H = none) (h3 : rstep M.2.2.2.1 i f.2.2 = none) (h : astep G.2.2.2.1 i c f H = some (f', H', ds)) : next G fr lo M (f, H, cc, s) = some (f', H', cc + 1, s + ds) := by
  unfold next; simp only [hf, h0, h1, h2, h3, h]
theorem next_i (hf : M.2.2.2.2 f.1 = some (i, a, k, c, v)) (h0 : pstep G.2.2.2.2.1 i v f = none) (h1 : tstep G.2.2.2.2.2.2 i f = none) (h2 : hstep G.2.1 G.2.2.1 G.2.2.2.1 G.2.2.2.2.2.1 i a k c f H = none) (h3 : rstep M.2.2.2.1 i f.2.2 = none) (h4 : astep G.2.2.2.1 i c f H = none) (h : istep M.2.2.1 fr lo i c f = some f') : next G fr lo M (f, H, X) = some (f', H, X) := by
  unfold next; simp only [hf, h0, h1, h2, h3, h4, h]
end Next

/-! ### the small functions -/
variable {α : Type}
def cLd (z : α) (ok : Value → Bool) (acc : List Slot → Slot) (K : Code α) : Code α := fun ls st H c s =>
  match acc ls with
  | .val v => (match ok v with | true => K ls (v :: st) H c s | false => z)
  | _ => z
def cSt (z : α) (ok : Value → Bool) (acc : List Slot → Slot) (upd : List Slot → Slot → List Slot) (K : Code α) : Code α := fun ls st H c s =>
  match st with
  | v :: st => (match ok v with | true => (match pl (acc ls) with | true => K (upd ls (.val v)) st H c s | false => z) | false => z)
  | [] => z
def cPsh (v : Value) (K : Code α) : Code α := fun ls st H c s => K ls (v :: st) H c s
def cB (z : α) (g : Int32 → Int32 → Int32) (K : Code α) : Code α := fun ls st H c s =>
  match st with
  | .int y :: .int x :: st => K ls (.int (g x y) :: st) H c s
  | _ => z
def cBT (z : α) (g : Int32 → Int32 → Int32) (tb : Nat → Nat → Option Value) (K : Code α) : Code α := fun ls st H c s =>
  match st with
  | .int y :: w :: st => (match w with
    | .int x => K ls (.int (g x y) :: st) H c s
    | .retAddr t => (match tb t (bts y) with | some v => K ls (v :: st) H c s | none => z)
    | _ => z)
  | _ => z
def cB0 (z : α) (g : Int32 → Int32 → Int32) (tb : Nat → Nat → Option Value) (K : Code α) : Code α := fun ls st H c s =>
  match st with
  | .int y :: w :: st => (match w with
    | .int x => (match Nat.beq (bts y) 0 with | true => z | false => K ls (.int (g x y) :: st) H c s)
    | .retAddr t => (match tb t (bts y) with | some v => K ls (v :: st) H c s | none => z)
    | _ => z)
  | _ => z
def cIc (z : α) (h : Int32 → Int32 → Bool) (T E : Code α) : Code α := fun ls st H c s =>
  match st with
  | .int y :: .int x :: st => (match h x y with | true => T ls st H c s | false => E ls st H c s)
  | _ => z
def cIf (z : α) (h : Int32 → Int32 → Bool) (T E : Code α) : Code α := fun ls st H c s =>
  match st with
  | .int x :: st => (match h x 0 with | true => T ls st H c s | false => E ls st H c s)
  | _ => z
def cInc (z : α) (d : Int32) (acc : List Slot → Slot) (upd : List Slot → Slot → List Slot) (K : Code α) : Code α := fun ls st H c s =>
  match acc ls with
  | .val (.int x) => K (upd ls (.val (.int (addF x d)))) st H c s
  | _ => z
/-- dup and its kin: the step itself -/
def cPs (z : α) (pc : Nat) (g : Fm → Option Fm) (K : Code α) : Code α := fun ls st H c s =>
  match g (pc, ls, st) with
  | some (_, _, st) => K ls st H c s
  | none => z
def cHs (z : α) (pc : Nat) (g : Fm → List Obj → Option (Fm × List Obj)) (K : Code α) : Code α := fun ls st H c s =>
  match g (pc, ls, st) H with
  | some ((_, _, st), H) => K ls st H c s
  | none => z
def cGet (z : α) (a : Nat) (K : Code α) : Code α := fun ls st H c s =>
  match st with
  | .ref o :: st => (match nx H o with
    | some (.inr (_, fs)) => (match lk12 a fs with | some v => K ls (v :: st) H c s | none => z)
    | _ => z)
  | _ => z
def cALd (z : α) (ok : FieldType → Bool) (K : Code α) : Code α := fun ls st H c s =>
  match st with
  | .int j :: .ref a :: st => (match nx H a with
    | some (.inl (ty, vs)) => (match ok ty with
      | true => (match nx vs (bts j) with | some v => (match kn v with | true => K ls (v :: st) H c s | false => z) | none => z)
      | false => z)
    | _ => z)
  | _ => z
def cASt (z : α) (b : Nat) (ok : FieldType → Bool) (K : Code α) : Code α := fun ls st H c s =>
  match st with
  | .int x :: .int j :: .ref a :: st => (match nx H a with
    | some (.inl (ty, vs)) => (match ok ty with
      | true => (match Nat.ble b a with
        | true => (match sx vs (bts j) (.int (nar ty x)) with
          | some vs' => (match sx H a (.inl (ty, vs')) with | some H' => K ls st H' c s | none => z)
          | none => z)
        | false => z)
      | false => z)
    | _ => z)
  | _ => z
def cNew (z : α) (o : Obj) (sl : Nat) (K : Code α) : Code α := fun ls st H c s =>
  match sn H o with
  | some (H', n) => K ls (.ref n :: st) H' (c + 1) (s + sl)
  | none => z
def cArr (z : α) (ty : FieldType) (K : Code α) : Code α := fun ls st H c s =>
  match st with
  | .int n :: st => (match Nat.ble (bts n) 1000 with
    | true => (match sn H (.inl (ty, List.replicate (bts n) (defaultValue ty))) with
      | some (H', o) => K ls (.ref o :: st) H' (c + 1) (s + bts n)
      | none => z)
    | false => z)
  | _ => z
def wOk (W : Nat) : List Value → Bool
  | [] => true
  | r => Nat.ble (wt r) W
/-- Object's constructor -/
def cObj (z : α) (W : Nat) (K : Code α) : Code α := fun ls st H c s =>
  match st with
  | .ref _ :: st => (match wOk W st with | true => K ls st H c s | false => z)
  | _ => z
def rvS : List Obj → List Slot → Bool := fun _ _ => true
def rvN : List Obj → List Slot → Bool := fun _ as => match as with | .val (.ref _) :: _ => true | _ => false
def rvV (c : Nat) : List Obj → List Slot → Bool := fun H as => match as with
  | .val (.ref o) :: _ => (match nx H o with | some (.inr (C, _)) => Nat.beq C c | _ => false)
  | _ => false
def cCall (z : α) (tk : List Value → List Slot → Option (List Slot × List Value)) (us : List Slot) (rv : List Obj → List Slot → Bool) (W : Nat) (mc : Code (Option Res)) (K : Code α) : Code α := fun ls st H c s =>
  match tk st us with
  | some (as, rest) => (match rv H as with
    | true => (match wOk W rest with
      | true => (match mc as [] H 0 0 with
        | some (some v, H', c', s') => K ls (v :: rest) H' (c + c') (s + s')
        | some (none, H', c', s') => K ls rest H' (c + c') (s + s')
        | none => z)
      | false => z)
    | false => z)
  | none => z
def cRet (g : List Value → Option (Option Value)) : Code (Option Res) := fun _ st H c s =>
  match g st with
  | some v => some (v, H, c, s)
  | none => none
def rI : List Value → Option (Option Value) | .int x :: _ => some (some (.int x)) | _ => none
def rN (t : FieldType) : List Value → Option (Option Value) | .int x :: _ => some (some (.int (nar t x))) | _ => none
def rV : List Value → Option (Option Value) | [] => some none | _ => none
/-- the law's end -/
def cEnd (C S : Nat) : Code Bool := fun _ st _ c s =>
  match st with
  | .int x :: _ => (match Nat.beq (bts (nar .boolean x)) 1 with | true => (match Nat.ble c C with | true => Nat.ble s S | false => false) | false => false)
  | _ => false

/-! ### and what they say -/
section Say
variable {z : α} {Ok : α → Cfg → Prop} {pc k n i' a kk c : Nat} {i : Instr} {v : Value} {K : Code α}
theorem Snd.ld (B : Bk G fr lo M z Ok) {ok : Value → Bool} {acc : List Slot → Slot} (hf : M.2.2.2.2 pc = some (i, a, kk, c, v)) (hi : ∀ f, pstep G.2.2.2.2.1 i v f = ld n k ok f) (ha : Acc acc k) (hn : Snd M Ok (pc + n) K) : Snd M Ok pc (cLd z ok acc K) := by
  intro ls st H cc s hl
  unfold cLd
  split
  · rename_i w q
    split
    · rename_i q2
      refine B.2.1 _ _ _ (next_p hf (f' := (pc + n, ls, w :: st)) ?_) (hn _ _ _ _ _ hl)
      rw [hi]; simp only [Eng.ld, ha.at q, q2, if_true]
    · exact B.1 _
  · exact B.1 _
theorem Snd.st (B : Bk G fr lo M z Ok) {ok : Value → Bool} {acc : List Slot → Slot} {upd : List Slot → Slot → List Slot} (hf : M.2.2.2.2 pc = some (i, a, kk, c, v)) (hi : ∀ f, pstep G.2.2.2.2.1 i v f = sto n k ok f) (hc : ∀ v, ok v = true → v.category = 1) (ha : Acc acc k) (hu : Upd upd k) (hn : Snd M Ok (pc + n) K) : Snd M Ok pc (cSt z ok acc upd K) := by
  intro ls st H cc s hl
  unfold cSt
  split
  · rename_i w st
    split
    · rename_i q
      split
      · rename_i q2
        have h1 := ha.pl q2
        have h2 := stL_pl h1 q2 (hc w q)
        have hk : k < ls.length := (List.getElem?_eq_some_iff.mp h1).1
        rw [hu _ _ hk]
        refine B.2.1 _ _ _ (next_p hf (f' := (pc + n, ls.set k (.val w), st)) ?_) (hn _ _ _ _ _ (by rw [List.length_set]; exact hl))
        rw [hi]; simp only [sto, q, h2, if_true]
      · exact B.1 _
    · exact B.1 _
  · exact B.1 _
theorem Snd.psh (B : Bk G fr lo M z Ok) {w : Value} (hf : M.2.2.2.2 pc = some (i, a, kk, c, v)) (hi : ∀ f, pstep G.2.2.2.2.1 i v f = psh n w f) (hn : Snd M Ok (pc + n) K) : Snd M Ok pc (cPsh w K) := by
  intro ls st H cc s hl
  exact B.2.1 _ _ _ (next_p hf (f' := (pc + n, ls, w :: st)) (by rw [hi]; rfl)) (hn _ _ _ _ _ hl)
theorem Snd.b (B : Bk G fr lo M z Ok) {g g' : Int32 → Int32 → Int32} (hf : M.2.2.2.2 pc = some (i, a, kk, c, v)) (hi : ∀ f, pstep G.2.2.2.2.1 i v f = bI g' f) (hg : ∀ x y, g x y = g' x y) (hn : Snd M Ok (pc + 1) K) : Snd M Ok pc (cB z g K) := by
  intro ls st H cc s hl
  unfold cB
  split
  · rename_i y x st
    exact B.2.1 _ _ _ (next_p hf (f' := (pc + 1, ls, .int (g x y) :: st)) (by rw [hi, hg]; rfl)) (hn _ _ _ _ _ hl)
  · exact B.1 _
theorem Snd.bT (B : Bk G fr lo M z Ok) {g : Int32 → Int32 → Int32} {tb : Nat → Nat → Option Value} (hf : M.2.2.2.2 pc = some (i, a, kk, c, v)) (hi : ∀ f, pstep G.2.2.2.2.1 i v f = bI g f) (ht : ∀ f, tstep G.2.2.2.2.2.2 i f = tstep.tI2 G.2.2.2.2.2.2 i f) (hb : ∀ t y w, tb t (bts y) = some w → G.2.2.2.2.2.2 i t y = some w) (hn : Snd M Ok (pc + 1) K) : Snd M Ok pc (cBT z g tb K) := by
  intro ls st H cc s hl
  unfold cBT
  split
  · rename_i y w st
    split
    · rename_i x
      exact B.2.1 _ _ _ (next_p hf (f' := (pc + 1, ls, .int (g x y) :: st)) (by rw [hi]; rfl)) (hn _ _ _ _ _ hl)
    · rename_i t
      split
      · rename_i u q
        refine B.2.1 _ _ _ (next_t hf (f' := (pc + 1, ls, u :: st)) (by rw [hi]; rfl) ?_) (hn _ _ _ _ _ hl)
        rw [ht]; simp only [tstep.tI2, hb _ _ _ q]
      · exact B.1 _
    · exact B.1 _
  · exact B.1 _
theorem Snd.b0 (B : Bk G fr lo M z Ok) {g : Int32 → Int32 → Int32} {tb : Nat → Nat → Option Value} (hf : M.2.2.2.2 pc = some (i, a, kk, c, v)) (hi : ∀ f, pstep G.2.2.2.2.1 i v f = bI0 g f) (ht : ∀ f, tstep G.2.2.2.2.2.2 i f = tstep.tI2 G.2.2.2.2.2.2 i f) (hb : ∀ t y w, tb t (bts y) = some w → G.2.2.2.2.2.2 i t y = some w) (hn : Snd M Ok (pc + 1) K) : Snd M Ok pc (cB0 z g tb K) := by
  intro ls st H cc s hl
  unfold cB0
  split
  · rename_i y w st
    split
    · rename_i x
      split
      · exact B.1 _
      · rename_i q
        have hy : y ≠ 0 := fun e => by rw [e] at q; exact absurd q (by decide)
        exact B.2.1 _ _ _ (next_p hf (f' := (pc + 1, ls, .int (g x y) :: st)) (by rw [hi]; simp only [bI0, hy, if_false])) (hn _ _ _ _ _ hl)
    · rename_i t
      split
      · rename_i u q
        refine B.2.1 _ _ _ (next_t hf (f' := (pc + 1, ls, u :: st)) (by rw [hi]; rfl) ?_) (hn _ _ _ _ _ hl)
        rw [ht]; simp only [tstep.tI2, hb _ _ _ q]
      · exact B.1 _
    · exact B.1 _
  · exact B.1 _
theorem Snd.goto (B : Bk G fr lo M z Ok) {o : Int} {t : Nat} (hf : M.2.2.2.2 pc = some (.goto o, a, kk, c, v)) (ho : (pc : Int) + o = t) (hn : Snd M Ok t K) : Snd M Ok pc K := by
  intro ls st H cc s hl
  refine B.2.1 _ _ _ (next_p hf (f' := (t, ls, st)) ?_) (hn _ _ _ _ _ hl)
  show (if 0 ≤ (pc : Int) + o then some (((pc : Int) + o).toNat, ls, st) else none) = _
  rw [ho, if_pos (by omega)]; rfl
theorem br_t {o : Int} {pc t : Nat} {ls : List Slot} {st : List Value} (ho : (pc : Int) + o = t) : br true o pc ls st = some (t, ls, st) := by
  unfold br
  rw [ho, if_pos (by omega)]; rfl
theorem Snd.ic (B : Bk G fr lo M z Ok) {o : Int} {t : Nat} {cd : ClassFile.Cond} {h : Int32 → Int32 → Bool} {T E : Code α} (hf : M.2.2.2.2 pc = some (.if_icmp cd o, a, kk, c, v)) (ho : (pc : Int) + o = t) (hh : ∀ x y, if_icmp.holds cd x y = h x y) (hT : Snd M Ok t T) (hE : Snd M Ok (pc + 3) E) : Snd M Ok pc (cIc z h T E) := by
  intro ls st H cc s hl
  unfold cIc
  split
  · rename_i y x st
    split
    · rename_i q
      refine B.2.1 _ _ _ (next_p hf (f' := (t, ls, st)) ?_) (hT _ _ _ _ _ hl)
      show br (if_icmp.holds cd x y) o pc ls st = _
      rw [hh, q, br_t ho]
    · rename_i q
      refine B.2.1 _ _ _ (next_p hf (f' := (pc + 3, ls, st)) ?_) (hE _ _ _ _ _ hl)
      show br (if_icmp.holds cd x y) o pc ls st = _
      rw [hh, q]; rfl
  · exact B.1 _
theorem Snd.ifc (B : Bk G fr lo M z Ok) {o : Int} {t : Nat} {cd : ClassFile.Cond} {h : Int32 → Int32 → Bool} {T E : Code α} (hf : M.2.2.2.2 pc = some (.ifCond cd o, a, kk, c, v)) (ho : (pc : Int) + o = t) (hh : ∀ x y, if_icmp.holds cd x y = h x y) (hT : Snd M Ok t T) (hE : Snd M Ok (pc + 3) E) : Snd M Ok pc (cIf z h T E) := by
  intro ls st H cc s hl
  unfold cIf
  split
  · rename_i x st
    split
    · rename_i q
      refine B.2.1 _ _ _ (next_p hf (f' := (t, ls, st)) ?_) (hT _ _ _ _ _ hl)
      show br (ifCond.holds cd x) o pc ls st = _
      rw [h0, hh, q, br_t ho]
    · rename_i q
      refine B.2.1 _ _ _ (next_p hf (f' := (pc + 3, ls, st)) ?_) (hE _ _ _ _ _ hl)
      show br (ifCond.holds cd x) o pc ls st = _
      rw [h0, hh, q]; rfl
  · exact B.1 _
theorem Snd.inc (B : Bk G fr lo M z Ok) {d : Int} {acc : List Slot → Slot} {upd : List Slot → Slot → List Slot} (hf : M.2.2.2.2 pc = some (.iinc k d, a, kk, c, v)) (ha : Acc acc k) (hu : Upd upd k) (hn : Snd M Ok (pc + 3) K) : Snd M Ok pc (cInc z (Int32.ofInt d) acc upd K) := by
  intro ls st H cc s hl
  unfold cInc
  split
  · rename_i x q
    have h1 := ha.at q
    have hk : k < ls.length := (List.getElem?_eq_some_iff.mp h1).1
    rw [hu _ _ hk, addF_ok]
    refine B.2.1 _ _ _ (next_p hf (f' := (pc + 3, ls.set k (.val (.int (x + Int32.ofInt d))), st)) ?_) (hn _ _ _ _ _ (by rw [List.length_set]; exact hl))
    show pIinc k d (pc, ls, st) = _
    simp only [pIinc, h1]
    rw [stL_pl h1 rfl rfl]
  · exact B.1 _
def Only (g : Fm → Option Fm) : Prop := ∀ pc ls st f', g (pc, ls, st) = some f' → f' = (pc + 1, ls, f'.2.2)
theorem onlyDup : Only pDup := fun pc ls st f' h => by
  unfold pDup at h; split at h
  · rename_i q; cases q; split at h <;> cases h; rfl
  · cases h
theorem onlyDup2 : Only pDup2 := fun pc ls st f' h => by
  unfold pDup2 at h; split at h
  · rename_i q; cases q; split at h <;> cases h; rfl
  · cases h
theorem onlyDupX1 : Only pDupX1 := fun pc ls st f' h => by
  unfold pDupX1 at h; split at h
  · rename_i q; cases q; split at h <;> cases h; rfl
  · cases h
theorem onlyDupX2 : Only pDupX2 := fun pc ls st f' h => by
  unfold pDupX2 at h; split at h
  · rename_i q; cases q; split at h <;> cases h; rfl
  · cases h
theorem onlyPop : Only pPop := fun pc ls st f' h => by
  unfold pPop at h; split at h
  · rename_i q; cases q; split at h <;> cases h; rfl
  · cases h
theorem Snd.p (B : Bk G fr lo M z Ok) {g : Fm → Option Fm} (hf : M.2.2.2.2 pc = some (i, a, kk, c, v)) (hi : ∀ f, pstep G.2.2.2.2.1 i v f = g f) (hg : Only g) (hn : Snd M Ok (pc + 1) K) : Snd M Ok pc (cPs z pc g K) := by
  intro ls st H cc s hl
  unfold cPs
  split
  · rename_i p' l' s' q
    have e := hg _ _ _ _ q
    refine B.2.1 _ _ _ (next_p hf (f' := (pc + 1, ls, s')) ?_) (hn _ _ _ _ _ hl)
    rw [hi, q, e]
  · exact B.1 _
def OnlyH (n : Nat) (g : Fm → List Obj → Option (Fm × List Obj)) : Prop := ∀ pc ls st H f' H', g (pc, ls, st) H = some (f', H') → f' = (pc + n, ls, f'.2.2)
theorem onlyPut {b a k : Nat} {CT : Nat → Option Fls} : OnlyH 3 (hPut b CT a k) := fun pc ls st H f' H' h => by
  unfold hPut at h; split at h
  · rename_i q; cases q
    split at h
    · split at h
      · split at h
        · split at h <;> cases h; rfl
        · cases h
      · cases h
    · cases h
  · cases h
theorem onlyLen : OnlyH 1 hLen := fun pc ls st H f' H' h => by
  unfold hLen at h; split at h
  · rename_i q; cases q
    split at h <;> cases h; rfl
  · cases h
theorem Snd.hs (B : Bk G fr lo M z Ok) {g : Fm → List Obj → Option (Fm × List Obj)} (hf : M.2.2.2.2 pc = some (i, a, kk, c, v)) (h0 : ∀ f, pstep G.2.2.2.2.1 i v f = none) (h1 : ∀ f, tstep G.2.2.2.2.2.2 i f = none) (hi : ∀ f H, hstep G.2.1 G.2.2.1 G.2.2.2.1 G.2.2.2.2.2.1 i a kk c f H = g f H) (hg : OnlyH n g) (hn : Snd M Ok (pc + n) K) : Snd M Ok pc (cHs z pc g K) := by
  intro ls st H cc s hl
  unfold cHs
  split
  · rename_i p' l' s' H' q
    have e := hg _ _ _ _ _ _ q
    refine B.2.1 _ _ _ (next_h hf (f' := (pc + n, ls, s')) (H' := H') (h0 _) (h1 _) ?_) (hn _ _ _ _ _ hl)
    rw [hi, q, e]
  · exact B.1 _
theorem getO_of {H : List Obj} {o C : Nat} {fs : List (Nat × Value)} (q : nx H o = some (.inr (C, fs))) : getO H o = some (C, fs) := by
  unfold getO; rw [(nx_ok _ _ _ q).1]
theorem getA_of {H : List Obj} {o : Nat} {ty : FieldType} {vs : List Value} (q : nx H o = some (.inl (ty, vs))) : getA H o = some (ty, vs) := by
  unfold getA; rw [(nx_ok _ _ _ q).1]
theorem Snd.get (B : Bk G fr lo M z Ok) {idx : Nat} (hf : M.2.2.2.2 pc = some (.getfield idx, a, kk, c, v)) (hn : Snd M Ok (pc + 3) K) : Snd M Ok pc (cGet z a K) := by
  intro ls st H cc s hl
  unfold cGet
  split
  · rename_i o st
    split
    · rename_i C fs q
      split
      · rename_i w q2
        refine B.2.1 _ _ _ (next_h hf (f' := (pc + 3, ls, w :: st)) (H' := H) rfl rfl ?_) (hn _ _ _ _ _ hl)
        show hGet a (pc, ls, .ref o :: st) H = _
        simp only [hGet, getO_of q, lk12_ok _ _ _ q2]
      · exact B.1 _
    · exact B.1 _
  · exact B.1 _
theorem Snd.ald (B : Bk G fr lo M z Ok) {ok : FieldType → Bool} (hf : M.2.2.2.2 pc = some (i, a, kk, c, v)) (h0 : ∀ f, pstep G.2.2.2.2.1 i v f = none) (h1 : ∀ f, tstep G.2.2.2.2.2.2 i f = none) (hi : ∀ f H, hstep G.2.1 G.2.2.1 G.2.2.2.1 G.2.2.2.2.2.1 i a kk c f H = hLd ok f H) (hn : Snd M Ok (pc + 1) K) : Snd M Ok pc (cALd z ok K) := by
  intro ls st H cc s hl
  unfold cALd
  split
  · rename_i j o st
    split
    · rename_i ty vs q
      split
      · rename_i q2
        split
        · rename_i w q3
          split
          · rename_i q4
            refine B.2.1 _ _ _ (next_h hf (f' := (pc + 1, ls, w :: st)) (H' := H) (h0 _) (h1 _) ?_) (hn _ _ _ _ _ hl)
            rw [hi]
            obtain ⟨e1, e2⟩ := nx_ok _ _ _ q3
            obtain ⟨e3, e4⟩ := bts_in (j := j) (by omega)
            simp only [hLd, getA_of q, q2, e3, decide_false, Bool.not_false, Bool.and_self, if_true, e4, e1, q4]
          · exact B.1 _
        · exact B.1 _
      · exact B.1 _
    · exact B.1 _
  · exact B.1 _
theorem Snd.ast (B : Bk G fr lo M z Ok) {ok : FieldType → Bool} (hf : M.2.2.2.2 pc = some (i, a, kk, c, v)) (h0 : ∀ f, pstep G.2.2.2.2.1 i v f = none) (h1 : ∀ f, tstep G.2.2.2.2.2.2 i f = none) (hi : ∀ f H, hstep G.2.1 G.2.2.1 G.2.2.2.1 G.2.2.2.2.2.1 i a kk c f H = hSt G.2.1 ok f H) (hn : Snd M Ok (pc + 1) K) : Snd M Ok pc (cASt z G.2.1 ok K) := by
  intro ls st H cc s hl
  unfold cASt
  split
  · rename_i x j o st
    split
    · rename_i ty vs q
      split
      · rename_i q2
        split
        · rename_i q3
          split
          · rename_i vs' q4
            split
            · rename_i H' q5
              obtain ⟨e1, e2, e5⟩ := sx_ok _ _ _ _ q4
              obtain ⟨-, e6, -⟩ := sx_ok _ _ _ _ q5
              obtain ⟨e3, e4⟩ := bts_in (j := j) (by omega)
              refine B.2.1 _ _ _ (next_h hf (f' := (pc + 1, ls, st)) (H' := H') (h0 _) (h1 _) ?_) (hn _ _ _ _ _ hl)
              rw [hi]
              have hb : Nat.blt (bts j) vs.length = true := Nat.ble_eq_true_of_le e1
              simp only [hSt, getA_of q, q2, q3, e3, decide_false, Bool.not_false, Bool.and_self, e4, hb, if_true, e6, e2]
            · exact B.1 _
          · exact B.1 _
        · exact B.1 _
      · exact B.1 _
    · exact B.1 _
  · exact B.1 _
theorem Snd.new (B : Bk G fr lo M z Ok) {idx sl : Nat} {fl : List (Nat × Value × Bool)} {o : Obj} (hf : M.2.2.2.2 pc = some (.new idx, a, kk, c, v)) (hC : G.2.2.2.1 c = some (sl, fl)) (ho : o = .inr (c, fl.map fun q => (q.1, q.2.1))) (hn : Snd M Ok (pc + 3) K) : Snd M Ok pc (cNew z o sl K) := by
  intro ls st H cc s hl
  unfold cNew
  split
  · rename_i H' n q
    obtain ⟨e1, e2⟩ := sn_ok _ _ _ _ q
    have e3 : n = H.length := by omega
    subst e1; subst e3
    refine B.2.1 _ _ _ (next_a hf (f' := (pc + 3, ls, .ref H.length :: st)) (H' := H ++ [o]) (ds := sl) rfl rfl rfl rfl ?_) (hn _ _ _ _ _ hl)
    show aNew G.2.2.2.1 c (pc, ls, st) H = _
    simp only [aNew, hC, ho]
  · exact B.1 _
theorem Snd.arr (B : Bk G fr lo M z Ok) {aty : ArrayType} {ty : FieldType} (hf : M.2.2.2.2 pc = some (.newarray aty, a, kk, c, v)) (ht : newarray.typeOf aty = ty) (hn : Snd M Ok (pc + 2) K) : Snd M Ok pc (cArr z ty K) := by
  intro ls st H cc s hl
  subst ht
  unfold cArr
  split
  · rename_i n st
    split
    · rename_i q1
      split
      · rename_i H' o q
        obtain ⟨e1, e2⟩ := sn_ok _ _ _ _ q
        have hb := Nat.le_of_ble_eq_true q1
        obtain ⟨e3, e4⟩ := bts_in (j := n) (by omega)
        have e5 : o = H.length := by omega
        subst e1; subst e5
        refine B.2.1 _ _ _ (next_a hf (f' := (pc + 2, ls, .ref H.length :: st)) (H' := H ++ [.inl (newarray.typeOf aty, List.replicate (bts n) (defaultValue (newarray.typeOf aty)))]) (ds := bts n) rfl rfl rfl rfl ?_) (hn _ _ _ _ _ hl)
        show aArr aty (pc, ls, .int n :: st) H = _
        have e6 : Nat.ble (bts n * 8) 536870912 = true := Nat.ble_eq_true_of_le (by omega)
        simp only [aArr, e3, decide_false, Bool.not_false, e4, e6, Bool.and_self, if_true]
      · exact B.1 _
    · exact B.1 _
  · exact B.1 _
theorem wOk_le {W : Nat} {r : List Value} (h : wOk W r = true) : wt r ≤ W := by
  cases r with
  | nil => exact Nat.zero_le _
  | cons x t => exact Nat.le_of_ble_eq_true h
theorem Snd.obj (B : Bk G fr lo M z Ok) {idx W : Nat} (hf : M.2.2.2.2 pc = some (.invokespecial idx, a, kk, 1, v)) (h1 : 1 ≤ fr) (h2 : W + 12 ≤ lo) (hn : Snd M Ok (pc + 3) K) : Snd M Ok pc (cObj z W K) := by
  intro ls st H cc s hl
  unfold cObj
  split
  · rename_i o st
    split
    · rename_i q
      have := wOk_le q
      refine B.2.1 _ _ _ (next_i hf (f' := (pc + 3, ls, st)) rfl rfl rfl rfl rfl ?_) (hn _ _ _ _ _ hl)
      have e1 : Nat.ble 1 fr = true := Nat.ble_eq_true_of_le h1
      have e2 : Nat.ble (wt st + 12) lo = true := Nat.ble_eq_true_of_le (by omega)
      have e3 : Nat.beq ls.length M.2.2.1 = true := by rw [hl]; exact Nat.beq_refl _
      have e4 : Nat.beq 1 1 = true := rfl
      simp only [istep, e1, e2, e3, e4, Bool.and_self, if_true]
    · exact B.1 _
  · exact B.1 _
/-- more room does no harm -/
theorem istep_up {maxL fr lo fr' lo' : Nat} {i : Instr} {c : Nat} {f f' : Fm} (h1 : fr ≤ fr') (h2 : lo ≤ lo') (h : istep maxL fr lo i c f = some f') : istep maxL fr' lo' i c f = some f' := by
  unfold istep at h ⊢
  split at h
  · split at h
    · split at h
      · rename_i q
        simp only [Bool.and_eq_true] at q
        obtain ⟨⟨⟨q1, q2⟩, q3⟩, q4⟩ := q
        have q2' : Nat.ble 1 fr' = true := Nat.ble_eq_true_of_le (Nat.le_trans (Nat.le_of_ble_eq_true q2) h1)
        rename_i st
        have q3' := Nat.ble_eq_true_of_le (Nat.le_trans (Nat.le_of_ble_eq_true q3) h2)
        simp only [q1, q2', q3', q4, Bool.and_self, if_true]
        exact h
      · cases h
    · cases h
  · cases h
theorem istep_one {maxL fr lo : Nat} {i : Instr} {c : Nat} {f f' : Fm} (h : istep maxL fr lo i c f = some f') : c = 1 ∧ ∃ idx, i = .invokespecial idx := by
  unfold istep at h
  split at h
  · split at h
    · split at h
      · rename_i q
        simp only [Bool.and_eq_true] at q
        exact ⟨Nat.eq_of_beq_eq_true q.1.1.1, _, rfl⟩
      · cases h
    · cases h
  · cases h
theorem callee_up {P : Nat → Option Meth} {maxL fr lo fr2 lo2 : Nat} {i : Instr} {a k c : Nat} {f : Fm} {H : List Obj} {M' : Meth} {fr' lo' : Nat} {as rest : List Value} (h1 : fr ≤ fr2) (h2 : lo ≤ lo2) (h : callee P maxL fr lo i a k c f H = some (M', fr', lo', as, rest)) :
    ∃ fr3 lo3, fr' ≤ fr3 ∧ lo' ≤ lo3 ∧ callee P maxL fr2 lo2 i a k c f H = some (M', fr3, lo3, as, rest) := by
  unfold callee at h ⊢
  split at h
  · cases h
  · rename_i M0 q0
    split at h
    · rename_i q
      simp only [Bool.and_eq_true] at q
      obtain ⟨⟨⟨⟨q1, q2⟩, q3⟩, q4⟩, q5⟩ := q
      cases h
      have q2' : Nat.ble 1 fr2 = true := Nat.ble_eq_true_of_le (Nat.le_trans (Nat.le_of_ble_eq_true q2) h1)
      have q3' : Nat.ble (wt (List.drop k f.2.2) + (M'.2.2.1 + 11)) lo2 = true := Nat.ble_eq_true_of_le (Nat.le_trans (Nat.le_of_ble_eq_true q3) h2)
      exact ⟨fr2 - 1, lo2 - (wt (List.drop k f.2.2) + (M'.2.2.1 + 11)), by omega, by omega, by simp only [q1, q2', q3', q4, q5, Bool.and_self, if_true]⟩
    · cases h
theorem exec_up : ∀ (n fr lo fr2 lo2 : Nat) (M : Meth) (cf : Cfg) (r : Res), fr ≤ fr2 → lo ≤ lo2 → exec G n fr lo M cf = some r → exec G n fr2 lo2 M cf = some r
  | 0, _, _, _, _, _, _, _, _, _, h => by cases h
  | n + 1, fr, lo, fr2, lo2, M, cf, r, h1, h2, h => by
    have h' : body G (exec G n) fr lo M cf = some r := h
    show body G (exec G n) fr2 lo2 M cf = some r
    unfold body at h' ⊢
    split at h'
    · cases h'
    · rename_i i a k c v q0
      (try simp only [q0])
      split at h'
      · rename_i q1; (try simp only [q1]); exact exec_up n _ _ _ _ _ _ _ h1 h2 h'
      · rename_i q1; (try simp only [q1])
        split at h'
        · rename_i q2; (try simp only [q2]); exact exec_up n _ _ _ _ _ _ _ h1 h2 h'
        · rename_i q2; (try simp only [q2])
          split at h'
          · rename_i q3; (try simp only [q3]); exact exec_up n _ _ _ _ _ _ _ h1 h2 h'
          · rename_i q3; (try simp only [q3])
            split at h'
            · rename_i q4; (try simp only [q4]); exact h'
            · rename_i q4; (try simp only [q4])
              split at h'
              · rename_i q5; (try simp only [q5]); exact exec_up n _ _ _ _ _ _ _ h1 h2 h'
              · rename_i q5; (try simp only [q5])
                split at h'
                · rename_i q6; simp only [istep_up h1 h2 q6]; exact exec_up n _ _ _ _ _ _ _ h1 h2 h'
                · rename_i q6
                  split at h'
                  · rename_i M' fr' lo' as rest qc
                    obtain ⟨fr3, lo3, e1, e2, e3⟩ := callee_up h1 h2 qc
                    have hi : istep M.2.2.1 fr2 lo2 i c cf.1 = none := by
                      cases hq : istep M.2.2.1 fr2 lo2 i c cf.1 with
                      | none => rfl
                      | some f' =>
                        obtain ⟨rfl, idx, rfl⟩ := istep_one hq
                        unfold callee at qc
                        split at qc
                        · cases qc
                        · split at qc
                          · rename_i qq
                            simp only [Bool.and_eq_true] at qq
                            have q5 := qq.2
                            unfold recvOk at q5
                            dsimp only at q5
                            split at q5
                            · exact absurd q5 (by decide)
                            · cases q5
                          · cases qc
                    simp only [hi, e3]
                    split at h'
                    · rename_i r' H' c' s' qe
                      simp only [exec_up n _ _ _ _ _ _ _ e1 e2 qe]
                      exact exec_up n _ _ _ _ _ _ _ h1 h2 h'
                    · cases h'
                  · cases h'
theorem EW.up {fr2 lo2 : Nat} {cf : Cfg} (h1 : fr ≤ fr2) (h2 : lo ≤ lo2) (h : EW G fr lo M Q cf) : EW G fr2 lo2 M Q cf := by
  obtain ⟨r, ⟨n, hr⟩, q⟩ := h
  exact ⟨r, ⟨n, exec_up n _ _ _ _ _ _ _ h1 h2 hr⟩, q⟩
theorem flat_ref {as : List Value} {us : List Slot} {o : Addr} {t : List Slot} (hu : ∀ o t, us ≠ .val (.ref o) :: t) (h : flat as ++ us = .val (.ref o) :: t) : ∃ r, as = .ref o :: r := by
  cases as with
  | nil => exact absurd h (hu _ _)
  | cons x r =>
    unfold flat at h
    split at h
    · rename_i q; cases h; cases q
    · cases h; exact ⟨_, rfl⟩
def NoSt (G : Cx) (fr lo : Nat) (M : Meth) (i : Instr) (a k c : Nat) (v : Value) : Prop := ∀ f H, pstep G.2.2.2.2.1 i v f = none ∧ tstep G.2.2.2.2.2.2 i f = none ∧ hstep G.2.1 G.2.2.1 G.2.2.2.1 G.2.2.2.2.2.1 i a k c f H = none ∧ rstep M.2.2.2.1 i f.2.2 = none ∧ astep G.2.2.2.1 i c f H = none ∧ istep M.2.2.1 fr lo i c f = none
theorem noSt_S {idx : Nat} : NoSt G fr lo M (.invokestatic idx) a k c v := fun _ _ => ⟨rfl, rfl, rfl, rfl, rfl, rfl⟩
theorem noSt_V {idx : Nat} : NoSt G fr lo M (.invokevirtual idx) a k c v := fun _ _ => ⟨rfl, rfl, rfl, rfl, rfl, rfl⟩
theorem noSt_N {idx : Nat} : NoSt G fr lo M (.invokespecial idx) a k 0 v := fun f _ => ⟨rfl, rfl, rfl, rfl, rfl, by
  cases h : istep M.2.2.1 fr lo (.invokespecial idx) 0 f with
  | none => rfl
  | some f' => exact absurd (istep_one h).1 (by decide)⟩
def usOk : List Slot → Prop := fun us => ∀ o t, us ≠ .val (.ref o) :: t
theorem us_nil : usOk [] := fun _ _ h => by cases h
theorem us_cons {t : List Slot} : usOk (.unset :: t) := fun _ _ h => by cases h
theorem rvS_ok {idx : Nat} {us : List Slot} : ∀ H as, rvS H (flat as ++ us) = true → recvOk (.invokestatic idx) H c as = true := fun _ _ _ => rfl
theorem rvN_ok {idx : Nat} {us : List Slot} (hu : usOk us) : ∀ H as, rvN H (flat as ++ us) = true → recvOk (.invokespecial idx) H 0 as = true := by
  intro H as h
  unfold rvN at h
  split at h
  · rename_i o t q
    obtain ⟨r, rfl⟩ := flat_ref hu q
    rfl
  · cases h
theorem rvV_ok {idx : Nat} {us : List Slot} (hu : usOk us) : ∀ H as, rvV c H (flat as ++ us) = true → recvOk (.invokevirtual idx) H c as = true := by
  intro H as h
  unfold rvV at h
  split at h
  · rename_i o t q
    obtain ⟨r, rfl⟩ := flat_ref hu q
    split at h
    · rename_i C fs q2
      show (match getO H o with | some (C, _) => Nat.beq C c | none => false) = true
      rw [getO_of q2]; exact h
    · cases h
  · cases h
theorem Snd.call (B : Bk G fr lo M z Ok) {tk : List Value → List Slot → Option (List Slot × List Value)} {us : List Slot} {rv : List Obj → List Slot → Bool} {W nb frM loM : Nat} {mc : Code (Option Res)} {M' : Meth} (hf : M.2.2.2.2 pc = some (i, a, kk, c, v)) (hN : NoSt G fr lo M i a kk c v) (hlen : ilen i = nb) (hP : G.1 a = some M') (ht : Tk tk kk)
    (hu : us = List.replicate (M'.2.2.1 - kk) .unset) (hk : kk ≤ M'.2.2.1) (hrv : ∀ H as, rv H (flat as ++ us) = true → recvOk i H c as = true)
    (hfr : frM + 1 ≤ fr) (hlo : loM + (W + (M'.2.2.1 + 11)) ≤ lo) (hm : Snd M' (OkR G frM loM M') 0 mc) (hn : Snd M Ok (pc + nb) K) : Snd M Ok pc (cCall z tk us rv W mc K) := by
  intro ls st H cc s hl
  subst hlen
  unfold cCall
  split
  · rename_i as' rest q
    obtain ⟨t1, t2, t3, t4⟩ := ht _ _ _ _ q
    split
    · rename_i q2
      split
      · rename_i q3
        have hw := wOk_le q3
        rw [t3] at q2
        have hr := hrv _ _ q2
        have hcal : callee G.1 M.2.2.1 fr lo i a kk c (pc, ls, st) H = some (M', fr - 1, lo - (wt rest + (M'.2.2.1 + 11)), (st.take kk).reverse, rest) := by
          unfold callee
          have e1 : Nat.beq (st.take kk).length kk = true := by rw [t1]; exact Nat.beq_refl _
          have e2 : Nat.ble 1 fr = true := Nat.ble_eq_true_of_le (by omega)
          have e3 : Nat.ble (wt (st.drop kk) + (M'.2.2.1 + 11)) lo = true := Nat.ble_eq_true_of_le (by rw [← t2]; omega)
          have e4 : Nat.beq ls.length M.2.2.1 = true := by rw [hl]; exact Nat.beq_refl _
          simp only [hP, e1, e2, e3, e4, hr, Bool.and_self, if_true, t2]
        have hent : entL (st.take kk).reverse M'.2.2.1 = as' := by unfold entL; rw [t4, t3, hu]
        have hln : as'.length = M'.2.2.1 := by rw [t3, hu, List.length_append, t4, List.length_replicate]; omega
        obtain ⟨n1, n2, n3, n4, n5, n6⟩ := hN (pc, ls, st) H
        have n4' : rstep M.2.2.2.1 i st = none := n4
        have hcs : cstep G fr lo M ((pc, ls, st), H, cc, s) = some (ilen i, M', fr - 1, lo - (wt rest + (M'.2.2.1 + 11)), (st.take kk).reverse, rest) := by
          unfold cstep
          simp only [hf, n1, n2, n3, n4', n5, n6, hcal]
        have hcc : ∀ r, mc as' [] H 0 0 = some r → EW G (fr - 1) (lo - (wt rest + (M'.2.2.1 + 11))) M' (fun q => q = r) ((0, entL (st.take kk).reverse M'.2.2.1, []), H, 0, 0) := fun r e => by
          rw [hent]
          exact EW.up (by omega) (by omega) (hm as' [] H 0 0 hln r e)
        split
        · rename_i w H' c' s' q4
          exact B.2.2 _ _ _ _ _ _ _ _ _ _ _ (some w) H' c' s' hcs (hcc _ q4) (hn ls (w :: rest) H' (cc + c') (s + s') hl)
        · rename_i H' c' s' q4
          exact B.2.2 _ _ _ _ _ _ _ _ _ _ _ none H' c' s' hcs (hcc _ q4) (hn ls rest H' (cc + c') (s + s') hl)
        · exact B.1 _
      · exact B.1 _
    · exact B.1 _
  · exact B.1 _
theorem Snd.ret {g : List Value → Option (Option Value)} (hf : M.2.2.2.2 pc = some (i, a, kk, c, v)) (h0 : ∀ f, pstep G.2.2.2.2.1 i v f = none) (h1 : ∀ f, tstep G.2.2.2.2.2.2 i f = none) (h2 : ∀ f H, hstep G.2.1 G.2.2.1 G.2.2.2.1 G.2.2.2.2.2.1 i a kk c f H = none) (hi : ∀ st, rstep M.2.2.2.1 i st = g st) : Snd M (OkR G fr lo M) pc (cRet g) := by
  intro ls st H cc s hl r e
  unfold cRet at e
  split at e
  · rename_i w q
    cases e
    refine EW.ret (r := (w, H, cc, s)) ?_ rfl
    show body G (exec G 0) fr lo M ((pc, ls, st), H, cc, s) = _
    unfold body
    simp only [hf, h0, h1, h2, hi, q]
  · cases e
theorem rI_ok : ∀ st, rstep (some .int) .ireturn st = rI st
  | [] => rfl
  | v :: t => by cases v <;> rfl
theorem rB_ok : ∀ st, rstep (some .boolean) .ireturn st = rN .boolean st
  | [] => rfl
  | v :: t => by cases v <;> rfl
theorem rC_ok : ∀ st, rstep (some .char) .ireturn st = rN .char st
  | [] => rfl
  | v :: t => by cases v <;> rfl
theorem rV_ok : ∀ st, rstep none .return_ st = rV st
  | [] => rfl
  | v :: t => rfl
theorem Snd.fin {C S : Nat} (hf : M.2.2.2.2 pc = some (.ireturn, a, kk, c, v)) (hr : M.2.2.2.1 = some .boolean) : Snd M (OkB G fr lo M (fun r => r.1 = some (.int 1) ∧ r.2.2.1 ≤ C ∧ r.2.2.2 ≤ S)) pc (cEnd C S) := by
  intro ls st H cc s hl e
  unfold cEnd at e
  split at e
  · rename_i x st
    split at e
    · rename_i q
      split at e
      · rename_i q2
        have e1 : nar .boolean x = 1 := bts_eq (Nat.eq_of_beq_eq_true q)
        refine EW.ret (r := (some (.int (nar .boolean x)), H, cc, s)) ?_ ⟨by rw [e1], Nat.le_of_ble_eq_true q2, Nat.le_of_ble_eq_true e⟩
        show body G (exec G 0) fr lo M ((pc, ls, .int x :: st), H, cc, s) = _
        have hi : rstep M.2.2.2.1 .ireturn (.int x :: st) = some (some (.int (nar .boolean x))) := by rw [hr]; rfl
        have p1 : pstep G.2.2.2.2.1 .ireturn v (pc, ls, .int x :: st) = none := rfl
        have p2 : tstep G.2.2.2.2.2.2 .ireturn (pc, ls, .int x :: st) = none := rfl
        have p3 : hstep G.2.1 G.2.2.1 G.2.2.2.1 G.2.2.2.2.2.1 .ireturn a kk c (pc, ls, .int x :: st) H = none := rfl
        unfold body
        simp only [hf, p1, p2, p3, hi]
      · cases e
    · cases e
  · cases e
theorem Snd.bad (B : Bk G fr lo M z Ok) : Snd M Ok pc (fun _ _ _ _ _ => z) := fun _ _ _ _ _ _ => B.1 _
end Say
end Cc
end Jvm.Eng
namespace Jvm.Eng
open Jvm Jvm.ClassFile Sem Op Lib Jvm.Free Jvm.Stand Jvm.LawKit Jvm.RoadKit
/-! ### tables of tokens, by bits -/
def tnone : Nat → Nat → Option Value := fun _ _ => none
def ten (t0 y0 : Nat) (v : Value) (r : Nat → Nat → Option Value) : Nat → Nat → Option Value := fun t y =>
  match Nat.beq t t0 with
  | true => (match Nat.beq y y0 with | true => some v | false => r t y)
  | false => r t y
def tbv (A U R : Nat → Nat → Option Value) : Nat → Nat → Nat → Option Value := fun o => match o with | 0 => A | 1 => U | _ => R
def tbF (tb : Nat → Nat → Nat → Option Value) : Instr → Nat → Int32 → Option Value := fun i t y => match i with
  | .iand => tb 0 t (bts y)
  | .iushr => tb 1 t (bts y)
  | .irem => tb 2 t (bts y)
  | _ => none
def TbH (tb : Nat → Nat → Nat → Option Value) (TB : Instr → Nat → Int32 → Option Value) : Prop := (∀ t y w, tb 0 t (bts y) = some w → TB .iand t y = some w) ∧ (∀ t y w, tb 1 t (bts y) = some w → TB .iushr t y = some w) ∧ (∀ t y w, tb 2 t (bts y) = some w → TB .irem t y = some w)
def TSub (f g : Nat → Nat → Option Value) : Prop := ∀ t y v, f t y = some v → g t y = some v
theorem TSub.refl {f : Nat → Nat → Option Value} : TSub f f := fun _ _ _ h => h
theorem TSub.no {f : Nat → Nat → Option Value} : TSub tnone f := fun _ _ _ h => by cases h
theorem TSub.en {t0 y0 : Nat} {v : Value} {f g : Nat → Nat → Option Value} (h : TSub f g) : TSub (ten t0 y0 v f) (ten t0 y0 v g) := by
  intro t y w q
  unfold ten at q ⊢
  split at q
  · split at q
    · exact q
    · exact h _ _ _ q
  · exact h _ _ _ q
theorem tbH_of {A U R A' U' R' : Nat → Nat → Option Value} (h1 : TSub A A') (h2 : TSub U U') (h3 : TSub R R') : TbH (tbv A U R) (tbF (tbv A' U' R')) :=
  ⟨fun _ _ _ h => h1 _ _ _ h, fun _ _ _ h => h2 _ _ _ h, fun _ _ _ h => h3 _ _ _ h⟩
def OkT (f : Nat → Nat → Option Value) (P : Nat → Int32 → Value → Prop) : Prop := ∀ t y v, f t (bts y) = some v → P t y v
theorem OkT.no {P : Nat → Int32 → Value → Prop} : OkT tnone P := fun _ _ _ h => by cases h
theorem OkT.en {t0 y0 : Nat} {v : Value} {f : Nat → Nat → Option Value} {P : Nat → Int32 → Value → Prop} (Y : Int32) (hY : bts Y = y0) (h : P t0 Y v) (hf : OkT f P) : OkT (ten t0 y0 v f) P := by
  intro t y w q
  unfold ten at q
  split at q
  · rename_i q1
    split at q
    · rename_i q2
      cases q
      rw [Nat.eq_of_beq_eq_true q1, bts_eq ((Nat.eq_of_beq_eq_true q2).trans hY.symm)]
      exact h
    · exact hf _ _ _ q
  · exact hf _ _ _ q
theorem tbF_ok {ρ : Rho} {A U R : Nat → Nat → Option Value} (hA : OkT A fun t y v => rl ρ v = .int (ρ.2 t &&& y)) (hU : OkT U fun t y v => rl ρ v = .int (XT.ushr (ρ.2 t) y)) (hR : OkT R fun t y v => y ≠ 0 ∧ rl ρ v = .int (ρ.2 t % y)) : TbOk ρ (tbF (tbv A U R)) :=
  fun t y v => ⟨fun q => hA t y v q, fun q => hU t y v q, fun q => hR t y v q⟩
def al2 (g : Nat → Bool) : Bool := match g 0 with | true => g 1 | false => false
def al3 (g : Nat → Bool) : Bool := match g 0 with | true => (match g 1 with | true => g 2 | false => false) | false => false
def al4 (g : Nat → Bool) : Bool := match g 0 with | true => (match g 1 with | true => (match g 2 with | true => g 3 | false => false) | false => false) | false => false
theorem al2_ok {g : Nat → Bool} (h : al2 g = true) {i : Nat} (hi : i < 2) : g i = true := by
  unfold al2 at h
  split at h
  · match i, hi with
    | 0, _ => assumption
    | 1, _ => exact h
  · cases h
theorem al3_ok {g : Nat → Bool} (h : al3 g = true) {i : Nat} (hi : i < 3) : g i = true := by
  unfold al3 at h
  split at h
  · split at h
    · match i, hi with
      | 0, _ => assumption
      | 1, _ => assumption
      | 2, _ => exact h
    · cases h
  · cases h
theorem al4_ok {g : Nat → Bool} (h : al4 g = true) {i : Nat} (hi : i < 4) : g i = true := by
  unfold al4 at h
  split at h
  · split at h
    · split at h
      · match i, hi with
        | 0, _ => assumption
        | 1, _ => assumption
        | 2, _ => assumption
        | 3, _ => exact h
      · cases h
    · cases h
  · cases h
end Jvm.Eng
namespace Jvm.Eng
open Jvm Jvm.ClassFile Sem Op Lib Jvm.Free Jvm.Stand Jvm.LawKit Jvm.RoadKit
/-! ### two roads that meet in one state -/
abbrev S5 : Type := List Slot × List Value × List Obj × Nat × Nat
section Meet
variable {G : Cx} {fr lo : Nat} {M : Meth} {Q : Res → Prop}
def OkC (G : Cx) (fr lo : Nat) (M : Meth) (J : Nat) (o : Option S5) (cf : Cfg) : Prop := ∀ ls st H c s, o = some (ls, st, H, c, s) → ls.length = M.2.2.1 ∧ ∀ Q, EW G fr lo M Q ((J, ls, st), H, c, s) → EW G fr lo M Q cf
def LenC (M : Meth) : Cfg → Prop := fun cf => cf.1.2.1.length = M.2.2.1
theorem bkC {J : Nat} : Bk G fr lo M none (OkC G fr lo M J) :=
  ⟨fun _ _ _ _ _ _ h => by (cases h), fun x cf cf' h q ls st H c s e => ⟨(q ls st H c s e).1, fun Q w => EW.run 1 (show (match next G fr lo M cf with | some cf' => some cf' | none => none) = _ by rw [h]) ((q ls st H c s e).2 Q w)⟩,
   fun x f H c s n M' fr' lo' as rest w H' c' s' h hc q ls st H2 c2 s2 e => ⟨(q ls st H2 c2 s2 e).1, fun Q u => EW.call h hc (fun w2 H2 c2 s2 e2 => by cases e2; exact (q _ _ _ _ _ e).2 Q u)⟩⟩
def cStop : Code (Option S5) := fun ls st H c s => some (ls, st, H, c, s)
theorem stop_ok {J : Nat} : Snd M (OkC G fr lo M J) J cStop := fun ls st H c s hl ls' st' H' c' s' e => by
  cases e; exact ⟨hl, fun _ w => w⟩
def eqV : Value → Value → Bool
  | .int x, .int y => Nat.beq (bts x) (bts y)
  | .ref a, .ref b => Nat.beq a b
  | .retAddr a, .retAddr b => Nat.beq a b
  | .null, .null => true
  | _, _ => false
theorem eqV_ok {a b : Value} (h : eqV a b = true) : a = b := by
  unfold eqV at h
  split at h
  · rw [bts_eq (Nat.eq_of_beq_eq_true h)]
  · rw [Nat.eq_of_beq_eq_true h]
  · rw [Nat.eq_of_beq_eq_true h]
  · rfl
  · cases h
def eqS : Slot → Slot → Bool
  | .unset, .unset => true
  | .val a, .val b => eqV a b
  | _, _ => false
theorem eqS_ok {a b : Slot} (h : eqS a b = true) : a = b := by
  unfold eqS at h
  split at h
  · rfl
  · rw [eqV_ok h]
  · cases h
def eqL {β : Type} (f : β → β → Bool) : List β → List β → Bool
  | [], [] => true
  | x :: l, y :: r => (match f x y with | true => eqL f l r | false => false)
  | _, _ => false
theorem eqL_ok {β : Type} {f : β → β → Bool} (hf : ∀ x y, f x y = true → x = y) : ∀ {l r : List β}, eqL f l r = true → l = r
  | [], [], _ => rfl
  | x :: l, y :: r, h => by
    unfold eqL at h
    split at h
    · rename_i q; rw [hf _ _ q, eqL_ok hf h]
    · cases h
  | [], _ :: _, h => by cases h
  | _ :: _, [], h => by cases h
def eqF : Nat × Value → Nat × Value → Bool
  | (a, v), (b, w) => (match Nat.beq a b with | true => eqV v w | false => false)
theorem eqF_ok (x y : Nat × Value) (h : eqF x y = true) : x = y := by
  obtain ⟨a, v⟩ := x; obtain ⟨b, w⟩ := y
  unfold eqF at h
  dsimp only at h
  split at h
  · rename_i q; rw [Nat.eq_of_beq_eq_true q, eqV_ok h]
  · cases h
def eqT : FieldType → FieldType → Bool
  | .int, .int => true
  | .boolean, .boolean => true
  | _, _ => false
theorem eqT_ok {a b : FieldType} (h : eqT a b = true) : a = b := by
  unfold eqT at h
  split at h
  · rfl
  · rfl
  · cases h
def eqO : Obj → Obj → Bool
  | .inl (t, vs), .inl (t', vs') => (match eqT t t' with | true => eqL eqV vs vs' | false => false)
  | .inr (C, fs), .inr (C', fs') => (match Nat.beq C C' with | true => eqL eqF fs fs' | false => false)
  | _, _ => false
theorem eqO_ok (x y : Obj) (h : eqO x y = true) : x = y := by
  unfold eqO at h
  split at h
  · split at h
    · rename_i q; rw [eqT_ok q, eqL_ok (fun _ _ => eqV_ok) h]
    · cases h
  · split at h
    · rename_i q; rw [Nat.eq_of_beq_eq_true q, eqL_ok eqF_ok h]
    · cases h
  · cases h
/-- a token's answer is one of two: both roads are taken, to where they meet in one state -/
def cAny (t0 y0 : Nat) (v0 v1 : Value) (seg : Code (Option S5)) (K : Code Bool) : Code Bool := fun ls st H c s =>
  match st with
  | .int y :: .retAddr t :: st => (match Nat.beq t t0 with
    | true => (match Nat.beq (bts y) y0 with
      | true => (match seg ls (v0 :: st) H c s with
        | some (ls1, st1, H1, c1, s1) => (match seg ls (v1 :: st) H c s with
          | some (ls2, st2, H2, c2, s2) => (match eqL eqS ls1 ls2 with
            | true => (match eqL eqV st1 st2 with
              | true => (match eqL eqO H1 H2 with
                | true => (match Nat.beq c1 c2 with
                  | true => (match Nat.beq s1 s2 with | true => K ls1 st1 H1 c1 s1 | false => false)
                  | false => false)
                | false => false)
              | false => false)
            | false => false)
          | none => false)
        | none => false)
      | false => false)
    | false => false)
  | _ => false
theorem Snd.any {pc J a kk c t0 y0 : Nat} {v v0 v1 : Value} {seg : Code (Option S5)} {K : Code Bool} (hf : M.2.2.2.2 pc = some (.iand, a, kk, c, v)) (hT : ∀ y, bts y = y0 → G.2.2.2.2.2.2 .iand t0 y = some v0 ∨ G.2.2.2.2.2.2 .iand t0 y = some v1) (hs : Snd M (OkC G fr lo M J) (pc + 1) seg) (hK : Snd M (OkB G fr lo M Q) J K) : Snd M (OkB G fr lo M Q) pc (cAny t0 y0 v0 v1 seg K) := by
  intro ls st H cc s hl e
  unfold cAny at e
  split at e
  · rename_i y t st
    split at e
    · rename_i q1
      split at e
      · rename_i q2
        split at e
        · rename_i ls1 st1 H1 c1 s1 g1
          split at e
          · rename_i ls2 st2 H2 c2 s2 g2
            split at e
            · rename_i e1
              split at e
              · rename_i e2
                split at e
                · rename_i e3
                  split at e
                  · rename_i e4
                    split at e
                    · rename_i e5
                      cases eqL_ok (fun _ _ => eqS_ok) e1
                      cases eqL_ok (fun _ _ => eqV_ok) e2
                      cases eqL_ok eqO_ok e3
                      cases Nat.eq_of_beq_eq_true e4
                      cases Nat.eq_of_beq_eq_true e5
                      cases Nat.eq_of_beq_eq_true q1
                      obtain ⟨l1, r1⟩ := hs _ _ _ _ _ hl _ _ _ _ _ g1
                      obtain ⟨-, r2⟩ := hs _ _ _ _ _ hl _ _ _ _ _ g2
                      have w := hK _ _ _ _ _ l1 e
                      have go : ∀ u, G.2.2.2.2.2.2 .iand t0 y = some u → EW G fr lo M Q ((pc + 1, ls, u :: st), H, cc, s) → EW G fr lo M Q ((pc, ls, .int y :: .retAddr t0 :: st), H, cc, s) := fun u hu hw => by
                        refine EW.run 1 (cf' := ((pc + 1, ls, u :: st), H, cc, s)) ?_ hw
                        have hx : next G fr lo M ((pc, ls, .int y :: .retAddr t0 :: st), H, cc, s) = some ((pc + 1, ls, u :: st), H, cc, s) := by
                          refine next_t hf rfl ?_
                          show tstep.tI2 G.2.2.2.2.2.2 .iand (pc, ls, .int y :: .retAddr t0 :: st) = _
                          simp only [tstep.tI2, hu]
                        show (match next G fr lo M ((pc, ls, .int y :: .retAddr t0 :: st), H, cc, s) with | some cf' => some cf' | none => none) = _
                        rw [hx]
                      rcases hT y (Nat.eq_of_beq_eq_true q2) with h | h
                      · exact go _ h (r1 _ w)
                      · exact go _ h (r2 _ w)
                    · cases e
                  · cases e
                · cases e
              · cases e
            · cases e
          · cases e
        · cases e
      · cases e
    · cases e
  · cases e
end Meet
end Jvm.Eng
namespace Jvm.Eng
open Jvm Jvm.ClassFile Sem Op Lib Jvm.Free Jvm.Stand Jvm.LawKit Jvm.RoadKit
section More
variable {G : Cx} {fr lo : Nat} {M : Meth} {Q : Res → Prop} {α : Type}
def cAs (z : α) (pc : Nat) (g : Fm → List Obj → Option (Fm × List Obj × Nat)) (K : Code α) : Code α := fun ls st H c s =>
  match g (pc, ls, st) H with
  | some ((_, _, st), H, ds) => K ls st H (c + 1) (s + ds)
  | none => z
def cAc (z : α) (D : Nat → Nat → Bool) (w : Bool → Bool) (T E : Code α) : Code α := fun ls st H c s =>
  match st with
  | y :: x :: st => (match sameR D x y with
    | some sm => (match w sm with | true => T ls st H c s | false => E ls st H c s)
    | none => z)
  | _ => z
variable {z : α} {Ok : α → Cfg → Prop} {pc k n i' a kk c : Nat} {i : Instr} {v : Value} {K : Code α}
def OnlyA (n : Nat) (g : Fm → List Obj → Option (Fm × List Obj × Nat)) : Prop := ∀ pc ls st H f' H' ds, g (pc, ls, st) H = some (f', H', ds) → f' = (pc + n, ls, f'.2.2)
theorem Snd.as (B : Bk G fr lo M z Ok) {g : Fm → List Obj → Option (Fm × List Obj × Nat)} (hf : M.2.2.2.2 pc = some (i, a, kk, c, v)) (h0 : ∀ f, pstep G.2.2.2.2.1 i v f = none) (h1 : ∀ f, tstep G.2.2.2.2.2.2 i f = none) (h2 : ∀ f H, hstep G.2.1 G.2.2.1 G.2.2.2.1 G.2.2.2.2.2.1 i a kk c f H = none) (h3 : ∀ st, rstep M.2.2.2.1 i st = none) (hi : ∀ f H, astep G.2.2.2.1 i c f H = g f H) (hg : OnlyA n g) (hn : Snd M Ok (pc + n) K) : Snd M Ok pc (cAs z pc g K) := by
  intro ls st H cc s hl
  unfold cAs
  split
  · rename_i p' l' s' H' ds q
    have e := hg _ _ _ _ _ _ _ q
    refine B.2.1 _ _ _ (next_a hf (f' := (pc + n, ls, s')) (H' := H') (ds := ds) (h0 _) (h1 _) (h2 _ _) (h3 _) ?_) (hn _ _ _ _ _ hl)
    rw [hi, q, e]
  · exact B.1 _
theorem Snd.ac (B : Bk G fr lo M z Ok) {o : Int} {t : Nat} {cd : ACond} {T E : Code α} (hf : M.2.2.2.2 pc = some (.if_acmp cd o, a, kk, c, v)) (ho : (pc : Int) + o = t) (hT : Snd M Ok t T) (hE : Snd M Ok (pc + 3) E) : Snd M Ok pc (cAc z G.2.2.2.2.1 (acV cd) T E) := by
  intro ls st H cc s hl
  unfold cAc
  split
  · rename_i y x st
    split
    · rename_i sm q
      have hp : pAcmp G.2.2.2.2.1 cd o (pc, ls, y :: x :: st) = br (acV cd sm) o pc ls st := by
        unfold pAcmp
        dsimp only
        rw [ho, if_pos (by omega), q]
      split
      · rename_i q2
        refine B.2.1 _ _ _ (next_p hf (f' := (t, ls, st)) ?_) (hT _ _ _ _ _ hl)
        show pAcmp G.2.2.2.2.1 cd o (pc, ls, y :: x :: st) = _
        rw [hp, q2, br_t ho]
      · rename_i q2
        refine B.2.1 _ _ _ (next_p hf (f' := (pc + 3, ls, st)) ?_) (hE _ _ _ _ _ hl)
        show pAcmp G.2.2.2.2.1 cd o (pc, ls, y :: x :: st) = _
        rw [hp, q2]; rfl
    · exact B.1 _
  · exact B.1 _
theorem onlyLd {ok : FieldType → Bool} : OnlyH 1 (hLd ok) := fun pc ls st H f' H' h => by
  unfold hLd at h; split at h
  · rename_i q; cases q
    split at h
    · split at h
      · split at h
        · split at h <;> cases h; rfl
        · cases h
      · cases h
    · cases h
  · cases h
theorem onlySta {S : List (Nat × Value)} {a c : Nat} : OnlyH 3 (hSta S a c) := fun pc ls st H f' H' h => by
  unfold hSta at h
  dsimp only at h
  split at h
  · split at h <;> cases h; rfl
  · cases h
theorem onlyCast {c : Nat} : OnlyH 3 (hCast c) := fun pc ls st H f' H' h => by
  unfold hCast at h; split at h
  · rename_i q; cases q; cases h; rfl
  · rename_i q; cases q
    split at h
    · split at h <;> cases h; rfl
    · cases h
  · cases h
theorem noSt_I {idx n : Nat} : NoSt G fr lo M (.invokeinterface idx n) a k c v := fun _ _ => ⟨rfl, rfl, rfl, rfl, rfl, rfl⟩
theorem rvI_ok {idx n : Nat} {us : List Slot} (hu : usOk us) : ∀ H as, rvV c H (flat as ++ us) = true → recvOk (.invokeinterface idx n) H c as = true := by
  intro H as h
  unfold rvV at h
  split at h
  · rename_i o t q
    obtain ⟨r, rfl⟩ := flat_ref hu q
    split at h
    · rename_i C fs q2
      show (match getO H o with | some (C, _) => Nat.beq C c | none => false) = true
      rw [getO_of q2]; exact h
    · cases h
  · cases h
end More
end Jvm.Eng
namespace Jvm.Eng
open Jvm Jvm.ClassFile Sem Op Lib Jvm.Free Jvm.Stand Jvm.LawKit Jvm.RoadKit
section Pick
variable {G : Cx} {fr lo : Nat} {M : Meth} {Q : Res → Prop}
def al8 (g : Nat → Bool) : Bool := match g 0 with | true => (match g 1 with | true => (match g 2 with | true => (match g 3 with | true => (match g 4 with | true => (match g 5 with | true => (match g 6 with | true => g 7 | false => false) | false => false) | false => false) | false => false) | false => false) | false => false) | false => false
theorem al8_ok {g : Nat → Bool} (h : al8 g = true) {i : Nat} (hi : i < 8) : g i = true := by
  unfold al8 at h
  repeat' split at h
  all_goals first | cases h; done | skip
  match i, hi with
  | 0, _ => assumption
  | 1, _ => assumption
  | 2, _ => assumption
  | 3, _ => assumption
  | 4, _ => assumption
  | 5, _ => assumption
  | 6, _ => assumption
  | 7, _ => exact h
/-- a token's answer is one of eight: all are taken -/
def cPick (t0 y0 : Nat) (K : Code Bool) : Code Bool := fun ls st H c s =>
  match st with
  | .int y :: .retAddr t :: st => (match Nat.beq t t0 with
    | true => (match Nat.beq (bts y) y0 with
      | true => al8 fun v => K ls (.int (Int32.ofNat v) :: st) H c s
      | false => false)
    | false => false)
  | _ => false
theorem Snd.pick {pc a kk c t0 y0 : Nat} {v : Value} {K : Code Bool} (hf : M.2.2.2.2 pc = some (.iand, a, kk, c, v)) (hT : ∀ y, bts y = y0 → ∃ j, j < 8 ∧ G.2.2.2.2.2.2 .iand t0 y = some (.int (Int32.ofNat j))) (hK : Snd M (OkB G fr lo M Q) (pc + 1) K) : Snd M (OkB G fr lo M Q) pc (cPick t0 y0 K) := by
  intro ls st H cc s hl e
  unfold cPick at e
  split at e
  · rename_i y t st
    split at e
    · rename_i q1
      split at e
      · rename_i q2
        cases Nat.eq_of_beq_eq_true q1
        obtain ⟨j, hj, hu⟩ := hT y (Nat.eq_of_beq_eq_true q2)
        refine EW.run 1 (cf' := ((pc + 1, ls, .int (Int32.ofNat j) :: st), H, cc, s)) ?_ (hK _ _ _ _ _ hl (al8_ok e hj))
        have hx : next G fr lo M ((pc, ls, .int y :: .retAddr t0 :: st), H, cc, s) = some ((pc + 1, ls, .int (Int32.ofNat j) :: st), H, cc, s) := by
          refine next_t hf rfl ?_
          show tstep.tI2 G.2.2.2.2.2.2 .iand (pc, ls, .int y :: .retAddr t0 :: st) = _
          simp only [tstep.tI2, hu]
        show (match next G fr lo M ((pc, ls, .int y :: .retAddr t0 :: st), H, cc, s) with | some cf' => some cf' | none => none) = _
        rw [hx]
      · cases e
    · cases e
  · cases e
/-- the state in its plain form -/
def frc (n : Nat) (k : Nat → Bool) : Bool := match n with | 0 => k 0 | m + 1 => k (m + 1)
theorem frc_ok {n : Nat} {k : Nat → Bool} (h : frc n k = true) : k n = true := by
  cases n <;> exact h
/-- the state in its plain form: the first five objects stay as they are -/
def cNrm (eO : Obj → Obj → Bool) (enc : List Obj → Nat) (L : List Slot) (mk : Nat → List Obj) (C S : Nat) (K : Code Bool) : Code Bool := fun ls st H c s =>
  match H with
  | x0 :: x1 :: x2 :: x3 :: x4 :: R => frc (enc R) fun n =>
    (match st with
    | [] => (match eqL eqS ls L with
      | true => (match eqL eO R (mk n) with
        | true => (match Nat.beq c C with
          | true => (match Nat.beq s S with | true => K L [] (x0 :: x1 :: x2 :: x3 :: x4 :: mk n) C S | false => false)
          | false => false)
        | false => false)
      | false => false)
    | _ => false)
  | _ => false
theorem Snd.nrm {eO : Obj → Obj → Bool} (he : ∀ x y, eO x y = true → x = y) {pc : Nat} {enc : List Obj → Nat} {L : List Slot} {mk : Nat → List Obj} {C S : Nat} {K : Code Bool} (hK : Snd M (OkB G fr lo M Q) pc K) : Snd M (OkB G fr lo M Q) pc (cNrm eO enc L mk C S K) := by
  intro ls st H cc s hl e
  unfold cNrm at e
  split at e
  · have e := frc_ok e
    (try dsimp only at e)
    split at e
    · split at e
      · rename_i e1
        split at e
        · rename_i e2
          split at e
          · rename_i e3
            split at e
            · rename_i e4
              have h1 := eqL_ok (fun _ _ => eqS_ok) e1
              have h2 := eqL_ok he e2
              have h3 := Nat.eq_of_beq_eq_true e3
              have h4 := Nat.eq_of_beq_eq_true e4
              rw [h2, h1, h3, h4]
              exact hK _ _ _ _ _ (by rw [← h1]; exact hl) e
            · cases e
          · cases e
        · cases e
      · cases e
    · cases e
  · cases e
end Pick
end Jvm.Eng

namespace Jvm.Pilot.@@N@@
open Jvm Jvm.ClassFile Sem Op Lib Jvm.Free Jvm.Stand Jvm.LawKit Jvm.RoadKit Jvm.Eng Bundle Jvm.Pilot.@@N@@.Jvm.D

def gK : Nat → String × String × String
  | 0 => ("com/example/ourthe/ourthe/lts/RefinablePartition", "elements", "[I")
  | 1 => ("com/example/ourthe/ourthe/lts/RefinablePartition", "location", "[I")
  | 2 => ("com/example/ourthe/ourthe/lts/RefinablePartition", "setOf", "[I")
  | 3 => ("com/example/ourthe/ourthe/lts/RefinablePartition", "first", "[I")
  | 4 => ("com/example/ourthe/ourthe/lts/RefinablePartition", "end", "[I")
  | 5 => ("com/example/ourthe/ourthe/lts/RefinablePartition", "markEnd", "[I")
  | 6 => ("com/example/ourthe/ourthe/lts/RefinablePartition", "parent", "[I")
  | 7 => ("com/example/ourthe/ourthe/lts/RefinablePartition", "touched", "[I")
  | 8 => ("com/example/ourthe/ourthe/lts/RefinablePartition", "setCount", "I")
  | 9 => ("com/example/ourthe/ourthe/lts/RefinablePartition", "touchedCount", "I")
  | _ => ("", "", "")
def gC : Nat → String
  | 0 => "com/example/ourthe/ourthe/lts/RefinablePartition"
  | _ => ""
def gM : Nat → MethodName
  | _ => ⟨"", "", ""⟩
def gT : Nat → Option Fls
  | 0 => some (10, [(0, .null, true), (1, .null, true), (2, .null, true), (3, .null, false), (4, .null, false), (5, .null, false), (6, .null, false), (7, .null, false), (8, .int 0, false), (9, .int 0, false)])
  | _ => none
def m0_t : Nat → Option Eng.Row := (nd 164 (nd 79 (nd 38 (nd 19 (nd 8 (nd 4 (nd 1 (lf 0 (.aload_n 0, 0, 0, 0, .null)) (lf 1 (.invokespecial 1, 0, 1, 1, .null))) (nd 5 (lf 4 (.aload_n 0, 0, 0, 0, .null)) (nd 6 (lf 5 (.iload_n 2, 0, 0, 0, .null)) (lf 6 (.newarray .int, 0, 0, 0, .null))))) (nd 13 (nd 11 (lf 8 (.putfield 7, 0, 1, 0, .null)) (nd 12 (lf 11 (.aload_n 0, 0, 0, 0, .null)) (lf 12 (.iload_n 2, 0, 0, 0, .null)))) (nd 15 (lf 13 (.newarray .int, 0, 0, 0, .null)) (nd 18 (lf 15 (.putfield 13, 1, 1, 0, .null)) (lf 18 (.aload_n 0, 0, 0, 0, .null)))))) (nd 28 (nd 25 (nd 20 (lf 19 (.iload_n 2, 0, 0, 0, .null)) (nd 22 (lf 20 (.newarray .int, 0, 0, 0, .null)) (lf 22 (.putfield 16, 2, 1, 0, .null)))) (nd 26 (lf 25 (.iload_n 3, 0, 0, 0, .null)) (nd 27 (lf 26 (.iconst 1, 0, 0, 0, .null)) (lf 27 (.iadd, 0, 0, 0, .null))))) (nd 33 (nd 30 (lf 28 (.newarray .int, 0, 0, 0, .null)) (nd 32 (lf 30 (.astore 4, 0, 0, 0, .null)) (lf 32 (.iconst 0, 0, 0, 0, .null)))) (nd 35 (lf 33 (.istore 5, 0, 0, 0, .null)) (nd 37 (lf 35 (.iload 5, 0, 0, 0, .null)) (lf 37 (.iload_n 2, 0, 0, 0, .null))))))) (nd 54 (nd 48 (nd 44 (nd 41 (lf 38 (.if_icmp .ge 22, 0, 0, 0, .null)) (nd 43 (lf 41 (.aload 4, 0, 0, 0, .null)) (lf 43 (.aload_n 1, 0, 0, 0, .null)))) (nd 46 (lf 44 (.iload 5, 0, 0, 0, .null)) (nd 47 (lf 46 (.iaload, 0, 0, 0, .null)) (lf 47 (.iconst 1, 0, 0, 0, .null))))) (nd 51 (nd 49 (lf 48 (.iadd, 0, 0, 0, .null)) (nd 50 (lf 49 (.dup2, 0, 0, 0, .null)) (lf 50 (.iaload, 0, 0, 0, .null)))) (nd 52 (lf 51 (.iconst 1, 0, 0, 0, .null)) (nd 53 (lf 52 (.iadd, 0, 0, 0, .null)) (lf 53 (.iastore, 0, 0, 0, .null)))))) (nd 67 (nd 62 (nd 57 (lf 54 (.iinc 5 1, 0, 0, 0, .null)) (nd 60 (lf 57 (.goto (-22), 0, 0, 0, .null)) (lf 60 (.bipush 16, 0, 0, 0, .null)))) (nd 64 (lf 62 (.istore 5, 0, 0, 0, .null)) (nd 65 (lf 64 (.iconst 0, 0, 0, 0, .null)) (lf 65 (.istore 6, 0, 0, 0, .null))))) (nd 73 (nd 69 (lf 67 (.iload 6, 0, 0, 0, .null)) (nd 70 (lf 69 (.iload_n 3, 0, 0, 0, .null)) (lf 70 (.if_icmp .ge 44, 0, 0, 0, .null)))) (nd 75 (lf 73 (.iload 5, 0, 0, 0, .null)) (nd 77 (lf 75 (.aload 4, 0, 0, 0, .null)) (lf 77 (.iload 6, 0, 0, 0, .null)))))))) (nd 117 (nd 98 (nd 89 (nd 82 (nd 80 (lf 79 (.iconst 1, 0, 0, 0, .null)) (nd 81 (lf 80 (.iadd, 0, 0, 0, .null)) (lf 81 (.iaload, 0, 0, 0, .null)))) (nd 85 (lf 82 (.ifCond .le 7, 0, 0, 0, .null)) (nd 86 (lf 85 (.iconst 1, 0, 0, 0, .null)) (lf 86 (.goto 4, 0, 0, 0, .null))))) (nd 93 (nd 90 (lf 89 (.iconst 0, 0, 0, 0, .null)) (nd 91 (lf 90 (.iadd, 0, 0, 0, .null)) (lf 91 (.istore 5, 0, 0, 0, .null)))) (nd 95 (lf 93 (.aload 4, 0, 0, 0, .null)) (nd 97 (lf 95 (.iload 6, 0, 0, 0, .null)) (lf 97 (.iconst 1, 0, 0, 0, .null)))))) (nd 106 (nd 101 (nd 99 (lf 98 (.iadd, 0, 0, 0, .null)) (nd 100 (lf 99 (.dup2, 0, 0, 0, .null)) (lf 100 (.iaload, 0, 0, 0, .null)))) (nd 103 (lf 101 (.aload 4, 0, 0, 0, .null)) (nd 105 (lf 103 (.iload 6, 0, 0, 0, .null)) (lf 105 (.iaload, 0, 0, 0, .null))))) (nd 111 (nd 107 (lf 106 (.iadd, 0, 0, 0, .null)) (nd 108 (lf 107 (.iastore, 0, 0, 0, .null)) (lf 108 (.iinc 6 1, 0, 0, 0, .null)))) (nd 114 (lf 111 (.goto (-44), 0, 0, 0, .null)) (nd 115 (lf 114 (.aload_n 0, 0, 0, 0, .null)) (lf 115 (.iload 5, 0, 0, 0, .null))))))) (nd 141 (nd 130 (nd 123 (nd 119 (lf 117 (.newarray .int, 0, 0, 0, .null)) (nd 122 (lf 119 (.putfield 19, 3, 1, 0, .null)) (lf 122 (.aload_n 0, 0, 0, 0, .null)))) (nd 125 (lf 123 (.iload 5, 0, 0, 0, .null)) (nd 127 (lf 125 (.newarray .int, 0, 0, 0, .null)) (lf 127 (.putfield 22, 4, 1, 0, .null))))) (nd 135 (nd 131 (lf 130 (.aload_n 0, 0, 0, 0, .null)) (nd 133 (lf 131 (.iload 5, 0, 0, 0, .null)) (lf 133 (.newarray .int, 0, 0, 0, .null)))) (nd 138 (lf 135 (.putfield 25, 5, 1, 0, .null)) (nd 139 (lf 138 (.aload_n 0, 0, 0, 0, .null)) (lf 139 (.iload 5, 0, 0, 0, .null)))))) (nd 154 (nd 147 (nd 143 (lf 141 (.newarray .int, 0, 0, 0, .null)) (nd 146 (lf 143 (.putfield 28, 6, 1, 0, .null)) (lf 146 (.aload_n 0, 0, 0, 0, .null)))) (nd 149 (lf 147 (.iload 5, 0, 0, 0, .null)) (nd 151 (lf 149 (.newarray .int, 0, 0, 0, .null)) (lf 151 (.putfield 31, 7, 1, 0, .null))))) (nd 159 (nd 155 (lf 154 (.iload_n 3, 0, 0, 0, .null)) (nd 157 (lf 155 (.newarray .int, 0, 0, 0, .null)) (lf 157 (.astore 6, 0, 0, 0, .null)))) (nd 160 (lf 159 (.iconst 0, 0, 0, 0, .null)) (nd 162 (lf 160 (.istore 7, 0, 0, 0, .null)) (lf 162 (.iload 7, 0, 0, 0, .null))))))))) (nd 245 (nd 205 (nd 183 (nd 173 (nd 168 (nd 165 (lf 164 (.iload_n 3, 0, 0, 0, .null)) (lf 165 (.if_icmp .ge 100, 0, 0, 0, .null))) (nd 170 (lf 168 (.aload 4, 0, 0, 0, .null)) (nd 172 (lf 170 (.iload 7, 0, 0, 0, .null)) (lf 172 (.iconst 1, 0, 0, 0, .null))))) (nd 177 (nd 174 (lf 173 (.iadd, 0, 0, 0, .null)) (nd 175 (lf 174 (.iaload, 0, 0, 0, .null)) (lf 175 (.aload 4, 0, 0, 0, .null)))) (nd 179 (lf 177 (.iload 7, 0, 0, 0, .null)) (nd 180 (lf 179 (.iaload, 0, 0, 0, .null)) (lf 180 (.if_icmp .le 79, 0, 0, 0, .null)))))) (nd 193 (nd 188 (nd 185 (lf 183 (.aload 6, 0, 0, 0, .null)) (nd 187 (lf 185 (.iload 7, 0, 0, 0, .null)) (lf 187 (.aload_n 0, 0, 0, 0, .null)))) (nd 191 (lf 188 (.getfield 34, 8, 0, 0, .null)) (nd 192 (lf 191 (.iastore, 0, 0, 0, .null)) (lf 192 (.aload_n 0, 0, 0, 0, .null))))) (nd 200 (nd 196 (lf 193 (.getfield 19, 3, 0, 0, .null)) (nd 197 (lf 196 (.aload_n 0, 0, 0, 0, .null)) (lf 197 (.getfield 34, 8, 0, 0, .null)))) (nd 202 (lf 200 (.aload 4, 0, 0, 0, .null)) (nd 204 (lf 202 (.iload 7, 0, 0, 0, .null)) (lf 204 (.iaload, 0, 0, 0, .null))))))) (nd 223 (nd 216 (nd 210 (nd 206 (lf 205 (.iastore, 0, 0, 0, .null)) (nd 207 (lf 206 (.aload_n 0, 0, 0, 0, .null)) (lf 207 (.getfield 22, 4, 0, 0, .null)))) (nd 211 (lf 210 (.aload_n 0, 0, 0, 0, .null)) (nd 214 (lf 211 (.getfield 34, 8, 0, 0, .null)) (lf 214 (.aload 4, 0, 0, 0, .null))))) (nd 220 (nd 218 (lf 216 (.iload 7, 0, 0, 0, .null)) (nd 219 (lf 218 (.iconst 1, 0, 0, 0, .null)) (lf 219 (.iadd, 0, 0, 0, .null)))) (nd 221 (lf 220 (.iaload, 0, 0, 0, .null)) (nd 222 (lf 221 (.iastore, 0, 0, 0, .null)) (lf 222 (.aload_n 0, 0, 0, 0, .null)))))) (nd 235 (nd 230 (nd 226 (lf 223 (.getfield 25, 5, 0, 0, .null)) (nd 227 (lf 226 (.aload_n 0, 0, 0, 0, .null)) (lf 227 (.getfield 34, 8, 0, 0, .null)))) (nd 232 (lf 230 (.aload 4, 0, 0, 0, .null)) (nd 234 (lf 232 (.iload 7, 0, 0, 0, .null)) (lf 234 (.iaload, 0, 0, 0, .null))))) (nd 240 (nd 236 (lf 235 (.iastore, 0, 0, 0, .null)) (nd 237 (lf 236 (.aload_n 0, 0, 0, 0, .null)) (lf 237 (.getfield 28, 6, 0, 0, .null)))) (nd 241 (lf 240 (.aload_n 0, 0, 0, 0, .null)) (nd 244 (lf 241 (.getfield 34, 8, 0, 0, .null)) (lf 244 (.aload_n 0, 0, 0, 0, .null)))))))) (nd 285 (nd 268 (nd 255 (nd 250 (nd 248 (lf 245 (.getfield 34, 8, 0, 0, .null)) (nd 249 (lf 248 (.iastore, 0, 0, 0, .null)) (lf 249 (.aload_n 0, 0, 0, 0, .null)))) (nd 251 (lf 250 (.dup, 0, 0, 0, .null)) (nd 254 (lf 251 (.getfield 34, 8, 0, 0, .null)) (lf 254 (.iconst 1, 0, 0, 0, .null))))) (nd 262 (nd 256 (lf 255 (.iadd, 0, 0, 0, .null)) (nd 259 (lf 256 (.putfield 34, 8, 1, 0, .null)) (lf 259 (.iinc 7 1, 0, 0, 0, .null)))) (nd 265 (lf 262 (.goto (-100), 0, 0, 0, .null)) (nd 266 (lf 265 (.iconst 0, 0, 0, 0, .null)) (lf 266 (.istore 7, 0, 0, 0, .null)))))) (nd 279 (nd 274 (nd 270 (lf 268 (.iload 7, 0, 0, 0, .null)) (nd 271 (lf 270 (.iload_n 2, 0, 0, 0, .null)) (lf 271 (.if_icmp .ge 55, 0, 0, 0, .null)))) (nd 276 (lf 274 (.aload 4, 0, 0, 0, .null)) (nd 277 (lf 276 (.aload_n 1, 0, 0, 0, .null)) (lf 277 (.iload 7, 0, 0, 0, .null))))) (nd 282 (nd 280 (lf 279 (.iaload, 0, 0, 0, .null)) (nd 281 (lf 280 (.dup2, 0, 0, 0, .null)) (lf 281 (.iaload, 0, 0, 0, .null)))) (nd 283 (lf 282 (.dup_x2, 0, 0, 0, .null)) (nd 284 (lf 283 (.iconst 1, 0, 0, 0, .null)) (lf 284 (.iadd, 0, 0, 0, .null))))))) (nd 306 (nd 296 (nd 289 (nd 286 (lf 285 (.iastore, 0, 0, 0, .null)) (nd 288 (lf 286 (.istore 8, 0, 0, 0, .null)) (lf 288 (.aload_n 0, 0, 0, 0, .null)))) (nd 292 (lf 289 (.getfield 7, 0, 0, 0, .null)) (nd 294 (lf 292 (.iload 8, 0, 0, 0, .null)) (lf 294 (.iload 7, 0, 0, 0, .null))))) (nd 301 (nd 297 (lf 296 (.iastore, 0, 0, 0, .null)) (nd 298 (lf 297 (.aload_n 0, 0, 0, 0, .null)) (lf 298 (.getfield 13, 1, 0, 0, .null)))) (nd 303 (lf 301 (.iload 7, 0, 0, 0, .null)) (nd 305 (lf 303 (.iload 8, 0, 0, 0, .null)) (lf 305 (.iastore, 0, 0, 0, .null)))))) (nd 317 (nd 312 (nd 307 (lf 306 (.aload_n 0, 0, 0, 0, .null)) (nd 310 (lf 307 (.getfield 16, 2, 0, 0, .null)) (lf 310 (.iload 7, 0, 0, 0, .null)))) (nd 314 (lf 312 (.aload 6, 0, 0, 0, .null)) (nd 315 (lf 314 (.aload_n 1, 0, 0, 0, .null)) (lf 315 (.iload 7, 0, 0, 0, .null))))) (nd 320 (nd 318 (lf 317 (.iaload, 0, 0, 0, .null)) (nd 319 (lf 318 (.iaload, 0, 0, 0, .null)) (lf 319 (.iastore, 0, 0, 0, .null)))) (nd 323 (lf 320 (.iinc 7 1, 0, 0, 0, .null)) (nd 326 (lf 323 (.goto (-55), 0, 0, 0, .null)) (lf 326 (.return_, 0, 0, 0, .null))))))))))
def m0 : Meth := (⟨"com/example/ourthe/ourthe/lts/RefinablePartition", "<init>", "([III)V"⟩, prog_69_method_1_code, 9, (Option.none : Option Jvm.ClassFile.FieldType), upTo 327 m0_t)
def m1_t : Nat → Option Eng.Row := (nd 1 (lf 0 (.aload_n 0, 0, 0, 0, .null)) (nd 4 (lf 1 (.getfield 34, 8, 0, 0, .null)) (lf 4 (.ireturn, 0, 0, 0, .null))))
def m1 : Meth := (⟨"com/example/ourthe/ourthe/lts/RefinablePartition", "setCount", "()I"⟩, prog_69_method_2_code, 1, (Option.some Jvm.ClassFile.FieldType.int), upTo 5 m1_t)
def m2_t : Nat → Option Eng.Row := (nd 4 (nd 1 (lf 0 (.aload_n 0, 0, 0, 0, .null)) (lf 1 (.getfield 16, 2, 0, 0, .null))) (nd 5 (lf 4 (.iload_n 1, 0, 0, 0, .null)) (nd 6 (lf 5 (.iaload, 0, 0, 0, .null)) (lf 6 (.ireturn, 0, 0, 0, .null)))))
def m2 : Meth := (⟨"com/example/ourthe/ourthe/lts/RefinablePartition", "setOf", "(I)I"⟩, prog_69_method_3_code, 2, (Option.some Jvm.ClassFile.FieldType.int), upTo 7 m2_t)
def m3_t : Nat → Option Eng.Row := (nd 5 (nd 1 (lf 0 (.iload_n 2, 0, 0, 0, .null)) (nd 4 (lf 1 (.ifCond .eq 8, 0, 0, 0, .null)) (lf 4 (.aload_n 0, 0, 0, 0, .null)))) (nd 6 (lf 5 (.iload_n 1, 0, 0, 0, .null)) (nd 9 (lf 6 (.invokevirtual 48, 4, 2, 0, .null)) (lf 9 (.return_, 0, 0, 0, .null)))))
def m3 : Meth := (⟨"com/example/ourthe/ourthe/lts/RefinablePartitionMarkPinLaw", "markIf", "(Lcom/example/ourthe/ourthe/lts/RefinablePartition;IZ)V"⟩, method_3_code, 3, (Option.none : Option Jvm.ClassFile.FieldType), upTo 10 m3_t)
def m4_t : Nat → Option Eng.Row := (nd 55 (nd 25 (nd 12 (nd 6 (nd 4 (nd 1 (lf 0 (.aload_n 0, 0, 0, 0, .null)) (lf 1 (.getfield 16, 2, 0, 0, .null))) (nd 5 (lf 4 (.iload_n 1, 0, 0, 0, .null)) (lf 5 (.iaload, 0, 0, 0, .null)))) (nd 8 (nd 7 (lf 6 (.istore_n 2, 0, 0, 0, .null)) (lf 7 (.aload_n 0, 0, 0, 0, .null))) (nd 11 (lf 8 (.getfield 13, 1, 0, 0, .null)) (lf 11 (.iload_n 1, 0, 0, 0, .null))))) (nd 18 (nd 14 (nd 13 (lf 12 (.iaload, 0, 0, 0, .null)) (lf 13 (.istore_n 3, 0, 0, 0, .null))) (nd 15 (lf 14 (.aload_n 0, 0, 0, 0, .null)) (lf 15 (.getfield 25, 5, 0, 0, .null)))) (nd 20 (nd 19 (lf 18 (.iload_n 2, 0, 0, 0, .null)) (lf 19 (.iaload, 0, 0, 0, .null))) (nd 22 (lf 20 (.istore 4, 0, 0, 0, .null)) (nd 23 (lf 22 (.iload_n 3, 0, 0, 0, .null)) (lf 23 (.iload 4, 0, 0, 0, .null))))))) (nd 40 (nd 34 (nd 30 (nd 28 (lf 25 (.if_icmp .lt 82, 0, 0, 0, .null)) (lf 28 (.iload 4, 0, 0, 0, .null))) (nd 31 (lf 30 (.aload_n 0, 0, 0, 0, .null)) (lf 31 (.getfield 19, 3, 0, 0, .null)))) (nd 36 (nd 35 (lf 34 (.iload_n 2, 0, 0, 0, .null)) (lf 35 (.iaload, 0, 0, 0, .null))) (nd 39 (lf 36 (.if_icmp .ne 20, 0, 0, 0, .null)) (lf 39 (.aload_n 0, 0, 0, 0, .null))))) (nd 48 (nd 44 (nd 43 (lf 40 (.getfield 31, 7, 0, 0, .null)) (lf 43 (.aload_n 0, 0, 0, 0, .null))) (nd 45 (lf 44 (.dup, 0, 0, 0, .null)) (lf 45 (.getfield 38, 9, 0, 0, .null)))) (nd 50 (nd 49 (lf 48 (.dup_x1, 0, 0, 0, .null)) (lf 49 (.iconst 1, 0, 0, 0, .null))) (nd 51 (lf 50 (.iadd, 0, 0, 0, .null)) (nd 54 (lf 51 (.putfield 38, 9, 0, 0, .null)) (lf 54 (.iload_n 2, 0, 0, 0, .null)))))))) (nd 82 (nd 69 (nd 62 (nd 57 (nd 56 (lf 55 (.iastore, 0, 0, 0, .null)) (lf 56 (.aload_n 0, 0, 0, 0, .null))) (nd 60 (lf 57 (.getfield 7, 0, 0, 0, .null)) (lf 60 (.iload 4, 0, 0, 0, .null)))) (nd 65 (nd 63 (lf 62 (.iaload, 0, 0, 0, .null)) (lf 63 (.istore 5, 0, 0, 0, .null))) (nd 66 (lf 65 (.aload_n 0, 0, 0, 0, .null)) (lf 66 (.getfield 7, 0, 0, 0, .null))))) (nd 74 (nd 72 (nd 70 (lf 69 (.iload_n 3, 0, 0, 0, .null)) (lf 70 (.iload 5, 0, 0, 0, .null))) (nd 73 (lf 72 (.iastore, 0, 0, 0, .null)) (lf 73 (.aload_n 0, 0, 0, 0, .null)))) (nd 79 (nd 77 (lf 74 (.getfield 13, 1, 0, 0, .null)) (lf 77 (.iload 5, 0, 0, 0, .null))) (nd 80 (lf 79 (.iload_n 3, 0, 0, 0, .null)) (nd 81 (lf 80 (.iastore, 0, 0, 0, .null)) (lf 81 (.aload_n 0, 0, 0, 0, .null))))))) (nd 96 (nd 89 (nd 87 (nd 85 (lf 82 (.getfield 7, 0, 0, 0, .null)) (lf 85 (.iload 4, 0, 0, 0, .null))) (nd 88 (lf 87 (.iload_n 1, 0, 0, 0, .null)) (lf 88 (.iastore, 0, 0, 0, .null)))) (nd 93 (nd 90 (lf 89 (.aload_n 0, 0, 0, 0, .null)) (lf 90 (.getfield 13, 1, 0, 0, .null))) (nd 94 (lf 93 (.iload_n 1, 0, 0, 0, .null)) (lf 94 (.iload 4, 0, 0, 0, .null))))) (nd 102 (nd 98 (nd 97 (lf 96 (.iastore, 0, 0, 0, .null)) (lf 97 (.aload_n 0, 0, 0, 0, .null))) (nd 101 (lf 98 (.getfield 25, 5, 0, 0, .null)) (lf 101 (.iload_n 2, 0, 0, 0, .null)))) (nd 105 (nd 104 (lf 102 (.iload 4, 0, 0, 0, .null)) (lf 104 (.iconst 1, 0, 0, 0, .null))) (nd 106 (lf 105 (.iadd, 0, 0, 0, .null)) (nd 107 (lf 106 (.iastore, 0, 0, 0, .null)) (lf 107 (.return_, 0, 0, 0, .null)))))))))
def m4 : Meth := (⟨"com/example/ourthe/ourthe/lts/RefinablePartition", "mark", "(I)V"⟩, prog_69_method_9_code, 6, (Option.none : Option Jvm.ClassFile.FieldType), upTo 108 m4_t)
def m5_t : Nat → Option Eng.Row := (nd 84 (nd 39 (nd 18 (nd 10 (nd 3 (nd 1 (lf 0 (.iconst 0, 0, 0, 0, .null)) (nd 2 (lf 1 (.istore_n 1, 0, 0, 0, .null)) (lf 2 (.iload_n 1, 0, 0, 0, .null)))) (nd 4 (lf 3 (.aload_n 0, 0, 0, 0, .null)) (nd 7 (lf 4 (.getfield 38, 9, 0, 0, .null)) (lf 7 (.if_icmp .ge 159, 0, 0, 0, .null))))) (nd 15 (nd 11 (lf 10 (.aload_n 0, 0, 0, 0, .null)) (nd 14 (lf 11 (.getfield 31, 7, 0, 0, .null)) (lf 14 (.iload_n 1, 0, 0, 0, .null)))) (nd 16 (lf 15 (.iaload, 0, 0, 0, .null)) (nd 17 (lf 16 (.istore_n 2, 0, 0, 0, .null)) (lf 17 (.aload_n 0, 0, 0, 0, .null)))))) (nd 26 (nd 23 (nd 21 (lf 18 (.getfield 25, 5, 0, 0, .null)) (nd 22 (lf 21 (.iload_n 2, 0, 0, 0, .null)) (lf 22 (.iaload, 0, 0, 0, .null)))) (nd 24 (lf 23 (.istore_n 3, 0, 0, 0, .null)) (nd 25 (lf 24 (.iload_n 3, 0, 0, 0, .null)) (lf 25 (.aload_n 0, 0, 0, 0, .null))))) (nd 31 (nd 29 (lf 26 (.getfield 22, 4, 0, 0, .null)) (nd 30 (lf 29 (.iload_n 2, 0, 0, 0, .null)) (lf 30 (.iaload, 0, 0, 0, .null)))) (nd 35 (nd 34 (lf 31 (.if_icmp .ge 117, 0, 0, 0, .null)) (lf 34 (.aload_n 0, 0, 0, 0, .null))) (nd 38 (lf 35 (.getfield 34, 8, 0, 0, .null)) (lf 38 (.aload_n 0, 0, 0, 0, .null))))))) (nd 63 (nd 52 (nd 46 (nd 42 (lf 39 (.getfield 19, 3, 0, 0, .null)) (nd 43 (lf 42 (.arraylength, 0, 0, 0, .null)) (lf 43 (.if_icmp .ne 7, 0, 0, 0, .null)))) (nd 50 (lf 46 (.aload_n 0, 0, 0, 0, .null)) (nd 51 (lf 50 (.aload_n 0, 0, 0, 0, .null)) (lf 51 (.dup, 0, 0, 0, .null))))) (nd 57 (nd 55 (lf 52 (.getfield 34, 8, 0, 0, .null)) (nd 56 (lf 55 (.dup_x1, 0, 0, 0, .null)) (lf 56 (.iconst 1, 0, 0, 0, .null)))) (nd 58 (lf 57 (.iadd, 0, 0, 0, .null)) (nd 61 (lf 58 (.putfield 34, 8, 0, 0, .null)) (lf 61 (.istore 4, 0, 0, 0, .null)))))) (nd 74 (nd 69 (nd 64 (lf 63 (.aload_n 0, 0, 0, 0, .null)) (nd 67 (lf 64 (.getfield 19, 3, 0, 0, .null)) (lf 67 (.iload 4, 0, 0, 0, .null)))) (nd 70 (lf 69 (.aload_n 0, 0, 0, 0, .null)) (nd 73 (lf 70 (.getfield 19, 3, 0, 0, .null)) (lf 73 (.iload_n 2, 0, 0, 0, .null))))) (nd 77 (nd 75 (lf 74 (.iaload, 0, 0, 0, .null)) (nd 76 (lf 75 (.iastore, 0, 0, 0, .null)) (lf 76 (.aload_n 0, 0, 0, 0, .null)))) (nd 82 (nd 80 (lf 77 (.getfield 22, 4, 0, 0, .null)) (lf 80 (.iload 4, 0, 0, 0, .null))) (nd 83 (lf 82 (.iload_n 3, 0, 0, 0, .null)) (lf 83 (.iastore, 0, 0, 0, .null)))))))) (nd 129 (nd 105 (nd 96 (nd 90 (nd 85 (lf 84 (.aload_n 0, 0, 0, 0, .null)) (nd 88 (lf 85 (.getfield 25, 5, 0, 0, .null)) (lf 88 (.iload 4, 0, 0, 0, .null)))) (nd 91 (lf 90 (.aload_n 0, 0, 0, 0, .null)) (nd 94 (lf 91 (.getfield 19, 3, 0, 0, .null)) (lf 94 (.iload 4, 0, 0, 0, .null))))) (nd 99 (nd 97 (lf 96 (.iaload, 0, 0, 0, .null)) (nd 98 (lf 97 (.iastore, 0, 0, 0, .null)) (lf 98 (.aload_n 0, 0, 0, 0, .null)))) (nd 102 (lf 99 (.getfield 28, 6, 0, 0, .null)) (nd 104 (lf 102 (.iload 4, 0, 0, 0, .null)) (lf 104 (.iload_n 2, 0, 0, 0, .null)))))) (nd 115 (nd 110 (nd 106 (lf 105 (.iastore, 0, 0, 0, .null)) (nd 107 (lf 106 (.aload_n 0, 0, 0, 0, .null)) (lf 107 (.getfield 19, 3, 0, 0, .null)))) (nd 112 (lf 110 (.iload 4, 0, 0, 0, .null)) (nd 113 (lf 112 (.iaload, 0, 0, 0, .null)) (lf 113 (.istore 5, 0, 0, 0, .null))))) (nd 121 (nd 117 (lf 115 (.iload 5, 0, 0, 0, .null)) (nd 118 (lf 117 (.iload_n 3, 0, 0, 0, .null)) (lf 118 (.if_icmp .ge 23, 0, 0, 0, .null)))) (nd 125 (nd 122 (lf 121 (.aload_n 0, 0, 0, 0, .null)) (lf 122 (.getfield 16, 2, 0, 0, .null))) (nd 126 (lf 125 (.aload_n 0, 0, 0, 0, .null)) (lf 126 (.getfield 7, 0, 0, 0, .null))))))) (nd 149 (nd 141 (nd 134 (nd 131 (lf 129 (.iload 5, 0, 0, 0, .null)) (nd 132 (lf 131 (.iaload, 0, 0, 0, .null)) (lf 132 (.iload 4, 0, 0, 0, .null)))) (nd 135 (lf 134 (.iastore, 0, 0, 0, .null)) (nd 138 (lf 135 (.iinc 5 1, 0, 0, 0, .null)) (lf 138 (.goto (-23), 0, 0, 0, .null))))) (nd 146 (nd 142 (lf 141 (.aload_n 0, 0, 0, 0, .null)) (nd 145 (lf 142 (.getfield 19, 3, 0, 0, .null)) (lf 145 (.iload_n 2, 0, 0, 0, .null)))) (nd 147 (lf 146 (.iload_n 3, 0, 0, 0, .null)) (nd 148 (lf 147 (.iastore, 0, 0, 0, .null)) (lf 148 (.aload_n 0, 0, 0, 0, .null)))))) (nd 159 (nd 154 (nd 152 (lf 149 (.getfield 25, 5, 0, 0, .null)) (nd 153 (lf 152 (.iload_n 2, 0, 0, 0, .null)) (lf 153 (.aload_n 0, 0, 0, 0, .null)))) (nd 157 (lf 154 (.getfield 19, 3, 0, 0, .null)) (nd 158 (lf 157 (.iload_n 2, 0, 0, 0, .null)) (lf 158 (.iaload, 0, 0, 0, .null))))) (nd 166 (nd 160 (lf 159 (.iastore, 0, 0, 0, .null)) (nd 163 (lf 160 (.iinc 1 1, 0, 0, 0, .null)) (lf 163 (.goto (-161), 0, 0, 0, .null)))) (nd 168 (nd 167 (lf 166 (.aload_n 0, 0, 0, 0, .null)) (lf 167 (.iconst 0, 0, 0, 0, .null))) (nd 171 (lf 168 (.putfield 38, 9, 0, 0, .null)) (lf 171 (.return_, 0, 0, 0, .null)))))))))
def m5 : Meth := (⟨"com/example/ourthe/ourthe/lts/RefinablePartition", "split", "()V"⟩, prog_69_method_10_code, 6, (Option.none : Option Jvm.ClassFile.FieldType), upTo 172 m5_t)
def m6_t : Nat → Option Eng.Row := (nd 62 (nd 30 (nd 15 (nd 7 (nd 2 (nd 1 (lf 0 (.aload_n 0, 0, 0, 0, .null)) (lf 1 (.iconst 0, 0, 0, 0, .null))) (nd 3 (lf 2 (.iaload, 0, 0, 0, .null)) (nd 4 (lf 3 (.iload_n 2, 0, 0, 0, .null)) (lf 4 (.if_icmp .ne 9, 0, 0, 0, .null))))) (nd 10 (nd 8 (lf 7 (.aload_n 1, 0, 0, 0, .null)) (nd 9 (lf 8 (.iconst 0, 0, 0, 0, .null)) (lf 9 (.baload, 0, 0, 0, .null)))) (nd 13 (lf 10 (.ifCond .ne 42, 0, 0, 0, .null)) (nd 14 (lf 13 (.aload_n 0, 0, 0, 0, .null)) (lf 14 (.iconst 1, 0, 0, 0, .null)))))) (nd 22 (nd 17 (nd 16 (lf 15 (.iaload, 0, 0, 0, .null)) (lf 16 (.iload_n 2, 0, 0, 0, .null))) (nd 20 (lf 17 (.if_icmp .ne 9, 0, 0, 0, .null)) (nd 21 (lf 20 (.aload_n 1, 0, 0, 0, .null)) (lf 21 (.iconst 1, 0, 0, 0, .null))))) (nd 27 (nd 23 (lf 22 (.baload, 0, 0, 0, .null)) (nd 26 (lf 23 (.ifCond .ne 29, 0, 0, 0, .null)) (lf 26 (.aload_n 0, 0, 0, 0, .null)))) (nd 28 (lf 27 (.iconst 2, 0, 0, 0, .null)) (nd 29 (lf 28 (.iaload, 0, 0, 0, .null)) (lf 29 (.iload_n 2, 0, 0, 0, .null))))))) (nd 47 (nd 39 (nd 34 (nd 33 (lf 30 (.if_icmp .ne 9, 0, 0, 0, .null)) (lf 33 (.aload_n 1, 0, 0, 0, .null))) (nd 35 (lf 34 (.iconst 2, 0, 0, 0, .null)) (nd 36 (lf 35 (.baload, 0, 0, 0, .null)) (lf 36 (.ifCond .ne 16, 0, 0, 0, .null))))) (nd 42 (nd 40 (lf 39 (.aload_n 0, 0, 0, 0, .null)) (nd 41 (lf 40 (.iconst 3, 0, 0, 0, .null)) (lf 41 (.iaload, 0, 0, 0, .null)))) (nd 43 (lf 42 (.iload_n 2, 0, 0, 0, .null)) (nd 46 (lf 43 (.if_icmp .ne 13, 0, 0, 0, .null)) (lf 46 (.aload_n 1, 0, 0, 0, .null)))))) (nd 56 (nd 49 (nd 48 (lf 47 (.iconst 3, 0, 0, 0, .null)) (lf 48 (.baload, 0, 0, 0, .null))) (nd 52 (lf 49 (.ifCond .eq 7, 0, 0, 0, .null)) (nd 53 (lf 52 (.iconst 1, 0, 0, 0, .null)) (lf 53 (.goto 4, 0, 0, 0, .null))))) (nd 59 (nd 57 (lf 56 (.iconst 0, 0, 0, 0, .null)) (nd 58 (lf 57 (.istore_n 3, 0, 0, 0, .null)) (lf 58 (.aload_n 0, 0, 0, 0, .null)))) (nd 60 (lf 59 (.iconst 0, 0, 0, 0, .null)) (nd 61 (lf 60 (.iaload, 0, 0, 0, .null)) (lf 61 (.iload_n 2, 0, 0, 0, .null)))))))) (nd 94 (nd 79 (nd 71 (nd 66 (nd 65 (lf 62 (.if_icmp .ne 9, 0, 0, 0, .null)) (lf 65 (.aload_n 1, 0, 0, 0, .null))) (nd 67 (lf 66 (.iconst 0, 0, 0, 0, .null)) (nd 68 (lf 67 (.baload, 0, 0, 0, .null)) (lf 68 (.ifCond .eq 42, 0, 0, 0, .null))))) (nd 74 (nd 72 (lf 71 (.aload_n 0, 0, 0, 0, .null)) (nd 73 (lf 72 (.iconst 1, 0, 0, 0, .null)) (lf 73 (.iaload, 0, 0, 0, .null)))) (nd 75 (lf 74 (.iload_n 2, 0, 0, 0, .null)) (nd 78 (lf 75 (.if_icmp .ne 9, 0, 0, 0, .null)) (lf 78 (.aload_n 1, 0, 0, 0, .null)))))) (nd 86 (nd 81 (nd 80 (lf 79 (.iconst 1, 0, 0, 0, .null)) (lf 80 (.baload, 0, 0, 0, .null))) (nd 84 (lf 81 (.ifCond .eq 29, 0, 0, 0, .null)) (nd 85 (lf 84 (.aload_n 0, 0, 0, 0, .null)) (lf 85 (.iconst 2, 0, 0, 0, .null))))) (nd 91 (nd 87 (lf 86 (.iaload, 0, 0, 0, .null)) (nd 88 (lf 87 (.iload_n 2, 0, 0, 0, .null)) (lf 88 (.if_icmp .ne 9, 0, 0, 0, .null)))) (nd 92 (lf 91 (.aload_n 1, 0, 0, 0, .null)) (nd 93 (lf 92 (.iconst 2, 0, 0, 0, .null)) (lf 93 (.baload, 0, 0, 0, .null))))))) (nd 111 (nd 101 (nd 98 (nd 97 (lf 94 (.ifCond .eq 16, 0, 0, 0, .null)) (lf 97 (.aload_n 0, 0, 0, 0, .null))) (nd 99 (lf 98 (.iconst 3, 0, 0, 0, .null)) (nd 100 (lf 99 (.iaload, 0, 0, 0, .null)) (lf 100 (.iload_n 2, 0, 0, 0, .null))))) (nd 106 (nd 104 (lf 101 (.if_icmp .ne 13, 0, 0, 0, .null)) (nd 105 (lf 104 (.aload_n 1, 0, 0, 0, .null)) (lf 105 (.iconst 3, 0, 0, 0, .null)))) (nd 107 (lf 106 (.baload, 0, 0, 0, .null)) (nd 110 (lf 107 (.ifCond .ne 7, 0, 0, 0, .null)) (lf 110 (.iconst 1, 0, 0, 0, .null)))))) (nd 121 (nd 115 (nd 114 (lf 111 (.goto 4, 0, 0, 0, .null)) (lf 114 (.iconst 0, 0, 0, 0, .null))) (nd 117 (lf 115 (.istore 4, 0, 0, 0, .null)) (nd 118 (lf 117 (.iload_n 3, 0, 0, 0, .null)) (lf 118 (.ifCond .eq 12, 0, 0, 0, .null))))) (nd 127 (nd 123 (lf 121 (.iload 4, 0, 0, 0, .null)) (nd 126 (lf 123 (.ifCond .eq 7, 0, 0, 0, .null)) (lf 126 (.iconst 1, 0, 0, 0, .null)))) (nd 130 (lf 127 (.goto 4, 0, 0, 0, .null)) (nd 131 (lf 130 (.iconst 0, 0, 0, 0, .null)) (lf 131 (.ireturn, 0, 0, 0, .null)))))))))
def m6 : Meth := (⟨"com/example/ourthe/ourthe/lts/RefinablePartitionMarkPinLaw", "mixed", "([I[ZI)Z"⟩, method_4_code, 5, (Option.some Jvm.ClassFile.FieldType.boolean), upTo 132 m6_t)
def m7_t : Nat → Option Eng.Row := (nd 73 (nd 38 (nd 16 (nd 8 (nd 3 (nd 1 (lf 0 (.aload_n 2, 0, 0, 0, .null)) (lf 1 (.iload 5, 0, 0, 0, .null))) (nd 4 (lf 3 (.baload, 0, 0, 0, .null)) (nd 7 (lf 4 (.ifCond .eq 19, 0, 0, 0, .null)) (lf 7 (.aload_n 1, 0, 0, 0, .null))))) (nd 10 (nd 9 (lf 8 (.aload_n 2, 0, 0, 0, .null)) (lf 9 (.aload_n 1, 0, 0, 0, .null))) (nd 12 (lf 10 (.iload 5, 0, 0, 0, .null)) (nd 13 (lf 12 (.iaload, 0, 0, 0, .null)) (lf 13 (.invokestatic 29, 6, 3, 0, .null)))))) (nd 26 (nd 20 (nd 19 (lf 16 (.ifCond .eq 7, 0, 0, 0, .null)) (lf 19 (.iconst 1, 0, 0, 0, .null))) (nd 23 (lf 20 (.goto 4, 0, 0, 0, .null)) (nd 24 (lf 23 (.iconst 0, 0, 0, 0, .null)) (lf 24 (.istore 8, 0, 0, 0, .null))))) (nd 33 (nd 28 (lf 26 (.iload 8, 0, 0, 0, .null)) (nd 31 (lf 28 (.ifCond .eq 25, 0, 0, 0, .null)) (lf 31 (.aload 4, 0, 0, 0, .null)))) (nd 35 (lf 33 (.iload 5, 0, 0, 0, .null)) (nd 36 (lf 35 (.iaload, 0, 0, 0, .null)) (lf 36 (.iload 6, 0, 0, 0, .null))))))) (nd 57 (nd 48 (nd 43 (nd 41 (lf 38 (.if_icmp .lt 13, 0, 0, 0, .null)) (lf 41 (.aload 4, 0, 0, 0, .null))) (nd 45 (lf 43 (.iload 5, 0, 0, 0, .null)) (nd 46 (lf 45 (.iaload, 0, 0, 0, .null)) (lf 46 (.iload 7, 0, 0, 0, .null))))) (nd 52 (nd 51 (lf 48 (.if_icmp .lt 19, 0, 0, 0, .null)) (lf 51 (.iconst 0, 0, 0, 0, .null))) (nd 53 (lf 52 (.ireturn, 0, 0, 0, .null)) (nd 55 (lf 53 (.aload 4, 0, 0, 0, .null)) (lf 55 (.iload 5, 0, 0, 0, .null)))))) (nd 65 (nd 59 (nd 58 (lf 57 (.iaload, 0, 0, 0, .null)) (lf 58 (.aload_n 3, 0, 0, 0, .null))) (nd 61 (lf 59 (.iload 5, 0, 0, 0, .null)) (nd 62 (lf 61 (.iaload, 0, 0, 0, .null)) (lf 62 (.if_icmp .eq 5, 0, 0, 0, .null))))) (nd 68 (nd 66 (lf 65 (.iconst 0, 0, 0, 0, .null)) (nd 67 (lf 66 (.ireturn, 0, 0, 0, .null)) (lf 67 (.aload_n 0, 0, 0, 0, .null)))) (nd 70 (lf 68 (.aload 4, 0, 0, 0, .null)) (nd 72 (lf 70 (.iload 5, 0, 0, 0, .null)) (lf 72 (.iaload, 0, 0, 0, .null)))))))) (nd 106 (nd 89 (nd 83 (nd 77 (nd 76 (lf 73 (.invokevirtual 52, 8, 2, 0, .null)) (lf 76 (.aload_n 3, 0, 0, 0, .null))) (nd 79 (lf 77 (.iload 5, 0, 0, 0, .null)) (nd 80 (lf 79 (.iaload, 0, 0, 0, .null)) (lf 80 (.if_icmp .eq 5, 0, 0, 0, .null))))) (nd 85 (nd 84 (lf 83 (.iconst 0, 0, 0, 0, .null)) (lf 84 (.ireturn, 0, 0, 0, .null))) (nd 86 (lf 85 (.aload_n 1, 0, 0, 0, .null)) (nd 87 (lf 86 (.aload_n 2, 0, 0, 0, .null)) (lf 87 (.iload 5, 0, 0, 0, .null)))))) (nd 97 (nd 93 (nd 90 (lf 89 (.iconst 0, 0, 0, 0, .null)) (lf 90 (.invokestatic 55, 9, 4, 0, .null))) (nd 94 (lf 93 (.aload_n 1, 0, 0, 0, .null)) (nd 95 (lf 94 (.aload_n 2, 0, 0, 0, .null)) (lf 95 (.iload 5, 0, 0, 0, .null))))) (nd 102 (nd 98 (lf 97 (.iconst 1, 0, 0, 0, .null)) (nd 101 (lf 98 (.invokestatic 55, 9, 4, 0, .null)) (lf 101 (.iadd, 0, 0, 0, .null)))) (nd 103 (lf 102 (.aload_n 1, 0, 0, 0, .null)) (nd 104 (lf 103 (.aload_n 2, 0, 0, 0, .null)) (lf 104 (.iload 5, 0, 0, 0, .null))))))) (nd 122 (nd 113 (nd 110 (nd 107 (lf 106 (.iconst 2, 0, 0, 0, .null)) (lf 107 (.invokestatic 55, 9, 4, 0, .null))) (nd 111 (lf 110 (.iadd, 0, 0, 0, .null)) (nd 112 (lf 111 (.aload_n 1, 0, 0, 0, .null)) (lf 112 (.aload_n 2, 0, 0, 0, .null))))) (nd 116 (nd 115 (lf 113 (.iload 5, 0, 0, 0, .null)) (lf 115 (.iconst 3, 0, 0, 0, .null))) (nd 119 (lf 116 (.invokestatic 55, 9, 4, 0, .null)) (nd 120 (lf 119 (.iadd, 0, 0, 0, .null)) (lf 120 (.istore 9, 0, 0, 0, .null)))))) (nd 131 (nd 125 (nd 123 (lf 122 (.aload_n 0, 0, 0, 0, .null)) (lf 123 (.aload 4, 0, 0, 0, .null))) (nd 127 (lf 125 (.iload 5, 0, 0, 0, .null)) (nd 128 (lf 127 (.iaload, 0, 0, 0, .null)) (lf 128 (.invokevirtual 59, 10, 2, 0, .null))))) (nd 137 (nd 133 (lf 131 (.iload 9, 0, 0, 0, .null)) (nd 136 (lf 133 (.if_icmp .ne 7, 0, 0, 0, .null)) (lf 136 (.iconst 1, 0, 0, 0, .null)))) (nd 140 (lf 137 (.goto 4, 0, 0, 0, .null)) (nd 141 (lf 140 (.iconst 0, 0, 0, 0, .null)) (lf 141 (.ireturn, 0, 0, 0, .null)))))))))
def m7 : Meth := (⟨"com/example/ourthe/ourthe/lts/RefinablePartitionMarkPinLaw", "elementOk", "(Lcom/example/ourthe/ourthe/lts/RefinablePartition;[I[Z[I[IIII)Z"⟩, method_6_code, 10, (Option.some Jvm.ClassFile.FieldType.boolean), upTo 142 m7_t)
def m8_t : Nat → Option Eng.Row := (nd 4 (nd 1 (lf 0 (.aload_n 0, 0, 0, 0, .null)) (lf 1 (.getfield 28, 6, 0, 0, .null))) (nd 5 (lf 4 (.iload_n 1, 0, 0, 0, .null)) (nd 6 (lf 5 (.iaload, 0, 0, 0, .null)) (lf 6 (.ireturn, 0, 0, 0, .null)))))
def m8 : Meth := (⟨"com/example/ourthe/ourthe/lts/RefinablePartition", "parent", "(I)I"⟩, prog_69_method_8_code, 2, (Option.some Jvm.ClassFile.FieldType.int), upTo 7 m8_t)
def m9_t : Nat → Option Eng.Row := (nd 11 (nd 4 (nd 2 (nd 1 (lf 0 (.aload_n 0, 0, 0, 0, .null)) (lf 1 (.iload_n 2, 0, 0, 0, .null))) (nd 3 (lf 2 (.iaload, 0, 0, 0, .null)) (lf 3 (.aload_n 0, 0, 0, 0, .null)))) (nd 6 (nd 5 (lf 4 (.iload_n 3, 0, 0, 0, .null)) (lf 5 (.iaload, 0, 0, 0, .null))) (nd 9 (lf 6 (.if_icmp .ne 16, 0, 0, 0, .null)) (nd 10 (lf 9 (.aload_n 1, 0, 0, 0, .null)) (lf 10 (.iload_n 2, 0, 0, 0, .null)))))) (nd 15 (nd 13 (nd 12 (lf 11 (.baload, 0, 0, 0, .null)) (lf 12 (.aload_n 1, 0, 0, 0, .null))) (nd 14 (lf 13 (.iload_n 3, 0, 0, 0, .null)) (lf 14 (.baload, 0, 0, 0, .null)))) (nd 19 (nd 18 (lf 15 (.if_icmp .ne 7, 0, 0, 0, .null)) (lf 18 (.iconst 1, 0, 0, 0, .null))) (nd 22 (lf 19 (.goto 4, 0, 0, 0, .null)) (nd 23 (lf 22 (.iconst 0, 0, 0, 0, .null)) (lf 23 (.ireturn, 0, 0, 0, .null)))))))
def m9 : Meth := (⟨"com/example/ourthe/ourthe/lts/RefinablePartitionMarkPinLaw", "same", "([I[ZII)I"⟩, method_5_code, 4, (Option.some Jvm.ClassFile.FieldType.int), upTo 24 m9_t)
def m10_t : Nat → Option Eng.Row := (nd 7 (nd 4 (nd 1 (lf 0 (.aload_n 0, 0, 0, 0, .null)) (lf 1 (.getfield 22, 4, 0, 0, .null))) (nd 5 (lf 4 (.iload_n 1, 0, 0, 0, .null)) (nd 6 (lf 5 (.iaload, 0, 0, 0, .null)) (lf 6 (.aload_n 0, 0, 0, 0, .null))))) (nd 11 (nd 10 (lf 7 (.getfield 19, 3, 0, 0, .null)) (lf 10 (.iload_n 1, 0, 0, 0, .null))) (nd 12 (lf 11 (.iaload, 0, 0, 0, .null)) (nd 13 (lf 12 (.isub, 0, 0, 0, .null)) (lf 13 (.ireturn, 0, 0, 0, .null))))))
def m10 : Meth := (⟨"com/example/ourthe/ourthe/lts/RefinablePartition", "size", "(I)I"⟩, prog_69_method_6_code, 2, (Option.some Jvm.ClassFile.FieldType.int), upTo 14 m10_t)
def m11_t : Nat → Option Eng.Row := (nd 22 (nd 11 (nd 4 (nd 2 (nd 1 (lf 0 (.aload_n 2, 0, 0, 0, .null)) (lf 1 (.iload_n 3, 0, 0, 0, .null))) (nd 3 (lf 2 (.iaload, 0, 0, 0, .null)) (lf 3 (.aload_n 2, 0, 0, 0, .null)))) (nd 7 (nd 6 (lf 4 (.iload 4, 0, 0, 0, .null)) (lf 6 (.iaload, 0, 0, 0, .null))) (nd 10 (lf 7 (.if_icmp .ne 7, 0, 0, 0, .null)) (lf 10 (.iconst 1, 0, 0, 0, .null))))) (nd 17 (nd 15 (nd 14 (lf 11 (.goto 4, 0, 0, 0, .null)) (lf 14 (.iconst 0, 0, 0, 0, .null))) (nd 16 (lf 15 (.aload_n 0, 0, 0, 0, .null)) (lf 16 (.iload_n 3, 0, 0, 0, .null)))) (nd 19 (nd 18 (lf 17 (.iaload, 0, 0, 0, .null)) (lf 18 (.aload_n 0, 0, 0, 0, .null))) (nd 21 (lf 19 (.iload 4, 0, 0, 0, .null)) (lf 21 (.iaload, 0, 0, 0, .null)))))) (nd 35 (nd 28 (nd 26 (nd 25 (lf 22 (.if_icmp .ne 17, 0, 0, 0, .null)) (lf 25 (.aload_n 1, 0, 0, 0, .null))) (nd 27 (lf 26 (.iload_n 3, 0, 0, 0, .null)) (lf 27 (.baload, 0, 0, 0, .null)))) (nd 31 (nd 29 (lf 28 (.aload_n 1, 0, 0, 0, .null)) (lf 29 (.iload 4, 0, 0, 0, .null))) (nd 32 (lf 31 (.baload, 0, 0, 0, .null)) (lf 32 (.if_icmp .ne 7, 0, 0, 0, .null))))) (nd 43 (nd 39 (nd 36 (lf 35 (.iconst 1, 0, 0, 0, .null)) (lf 36 (.goto 4, 0, 0, 0, .null))) (nd 40 (lf 39 (.iconst 0, 0, 0, 0, .null)) (lf 40 (.if_icmp .ne 7, 0, 0, 0, .null)))) (nd 47 (nd 44 (lf 43 (.iconst 1, 0, 0, 0, .null)) (lf 44 (.goto 4, 0, 0, 0, .null))) (nd 48 (lf 47 (.iconst 0, 0, 0, 0, .null)) (lf 48 (.ireturn, 0, 0, 0, .null)))))))
def m11 : Meth := (⟨"com/example/ourthe/ourthe/lts/RefinablePartitionMarkPinLaw", "pairOk", "([I[Z[III)Z"⟩, method_7_code, 5, (Option.some Jvm.ClassFile.FieldType.boolean), upTo 49 m11_t)
def m12_t : Nat → Option Eng.Row := (nd 22 (nd 11 (nd 5 (nd 1 (lf 0 (.aload_n 0, 0, 0, 0, .null)) (nd 2 (lf 1 (.iload_n 1, 0, 0, 0, .null)) (lf 2 (.invokevirtual 45, 13, 2, 0, .null)))) (nd 7 (nd 6 (lf 5 (.istore_n 2, 0, 0, 0, .null)) (lf 6 (.iload_n 2, 0, 0, 0, .null))) (nd 10 (lf 7 (.ifCond .lt 8, 0, 0, 0, .null)) (lf 10 (.iload_n 2, 0, 0, 0, .null))))) (nd 16 (nd 12 (lf 11 (.iconst 3, 0, 0, 0, .null)) (nd 15 (lf 12 (.if_icmp .le 5, 0, 0, 0, .null)) (lf 15 (.iconst 0, 0, 0, 0, .null)))) (nd 18 (nd 17 (lf 16 (.ireturn, 0, 0, 0, .null)) (lf 17 (.aload_n 0, 0, 0, 0, .null))) (nd 19 (lf 18 (.iload_n 2, 0, 0, 0, .null)) (lf 19 (.invokevirtual 16, 2, 2, 0, .null)))))) (nd 33 (nd 25 (nd 23 (lf 22 (.istore_n 3, 0, 0, 0, .null)) (nd 24 (lf 23 (.aload_n 0, 0, 0, 0, .null)) (lf 24 (.iload_n 3, 0, 0, 0, .null)))) (nd 29 (nd 28 (lf 25 (.invokevirtual 62, 14, 2, 0, .null)) (lf 28 (.iload_n 1, 0, 0, 0, .null))) (nd 32 (lf 29 (.if_icmp .gt 16, 0, 0, 0, .null)) (lf 32 (.iload_n 1, 0, 0, 0, .null))))) (nd 41 (nd 35 (nd 34 (lf 33 (.aload_n 0, 0, 0, 0, .null)) (lf 34 (.iload_n 3, 0, 0, 0, .null))) (nd 38 (lf 35 (.invokevirtual 65, 15, 2, 0, .null)) (lf 38 (.if_icmp .ge 7, 0, 0, 0, .null)))) (nd 45 (nd 42 (lf 41 (.iconst 1, 0, 0, 0, .null)) (lf 42 (.goto 4, 0, 0, 0, .null))) (nd 46 (lf 45 (.iconst 0, 0, 0, 0, .null)) (lf 46 (.ireturn, 0, 0, 0, .null)))))))
def m12 : Meth := (⟨"com/example/ourthe/ourthe/lts/RefinablePartitionMarkPinLaw", "placeOk", "(Lcom/example/ourthe/ourthe/lts/RefinablePartition;I)Z"⟩, method_8_code, 4, (Option.some Jvm.ClassFile.FieldType.boolean), upTo 47 m12_t)
def m13_t : Nat → Option Eng.Row := (nd 4 (nd 1 (lf 0 (.aload_n 0, 0, 0, 0, .null)) (lf 1 (.getfield 7, 0, 0, 0, .null))) (nd 5 (lf 4 (.iload_n 1, 0, 0, 0, .null)) (nd 6 (lf 5 (.iaload, 0, 0, 0, .null)) (lf 6 (.ireturn, 0, 0, 0, .null)))))
def m13 : Meth := (⟨"com/example/ourthe/ourthe/lts/RefinablePartition", "element", "(I)I"⟩, prog_69_method_7_code, 2, (Option.some Jvm.ClassFile.FieldType.int), upTo 7 m13_t)
def m14_t : Nat → Option Eng.Row := (nd 4 (nd 1 (lf 0 (.aload_n 0, 0, 0, 0, .null)) (lf 1 (.getfield 19, 3, 0, 0, .null))) (nd 5 (lf 4 (.iload_n 1, 0, 0, 0, .null)) (nd 6 (lf 5 (.iaload, 0, 0, 0, .null)) (lf 6 (.ireturn, 0, 0, 0, .null)))))
def m14 : Meth := (⟨"com/example/ourthe/ourthe/lts/RefinablePartition", "first", "(I)I"⟩, prog_69_method_4_code, 2, (Option.some Jvm.ClassFile.FieldType.int), upTo 7 m14_t)
def m15_t : Nat → Option Eng.Row := (nd 4 (nd 1 (lf 0 (.aload_n 0, 0, 0, 0, .null)) (lf 1 (.getfield 22, 4, 0, 0, .null))) (nd 5 (lf 4 (.iload_n 1, 0, 0, 0, .null)) (nd 6 (lf 5 (.iaload, 0, 0, 0, .null)) (lf 6 (.ireturn, 0, 0, 0, .null)))))
def m15 : Meth := (⟨"com/example/ourthe/ourthe/lts/RefinablePartition", "end", "(I)I"⟩, prog_69_method_5_code, 2, (Option.some Jvm.ClassFile.FieldType.int), upTo 7 m15_t)
def mL_t : Nat → Option Eng.Row := (nd 346 (nd 156 (nd 65 (nd 28 (nd 14 (nd 7 (nd 4 (nd 1 (lf 0 (.iconst 4, 0, 0, 0, .null)) (nd 3 (lf 1 (.newarray .int, 0, 0, 0, .null)) (lf 3 (.astore_n 3, 0, 0, 0, .null)))) (nd 5 (lf 4 (.aload_n 3, 0, 0, 0, .null)) (nd 6 (lf 5 (.iconst 0, 0, 0, 0, .null)) (lf 6 (.iload_n 0, 0, 0, 0, .null))))) (nd 10 (nd 8 (lf 7 (.iconst 3, 0, 0, 0, .null)) (nd 9 (lf 8 (.iand, 0, 0, 0, .null)) (lf 9 (.iconst 3, 0, 0, 0, .null)))) (nd 12 (nd 11 (lf 10 (.irem, 0, 0, 0, .null)) (lf 11 (.iastore, 0, 0, 0, .null))) (nd 13 (lf 12 (.aload_n 3, 0, 0, 0, .null)) (lf 13 (.iconst 1, 0, 0, 0, .null)))))) (nd 21 (nd 17 (nd 15 (lf 14 (.iload_n 0, 0, 0, 0, .null)) (nd 16 (lf 15 (.iconst 2, 0, 0, 0, .null)) (lf 16 (.iushr, 0, 0, 0, .null)))) (nd 19 (nd 18 (lf 17 (.iconst 3, 0, 0, 0, .null)) (lf 18 (.iand, 0, 0, 0, .null))) (nd 20 (lf 19 (.iconst 3, 0, 0, 0, .null)) (lf 20 (.irem, 0, 0, 0, .null))))) (nd 24 (nd 22 (lf 21 (.iastore, 0, 0, 0, .null)) (nd 23 (lf 22 (.aload_n 3, 0, 0, 0, .null)) (lf 23 (.iconst 2, 0, 0, 0, .null)))) (nd 26 (nd 25 (lf 24 (.iload_n 0, 0, 0, 0, .null)) (lf 25 (.iconst 4, 0, 0, 0, .null))) (nd 27 (lf 26 (.iushr, 0, 0, 0, .null)) (lf 27 (.iconst 3, 0, 0, 0, .null))))))) (nd 43 (nd 35 (nd 31 (nd 29 (lf 28 (.iand, 0, 0, 0, .null)) (nd 30 (lf 29 (.iconst 3, 0, 0, 0, .null)) (lf 30 (.irem, 0, 0, 0, .null)))) (nd 33 (nd 32 (lf 31 (.iastore, 0, 0, 0, .null)) (lf 32 (.aload_n 3, 0, 0, 0, .null))) (nd 34 (lf 33 (.iconst 3, 0, 0, 0, .null)) (lf 34 (.iload_n 0, 0, 0, 0, .null))))) (nd 39 (nd 37 (lf 35 (.bipush 6, 0, 0, 0, .null)) (nd 38 (lf 37 (.iushr, 0, 0, 0, .null)) (lf 38 (.iconst 3, 0, 0, 0, .null)))) (nd 41 (nd 40 (lf 39 (.iand, 0, 0, 0, .null)) (lf 40 (.iconst 3, 0, 0, 0, .null))) (nd 42 (lf 41 (.irem, 0, 0, 0, .null)) (lf 42 (.iastore, 0, 0, 0, .null)))))) (nd 53 (nd 48 (nd 44 (lf 43 (.iconst 4, 0, 0, 0, .null)) (nd 46 (lf 44 (.newarray .boolean, 0, 0, 0, .null)) (lf 46 (.astore 4, 0, 0, 0, .null)))) (nd 51 (nd 50 (lf 48 (.aload 4, 0, 0, 0, .null)) (lf 50 (.iconst 0, 0, 0, 0, .null))) (nd 52 (lf 51 (.iload_n 1, 0, 0, 0, .null)) (lf 52 (.iconst 1, 0, 0, 0, .null))))) (nd 58 (nd 54 (lf 53 (.iand, 0, 0, 0, .null)) (nd 57 (lf 54 (.ifCond .eq 7, 0, 0, 0, .null)) (lf 57 (.iconst 1, 0, 0, 0, .null)))) (nd 62 (nd 61 (lf 58 (.goto 4, 0, 0, 0, .null)) (lf 61 (.iconst 0, 0, 0, 0, .null))) (nd 63 (lf 62 (.bastore, 0, 0, 0, .null)) (lf 63 (.aload 4, 0, 0, 0, .null)))))))) (nd 108 (nd 84 (nd 76 (nd 68 (nd 66 (lf 65 (.iconst 1, 0, 0, 0, .null)) (nd 67 (lf 66 (.iload_n 1, 0, 0, 0, .null)) (lf 67 (.iconst 2, 0, 0, 0, .null)))) (nd 72 (nd 69 (lf 68 (.iand, 0, 0, 0, .null)) (lf 69 (.ifCond .eq 7, 0, 0, 0, .null))) (nd 73 (lf 72 (.iconst 1, 0, 0, 0, .null)) (lf 73 (.goto 4, 0, 0, 0, .null))))) (nd 80 (nd 77 (lf 76 (.iconst 0, 0, 0, 0, .null)) (nd 78 (lf 77 (.bastore, 0, 0, 0, .null)) (lf 78 (.aload 4, 0, 0, 0, .null)))) (nd 82 (nd 81 (lf 80 (.iconst 2, 0, 0, 0, .null)) (lf 81 (.iload_n 1, 0, 0, 0, .null))) (nd 83 (lf 82 (.iconst 4, 0, 0, 0, .null)) (lf 83 (.iand, 0, 0, 0, .null)))))) (nd 96 (nd 91 (nd 87 (lf 84 (.ifCond .eq 7, 0, 0, 0, .null)) (nd 88 (lf 87 (.iconst 1, 0, 0, 0, .null)) (lf 88 (.goto 4, 0, 0, 0, .null)))) (nd 93 (nd 92 (lf 91 (.iconst 0, 0, 0, 0, .null)) (lf 92 (.bastore, 0, 0, 0, .null))) (nd 95 (lf 93 (.aload 4, 0, 0, 0, .null)) (lf 95 (.iconst 3, 0, 0, 0, .null))))) (nd 100 (nd 97 (lf 96 (.iload_n 1, 0, 0, 0, .null)) (nd 99 (lf 97 (.bipush 8, 0, 0, 0, .null)) (lf 99 (.iand, 0, 0, 0, .null)))) (nd 104 (nd 103 (lf 100 (.ifCond .eq 7, 0, 0, 0, .null)) (lf 103 (.iconst 1, 0, 0, 0, .null))) (nd 107 (lf 104 (.goto 4, 0, 0, 0, .null)) (lf 107 (.iconst 0, 0, 0, 0, .null))))))) (nd 133 (nd 119 (nd 113 (nd 109 (lf 108 (.bastore, 0, 0, 0, .null)) (nd 112 (lf 109 (.new 7, 0, 0, 0, .null)) (lf 112 (.dup, 0, 0, 0, .null)))) (nd 115 (nd 114 (lf 113 (.aload_n 3, 0, 0, 0, .null)) (lf 114 (.iconst 4, 0, 0, 0, .null))) (nd 116 (lf 115 (.iconst 3, 0, 0, 0, .null)) (lf 116 (.invokespecial 9, 0, 4, 0, .null))))) (nd 126 (nd 121 (lf 119 (.astore 5, 0, 0, 0, .null)) (nd 123 (lf 121 (.aload 5, 0, 0, 0, .null)) (lf 123 (.invokevirtual 12, 1, 1, 0, .null)))) (nd 129 (nd 128 (lf 126 (.istore 6, 0, 0, 0, .null)) (lf 128 (.iconst 4, 0, 0, 0, .null))) (nd 131 (lf 129 (.newarray .int, 0, 0, 0, .null)) (lf 131 (.astore 7, 0, 0, 0, .null)))))) (nd 145 (nd 138 (nd 135 (lf 133 (.aload 7, 0, 0, 0, .null)) (nd 136 (lf 135 (.iconst 0, 0, 0, 0, .null)) (lf 136 (.aload 5, 0, 0, 0, .null)))) (nd 142 (nd 139 (lf 138 (.iconst 0, 0, 0, 0, .null)) (lf 139 (.invokevirtual 16, 2, 2, 0, .null))) (nd 143 (lf 142 (.iastore, 0, 0, 0, .null)) (lf 143 (.aload 7, 0, 0, 0, .null))))) (nd 149 (nd 146 (lf 145 (.iconst 1, 0, 0, 0, .null)) (nd 148 (lf 146 (.aload 5, 0, 0, 0, .null)) (lf 148 (.iconst 1, 0, 0, 0, .null)))) (nd 153 (nd 152 (lf 149 (.invokevirtual 16, 2, 2, 0, .null)) (lf 152 (.iastore, 0, 0, 0, .null))) (nd 155 (lf 153 (.aload 7, 0, 0, 0, .null)) (lf 155 (.iconst 2, 0, 0, 0, .null))))))))) (nd 249 (nd 202 (nd 179 (nd 168 (nd 162 (nd 158 (lf 156 (.aload 5, 0, 0, 0, .null)) (nd 159 (lf 158 (.iconst 2, 0, 0, 0, .null)) (lf 159 (.invokevirtual 16, 2, 2, 0, .null)))) (nd 165 (nd 163 (lf 162 (.iastore, 0, 0, 0, .null)) (lf 163 (.aload 7, 0, 0, 0, .null))) (nd 166 (lf 165 (.iconst 3, 0, 0, 0, .null)) (lf 166 (.aload 5, 0, 0, 0, .null))))) (nd 173 (nd 169 (lf 168 (.iconst 3, 0, 0, 0, .null)) (nd 172 (lf 169 (.invokevirtual 16, 2, 2, 0, .null)) (lf 172 (.iastore, 0, 0, 0, .null)))) (nd 175 (nd 174 (lf 173 (.iload_n 2, 0, 0, 0, .null)) (lf 174 (.iconst 1, 0, 0, 0, .null))) (nd 176 (lf 175 (.iand, 0, 0, 0, .null)) (lf 176 (.ifCond .eq 46, 0, 0, 0, .null)))))) (nd 191 (nd 184 (nd 181 (lf 179 (.aload 5, 0, 0, 0, .null)) (nd 182 (lf 181 (.iconst 3, 0, 0, 0, .null)) (lf 182 (.aload 4, 0, 0, 0, .null)))) (nd 186 (nd 185 (lf 184 (.iconst 3, 0, 0, 0, .null)) (lf 185 (.baload, 0, 0, 0, .null))) (nd 189 (lf 186 (.invokestatic 20, 3, 3, 0, .null)) (lf 189 (.aload 5, 0, 0, 0, .null))))) (nd 195 (nd 192 (lf 191 (.iconst 2, 0, 0, 0, .null)) (nd 194 (lf 192 (.aload 4, 0, 0, 0, .null)) (lf 194 (.iconst 2, 0, 0, 0, .null)))) (nd 199 (nd 196 (lf 195 (.baload, 0, 0, 0, .null)) (lf 196 (.invokestatic 20, 3, 3, 0, .null))) (nd 201 (lf 199 (.aload 5, 0, 0, 0, .null)) (lf 201 (.iconst 1, 0, 0, 0, .null))))))) (nd 227 (nd 214 (nd 206 (nd 204 (lf 202 (.aload 4, 0, 0, 0, .null)) (nd 205 (lf 204 (.iconst 1, 0, 0, 0, .null)) (lf 205 (.baload, 0, 0, 0, .null)))) (nd 211 (nd 209 (lf 206 (.invokestatic 20, 3, 3, 0, .null)) (lf 209 (.aload 5, 0, 0, 0, .null))) (nd 212 (lf 211 (.iconst 0, 0, 0, 0, .null)) (lf 212 (.aload 4, 0, 0, 0, .null))))) (nd 219 (nd 215 (lf 214 (.iconst 0, 0, 0, 0, .null)) (nd 216 (lf 215 (.baload, 0, 0, 0, .null)) (lf 216 (.invokestatic 20, 3, 3, 0, .null)))) (nd 224 (nd 222 (lf 219 (.goto 43, 0, 0, 0, .null)) (lf 222 (.aload 5, 0, 0, 0, .null))) (nd 225 (lf 224 (.iconst 0, 0, 0, 0, .null)) (lf 225 (.aload 4, 0, 0, 0, .null)))))) (nd 238 (nd 232 (nd 228 (lf 227 (.iconst 0, 0, 0, 0, .null)) (nd 229 (lf 228 (.baload, 0, 0, 0, .null)) (lf 229 (.invokestatic 20, 3, 3, 0, .null)))) (nd 235 (nd 234 (lf 232 (.aload 5, 0, 0, 0, .null)) (lf 234 (.iconst 1, 0, 0, 0, .null))) (nd 237 (lf 235 (.aload 4, 0, 0, 0, .null)) (lf 237 (.iconst 1, 0, 0, 0, .null))))) (nd 244 (nd 239 (lf 238 (.baload, 0, 0, 0, .null)) (nd 242 (lf 239 (.invokestatic 20, 3, 3, 0, .null)) (lf 242 (.aload 5, 0, 0, 0, .null)))) (nd 247 (nd 245 (lf 244 (.iconst 2, 0, 0, 0, .null)) (lf 245 (.aload 4, 0, 0, 0, .null))) (nd 248 (lf 247 (.iconst 2, 0, 0, 0, .null)) (lf 248 (.baload, 0, 0, 0, .null)))))))) (nd 297 (nd 273 (nd 262 (nd 255 (nd 252 (lf 249 (.invokestatic 20, 3, 3, 0, .null)) (nd 254 (lf 252 (.aload 5, 0, 0, 0, .null)) (lf 254 (.iconst 3, 0, 0, 0, .null)))) (nd 258 (nd 257 (lf 255 (.aload 4, 0, 0, 0, .null)) (lf 257 (.iconst 3, 0, 0, 0, .null))) (nd 259 (lf 258 (.baload, 0, 0, 0, .null)) (lf 259 (.invokestatic 20, 3, 3, 0, .null))))) (nd 267 (nd 264 (lf 262 (.aload 5, 0, 0, 0, .null)) (nd 265 (lf 264 (.iconst 0, 0, 0, 0, .null)) (lf 265 (.aload 4, 0, 0, 0, .null)))) (nd 269 (nd 268 (lf 267 (.iconst 0, 0, 0, 0, .null)) (lf 268 (.baload, 0, 0, 0, .null))) (nd 272 (lf 269 (.ifCond .eq 13, 0, 0, 0, .null)) (lf 272 (.iload_n 2, 0, 0, 0, .null)))))) (nd 286 (nd 278 (nd 274 (lf 273 (.iconst 2, 0, 0, 0, .null)) (nd 275 (lf 274 (.iand, 0, 0, 0, .null)) (lf 275 (.ifCond .eq 7, 0, 0, 0, .null)))) (nd 282 (nd 279 (lf 278 (.iconst 1, 0, 0, 0, .null)) (lf 279 (.goto 4, 0, 0, 0, .null))) (nd 283 (lf 282 (.iconst 0, 0, 0, 0, .null)) (lf 283 (.invokestatic 20, 3, 3, 0, .null))))) (nd 291 (nd 288 (lf 286 (.aload 5, 0, 0, 0, .null)) (nd 289 (lf 288 (.iconst 1, 0, 0, 0, .null)) (lf 289 (.aload 4, 0, 0, 0, .null)))) (nd 293 (nd 292 (lf 291 (.iconst 1, 0, 0, 0, .null)) (lf 292 (.baload, 0, 0, 0, .null))) (nd 296 (lf 293 (.ifCond .eq 13, 0, 0, 0, .null)) (lf 296 (.iload_n 2, 0, 0, 0, .null))))))) (nd 321 (nd 310 (nd 302 (nd 298 (lf 297 (.iconst 4, 0, 0, 0, .null)) (nd 299 (lf 298 (.iand, 0, 0, 0, .null)) (lf 299 (.ifCond .eq 7, 0, 0, 0, .null)))) (nd 306 (nd 303 (lf 302 (.iconst 1, 0, 0, 0, .null)) (lf 303 (.goto 4, 0, 0, 0, .null))) (nd 307 (lf 306 (.iconst 0, 0, 0, 0, .null)) (lf 307 (.invokestatic 20, 3, 3, 0, .null))))) (nd 315 (nd 312 (lf 310 (.aload 5, 0, 0, 0, .null)) (nd 313 (lf 312 (.iconst 2, 0, 0, 0, .null)) (lf 313 (.aload 4, 0, 0, 0, .null)))) (nd 317 (nd 316 (lf 315 (.iconst 2, 0, 0, 0, .null)) (lf 316 (.baload, 0, 0, 0, .null))) (nd 320 (lf 317 (.ifCond .eq 14, 0, 0, 0, .null)) (lf 320 (.iload_n 2, 0, 0, 0, .null)))))) (nd 335 (nd 327 (nd 323 (lf 321 (.bipush 8, 0, 0, 0, .null)) (nd 324 (lf 323 (.iand, 0, 0, 0, .null)) (lf 324 (.ifCond .eq 7, 0, 0, 0, .null)))) (nd 331 (nd 328 (lf 327 (.iconst 1, 0, 0, 0, .null)) (lf 328 (.goto 4, 0, 0, 0, .null))) (nd 332 (lf 331 (.iconst 0, 0, 0, 0, .null)) (lf 332 (.invokestatic 20, 3, 3, 0, .null))))) (nd 340 (nd 337 (lf 335 (.aload 5, 0, 0, 0, .null)) (nd 338 (lf 337 (.iconst 3, 0, 0, 0, .null)) (lf 338 (.aload 4, 0, 0, 0, .null)))) (nd 342 (nd 341 (lf 340 (.iconst 3, 0, 0, 0, .null)) (lf 341 (.baload, 0, 0, 0, .null))) (nd 345 (lf 342 (.ifCond .eq 14, 0, 0, 0, .null)) (lf 345 (.iload_n 2, 0, 0, 0, .null)))))))))) (nd 549 (nd 445 (nd 396 (nd 373 (nd 360 (nd 352 (nd 348 (lf 346 (.bipush 16, 0, 0, 0, .null)) (nd 349 (lf 348 (.iand, 0, 0, 0, .null)) (lf 349 (.ifCond .eq 7, 0, 0, 0, .null)))) (nd 356 (nd 353 (lf 352 (.iconst 1, 0, 0, 0, .null)) (lf 353 (.goto 4, 0, 0, 0, .null))) (nd 357 (lf 356 (.iconst 0, 0, 0, 0, .null)) (lf 357 (.invokestatic 20, 3, 3, 0, .null))))) (nd 366 (nd 362 (lf 360 (.aload 5, 0, 0, 0, .null)) (nd 365 (lf 362 (.invokevirtual 26, 5, 1, 0, .null)) (lf 365 (.iconst 4, 0, 0, 0, .null)))) (nd 370 (nd 368 (lf 366 (.newarray .int, 0, 0, 0, .null)) (lf 368 (.astore 8, 0, 0, 0, .null))) (nd 372 (lf 370 (.aload 8, 0, 0, 0, .null)) (lf 372 (.iconst 0, 0, 0, 0, .null)))))) (nd 385 (nd 379 (nd 375 (lf 373 (.aload 5, 0, 0, 0, .null)) (nd 376 (lf 375 (.iconst 0, 0, 0, 0, .null)) (lf 376 (.invokevirtual 16, 2, 2, 0, .null)))) (nd 382 (nd 380 (lf 379 (.iastore, 0, 0, 0, .null)) (lf 380 (.aload 8, 0, 0, 0, .null))) (nd 383 (lf 382 (.iconst 1, 0, 0, 0, .null)) (lf 383 (.aload 5, 0, 0, 0, .null))))) (nd 390 (nd 386 (lf 385 (.iconst 1, 0, 0, 0, .null)) (nd 389 (lf 386 (.invokevirtual 16, 2, 2, 0, .null)) (lf 389 (.iastore, 0, 0, 0, .null)))) (nd 393 (nd 392 (lf 390 (.aload 8, 0, 0, 0, .null)) (lf 392 (.iconst 2, 0, 0, 0, .null))) (nd 395 (lf 393 (.aload 5, 0, 0, 0, .null)) (lf 395 (.iconst 2, 0, 0, 0, .null))))))) (nd 421 (nd 409 (nd 402 (nd 399 (lf 396 (.invokevirtual 16, 2, 2, 0, .null)) (nd 400 (lf 399 (.iastore, 0, 0, 0, .null)) (lf 400 (.aload 8, 0, 0, 0, .null)))) (nd 405 (nd 403 (lf 402 (.iconst 3, 0, 0, 0, .null)) (lf 403 (.aload 5, 0, 0, 0, .null))) (nd 406 (lf 405 (.iconst 3, 0, 0, 0, .null)) (lf 406 (.invokevirtual 16, 2, 2, 0, .null))))) (nd 413 (nd 410 (lf 409 (.iastore, 0, 0, 0, .null)) (nd 411 (lf 410 (.aload_n 3, 0, 0, 0, .null)) (lf 411 (.aload 4, 0, 0, 0, .null)))) (nd 417 (nd 414 (lf 413 (.iconst 0, 0, 0, 0, .null)) (lf 414 (.invokestatic 29, 6, 3, 0, .null))) (nd 420 (lf 417 (.ifCond .eq 7, 0, 0, 0, .null)) (lf 420 (.iconst 1, 0, 0, 0, .null)))))) (nd 435 (nd 426 (nd 424 (lf 421 (.goto 4, 0, 0, 0, .null)) (nd 425 (lf 424 (.iconst 0, 0, 0, 0, .null)) (lf 425 (.aload_n 3, 0, 0, 0, .null)))) (nd 429 (nd 428 (lf 426 (.aload 4, 0, 0, 0, .null)) (lf 428 (.iconst 1, 0, 0, 0, .null))) (nd 432 (lf 429 (.invokestatic 29, 6, 3, 0, .null)) (lf 432 (.ifCond .eq 7, 0, 0, 0, .null))))) (nd 440 (nd 436 (lf 435 (.iconst 1, 0, 0, 0, .null)) (nd 439 (lf 436 (.goto 4, 0, 0, 0, .null)) (lf 439 (.iconst 0, 0, 0, 0, .null)))) (nd 442 (nd 441 (lf 440 (.iadd, 0, 0, 0, .null)) (lf 441 (.aload_n 3, 0, 0, 0, .null))) (nd 444 (lf 442 (.aload 4, 0, 0, 0, .null)) (lf 444 (.iconst 2, 0, 0, 0, .null)))))))) (nd 499 (nd 473 (nd 459 (nd 452 (nd 448 (lf 445 (.invokestatic 29, 6, 3, 0, .null)) (nd 451 (lf 448 (.ifCond .eq 7, 0, 0, 0, .null)) (lf 451 (.iconst 1, 0, 0, 0, .null)))) (nd 456 (nd 455 (lf 452 (.goto 4, 0, 0, 0, .null)) (lf 455 (.iconst 0, 0, 0, 0, .null))) (nd 457 (lf 456 (.iadd, 0, 0, 0, .null)) (lf 457 (.istore 9, 0, 0, 0, .null))))) (nd 466 (nd 461 (lf 459 (.aload 5, 0, 0, 0, .null)) (nd 464 (lf 461 (.invokevirtual 12, 1, 1, 0, .null)) (lf 464 (.istore 10, 0, 0, 0, .null)))) (nd 470 (nd 468 (lf 466 (.iload 10, 0, 0, 0, .null)) (lf 468 (.iload 6, 0, 0, 0, .null))) (nd 472 (lf 470 (.iload 9, 0, 0, 0, .null)) (lf 472 (.iadd, 0, 0, 0, .null)))))) (nd 485 (nd 478 (nd 476 (lf 473 (.if_icmp .eq 5, 0, 0, 0, .null)) (nd 477 (lf 476 (.iconst 0, 0, 0, 0, .null)) (lf 477 (.ireturn, 0, 0, 0, .null)))) (nd 481 (nd 480 (lf 478 (.aload 5, 0, 0, 0, .null)) (lf 480 (.aload_n 3, 0, 0, 0, .null))) (nd 483 (lf 481 (.aload 4, 0, 0, 0, .null)) (lf 483 (.aload 7, 0, 0, 0, .null))))) (nd 490 (nd 487 (lf 485 (.aload 8, 0, 0, 0, .null)) (nd 488 (lf 487 (.iconst 0, 0, 0, 0, .null)) (lf 488 (.iload 6, 0, 0, 0, .null)))) (nd 495 (nd 492 (lf 490 (.iload 10, 0, 0, 0, .null)) (lf 492 (.invokestatic 33, 7, 8, 0, .null))) (nd 498 (lf 495 (.ifCond .ne 5, 0, 0, 0, .null)) (lf 498 (.iconst 0, 0, 0, 0, .null))))))) (nd 524 (nd 510 (nd 503 (nd 500 (lf 499 (.ireturn, 0, 0, 0, .null)) (nd 502 (lf 500 (.aload 5, 0, 0, 0, .null)) (lf 502 (.aload_n 3, 0, 0, 0, .null)))) (nd 507 (nd 505 (lf 503 (.aload 4, 0, 0, 0, .null)) (lf 505 (.aload 7, 0, 0, 0, .null))) (nd 509 (lf 507 (.aload 8, 0, 0, 0, .null)) (lf 509 (.iconst 1, 0, 0, 0, .null))))) (nd 517 (nd 512 (lf 510 (.iload 6, 0, 0, 0, .null)) (nd 514 (lf 512 (.iload 10, 0, 0, 0, .null)) (lf 514 (.invokestatic 33, 7, 8, 0, .null)))) (nd 521 (nd 520 (lf 517 (.ifCond .ne 5, 0, 0, 0, .null)) (lf 520 (.iconst 0, 0, 0, 0, .null))) (nd 522 (lf 521 (.ireturn, 0, 0, 0, .null)) (lf 522 (.aload 5, 0, 0, 0, .null)))))) (nd 536 (nd 529 (nd 525 (lf 524 (.aload_n 3, 0, 0, 0, .null)) (nd 527 (lf 525 (.aload 4, 0, 0, 0, .null)) (lf 527 (.aload 7, 0, 0, 0, .null)))) (nd 532 (nd 531 (lf 529 (.aload 8, 0, 0, 0, .null)) (lf 531 (.iconst 2, 0, 0, 0, .null))) (nd 534 (lf 532 (.iload 6, 0, 0, 0, .null)) (lf 534 (.iload 10, 0, 0, 0, .null))))) (nd 543 (nd 539 (lf 536 (.invokestatic 33, 7, 8, 0, .null)) (nd 542 (lf 539 (.ifCond .ne 5, 0, 0, 0, .null)) (lf 542 (.iconst 0, 0, 0, 0, .null)))) (nd 546 (nd 544 (lf 543 (.ireturn, 0, 0, 0, .null)) (lf 544 (.aload 5, 0, 0, 0, .null))) (nd 547 (lf 546 (.aload_n 3, 0, 0, 0, .null)) (lf 547 (.aload 4, 0, 0, 0, .null))))))))) (nd 644 (nd 597 (nd 573 (nd 564 (nd 554 (nd 551 (lf 549 (.aload 7, 0, 0, 0, .null)) (nd 553 (lf 551 (.aload 8, 0, 0, 0, .null)) (lf 553 (.iconst 3, 0, 0, 0, .null)))) (nd 558 (nd 556 (lf 554 (.iload 6, 0, 0, 0, .null)) (lf 556 (.iload 10, 0, 0, 0, .null))) (nd 561 (lf 558 (.invokestatic 33, 7, 8, 0, .null)) (lf 561 (.ifCond .ne 5, 0, 0, 0, .null))))) (nd 567 (nd 565 (lf 564 (.iconst 0, 0, 0, 0, .null)) (nd 566 (lf 565 (.ireturn, 0, 0, 0, .null)) (lf 566 (.aload_n 3, 0, 0, 0, .null)))) (nd 571 (nd 569 (lf 567 (.aload 4, 0, 0, 0, .null)) (lf 569 (.aload 8, 0, 0, 0, .null))) (nd 572 (lf 571 (.iconst 0, 0, 0, 0, .null)) (lf 572 (.iconst 1, 0, 0, 0, .null)))))) (nd 586 (nd 580 (nd 576 (lf 573 (.invokestatic 37, 11, 5, 0, .null)) (nd 579 (lf 576 (.ifCond .ne 5, 0, 0, 0, .null)) (lf 579 (.iconst 0, 0, 0, 0, .null)))) (nd 582 (nd 581 (lf 580 (.ireturn, 0, 0, 0, .null)) (lf 581 (.aload_n 3, 0, 0, 0, .null))) (nd 584 (lf 582 (.aload 4, 0, 0, 0, .null)) (lf 584 (.aload 8, 0, 0, 0, .null))))) (nd 591 (nd 587 (lf 586 (.iconst 0, 0, 0, 0, .null)) (nd 588 (lf 587 (.iconst 2, 0, 0, 0, .null)) (lf 588 (.invokestatic 37, 11, 5, 0, .null)))) (nd 595 (nd 594 (lf 591 (.ifCond .ne 5, 0, 0, 0, .null)) (lf 594 (.iconst 0, 0, 0, 0, .null))) (nd 596 (lf 595 (.ireturn, 0, 0, 0, .null)) (lf 596 (.aload_n 3, 0, 0, 0, .null))))))) (nd 621 (nd 610 (nd 602 (nd 599 (lf 597 (.aload 4, 0, 0, 0, .null)) (nd 601 (lf 599 (.aload 8, 0, 0, 0, .null)) (lf 601 (.iconst 0, 0, 0, 0, .null)))) (nd 606 (nd 603 (lf 602 (.iconst 3, 0, 0, 0, .null)) (lf 603 (.invokestatic 37, 11, 5, 0, .null))) (nd 609 (lf 606 (.ifCond .ne 5, 0, 0, 0, .null)) (lf 609 (.iconst 0, 0, 0, 0, .null))))) (nd 614 (nd 611 (lf 610 (.ireturn, 0, 0, 0, .null)) (nd 612 (lf 611 (.aload_n 3, 0, 0, 0, .null)) (lf 612 (.aload 4, 0, 0, 0, .null)))) (nd 617 (nd 616 (lf 614 (.aload 8, 0, 0, 0, .null)) (lf 616 (.iconst 1, 0, 0, 0, .null))) (nd 618 (lf 617 (.iconst 2, 0, 0, 0, .null)) (lf 618 (.invokestatic 37, 11, 5, 0, .null)))))) (nd 632 (nd 626 (nd 624 (lf 621 (.ifCond .ne 5, 0, 0, 0, .null)) (nd 625 (lf 624 (.iconst 0, 0, 0, 0, .null)) (lf 625 (.ireturn, 0, 0, 0, .null)))) (nd 629 (nd 627 (lf 626 (.aload_n 3, 0, 0, 0, .null)) (lf 627 (.aload 4, 0, 0, 0, .null))) (nd 631 (lf 629 (.aload 8, 0, 0, 0, .null)) (lf 631 (.iconst 1, 0, 0, 0, .null))))) (nd 639 (nd 633 (lf 632 (.iconst 3, 0, 0, 0, .null)) (nd 636 (lf 633 (.invokestatic 37, 11, 5, 0, .null)) (lf 636 (.ifCond .ne 5, 0, 0, 0, .null)))) (nd 641 (nd 640 (lf 639 (.iconst 0, 0, 0, 0, .null)) (lf 640 (.ireturn, 0, 0, 0, .null))) (nd 642 (lf 641 (.aload_n 3, 0, 0, 0, .null)) (lf 642 (.aload 4, 0, 0, 0, .null)))))))) (nd 698 (nd 671 (nd 656 (nd 648 (nd 646 (lf 644 (.aload 8, 0, 0, 0, .null)) (nd 647 (lf 646 (.iconst 2, 0, 0, 0, .null)) (lf 647 (.iconst 3, 0, 0, 0, .null)))) (nd 654 (nd 651 (lf 648 (.invokestatic 37, 11, 5, 0, .null)) (lf 651 (.ifCond .ne 5, 0, 0, 0, .null))) (nd 655 (lf 654 (.iconst 0, 0, 0, 0, .null)) (lf 655 (.ireturn, 0, 0, 0, .null))))) (nd 662 (nd 658 (lf 656 (.aload 5, 0, 0, 0, .null)) (nd 659 (lf 658 (.iconst 0, 0, 0, 0, .null)) (lf 659 (.invokestatic 41, 12, 2, 0, .null)))) (nd 667 (nd 665 (lf 662 (.ifCond .eq 30, 0, 0, 0, .null)) (lf 665 (.aload 5, 0, 0, 0, .null))) (nd 668 (lf 667 (.iconst 1, 0, 0, 0, .null)) (lf 668 (.invokestatic 41, 12, 2, 0, .null)))))) (nd 686 (nd 677 (nd 674 (lf 671 (.ifCond .eq 21, 0, 0, 0, .null)) (nd 676 (lf 674 (.aload 5, 0, 0, 0, .null)) (lf 676 (.iconst 2, 0, 0, 0, .null)))) (nd 683 (nd 680 (lf 677 (.invokestatic 41, 12, 2, 0, .null)) (lf 680 (.ifCond .eq 12, 0, 0, 0, .null))) (nd 685 (lf 683 (.aload 5, 0, 0, 0, .null)) (lf 685 (.iconst 3, 0, 0, 0, .null))))) (nd 693 (nd 689 (lf 686 (.invokestatic 41, 12, 2, 0, .null)) (nd 692 (lf 689 (.ifCond .ne 5, 0, 0, 0, .null)) (lf 692 (.iconst 0, 0, 0, 0, .null)))) (nd 695 (nd 694 (lf 693 (.ireturn, 0, 0, 0, .null)) (lf 694 (.iconst 1, 0, 0, 0, .null))) (nd 697 (lf 695 (.aload 5, 0, 0, 0, .null)) (lf 697 (.iconst 0, 0, 0, 0, .null))))))) (nd 720 (nd 710 (nd 703 (nd 701 (lf 698 (.invokevirtual 45, 13, 2, 0, .null)) (nd 702 (lf 701 (.ishl, 0, 0, 0, .null)) (lf 702 (.iconst 1, 0, 0, 0, .null)))) (nd 706 (nd 705 (lf 703 (.aload 5, 0, 0, 0, .null)) (lf 705 (.iconst 1, 0, 0, 0, .null))) (nd 709 (lf 706 (.invokevirtual 45, 13, 2, 0, .null)) (lf 709 (.ishl, 0, 0, 0, .null))))) (nd 714 (nd 711 (lf 710 (.ior, 0, 0, 0, .null)) (nd 712 (lf 711 (.iconst 1, 0, 0, 0, .null)) (lf 712 (.aload 5, 0, 0, 0, .null)))) (nd 718 (nd 715 (lf 714 (.iconst 2, 0, 0, 0, .null)) (lf 715 (.invokevirtual 45, 13, 2, 0, .null))) (nd 719 (lf 718 (.ishl, 0, 0, 0, .null)) (lf 719 (.ior, 0, 0, 0, .null)))))) (nd 731 (nd 724 (nd 721 (lf 720 (.iconst 1, 0, 0, 0, .null)) (nd 723 (lf 721 (.aload 5, 0, 0, 0, .null)) (lf 723 (.iconst 3, 0, 0, 0, .null)))) (nd 728 (nd 727 (lf 724 (.invokevirtual 45, 13, 2, 0, .null)) (lf 727 (.ishl, 0, 0, 0, .null))) (nd 729 (lf 728 (.ior, 0, 0, 0, .null)) (lf 729 (.istore 11, 0, 0, 0, .null))))) (nd 738 (nd 733 (lf 731 (.iload 11, 0, 0, 0, .null)) (nd 735 (lf 733 (.bipush 15, 0, 0, 0, .null)) (lf 735 (.if_icmp .ne 7, 0, 0, 0, .null)))) (nd 742 (nd 739 (lf 738 (.iconst 1, 0, 0, 0, .null)) (lf 739 (.goto 4, 0, 0, 0, .null))) (nd 743 (lf 742 (.iconst 0, 0, 0, 0, .null)) (lf 743 (.ireturn, 0, 0, 0, .null)))))))))))
def mL : Meth := (x, code, maxLocals, ret, upTo 744 mL_t)
def gP : Nat → Option Meth
  | 0 => some m0
  | 1 => some m1
  | 2 => some m2
  | 3 => some m3
  | 4 => some m4
  | 5 => some m5
  | 6 => some m6
  | 7 => some m7
  | 8 => some m8
  | 9 => some m9
  | 10 => some m10
  | 11 => some m11
  | 12 => some m12
  | 13 => some m13
  | 14 => some m14
  | 15 => some m15
  | _ => none
-- statics: 
set_option maxRecDepth 65536 in
theorem cL : chk gP gK gC gM tables_1 744 mL = true := by decide +kernel
set_option maxRecDepth 65536 in
theorem c0 : chk gP gK gC gM tables_1 327 m0 = true := by decide +kernel
theorem pl0 : plainFor m0.1 = true := plainFor_of_name (by first | (simp [plainName, overriddenIn, m0]; done) | decide +kernel)
set_option maxRecDepth 65536 in
theorem c1 : chk gP gK gC gM tables_1 5 m1 = true := by decide +kernel
theorem pl1 : plainFor m1.1 = true := plainFor_of_name (by first | (simp [plainName, overriddenIn, m1]; done) | decide +kernel)
set_option maxRecDepth 65536 in
theorem c2 : chk gP gK gC gM tables_1 7 m2 = true := by decide +kernel
theorem pl2 : plainFor m2.1 = true := plainFor_of_name (by first | (simp [plainName, overriddenIn, m2]; done) | decide +kernel)
set_option maxRecDepth 65536 in
theorem c3 : chk gP gK gC gM tables_1 10 m3 = true := by decide +kernel
theorem pl3 : plainFor m3.1 = true := plainFor_of_name (by first | (simp [plainName, overriddenIn, m3]; done) | decide +kernel)
set_option maxRecDepth 65536 in
theorem c4 : chk gP gK gC gM tables_1 108 m4 = true := by decide +kernel
theorem pl4 : plainFor m4.1 = true := plainFor_of_name (by first | (simp [plainName, overriddenIn, m4]; done) | decide +kernel)
set_option maxRecDepth 65536 in
theorem c5 : chk gP gK gC gM tables_1 172 m5 = true := by decide +kernel
theorem pl5 : plainFor m5.1 = true := plainFor_of_name (by first | (simp [plainName, overriddenIn, m5]; done) | decide +kernel)
set_option maxRecDepth 65536 in
theorem c6 : chk gP gK gC gM tables_1 132 m6 = true := by decide +kernel
theorem pl6 : plainFor m6.1 = true := plainFor_of_name (by first | (simp [plainName, overriddenIn, m6]; done) | decide +kernel)
set_option maxRecDepth 65536 in
theorem c7 : chk gP gK gC gM tables_1 142 m7 = true := by decide +kernel
theorem pl7 : plainFor m7.1 = true := plainFor_of_name (by first | (simp [plainName, overriddenIn, m7]; done) | decide +kernel)
set_option maxRecDepth 65536 in
theorem c8 : chk gP gK gC gM tables_1 7 m8 = true := by decide +kernel
theorem pl8 : plainFor m8.1 = true := plainFor_of_name (by first | (simp [plainName, overriddenIn, m8]; done) | decide +kernel)
set_option maxRecDepth 65536 in
theorem c9 : chk gP gK gC gM tables_1 24 m9 = true := by decide +kernel
theorem pl9 : plainFor m9.1 = true := plainFor_of_name (by first | (simp [plainName, overriddenIn, m9]; done) | decide +kernel)
set_option maxRecDepth 65536 in
theorem c10 : chk gP gK gC gM tables_1 14 m10 = true := by decide +kernel
theorem pl10 : plainFor m10.1 = true := plainFor_of_name (by first | (simp [plainName, overriddenIn, m10]; done) | decide +kernel)
set_option maxRecDepth 65536 in
theorem c11 : chk gP gK gC gM tables_1 49 m11 = true := by decide +kernel
theorem pl11 : plainFor m11.1 = true := plainFor_of_name (by first | (simp [plainName, overriddenIn, m11]; done) | decide +kernel)
set_option maxRecDepth 65536 in
theorem c12 : chk gP gK gC gM tables_1 47 m12 = true := by decide +kernel
theorem pl12 : plainFor m12.1 = true := plainFor_of_name (by first | (simp [plainName, overriddenIn, m12]; done) | decide +kernel)
set_option maxRecDepth 65536 in
theorem c13 : chk gP gK gC gM tables_1 7 m13 = true := by decide +kernel
theorem pl13 : plainFor m13.1 = true := plainFor_of_name (by first | (simp [plainName, overriddenIn, m13]; done) | decide +kernel)
set_option maxRecDepth 65536 in
theorem c14 : chk gP gK gC gM tables_1 7 m14 = true := by decide +kernel
theorem pl14 : plainFor m14.1 = true := plainFor_of_name (by first | (simp [plainName, overriddenIn, m14]; done) | decide +kernel)
set_option maxRecDepth 65536 in
theorem c15 : chk gP gK gC gM tables_1 7 m15 = true := by decide +kernel
theorem pl15 : plainFor m15.1 = true := plainFor_of_name (by first | (simp [plainName, overriddenIn, m15]; done) | decide +kernel)
set_option maxRecDepth 65536 in
theorem cW : ([m0, m1, m2, m3, m4, m5, m6, m7, m8, m9, m10, m11, m12, m13, m14, m15]).all (fun M => decide (Jvm.Cond.code M.1 M.2.1 M.2.2.1 M.2.2.2.1 ∈ tables_1) && decide (Jvm.Cond.initialized M.1.cls ∈ tables_1)) = true := by decide +kernel
theorem hP {Z : State} {a0 : Array Value} (hw : ∀ d ∈ tables_1, d.before a0 Z = true) : GoodP Z a0 gP gK gC gM := by
  intro a M h
  have hc := List.all_eq_true.mp cW
  match a, h with
  | 0, h => obtain rfl : m0 = M := Option.some.inj h; exact ⟨good_of hw c0 rfl, pl0, code_of hw (hc _ (by simp))⟩
  | 1, h => obtain rfl : m1 = M := Option.some.inj h; exact ⟨good_of hw c1 rfl, pl1, code_of hw (hc _ (by simp))⟩
  | 2, h => obtain rfl : m2 = M := Option.some.inj h; exact ⟨good_of hw c2 rfl, pl2, code_of hw (hc _ (by simp))⟩
  | 3, h => obtain rfl : m3 = M := Option.some.inj h; exact ⟨good_of hw c3 rfl, pl3, code_of hw (hc _ (by simp))⟩
  | 4, h => obtain rfl : m4 = M := Option.some.inj h; exact ⟨good_of hw c4 rfl, pl4, code_of hw (hc _ (by simp))⟩
  | 5, h => obtain rfl : m5 = M := Option.some.inj h; exact ⟨good_of hw c5 rfl, pl5, code_of hw (hc _ (by simp))⟩
  | 6, h => obtain rfl : m6 = M := Option.some.inj h; exact ⟨good_of hw c6 rfl, pl6, code_of hw (hc _ (by simp))⟩
  | 7, h => obtain rfl : m7 = M := Option.some.inj h; exact ⟨good_of hw c7 rfl, pl7, code_of hw (hc _ (by simp))⟩
  | 8, h => obtain rfl : m8 = M := Option.some.inj h; exact ⟨good_of hw c8 rfl, pl8, code_of hw (hc _ (by simp))⟩
  | 9, h => obtain rfl : m9 = M := Option.some.inj h; exact ⟨good_of hw c9 rfl, pl9, code_of hw (hc _ (by simp))⟩
  | 10, h => obtain rfl : m10 = M := Option.some.inj h; exact ⟨good_of hw c10 rfl, pl10, code_of hw (hc _ (by simp))⟩
  | 11, h => obtain rfl : m11 = M := Option.some.inj h; exact ⟨good_of hw c11 rfl, pl11, code_of hw (hc _ (by simp))⟩
  | 12, h => obtain rfl : m12 = M := Option.some.inj h; exact ⟨good_of hw c12 rfl, pl12, code_of hw (hc _ (by simp))⟩
  | 13, h => obtain rfl : m13 = M := Option.some.inj h; exact ⟨good_of hw c13 rfl, pl13, code_of hw (hc _ (by simp))⟩
  | 14, h => obtain rfl : m14 = M := Option.some.inj h; exact ⟨good_of hw c14 rfl, pl14, code_of hw (hc _ (by simp))⟩
  | 15, h => obtain rfl : m15 = M := Option.some.inj h; exact ⟨good_of hw c15 rfl, pl15, code_of hw (hc _ (by simp))⟩
  | _ + 16, h => cases h

abbrev N0 : Nat → Nat → Bool := fun _ _ => false
abbrev D0 : Nat → Nat → Bool := fun i j => !Nat.beq i j
abbrev gG (TB : Instr → Nat → Int32 → Option Value) : Cx := (gP, 0, [], gT, D0, N0, TB)
abbrev gQ : Eng.Res → Prop := fun r => r.1 = some (.int 1) ∧ r.2.2.1 ≤ 40 ∧ r.2.2.2 ≤ 384
def m0_b305 (R : Eng.Code (Option Eng.Res) × Eng.Code (Option Eng.Res) × Eng.Code (Option Eng.Res) × Eng.Code (Option Eng.Res)) : Eng.Code (Option Eng.Res) := (cASt none 0 tI (cLd none Value.isRef ac0 (cGet none 2 (cLd none isI ac7 (cLd none Value.isRef ac6 (cLd none Value.isRef ac1 (cLd none isI ac7 (cALd none tI (cALd none tI (cASt none 0 tI (cInc none (Int32.ofInt (1)) ac7 up7 R.2.2.2)))))))))))
theorem m0_b305_ok {TB : Instr → Nat → Int32 → Option Value} {tb : Nat → Nat → Nat → Option Value} (hb : TbH tb TB) {R : Eng.Code (Option Eng.Res) × Eng.Code (Option Eng.Res) × Eng.Code (Option Eng.Res) × Eng.Code (Option Eng.Res)} (hR : Snd m0 (OkR (gG TB) 1 16 m0) 35 R.1 ∧ Snd m0 (OkR (gG TB) 1 16 m0) 67 R.2.1 ∧ Snd m0 (OkR (gG TB) 1 16 m0) 162 R.2.2.1 ∧ Snd m0 (OkR (gG TB) 1 16 m0) 268 R.2.2.2) : Snd m0 (OkR (gG TB) 1 16 m0) 305 (m0_b305 R) := (Snd.ast bkR rfl (fun _ => rfl) (fun _ => rfl) (fun _ _ => rfl) (Snd.ld bkR rfl (fun _ => rfl) ac0_ok (Snd.get bkR rfl (Snd.ld bkR rfl (fun _ => rfl) ac7_ok (Snd.ld bkR rfl (fun _ => rfl) ac6_ok (Snd.ld bkR rfl (fun _ => rfl) ac1_ok (Snd.ld bkR rfl (fun _ => rfl) ac7_ok (Snd.ald bkR rfl (fun _ => rfl) (fun _ => rfl) (fun _ _ => rfl) (Snd.ald bkR rfl (fun _ => rfl) (fun _ => rfl) (fun _ _ => rfl) (Snd.ast bkR rfl (fun _ => rfl) (fun _ => rfl) (fun _ _ => rfl) (Snd.inc bkR rfl ac7_ok up7_ok (Snd.goto (t := 268) bkR rfl (by decide) hR.2.2.2))))))))))))
def m0_b268 (R : Eng.Code (Option Eng.Res) × Eng.Code (Option Eng.Res) × Eng.Code (Option Eng.Res) × Eng.Code (Option Eng.Res)) : Eng.Code (Option Eng.Res) := (cLd none isI ac7 (cLd none isI ac2 (cIc none geB (cRet rV) (cLd none Value.isRef ac4 (cLd none Value.isRef ac1 (cLd none isI ac7 (cALd none tI (cPs none 280 pDup2 (cALd none tI (cPs none 282 pDupX2 (cPsh (.int (mkI 1)) (cB none (addF) (cASt none 0 tI (cSt none isI ac8 up8 (cLd none Value.isRef ac0 (cGet none 0 (cLd none isI ac8 (cLd none isI ac7 (cASt none 0 tI (cLd none Value.isRef ac0 (cGet none 1 (cLd none isI ac7 (cLd none isI ac8 (m0_b305 R))))))))))))))))))))))))
theorem m0_b268_ok {TB : Instr → Nat → Int32 → Option Value} {tb : Nat → Nat → Nat → Option Value} (hb : TbH tb TB) {R : Eng.Code (Option Eng.Res) × Eng.Code (Option Eng.Res) × Eng.Code (Option Eng.Res) × Eng.Code (Option Eng.Res)} (hR : Snd m0 (OkR (gG TB) 1 16 m0) 35 R.1 ∧ Snd m0 (OkR (gG TB) 1 16 m0) 67 R.2.1 ∧ Snd m0 (OkR (gG TB) 1 16 m0) 162 R.2.2.1 ∧ Snd m0 (OkR (gG TB) 1 16 m0) 268 R.2.2.2) : Snd m0 (OkR (gG TB) 1 16 m0) 268 (m0_b268 R) := (Snd.ld bkR rfl (fun _ => rfl) ac7_ok (Snd.ld bkR rfl (fun _ => rfl) ac2_ok (Snd.ic (t := 326) bkR rfl (by decide) hGe (Snd.ret rfl (fun _ => rfl) (fun _ => rfl) (fun _ _ => rfl) rV_ok) (Snd.ld bkR rfl (fun _ => rfl) ac4_ok (Snd.ld bkR rfl (fun _ => rfl) ac1_ok (Snd.ld bkR rfl (fun _ => rfl) ac7_ok (Snd.ald bkR rfl (fun _ => rfl) (fun _ => rfl) (fun _ _ => rfl) (Snd.p bkR rfl (fun _ => rfl) onlyDup2 (Snd.ald bkR rfl (fun _ => rfl) (fun _ => rfl) (fun _ _ => rfl) (Snd.p bkR rfl (fun _ => rfl) onlyDupX2 (Snd.psh bkR rfl (fun _ => rfl) (Snd.b bkR rfl (fun _ => rfl) addF_ok (Snd.ast bkR rfl (fun _ => rfl) (fun _ => rfl) (fun _ _ => rfl) (Snd.st bkR rfl (fun _ => rfl) @isI_cat ac8_ok up8_ok (Snd.ld bkR rfl (fun _ => rfl) ac0_ok (Snd.get bkR rfl (Snd.ld bkR rfl (fun _ => rfl) ac8_ok (Snd.ld bkR rfl (fun _ => rfl) ac7_ok (Snd.ast bkR rfl (fun _ => rfl) (fun _ => rfl) (fun _ _ => rfl) (Snd.ld bkR rfl (fun _ => rfl) ac0_ok (Snd.get bkR rfl (Snd.ld bkR rfl (fun _ => rfl) ac7_ok (Snd.ld bkR rfl (fun _ => rfl) ac8_ok (m0_b305_ok hb hR))))))))))))))))))))))))
def m0_b259 (R : Eng.Code (Option Eng.Res) × Eng.Code (Option Eng.Res) × Eng.Code (Option Eng.Res) × Eng.Code (Option Eng.Res)) : Eng.Code (Option Eng.Res) := (cInc none (Int32.ofInt (1)) ac7 up7 R.2.2.1)
theorem m0_b259_ok {TB : Instr → Nat → Int32 → Option Value} {tb : Nat → Nat → Nat → Option Value} (hb : TbH tb TB) {R : Eng.Code (Option Eng.Res) × Eng.Code (Option Eng.Res) × Eng.Code (Option Eng.Res) × Eng.Code (Option Eng.Res)} (hR : Snd m0 (OkR (gG TB) 1 16 m0) 35 R.1 ∧ Snd m0 (OkR (gG TB) 1 16 m0) 67 R.2.1 ∧ Snd m0 (OkR (gG TB) 1 16 m0) 162 R.2.2.1 ∧ Snd m0 (OkR (gG TB) 1 16 m0) 268 R.2.2.2) : Snd m0 (OkR (gG TB) 1 16 m0) 259 (m0_b259 R) := (Snd.inc bkR rfl ac7_ok up7_ok (Snd.goto (t := 162) bkR rfl (by decide) hR.2.2.1))
def m0_b241 (R : Eng.Code (Option Eng.Res) × Eng.Code (Option Eng.Res) × Eng.Code (Option Eng.Res) × Eng.Code (Option Eng.Res)) : Eng.Code (Option Eng.Res) := (cGet none 8 (cLd none Value.isRef ac0 (cGet none 8 (cASt none 0 tI (cLd none Value.isRef ac0 (cPs none 250 pDup (cGet none 8 (cPsh (.int (mkI 1)) (cB none (addF) (cHs none 256 (hPut 0 gT 8 1) (m0_b259 R)))))))))))
theorem m0_b241_ok {TB : Instr → Nat → Int32 → Option Value} {tb : Nat → Nat → Nat → Option Value} (hb : TbH tb TB) {R : Eng.Code (Option Eng.Res) × Eng.Code (Option Eng.Res) × Eng.Code (Option Eng.Res) × Eng.Code (Option Eng.Res)} (hR : Snd m0 (OkR (gG TB) 1 16 m0) 35 R.1 ∧ Snd m0 (OkR (gG TB) 1 16 m0) 67 R.2.1 ∧ Snd m0 (OkR (gG TB) 1 16 m0) 162 R.2.2.1 ∧ Snd m0 (OkR (gG TB) 1 16 m0) 268 R.2.2.2) : Snd m0 (OkR (gG TB) 1 16 m0) 241 (m0_b241 R) := (Snd.get bkR rfl (Snd.ld bkR rfl (fun _ => rfl) ac0_ok (Snd.get bkR rfl (Snd.ast bkR rfl (fun _ => rfl) (fun _ => rfl) (fun _ _ => rfl) (Snd.ld bkR rfl (fun _ => rfl) ac0_ok (Snd.p bkR rfl (fun _ => rfl) onlyDup (Snd.get bkR rfl (Snd.psh bkR rfl (fun _ => rfl) (Snd.b bkR rfl (fun _ => rfl) addF_ok (Snd.hs bkR rfl (fun _ => rfl) (fun _ => rfl) (fun _ _ => rfl) onlyPut (m0_b259_ok hb hR)))))))))))
def m0_b204 (R : Eng.Code (Option Eng.Res) × Eng.Code (Option Eng.Res) × Eng.Code (Option Eng.Res) × Eng.Code (Option Eng.Res)) : Eng.Code (Option Eng.Res) := (cALd none tI (cASt none 0 tI (cLd none Value.isRef ac0 (cGet none 4 (cLd none Value.isRef ac0 (cGet none 8 (cLd none Value.isRef ac4 (cLd none isI ac7 (cPsh (.int (mkI 1)) (cB none (addF) (cALd none tI (cASt none 0 tI (cLd none Value.isRef ac0 (cGet none 5 (cLd none Value.isRef ac0 (cGet none 8 (cLd none Value.isRef ac4 (cLd none isI ac7 (cALd none tI (cASt none 0 tI (cLd none Value.isRef ac0 (cGet none 6 (cLd none Value.isRef ac0 (m0_b241 R))))))))))))))))))))))))
theorem m0_b204_ok {TB : Instr → Nat → Int32 → Option Value} {tb : Nat → Nat → Nat → Option Value} (hb : TbH tb TB) {R : Eng.Code (Option Eng.Res) × Eng.Code (Option Eng.Res) × Eng.Code (Option Eng.Res) × Eng.Code (Option Eng.Res)} (hR : Snd m0 (OkR (gG TB) 1 16 m0) 35 R.1 ∧ Snd m0 (OkR (gG TB) 1 16 m0) 67 R.2.1 ∧ Snd m0 (OkR (gG TB) 1 16 m0) 162 R.2.2.1 ∧ Snd m0 (OkR (gG TB) 1 16 m0) 268 R.2.2.2) : Snd m0 (OkR (gG TB) 1 16 m0) 204 (m0_b204 R) := (Snd.ald bkR rfl (fun _ => rfl) (fun _ => rfl) (fun _ _ => rfl) (Snd.ast bkR rfl (fun _ => rfl) (fun _ => rfl) (fun _ _ => rfl) (Snd.ld bkR rfl (fun _ => rfl) ac0_ok (Snd.get bkR rfl (Snd.ld bkR rfl (fun _ => rfl) ac0_ok (Snd.get bkR rfl (Snd.ld bkR rfl (fun _ => rfl) ac4_ok (Snd.ld bkR rfl (fun _ => rfl) ac7_ok (Snd.psh bkR rfl (fun _ => rfl) (Snd.b bkR rfl (fun _ => rfl) addF_ok (Snd.ald bkR rfl (fun _ => rfl) (fun _ => rfl) (fun _ _ => rfl) (Snd.ast bkR rfl (fun _ => rfl) (fun _ => rfl) (fun _ _ => rfl) (Snd.ld bkR rfl (fun _ => rfl) ac0_ok (Snd.get bkR rfl (Snd.ld bkR rfl (fun _ => rfl) ac0_ok (Snd.get bkR rfl (Snd.ld bkR rfl (fun _ => rfl) ac4_ok (Snd.ld bkR rfl (fun _ => rfl) ac7_ok (Snd.ald bkR rfl (fun _ => rfl) (fun _ => rfl) (fun _ _ => rfl) (Snd.ast bkR rfl (fun _ => rfl) (fun _ => rfl) (fun _ _ => rfl) (Snd.ld bkR rfl (fun _ => rfl) ac0_ok (Snd.get bkR rfl (Snd.ld bkR rfl (fun _ => rfl) ac0_ok (m0_b241_ok hb hR))))))))))))))))))))))))
def m0_b162 (R : Eng.Code (Option Eng.Res) × Eng.Code (Option Eng.Res) × Eng.Code (Option Eng.Res) × Eng.Code (Option Eng.Res)) : Eng.Code (Option Eng.Res) := (cLd none isI ac7 (cLd none isI ac3 (cIc none geB (cPsh (.int (mkI 0)) (cSt none isI ac7 up7 R.2.2.2)) (cLd none Value.isRef ac4 (cLd none isI ac7 (cPsh (.int (mkI 1)) (cB none (addF) (cALd none tI (cLd none Value.isRef ac4 (cLd none isI ac7 (cALd none tI (cIc none leB (m0_b259 R) (cLd none Value.isRef ac6 (cLd none isI ac7 (cLd none Value.isRef ac0 (cGet none 8 (cASt none 0 tI (cLd none Value.isRef ac0 (cGet none 3 (cLd none Value.isRef ac0 (cGet none 8 (cLd none Value.isRef ac4 (cLd none isI ac7 (m0_b204 R))))))))))))))))))))))))
theorem m0_b162_ok {TB : Instr → Nat → Int32 → Option Value} {tb : Nat → Nat → Nat → Option Value} (hb : TbH tb TB) {R : Eng.Code (Option Eng.Res) × Eng.Code (Option Eng.Res) × Eng.Code (Option Eng.Res) × Eng.Code (Option Eng.Res)} (hR : Snd m0 (OkR (gG TB) 1 16 m0) 35 R.1 ∧ Snd m0 (OkR (gG TB) 1 16 m0) 67 R.2.1 ∧ Snd m0 (OkR (gG TB) 1 16 m0) 162 R.2.2.1 ∧ Snd m0 (OkR (gG TB) 1 16 m0) 268 R.2.2.2) : Snd m0 (OkR (gG TB) 1 16 m0) 162 (m0_b162 R) := (Snd.ld bkR rfl (fun _ => rfl) ac7_ok (Snd.ld bkR rfl (fun _ => rfl) ac3_ok (Snd.ic (t := 265) bkR rfl (by decide) hGe (Snd.psh bkR rfl (fun _ => rfl) (Snd.st bkR rfl (fun _ => rfl) @isI_cat ac7_ok up7_ok hR.2.2.2)) (Snd.ld bkR rfl (fun _ => rfl) ac4_ok (Snd.ld bkR rfl (fun _ => rfl) ac7_ok (Snd.psh bkR rfl (fun _ => rfl) (Snd.b bkR rfl (fun _ => rfl) addF_ok (Snd.ald bkR rfl (fun _ => rfl) (fun _ => rfl) (fun _ _ => rfl) (Snd.ld bkR rfl (fun _ => rfl) ac4_ok (Snd.ld bkR rfl (fun _ => rfl) ac7_ok (Snd.ald bkR rfl (fun _ => rfl) (fun _ => rfl) (fun _ _ => rfl) (Snd.ic (t := 259) bkR rfl (by decide) hLe (m0_b259_ok hb hR) (Snd.ld bkR rfl (fun _ => rfl) ac6_ok (Snd.ld bkR rfl (fun _ => rfl) ac7_ok (Snd.ld bkR rfl (fun _ => rfl) ac0_ok (Snd.get bkR rfl (Snd.ast bkR rfl (fun _ => rfl) (fun _ => rfl) (fun _ _ => rfl) (Snd.ld bkR rfl (fun _ => rfl) ac0_ok (Snd.get bkR rfl (Snd.ld bkR rfl (fun _ => rfl) ac0_ok (Snd.get bkR rfl (Snd.ld bkR rfl (fun _ => rfl) ac4_ok (Snd.ld bkR rfl (fun _ => rfl) ac7_ok (m0_b204_ok hb hR))))))))))))))))))))))))
def m0_b154 (R : Eng.Code (Option Eng.Res) × Eng.Code (Option Eng.Res) × Eng.Code (Option Eng.Res) × Eng.Code (Option Eng.Res)) : Eng.Code (Option Eng.Res) := (cLd none isI ac3 (cArr none .int (cSt none Value.isRef ac6 up6 (cPsh (.int (mkI 0)) (cSt none isI ac7 up7 R.2.2.1)))))
theorem m0_b154_ok {TB : Instr → Nat → Int32 → Option Value} {tb : Nat → Nat → Nat → Option Value} (hb : TbH tb TB) {R : Eng.Code (Option Eng.Res) × Eng.Code (Option Eng.Res) × Eng.Code (Option Eng.Res) × Eng.Code (Option Eng.Res)} (hR : Snd m0 (OkR (gG TB) 1 16 m0) 35 R.1 ∧ Snd m0 (OkR (gG TB) 1 16 m0) 67 R.2.1 ∧ Snd m0 (OkR (gG TB) 1 16 m0) 162 R.2.2.1 ∧ Snd m0 (OkR (gG TB) 1 16 m0) 268 R.2.2.2) : Snd m0 (OkR (gG TB) 1 16 m0) 154 (m0_b154 R) := (Snd.ld bkR rfl (fun _ => rfl) ac3_ok (Snd.arr bkR rfl rfl (Snd.st bkR rfl (fun _ => rfl) @isRef_cat ac6_ok up6_ok (Snd.psh bkR rfl (fun _ => rfl) (Snd.st bkR rfl (fun _ => rfl) @isI_cat ac7_ok up7_ok hR.2.2.1)))))
def m0_b90 (R : Eng.Code (Option Eng.Res) × Eng.Code (Option Eng.Res) × Eng.Code (Option Eng.Res) × Eng.Code (Option Eng.Res)) : Eng.Code (Option Eng.Res) := (cB none (addF) (cSt none isI ac5 up5 (cLd none Value.isRef ac4 (cLd none isI ac6 (cPsh (.int (mkI 1)) (cB none (addF) (cPs none 99 pDup2 (cALd none tI (cLd none Value.isRef ac4 (cLd none isI ac6 (cALd none tI (cB none (addF) (cASt none 0 tI (cInc none (Int32.ofInt (1)) ac6 up6 R.2.1))))))))))))))
theorem m0_b90_ok {TB : Instr → Nat → Int32 → Option Value} {tb : Nat → Nat → Nat → Option Value} (hb : TbH tb TB) {R : Eng.Code (Option Eng.Res) × Eng.Code (Option Eng.Res) × Eng.Code (Option Eng.Res) × Eng.Code (Option Eng.Res)} (hR : Snd m0 (OkR (gG TB) 1 16 m0) 35 R.1 ∧ Snd m0 (OkR (gG TB) 1 16 m0) 67 R.2.1 ∧ Snd m0 (OkR (gG TB) 1 16 m0) 162 R.2.2.1 ∧ Snd m0 (OkR (gG TB) 1 16 m0) 268 R.2.2.2) : Snd m0 (OkR (gG TB) 1 16 m0) 90 (m0_b90 R) := (Snd.b bkR rfl (fun _ => rfl) addF_ok (Snd.st bkR rfl (fun _ => rfl) @isI_cat ac5_ok up5_ok (Snd.ld bkR rfl (fun _ => rfl) ac4_ok (Snd.ld bkR rfl (fun _ => rfl) ac6_ok (Snd.psh bkR rfl (fun _ => rfl) (Snd.b bkR rfl (fun _ => rfl) addF_ok (Snd.p bkR rfl (fun _ => rfl) onlyDup2 (Snd.ald bkR rfl (fun _ => rfl) (fun _ => rfl) (fun _ _ => rfl) (Snd.ld bkR rfl (fun _ => rfl) ac4_ok (Snd.ld bkR rfl (fun _ => rfl) ac6_ok (Snd.ald bkR rfl (fun _ => rfl) (fun _ => rfl) (fun _ _ => rfl) (Snd.b bkR rfl (fun _ => rfl) addF_ok (Snd.ast bkR rfl (fun _ => rfl) (fun _ => rfl) (fun _ _ => rfl) (Snd.inc bkR rfl ac6_ok up6_ok (Snd.goto (t := 67) bkR rfl (by decide) hR.2.1)))))))))))))))
def m0_b67 (R : Eng.Code (Option Eng.Res) × Eng.Code (Option Eng.Res) × Eng.Code (Option Eng.Res) × Eng.Code (Option Eng.Res)) : Eng.Code (Option Eng.Res) := (cLd none isI ac6 (cLd none isI ac3 (cIc none geB (cLd none Value.isRef ac0 (cLd none isI ac5 (cArr none .int (cHs none 119 (hPut 0 gT 3 1) (cLd none Value.isRef ac0 (cLd none isI ac5 (cArr none .int (cHs none 127 (hPut 0 gT 4 1) (cLd none Value.isRef ac0 (cLd none isI ac5 (cArr none .int (cHs none 135 (hPut 0 gT 5 1) (cLd none Value.isRef ac0 (cLd none isI ac5 (cArr none .int (cHs none 143 (hPut 0 gT 6 1) (cLd none Value.isRef ac0 (cLd none isI ac5 (cArr none .int (cHs none 151 (hPut 0 gT 7 1) (m0_b154 R))))))))))))))))))))) (cLd none isI ac5 (cLd none Value.isRef ac4 (cLd none isI ac6 (cPsh (.int (mkI 1)) (cB none (addF) (cALd none tI (cIf none leB (cPsh (.int (mkI 0)) (m0_b90 R)) (cPsh (.int (mkI 1)) (m0_b90 R))))))))))))
theorem m0_b67_ok {TB : Instr → Nat → Int32 → Option Value} {tb : Nat → Nat → Nat → Option Value} (hb : TbH tb TB) {R : Eng.Code (Option Eng.Res) × Eng.Code (Option Eng.Res) × Eng.Code (Option Eng.Res) × Eng.Code (Option Eng.Res)} (hR : Snd m0 (OkR (gG TB) 1 16 m0) 35 R.1 ∧ Snd m0 (OkR (gG TB) 1 16 m0) 67 R.2.1 ∧ Snd m0 (OkR (gG TB) 1 16 m0) 162 R.2.2.1 ∧ Snd m0 (OkR (gG TB) 1 16 m0) 268 R.2.2.2) : Snd m0 (OkR (gG TB) 1 16 m0) 67 (m0_b67 R) := (Snd.ld bkR rfl (fun _ => rfl) ac6_ok (Snd.ld bkR rfl (fun _ => rfl) ac3_ok (Snd.ic (t := 114) bkR rfl (by decide) hGe (Snd.ld bkR rfl (fun _ => rfl) ac0_ok (Snd.ld bkR rfl (fun _ => rfl) ac5_ok (Snd.arr bkR rfl rfl (Snd.hs bkR rfl (fun _ => rfl) (fun _ => rfl) (fun _ _ => rfl) onlyPut (Snd.ld bkR rfl (fun _ => rfl) ac0_ok (Snd.ld bkR rfl (fun _ => rfl) ac5_ok (Snd.arr bkR rfl rfl (Snd.hs bkR rfl (fun _ => rfl) (fun _ => rfl) (fun _ _ => rfl) onlyPut (Snd.ld bkR rfl (fun _ => rfl) ac0_ok (Snd.ld bkR rfl (fun _ => rfl) ac5_ok (Snd.arr bkR rfl rfl (Snd.hs bkR rfl (fun _ => rfl) (fun _ => rfl) (fun _ _ => rfl) onlyPut (Snd.ld bkR rfl (fun _ => rfl) ac0_ok (Snd.ld bkR rfl (fun _ => rfl) ac5_ok (Snd.arr bkR rfl rfl (Snd.hs bkR rfl (fun _ => rfl) (fun _ => rfl) (fun _ _ => rfl) onlyPut (Snd.ld bkR rfl (fun _ => rfl) ac0_ok (Snd.ld bkR rfl (fun _ => rfl) ac5_ok (Snd.arr bkR rfl rfl (Snd.hs bkR rfl (fun _ => rfl) (fun _ => rfl) (fun _ _ => rfl) onlyPut (m0_b154_ok hb hR))))))))))))))))))))) (Snd.ld bkR rfl (fun _ => rfl) ac5_ok (Snd.ld bkR rfl (fun _ => rfl) ac4_ok (Snd.ld bkR rfl (fun _ => rfl) ac6_ok (Snd.psh bkR rfl (fun _ => rfl) (Snd.b bkR rfl (fun _ => rfl) addF_ok (Snd.ald bkR rfl (fun _ => rfl) (fun _ => rfl) (fun _ _ => rfl) (Snd.ifc (t := 89) bkR rfl (by decide) hLe (Snd.psh bkR rfl (fun _ => rfl) (m0_b90_ok hb hR)) (Snd.psh bkR rfl (fun _ => rfl) (Snd.goto (t := 90) bkR rfl (by decide) (m0_b90_ok hb hR)))))))))))))
def m0_b35 (R : Eng.Code (Option Eng.Res) × Eng.Code (Option Eng.Res) × Eng.Code (Option Eng.Res) × Eng.Code (Option Eng.Res)) : Eng.Code (Option Eng.Res) := (cLd none isI ac5 (cLd none isI ac2 (cIc none geB (cPsh (.int (Int8.ofInt (16)).toInt32) (cSt none isI ac5 up5 (cPsh (.int (mkI 0)) (cSt none isI ac6 up6 R.2.1)))) (cLd none Value.isRef ac4 (cLd none Value.isRef ac1 (cLd none isI ac5 (cALd none tI (cPsh (.int (mkI 1)) (cB none (addF) (cPs none 49 pDup2 (cALd none tI (cPsh (.int (mkI 1)) (cB none (addF) (cASt none 0 tI (cInc none (Int32.ofInt (1)) ac5 up5 R.1)))))))))))))))
theorem m0_b35_ok {TB : Instr → Nat → Int32 → Option Value} {tb : Nat → Nat → Nat → Option Value} (hb : TbH tb TB) {R : Eng.Code (Option Eng.Res) × Eng.Code (Option Eng.Res) × Eng.Code (Option Eng.Res) × Eng.Code (Option Eng.Res)} (hR : Snd m0 (OkR (gG TB) 1 16 m0) 35 R.1 ∧ Snd m0 (OkR (gG TB) 1 16 m0) 67 R.2.1 ∧ Snd m0 (OkR (gG TB) 1 16 m0) 162 R.2.2.1 ∧ Snd m0 (OkR (gG TB) 1 16 m0) 268 R.2.2.2) : Snd m0 (OkR (gG TB) 1 16 m0) 35 (m0_b35 R) := (Snd.ld bkR rfl (fun _ => rfl) ac5_ok (Snd.ld bkR rfl (fun _ => rfl) ac2_ok (Snd.ic (t := 60) bkR rfl (by decide) hGe (Snd.psh bkR rfl (fun _ => rfl) (Snd.st bkR rfl (fun _ => rfl) @isI_cat ac5_ok up5_ok (Snd.psh bkR rfl (fun _ => rfl) (Snd.st bkR rfl (fun _ => rfl) @isI_cat ac6_ok up6_ok hR.2.1)))) (Snd.ld bkR rfl (fun _ => rfl) ac4_ok (Snd.ld bkR rfl (fun _ => rfl) ac1_ok (Snd.ld bkR rfl (fun _ => rfl) ac5_ok (Snd.ald bkR rfl (fun _ => rfl) (fun _ => rfl) (fun _ _ => rfl) (Snd.psh bkR rfl (fun _ => rfl) (Snd.b bkR rfl (fun _ => rfl) addF_ok (Snd.p bkR rfl (fun _ => rfl) onlyDup2 (Snd.ald bkR rfl (fun _ => rfl) (fun _ => rfl) (fun _ _ => rfl) (Snd.psh bkR rfl (fun _ => rfl) (Snd.b bkR rfl (fun _ => rfl) addF_ok (Snd.ast bkR rfl (fun _ => rfl) (fun _ => rfl) (fun _ _ => rfl) (Snd.inc bkR rfl ac5_ok up5_ok (Snd.goto (t := 35) bkR rfl (by decide) hR.1))))))))))))))))
def m0_b0 (R : Eng.Code (Option Eng.Res) × Eng.Code (Option Eng.Res) × Eng.Code (Option Eng.Res) × Eng.Code (Option Eng.Res)) : Eng.Code (Option Eng.Res) := (cLd none Value.isRef ac0 (cObj none 4 (cLd none Value.isRef ac0 (cLd none isI ac2 (cArr none .int (cHs none 8 (hPut 0 gT 0 1) (cLd none Value.isRef ac0 (cLd none isI ac2 (cArr none .int (cHs none 15 (hPut 0 gT 1 1) (cLd none Value.isRef ac0 (cLd none isI ac2 (cArr none .int (cHs none 22 (hPut 0 gT 2 1) (cLd none isI ac3 (cPsh (.int (mkI 1)) (cB none (addF) (cArr none .int (cSt none Value.isRef ac4 up4 (cPsh (.int (mkI 0)) (cSt none isI ac5 up5 R.1)))))))))))))))))))))
theorem m0_b0_ok {TB : Instr → Nat → Int32 → Option Value} {tb : Nat → Nat → Nat → Option Value} (hb : TbH tb TB) {R : Eng.Code (Option Eng.Res) × Eng.Code (Option Eng.Res) × Eng.Code (Option Eng.Res) × Eng.Code (Option Eng.Res)} (hR : Snd m0 (OkR (gG TB) 1 16 m0) 35 R.1 ∧ Snd m0 (OkR (gG TB) 1 16 m0) 67 R.2.1 ∧ Snd m0 (OkR (gG TB) 1 16 m0) 162 R.2.2.1 ∧ Snd m0 (OkR (gG TB) 1 16 m0) 268 R.2.2.2) : Snd m0 (OkR (gG TB) 1 16 m0) 0 (m0_b0 R) := (Snd.ld bkR rfl (fun _ => rfl) ac0_ok (Snd.obj bkR rfl (by decide) (by decide) (Snd.ld bkR rfl (fun _ => rfl) ac0_ok (Snd.ld bkR rfl (fun _ => rfl) ac2_ok (Snd.arr bkR rfl rfl (Snd.hs bkR rfl (fun _ => rfl) (fun _ => rfl) (fun _ _ => rfl) onlyPut (Snd.ld bkR rfl (fun _ => rfl) ac0_ok (Snd.ld bkR rfl (fun _ => rfl) ac2_ok (Snd.arr bkR rfl rfl (Snd.hs bkR rfl (fun _ => rfl) (fun _ => rfl) (fun _ _ => rfl) onlyPut (Snd.ld bkR rfl (fun _ => rfl) ac0_ok (Snd.ld bkR rfl (fun _ => rfl) ac2_ok (Snd.arr bkR rfl rfl (Snd.hs bkR rfl (fun _ => rfl) (fun _ => rfl) (fun _ _ => rfl) onlyPut (Snd.ld bkR rfl (fun _ => rfl) ac3_ok (Snd.psh bkR rfl (fun _ => rfl) (Snd.b bkR rfl (fun _ => rfl) addF_ok (Snd.arr bkR rfl rfl (Snd.st bkR rfl (fun _ => rfl) @isRef_cat ac4_ok up4_ok (Snd.psh bkR rfl (fun _ => rfl) (Snd.st bkR rfl (fun _ => rfl) @isI_cat ac5_ok up5_ok hR.1)))))))))))))))))))))
def m0_R : Nat → Eng.Code (Option Eng.Res) × Eng.Code (Option Eng.Res) × Eng.Code (Option Eng.Res) × Eng.Code (Option Eng.Res)
  | 0 => ((fun _ _ _ _ _ => none), (fun _ _ _ _ _ => none), (fun _ _ _ _ _ => none), (fun _ _ _ _ _ => none))
  | n + 1 => (m0_b35 (m0_R n), m0_b67 (m0_R n), m0_b162 (m0_R n), m0_b268 (m0_R n))
theorem m0_R_ok {TB : Instr → Nat → Int32 → Option Value} {tb : Nat → Nat → Nat → Option Value} (hb : TbH tb TB) : ∀ n, Snd m0 (OkR (gG TB) 1 16 m0) 35 (m0_R n).1 ∧ Snd m0 (OkR (gG TB) 1 16 m0) 67 (m0_R n).2.1 ∧ Snd m0 (OkR (gG TB) 1 16 m0) 162 (m0_R n).2.2.1 ∧ Snd m0 (OkR (gG TB) 1 16 m0) 268 (m0_R n).2.2.2
  | 0 => ⟨Snd.bad bkR, Snd.bad bkR, Snd.bad bkR, Snd.bad bkR⟩
  | n + 1 => ⟨m0_b35_ok hb (m0_R_ok hb n), m0_b67_ok hb (m0_R_ok hb n), m0_b162_ok hb (m0_R_ok hb n), m0_b268_ok hb (m0_R_ok hb n)⟩
def m0_c : Eng.Code (Option Eng.Res) := m0_b0 (m0_R 300)
theorem m0_ok {TB : Instr → Nat → Int32 → Option Value} {tb : Nat → Nat → Nat → Option Value} (hb : TbH tb TB) : Snd m0 (OkR (gG TB) 1 16 m0) 0 (m0_c) := m0_b0_ok hb (m0_R_ok hb 300)
def m1_b0 : Eng.Code (Option Eng.Res) := (cLd none Value.isRef ac0 (cGet none 8 (cRet rI)))
theorem m1_b0_ok {TB : Instr → Nat → Int32 → Option Value} {tb : Nat → Nat → Nat → Option Value} (hb : TbH tb TB) : Snd m1 (OkR (gG TB) 0 0 m1) 0 (m1_b0) := (Snd.ld bkR rfl (fun _ => rfl) ac0_ok (Snd.get bkR rfl (Snd.ret rfl (fun _ => rfl) (fun _ => rfl) (fun _ _ => rfl) rI_ok)))
def m1_c : Eng.Code (Option Eng.Res) := m1_b0
theorem m1_ok {TB : Instr → Nat → Int32 → Option Value} {tb : Nat → Nat → Nat → Option Value} (hb : TbH tb TB) : Snd m1 (OkR (gG TB) 0 0 m1) 0 (m1_c) := m1_b0_ok hb
def m2_b0 : Eng.Code (Option Eng.Res) := (cLd none Value.isRef ac0 (cGet none 2 (cLd none isI ac1 (cALd none tI (cRet rI)))))
theorem m2_b0_ok {TB : Instr → Nat → Int32 → Option Value} {tb : Nat → Nat → Nat → Option Value} (hb : TbH tb TB) : Snd m2 (OkR (gG TB) 0 0 m2) 0 (m2_b0) := (Snd.ld bkR rfl (fun _ => rfl) ac0_ok (Snd.get bkR rfl (Snd.ld bkR rfl (fun _ => rfl) ac1_ok (Snd.ald bkR rfl (fun _ => rfl) (fun _ => rfl) (fun _ _ => rfl) (Snd.ret rfl (fun _ => rfl) (fun _ => rfl) (fun _ _ => rfl) rI_ok)))))
def m2_c : Eng.Code (Option Eng.Res) := m2_b0
theorem m2_ok {TB : Instr → Nat → Int32 → Option Value} {tb : Nat → Nat → Nat → Option Value} (hb : TbH tb TB) : Snd m2 (OkR (gG TB) 0 0 m2) 0 (m2_c) := m2_b0_ok hb
def m4_b107 : Eng.Code (Option Eng.Res) := (cRet rV)
theorem m4_b107_ok {TB : Instr → Nat → Int32 → Option Value} {tb : Nat → Nat → Nat → Option Value} (hb : TbH tb TB) : Snd m4 (OkR (gG TB) 0 0 m4) 107 (m4_b107) := (Snd.ret rfl (fun _ => rfl) (fun _ => rfl) (fun _ _ => rfl) rV_ok)
def m4_b94 : Eng.Code (Option Eng.Res) := (cLd none isI ac4 (cASt none 0 tI (cLd none Value.isRef ac0 (cGet none 5 (cLd none isI ac2 (cLd none isI ac4 (cPsh (.int (mkI 1)) (cB none (addF) (cASt none 0 tI (m4_b107))))))))))
theorem m4_b94_ok {TB : Instr → Nat → Int32 → Option Value} {tb : Nat → Nat → Nat → Option Value} (hb : TbH tb TB) : Snd m4 (OkR (gG TB) 0 0 m4) 94 (m4_b94) := (Snd.ld bkR rfl (fun _ => rfl) ac4_ok (Snd.ast bkR rfl (fun _ => rfl) (fun _ => rfl) (fun _ _ => rfl) (Snd.ld bkR rfl (fun _ => rfl) ac0_ok (Snd.get bkR rfl (Snd.ld bkR rfl (fun _ => rfl) ac2_ok (Snd.ld bkR rfl (fun _ => rfl) ac4_ok (Snd.psh bkR rfl (fun _ => rfl) (Snd.b bkR rfl (fun _ => rfl) addF_ok (Snd.ast bkR rfl (fun _ => rfl) (fun _ => rfl) (fun _ _ => rfl) (m4_b107_ok hb))))))))))
def m4_b56 : Eng.Code (Option Eng.Res) := (cLd none Value.isRef ac0 (cGet none 0 (cLd none isI ac4 (cALd none tI (cSt none isI ac5 up5 (cLd none Value.isRef ac0 (cGet none 0 (cLd none isI ac3 (cLd none isI ac5 (cASt none 0 tI (cLd none Value.isRef ac0 (cGet none 1 (cLd none isI ac5 (cLd none isI ac3 (cASt none 0 tI (cLd none Value.isRef ac0 (cGet none 0 (cLd none isI ac4 (cLd none isI ac1 (cASt none 0 tI (cLd none Value.isRef ac0 (cGet none 1 (cLd none isI ac1 (m4_b94))))))))))))))))))))))))
theorem m4_b56_ok {TB : Instr → Nat → Int32 → Option Value} {tb : Nat → Nat → Nat → Option Value} (hb : TbH tb TB) : Snd m4 (OkR (gG TB) 0 0 m4) 56 (m4_b56) := (Snd.ld bkR rfl (fun _ => rfl) ac0_ok (Snd.get bkR rfl (Snd.ld bkR rfl (fun _ => rfl) ac4_ok (Snd.ald bkR rfl (fun _ => rfl) (fun _ => rfl) (fun _ _ => rfl) (Snd.st bkR rfl (fun _ => rfl) @isI_cat ac5_ok up5_ok (Snd.ld bkR rfl (fun _ => rfl) ac0_ok (Snd.get bkR rfl (Snd.ld bkR rfl (fun _ => rfl) ac3_ok (Snd.ld bkR rfl (fun _ => rfl) ac5_ok (Snd.ast bkR rfl (fun _ => rfl) (fun _ => rfl) (fun _ _ => rfl) (Snd.ld bkR rfl (fun _ => rfl) ac0_ok (Snd.get bkR rfl (Snd.ld bkR rfl (fun _ => rfl) ac5_ok (Snd.ld bkR rfl (fun _ => rfl) ac3_ok (Snd.ast bkR rfl (fun _ => rfl) (fun _ => rfl) (fun _ _ => rfl) (Snd.ld bkR rfl (fun _ => rfl) ac0_ok (Snd.get bkR rfl (Snd.ld bkR rfl (fun _ => rfl) ac4_ok (Snd.ld bkR rfl (fun _ => rfl) ac1_ok (Snd.ast bkR rfl (fun _ => rfl) (fun _ => rfl) (fun _ _ => rfl) (Snd.ld bkR rfl (fun _ => rfl) ac0_ok (Snd.get bkR rfl (Snd.ld bkR rfl (fun _ => rfl) ac1_ok (m4_b94_ok hb))))))))))))))))))))))))
def m4_b36 : Eng.Code (Option Eng.Res) := (cIc none neB (m4_b56) (cLd none Value.isRef ac0 (cGet none 7 (cLd none Value.isRef ac0 (cPs none 44 pDup (cGet none 9 (cPs none 48 pDupX1 (cPsh (.int (mkI 1)) (cB none (addF) (cHs none 51 (hPut 0 gT 9 0) (cLd none isI ac2 (cASt none 0 tI (m4_b56)))))))))))))
theorem m4_b36_ok {TB : Instr → Nat → Int32 → Option Value} {tb : Nat → Nat → Nat → Option Value} (hb : TbH tb TB) : Snd m4 (OkR (gG TB) 0 0 m4) 36 (m4_b36) := (Snd.ic (t := 56) bkR rfl (by decide) hNe (m4_b56_ok hb) (Snd.ld bkR rfl (fun _ => rfl) ac0_ok (Snd.get bkR rfl (Snd.ld bkR rfl (fun _ => rfl) ac0_ok (Snd.p bkR rfl (fun _ => rfl) onlyDup (Snd.get bkR rfl (Snd.p bkR rfl (fun _ => rfl) onlyDupX1 (Snd.psh bkR rfl (fun _ => rfl) (Snd.b bkR rfl (fun _ => rfl) addF_ok (Snd.hs bkR rfl (fun _ => rfl) (fun _ => rfl) (fun _ _ => rfl) onlyPut (Snd.ld bkR rfl (fun _ => rfl) ac2_ok (Snd.ast bkR rfl (fun _ => rfl) (fun _ => rfl) (fun _ _ => rfl) (m4_b56_ok hb)))))))))))))
def m4_b0 : Eng.Code (Option Eng.Res) := (cLd none Value.isRef ac0 (cGet none 2 (cLd none isI ac1 (cALd none tI (cSt none isI ac2 up2 (cLd none Value.isRef ac0 (cGet none 1 (cLd none isI ac1 (cALd none tI (cSt none isI ac3 up3 (cLd none Value.isRef ac0 (cGet none 5 (cLd none isI ac2 (cALd none tI (cSt none isI ac4 up4 (cLd none isI ac3 (cLd none isI ac4 (cIc none ltB (m4_b107) (cLd none isI ac4 (cLd none Value.isRef ac0 (cGet none 3 (cLd none isI ac2 (cALd none tI (m4_b36))))))))))))))))))))))))
theorem m4_b0_ok {TB : Instr → Nat → Int32 → Option Value} {tb : Nat → Nat → Nat → Option Value} (hb : TbH tb TB) : Snd m4 (OkR (gG TB) 0 0 m4) 0 (m4_b0) := (Snd.ld bkR rfl (fun _ => rfl) ac0_ok (Snd.get bkR rfl (Snd.ld bkR rfl (fun _ => rfl) ac1_ok (Snd.ald bkR rfl (fun _ => rfl) (fun _ => rfl) (fun _ _ => rfl) (Snd.st bkR rfl (fun _ => rfl) @isI_cat ac2_ok up2_ok (Snd.ld bkR rfl (fun _ => rfl) ac0_ok (Snd.get bkR rfl (Snd.ld bkR rfl (fun _ => rfl) ac1_ok (Snd.ald bkR rfl (fun _ => rfl) (fun _ => rfl) (fun _ _ => rfl) (Snd.st bkR rfl (fun _ => rfl) @isI_cat ac3_ok up3_ok (Snd.ld bkR rfl (fun _ => rfl) ac0_ok (Snd.get bkR rfl (Snd.ld bkR rfl (fun _ => rfl) ac2_ok (Snd.ald bkR rfl (fun _ => rfl) (fun _ => rfl) (fun _ _ => rfl) (Snd.st bkR rfl (fun _ => rfl) @isI_cat ac4_ok up4_ok (Snd.ld bkR rfl (fun _ => rfl) ac3_ok (Snd.ld bkR rfl (fun _ => rfl) ac4_ok (Snd.ic (t := 107) bkR rfl (by decide) hLt (m4_b107_ok hb) (Snd.ld bkR rfl (fun _ => rfl) ac4_ok (Snd.ld bkR rfl (fun _ => rfl) ac0_ok (Snd.get bkR rfl (Snd.ld bkR rfl (fun _ => rfl) ac2_ok (Snd.ald bkR rfl (fun _ => rfl) (fun _ => rfl) (fun _ _ => rfl) (m4_b36_ok hb))))))))))))))))))))))))
def m4_c : Eng.Code (Option Eng.Res) := m4_b0
theorem m4_ok {TB : Instr → Nat → Int32 → Option Value} {tb : Nat → Nat → Nat → Option Value} (hb : TbH tb TB) : Snd m4 (OkR (gG TB) 0 0 m4) 0 (m4_c) := m4_b0_ok hb
def m3_b9 : Eng.Code (Option Eng.Res) := (cRet rV)
theorem m3_b9_ok {TB : Instr → Nat → Int32 → Option Value} {tb : Nat → Nat → Nat → Option Value} (hb : TbH tb TB) : Snd m3 (OkR (gG TB) 1 21 m3) 9 (m3_b9) := (Snd.ret rfl (fun _ => rfl) (fun _ => rfl) (fun _ _ => rfl) rV_ok)
def m3_b0 : Eng.Code (Option Eng.Res) := (cLd none isI ac2 (cIf none eqB (m3_b9) (cLd none Value.isRef ac0 (cLd none isI ac1 (cCall none tk2 [.unset, .unset, .unset, .unset] (rvV 0) 4 m4_c (m3_b9))))))
theorem m3_b0_ok {TB : Instr → Nat → Int32 → Option Value} {tb : Nat → Nat → Nat → Option Value} (hb : TbH tb TB) : Snd m3 (OkR (gG TB) 1 21 m3) 0 (m3_b0) := (Snd.ld bkR rfl (fun _ => rfl) ac2_ok (Snd.ifc (t := 9) bkR rfl (by decide) hEq (m3_b9_ok hb) (Snd.ld bkR rfl (fun _ => rfl) ac0_ok (Snd.ld bkR rfl (fun _ => rfl) ac1_ok (Snd.call (frM := 0) (loM := 0) bkR rfl noSt_V rfl rfl tk2_ok rfl (by decide) (rvV_ok us_cons) (by decide) (by decide) (m4_ok hb) (m3_b9_ok hb))))))
def m3_c : Eng.Code (Option Eng.Res) := m3_b0
theorem m3_ok {TB : Instr → Nat → Int32 → Option Value} {tb : Nat → Nat → Nat → Option Value} (hb : TbH tb TB) : Snd m3 (OkR (gG TB) 1 21 m3) 0 (m3_c) := m3_b0_ok hb
def m5_b148 (R : Eng.Code (Option Eng.Res) × Eng.Code (Option Eng.Res)) : Eng.Code (Option Eng.Res) := (cLd none Value.isRef ac0 (cGet none 5 (cLd none isI ac2 (cLd none Value.isRef ac0 (cGet none 3 (cLd none isI ac2 (cALd none tI (cASt none 0 tI (cInc none (Int32.ofInt (1)) ac1 up1 R.1)))))))))
theorem m5_b148_ok {TB : Instr → Nat → Int32 → Option Value} {tb : Nat → Nat → Nat → Option Value} (hb : TbH tb TB) {R : Eng.Code (Option Eng.Res) × Eng.Code (Option Eng.Res)} (hR : Snd m5 (OkR (gG TB) 0 0 m5) 2 R.1 ∧ Snd m5 (OkR (gG TB) 0 0 m5) 115 R.2) : Snd m5 (OkR (gG TB) 0 0 m5) 148 (m5_b148 R) := (Snd.ld bkR rfl (fun _ => rfl) ac0_ok (Snd.get bkR rfl (Snd.ld bkR rfl (fun _ => rfl) ac2_ok (Snd.ld bkR rfl (fun _ => rfl) ac0_ok (Snd.get bkR rfl (Snd.ld bkR rfl (fun _ => rfl) ac2_ok (Snd.ald bkR rfl (fun _ => rfl) (fun _ => rfl) (fun _ _ => rfl) (Snd.ast bkR rfl (fun _ => rfl) (fun _ => rfl) (fun _ _ => rfl) (Snd.inc bkR rfl ac1_ok up1_ok (Snd.goto (t := 2) bkR rfl (by decide) hR.1))))))))))
def m5_b115 (R : Eng.Code (Option Eng.Res) × Eng.Code (Option Eng.Res)) : Eng.Code (Option Eng.Res) := (cLd none isI ac5 (cLd none isI ac3 (cIc none geB (cLd none Value.isRef ac0 (cGet none 3 (cLd none isI ac2 (cLd none isI ac3 (cASt none 0 tI (m5_b148 R)))))) (cLd none Value.isRef ac0 (cGet none 2 (cLd none Value.isRef ac0 (cGet none 0 (cLd none isI ac5 (cALd none tI (cLd none isI ac4 (cASt none 0 tI (cInc none (Int32.ofInt (1)) ac5 up5 R.2))))))))))))
theorem m5_b115_ok {TB : Instr → Nat → Int32 → Option Value} {tb : Nat → Nat → Nat → Option Value} (hb : TbH tb TB) {R : Eng.Code (Option Eng.Res) × Eng.Code (Option Eng.Res)} (hR : Snd m5 (OkR (gG TB) 0 0 m5) 2 R.1 ∧ Snd m5 (OkR (gG TB) 0 0 m5) 115 R.2) : Snd m5 (OkR (gG TB) 0 0 m5) 115 (m5_b115 R) := (Snd.ld bkR rfl (fun _ => rfl) ac5_ok (Snd.ld bkR rfl (fun _ => rfl) ac3_ok (Snd.ic (t := 141) bkR rfl (by decide) hGe (Snd.ld bkR rfl (fun _ => rfl) ac0_ok (Snd.get bkR rfl (Snd.ld bkR rfl (fun _ => rfl) ac2_ok (Snd.ld bkR rfl (fun _ => rfl) ac3_ok (Snd.ast bkR rfl (fun _ => rfl) (fun _ => rfl) (fun _ _ => rfl) (m5_b148_ok hb hR)))))) (Snd.ld bkR rfl (fun _ => rfl) ac0_ok (Snd.get bkR rfl (Snd.ld bkR rfl (fun _ => rfl) ac0_ok (Snd.get bkR rfl (Snd.ld bkR rfl (fun _ => rfl) ac5_ok (Snd.ald bkR rfl (fun _ => rfl) (fun _ => rfl) (fun _ _ => rfl) (Snd.ld bkR rfl (fun _ => rfl) ac4_ok (Snd.ast bkR rfl (fun _ => rfl) (fun _ => rfl) (fun _ _ => rfl) (Snd.inc bkR rfl ac5_ok up5_ok (Snd.goto (t := 115) bkR rfl (by decide) hR.2)))))))))))))
def m5_b83 (R : Eng.Code (Option Eng.Res) × Eng.Code (Option Eng.Res)) : Eng.Code (Option Eng.Res) := (cASt none 0 tI (cLd none Value.isRef ac0 (cGet none 5 (cLd none isI ac4 (cLd none Value.isRef ac0 (cGet none 3 (cLd none isI ac4 (cALd none tI (cASt none 0 tI (cLd none Value.isRef ac0 (cGet none 6 (cLd none isI ac4 (cLd none isI ac2 (cASt none 0 tI (cLd none Value.isRef ac0 (cGet none 3 (cLd none isI ac4 (cALd none tI (cSt none isI ac5 up5 R.2)))))))))))))))))))
theorem m5_b83_ok {TB : Instr → Nat → Int32 → Option Value} {tb : Nat → Nat → Nat → Option Value} (hb : TbH tb TB) {R : Eng.Code (Option Eng.Res) × Eng.Code (Option Eng.Res)} (hR : Snd m5 (OkR (gG TB) 0 0 m5) 2 R.1 ∧ Snd m5 (OkR (gG TB) 0 0 m5) 115 R.2) : Snd m5 (OkR (gG TB) 0 0 m5) 83 (m5_b83 R) := (Snd.ast bkR rfl (fun _ => rfl) (fun _ => rfl) (fun _ _ => rfl) (Snd.ld bkR rfl (fun _ => rfl) ac0_ok (Snd.get bkR rfl (Snd.ld bkR rfl (fun _ => rfl) ac4_ok (Snd.ld bkR rfl (fun _ => rfl) ac0_ok (Snd.get bkR rfl (Snd.ld bkR rfl (fun _ => rfl) ac4_ok (Snd.ald bkR rfl (fun _ => rfl) (fun _ => rfl) (fun _ _ => rfl) (Snd.ast bkR rfl (fun _ => rfl) (fun _ => rfl) (fun _ _ => rfl) (Snd.ld bkR rfl (fun _ => rfl) ac0_ok (Snd.get bkR rfl (Snd.ld bkR rfl (fun _ => rfl) ac4_ok (Snd.ld bkR rfl (fun _ => rfl) ac2_ok (Snd.ast bkR rfl (fun _ => rfl) (fun _ => rfl) (fun _ _ => rfl) (Snd.ld bkR rfl (fun _ => rfl) ac0_ok (Snd.get bkR rfl (Snd.ld bkR rfl (fun _ => rfl) ac4_ok (Snd.ald bkR rfl (fun _ => rfl) (fun _ => rfl) (fun _ _ => rfl) (Snd.st bkR rfl (fun _ => rfl) @isI_cat ac5_ok up5_ok hR.2)))))))))))))))))))
def m5_b39 (R : Eng.Code (Option Eng.Res) × Eng.Code (Option Eng.Res)) : Eng.Code (Option Eng.Res) := (cGet none 3 (cHs none 42 hLen (cIc none neB (cLd none Value.isRef ac0 (cPs none 51 pDup (cGet none 8 (cPs none 55 pDupX1 (cPsh (.int (mkI 1)) (cB none (addF) (cHs none 58 (hPut 0 gT 8 0) (cSt none isI ac4 up4 (cLd none Value.isRef ac0 (cGet none 3 (cLd none isI ac4 (cLd none Value.isRef ac0 (cGet none 3 (cLd none isI ac2 (cALd none tI (cASt none 0 tI (cLd none Value.isRef ac0 (cGet none 4 (cLd none isI ac4 (cLd none isI ac3 (m5_b83 R))))))))))))))))))))) (cLd none Value.isRef ac0 (fun _ _ _ _ _ => none)))))
theorem m5_b39_ok {TB : Instr → Nat → Int32 → Option Value} {tb : Nat → Nat → Nat → Option Value} (hb : TbH tb TB) {R : Eng.Code (Option Eng.Res) × Eng.Code (Option Eng.Res)} (hR : Snd m5 (OkR (gG TB) 0 0 m5) 2 R.1 ∧ Snd m5 (OkR (gG TB) 0 0 m5) 115 R.2) : Snd m5 (OkR (gG TB) 0 0 m5) 39 (m5_b39 R) := (Snd.get bkR rfl (Snd.hs bkR rfl (fun _ => rfl) (fun _ => rfl) (fun _ _ => rfl) onlyLen (Snd.ic (t := 50) bkR rfl (by decide) hNe (Snd.ld bkR rfl (fun _ => rfl) ac0_ok (Snd.p bkR rfl (fun _ => rfl) onlyDup (Snd.get bkR rfl (Snd.p bkR rfl (fun _ => rfl) onlyDupX1 (Snd.psh bkR rfl (fun _ => rfl) (Snd.b bkR rfl (fun _ => rfl) addF_ok (Snd.hs bkR rfl (fun _ => rfl) (fun _ => rfl) (fun _ _ => rfl) onlyPut (Snd.st bkR rfl (fun _ => rfl) @isI_cat ac4_ok up4_ok (Snd.ld bkR rfl (fun _ => rfl) ac0_ok (Snd.get bkR rfl (Snd.ld bkR rfl (fun _ => rfl) ac4_ok (Snd.ld bkR rfl (fun _ => rfl) ac0_ok (Snd.get bkR rfl (Snd.ld bkR rfl (fun _ => rfl) ac2_ok (Snd.ald bkR rfl (fun _ => rfl) (fun _ => rfl) (fun _ _ => rfl) (Snd.ast bkR rfl (fun _ => rfl) (fun _ => rfl) (fun _ _ => rfl) (Snd.ld bkR rfl (fun _ => rfl) ac0_ok (Snd.get bkR rfl (Snd.ld bkR rfl (fun _ => rfl) ac4_ok (Snd.ld bkR rfl (fun _ => rfl) ac3_ok (m5_b83_ok hb hR))))))))))))))))))))) (Snd.ld bkR rfl (fun _ => rfl) ac0_ok (Snd.bad bkR)))))
def m5_b2 (R : Eng.Code (Option Eng.Res) × Eng.Code (Option Eng.Res)) : Eng.Code (Option Eng.Res) := (cLd none isI ac1 (cLd none Value.isRef ac0 (cGet none 9 (cIc none geB (cLd none Value.isRef ac0 (cPsh (.int (mkI 0)) (cHs none 168 (hPut 0 gT 9 0) (cRet rV)))) (cLd none Value.isRef ac0 (cGet none 7 (cLd none isI ac1 (cALd none tI (cSt none isI ac2 up2 (cLd none Value.isRef ac0 (cGet none 5 (cLd none isI ac2 (cALd none tI (cSt none isI ac3 up3 (cLd none isI ac3 (cLd none Value.isRef ac0 (cGet none 4 (cLd none isI ac2 (cALd none tI (cIc none geB (m5_b148 R) (cLd none Value.isRef ac0 (cGet none 8 (cLd none Value.isRef ac0 (m5_b39 R))))))))))))))))))))))))
theorem m5_b2_ok {TB : Instr → Nat → Int32 → Option Value} {tb : Nat → Nat → Nat → Option Value} (hb : TbH tb TB) {R : Eng.Code (Option Eng.Res) × Eng.Code (Option Eng.Res)} (hR : Snd m5 (OkR (gG TB) 0 0 m5) 2 R.1 ∧ Snd m5 (OkR (gG TB) 0 0 m5) 115 R.2) : Snd m5 (OkR (gG TB) 0 0 m5) 2 (m5_b2 R) := (Snd.ld bkR rfl (fun _ => rfl) ac1_ok (Snd.ld bkR rfl (fun _ => rfl) ac0_ok (Snd.get bkR rfl (Snd.ic (t := 166) bkR rfl (by decide) hGe (Snd.ld bkR rfl (fun _ => rfl) ac0_ok (Snd.psh bkR rfl (fun _ => rfl) (Snd.hs bkR rfl (fun _ => rfl) (fun _ => rfl) (fun _ _ => rfl) onlyPut (Snd.ret rfl (fun _ => rfl) (fun _ => rfl) (fun _ _ => rfl) rV_ok)))) (Snd.ld bkR rfl (fun _ => rfl) ac0_ok (Snd.get bkR rfl (Snd.ld bkR rfl (fun _ => rfl) ac1_ok (Snd.ald bkR rfl (fun _ => rfl) (fun _ => rfl) (fun _ _ => rfl) (Snd.st bkR rfl (fun _ => rfl) @isI_cat ac2_ok up2_ok (Snd.ld bkR rfl (fun _ => rfl) ac0_ok (Snd.get bkR rfl (Snd.ld bkR rfl (fun _ => rfl) ac2_ok (Snd.ald bkR rfl (fun _ => rfl) (fun _ => rfl) (fun _ _ => rfl) (Snd.st bkR rfl (fun _ => rfl) @isI_cat ac3_ok up3_ok (Snd.ld bkR rfl (fun _ => rfl) ac3_ok (Snd.ld bkR rfl (fun _ => rfl) ac0_ok (Snd.get bkR rfl (Snd.ld bkR rfl (fun _ => rfl) ac2_ok (Snd.ald bkR rfl (fun _ => rfl) (fun _ => rfl) (fun _ _ => rfl) (Snd.ic (t := 148) bkR rfl (by decide) hGe (m5_b148_ok hb hR) (Snd.ld bkR rfl (fun _ => rfl) ac0_ok (Snd.get bkR rfl (Snd.ld bkR rfl (fun _ => rfl) ac0_ok (m5_b39_ok hb hR))))))))))))))))))))))))
def m5_b0 (R : Eng.Code (Option Eng.Res) × Eng.Code (Option Eng.Res)) : Eng.Code (Option Eng.Res) := (cPsh (.int (mkI 0)) (cSt none isI ac1 up1 R.1))
theorem m5_b0_ok {TB : Instr → Nat → Int32 → Option Value} {tb : Nat → Nat → Nat → Option Value} (hb : TbH tb TB) {R : Eng.Code (Option Eng.Res) × Eng.Code (Option Eng.Res)} (hR : Snd m5 (OkR (gG TB) 0 0 m5) 2 R.1 ∧ Snd m5 (OkR (gG TB) 0 0 m5) 115 R.2) : Snd m5 (OkR (gG TB) 0 0 m5) 0 (m5_b0 R) := (Snd.psh bkR rfl (fun _ => rfl) (Snd.st bkR rfl (fun _ => rfl) @isI_cat ac1_ok up1_ok hR.1))
def m5_R : Nat → Eng.Code (Option Eng.Res) × Eng.Code (Option Eng.Res)
  | 0 => ((fun _ _ _ _ _ => none), (fun _ _ _ _ _ => none))
  | n + 1 => (m5_b2 (m5_R n), m5_b115 (m5_R n))
theorem m5_R_ok {TB : Instr → Nat → Int32 → Option Value} {tb : Nat → Nat → Nat → Option Value} (hb : TbH tb TB) : ∀ n, Snd m5 (OkR (gG TB) 0 0 m5) 2 (m5_R n).1 ∧ Snd m5 (OkR (gG TB) 0 0 m5) 115 (m5_R n).2
  | 0 => ⟨Snd.bad bkR, Snd.bad bkR⟩
  | n + 1 => ⟨m5_b2_ok hb (m5_R_ok hb n), m5_b115_ok hb (m5_R_ok hb n)⟩
def m5_c : Eng.Code (Option Eng.Res) := m5_b0 (m5_R 300)
theorem m5_ok {TB : Instr → Nat → Int32 → Option Value} {tb : Nat → Nat → Nat → Option Value} (hb : TbH tb TB) : Snd m5 (OkR (gG TB) 0 0 m5) 0 (m5_c) := m5_b0_ok hb (m5_R_ok hb 300)
def m6_b131 : Eng.Code (Option Eng.Res) := (cRet (rN .boolean))
theorem m6_b131_ok {TB : Instr → Nat → Int32 → Option Value} {tb : Nat → Nat → Nat → Option Value} (hb : TbH tb TB) : Snd m6 (OkR (gG TB) 0 0 m6) 131 (m6_b131) := (Snd.ret rfl (fun _ => rfl) (fun _ => rfl) (fun _ _ => rfl) rB_ok)
def m6_b130 : Eng.Code (Option Eng.Res) := (cPsh (.int (mkI 0)) (m6_b131))
theorem m6_b130_ok {TB : Instr → Nat → Int32 → Option Value} {tb : Nat → Nat → Nat → Option Value} (hb : TbH tb TB) : Snd m6 (OkR (gG TB) 0 0 m6) 130 (m6_b130) := (Snd.psh bkR rfl (fun _ => rfl) (m6_b131_ok hb))
def m6_b115 : Eng.Code (Option Eng.Res) := (cSt none isI ac4 up4 (cLd none isI ac3 (cIf none eqB (m6_b130) (cLd none isI ac4 (cIf none eqB (m6_b130) (cPsh (.int (mkI 1)) (m6_b131)))))))
theorem m6_b115_ok {TB : Instr → Nat → Int32 → Option Value} {tb : Nat → Nat → Nat → Option Value} (hb : TbH tb TB) : Snd m6 (OkR (gG TB) 0 0 m6) 115 (m6_b115) := (Snd.st bkR rfl (fun _ => rfl) @isI_cat ac4_ok up4_ok (Snd.ld bkR rfl (fun _ => rfl) ac3_ok (Snd.ifc (t := 130) bkR rfl (by decide) hEq (m6_b130_ok hb) (Snd.ld bkR rfl (fun _ => rfl) ac4_ok (Snd.ifc (t := 130) bkR rfl (by decide) hEq (m6_b130_ok hb) (Snd.psh bkR rfl (fun _ => rfl) (Snd.goto (t := 131) bkR rfl (by decide) (m6_b131_ok hb))))))))
def m6_b114 : Eng.Code (Option Eng.Res) := (cPsh (.int (mkI 0)) (m6_b115))
theorem m6_b114_ok {TB : Instr → Nat → Int32 → Option Value} {tb : Nat → Nat → Nat → Option Value} (hb : TbH tb TB) : Snd m6 (OkR (gG TB) 0 0 m6) 114 (m6_b114) := (Snd.psh bkR rfl (fun _ => rfl) (m6_b115_ok hb))
def m6_b110 : Eng.Code (Option Eng.Res) := (cPsh (.int (mkI 1)) (m6_b115))
theorem m6_b110_ok {TB : Instr → Nat → Int32 → Option Value} {tb : Nat → Nat → Nat → Option Value} (hb : TbH tb TB) : Snd m6 (OkR (gG TB) 0 0 m6) 110 (m6_b110) := (Snd.psh bkR rfl (fun _ => rfl) (Snd.goto (t := 115) bkR rfl (by decide) (m6_b115_ok hb)))
def m6_b97 : Eng.Code (Option Eng.Res) := (cLd none Value.isRef ac0 (cPsh (.int (mkI 3)) (cALd none tI (cLd none isI ac2 (cIc none neB (m6_b114) (cLd none Value.isRef ac1 (cPsh (.int (mkI 3)) (cALd none tB (cIf none neB (m6_b114) (m6_b110))))))))))
theorem m6_b97_ok {TB : Instr → Nat → Int32 → Option Value} {tb : Nat → Nat → Nat → Option Value} (hb : TbH tb TB) : Snd m6 (OkR (gG TB) 0 0 m6) 97 (m6_b97) := (Snd.ld bkR rfl (fun _ => rfl) ac0_ok (Snd.psh bkR rfl (fun _ => rfl) (Snd.ald bkR rfl (fun _ => rfl) (fun _ => rfl) (fun _ _ => rfl) (Snd.ld bkR rfl (fun _ => rfl) ac2_ok (Snd.ic (t := 114) bkR rfl (by decide) hNe (m6_b114_ok hb) (Snd.ld bkR rfl (fun _ => rfl) ac1_ok (Snd.psh bkR rfl (fun _ => rfl) (Snd.ald bkR rfl (fun _ => rfl) (fun _ => rfl) (fun _ _ => rfl) (Snd.ifc (t := 114) bkR rfl (by decide) hNe (m6_b114_ok hb) (m6_b110_ok hb))))))))))
def m6_b84 : Eng.Code (Option Eng.Res) := (cLd none Value.isRef ac0 (cPsh (.int (mkI 2)) (cALd none tI (cLd none isI ac2 (cIc none neB (m6_b97) (cLd none Value.isRef ac1 (cPsh (.int (mkI 2)) (cALd none tB (cIf none eqB (m6_b110) (m6_b97))))))))))
theorem m6_b84_ok {TB : Instr → Nat → Int32 → Option Value} {tb : Nat → Nat → Nat → Option Value} (hb : TbH tb TB) : Snd m6 (OkR (gG TB) 0 0 m6) 84 (m6_b84) := (Snd.ld bkR rfl (fun _ => rfl) ac0_ok (Snd.psh bkR rfl (fun _ => rfl) (Snd.ald bkR rfl (fun _ => rfl) (fun _ => rfl) (fun _ _ => rfl) (Snd.ld bkR rfl (fun _ => rfl) ac2_ok (Snd.ic (t := 97) bkR rfl (by decide) hNe (m6_b97_ok hb) (Snd.ld bkR rfl (fun _ => rfl) ac1_ok (Snd.psh bkR rfl (fun _ => rfl) (Snd.ald bkR rfl (fun _ => rfl) (fun _ => rfl) (fun _ _ => rfl) (Snd.ifc (t := 110) bkR rfl (by decide) hEq (m6_b110_ok hb) (m6_b97_ok hb))))))))))
def m6_b71 : Eng.Code (Option Eng.Res) := (cLd none Value.isRef ac0 (cPsh (.int (mkI 1)) (cALd none tI (cLd none isI ac2 (cIc none neB (m6_b84) (cLd none Value.isRef ac1 (cPsh (.int (mkI 1)) (cALd none tB (cIf none eqB (m6_b110) (m6_b84))))))))))
theorem m6_b71_ok {TB : Instr → Nat → Int32 → Option Value} {tb : Nat → Nat → Nat → Option Value} (hb : TbH tb TB) : Snd m6 (OkR (gG TB) 0 0 m6) 71 (m6_b71) := (Snd.ld bkR rfl (fun _ => rfl) ac0_ok (Snd.psh bkR rfl (fun _ => rfl) (Snd.ald bkR rfl (fun _ => rfl) (fun _ => rfl) (fun _ _ => rfl) (Snd.ld bkR rfl (fun _ => rfl) ac2_ok (Snd.ic (t := 84) bkR rfl (by decide) hNe (m6_b84_ok hb) (Snd.ld bkR rfl (fun _ => rfl) ac1_ok (Snd.psh bkR rfl (fun _ => rfl) (Snd.ald bkR rfl (fun _ => rfl) (fun _ => rfl) (fun _ _ => rfl) (Snd.ifc (t := 110) bkR rfl (by decide) hEq (m6_b110_ok hb) (m6_b84_ok hb))))))))))
def m6_b57 : Eng.Code (Option Eng.Res) := (cSt none isI ac3 up3 (cLd none Value.isRef ac0 (cPsh (.int (mkI 0)) (cALd none tI (cLd none isI ac2 (cIc none neB (m6_b71) (cLd none Value.isRef ac1 (cPsh (.int (mkI 0)) (cALd none tB (cIf none eqB (m6_b110) (m6_b71)))))))))))
theorem m6_b57_ok {TB : Instr → Nat → Int32 → Option Value} {tb : Nat → Nat → Nat → Option Value} (hb : TbH tb TB) : Snd m6 (OkR (gG TB) 0 0 m6) 57 (m6_b57) := (Snd.st bkR rfl (fun _ => rfl) @isI_cat ac3_ok up3_ok (Snd.ld bkR rfl (fun _ => rfl) ac0_ok (Snd.psh bkR rfl (fun _ => rfl) (Snd.ald bkR rfl (fun _ => rfl) (fun _ => rfl) (fun _ _ => rfl) (Snd.ld bkR rfl (fun _ => rfl) ac2_ok (Snd.ic (t := 71) bkR rfl (by decide) hNe (m6_b71_ok hb) (Snd.ld bkR rfl (fun _ => rfl) ac1_ok (Snd.psh bkR rfl (fun _ => rfl) (Snd.ald bkR rfl (fun _ => rfl) (fun _ => rfl) (fun _ _ => rfl) (Snd.ifc (t := 110) bkR rfl (by decide) hEq (m6_b110_ok hb) (m6_b71_ok hb)))))))))))
def m6_b56 : Eng.Code (Option Eng.Res) := (cPsh (.int (mkI 0)) (m6_b57))
theorem m6_b56_ok {TB : Instr → Nat → Int32 → Option Value} {tb : Nat → Nat → Nat → Option Value} (hb : TbH tb TB) : Snd m6 (OkR (gG TB) 0 0 m6) 56 (m6_b56) := (Snd.psh bkR rfl (fun _ => rfl) (m6_b57_ok hb))
def m6_b52 : Eng.Code (Option Eng.Res) := (cPsh (.int (mkI 1)) (m6_b57))
theorem m6_b52_ok {TB : Instr → Nat → Int32 → Option Value} {tb : Nat → Nat → Nat → Option Value} (hb : TbH tb TB) : Snd m6 (OkR (gG TB) 0 0 m6) 52 (m6_b52) := (Snd.psh bkR rfl (fun _ => rfl) (Snd.goto (t := 57) bkR rfl (by decide) (m6_b57_ok hb)))
def m6_b39 : Eng.Code (Option Eng.Res) := (cLd none Value.isRef ac0 (cPsh (.int (mkI 3)) (cALd none tI (cLd none isI ac2 (cIc none neB (m6_b56) (cLd none Value.isRef ac1 (cPsh (.int (mkI 3)) (cALd none tB (cIf none eqB (m6_b56) (m6_b52))))))))))
theorem m6_b39_ok {TB : Instr → Nat → Int32 → Option Value} {tb : Nat → Nat → Nat → Option Value} (hb : TbH tb TB) : Snd m6 (OkR (gG TB) 0 0 m6) 39 (m6_b39) := (Snd.ld bkR rfl (fun _ => rfl) ac0_ok (Snd.psh bkR rfl (fun _ => rfl) (Snd.ald bkR rfl (fun _ => rfl) (fun _ => rfl) (fun _ _ => rfl) (Snd.ld bkR rfl (fun _ => rfl) ac2_ok (Snd.ic (t := 56) bkR rfl (by decide) hNe (m6_b56_ok hb) (Snd.ld bkR rfl (fun _ => rfl) ac1_ok (Snd.psh bkR rfl (fun _ => rfl) (Snd.ald bkR rfl (fun _ => rfl) (fun _ => rfl) (fun _ _ => rfl) (Snd.ifc (t := 56) bkR rfl (by decide) hEq (m6_b56_ok hb) (m6_b52_ok hb))))))))))
def m6_b26 : Eng.Code (Option Eng.Res) := (cLd none Value.isRef ac0 (cPsh (.int (mkI 2)) (cALd none tI (cLd none isI ac2 (cIc none neB (m6_b39) (cLd none Value.isRef ac1 (cPsh (.int (mkI 2)) (cALd none tB (cIf none neB (m6_b52) (m6_b39))))))))))
theorem m6_b26_ok {TB : Instr → Nat → Int32 → Option Value} {tb : Nat → Nat → Nat → Option Value} (hb : TbH tb TB) : Snd m6 (OkR (gG TB) 0 0 m6) 26 (m6_b26) := (Snd.ld bkR rfl (fun _ => rfl) ac0_ok (Snd.psh bkR rfl (fun _ => rfl) (Snd.ald bkR rfl (fun _ => rfl) (fun _ => rfl) (fun _ _ => rfl) (Snd.ld bkR rfl (fun _ => rfl) ac2_ok (Snd.ic (t := 39) bkR rfl (by decide) hNe (m6_b39_ok hb) (Snd.ld bkR rfl (fun _ => rfl) ac1_ok (Snd.psh bkR rfl (fun _ => rfl) (Snd.ald bkR rfl (fun _ => rfl) (fun _ => rfl) (fun _ _ => rfl) (Snd.ifc (t := 52) bkR rfl (by decide) hNe (m6_b52_ok hb) (m6_b39_ok hb))))))))))
def m6_b13 : Eng.Code (Option Eng.Res) := (cLd none Value.isRef ac0 (cPsh (.int (mkI 1)) (cALd none tI (cLd none isI ac2 (cIc none neB (m6_b26) (cLd none Value.isRef ac1 (cPsh (.int (mkI 1)) (cALd none tB (cIf none neB (m6_b52) (m6_b26))))))))))
theorem m6_b13_ok {TB : Instr → Nat → Int32 → Option Value} {tb : Nat → Nat → Nat → Option Value} (hb : TbH tb TB) : Snd m6 (OkR (gG TB) 0 0 m6) 13 (m6_b13) := (Snd.ld bkR rfl (fun _ => rfl) ac0_ok (Snd.psh bkR rfl (fun _ => rfl) (Snd.ald bkR rfl (fun _ => rfl) (fun _ => rfl) (fun _ _ => rfl) (Snd.ld bkR rfl (fun _ => rfl) ac2_ok (Snd.ic (t := 26) bkR rfl (by decide) hNe (m6_b26_ok hb) (Snd.ld bkR rfl (fun _ => rfl) ac1_ok (Snd.psh bkR rfl (fun _ => rfl) (Snd.ald bkR rfl (fun _ => rfl) (fun _ => rfl) (fun _ _ => rfl) (Snd.ifc (t := 52) bkR rfl (by decide) hNe (m6_b52_ok hb) (m6_b26_ok hb))))))))))
def m6_b0 : Eng.Code (Option Eng.Res) := (cLd none Value.isRef ac0 (cPsh (.int (mkI 0)) (cALd none tI (cLd none isI ac2 (cIc none neB (m6_b13) (cLd none Value.isRef ac1 (cPsh (.int (mkI 0)) (cALd none tB (cIf none neB (m6_b52) (m6_b13))))))))))
theorem m6_b0_ok {TB : Instr → Nat → Int32 → Option Value} {tb : Nat → Nat → Nat → Option Value} (hb : TbH tb TB) : Snd m6 (OkR (gG TB) 0 0 m6) 0 (m6_b0) := (Snd.ld bkR rfl (fun _ => rfl) ac0_ok (Snd.psh bkR rfl (fun _ => rfl) (Snd.ald bkR rfl (fun _ => rfl) (fun _ => rfl) (fun _ _ => rfl) (Snd.ld bkR rfl (fun _ => rfl) ac2_ok (Snd.ic (t := 13) bkR rfl (by decide) hNe (m6_b13_ok hb) (Snd.ld bkR rfl (fun _ => rfl) ac1_ok (Snd.psh bkR rfl (fun _ => rfl) (Snd.ald bkR rfl (fun _ => rfl) (fun _ => rfl) (fun _ _ => rfl) (Snd.ifc (t := 52) bkR rfl (by decide) hNe (m6_b52_ok hb) (m6_b13_ok hb))))))))))
def m6_c : Eng.Code (Option Eng.Res) := m6_b0
theorem m6_ok {TB : Instr → Nat → Int32 → Option Value} {tb : Nat → Nat → Nat → Option Value} (hb : TbH tb TB) : Snd m6 (OkR (gG TB) 0 0 m6) 0 (m6_c) := m6_b0_ok hb
def m8_b0 : Eng.Code (Option Eng.Res) := (cLd none Value.isRef ac0 (cGet none 6 (cLd none isI ac1 (cALd none tI (cRet rI)))))
theorem m8_b0_ok {TB : Instr → Nat → Int32 → Option Value} {tb : Nat → Nat → Nat → Option Value} (hb : TbH tb TB) : Snd m8 (OkR (gG TB) 0 0 m8) 0 (m8_b0) := (Snd.ld bkR rfl (fun _ => rfl) ac0_ok (Snd.get bkR rfl (Snd.ld bkR rfl (fun _ => rfl) ac1_ok (Snd.ald bkR rfl (fun _ => rfl) (fun _ => rfl) (fun _ _ => rfl) (Snd.ret rfl (fun _ => rfl) (fun _ => rfl) (fun _ _ => rfl) rI_ok)))))
def m8_c : Eng.Code (Option Eng.Res) := m8_b0
theorem m8_ok {TB : Instr → Nat → Int32 → Option Value} {tb : Nat → Nat → Nat → Option Value} (hb : TbH tb TB) : Snd m8 (OkR (gG TB) 0 0 m8) 0 (m8_c) := m8_b0_ok hb
def m9_b23 : Eng.Code (Option Eng.Res) := (cRet rI)
theorem m9_b23_ok {TB : Instr → Nat → Int32 → Option Value} {tb : Nat → Nat → Nat → Option Value} (hb : TbH tb TB) : Snd m9 (OkR (gG TB) 0 0 m9) 23 (m9_b23) := (Snd.ret rfl (fun _ => rfl) (fun _ => rfl) (fun _ _ => rfl) rI_ok)
def m9_b22 : Eng.Code (Option Eng.Res) := (cPsh (.int (mkI 0)) (m9_b23))
theorem m9_b22_ok {TB : Instr → Nat → Int32 → Option Value} {tb : Nat → Nat → Nat → Option Value} (hb : TbH tb TB) : Snd m9 (OkR (gG TB) 0 0 m9) 22 (m9_b22) := (Snd.psh bkR rfl (fun _ => rfl) (m9_b23_ok hb))
def m9_b0 : Eng.Code (Option Eng.Res) := (cLd none Value.isRef ac0 (cLd none isI ac2 (cALd none tI (cLd none Value.isRef ac0 (cLd none isI ac3 (cALd none tI (cIc none neB (m9_b22) (cLd none Value.isRef ac1 (cLd none isI ac2 (cALd none tB (cLd none Value.isRef ac1 (cLd none isI ac3 (cALd none tB (cIc none neB (m9_b22) (cPsh (.int (mkI 1)) (m9_b23))))))))))))))))
theorem m9_b0_ok {TB : Instr → Nat → Int32 → Option Value} {tb : Nat → Nat → Nat → Option Value} (hb : TbH tb TB) : Snd m9 (OkR (gG TB) 0 0 m9) 0 (m9_b0) := (Snd.ld bkR rfl (fun _ => rfl) ac0_ok (Snd.ld bkR rfl (fun _ => rfl) ac2_ok (Snd.ald bkR rfl (fun _ => rfl) (fun _ => rfl) (fun _ _ => rfl) (Snd.ld bkR rfl (fun _ => rfl) ac0_ok (Snd.ld bkR rfl (fun _ => rfl) ac3_ok (Snd.ald bkR rfl (fun _ => rfl) (fun _ => rfl) (fun _ _ => rfl) (Snd.ic (t := 22) bkR rfl (by decide) hNe (m9_b22_ok hb) (Snd.ld bkR rfl (fun _ => rfl) ac1_ok (Snd.ld bkR rfl (fun _ => rfl) ac2_ok (Snd.ald bkR rfl (fun _ => rfl) (fun _ => rfl) (fun _ _ => rfl) (Snd.ld bkR rfl (fun _ => rfl) ac1_ok (Snd.ld bkR rfl (fun _ => rfl) ac3_ok (Snd.ald bkR rfl (fun _ => rfl) (fun _ => rfl) (fun _ _ => rfl) (Snd.ic (t := 22) bkR rfl (by decide) hNe (m9_b22_ok hb) (Snd.psh bkR rfl (fun _ => rfl) (Snd.goto (t := 23) bkR rfl (by decide) (m9_b23_ok hb)))))))))))))))))
def m9_c : Eng.Code (Option Eng.Res) := m9_b0
theorem m9_ok {TB : Instr → Nat → Int32 → Option Value} {tb : Nat → Nat → Nat → Option Value} (hb : TbH tb TB) : Snd m9 (OkR (gG TB) 0 0 m9) 0 (m9_c) := m9_b0_ok hb
def m10_b0 : Eng.Code (Option Eng.Res) := (cLd none Value.isRef ac0 (cGet none 4 (cLd none isI ac1 (cALd none tI (cLd none Value.isRef ac0 (cGet none 3 (cLd none isI ac1 (cALd none tI (cB none (fun x y => x - y) (cRet rI))))))))))
theorem m10_b0_ok {TB : Instr → Nat → Int32 → Option Value} {tb : Nat → Nat → Nat → Option Value} (hb : TbH tb TB) : Snd m10 (OkR (gG TB) 0 0 m10) 0 (m10_b0) := (Snd.ld bkR rfl (fun _ => rfl) ac0_ok (Snd.get bkR rfl (Snd.ld bkR rfl (fun _ => rfl) ac1_ok (Snd.ald bkR rfl (fun _ => rfl) (fun _ => rfl) (fun _ _ => rfl) (Snd.ld bkR rfl (fun _ => rfl) ac0_ok (Snd.get bkR rfl (Snd.ld bkR rfl (fun _ => rfl) ac1_ok (Snd.ald bkR rfl (fun _ => rfl) (fun _ => rfl) (fun _ _ => rfl) (Snd.b bkR rfl (fun _ => rfl) (fun _ _ => rfl) (Snd.ret rfl (fun _ => rfl) (fun _ => rfl) (fun _ _ => rfl) rI_ok))))))))))
def m10_c : Eng.Code (Option Eng.Res) := m10_b0
theorem m10_ok {TB : Instr → Nat → Int32 → Option Value} {tb : Nat → Nat → Nat → Option Value} (hb : TbH tb TB) : Snd m10 (OkR (gG TB) 0 0 m10) 0 (m10_c) := m10_b0_ok hb
def m7_b141 : Eng.Code (Option Eng.Res) := (cRet (rN .boolean))
theorem m7_b141_ok {TB : Instr → Nat → Int32 → Option Value} {tb : Nat → Nat → Nat → Option Value} (hb : TbH tb TB) : Snd m7 (OkR (gG TB) 1 20 m7) 141 (m7_b141) := (Snd.ret rfl (fun _ => rfl) (fun _ => rfl) (fun _ _ => rfl) rB_ok)
def m7_b106 : Eng.Code (Option Eng.Res) := (cPsh (.int (mkI 2)) (cCall none tk4 [] rvS 4 m9_c (cB none (addF) (cLd none Value.isRef ac1 (cLd none Value.isRef ac2 (cLd none isI ac5 (cPsh (.int (mkI 3)) (cCall none tk4 [] rvS 4 m9_c (cB none (addF) (cSt none isI ac9 up9 (cLd none Value.isRef ac0 (cLd none Value.isRef ac4 (cLd none isI ac5 (cALd none tI (cCall none tk2 [] (rvV 0) 4 m10_c (cLd none isI ac9 (cIc none neB (cPsh (.int (mkI 0)) (m7_b141)) (cPsh (.int (mkI 1)) (m7_b141)))))))))))))))))))
theorem m7_b106_ok {TB : Instr → Nat → Int32 → Option Value} {tb : Nat → Nat → Nat → Option Value} (hb : TbH tb TB) : Snd m7 (OkR (gG TB) 1 20 m7) 106 (m7_b106) := (Snd.psh bkR rfl (fun _ => rfl) (Snd.call (frM := 0) (loM := 0) bkR rfl noSt_S rfl rfl tk4_ok rfl (by decide) rvS_ok (by decide) (by decide) (m9_ok hb) (Snd.b bkR rfl (fun _ => rfl) addF_ok (Snd.ld bkR rfl (fun _ => rfl) ac1_ok (Snd.ld bkR rfl (fun _ => rfl) ac2_ok (Snd.ld bkR rfl (fun _ => rfl) ac5_ok (Snd.psh bkR rfl (fun _ => rfl) (Snd.call (frM := 0) (loM := 0) bkR rfl noSt_S rfl rfl tk4_ok rfl (by decide) rvS_ok (by decide) (by decide) (m9_ok hb) (Snd.b bkR rfl (fun _ => rfl) addF_ok (Snd.st bkR rfl (fun _ => rfl) @isI_cat ac9_ok up9_ok (Snd.ld bkR rfl (fun _ => rfl) ac0_ok (Snd.ld bkR rfl (fun _ => rfl) ac4_ok (Snd.ld bkR rfl (fun _ => rfl) ac5_ok (Snd.ald bkR rfl (fun _ => rfl) (fun _ => rfl) (fun _ _ => rfl) (Snd.call (frM := 0) (loM := 0) bkR rfl noSt_V rfl rfl tk2_ok rfl (by decide) (rvV_ok us_nil) (by decide) (by decide) (m10_ok hb) (Snd.ld bkR rfl (fun _ => rfl) ac9_ok (Snd.ic (t := 140) bkR rfl (by decide) hNe (Snd.psh bkR rfl (fun _ => rfl) (m7_b141_ok hb)) (Snd.psh bkR rfl (fun _ => rfl) (Snd.goto (t := 141) bkR rfl (by decide) (m7_b141_ok hb))))))))))))))))))))
def m7_b67 : Eng.Code (Option Eng.Res) := (cLd none Value.isRef ac0 (cLd none Value.isRef ac4 (cLd none isI ac5 (cALd none tI (cCall none tk2 [] (rvV 0) 4 m8_c (cLd none Value.isRef ac3 (cLd none isI ac5 (cALd none tI (cIc none eqB (cLd none Value.isRef ac1 (cLd none Value.isRef ac2 (cLd none isI ac5 (cPsh (.int (mkI 0)) (cCall none tk4 [] rvS 4 m9_c (cLd none Value.isRef ac1 (cLd none Value.isRef ac2 (cLd none isI ac5 (cPsh (.int (mkI 1)) (cCall none tk4 [] rvS 4 m9_c (cB none (addF) (cLd none Value.isRef ac1 (cLd none Value.isRef ac2 (cLd none isI ac5 (m7_b106))))))))))))))) (cPsh (.int (mkI 0)) (cRet (rN .boolean))))))))))))
theorem m7_b67_ok {TB : Instr → Nat → Int32 → Option Value} {tb : Nat → Nat → Nat → Option Value} (hb : TbH tb TB) : Snd m7 (OkR (gG TB) 1 20 m7) 67 (m7_b67) := (Snd.ld bkR rfl (fun _ => rfl) ac0_ok (Snd.ld bkR rfl (fun _ => rfl) ac4_ok (Snd.ld bkR rfl (fun _ => rfl) ac5_ok (Snd.ald bkR rfl (fun _ => rfl) (fun _ => rfl) (fun _ _ => rfl) (Snd.call (frM := 0) (loM := 0) bkR rfl noSt_V rfl rfl tk2_ok rfl (by decide) (rvV_ok us_nil) (by decide) (by decide) (m8_ok hb) (Snd.ld bkR rfl (fun _ => rfl) ac3_ok (Snd.ld bkR rfl (fun _ => rfl) ac5_ok (Snd.ald bkR rfl (fun _ => rfl) (fun _ => rfl) (fun _ _ => rfl) (Snd.ic (t := 85) bkR rfl (by decide) hEq (Snd.ld bkR rfl (fun _ => rfl) ac1_ok (Snd.ld bkR rfl (fun _ => rfl) ac2_ok (Snd.ld bkR rfl (fun _ => rfl) ac5_ok (Snd.psh bkR rfl (fun _ => rfl) (Snd.call (frM := 0) (loM := 0) bkR rfl noSt_S rfl rfl tk4_ok rfl (by decide) rvS_ok (by decide) (by decide) (m9_ok hb) (Snd.ld bkR rfl (fun _ => rfl) ac1_ok (Snd.ld bkR rfl (fun _ => rfl) ac2_ok (Snd.ld bkR rfl (fun _ => rfl) ac5_ok (Snd.psh bkR rfl (fun _ => rfl) (Snd.call (frM := 0) (loM := 0) bkR rfl noSt_S rfl rfl tk4_ok rfl (by decide) rvS_ok (by decide) (by decide) (m9_ok hb) (Snd.b bkR rfl (fun _ => rfl) addF_ok (Snd.ld bkR rfl (fun _ => rfl) ac1_ok (Snd.ld bkR rfl (fun _ => rfl) ac2_ok (Snd.ld bkR rfl (fun _ => rfl) ac5_ok (m7_b106_ok hb))))))))))))))) (Snd.psh bkR rfl (fun _ => rfl) (Snd.ret rfl (fun _ => rfl) (fun _ => rfl) (fun _ _ => rfl) rB_ok)))))))))))
def m7_b51 : Eng.Code (Option Eng.Res) := (cPsh (.int (mkI 0)) (cRet (rN .boolean)))
theorem m7_b51_ok {TB : Instr → Nat → Int32 → Option Value} {tb : Nat → Nat → Nat → Option Value} (hb : TbH tb TB) : Snd m7 (OkR (gG TB) 1 20 m7) 51 (m7_b51) := (Snd.psh bkR rfl (fun _ => rfl) (Snd.ret rfl (fun _ => rfl) (fun _ => rfl) (fun _ _ => rfl) rB_ok))
def m7_b24 : Eng.Code (Option Eng.Res) := (cSt none isI ac8 up8 (cLd none isI ac8 (cIf none eqB (cLd none Value.isRef ac4 (cLd none isI ac5 (cALd none tI (cLd none Value.isRef ac3 (cLd none isI ac5 (cALd none tI (cIc none eqB (m7_b67) (cPsh (.int (mkI 0)) (cRet (rN .boolean)))))))))) (cLd none Value.isRef ac4 (cLd none isI ac5 (cALd none tI (cLd none isI ac6 (cIc none ltB (m7_b51) (cLd none Value.isRef ac4 (cLd none isI ac5 (cALd none tI (cLd none isI ac7 (cIc none ltB (m7_b67) (m7_b51))))))))))))))
theorem m7_b24_ok {TB : Instr → Nat → Int32 → Option Value} {tb : Nat → Nat → Nat → Option Value} (hb : TbH tb TB) : Snd m7 (OkR (gG TB) 1 20 m7) 24 (m7_b24) := (Snd.st bkR rfl (fun _ => rfl) @isI_cat ac8_ok up8_ok (Snd.ld bkR rfl (fun _ => rfl) ac8_ok (Snd.ifc (t := 53) bkR rfl (by decide) hEq (Snd.ld bkR rfl (fun _ => rfl) ac4_ok (Snd.ld bkR rfl (fun _ => rfl) ac5_ok (Snd.ald bkR rfl (fun _ => rfl) (fun _ => rfl) (fun _ _ => rfl) (Snd.ld bkR rfl (fun _ => rfl) ac3_ok (Snd.ld bkR rfl (fun _ => rfl) ac5_ok (Snd.ald bkR rfl (fun _ => rfl) (fun _ => rfl) (fun _ _ => rfl) (Snd.ic (t := 67) bkR rfl (by decide) hEq (m7_b67_ok hb) (Snd.psh bkR rfl (fun _ => rfl) (Snd.ret rfl (fun _ => rfl) (fun _ => rfl) (fun _ _ => rfl) rB_ok))))))))) (Snd.ld bkR rfl (fun _ => rfl) ac4_ok (Snd.ld bkR rfl (fun _ => rfl) ac5_ok (Snd.ald bkR rfl (fun _ => rfl) (fun _ => rfl) (fun _ _ => rfl) (Snd.ld bkR rfl (fun _ => rfl) ac6_ok (Snd.ic (t := 51) bkR rfl (by decide) hLt (m7_b51_ok hb) (Snd.ld bkR rfl (fun _ => rfl) ac4_ok (Snd.ld bkR rfl (fun _ => rfl) ac5_ok (Snd.ald bkR rfl (fun _ => rfl) (fun _ => rfl) (fun _ _ => rfl) (Snd.ld bkR rfl (fun _ => rfl) ac7_ok (Snd.ic (t := 67) bkR rfl (by decide) hLt (m7_b67_ok hb) (m7_b51_ok hb))))))))))))))
def m7_b23 : Eng.Code (Option Eng.Res) := (cPsh (.int (mkI 0)) (m7_b24))
theorem m7_b23_ok {TB : Instr → Nat → Int32 → Option Value} {tb : Nat → Nat → Nat → Option Value} (hb : TbH tb TB) : Snd m7 (OkR (gG TB) 1 20 m7) 23 (m7_b23) := (Snd.psh bkR rfl (fun _ => rfl) (m7_b24_ok hb))
def m7_b0 : Eng.Code (Option Eng.Res) := (cLd none Value.isRef ac2 (cLd none isI ac5 (cALd none tB (cIf none eqB (m7_b23) (cLd none Value.isRef ac1 (cLd none Value.isRef ac2 (cLd none Value.isRef ac1 (cLd none isI ac5 (cALd none tI (cCall none tk3 [.unset, .unset] rvS 4 m6_c (cIf none eqB (m7_b23) (cPsh (.int (mkI 1)) (m7_b24)))))))))))))
theorem m7_b0_ok {TB : Instr → Nat → Int32 → Option Value} {tb : Nat → Nat → Nat → Option Value} (hb : TbH tb TB) : Snd m7 (OkR (gG TB) 1 20 m7) 0 (m7_b0) := (Snd.ld bkR rfl (fun _ => rfl) ac2_ok (Snd.ld bkR rfl (fun _ => rfl) ac5_ok (Snd.ald bkR rfl (fun _ => rfl) (fun _ => rfl) (fun _ _ => rfl) (Snd.ifc (t := 23) bkR rfl (by decide) hEq (m7_b23_ok hb) (Snd.ld bkR rfl (fun _ => rfl) ac1_ok (Snd.ld bkR rfl (fun _ => rfl) ac2_ok (Snd.ld bkR rfl (fun _ => rfl) ac1_ok (Snd.ld bkR rfl (fun _ => rfl) ac5_ok (Snd.ald bkR rfl (fun _ => rfl) (fun _ => rfl) (fun _ _ => rfl) (Snd.call (frM := 0) (loM := 0) bkR rfl noSt_S rfl rfl tk3_ok rfl (by decide) rvS_ok (by decide) (by decide) (m6_ok hb) (Snd.ifc (t := 23) bkR rfl (by decide) hEq (m7_b23_ok hb) (Snd.psh bkR rfl (fun _ => rfl) (Snd.goto (t := 24) bkR rfl (by decide) (m7_b24_ok hb))))))))))))))
def m7_c : Eng.Code (Option Eng.Res) := m7_b0
theorem m7_ok {TB : Instr → Nat → Int32 → Option Value} {tb : Nat → Nat → Nat → Option Value} (hb : TbH tb TB) : Snd m7 (OkR (gG TB) 1 20 m7) 0 (m7_c) := m7_b0_ok hb
def m11_b48 : Eng.Code (Option Eng.Res) := (cRet (rN .boolean))
theorem m11_b48_ok {TB : Instr → Nat → Int32 → Option Value} {tb : Nat → Nat → Nat → Option Value} (hb : TbH tb TB) : Snd m11 (OkR (gG TB) 0 0 m11) 48 (m11_b48) := (Snd.ret rfl (fun _ => rfl) (fun _ => rfl) (fun _ _ => rfl) rB_ok)
def m11_b40 : Eng.Code (Option Eng.Res) := (cIc none neB (cPsh (.int (mkI 0)) (m11_b48)) (cPsh (.int (mkI 1)) (m11_b48)))
theorem m11_b40_ok {TB : Instr → Nat → Int32 → Option Value} {tb : Nat → Nat → Nat → Option Value} (hb : TbH tb TB) : Snd m11 (OkR (gG TB) 0 0 m11) 40 (m11_b40) := (Snd.ic (t := 47) bkR rfl (by decide) hNe (Snd.psh bkR rfl (fun _ => rfl) (m11_b48_ok hb)) (Snd.psh bkR rfl (fun _ => rfl) (Snd.goto (t := 48) bkR rfl (by decide) (m11_b48_ok hb))))
def m11_b39 : Eng.Code (Option Eng.Res) := (cPsh (.int (mkI 0)) (m11_b40))
theorem m11_b39_ok {TB : Instr → Nat → Int32 → Option Value} {tb : Nat → Nat → Nat → Option Value} (hb : TbH tb TB) : Snd m11 (OkR (gG TB) 0 0 m11) 39 (m11_b39) := (Snd.psh bkR rfl (fun _ => rfl) (m11_b40_ok hb))
def m11_b15 : Eng.Code (Option Eng.Res) := (cLd none Value.isRef ac0 (cLd none isI ac3 (cALd none tI (cLd none Value.isRef ac0 (cLd none isI ac4 (cALd none tI (cIc none neB (m11_b39) (cLd none Value.isRef ac1 (cLd none isI ac3 (cALd none tB (cLd none Value.isRef ac1 (cLd none isI ac4 (cALd none tB (cIc none neB (m11_b39) (cPsh (.int (mkI 1)) (m11_b40))))))))))))))))
theorem m11_b15_ok {TB : Instr → Nat → Int32 → Option Value} {tb : Nat → Nat → Nat → Option Value} (hb : TbH tb TB) : Snd m11 (OkR (gG TB) 0 0 m11) 15 (m11_b15) := (Snd.ld bkR rfl (fun _ => rfl) ac0_ok (Snd.ld bkR rfl (fun _ => rfl) ac3_ok (Snd.ald bkR rfl (fun _ => rfl) (fun _ => rfl) (fun _ _ => rfl) (Snd.ld bkR rfl (fun _ => rfl) ac0_ok (Snd.ld bkR rfl (fun _ => rfl) ac4_ok (Snd.ald bkR rfl (fun _ => rfl) (fun _ => rfl) (fun _ _ => rfl) (Snd.ic (t := 39) bkR rfl (by decide) hNe (m11_b39_ok hb) (Snd.ld bkR rfl (fun _ => rfl) ac1_ok (Snd.ld bkR rfl (fun _ => rfl) ac3_ok (Snd.ald bkR rfl (fun _ => rfl) (fun _ => rfl) (fun _ _ => rfl) (Snd.ld bkR rfl (fun _ => rfl) ac1_ok (Snd.ld bkR rfl (fun _ => rfl) ac4_ok (Snd.ald bkR rfl (fun _ => rfl) (fun _ => rfl) (fun _ _ => rfl) (Snd.ic (t := 39) bkR rfl (by decide) hNe (m11_b39_ok hb) (Snd.psh bkR rfl (fun _ => rfl) (Snd.goto (t := 40) bkR rfl (by decide) (m11_b40_ok hb)))))))))))))))))
def m11_b0 : Eng.Code (Option Eng.Res) := (cLd none Value.isRef ac2 (cLd none isI ac3 (cALd none tI (cLd none Value.isRef ac2 (cLd none isI ac4 (cALd none tI (cIc none neB (cPsh (.int (mkI 0)) (m11_b15)) (cPsh (.int (mkI 1)) (m11_b15)))))))))
theorem m11_b0_ok {TB : Instr → Nat → Int32 → Option Value} {tb : Nat → Nat → Nat → Option Value} (hb : TbH tb TB) : Snd m11 (OkR (gG TB) 0 0 m11) 0 (m11_b0) := (Snd.ld bkR rfl (fun _ => rfl) ac2_ok (Snd.ld bkR rfl (fun _ => rfl) ac3_ok (Snd.ald bkR rfl (fun _ => rfl) (fun _ => rfl) (fun _ _ => rfl) (Snd.ld bkR rfl (fun _ => rfl) ac2_ok (Snd.ld bkR rfl (fun _ => rfl) ac4_ok (Snd.ald bkR rfl (fun _ => rfl) (fun _ => rfl) (fun _ _ => rfl) (Snd.ic (t := 14) bkR rfl (by decide) hNe (Snd.psh bkR rfl (fun _ => rfl) (m11_b15_ok hb)) (Snd.psh bkR rfl (fun _ => rfl) (Snd.goto (t := 15) bkR rfl (by decide) (m11_b15_ok hb))))))))))
def m11_c : Eng.Code (Option Eng.Res) := m11_b0
theorem m11_ok {TB : Instr → Nat → Int32 → Option Value} {tb : Nat → Nat → Nat → Option Value} (hb : TbH tb TB) : Snd m11 (OkR (gG TB) 0 0 m11) 0 (m11_c) := m11_b0_ok hb
def m13_b0 : Eng.Code (Option Eng.Res) := (cLd none Value.isRef ac0 (cGet none 0 (cLd none isI ac1 (cALd none tI (cRet rI)))))
theorem m13_b0_ok {TB : Instr → Nat → Int32 → Option Value} {tb : Nat → Nat → Nat → Option Value} (hb : TbH tb TB) : Snd m13 (OkR (gG TB) 0 0 m13) 0 (m13_b0) := (Snd.ld bkR rfl (fun _ => rfl) ac0_ok (Snd.get bkR rfl (Snd.ld bkR rfl (fun _ => rfl) ac1_ok (Snd.ald bkR rfl (fun _ => rfl) (fun _ => rfl) (fun _ _ => rfl) (Snd.ret rfl (fun _ => rfl) (fun _ => rfl) (fun _ _ => rfl) rI_ok)))))
def m13_c : Eng.Code (Option Eng.Res) := m13_b0
theorem m13_ok {TB : Instr → Nat → Int32 → Option Value} {tb : Nat → Nat → Nat → Option Value} (hb : TbH tb TB) : Snd m13 (OkR (gG TB) 0 0 m13) 0 (m13_c) := m13_b0_ok hb
def m14_b0 : Eng.Code (Option Eng.Res) := (cLd none Value.isRef ac0 (cGet none 3 (cLd none isI ac1 (cALd none tI (cRet rI)))))
theorem m14_b0_ok {TB : Instr → Nat → Int32 → Option Value} {tb : Nat → Nat → Nat → Option Value} (hb : TbH tb TB) : Snd m14 (OkR (gG TB) 0 0 m14) 0 (m14_b0) := (Snd.ld bkR rfl (fun _ => rfl) ac0_ok (Snd.get bkR rfl (Snd.ld bkR rfl (fun _ => rfl) ac1_ok (Snd.ald bkR rfl (fun _ => rfl) (fun _ => rfl) (fun _ _ => rfl) (Snd.ret rfl (fun _ => rfl) (fun _ => rfl) (fun _ _ => rfl) rI_ok)))))
def m14_c : Eng.Code (Option Eng.Res) := m14_b0
theorem m14_ok {TB : Instr → Nat → Int32 → Option Value} {tb : Nat → Nat → Nat → Option Value} (hb : TbH tb TB) : Snd m14 (OkR (gG TB) 0 0 m14) 0 (m14_c) := m14_b0_ok hb
def m15_b0 : Eng.Code (Option Eng.Res) := (cLd none Value.isRef ac0 (cGet none 4 (cLd none isI ac1 (cALd none tI (cRet rI)))))
theorem m15_b0_ok {TB : Instr → Nat → Int32 → Option Value} {tb : Nat → Nat → Nat → Option Value} (hb : TbH tb TB) : Snd m15 (OkR (gG TB) 0 0 m15) 0 (m15_b0) := (Snd.ld bkR rfl (fun _ => rfl) ac0_ok (Snd.get bkR rfl (Snd.ld bkR rfl (fun _ => rfl) ac1_ok (Snd.ald bkR rfl (fun _ => rfl) (fun _ => rfl) (fun _ _ => rfl) (Snd.ret rfl (fun _ => rfl) (fun _ => rfl) (fun _ _ => rfl) rI_ok)))))
def m15_c : Eng.Code (Option Eng.Res) := m15_b0
theorem m15_ok {TB : Instr → Nat → Int32 → Option Value} {tb : Nat → Nat → Nat → Option Value} (hb : TbH tb TB) : Snd m15 (OkR (gG TB) 0 0 m15) 0 (m15_c) := m15_b0_ok hb
def m12_b46 : Eng.Code (Option Eng.Res) := (cRet (rN .boolean))
theorem m12_b46_ok {TB : Instr → Nat → Int32 → Option Value} {tb : Nat → Nat → Nat → Option Value} (hb : TbH tb TB) : Snd m12 (OkR (gG TB) 1 17 m12) 46 (m12_b46) := (Snd.ret rfl (fun _ => rfl) (fun _ => rfl) (fun _ _ => rfl) rB_ok)
def m12_b45 : Eng.Code (Option Eng.Res) := (cPsh (.int (mkI 0)) (m12_b46))
theorem m12_b45_ok {TB : Instr → Nat → Int32 → Option Value} {tb : Nat → Nat → Nat → Option Value} (hb : TbH tb TB) : Snd m12 (OkR (gG TB) 1 17 m12) 45 (m12_b45) := (Snd.psh bkR rfl (fun _ => rfl) (m12_b46_ok hb))
def m12_b41 : Eng.Code (Option Eng.Res) := (cPsh (.int (mkI 1)) (m12_b46))
theorem m12_b41_ok {TB : Instr → Nat → Int32 → Option Value} {tb : Nat → Nat → Nat → Option Value} (hb : TbH tb TB) : Snd m12 (OkR (gG TB) 1 17 m12) 41 (m12_b41) := (Snd.psh bkR rfl (fun _ => rfl) (Snd.goto (t := 46) bkR rfl (by decide) (m12_b46_ok hb)))
def m12_b15 : Eng.Code (Option Eng.Res) := (cPsh (.int (mkI 0)) (cRet (rN .boolean)))
theorem m12_b15_ok {TB : Instr → Nat → Int32 → Option Value} {tb : Nat → Nat → Nat → Option Value} (hb : TbH tb TB) : Snd m12 (OkR (gG TB) 1 17 m12) 15 (m12_b15) := (Snd.psh bkR rfl (fun _ => rfl) (Snd.ret rfl (fun _ => rfl) (fun _ => rfl) (fun _ _ => rfl) rB_ok))
def m12_b0 : Eng.Code (Option Eng.Res) := (cLd none Value.isRef ac0 (cLd none isI ac1 (cCall none tk2 [] (rvV 0) 4 m13_c (cSt none isI ac2 up2 (cLd none isI ac2 (cIf none ltB (m12_b15) (cLd none isI ac2 (cPsh (.int (mkI 3)) (cIc none leB (cLd none Value.isRef ac0 (cLd none isI ac2 (cCall none tk2 [] (rvV 0) 4 m2_c (cSt none isI ac3 up3 (cLd none Value.isRef ac0 (cLd none isI ac3 (cCall none tk2 [] (rvV 0) 4 m14_c (cLd none isI ac1 (cIc none gtB (m12_b45) (cLd none isI ac1 (cLd none Value.isRef ac0 (cLd none isI ac3 (cCall none tk2 [] (rvV 0) 4 m15_c (cIc none geB (m12_b45) (m12_b41))))))))))))))) (m12_b15))))))))))
theorem m12_b0_ok {TB : Instr → Nat → Int32 → Option Value} {tb : Nat → Nat → Nat → Option Value} (hb : TbH tb TB) : Snd m12 (OkR (gG TB) 1 17 m12) 0 (m12_b0) := (Snd.ld bkR rfl (fun _ => rfl) ac0_ok (Snd.ld bkR rfl (fun _ => rfl) ac1_ok (Snd.call (frM := 0) (loM := 0) bkR rfl noSt_V rfl rfl tk2_ok rfl (by decide) (rvV_ok us_nil) (by decide) (by decide) (m13_ok hb) (Snd.st bkR rfl (fun _ => rfl) @isI_cat ac2_ok up2_ok (Snd.ld bkR rfl (fun _ => rfl) ac2_ok (Snd.ifc (t := 15) bkR rfl (by decide) hLt (m12_b15_ok hb) (Snd.ld bkR rfl (fun _ => rfl) ac2_ok (Snd.psh bkR rfl (fun _ => rfl) (Snd.ic (t := 17) bkR rfl (by decide) hLe (Snd.ld bkR rfl (fun _ => rfl) ac0_ok (Snd.ld bkR rfl (fun _ => rfl) ac2_ok (Snd.call (frM := 0) (loM := 0) bkR rfl noSt_V rfl rfl tk2_ok rfl (by decide) (rvV_ok us_nil) (by decide) (by decide) (m2_ok hb) (Snd.st bkR rfl (fun _ => rfl) @isI_cat ac3_ok up3_ok (Snd.ld bkR rfl (fun _ => rfl) ac0_ok (Snd.ld bkR rfl (fun _ => rfl) ac3_ok (Snd.call (frM := 0) (loM := 0) bkR rfl noSt_V rfl rfl tk2_ok rfl (by decide) (rvV_ok us_nil) (by decide) (by decide) (m14_ok hb) (Snd.ld bkR rfl (fun _ => rfl) ac1_ok (Snd.ic (t := 45) bkR rfl (by decide) hGt (m12_b45_ok hb) (Snd.ld bkR rfl (fun _ => rfl) ac1_ok (Snd.ld bkR rfl (fun _ => rfl) ac0_ok (Snd.ld bkR rfl (fun _ => rfl) ac3_ok (Snd.call (frM := 0) (loM := 0) bkR rfl noSt_V rfl rfl tk2_ok rfl (by decide) (rvV_ok us_nil) (by decide) (by decide) (m15_ok hb) (Snd.ic (t := 45) bkR rfl (by decide) hGe (m12_b45_ok hb) (m12_b41_ok hb))))))))))))))) (m12_b15_ok hb))))))))))
def m12_c : Eng.Code (Option Eng.Res) := m12_b0
theorem m12_ok {TB : Instr → Nat → Int32 → Option Value} {tb : Nat → Nat → Nat → Option Value} (hb : TbH tb TB) : Snd m12 (OkR (gG TB) 1 17 m12) 0 (m12_c) := m12_b0_ok hb
def CH (TB : Instr → Nat → Int32 → Option Value) : Prop := (∀ y, bts y = 2 → TB .iand 2 y = some (.int (Int32.ofNat (2 ^ 1 * 0))) ∨ TB .iand 2 y = some (.int (Int32.ofNat (2 ^ 1 * 1)))) ∧ (∀ y, bts y = 4 → TB .iand 2 y = some (.int (Int32.ofNat (2 ^ 2 * 0))) ∨ TB .iand 2 y = some (.int (Int32.ofNat (2 ^ 2 * 1)))) ∧ (∀ y, bts y = 8 → TB .iand 2 y = some (.int (Int32.ofNat (2 ^ 3 * 0))) ∨ TB .iand 2 y = some (.int (Int32.ofNat (2 ^ 3 * 1)))) ∧ (∀ y, bts y = 16 → TB .iand 2 y = some (.int (Int32.ofNat (2 ^ 4 * 0))) ∨ TB .iand 2 y = some (.int (Int32.ofNat (2 ^ 4 * 1))))
def mLs1_b283 (tb : Nat → Nat → Nat → Option Value) (KS : Eng.Code (Option S5)) : Eng.Code (Option S5) := (cCall none tk3 [] rvS 4 m3_c KS)
theorem mLs1_b283_ok {TB : Instr → Nat → Int32 → Option Value} {tb : Nat → Nat → Nat → Option Value} (hb : TbH tb TB) {KS : Eng.Code (Option S5)} (hKS : Snd mL (OkC (gG TB) 5 144 mL 286) 286 KS) : Snd mL (OkC (gG TB) 5 144 mL 286) 283 (mLs1_b283 tb KS) := (Snd.call (frM := 1) (loM := 21) bkC rfl noSt_S rfl rfl tk3_ok rfl (by decide) rvS_ok (by decide) (by decide) (m3_ok hb) hKS)
def mLs1_b275 (tb : Nat → Nat → Nat → Option Value) (KS : Eng.Code (Option S5)) : Eng.Code (Option S5) := (cIf none eqB (cPsh (.int (mkI 0)) (mLs1_b283 tb KS)) (cPsh (.int (mkI 1)) (mLs1_b283 tb KS)))
theorem mLs1_b275_ok {TB : Instr → Nat → Int32 → Option Value} {tb : Nat → Nat → Nat → Option Value} (hb : TbH tb TB) {KS : Eng.Code (Option S5)} (hKS : Snd mL (OkC (gG TB) 5 144 mL 286) 286 KS) : Snd mL (OkC (gG TB) 5 144 mL 286) 275 (mLs1_b275 tb KS) := (Snd.ifc (t := 282) bkC rfl (by decide) hEq (Snd.psh bkC rfl (fun _ => rfl) (mLs1_b283_ok hb hKS)) (Snd.psh bkC rfl (fun _ => rfl) (Snd.goto (t := 283) bkC rfl (by decide) (mLs1_b283_ok hb hKS))))
def mLs1_c (tb : Nat → Nat → Nat → Option Value) (KS : Eng.Code (Option S5)) : Eng.Code (Option S5) := mLs1_b275 tb KS
theorem mLs1_ok {TB : Instr → Nat → Int32 → Option Value} {tb : Nat → Nat → Nat → Option Value} (hb : TbH tb TB) {KS : Eng.Code (Option S5)} (hKS : Snd mL (OkC (gG TB) 5 144 mL 286) 286 KS) : Snd mL (OkC (gG TB) 5 144 mL 286) 275 (mLs1_c tb KS) := mLs1_b275_ok hb hKS
def mLs2_b307 (tb : Nat → Nat → Nat → Option Value) (KS : Eng.Code (Option S5)) : Eng.Code (Option S5) := (cCall none tk3 [] rvS 4 m3_c KS)
theorem mLs2_b307_ok {TB : Instr → Nat → Int32 → Option Value} {tb : Nat → Nat → Nat → Option Value} (hb : TbH tb TB) {KS : Eng.Code (Option S5)} (hKS : Snd mL (OkC (gG TB) 5 144 mL 310) 310 KS) : Snd mL (OkC (gG TB) 5 144 mL 310) 307 (mLs2_b307 tb KS) := (Snd.call (frM := 1) (loM := 21) bkC rfl noSt_S rfl rfl tk3_ok rfl (by decide) rvS_ok (by decide) (by decide) (m3_ok hb) hKS)
def mLs2_b299 (tb : Nat → Nat → Nat → Option Value) (KS : Eng.Code (Option S5)) : Eng.Code (Option S5) := (cIf none eqB (cPsh (.int (mkI 0)) (mLs2_b307 tb KS)) (cPsh (.int (mkI 1)) (mLs2_b307 tb KS)))
theorem mLs2_b299_ok {TB : Instr → Nat → Int32 → Option Value} {tb : Nat → Nat → Nat → Option Value} (hb : TbH tb TB) {KS : Eng.Code (Option S5)} (hKS : Snd mL (OkC (gG TB) 5 144 mL 310) 310 KS) : Snd mL (OkC (gG TB) 5 144 mL 310) 299 (mLs2_b299 tb KS) := (Snd.ifc (t := 306) bkC rfl (by decide) hEq (Snd.psh bkC rfl (fun _ => rfl) (mLs2_b307_ok hb hKS)) (Snd.psh bkC rfl (fun _ => rfl) (Snd.goto (t := 307) bkC rfl (by decide) (mLs2_b307_ok hb hKS))))
def mLs2_c (tb : Nat → Nat → Nat → Option Value) (KS : Eng.Code (Option S5)) : Eng.Code (Option S5) := mLs2_b299 tb KS
theorem mLs2_ok {TB : Instr → Nat → Int32 → Option Value} {tb : Nat → Nat → Nat → Option Value} (hb : TbH tb TB) {KS : Eng.Code (Option S5)} (hKS : Snd mL (OkC (gG TB) 5 144 mL 310) 310 KS) : Snd mL (OkC (gG TB) 5 144 mL 310) 299 (mLs2_c tb KS) := mLs2_b299_ok hb hKS
def mLs3_b332 (tb : Nat → Nat → Nat → Option Value) (KS : Eng.Code (Option S5)) : Eng.Code (Option S5) := (cCall none tk3 [] rvS 4 m3_c KS)
theorem mLs3_b332_ok {TB : Instr → Nat → Int32 → Option Value} {tb : Nat → Nat → Nat → Option Value} (hb : TbH tb TB) {KS : Eng.Code (Option S5)} (hKS : Snd mL (OkC (gG TB) 5 144 mL 335) 335 KS) : Snd mL (OkC (gG TB) 5 144 mL 335) 332 (mLs3_b332 tb KS) := (Snd.call (frM := 1) (loM := 21) bkC rfl noSt_S rfl rfl tk3_ok rfl (by decide) rvS_ok (by decide) (by decide) (m3_ok hb) hKS)
def mLs3_b324 (tb : Nat → Nat → Nat → Option Value) (KS : Eng.Code (Option S5)) : Eng.Code (Option S5) := (cIf none eqB (cPsh (.int (mkI 0)) (mLs3_b332 tb KS)) (cPsh (.int (mkI 1)) (mLs3_b332 tb KS)))
theorem mLs3_b324_ok {TB : Instr → Nat → Int32 → Option Value} {tb : Nat → Nat → Nat → Option Value} (hb : TbH tb TB) {KS : Eng.Code (Option S5)} (hKS : Snd mL (OkC (gG TB) 5 144 mL 335) 335 KS) : Snd mL (OkC (gG TB) 5 144 mL 335) 324 (mLs3_b324 tb KS) := (Snd.ifc (t := 331) bkC rfl (by decide) hEq (Snd.psh bkC rfl (fun _ => rfl) (mLs3_b332_ok hb hKS)) (Snd.psh bkC rfl (fun _ => rfl) (Snd.goto (t := 332) bkC rfl (by decide) (mLs3_b332_ok hb hKS))))
def mLs3_c (tb : Nat → Nat → Nat → Option Value) (KS : Eng.Code (Option S5)) : Eng.Code (Option S5) := mLs3_b324 tb KS
theorem mLs3_ok {TB : Instr → Nat → Int32 → Option Value} {tb : Nat → Nat → Nat → Option Value} (hb : TbH tb TB) {KS : Eng.Code (Option S5)} (hKS : Snd mL (OkC (gG TB) 5 144 mL 335) 335 KS) : Snd mL (OkC (gG TB) 5 144 mL 335) 324 (mLs3_c tb KS) := mLs3_b324_ok hb hKS
def mLs4_b357 (tb : Nat → Nat → Nat → Option Value) (KS : Eng.Code (Option S5)) : Eng.Code (Option S5) := (cCall none tk3 [] rvS 4 m3_c KS)
theorem mLs4_b357_ok {TB : Instr → Nat → Int32 → Option Value} {tb : Nat → Nat → Nat → Option Value} (hb : TbH tb TB) {KS : Eng.Code (Option S5)} (hKS : Snd mL (OkC (gG TB) 5 144 mL 360) 360 KS) : Snd mL (OkC (gG TB) 5 144 mL 360) 357 (mLs4_b357 tb KS) := (Snd.call (frM := 1) (loM := 21) bkC rfl noSt_S rfl rfl tk3_ok rfl (by decide) rvS_ok (by decide) (by decide) (m3_ok hb) hKS)
def mLs4_b349 (tb : Nat → Nat → Nat → Option Value) (KS : Eng.Code (Option S5)) : Eng.Code (Option S5) := (cIf none eqB (cPsh (.int (mkI 0)) (mLs4_b357 tb KS)) (cPsh (.int (mkI 1)) (mLs4_b357 tb KS)))
theorem mLs4_b349_ok {TB : Instr → Nat → Int32 → Option Value} {tb : Nat → Nat → Nat → Option Value} (hb : TbH tb TB) {KS : Eng.Code (Option S5)} (hKS : Snd mL (OkC (gG TB) 5 144 mL 360) 360 KS) : Snd mL (OkC (gG TB) 5 144 mL 360) 349 (mLs4_b349 tb KS) := (Snd.ifc (t := 356) bkC rfl (by decide) hEq (Snd.psh bkC rfl (fun _ => rfl) (mLs4_b357_ok hb hKS)) (Snd.psh bkC rfl (fun _ => rfl) (Snd.goto (t := 357) bkC rfl (by decide) (mLs4_b357_ok hb hKS))))
def mLs4_c (tb : Nat → Nat → Nat → Option Value) (KS : Eng.Code (Option S5)) : Eng.Code (Option S5) := mLs4_b349 tb KS
theorem mLs4_ok {TB : Instr → Nat → Int32 → Option Value} {tb : Nat → Nat → Nat → Option Value} (hb : TbH tb TB) {KS : Eng.Code (Option S5)} (hKS : Snd mL (OkC (gG TB) 5 144 mL 360) 360 KS) : Snd mL (OkC (gG TB) 5 144 mL 360) 349 (mLs4_c tb KS) := mLs4_b349_ok hb hKS
def mLb_b743 (tb : Nat → Nat → Nat → Option Value) : Eng.Code (Bool) := (cEnd 40 384)
theorem mLb_b743_ok {TB : Instr → Nat → Int32 → Option Value} {tb : Nat → Nat → Nat → Option Value} (hb : TbH tb TB) (hC : CH TB) : Snd mL (OkB (gG TB) 5 144 mL gQ) 743 (mLb_b743 tb) := (Snd.fin rfl rfl)
def mLb_b705 (tb : Nat → Nat → Nat → Option Value) : Eng.Code (Bool) := (cPsh (.int (mkI 1)) (cCall false tk2 [] (rvV 0) 4 m13_c (cB false (fun x y => x <<< (y &&& 31)) (cB false (fun x y => x ||| y) (cPsh (.int (mkI 1)) (cLd false Value.isRef ac5 (cPsh (.int (mkI 2)) (cCall false tk2 [] (rvV 0) 4 m13_c (cB false (fun x y => x <<< (y &&& 31)) (cB false (fun x y => x ||| y) (cPsh (.int (mkI 1)) (cLd false Value.isRef ac5 (cPsh (.int (mkI 3)) (cCall false tk2 [] (rvV 0) 4 m13_c (cB false (fun x y => x <<< (y &&& 31)) (cB false (fun x y => x ||| y) (cSt false isI ac11 up11 (cLd false isI ac11 (cPsh (.int (Int8.ofInt (15)).toInt32) (cIc false neB (cPsh (.int (mkI 0)) (mLb_b743 tb)) (cPsh (.int (mkI 1)) (mLb_b743 tb))))))))))))))))))))))
theorem mLb_b705_ok {TB : Instr → Nat → Int32 → Option Value} {tb : Nat → Nat → Nat → Option Value} (hb : TbH tb TB) (hC : CH TB) : Snd mL (OkB (gG TB) 5 144 mL gQ) 705 (mLb_b705 tb) := (Snd.psh bkB rfl (fun _ => rfl) (Snd.call (frM := 0) (loM := 0) bkB rfl noSt_V rfl rfl tk2_ok rfl (by decide) (rvV_ok us_nil) (by decide) (by decide) (m13_ok hb) (Snd.b bkB rfl (fun _ => rfl) (fun _ _ => rfl) (Snd.b bkB rfl (fun _ => rfl) (fun _ _ => rfl) (Snd.psh bkB rfl (fun _ => rfl) (Snd.ld bkB rfl (fun _ => rfl) ac5_ok (Snd.psh bkB rfl (fun _ => rfl) (Snd.call (frM := 0) (loM := 0) bkB rfl noSt_V rfl rfl tk2_ok rfl (by decide) (rvV_ok us_nil) (by decide) (by decide) (m13_ok hb) (Snd.b bkB rfl (fun _ => rfl) (fun _ _ => rfl) (Snd.b bkB rfl (fun _ => rfl) (fun _ _ => rfl) (Snd.psh bkB rfl (fun _ => rfl) (Snd.ld bkB rfl (fun _ => rfl) ac5_ok (Snd.psh bkB rfl (fun _ => rfl) (Snd.call (frM := 0) (loM := 0) bkB rfl noSt_V rfl rfl tk2_ok rfl (by decide) (rvV_ok us_nil) (by decide) (by decide) (m13_ok hb) (Snd.b bkB rfl (fun _ => rfl) (fun _ _ => rfl) (Snd.b bkB rfl (fun _ => rfl) (fun _ _ => rfl) (Snd.st bkB rfl (fun _ => rfl) @isI_cat ac11_ok up11_ok (Snd.ld bkB rfl (fun _ => rfl) ac11_ok (Snd.psh bkB rfl (fun _ => rfl) (Snd.ic (t := 742) bkB rfl (by decide) hNe (Snd.psh bkB rfl (fun _ => rfl) (mLb_b743_ok hb hC)) (Snd.psh bkB rfl (fun _ => rfl) (Snd.goto (t := 743) bkB rfl (by decide) (mLb_b743_ok hb hC)))))))))))))))))))))))
def mLb_b692 (tb : Nat → Nat → Nat → Option Value) : Eng.Code (Bool) := (cPsh (.int (mkI 0)) (cEnd 40 384))
theorem mLb_b692_ok {TB : Instr → Nat → Int32 → Option Value} {tb : Nat → Nat → Nat → Option Value} (hb : TbH tb TB) (hC : CH TB) : Snd mL (OkB (gG TB) 5 144 mL gQ) 692 (mLb_b692 tb) := (Snd.psh bkB rfl (fun _ => rfl) (Snd.fin rfl rfl))
def mLb_b656 (tb : Nat → Nat → Nat → Option Value) : Eng.Code (Bool) := (cLd false Value.isRef ac5 (cPsh (.int (mkI 0)) (cCall false tk2 [.unset, .unset] rvS 4 m12_c (cIf false eqB (mLb_b692 tb) (cLd false Value.isRef ac5 (cPsh (.int (mkI 1)) (cCall false tk2 [.unset, .unset] rvS 4 m12_c (cIf false eqB (mLb_b692 tb) (cLd false Value.isRef ac5 (cPsh (.int (mkI 2)) (cCall false tk2 [.unset, .unset] rvS 4 m12_c (cIf false eqB (mLb_b692 tb) (cLd false Value.isRef ac5 (cPsh (.int (mkI 3)) (cCall false tk2 [.unset, .unset] rvS 4 m12_c (cIf false neB (cPsh (.int (mkI 1)) (cLd false Value.isRef ac5 (cPsh (.int (mkI 0)) (cCall false tk2 [] (rvV 0) 4 m13_c (cB false (fun x y => x <<< (y &&& 31)) (cPsh (.int (mkI 1)) (cLd false Value.isRef ac5 (mLb_b705 tb)))))))) (mLb_b692 tb)))))))))))))))))
theorem mLb_b656_ok {TB : Instr → Nat → Int32 → Option Value} {tb : Nat → Nat → Nat → Option Value} (hb : TbH tb TB) (hC : CH TB) : Snd mL (OkB (gG TB) 5 144 mL gQ) 656 (mLb_b656 tb) := (Snd.ld bkB rfl (fun _ => rfl) ac5_ok (Snd.psh bkB rfl (fun _ => rfl) (Snd.call (frM := 1) (loM := 17) bkB rfl noSt_S rfl rfl tk2_ok rfl (by decide) rvS_ok (by decide) (by decide) (m12_ok hb) (Snd.ifc (t := 692) bkB rfl (by decide) hEq (mLb_b692_ok hb hC) (Snd.ld bkB rfl (fun _ => rfl) ac5_ok (Snd.psh bkB rfl (fun _ => rfl) (Snd.call (frM := 1) (loM := 17) bkB rfl noSt_S rfl rfl tk2_ok rfl (by decide) rvS_ok (by decide) (by decide) (m12_ok hb) (Snd.ifc (t := 692) bkB rfl (by decide) hEq (mLb_b692_ok hb hC) (Snd.ld bkB rfl (fun _ => rfl) ac5_ok (Snd.psh bkB rfl (fun _ => rfl) (Snd.call (frM := 1) (loM := 17) bkB rfl noSt_S rfl rfl tk2_ok rfl (by decide) rvS_ok (by decide) (by decide) (m12_ok hb) (Snd.ifc (t := 692) bkB rfl (by decide) hEq (mLb_b692_ok hb hC) (Snd.ld bkB rfl (fun _ => rfl) ac5_ok (Snd.psh bkB rfl (fun _ => rfl) (Snd.call (frM := 1) (loM := 17) bkB rfl noSt_S rfl rfl tk2_ok rfl (by decide) rvS_ok (by decide) (by decide) (m12_ok hb) (Snd.ifc (t := 694) bkB rfl (by decide) hNe (Snd.psh bkB rfl (fun _ => rfl) (Snd.ld bkB rfl (fun _ => rfl) ac5_ok (Snd.psh bkB rfl (fun _ => rfl) (Snd.call (frM := 0) (loM := 0) bkB rfl noSt_V rfl rfl tk2_ok rfl (by decide) (rvV_ok us_nil) (by decide) (by decide) (m13_ok hb) (Snd.b bkB rfl (fun _ => rfl) (fun _ _ => rfl) (Snd.psh bkB rfl (fun _ => rfl) (Snd.ld bkB rfl (fun _ => rfl) ac5_ok (mLb_b705_ok hb hC)))))))) (mLb_b692_ok hb hC)))))))))))))))))
def mLb_b654 (tb : Nat → Nat → Nat → Option Value) : Eng.Code (Bool) := (cPsh (.int (mkI 0)) (cEnd 40 384))
theorem mLb_b654_ok {TB : Instr → Nat → Int32 → Option Value} {tb : Nat → Nat → Nat → Option Value} (hb : TbH tb TB) (hC : CH TB) : Snd mL (OkB (gG TB) 5 144 mL gQ) 654 (mLb_b654 tb) := (Snd.psh bkB rfl (fun _ => rfl) (Snd.fin rfl rfl))
def mLb_b603 (tb : Nat → Nat → Nat → Option Value) : Eng.Code (Bool) := (cCall false tk5 [] rvS 4 m11_c (cIf false neB (cLd false Value.isRef ac3 (cLd false Value.isRef ac4 (cLd false Value.isRef ac8 (cPsh (.int (mkI 1)) (cPsh (.int (mkI 2)) (cCall false tk5 [] rvS 4 m11_c (cIf false neB (cLd false Value.isRef ac3 (cLd false Value.isRef ac4 (cLd false Value.isRef ac8 (cPsh (.int (mkI 1)) (cPsh (.int (mkI 3)) (cCall false tk5 [] rvS 4 m11_c (cIf false neB (cLd false Value.isRef ac3 (cLd false Value.isRef ac4 (cLd false Value.isRef ac8 (cPsh (.int (mkI 2)) (cPsh (.int (mkI 3)) (cCall false tk5 [] rvS 4 m11_c (cIf false neB (mLb_b656 tb) (mLb_b654 tb)))))))) (cPsh (.int (mkI 0)) (cEnd 40 384))))))))) (cPsh (.int (mkI 0)) (cEnd 40 384))))))))) (cPsh (.int (mkI 0)) (cEnd 40 384))))
theorem mLb_b603_ok {TB : Instr → Nat → Int32 → Option Value} {tb : Nat → Nat → Nat → Option Value} (hb : TbH tb TB) (hC : CH TB) : Snd mL (OkB (gG TB) 5 144 mL gQ) 603 (mLb_b603 tb) := (Snd.call (frM := 0) (loM := 0) bkB rfl noSt_S rfl rfl tk5_ok rfl (by decide) rvS_ok (by decide) (by decide) (m11_ok hb) (Snd.ifc (t := 611) bkB rfl (by decide) hNe (Snd.ld bkB rfl (fun _ => rfl) ac3_ok (Snd.ld bkB rfl (fun _ => rfl) ac4_ok (Snd.ld bkB rfl (fun _ => rfl) ac8_ok (Snd.psh bkB rfl (fun _ => rfl) (Snd.psh bkB rfl (fun _ => rfl) (Snd.call (frM := 0) (loM := 0) bkB rfl noSt_S rfl rfl tk5_ok rfl (by decide) rvS_ok (by decide) (by decide) (m11_ok hb) (Snd.ifc (t := 626) bkB rfl (by decide) hNe (Snd.ld bkB rfl (fun _ => rfl) ac3_ok (Snd.ld bkB rfl (fun _ => rfl) ac4_ok (Snd.ld bkB rfl (fun _ => rfl) ac8_ok (Snd.psh bkB rfl (fun _ => rfl) (Snd.psh bkB rfl (fun _ => rfl) (Snd.call (frM := 0) (loM := 0) bkB rfl noSt_S rfl rfl tk5_ok rfl (by decide) rvS_ok (by decide) (by decide) (m11_ok hb) (Snd.ifc (t := 641) bkB rfl (by decide) hNe (Snd.ld bkB rfl (fun _ => rfl) ac3_ok (Snd.ld bkB rfl (fun _ => rfl) ac4_ok (Snd.ld bkB rfl (fun _ => rfl) ac8_ok (Snd.psh bkB rfl (fun _ => rfl) (Snd.psh bkB rfl (fun _ => rfl) (Snd.call (frM := 0) (loM := 0) bkB rfl noSt_S rfl rfl tk5_ok rfl (by decide) rvS_ok (by decide) (by decide) (m11_ok hb) (Snd.ifc (t := 656) bkB rfl (by decide) hNe (mLb_b656_ok hb hC) (mLb_b654_ok hb hC)))))))) (Snd.psh bkB rfl (fun _ => rfl) (Snd.fin rfl rfl))))))))) (Snd.psh bkB rfl (fun _ => rfl) (Snd.fin rfl rfl))))))))) (Snd.psh bkB rfl (fun _ => rfl) (Snd.fin rfl rfl))))
def mLb_b554 (tb : Nat → Nat → Nat → Option Value) : Eng.Code (Bool) := (cLd false isI ac6 (cLd false isI ac10 (cCall false tk8 [.unset, .unset] rvS 4 m7_c (cIf false neB (cLd false Value.isRef ac3 (cLd false Value.isRef ac4 (cLd false Value.isRef ac8 (cPsh (.int (mkI 0)) (cPsh (.int (mkI 1)) (cCall false tk5 [] rvS 4 m11_c (cIf false neB (cLd false Value.isRef ac3 (cLd false Value.isRef ac4 (cLd false Value.isRef ac8 (cPsh (.int (mkI 0)) (cPsh (.int (mkI 2)) (cCall false tk5 [] rvS 4 m11_c (cIf false neB (cLd false Value.isRef ac3 (cLd false Value.isRef ac4 (cLd false Value.isRef ac8 (cPsh (.int (mkI 0)) (cPsh (.int (mkI 3)) (mLb_b603 tb)))))) (cPsh (.int (mkI 0)) (cEnd 40 384))))))))) (cPsh (.int (mkI 0)) (cEnd 40 384))))))))) (cPsh (.int (mkI 0)) (cEnd 40 384))))))
theorem mLb_b554_ok {TB : Instr → Nat → Int32 → Option Value} {tb : Nat → Nat → Nat → Option Value} (hb : TbH tb TB) (hC : CH TB) : Snd mL (OkB (gG TB) 5 144 mL gQ) 554 (mLb_b554 tb) := (Snd.ld bkB rfl (fun _ => rfl) ac6_ok (Snd.ld bkB rfl (fun _ => rfl) ac10_ok (Snd.call (frM := 1) (loM := 20) bkB rfl noSt_S rfl rfl tk8_ok rfl (by decide) rvS_ok (by decide) (by decide) (m7_ok hb) (Snd.ifc (t := 566) bkB rfl (by decide) hNe (Snd.ld bkB rfl (fun _ => rfl) ac3_ok (Snd.ld bkB rfl (fun _ => rfl) ac4_ok (Snd.ld bkB rfl (fun _ => rfl) ac8_ok (Snd.psh bkB rfl (fun _ => rfl) (Snd.psh bkB rfl (fun _ => rfl) (Snd.call (frM := 0) (loM := 0) bkB rfl noSt_S rfl rfl tk5_ok rfl (by decide) rvS_ok (by decide) (by decide) (m11_ok hb) (Snd.ifc (t := 581) bkB rfl (by decide) hNe (Snd.ld bkB rfl (fun _ => rfl) ac3_ok (Snd.ld bkB rfl (fun _ => rfl) ac4_ok (Snd.ld bkB rfl (fun _ => rfl) ac8_ok (Snd.psh bkB rfl (fun _ => rfl) (Snd.psh bkB rfl (fun _ => rfl) (Snd.call (frM := 0) (loM := 0) bkB rfl noSt_S rfl rfl tk5_ok rfl (by decide) rvS_ok (by decide) (by decide) (m11_ok hb) (Snd.ifc (t := 596) bkB rfl (by decide) hNe (Snd.ld bkB rfl (fun _ => rfl) ac3_ok (Snd.ld bkB rfl (fun _ => rfl) ac4_ok (Snd.ld bkB rfl (fun _ => rfl) ac8_ok (Snd.psh bkB rfl (fun _ => rfl) (Snd.psh bkB rfl (fun _ => rfl) (mLb_b603_ok hb hC)))))) (Snd.psh bkB rfl (fun _ => rfl) (Snd.fin rfl rfl))))))))) (Snd.psh bkB rfl (fun _ => rfl) (Snd.fin rfl rfl))))))))) (Snd.psh bkB rfl (fun _ => rfl) (Snd.fin rfl rfl))))))
def mLb_b505 (tb : Nat → Nat → Nat → Option Value) : Eng.Code (Bool) := (cLd false Value.isRef ac7 (cLd false Value.isRef ac8 (cPsh (.int (mkI 1)) (cLd false isI ac6 (cLd false isI ac10 (cCall false tk8 [.unset, .unset] rvS 4 m7_c (cIf false neB (cLd false Value.isRef ac5 (cLd false Value.isRef ac3 (cLd false Value.isRef ac4 (cLd false Value.isRef ac7 (cLd false Value.isRef ac8 (cPsh (.int (mkI 2)) (cLd false isI ac6 (cLd false isI ac10 (cCall false tk8 [.unset, .unset] rvS 4 m7_c (cIf false neB (cLd false Value.isRef ac5 (cLd false Value.isRef ac3 (cLd false Value.isRef ac4 (cLd false Value.isRef ac7 (cLd false Value.isRef ac8 (cPsh (.int (mkI 3)) (mLb_b554 tb))))))) (cPsh (.int (mkI 0)) (cEnd 40 384)))))))))))) (cPsh (.int (mkI 0)) (cEnd 40 384)))))))))
theorem mLb_b505_ok {TB : Instr → Nat → Int32 → Option Value} {tb : Nat → Nat → Nat → Option Value} (hb : TbH tb TB) (hC : CH TB) : Snd mL (OkB (gG TB) 5 144 mL gQ) 505 (mLb_b505 tb) := (Snd.ld bkB rfl (fun _ => rfl) ac7_ok (Snd.ld bkB rfl (fun _ => rfl) ac8_ok (Snd.psh bkB rfl (fun _ => rfl) (Snd.ld bkB rfl (fun _ => rfl) ac6_ok (Snd.ld bkB rfl (fun _ => rfl) ac10_ok (Snd.call (frM := 1) (loM := 20) bkB rfl noSt_S rfl rfl tk8_ok rfl (by decide) rvS_ok (by decide) (by decide) (m7_ok hb) (Snd.ifc (t := 522) bkB rfl (by decide) hNe (Snd.ld bkB rfl (fun _ => rfl) ac5_ok (Snd.ld bkB rfl (fun _ => rfl) ac3_ok (Snd.ld bkB rfl (fun _ => rfl) ac4_ok (Snd.ld bkB rfl (fun _ => rfl) ac7_ok (Snd.ld bkB rfl (fun _ => rfl) ac8_ok (Snd.psh bkB rfl (fun _ => rfl) (Snd.ld bkB rfl (fun _ => rfl) ac6_ok (Snd.ld bkB rfl (fun _ => rfl) ac10_ok (Snd.call (frM := 1) (loM := 20) bkB rfl noSt_S rfl rfl tk8_ok rfl (by decide) rvS_ok (by decide) (by decide) (m7_ok hb) (Snd.ifc (t := 544) bkB rfl (by decide) hNe (Snd.ld bkB rfl (fun _ => rfl) ac5_ok (Snd.ld bkB rfl (fun _ => rfl) ac3_ok (Snd.ld bkB rfl (fun _ => rfl) ac4_ok (Snd.ld bkB rfl (fun _ => rfl) ac7_ok (Snd.ld bkB rfl (fun _ => rfl) ac8_ok (Snd.psh bkB rfl (fun _ => rfl) (mLb_b554_ok hb hC))))))) (Snd.psh bkB rfl (fun _ => rfl) (Snd.fin rfl rfl)))))))))))) (Snd.psh bkB rfl (fun _ => rfl) (Snd.fin rfl rfl)))))))))
def mLb_b456 (tb : Nat → Nat → Nat → Option Value) : Eng.Code (Bool) := (cB false (addF) (cSt false isI ac9 up9 (cLd false Value.isRef ac5 (cCall false tk1 [] (rvV 0) 4 m1_c (cSt false isI ac10 up10 (cLd false isI ac10 (cLd false isI ac6 (cLd false isI ac9 (cB false (addF) (cIc false eqB (cLd false Value.isRef ac5 (cLd false Value.isRef ac3 (cLd false Value.isRef ac4 (cLd false Value.isRef ac7 (cLd false Value.isRef ac8 (cPsh (.int (mkI 0)) (cLd false isI ac6 (cLd false isI ac10 (cCall false tk8 [.unset, .unset] rvS 4 m7_c (cIf false neB (cLd false Value.isRef ac5 (cLd false Value.isRef ac3 (cLd false Value.isRef ac4 (mLb_b505 tb)))) (cPsh (.int (mkI 0)) (cEnd 40 384)))))))))))) (cPsh (.int (mkI 0)) (cEnd 40 384))))))))))))
theorem mLb_b456_ok {TB : Instr → Nat → Int32 → Option Value} {tb : Nat → Nat → Nat → Option Value} (hb : TbH tb TB) (hC : CH TB) : Snd mL (OkB (gG TB) 5 144 mL gQ) 456 (mLb_b456 tb) := (Snd.b bkB rfl (fun _ => rfl) addF_ok (Snd.st bkB rfl (fun _ => rfl) @isI_cat ac9_ok up9_ok (Snd.ld bkB rfl (fun _ => rfl) ac5_ok (Snd.call (frM := 0) (loM := 0) bkB rfl noSt_V rfl rfl tk1_ok rfl (by decide) (rvV_ok us_nil) (by decide) (by decide) (m1_ok hb) (Snd.st bkB rfl (fun _ => rfl) @isI_cat ac10_ok up10_ok (Snd.ld bkB rfl (fun _ => rfl) ac10_ok (Snd.ld bkB rfl (fun _ => rfl) ac6_ok (Snd.ld bkB rfl (fun _ => rfl) ac9_ok (Snd.b bkB rfl (fun _ => rfl) addF_ok (Snd.ic (t := 478) bkB rfl (by decide) hEq (Snd.ld bkB rfl (fun _ => rfl) ac5_ok (Snd.ld bkB rfl (fun _ => rfl) ac3_ok (Snd.ld bkB rfl (fun _ => rfl) ac4_ok (Snd.ld bkB rfl (fun _ => rfl) ac7_ok (Snd.ld bkB rfl (fun _ => rfl) ac8_ok (Snd.psh bkB rfl (fun _ => rfl) (Snd.ld bkB rfl (fun _ => rfl) ac6_ok (Snd.ld bkB rfl (fun _ => rfl) ac10_ok (Snd.call (frM := 1) (loM := 20) bkB rfl noSt_S rfl rfl tk8_ok rfl (by decide) rvS_ok (by decide) (by decide) (m7_ok hb) (Snd.ifc (t := 500) bkB rfl (by decide) hNe (Snd.ld bkB rfl (fun _ => rfl) ac5_ok (Snd.ld bkB rfl (fun _ => rfl) ac3_ok (Snd.ld bkB rfl (fun _ => rfl) ac4_ok (mLb_b505_ok hb hC)))) (Snd.psh bkB rfl (fun _ => rfl) (Snd.fin rfl rfl)))))))))))) (Snd.psh bkB rfl (fun _ => rfl) (Snd.fin rfl rfl))))))))))))
def mLb_b440 (tb : Nat → Nat → Nat → Option Value) : Eng.Code (Bool) := (cB false (addF) (cLd false Value.isRef ac3 (cLd false Value.isRef ac4 (cPsh (.int (mkI 2)) (cCall false tk3 [.unset, .unset] rvS 4 m6_c (cIf false eqB (cPsh (.int (mkI 0)) (mLb_b456 tb)) (cPsh (.int (mkI 1)) (mLb_b456 tb))))))))
theorem mLb_b440_ok {TB : Instr → Nat → Int32 → Option Value} {tb : Nat → Nat → Nat → Option Value} (hb : TbH tb TB) (hC : CH TB) : Snd mL (OkB (gG TB) 5 144 mL gQ) 440 (mLb_b440 tb) := (Snd.b bkB rfl (fun _ => rfl) addF_ok (Snd.ld bkB rfl (fun _ => rfl) ac3_ok (Snd.ld bkB rfl (fun _ => rfl) ac4_ok (Snd.psh bkB rfl (fun _ => rfl) (Snd.call (frM := 0) (loM := 0) bkB rfl noSt_S rfl rfl tk3_ok rfl (by decide) rvS_ok (by decide) (by decide) (m6_ok hb) (Snd.ifc (t := 455) bkB rfl (by decide) hEq (Snd.psh bkB rfl (fun _ => rfl) (mLb_b456_ok hb hC)) (Snd.psh bkB rfl (fun _ => rfl) (Snd.goto (t := 456) bkB rfl (by decide) (mLb_b456_ok hb hC)))))))))
def mLb_b425 (tb : Nat → Nat → Nat → Option Value) : Eng.Code (Bool) := (cLd false Value.isRef ac3 (cLd false Value.isRef ac4 (cPsh (.int (mkI 1)) (cCall false tk3 [.unset, .unset] rvS 4 m6_c (cIf false eqB (cPsh (.int (mkI 0)) (mLb_b440 tb)) (cPsh (.int (mkI 1)) (mLb_b440 tb)))))))
theorem mLb_b425_ok {TB : Instr → Nat → Int32 → Option Value} {tb : Nat → Nat → Nat → Option Value} (hb : TbH tb TB) (hC : CH TB) : Snd mL (OkB (gG TB) 5 144 mL gQ) 425 (mLb_b425 tb) := (Snd.ld bkB rfl (fun _ => rfl) ac3_ok (Snd.ld bkB rfl (fun _ => rfl) ac4_ok (Snd.psh bkB rfl (fun _ => rfl) (Snd.call (frM := 0) (loM := 0) bkB rfl noSt_S rfl rfl tk3_ok rfl (by decide) rvS_ok (by decide) (by decide) (m6_ok hb) (Snd.ifc (t := 439) bkB rfl (by decide) hEq (Snd.psh bkB rfl (fun _ => rfl) (mLb_b440_ok hb hC)) (Snd.psh bkB rfl (fun _ => rfl) (Snd.goto (t := 440) bkB rfl (by decide) (mLb_b440_ok hb hC))))))))
def mLb_b400 (tb : Nat → Nat → Nat → Option Value) : Eng.Code (Bool) := (cLd false Value.isRef ac8 (cPsh (.int (mkI 3)) (cLd false Value.isRef ac5 (cPsh (.int (mkI 3)) (cCall false tk2 [] (rvV 0) 4 m2_c (cASt false 0 tI (cLd false Value.isRef ac3 (cLd false Value.isRef ac4 (cPsh (.int (mkI 0)) (cCall false tk3 [.unset, .unset] rvS 4 m6_c (cIf false eqB (cPsh (.int (mkI 0)) (mLb_b425 tb)) (cPsh (.int (mkI 1)) (mLb_b425 tb)))))))))))))
theorem mLb_b400_ok {TB : Instr → Nat → Int32 → Option Value} {tb : Nat → Nat → Nat → Option Value} (hb : TbH tb TB) (hC : CH TB) : Snd mL (OkB (gG TB) 5 144 mL gQ) 400 (mLb_b400 tb) := (Snd.ld bkB rfl (fun _ => rfl) ac8_ok (Snd.psh bkB rfl (fun _ => rfl) (Snd.ld bkB rfl (fun _ => rfl) ac5_ok (Snd.psh bkB rfl (fun _ => rfl) (Snd.call (frM := 0) (loM := 0) bkB rfl noSt_V rfl rfl tk2_ok rfl (by decide) (rvV_ok us_nil) (by decide) (by decide) (m2_ok hb) (Snd.ast bkB rfl (fun _ => rfl) (fun _ => rfl) (fun _ _ => rfl) (Snd.ld bkB rfl (fun _ => rfl) ac3_ok (Snd.ld bkB rfl (fun _ => rfl) ac4_ok (Snd.psh bkB rfl (fun _ => rfl) (Snd.call (frM := 0) (loM := 0) bkB rfl noSt_S rfl rfl tk3_ok rfl (by decide) rvS_ok (by decide) (by decide) (m6_ok hb) (Snd.ifc (t := 424) bkB rfl (by decide) hEq (Snd.psh bkB rfl (fun _ => rfl) (mLb_b425_ok hb hC)) (Snd.psh bkB rfl (fun _ => rfl) (Snd.goto (t := 425) bkB rfl (by decide) (mLb_b425_ok hb hC))))))))))))))
def mLb_b360 (tb : Nat → Nat → Nat → Option Value) : Eng.Code (Bool) := (cLd false Value.isRef ac5 (cCall false tk1 [.unset, .unset, .unset, .unset, .unset] (rvV 0) 4 m5_c (cPsh (.int (mkI 4)) (cArr false .int (cSt false Value.isRef ac8 up8 (cLd false Value.isRef ac8 (cPsh (.int (mkI 0)) (cLd false Value.isRef ac5 (cPsh (.int (mkI 0)) (cCall false tk2 [] (rvV 0) 4 m2_c (cASt false 0 tI (cLd false Value.isRef ac8 (cPsh (.int (mkI 1)) (cLd false Value.isRef ac5 (cPsh (.int (mkI 1)) (cCall false tk2 [] (rvV 0) 4 m2_c (cASt false 0 tI (cLd false Value.isRef ac8 (cPsh (.int (mkI 2)) (cLd false Value.isRef ac5 (cPsh (.int (mkI 2)) (cCall false tk2 [] (rvV 0) 4 m2_c (cASt false 0 tI (mLb_b400 tb))))))))))))))))))))))))
theorem mLb_b360_ok {TB : Instr → Nat → Int32 → Option Value} {tb : Nat → Nat → Nat → Option Value} (hb : TbH tb TB) (hC : CH TB) : Snd mL (OkB (gG TB) 5 144 mL gQ) 360 (mLb_b360 tb) := (Snd.ld bkB rfl (fun _ => rfl) ac5_ok (Snd.call (frM := 0) (loM := 0) bkB rfl noSt_V rfl rfl tk1_ok rfl (by decide) (rvV_ok us_cons) (by decide) (by decide) (m5_ok hb) (Snd.psh bkB rfl (fun _ => rfl) (Snd.arr bkB rfl rfl (Snd.st bkB rfl (fun _ => rfl) @isRef_cat ac8_ok up8_ok (Snd.ld bkB rfl (fun _ => rfl) ac8_ok (Snd.psh bkB rfl (fun _ => rfl) (Snd.ld bkB rfl (fun _ => rfl) ac5_ok (Snd.psh bkB rfl (fun _ => rfl) (Snd.call (frM := 0) (loM := 0) bkB rfl noSt_V rfl rfl tk2_ok rfl (by decide) (rvV_ok us_nil) (by decide) (by decide) (m2_ok hb) (Snd.ast bkB rfl (fun _ => rfl) (fun _ => rfl) (fun _ _ => rfl) (Snd.ld bkB rfl (fun _ => rfl) ac8_ok (Snd.psh bkB rfl (fun _ => rfl) (Snd.ld bkB rfl (fun _ => rfl) ac5_ok (Snd.psh bkB rfl (fun _ => rfl) (Snd.call (frM := 0) (loM := 0) bkB rfl noSt_V rfl rfl tk2_ok rfl (by decide) (rvV_ok us_nil) (by decide) (by decide) (m2_ok hb) (Snd.ast bkB rfl (fun _ => rfl) (fun _ => rfl) (fun _ _ => rfl) (Snd.ld bkB rfl (fun _ => rfl) ac8_ok (Snd.psh bkB rfl (fun _ => rfl) (Snd.ld bkB rfl (fun _ => rfl) ac5_ok (Snd.psh bkB rfl (fun _ => rfl) (Snd.call (frM := 0) (loM := 0) bkB rfl noSt_V rfl rfl tk2_ok rfl (by decide) (rvV_ok us_nil) (by decide) (by decide) (m2_ok hb) (Snd.ast bkB rfl (fun _ => rfl) (fun _ => rfl) (fun _ _ => rfl) (mLb_b400_ok hb hC))))))))))))))))))))))))
def mLb_b335 (tb : Nat → Nat → Nat → Option Value) : Eng.Code (Bool) := (cLd false Value.isRef ac5 (cPsh (.int (mkI 3)) (cLd false Value.isRef ac4 (cPsh (.int (mkI 3)) (cALd false tB (cIf false eqB (cPsh (.int (mkI 0)) (cCall false tk3 [] rvS 4 m3_c (mLb_b360 tb))) (cLd false isI ac2 (cPsh (.int (Int8.ofInt (16)).toInt32) (cAny 2 16 (.int (Int32.ofNat (2 ^ 4 * 0))) (.int (Int32.ofNat (2 ^ 4 * 1))) (mLs4_c tb cStop) (mLb_b360 tb))))))))))
theorem mLb_b335_ok {TB : Instr → Nat → Int32 → Option Value} {tb : Nat → Nat → Nat → Option Value} (hb : TbH tb TB) (hC : CH TB) : Snd mL (OkB (gG TB) 5 144 mL gQ) 335 (mLb_b335 tb) := (Snd.ld bkB rfl (fun _ => rfl) ac5_ok (Snd.psh bkB rfl (fun _ => rfl) (Snd.ld bkB rfl (fun _ => rfl) ac4_ok (Snd.psh bkB rfl (fun _ => rfl) (Snd.ald bkB rfl (fun _ => rfl) (fun _ => rfl) (fun _ _ => rfl) (Snd.ifc (t := 356) bkB rfl (by decide) hEq (Snd.psh bkB rfl (fun _ => rfl) (Snd.call (frM := 1) (loM := 21) bkB rfl noSt_S rfl rfl tk3_ok rfl (by decide) rvS_ok (by decide) (by decide) (m3_ok hb) (mLb_b360_ok hb hC))) (Snd.ld bkB rfl (fun _ => rfl) ac2_ok (Snd.psh bkB rfl (fun _ => rfl) (Snd.any rfl hC.2.2.2 (mLs4_ok hb stop_ok) (mLb_b360_ok hb hC))))))))))
def mLb_b310 (tb : Nat → Nat → Nat → Option Value) : Eng.Code (Bool) := (cLd false Value.isRef ac5 (cPsh (.int (mkI 2)) (cLd false Value.isRef ac4 (cPsh (.int (mkI 2)) (cALd false tB (cIf false eqB (cPsh (.int (mkI 0)) (cCall false tk3 [] rvS 4 m3_c (mLb_b335 tb))) (cLd false isI ac2 (cPsh (.int (Int8.ofInt (8)).toInt32) (cAny 2 8 (.int (Int32.ofNat (2 ^ 3 * 0))) (.int (Int32.ofNat (2 ^ 3 * 1))) (mLs3_c tb cStop) (mLb_b335 tb))))))))))
theorem mLb_b310_ok {TB : Instr → Nat → Int32 → Option Value} {tb : Nat → Nat → Nat → Option Value} (hb : TbH tb TB) (hC : CH TB) : Snd mL (OkB (gG TB) 5 144 mL gQ) 310 (mLb_b310 tb) := (Snd.ld bkB rfl (fun _ => rfl) ac5_ok (Snd.psh bkB rfl (fun _ => rfl) (Snd.ld bkB rfl (fun _ => rfl) ac4_ok (Snd.psh bkB rfl (fun _ => rfl) (Snd.ald bkB rfl (fun _ => rfl) (fun _ => rfl) (fun _ _ => rfl) (Snd.ifc (t := 331) bkB rfl (by decide) hEq (Snd.psh bkB rfl (fun _ => rfl) (Snd.call (frM := 1) (loM := 21) bkB rfl noSt_S rfl rfl tk3_ok rfl (by decide) rvS_ok (by decide) (by decide) (m3_ok hb) (mLb_b335_ok hb hC))) (Snd.ld bkB rfl (fun _ => rfl) ac2_ok (Snd.psh bkB rfl (fun _ => rfl) (Snd.any rfl hC.2.2.1 (mLs3_ok hb stop_ok) (mLb_b335_ok hb hC))))))))))
def mLb_b286 (tb : Nat → Nat → Nat → Option Value) : Eng.Code (Bool) := (cLd false Value.isRef ac5 (cPsh (.int (mkI 1)) (cLd false Value.isRef ac4 (cPsh (.int (mkI 1)) (cALd false tB (cIf false eqB (cPsh (.int (mkI 0)) (cCall false tk3 [] rvS 4 m3_c (mLb_b310 tb))) (cLd false isI ac2 (cPsh (.int (mkI 4)) (cAny 2 4 (.int (Int32.ofNat (2 ^ 2 * 0))) (.int (Int32.ofNat (2 ^ 2 * 1))) (mLs2_c tb cStop) (mLb_b310 tb))))))))))
theorem mLb_b286_ok {TB : Instr → Nat → Int32 → Option Value} {tb : Nat → Nat → Nat → Option Value} (hb : TbH tb TB) (hC : CH TB) : Snd mL (OkB (gG TB) 5 144 mL gQ) 286 (mLb_b286 tb) := (Snd.ld bkB rfl (fun _ => rfl) ac5_ok (Snd.psh bkB rfl (fun _ => rfl) (Snd.ld bkB rfl (fun _ => rfl) ac4_ok (Snd.psh bkB rfl (fun _ => rfl) (Snd.ald bkB rfl (fun _ => rfl) (fun _ => rfl) (fun _ _ => rfl) (Snd.ifc (t := 306) bkB rfl (by decide) hEq (Snd.psh bkB rfl (fun _ => rfl) (Snd.call (frM := 1) (loM := 21) bkB rfl noSt_S rfl rfl tk3_ok rfl (by decide) rvS_ok (by decide) (by decide) (m3_ok hb) (mLb_b310_ok hb hC))) (Snd.ld bkB rfl (fun _ => rfl) ac2_ok (Snd.psh bkB rfl (fun _ => rfl) (Snd.any rfl hC.2.1 (mLs2_ok hb stop_ok) (mLb_b310_ok hb hC))))))))))
def mLb_b262 (tb : Nat → Nat → Nat → Option Value) : Eng.Code (Bool) := (cLd false Value.isRef ac5 (cPsh (.int (mkI 0)) (cLd false Value.isRef ac4 (cPsh (.int (mkI 0)) (cALd false tB (cIf false eqB (cPsh (.int (mkI 0)) (cCall false tk3 [] rvS 4 m3_c (mLb_b286 tb))) (cLd false isI ac2 (cPsh (.int (mkI 2)) (cAny 2 2 (.int (Int32.ofNat (2 ^ 1 * 0))) (.int (Int32.ofNat (2 ^ 1 * 1))) (mLs1_c tb cStop) (mLb_b286 tb))))))))))
theorem mLb_b262_ok {TB : Instr → Nat → Int32 → Option Value} {tb : Nat → Nat → Nat → Option Value} (hb : TbH tb TB) (hC : CH TB) : Snd mL (OkB (gG TB) 5 144 mL gQ) 262 (mLb_b262 tb) := (Snd.ld bkB rfl (fun _ => rfl) ac5_ok (Snd.psh bkB rfl (fun _ => rfl) (Snd.ld bkB rfl (fun _ => rfl) ac4_ok (Snd.psh bkB rfl (fun _ => rfl) (Snd.ald bkB rfl (fun _ => rfl) (fun _ => rfl) (fun _ _ => rfl) (Snd.ifc (t := 282) bkB rfl (by decide) hEq (Snd.psh bkB rfl (fun _ => rfl) (Snd.call (frM := 1) (loM := 21) bkB rfl noSt_S rfl rfl tk3_ok rfl (by decide) rvS_ok (by decide) (by decide) (m3_ok hb) (mLb_b286_ok hb hC))) (Snd.ld bkB rfl (fun _ => rfl) ac2_ok (Snd.psh bkB rfl (fun _ => rfl) (Snd.any rfl hC.1 (mLs1_ok hb stop_ok) (mLb_b286_ok hb hC))))))))))
def mLb_b254 (tb : Nat → Nat → Nat → Option Value) : Eng.Code (Bool) := (cPsh (.int (mkI 3)) (cLd false Value.isRef ac4 (cPsh (.int (mkI 3)) (cALd false tB (cCall false tk3 [] rvS 4 m3_c (mLb_b262 tb))))))
theorem mLb_b254_ok {TB : Instr → Nat → Int32 → Option Value} {tb : Nat → Nat → Nat → Option Value} (hb : TbH tb TB) (hC : CH TB) : Snd mL (OkB (gG TB) 5 144 mL gQ) 254 (mLb_b254 tb) := (Snd.psh bkB rfl (fun _ => rfl) (Snd.ld bkB rfl (fun _ => rfl) ac4_ok (Snd.psh bkB rfl (fun _ => rfl) (Snd.ald bkB rfl (fun _ => rfl) (fun _ => rfl) (fun _ _ => rfl) (Snd.call (frM := 1) (loM := 21) bkB rfl noSt_S rfl rfl tk3_ok rfl (by decide) rvS_ok (by decide) (by decide) (m3_ok hb) (mLb_b262_ok hb hC))))))
def mLb_b211 (tb : Nat → Nat → Nat → Option Value) : Eng.Code (Bool) := (cPsh (.int (mkI 0)) (cLd false Value.isRef ac4 (cPsh (.int (mkI 0)) (cALd false tB (cCall false tk3 [] rvS 4 m3_c (mLb_b262 tb))))))
theorem mLb_b211_ok {TB : Instr → Nat → Int32 → Option Value} {tb : Nat → Nat → Nat → Option Value} (hb : TbH tb TB) (hC : CH TB) : Snd mL (OkB (gG TB) 5 144 mL gQ) 211 (mLb_b211 tb) := (Snd.psh bkB rfl (fun _ => rfl) (Snd.ld bkB rfl (fun _ => rfl) ac4_ok (Snd.psh bkB rfl (fun _ => rfl) (Snd.ald bkB rfl (fun _ => rfl) (fun _ => rfl) (fun _ _ => rfl) (Snd.call (frM := 1) (loM := 21) bkB rfl noSt_S rfl rfl tk3_ok rfl (by decide) rvS_ok (by decide) (by decide) (m3_ok hb) (Snd.goto (t := 262) bkB rfl (by decide) (mLb_b262_ok hb hC)))))))
def mLb_b173 (tb : Nat → Nat → Nat → Option Value) : Eng.Code (Bool) := (cLd false isI ac2 (cPsh (.int (mkI 1)) (cBT false (fun x y => x &&& y) (tb 0) (cIf false eqB (cLd false Value.isRef ac5 (cPsh (.int (mkI 0)) (cLd false Value.isRef ac4 (cPsh (.int (mkI 0)) (cALd false tB (cCall false tk3 [] rvS 4 m3_c (cLd false Value.isRef ac5 (cPsh (.int (mkI 1)) (cLd false Value.isRef ac4 (cPsh (.int (mkI 1)) (cALd false tB (cCall false tk3 [] rvS 4 m3_c (cLd false Value.isRef ac5 (cPsh (.int (mkI 2)) (cLd false Value.isRef ac4 (cPsh (.int (mkI 2)) (cALd false tB (cCall false tk3 [] rvS 4 m3_c (cLd false Value.isRef ac5 (mLb_b254 tb)))))))))))))))))))) (cLd false Value.isRef ac5 (cPsh (.int (mkI 3)) (cLd false Value.isRef ac4 (cPsh (.int (mkI 3)) (cALd false tB (cCall false tk3 [] rvS 4 m3_c (cLd false Value.isRef ac5 (cPsh (.int (mkI 2)) (cLd false Value.isRef ac4 (cPsh (.int (mkI 2)) (cALd false tB (cCall false tk3 [] rvS 4 m3_c (cLd false Value.isRef ac5 (cPsh (.int (mkI 1)) (cLd false Value.isRef ac4 (cPsh (.int (mkI 1)) (cALd false tB (cCall false tk3 [] rvS 4 m3_c (cLd false Value.isRef ac5 (mLb_b211 tb))))))))))))))))))))))))
theorem mLb_b173_ok {TB : Instr → Nat → Int32 → Option Value} {tb : Nat → Nat → Nat → Option Value} (hb : TbH tb TB) (hC : CH TB) : Snd mL (OkB (gG TB) 5 144 mL gQ) 173 (mLb_b173 tb) := (Snd.ld bkB rfl (fun _ => rfl) ac2_ok (Snd.psh bkB rfl (fun _ => rfl) (Snd.bT bkB rfl (fun _ => rfl) (fun _ => rfl) hb.1 (Snd.ifc (t := 222) bkB rfl (by decide) hEq (Snd.ld bkB rfl (fun _ => rfl) ac5_ok (Snd.psh bkB rfl (fun _ => rfl) (Snd.ld bkB rfl (fun _ => rfl) ac4_ok (Snd.psh bkB rfl (fun _ => rfl) (Snd.ald bkB rfl (fun _ => rfl) (fun _ => rfl) (fun _ _ => rfl) (Snd.call (frM := 1) (loM := 21) bkB rfl noSt_S rfl rfl tk3_ok rfl (by decide) rvS_ok (by decide) (by decide) (m3_ok hb) (Snd.ld bkB rfl (fun _ => rfl) ac5_ok (Snd.psh bkB rfl (fun _ => rfl) (Snd.ld bkB rfl (fun _ => rfl) ac4_ok (Snd.psh bkB rfl (fun _ => rfl) (Snd.ald bkB rfl (fun _ => rfl) (fun _ => rfl) (fun _ _ => rfl) (Snd.call (frM := 1) (loM := 21) bkB rfl noSt_S rfl rfl tk3_ok rfl (by decide) rvS_ok (by decide) (by decide) (m3_ok hb) (Snd.ld bkB rfl (fun _ => rfl) ac5_ok (Snd.psh bkB rfl (fun _ => rfl) (Snd.ld bkB rfl (fun _ => rfl) ac4_ok (Snd.psh bkB rfl (fun _ => rfl) (Snd.ald bkB rfl (fun _ => rfl) (fun _ => rfl) (fun _ _ => rfl) (Snd.call (frM := 1) (loM := 21) bkB rfl noSt_S rfl rfl tk3_ok rfl (by decide) rvS_ok (by decide) (by decide) (m3_ok hb) (Snd.ld bkB rfl (fun _ => rfl) ac5_ok (mLb_b254_ok hb hC)))))))))))))))))))) (Snd.ld bkB rfl (fun _ => rfl) ac5_ok (Snd.psh bkB rfl (fun _ => rfl) (Snd.ld bkB rfl (fun _ => rfl) ac4_ok (Snd.psh bkB rfl (fun _ => rfl) (Snd.ald bkB rfl (fun _ => rfl) (fun _ => rfl) (fun _ _ => rfl) (Snd.call (frM := 1) (loM := 21) bkB rfl noSt_S rfl rfl tk3_ok rfl (by decide) rvS_ok (by decide) (by decide) (m3_ok hb) (Snd.ld bkB rfl (fun _ => rfl) ac5_ok (Snd.psh bkB rfl (fun _ => rfl) (Snd.ld bkB rfl (fun _ => rfl) ac4_ok (Snd.psh bkB rfl (fun _ => rfl) (Snd.ald bkB rfl (fun _ => rfl) (fun _ => rfl) (fun _ _ => rfl) (Snd.call (frM := 1) (loM := 21) bkB rfl noSt_S rfl rfl tk3_ok rfl (by decide) rvS_ok (by decide) (by decide) (m3_ok hb) (Snd.ld bkB rfl (fun _ => rfl) ac5_ok (Snd.psh bkB rfl (fun _ => rfl) (Snd.ld bkB rfl (fun _ => rfl) ac4_ok (Snd.psh bkB rfl (fun _ => rfl) (Snd.ald bkB rfl (fun _ => rfl) (fun _ => rfl) (fun _ _ => rfl) (Snd.call (frM := 1) (loM := 21) bkB rfl noSt_S rfl rfl tk3_ok rfl (by decide) rvS_ok (by decide) (by decide) (m3_ok hb) (Snd.ld bkB rfl (fun _ => rfl) ac5_ok (mLb_b211_ok hb hC))))))))))))))))))))))))
def mLb_c (tb : Nat → Nat → Nat → Option Value) : Eng.Code (Bool) := mLb_b173 tb
theorem mLb_ok {TB : Instr → Nat → Int32 → Option Value} {tb : Nat → Nat → Nat → Option Value} (hb : TbH tb TB) (hC : CH TB) : Snd mL (OkB (gG TB) 5 144 mL gQ) 173 (mLb_c tb) := mLb_b173_ok hb hC
def mLa_b148 (tb : Nat → Nat → Nat → Option Value) (K0 : Eng.Code (Bool)) : Eng.Code (Bool) := (cPsh (.int (mkI 1)) (cCall false tk2 [] (rvV 0) 4 m2_c (cASt false 0 tI (cLd false Value.isRef ac7 (cPsh (.int (mkI 2)) (cLd false Value.isRef ac5 (cPsh (.int (mkI 2)) (cCall false tk2 [] (rvV 0) 4 m2_c (cASt false 0 tI (cLd false Value.isRef ac7 (cPsh (.int (mkI 3)) (cLd false Value.isRef ac5 (cPsh (.int (mkI 3)) (cCall false tk2 [] (rvV 0) 4 m2_c (cASt false 0 tI K0)))))))))))))))
theorem mLa_b148_ok {TB : Instr → Nat → Int32 → Option Value} {tb : Nat → Nat → Nat → Option Value} (hb : TbH tb TB) {K0 : Eng.Code (Bool)} (hK0 : Snd mL (OkB (gG TB) 5 144 mL gQ) 173 K0) : Snd mL (OkB (gG TB) 5 144 mL gQ) 148 (mLa_b148 tb K0) := (Snd.psh bkB rfl (fun _ => rfl) (Snd.call (frM := 0) (loM := 0) bkB rfl noSt_V rfl rfl tk2_ok rfl (by decide) (rvV_ok us_nil) (by decide) (by decide) (m2_ok hb) (Snd.ast bkB rfl (fun _ => rfl) (fun _ => rfl) (fun _ _ => rfl) (Snd.ld bkB rfl (fun _ => rfl) ac7_ok (Snd.psh bkB rfl (fun _ => rfl) (Snd.ld bkB rfl (fun _ => rfl) ac5_ok (Snd.psh bkB rfl (fun _ => rfl) (Snd.call (frM := 0) (loM := 0) bkB rfl noSt_V rfl rfl tk2_ok rfl (by decide) (rvV_ok us_nil) (by decide) (by decide) (m2_ok hb) (Snd.ast bkB rfl (fun _ => rfl) (fun _ => rfl) (fun _ _ => rfl) (Snd.ld bkB rfl (fun _ => rfl) ac7_ok (Snd.psh bkB rfl (fun _ => rfl) (Snd.ld bkB rfl (fun _ => rfl) ac5_ok (Snd.psh bkB rfl (fun _ => rfl) (Snd.call (frM := 0) (loM := 0) bkB rfl noSt_V rfl rfl tk2_ok rfl (by decide) (rvV_ok us_nil) (by decide) (by decide) (m2_ok hb) (Snd.ast bkB rfl (fun _ => rfl) (fun _ => rfl) (fun _ _ => rfl) hK0)))))))))))))))
def mLa_b108 (tb : Nat → Nat → Nat → Option Value) (K0 : Eng.Code (Bool)) : Eng.Code (Bool) := (cASt false 0 tB (cNew false (.inr (0, [(0, .null), (1, .null), (2, .null), (3, .null), (4, .null), (5, .null), (6, .null), (7, .null), (8, .int 0), (9, .int 0)])) 10 (cPs false 112 pDup (cLd false Value.isRef ac3 (cPsh (.int (mkI 4)) (cPsh (.int (mkI 3)) (cCall false tk4 [.unset, .unset, .unset, .unset, .unset] rvN 4 m0_c (cSt false Value.isRef ac5 up5 (cLd false Value.isRef ac5 (cCall false tk1 [] (rvV 0) 4 m1_c (cSt false isI ac6 up6 (cPsh (.int (mkI 4)) (cArr false .int (cSt false Value.isRef ac7 up7 (cLd false Value.isRef ac7 (cPsh (.int (mkI 0)) (cLd false Value.isRef ac5 (cPsh (.int (mkI 0)) (cCall false tk2 [] (rvV 0) 4 m2_c (cASt false 0 tI (cLd false Value.isRef ac7 (cPsh (.int (mkI 1)) (cLd false Value.isRef ac5 (mLa_b148 tb K0))))))))))))))))))))))))
theorem mLa_b108_ok {TB : Instr → Nat → Int32 → Option Value} {tb : Nat → Nat → Nat → Option Value} (hb : TbH tb TB) {K0 : Eng.Code (Bool)} (hK0 : Snd mL (OkB (gG TB) 5 144 mL gQ) 173 K0) : Snd mL (OkB (gG TB) 5 144 mL gQ) 108 (mLa_b108 tb K0) := (Snd.ast bkB rfl (fun _ => rfl) (fun _ => rfl) (fun _ _ => rfl) (Snd.new bkB rfl rfl rfl (Snd.p bkB rfl (fun _ => rfl) onlyDup (Snd.ld bkB rfl (fun _ => rfl) ac3_ok (Snd.psh bkB rfl (fun _ => rfl) (Snd.psh bkB rfl (fun _ => rfl) (Snd.call (frM := 1) (loM := 16) bkB rfl noSt_N rfl rfl tk4_ok rfl (by decide) (rvN_ok us_cons) (by decide) (by decide) (m0_ok hb) (Snd.st bkB rfl (fun _ => rfl) @isRef_cat ac5_ok up5_ok (Snd.ld bkB rfl (fun _ => rfl) ac5_ok (Snd.call (frM := 0) (loM := 0) bkB rfl noSt_V rfl rfl tk1_ok rfl (by decide) (rvV_ok us_nil) (by decide) (by decide) (m1_ok hb) (Snd.st bkB rfl (fun _ => rfl) @isI_cat ac6_ok up6_ok (Snd.psh bkB rfl (fun _ => rfl) (Snd.arr bkB rfl rfl (Snd.st bkB rfl (fun _ => rfl) @isRef_cat ac7_ok up7_ok (Snd.ld bkB rfl (fun _ => rfl) ac7_ok (Snd.psh bkB rfl (fun _ => rfl) (Snd.ld bkB rfl (fun _ => rfl) ac5_ok (Snd.psh bkB rfl (fun _ => rfl) (Snd.call (frM := 0) (loM := 0) bkB rfl noSt_V rfl rfl tk2_ok rfl (by decide) (rvV_ok us_nil) (by decide) (by decide) (m2_ok hb) (Snd.ast bkB rfl (fun _ => rfl) (fun _ => rfl) (fun _ _ => rfl) (Snd.ld bkB rfl (fun _ => rfl) ac7_ok (Snd.psh bkB rfl (fun _ => rfl) (Snd.ld bkB rfl (fun _ => rfl) ac5_ok (mLa_b148_ok hb hK0))))))))))))))))))))))))
def mLa_b92 (tb : Nat → Nat → Nat → Option Value) (K0 : Eng.Code (Bool)) : Eng.Code (Bool) := (cASt false 0 tB (cLd false Value.isRef ac4 (cPsh (.int (mkI 3)) (cLd false isI ac1 (cPsh (.int (Int8.ofInt (8)).toInt32) (cBT false (fun x y => x &&& y) (tb 0) (cIf false eqB (cPsh (.int (mkI 0)) (mLa_b108 tb K0)) (cPsh (.int (mkI 1)) (mLa_b108 tb K0)))))))))
theorem mLa_b92_ok {TB : Instr → Nat → Int32 → Option Value} {tb : Nat → Nat → Nat → Option Value} (hb : TbH tb TB) {K0 : Eng.Code (Bool)} (hK0 : Snd mL (OkB (gG TB) 5 144 mL gQ) 173 K0) : Snd mL (OkB (gG TB) 5 144 mL gQ) 92 (mLa_b92 tb K0) := (Snd.ast bkB rfl (fun _ => rfl) (fun _ => rfl) (fun _ _ => rfl) (Snd.ld bkB rfl (fun _ => rfl) ac4_ok (Snd.psh bkB rfl (fun _ => rfl) (Snd.ld bkB rfl (fun _ => rfl) ac1_ok (Snd.psh bkB rfl (fun _ => rfl) (Snd.bT bkB rfl (fun _ => rfl) (fun _ => rfl) hb.1 (Snd.ifc (t := 107) bkB rfl (by decide) hEq (Snd.psh bkB rfl (fun _ => rfl) (mLa_b108_ok hb hK0)) (Snd.psh bkB rfl (fun _ => rfl) (Snd.goto (t := 108) bkB rfl (by decide) (mLa_b108_ok hb hK0))))))))))
def mLa_b77 (tb : Nat → Nat → Nat → Option Value) (K0 : Eng.Code (Bool)) : Eng.Code (Bool) := (cASt false 0 tB (cLd false Value.isRef ac4 (cPsh (.int (mkI 2)) (cLd false isI ac1 (cPsh (.int (mkI 4)) (cBT false (fun x y => x &&& y) (tb 0) (cIf false eqB (cPsh (.int (mkI 0)) (mLa_b92 tb K0)) (cPsh (.int (mkI 1)) (mLa_b92 tb K0)))))))))
theorem mLa_b77_ok {TB : Instr → Nat → Int32 → Option Value} {tb : Nat → Nat → Nat → Option Value} (hb : TbH tb TB) {K0 : Eng.Code (Bool)} (hK0 : Snd mL (OkB (gG TB) 5 144 mL gQ) 173 K0) : Snd mL (OkB (gG TB) 5 144 mL gQ) 77 (mLa_b77 tb K0) := (Snd.ast bkB rfl (fun _ => rfl) (fun _ => rfl) (fun _ _ => rfl) (Snd.ld bkB rfl (fun _ => rfl) ac4_ok (Snd.psh bkB rfl (fun _ => rfl) (Snd.ld bkB rfl (fun _ => rfl) ac1_ok (Snd.psh bkB rfl (fun _ => rfl) (Snd.bT bkB rfl (fun _ => rfl) (fun _ => rfl) hb.1 (Snd.ifc (t := 91) bkB rfl (by decide) hEq (Snd.psh bkB rfl (fun _ => rfl) (mLa_b92_ok hb hK0)) (Snd.psh bkB rfl (fun _ => rfl) (Snd.goto (t := 92) bkB rfl (by decide) (mLa_b92_ok hb hK0))))))))))
def mLa_b62 (tb : Nat → Nat → Nat → Option Value) (K0 : Eng.Code (Bool)) : Eng.Code (Bool) := (cASt false 0 tB (cLd false Value.isRef ac4 (cPsh (.int (mkI 1)) (cLd false isI ac1 (cPsh (.int (mkI 2)) (cBT false (fun x y => x &&& y) (tb 0) (cIf false eqB (cPsh (.int (mkI 0)) (mLa_b77 tb K0)) (cPsh (.int (mkI 1)) (mLa_b77 tb K0)))))))))
theorem mLa_b62_ok {TB : Instr → Nat → Int32 → Option Value} {tb : Nat → Nat → Nat → Option Value} (hb : TbH tb TB) {K0 : Eng.Code (Bool)} (hK0 : Snd mL (OkB (gG TB) 5 144 mL gQ) 173 K0) : Snd mL (OkB (gG TB) 5 144 mL gQ) 62 (mLa_b62 tb K0) := (Snd.ast bkB rfl (fun _ => rfl) (fun _ => rfl) (fun _ _ => rfl) (Snd.ld bkB rfl (fun _ => rfl) ac4_ok (Snd.psh bkB rfl (fun _ => rfl) (Snd.ld bkB rfl (fun _ => rfl) ac1_ok (Snd.psh bkB rfl (fun _ => rfl) (Snd.bT bkB rfl (fun _ => rfl) (fun _ => rfl) hb.1 (Snd.ifc (t := 76) bkB rfl (by decide) hEq (Snd.psh bkB rfl (fun _ => rfl) (mLa_b77_ok hb hK0)) (Snd.psh bkB rfl (fun _ => rfl) (Snd.goto (t := 77) bkB rfl (by decide) (mLa_b77_ok hb hK0))))))))))
def mLa_b51 (tb : Nat → Nat → Nat → Option Value) (K0 : Eng.Code (Bool)) : Eng.Code (Bool) := (cLd false isI ac1 (cPsh (.int (mkI 1)) (cBT false (fun x y => x &&& y) (tb 0) (cIf false eqB (cPsh (.int (mkI 0)) (mLa_b62 tb K0)) (cPsh (.int (mkI 1)) (mLa_b62 tb K0))))))
theorem mLa_b51_ok {TB : Instr → Nat → Int32 → Option Value} {tb : Nat → Nat → Nat → Option Value} (hb : TbH tb TB) {K0 : Eng.Code (Bool)} (hK0 : Snd mL (OkB (gG TB) 5 144 mL gQ) 173 K0) : Snd mL (OkB (gG TB) 5 144 mL gQ) 51 (mLa_b51 tb K0) := (Snd.ld bkB rfl (fun _ => rfl) ac1_ok (Snd.psh bkB rfl (fun _ => rfl) (Snd.bT bkB rfl (fun _ => rfl) (fun _ => rfl) hb.1 (Snd.ifc (t := 61) bkB rfl (by decide) hEq (Snd.psh bkB rfl (fun _ => rfl) (mLa_b62_ok hb hK0)) (Snd.psh bkB rfl (fun _ => rfl) (Snd.goto (t := 62) bkB rfl (by decide) (mLa_b62_ok hb hK0)))))))
def mLa_b24 (tb : Nat → Nat → Nat → Option Value) (K0 : Eng.Code (Bool)) : Eng.Code (Bool) := (cLd false isI ac0 (cPsh (.int (mkI 4)) (cBT false XT.ushr (tb 1) (cPsh (.int (mkI 3)) (cBT false (fun x y => x &&& y) (tb 0) (cPsh (.int (mkI 3)) (cB0 false (fun x y => x % y) (tb 2) (cASt false 0 tI (cLd false Value.isRef ac3 (cPsh (.int (mkI 3)) (cLd false isI ac0 (cPsh (.int (Int8.ofInt (6)).toInt32) (cBT false XT.ushr (tb 1) (cPsh (.int (mkI 3)) (cBT false (fun x y => x &&& y) (tb 0) (cPsh (.int (mkI 3)) (cB0 false (fun x y => x % y) (tb 2) (cASt false 0 tI (cPsh (.int (mkI 4)) (cArr false .boolean (cSt false Value.isRef ac4 up4 (cLd false Value.isRef ac4 (cPsh (.int (mkI 0)) (mLa_b51 tb K0))))))))))))))))))))))))
theorem mLa_b24_ok {TB : Instr → Nat → Int32 → Option Value} {tb : Nat → Nat → Nat → Option Value} (hb : TbH tb TB) {K0 : Eng.Code (Bool)} (hK0 : Snd mL (OkB (gG TB) 5 144 mL gQ) 173 K0) : Snd mL (OkB (gG TB) 5 144 mL gQ) 24 (mLa_b24 tb K0) := (Snd.ld bkB rfl (fun _ => rfl) ac0_ok (Snd.psh bkB rfl (fun _ => rfl) (Snd.bT bkB rfl (fun _ => rfl) (fun _ => rfl) hb.2.1 (Snd.psh bkB rfl (fun _ => rfl) (Snd.bT bkB rfl (fun _ => rfl) (fun _ => rfl) hb.1 (Snd.psh bkB rfl (fun _ => rfl) (Snd.b0 bkB rfl (fun _ => rfl) (fun _ => rfl) hb.2.2 (Snd.ast bkB rfl (fun _ => rfl) (fun _ => rfl) (fun _ _ => rfl) (Snd.ld bkB rfl (fun _ => rfl) ac3_ok (Snd.psh bkB rfl (fun _ => rfl) (Snd.ld bkB rfl (fun _ => rfl) ac0_ok (Snd.psh bkB rfl (fun _ => rfl) (Snd.bT bkB rfl (fun _ => rfl) (fun _ => rfl) hb.2.1 (Snd.psh bkB rfl (fun _ => rfl) (Snd.bT bkB rfl (fun _ => rfl) (fun _ => rfl) hb.1 (Snd.psh bkB rfl (fun _ => rfl) (Snd.b0 bkB rfl (fun _ => rfl) (fun _ => rfl) hb.2.2 (Snd.ast bkB rfl (fun _ => rfl) (fun _ => rfl) (fun _ _ => rfl) (Snd.psh bkB rfl (fun _ => rfl) (Snd.arr bkB rfl rfl (Snd.st bkB rfl (fun _ => rfl) @isRef_cat ac4_ok up4_ok (Snd.ld bkB rfl (fun _ => rfl) ac4_ok (Snd.psh bkB rfl (fun _ => rfl) (mLa_b51_ok hb hK0))))))))))))))))))))))))
def mLa_b0 (tb : Nat → Nat → Nat → Option Value) (K0 : Eng.Code (Bool)) : Eng.Code (Bool) := (cPsh (.int (mkI 4)) (cArr false .int (cSt false Value.isRef ac3 up3 (cLd false Value.isRef ac3 (cPsh (.int (mkI 0)) (cLd false isI ac0 (cPsh (.int (mkI 3)) (cBT false (fun x y => x &&& y) (tb 0) (cPsh (.int (mkI 3)) (cB0 false (fun x y => x % y) (tb 2) (cASt false 0 tI (cLd false Value.isRef ac3 (cPsh (.int (mkI 1)) (cLd false isI ac0 (cPsh (.int (mkI 2)) (cBT false XT.ushr (tb 1) (cPsh (.int (mkI 3)) (cBT false (fun x y => x &&& y) (tb 0) (cPsh (.int (mkI 3)) (cB0 false (fun x y => x % y) (tb 2) (cASt false 0 tI (cLd false Value.isRef ac3 (cPsh (.int (mkI 2)) (mLa_b24 tb K0))))))))))))))))))))))))
theorem mLa_b0_ok {TB : Instr → Nat → Int32 → Option Value} {tb : Nat → Nat → Nat → Option Value} (hb : TbH tb TB) {K0 : Eng.Code (Bool)} (hK0 : Snd mL (OkB (gG TB) 5 144 mL gQ) 173 K0) : Snd mL (OkB (gG TB) 5 144 mL gQ) 0 (mLa_b0 tb K0) := (Snd.psh bkB rfl (fun _ => rfl) (Snd.arr bkB rfl rfl (Snd.st bkB rfl (fun _ => rfl) @isRef_cat ac3_ok up3_ok (Snd.ld bkB rfl (fun _ => rfl) ac3_ok (Snd.psh bkB rfl (fun _ => rfl) (Snd.ld bkB rfl (fun _ => rfl) ac0_ok (Snd.psh bkB rfl (fun _ => rfl) (Snd.bT bkB rfl (fun _ => rfl) (fun _ => rfl) hb.1 (Snd.psh bkB rfl (fun _ => rfl) (Snd.b0 bkB rfl (fun _ => rfl) (fun _ => rfl) hb.2.2 (Snd.ast bkB rfl (fun _ => rfl) (fun _ => rfl) (fun _ _ => rfl) (Snd.ld bkB rfl (fun _ => rfl) ac3_ok (Snd.psh bkB rfl (fun _ => rfl) (Snd.ld bkB rfl (fun _ => rfl) ac0_ok (Snd.psh bkB rfl (fun _ => rfl) (Snd.bT bkB rfl (fun _ => rfl) (fun _ => rfl) hb.2.1 (Snd.psh bkB rfl (fun _ => rfl) (Snd.bT bkB rfl (fun _ => rfl) (fun _ => rfl) hb.1 (Snd.psh bkB rfl (fun _ => rfl) (Snd.b0 bkB rfl (fun _ => rfl) (fun _ => rfl) hb.2.2 (Snd.ast bkB rfl (fun _ => rfl) (fun _ => rfl) (fun _ _ => rfl) (Snd.ld bkB rfl (fun _ => rfl) ac3_ok (Snd.psh bkB rfl (fun _ => rfl) (mLa_b24_ok hb hK0))))))))))))))))))))))))
def mLa_c (tb : Nat → Nat → Nat → Option Value) (K0 : Eng.Code (Bool)) : Eng.Code (Bool) := mLa_b0 tb K0
theorem mLa_ok {TB : Instr → Nat → Int32 → Option Value} {tb : Nat → Nat → Nat → Option Value} (hb : TbH tb TB) {K0 : Eng.Code (Bool)} (hK0 : Snd mL (OkB (gG TB) 5 144 mL gQ) 173 K0) : Snd mL (OkB (gG TB) 5 144 mL gQ) 0 (mLa_c tb K0) := mLa_b0_ok hb hK0
def tA1 (m0 m1 m2 m3 : Nat) (r : Nat → Nat → Option Value) : Nat → Nat → Option Value := ten 0 3 (.retAddr 3) (ten 4 3 (.retAddr 5) (ten 6 3 (.retAddr 7) (ten 8 3 (.retAddr 9) (ten 1 1 (.int (Int32.ofNat (2 ^ 0 * m0))) (ten 1 2 (.int (Int32.ofNat (2 ^ 1 * m1))) (ten 1 4 (.int (Int32.ofNat (2 ^ 2 * m2))) (ten 1 8 (.int (Int32.ofNat (2 ^ 3 * m3))) r)))))))
def tA2 (o : Nat) (r : Nat → Nat → Option Value) : Nat → Nat → Option Value := ten 2 1 (.int (Int32.ofNat (2 ^ 0 * o))) r
def tA3 (e1 e2 e3 e4 : Nat) : Nat → Nat → Option Value := ten 2 2 (.int (Int32.ofNat (2 ^ 1 * e1))) (ten 2 4 (.int (Int32.ofNat (2 ^ 2 * e2))) (ten 2 8 (.int (Int32.ofNat (2 ^ 3 * e3))) (ten 2 16 (.int (Int32.ofNat (2 ^ 4 * e4))) tnone)))
def tU1 : Nat → Nat → Option Value := ten 0 2 (.retAddr 4) (ten 0 4 (.retAddr 6) (ten 0 6 (.retAddr 8) tnone))
def tR1 (k0 k1 k2 k3 : Nat) : Nat → Nat → Option Value := ten 3 3 (.int (Int32.ofNat k0)) (ten 5 3 (.int (Int32.ofNat k1)) (ten 7 3 (.int (Int32.ofNat k2)) (ten 9 3 (.int (Int32.ofNat k3)) tnone)))
def tb1 (k0 k1 k2 k3 m0 m1 m2 m3 : Nat) : Nat → Nat → Nat → Option Value := tbv (tA1 m0 m1 m2 m3 tnone) tU1 (tR1 k0 k1 k2 k3)
def tb2 (k0 k1 k2 k3 m0 m1 m2 m3 o : Nat) : Nat → Nat → Nat → Option Value := tbv (tA1 m0 m1 m2 m3 (tA2 o tnone)) tU1 (tR1 k0 k1 k2 k3)
def tb3 (k0 k1 k2 k3 m0 m1 m2 m3 o e1 e2 e3 e4 : Nat) : Nat → Nat → Nat → Option Value := tbv (tA1 m0 m1 m2 m3 (tA2 o (tA3 e1 e2 e3 e4))) tU1 (tR1 k0 k1 k2 k3)
theorem tbH1 (k0 k1 k2 k3 m0 m1 m2 m3 o e1 e2 e3 e4 : Nat) : TbH (tb1 k0 k1 k2 k3 m0 m1 m2 m3) (tbF (tb3 k0 k1 k2 k3 m0 m1 m2 m3 o e1 e2 e3 e4)) := tbH_of (TSub.en (TSub.en (TSub.en (TSub.en (TSub.en (TSub.en (TSub.en (TSub.en TSub.no)))))))) TSub.refl TSub.refl
theorem tbH2 (k0 k1 k2 k3 m0 m1 m2 m3 o e1 e2 e3 e4 : Nat) : TbH (tb2 k0 k1 k2 k3 m0 m1 m2 m3 o) (tbF (tb3 k0 k1 k2 k3 m0 m1 m2 m3 o e1 e2 e3 e4)) := tbH_of (TSub.en (TSub.en (TSub.en (TSub.en (TSub.en (TSub.en (TSub.en (TSub.en (TSub.en TSub.no))))))))) TSub.refl TSub.refl
theorem two {e : Nat} {g : Nat → Option Value} (h : e < 2) : g e = g 0 ∨ g e = g 1 := by
  match e, h with
  | 0, _ => exact Or.inl rfl
  | 1, _ => exact Or.inr rfl
theorem tbC {k0 k1 k2 k3 m0 m1 m2 m3 o e1 e2 e3 e4 : Nat} (h1 : e1 < 2) (h2 : e2 < 2) (h3 : e3 < 2) (h4 : e4 < 2) : CH (tbF (tb3 k0 k1 k2 k3 m0 m1 m2 m3 o e1 e2 e3 e4)) := by
  refine ⟨fun y hy => ?_, fun y hy => ?_, fun y hy => ?_, fun y hy => ?_⟩
  · show tb3 k0 k1 k2 k3 m0 m1 m2 m3 o e1 e2 e3 e4 0 2 (bts y) = _ ∨ tb3 k0 k1 k2 k3 m0 m1 m2 m3 o e1 e2 e3 e4 0 2 (bts y) = _
    rw [hy]
    exact two (g := fun e => some (.int (Int32.ofNat (2 ^ 1 * e)))) h1
  · show tb3 k0 k1 k2 k3 m0 m1 m2 m3 o e1 e2 e3 e4 0 2 (bts y) = _ ∨ tb3 k0 k1 k2 k3 m0 m1 m2 m3 o e1 e2 e3 e4 0 2 (bts y) = _
    rw [hy]
    exact two (g := fun e => some (.int (Int32.ofNat (2 ^ 2 * e)))) h2
  · show tb3 k0 k1 k2 k3 m0 m1 m2 m3 o e1 e2 e3 e4 0 2 (bts y) = _ ∨ tb3 k0 k1 k2 k3 m0 m1 m2 m3 o e1 e2 e3 e4 0 2 (bts y) = _
    rw [hy]
    exact two (g := fun e => some (.int (Int32.ofNat (2 ^ 3 * e)))) h3
  · show tb3 k0 k1 k2 k3 m0 m1 m2 m3 o e1 e2 e3 e4 0 2 (bts y) = _ ∨ tb3 k0 k1 k2 k3 m0 m1 m2 m3 o e1 e2 e3 e4 0 2 (bts y) = _
    rw [hy]
    exact two (g := fun e => some (.int (Int32.ofNat (2 ^ 4 * e)))) h4
def gB (k0 k1 k2 k3 m0 m1 m2 m3 : Nat) : Bool := mLa_c (tb1 k0 k1 k2 k3 m0 m1 m2 m3) (fun ls st H cc s => al2 fun o => mLb_c (tb2 k0 k1 k2 k3 m0 m1 m2 m3 o) ls st H cc s) (entL [.retAddr 0, .retAddr 1, .retAddr 2] maxLocals) [] [] 0 0
theorem gB_ok {k0 k1 k2 k3 m0 m1 m2 m3 o e1 e2 e3 e4 : Nat} (ho : o < 2) (h1 : e1 < 2) (h2 : e2 < 2) (h3 : e3 < 2) (h4 : e4 < 2) (h : gB k0 k1 k2 k3 m0 m1 m2 m3 = true) : EW (gG (tbF (tb3 k0 k1 k2 k3 m0 m1 m2 m3 o e1 e2 e3 e4))) 5 144 mL gQ ((0, entL [.retAddr 0, .retAddr 1, .retAddr 2] maxLocals, []), [], 0, 0) :=
  mLa_ok (tbH1 k0 k1 k2 k3 m0 m1 m2 m3 o e1 e2 e3 e4) (K0 := fun ls st H cc s => al2 fun o => mLb_c (tb2 k0 k1 k2 k3 m0 m1 m2 m3 o) ls st H cc s) (fun ls st H cc s hl q => mLb_ok (tbH2 k0 k1 k2 k3 m0 m1 m2 m3 o e1 e2 e3 e4) (tbC h1 h2 h3 h4) ls st H cc s hl (al2_ok q ho)) _ _ _ _ _ rfl h
set_option maxRecDepth 65536 in
theorem own_c_0_0_0 : (al3 fun k3 => al2 fun m0 => al2 fun m1 => al2 fun m2 => al2 fun m3 => gB 0 0 0 k3 m0 m1 m2 m3) = true := by decide +kernel
set_option maxRecDepth 65536 in
theorem own_c_0_0_1 : (al3 fun k3 => al2 fun m0 => al2 fun m1 => al2 fun m2 => al2 fun m3 => gB 0 0 1 k3 m0 m1 m2 m3) = true := by decide +kernel
set_option maxRecDepth 65536 in
theorem own_c_0_0_2 : (al3 fun k3 => al2 fun m0 => al2 fun m1 => al2 fun m2 => al2 fun m3 => gB 0 0 2 k3 m0 m1 m2 m3) = true := by decide +kernel
set_option maxRecDepth 65536 in
theorem own_c_0_1_0 : (al3 fun k3 => al2 fun m0 => al2 fun m1 => al2 fun m2 => al2 fun m3 => gB 0 1 0 k3 m0 m1 m2 m3) = true := by decide +kernel
set_option maxRecDepth 65536 in
theorem own_c_0_1_1 : (al3 fun k3 => al2 fun m0 => al2 fun m1 => al2 fun m2 => al2 fun m3 => gB 0 1 1 k3 m0 m1 m2 m3) = true := by decide +kernel
set_option maxRecDepth 65536 in
theorem own_c_0_1_2 : (al3 fun k3 => al2 fun m0 => al2 fun m1 => al2 fun m2 => al2 fun m3 => gB 0 1 2 k3 m0 m1 m2 m3) = true := by decide +kernel
set_option maxRecDepth 65536 in
theorem own_c_0_2_0 : (al3 fun k3 => al2 fun m0 => al2 fun m1 => al2 fun m2 => al2 fun m3 => gB 0 2 0 k3 m0 m1 m2 m3) = true := by decide +kernel
set_option maxRecDepth 65536 in
theorem own_c_0_2_1 : (al3 fun k3 => al2 fun m0 => al2 fun m1 => al2 fun m2 => al2 fun m3 => gB 0 2 1 k3 m0 m1 m2 m3) = true := by decide +kernel
set_option maxRecDepth 65536 in
theorem own_c_0_2_2 : (al3 fun k3 => al2 fun m0 => al2 fun m1 => al2 fun m2 => al2 fun m3 => gB 0 2 2 k3 m0 m1 m2 m3) = true := by decide +kernel
set_option maxRecDepth 65536 in
theorem own_c_1_0_0 : (al3 fun k3 => al2 fun m0 => al2 fun m1 => al2 fun m2 => al2 fun m3 => gB 1 0 0 k3 m0 m1 m2 m3) = true := by decide +kernel
set_option maxRecDepth 65536 in
theorem own_c_1_0_1 : (al3 fun k3 => al2 fun m0 => al2 fun m1 => al2 fun m2 => al2 fun m3 => gB 1 0 1 k3 m0 m1 m2 m3) = true := by decide +kernel
set_option maxRecDepth 65536 in
theorem own_c_1_0_2 : (al3 fun k3 => al2 fun m0 => al2 fun m1 => al2 fun m2 => al2 fun m3 => gB 1 0 2 k3 m0 m1 m2 m3) = true := by decide +kernel
set_option maxRecDepth 65536 in
theorem own_c_1_1_0 : (al3 fun k3 => al2 fun m0 => al2 fun m1 => al2 fun m2 => al2 fun m3 => gB 1 1 0 k3 m0 m1 m2 m3) = true := by decide +kernel
set_option maxRecDepth 65536 in
theorem own_c_1_1_1 : (al3 fun k3 => al2 fun m0 => al2 fun m1 => al2 fun m2 => al2 fun m3 => gB 1 1 1 k3 m0 m1 m2 m3) = true := by decide +kernel
set_option maxRecDepth 65536 in
theorem own_c_1_1_2 : (al3 fun k3 => al2 fun m0 => al2 fun m1 => al2 fun m2 => al2 fun m3 => gB 1 1 2 k3 m0 m1 m2 m3) = true := by decide +kernel
set_option maxRecDepth 65536 in
theorem own_c_1_2_0 : (al3 fun k3 => al2 fun m0 => al2 fun m1 => al2 fun m2 => al2 fun m3 => gB 1 2 0 k3 m0 m1 m2 m3) = true := by decide +kernel
set_option maxRecDepth 65536 in
theorem own_c_1_2_1 : (al3 fun k3 => al2 fun m0 => al2 fun m1 => al2 fun m2 => al2 fun m3 => gB 1 2 1 k3 m0 m1 m2 m3) = true := by decide +kernel
set_option maxRecDepth 65536 in
theorem own_c_1_2_2 : (al3 fun k3 => al2 fun m0 => al2 fun m1 => al2 fun m2 => al2 fun m3 => gB 1 2 2 k3 m0 m1 m2 m3) = true := by decide +kernel
set_option maxRecDepth 65536 in
theorem own_c_2_0_0 : (al3 fun k3 => al2 fun m0 => al2 fun m1 => al2 fun m2 => al2 fun m3 => gB 2 0 0 k3 m0 m1 m2 m3) = true := by decide +kernel
set_option maxRecDepth 65536 in
theorem own_c_2_0_1 : (al3 fun k3 => al2 fun m0 => al2 fun m1 => al2 fun m2 => al2 fun m3 => gB 2 0 1 k3 m0 m1 m2 m3) = true := by decide +kernel
set_option maxRecDepth 65536 in
theorem own_c_2_0_2 : (al3 fun k3 => al2 fun m0 => al2 fun m1 => al2 fun m2 => al2 fun m3 => gB 2 0 2 k3 m0 m1 m2 m3) = true := by decide +kernel
set_option maxRecDepth 65536 in
theorem own_c_2_1_0 : (al3 fun k3 => al2 fun m0 => al2 fun m1 => al2 fun m2 => al2 fun m3 => gB 2 1 0 k3 m0 m1 m2 m3) = true := by decide +kernel
set_option maxRecDepth 65536 in
theorem own_c_2_1_1 : (al3 fun k3 => al2 fun m0 => al2 fun m1 => al2 fun m2 => al2 fun m3 => gB 2 1 1 k3 m0 m1 m2 m3) = true := by decide +kernel
set_option maxRecDepth 65536 in
theorem own_c_2_1_2 : (al3 fun k3 => al2 fun m0 => al2 fun m1 => al2 fun m2 => al2 fun m3 => gB 2 1 2 k3 m0 m1 m2 m3) = true := by decide +kernel
set_option maxRecDepth 65536 in
theorem own_c_2_2_0 : (al3 fun k3 => al2 fun m0 => al2 fun m1 => al2 fun m2 => al2 fun m3 => gB 2 2 0 k3 m0 m1 m2 m3) = true := by decide +kernel
set_option maxRecDepth 65536 in
theorem own_c_2_2_1 : (al3 fun k3 => al2 fun m0 => al2 fun m1 => al2 fun m2 => al2 fun m3 => gB 2 2 1 k3 m0 m1 m2 m3) = true := by decide +kernel
set_option maxRecDepth 65536 in
theorem own_c_2_2_2 : (al3 fun k3 => al2 fun m0 => al2 fun m1 => al2 fun m2 => al2 fun m3 => gB 2 2 2 k3 m0 m1 m2 m3) = true := by decide +kernel
theorem own_all : ∀ k0 k1 k2 k3 m0 m1 m2 m3, k0 < 3 → k1 < 3 → k2 < 3 → k3 < 3 → m0 < 2 → m1 < 2 → m2 < 2 → m3 < 2 → gB k0 k1 k2 k3 m0 m1 m2 m3 = true
  | 0, 0, 0, k3, m0, m1, m2, m3, _, _, _, h3, g0, g1, g2, g3 => al2_ok (al2_ok (al2_ok (al2_ok (al3_ok own_c_0_0_0 h3) g0) g1) g2) g3
  | 0, 0, 1, k3, m0, m1, m2, m3, _, _, _, h3, g0, g1, g2, g3 => al2_ok (al2_ok (al2_ok (al2_ok (al3_ok own_c_0_0_1 h3) g0) g1) g2) g3
  | 0, 0, 2, k3, m0, m1, m2, m3, _, _, _, h3, g0, g1, g2, g3 => al2_ok (al2_ok (al2_ok (al2_ok (al3_ok own_c_0_0_2 h3) g0) g1) g2) g3
  | 0, 1, 0, k3, m0, m1, m2, m3, _, _, _, h3, g0, g1, g2, g3 => al2_ok (al2_ok (al2_ok (al2_ok (al3_ok own_c_0_1_0 h3) g0) g1) g2) g3
  | 0, 1, 1, k3, m0, m1, m2, m3, _, _, _, h3, g0, g1, g2, g3 => al2_ok (al2_ok (al2_ok (al2_ok (al3_ok own_c_0_1_1 h3) g0) g1) g2) g3
  | 0, 1, 2, k3, m0, m1, m2, m3, _, _, _, h3, g0, g1, g2, g3 => al2_ok (al2_ok (al2_ok (al2_ok (al3_ok own_c_0_1_2 h3) g0) g1) g2) g3
  | 0, 2, 0, k3, m0, m1, m2, m3, _, _, _, h3, g0, g1, g2, g3 => al2_ok (al2_ok (al2_ok (al2_ok (al3_ok own_c_0_2_0 h3) g0) g1) g2) g3
  | 0, 2, 1, k3, m0, m1, m2, m3, _, _, _, h3, g0, g1, g2, g3 => al2_ok (al2_ok (al2_ok (al2_ok (al3_ok own_c_0_2_1 h3) g0) g1) g2) g3
  | 0, 2, 2, k3, m0, m1, m2, m3, _, _, _, h3, g0, g1, g2, g3 => al2_ok (al2_ok (al2_ok (al2_ok (al3_ok own_c_0_2_2 h3) g0) g1) g2) g3
  | 1, 0, 0, k3, m0, m1, m2, m3, _, _, _, h3, g0, g1, g2, g3 => al2_ok (al2_ok (al2_ok (al2_ok (al3_ok own_c_1_0_0 h3) g0) g1) g2) g3
  | 1, 0, 1, k3, m0, m1, m2, m3, _, _, _, h3, g0, g1, g2, g3 => al2_ok (al2_ok (al2_ok (al2_ok (al3_ok own_c_1_0_1 h3) g0) g1) g2) g3
  | 1, 0, 2, k3, m0, m1, m2, m3, _, _, _, h3, g0, g1, g2, g3 => al2_ok (al2_ok (al2_ok (al2_ok (al3_ok own_c_1_0_2 h3) g0) g1) g2) g3
  | 1, 1, 0, k3, m0, m1, m2, m3, _, _, _, h3, g0, g1, g2, g3 => al2_ok (al2_ok (al2_ok (al2_ok (al3_ok own_c_1_1_0 h3) g0) g1) g2) g3
  | 1, 1, 1, k3, m0, m1, m2, m3, _, _, _, h3, g0, g1, g2, g3 => al2_ok (al2_ok (al2_ok (al2_ok (al3_ok own_c_1_1_1 h3) g0) g1) g2) g3
  | 1, 1, 2, k3, m0, m1, m2, m3, _, _, _, h3, g0, g1, g2, g3 => al2_ok (al2_ok (al2_ok (al2_ok (al3_ok own_c_1_1_2 h3) g0) g1) g2) g3
  | 1, 2, 0, k3, m0, m1, m2, m3, _, _, _, h3, g0, g1, g2, g3 => al2_ok (al2_ok (al2_ok (al2_ok (al3_ok own_c_1_2_0 h3) g0) g1) g2) g3
  | 1, 2, 1, k3, m0, m1, m2, m3, _, _, _, h3, g0, g1, g2, g3 => al2_ok (al2_ok (al2_ok (al2_ok (al3_ok own_c_1_2_1 h3) g0) g1) g2) g3
  | 1, 2, 2, k3, m0, m1, m2, m3, _, _, _, h3, g0, g1, g2, g3 => al2_ok (al2_ok (al2_ok (al2_ok (al3_ok own_c_1_2_2 h3) g0) g1) g2) g3
  | 2, 0, 0, k3, m0, m1, m2, m3, _, _, _, h3, g0, g1, g2, g3 => al2_ok (al2_ok (al2_ok (al2_ok (al3_ok own_c_2_0_0 h3) g0) g1) g2) g3
  | 2, 0, 1, k3, m0, m1, m2, m3, _, _, _, h3, g0, g1, g2, g3 => al2_ok (al2_ok (al2_ok (al2_ok (al3_ok own_c_2_0_1 h3) g0) g1) g2) g3
  | 2, 0, 2, k3, m0, m1, m2, m3, _, _, _, h3, g0, g1, g2, g3 => al2_ok (al2_ok (al2_ok (al2_ok (al3_ok own_c_2_0_2 h3) g0) g1) g2) g3
  | 2, 1, 0, k3, m0, m1, m2, m3, _, _, _, h3, g0, g1, g2, g3 => al2_ok (al2_ok (al2_ok (al2_ok (al3_ok own_c_2_1_0 h3) g0) g1) g2) g3
  | 2, 1, 1, k3, m0, m1, m2, m3, _, _, _, h3, g0, g1, g2, g3 => al2_ok (al2_ok (al2_ok (al2_ok (al3_ok own_c_2_1_1 h3) g0) g1) g2) g3
  | 2, 1, 2, k3, m0, m1, m2, m3, _, _, _, h3, g0, g1, g2, g3 => al2_ok (al2_ok (al2_ok (al2_ok (al3_ok own_c_2_1_2 h3) g0) g1) g2) g3
  | 2, 2, 0, k3, m0, m1, m2, m3, _, _, _, h3, g0, g1, g2, g3 => al2_ok (al2_ok (al2_ok (al2_ok (al3_ok own_c_2_2_0 h3) g0) g1) g2) g3
  | 2, 2, 1, k3, m0, m1, m2, m3, _, _, _, h3, g0, g1, g2, g3 => al2_ok (al2_ok (al2_ok (al2_ok (al3_ok own_c_2_2_1 h3) g0) g1) g2) g3
  | 2, 2, 2, k3, m0, m1, m2, m3, _, _, _, h3, g0, g1, g2, g3 => al2_ok (al2_ok (al2_ok (al2_ok (al3_ok own_c_2_2_2 h3) g0) g1) g2) g3
  | _ + 3, _, _, _, _, _, _, _, h, _, _, _, _, _, _, _ => absurd h (by omega)
  | _, _ + 3, _, _, _, _, _, _, _, h, _, _, _, _, _, _ => absurd h (by omega)
  | _, _, _ + 3, _, _, _, _, _, _, _, h, _, _, _, _, _ => absurd h (by omega)
theorem own_k (k : Int32) : ∃ j : Nat, j < 3 ∧ (k &&& 3) % 3 = Int32.ofNat j := by
  have h1 : (k &&& (3 : Int32)).toInt = k.toInt % 4 := c_mask k 3 2 (by decide) (by decide)
  have h2 := (c_irem (k &&& (3 : Int32)) 3 3 (by decide)).1 (by omega)
  exact lt_cases (by omega) (by omega)
theorem hT {Z : State} {a0 : Array Value} (hw : ∀ d ∈ tables_1, d.before a0 Z = true) : ∀ C F, gT C = some F → ClsOk Z a0 gK gC C F := by
  intro C F h
  match C, h with
  | 0, h => exact cls_of hw (by obtain rfl := Option.some.inj h; decide +kernel)
  | _ + 1, h => cases h
theorem own_apart (n : Nat) : ∀ i j, D0 i j = true → (((fun i => n + i, fun _ => 0) : Rho).1 i) ≠ (((fun i => n + i, fun _ => 0) : Rho).1 j) := by
  intro i j h e
  have e' : n + i = n + j := e
  have h2 : i ≠ j := fun q => by subst q; simp [D0] at h
  omega
theorem pnL : plainFor x = true := plainFor_of_name (by first | (simp [plainName, overriddenIn, x]; done) | decide +kernel)
set_option maxRecDepth 65536 in
set_option maxHeartbeats 40000000 in
theorem comes_1 {Post : Tables → Env → Array Value → State → Outcome → State → Prop} (hpost : ∀ tb e args s v u, (limb_1_1.after args s (.returned v) u = true ∧ limb_1_2.after args s (.returned v) u = true ∧ True) → FrameEnd s (.returned v) u (Jvm.fieldLocs frame_1_writes args s ++ Jvm.arrayLocs frame_1_arrays args s ++ Jvm.staticLocs frame_1_statics s) 40 384 → Post tb e args s (.returned v) u) :
    ArmFor flags0 classFile x code maxLocals ret World_1 tables_1 room_1 Calls_1 rest_1 Pre_1 Post := by
  intro l hfl _ _ p e ha hc hk s m args below hf hA hF happ hP0
  obtain ⟨hcalls, hrest, hpre⟩ := hP0
  obtain ⟨-, -, -, hnamed, -, -, -, hat⟩ := (Spec.applies_iff hf).mp happ
  obtain ⟨hg, hn⟩ := and_e (Cond.before_iff.mp (show (Jvm.Cond.and given_1 narrow_1).before args s = true from hpre))
  obtain ⟨gc, g0⟩ := and_e hg
  obtain ⟨k0, g1⟩ := and_e g0
  obtain ⟨k1, g2⟩ := and_e g1
  obtain ⟨w0, w1, w2, rfl⟩ : ∃ w0 w1 w2 : Value, args = #[w0, w1, w2] := by
    have hs : args.size = 3 := by simpa [Cond.value, given_1] using gc
    obtain ⟨L⟩ := args
    match L, hs with
    | [w0, w1, w2], _ => exact ⟨w0, w1, w2, rfl⟩
  have hw := fun d (hd : d ∈ tables_1) => atoms_spec (ws := Jvm.Cond.code x code maxLocals ret :: tables_1) hat d (List.mem_cons_of_mem _ hd)
  obtain ⟨i0, e0⟩ := is_v k0
  obtain rfl : w0 = (.int i0) := Option.some.inj e0
  obtain ⟨i1, e1⟩ := is_v k1
  obtain rfl : w1 = (.int i1) := Option.some.inj e1
  obtain ⟨i2, e2⟩ := is_v g2
  obtain rfl : w2 = (.int i2) := Option.some.inj e2
  obtain ⟨k0, p0, q0⟩ := own_k i0
  obtain ⟨k1, p1, q1⟩ := own_k (XT.ushr i0 2)
  obtain ⟨k2, p2, q2⟩ := own_k (XT.ushr i0 4)
  obtain ⟨k3, p3, q3⟩ := own_k (XT.ushr i0 6)
  obtain ⟨m0, u0, v0⟩ := bit_ex i1 0
  obtain ⟨m1, u1, v1⟩ := bit_ex i1 1
  obtain ⟨m2, u2, v2⟩ := bit_ex i1 2
  obtain ⟨m3, u3, v3⟩ := bit_ex i1 3
  obtain ⟨c0, x0, y0⟩ := bit_ex i2 0
  obtain ⟨c1, x1, y1⟩ := bit_ex i2 1
  obtain ⟨c2, x2, y2⟩ := bit_ex i2 2
  obtain ⟨c3, x3, y3⟩ := bit_ex i2 3
  obtain ⟨c4, x4, y4⟩ := bit_ex i2 4
  obtain ⟨ρ, hρ⟩ : ∃ ρ : Rho, ρ = (fun i => s.heap.size + i, fun t => match t with | 0 => i0 | 1 => i1 | 2 => i2 | 3 => i0 &&& 3 | 4 => XT.ushr i0 2 | 5 => XT.ushr i0 2 &&& 3 | 6 => XT.ushr i0 4 | 7 => XT.ushr i0 4 &&& 3 | 8 => XT.ushr i0 6 | _ => XT.ushr i0 6 &&& 3) := ⟨_, rfl⟩
  have hTB : TbOk ρ (tbF (tb3 k0 k1 k2 k3 m0 m1 m2 m3 c0 c1 c2 c3 c4)) := by
    subst hρ
    exact tbF_ok (OkT.en 3 rfl rfl (OkT.en 3 rfl rfl (OkT.en 3 rfl rfl (OkT.en 3 rfl rfl (OkT.en 1 rfl (congrArg Value.int v0.symm) (OkT.en 2 rfl (congrArg Value.int v1.symm) (OkT.en 4 rfl (congrArg Value.int v2.symm) (OkT.en 8 rfl (congrArg Value.int v3.symm) (OkT.en 1 rfl (congrArg Value.int y0.symm) (OkT.en 2 rfl (congrArg Value.int y1.symm) (OkT.en 4 rfl (congrArg Value.int y2.symm) (OkT.en 8 rfl (congrArg Value.int y3.symm) (OkT.en 16 rfl (congrArg Value.int y4.symm) OkT.no))))))))))))) (OkT.en 2 rfl rfl (OkT.en 4 rfl rfl (OkT.en 6 rfl rfl OkT.no))) (OkT.en 3 rfl ⟨by decide, congrArg Value.int q0.symm⟩ (OkT.en 3 rfl ⟨by decide, congrArg Value.int q1.symm⟩ (OkT.en 3 rfl ⟨by decide, congrArg Value.int q2.symm⟩ (OkT.en 3 rfl ⟨by decide, congrArg Value.int q3.symm⟩ OkT.no))))
  obtain ⟨r, ⟨N, hrun⟩, hr1, hrc, hrs⟩ := gB_ok x0 x1 x2 x3 x4 (own_all k0 k1 k2 k3 m0 m1 m2 m3 p0 p1 p2 p3 u0 u1 u2 u3)
  have hR := exec_ok (P := gP) (b := 0) (S := []) (CT := gT) (D := D0) (NI := N0) (TB := (tbF (tb3 k0 k1 k2 k3 m0 m1 m2 m3 c0 c1 c2 c3 c4))) (l := l) (Z := s) (a0 := _) (ρ := ρ) (K := gK) (CN := gC) (MN := gM) (n0 := s.heap.size) (fun i _ => by subst hρ; rfl) (fun i hi => absurd hi (Nat.not_lt_zero _)) (by subst hρ; exact own_apart s.heap.size) (hT hw) (fun C k h => by cases h) (hP hw) hTB N _ _ _ _ _ (good_of hw cL rfl) hrun
  obtain ⟨n, o, h1, h2, h3, _, L, rfl, ⟨hv, Nf, -, -⟩, hq⟩ := met_of hR pnL (h0 := s.heap) ⟨Nat.zero_le _, rfl, fun i o h => by (cases i <;> cases h), fun q h => by (cases h)⟩ tables_1 room_1 rfl rfl (Nat.le_trans hrc (by decide)) (Nat.le_trans hrs (by decide)) p e ha hc hk s m _ below hf ((Spec.applies_iff_loose hf).mp happ).1 ⟨by subst hρ; rfl, State.Warmed39.refl s, rfl⟩ trivial
  have hv1 : _ = some (Value.int 1) := hv.trans (by rw [hr1]; rfl)
  subst hv1
  refine ⟨n, _, h1, h2, h3, hpost _ _ _ _ _ _ ⟨Cond.after_iff.mpr rfl, Cond.after_iff.mpr (eq_i res_at (Term.int_eval (1)) rfl), trivial⟩ ⟨hq.1, hq.2.1, (hq.2.2.sift fun y hy => Or.inr (Nf y hy)).mono hrc hrs⟩⟩
theorem main_1_1 : Claimed_1_1 := comes_1 fun _ _ _ _ _ _ h hF => ⟨h.1, hF⟩
theorem main_1_2 : Claimed_1_2 := comes_1 fun _ _ _ _ _ _ h hF => ⟨h.2.1, hF⟩
end Jvm.Pilot.@@N@@
namespace Jvm.Pilot.@@N@@
open Jvm Jvm.ClassFile Sem Op Lib Jvm.Free Jvm.Stand Jvm.Pilot.@@N@@.Jvm.D
/-! MADE BY PROGRAM (witnessworld.py) out of the Statement's table words and the real class files: 11 classes; the members and pool entries that the words name. The judged class is class 1, her method 1. -/
namespace start1
open Jvm.ClassFile
def u (s : String) : CpInfo := .utf8 (stringToUtf16 s)
/-- a pool by its gaps: so many unusable entries, then the entry; so many at the end -/
def gap : Nat → List CpInfo → List CpInfo
  | 0, r => r
  | n + 1, r => .unusable :: gap n r
def poolList (es : List (Nat × CpInfo)) (last : Nat) : List CpInfo := es.foldr (fun e r => gap e.1 (e.2 :: r)) (gap last [])
def pool (es : List (Nat × CpInfo)) (last : Nat) : Array CpInfo := ⟨poolList es last⟩
def fileOf (pool : Array CpInfo) (this : Nat) (attrs : Array Attribute := #[]) (ms : Array MethodInfo := #[]) (fl : Nat := 33) (sup : Nat := 0) (ifs : Array Nat := #[]) (fds : Array FieldInfo := #[]) : ClassFile where
  minorVersion := 0
  majorVersion := 65
  constantPool := pool
  accessFlags := fl
  thisClass := this
  superClass := sup
  interfaces := ifs
  fields := fds
  methods := ms
  attributes := attrs
def plain (name : String) (sup : Option ClassId) : Class where
  name := name
  kind := .ordinary
  loader := none
  accessFlags := 33
  super := sup
  interfaces := #[]
  cf := none
  fields := #[]
  methods := #[]
  instanceTypes := #[]
  staticTypes := #[]
  resolved := #[]
  callSites := []
  init := .initialized
  statics := none
  mirror := none

def pool0 : Array CpInfo := pool [(5, u "<init>"), (0, u "()V"), (1, .class_ 10), (1, u "java/lang/Object")] 113

def k0c0 : Code := { maxStack := 0, maxLocals := 1, code := object_method_1_code, exceptionTable := #[], attributes := #[] }
def k0m0 : Method := { name := "<init>", desc := "()V", sig := { parameters := [], returnType := none }, accessFlags := 1, code := some k0c0 }
/-- java/lang/Object -/
def k0 : Class := { plain "java/lang/Object" none with
  accessFlags := 33
  interfaces := #[]
  cf := some (fileOf pool0 8 #[] #[{ accessFlags := 1, nameIndex := 5, descriptorIndex := 6, attributes := #[] }] 33 0 #[] #[])
  fields := #[]
  methods := #[k0m0]
  instanceTypes := #[]
  staticTypes := #[]
  resolved := Array.replicate 124 none
  statics := none }

def pool1 : Array CpInfo := pool [(2, .class_ 4), (1, u "java/lang/Object"), (0, u "<init>"), (0, u "()V"), (0, .class_ 8), (0, u "com/example/ourthe/ourthe/lts/RefinablePartition"), (0, .methodref 7 10), (0, .nameAndType 5 11), (0, u "([III)V"), (0, .methodref 7 13), (0, .nameAndType 14 15), (0, u "setCount"), (0, u "()I"), (0, .methodref 7 17), (0, .nameAndType 18 19), (0, u "setOf"), (0, u "(I)I"), (0, .methodref 21 22), (0, .class_ 23), (0, .nameAndType 24 25), (0, u "com/example/ourthe/ourthe/lts/RefinablePartitionMarkPinLaw"), (0, u "markIf"), (0, u "(Lcom/example/ourthe/ourthe/lts/RefinablePartition;IZ)V"), (0, .methodref 7 27), (0, .nameAndType 28 6), (0, u "split"), (0, .methodref 21 30), (0, .nameAndType 31 32), (0, u "mixed"), (0, u "([I[ZI)Z"), (0, .methodref 21 34), (0, .nameAndType 35 36), (0, u "elementOk"), (0, u "(Lcom/example/ourthe/ourthe/lts/RefinablePartition;[I[Z[I[IIII)Z"), (0, .methodref 21 38), (0, .nameAndType 39 40), (0, u "pairOk"), (0, u "([I[Z[III)Z"), (0, .methodref 21 42), (0, .nameAndType 43 44), (0, u "placeOk"), (0, u "(Lcom/example/ourthe/ourthe/lts/RefinablePartition;I)Z"), (0, .methodref 7 46), (0, .nameAndType 47 19), (0, u "element"), (0, .methodref 7 49), (0, .nameAndType 50 51), (0, u "mark"), (0, u "(I)V"), (0, .methodref 7 53), (0, .nameAndType 54 19), (0, u "parent"), (0, .methodref 21 56), (0, .nameAndType 57 58), (0, u "same"), (0, u "([I[ZII)I"), (0, .methodref 7 60), (0, .nameAndType 61 19), (0, u "size"), (0, .methodref 7 63), (0, .nameAndType 64 19), (0, u "first"), (0, .methodref 7 66), (0, .nameAndType 67 19), (0, u "end"), (2, u "law"), (0, u "(III)Z")] 7

def k1m0 : Method := { name := "<init>", desc := "()V", sig := { parameters := [], returnType := none }, accessFlags := 1, code := none }
def k1c1 : Code := { maxStack := 8, maxLocals := 12, code := code, exceptionTable := #[], attributes := #[] }
def k1m1 : Method := { name := "law", desc := "(III)Z", sig := { parameters := [.int, .int, .int], returnType := some .boolean }, accessFlags := 9, code := some k1c1 }
def k1c2 : Code := { maxStack := 2, maxLocals := 3, code := method_3_code, exceptionTable := #[], attributes := #[] }
def k1m2 : Method := { name := "markIf", desc := "(Lcom/example/ourthe/ourthe/lts/RefinablePartition;IZ)V", sig := { parameters := [(.object "com/example/ourthe/ourthe/lts/RefinablePartition"), .int, .boolean], returnType := none }, accessFlags := 10, code := some k1c2 }
def k1c3 : Code := { maxStack := 2, maxLocals := 5, code := method_4_code, exceptionTable := #[], attributes := #[] }
def k1m3 : Method := { name := "mixed", desc := "([I[ZI)Z", sig := { parameters := [(.array .int), (.array .boolean), .int], returnType := some .boolean }, accessFlags := 10, code := some k1c3 }
def k1c4 : Code := { maxStack := 3, maxLocals := 4, code := method_5_code, exceptionTable := #[], attributes := #[] }
def k1m4 : Method := { name := "same", desc := "([I[ZII)I", sig := { parameters := [(.array .int), (.array .boolean), .int, .int], returnType := some .int }, accessFlags := 10, code := some k1c4 }
def k1c5 : Code := { maxStack := 5, maxLocals := 10, code := method_6_code, exceptionTable := #[], attributes := #[] }
def k1m5 : Method := { name := "elementOk", desc := "(Lcom/example/ourthe/ourthe/lts/RefinablePartition;[I[Z[I[IIII)Z", sig := { parameters := [(.object "com/example/ourthe/ourthe/lts/RefinablePartition"), (.array .int), (.array .boolean), (.array .int), (.array .int), .int, .int, .int], returnType := some .boolean }, accessFlags := 10, code := some k1c5 }
def k1c6 : Code := { maxStack := 4, maxLocals := 5, code := method_7_code, exceptionTable := #[], attributes := #[] }
def k1m6 : Method := { name := "pairOk", desc := "([I[Z[III)Z", sig := { parameters := [(.array .int), (.array .boolean), (.array .int), .int, .int], returnType := some .boolean }, accessFlags := 10, code := some k1c6 }
def k1c7 : Code := { maxStack := 3, maxLocals := 4, code := method_8_code, exceptionTable := #[], attributes := #[] }
def k1m7 : Method := { name := "placeOk", desc := "(Lcom/example/ourthe/ourthe/lts/RefinablePartition;I)Z", sig := { parameters := [(.object "com/example/ourthe/ourthe/lts/RefinablePartition"), .int], returnType := some .boolean }, accessFlags := 10, code := some k1c7 }
/-- com/example/ourthe/ourthe/lts/RefinablePartitionMarkPinLaw -/
def k1 : Class := { plain "com/example/ourthe/ourthe/lts/RefinablePartitionMarkPinLaw" (some 0) with
  accessFlags := 49
  interfaces := #[]
  cf := some (fileOf pool1 21 #[] #[{ accessFlags := 1, nameIndex := 5, descriptorIndex := 6, attributes := #[] }, { accessFlags := 9, nameIndex := 70, descriptorIndex := 71, attributes := #[] }, { accessFlags := 10, nameIndex := 24, descriptorIndex := 25, attributes := #[] }, { accessFlags := 10, nameIndex := 31, descriptorIndex := 32, attributes := #[] }, { accessFlags := 10, nameIndex := 57, descriptorIndex := 58, attributes := #[] }, { accessFlags := 10, nameIndex := 35, descriptorIndex := 36, attributes := #[] }, { accessFlags := 10, nameIndex := 39, descriptorIndex := 40, attributes := #[] }, { accessFlags := 10, nameIndex := 43, descriptorIndex := 44, attributes := #[] }] 49 2 #[] #[])
  fields := #[]
  methods := #[k1m0, k1m1, k1m2, k1m3, k1m4, k1m5, k1m6, k1m7]
  instanceTypes := #[]
  staticTypes := #[]
  resolved := Array.replicate 79 none
  statics := none }

def pool2 : Array CpInfo := pool [(1, .methodref 2 3), (0, .class_ 4), (0, .nameAndType 5 6), (0, u "java/lang/Object"), (0, u "<init>"), (0, u "()V"), (0, .fieldref 8 9), (0, .class_ 10), (0, .nameAndType 11 12), (0, u "com/example/ourthe/ourthe/lts/RefinablePartition"), (0, u "elements"), (0, u "[I"), (0, .fieldref 8 14), (0, .nameAndType 15 12), (0, u "location"), (0, .fieldref 8 17), (0, .nameAndType 18 12), (0, u "setOf"), (0, .fieldref 8 20), (0, .nameAndType 21 12), (0, u "first"), (0, .fieldref 8 23), (0, .nameAndType 24 12), (0, u "end"), (0, .fieldref 8 26), (0, .nameAndType 27 12), (0, u "markEnd"), (0, .fieldref 8 29), (0, .nameAndType 30 12), (0, u "parent"), (0, .fieldref 8 32), (0, .nameAndType 33 12), (0, u "touched"), (0, .fieldref 8 35), (0, .nameAndType 36 37), (0, u "setCount"), (0, u "I"), (0, .fieldref 8 39), (0, .nameAndType 40 37), (0, u "touchedCount"), (21, u "([III)V"), (4, u "()I"), (0, u "(I)I"), (0, u "size"), (0, u "element"), (0, u "mark"), (0, u "(I)V"), (0, u "split")] 2

def k2c0 : Code := { maxStack := 5, maxLocals := 9, code := prog_69_method_1_code, exceptionTable := #[], attributes := #[] }
def k2m0 : Method := { name := "<init>", desc := "([III)V", sig := { parameters := [(.array .int), .int, .int], returnType := none }, accessFlags := 0, code := some k2c0 }
def k2c1 : Code := { maxStack := 1, maxLocals := 1, code := prog_69_method_2_code, exceptionTable := #[], attributes := #[] }
def k2m1 : Method := { name := "setCount", desc := "()I", sig := { parameters := [], returnType := some .int }, accessFlags := 0, code := some k2c1 }
def k2c2 : Code := { maxStack := 2, maxLocals := 2, code := prog_69_method_3_code, exceptionTable := #[], attributes := #[] }
def k2m2 : Method := { name := "setOf", desc := "(I)I", sig := { parameters := [.int], returnType := some .int }, accessFlags := 0, code := some k2c2 }
def k2c3 : Code := { maxStack := 2, maxLocals := 2, code := prog_69_method_4_code, exceptionTable := #[], attributes := #[] }
def k2m3 : Method := { name := "first", desc := "(I)I", sig := { parameters := [.int], returnType := some .int }, accessFlags := 0, code := some k2c3 }
def k2c4 : Code := { maxStack := 2, maxLocals := 2, code := prog_69_method_5_code, exceptionTable := #[], attributes := #[] }
def k2m4 : Method := { name := "end", desc := "(I)I", sig := { parameters := [.int], returnType := some .int }, accessFlags := 0, code := some k2c4 }
def k2c5 : Code := { maxStack := 3, maxLocals := 2, code := prog_69_method_6_code, exceptionTable := #[], attributes := #[] }
def k2m5 : Method := { name := "size", desc := "(I)I", sig := { parameters := [.int], returnType := some .int }, accessFlags := 0, code := some k2c5 }
def k2c6 : Code := { maxStack := 2, maxLocals := 2, code := prog_69_method_7_code, exceptionTable := #[], attributes := #[] }
def k2m6 : Method := { name := "element", desc := "(I)I", sig := { parameters := [.int], returnType := some .int }, accessFlags := 0, code := some k2c6 }
def k2c7 : Code := { maxStack := 2, maxLocals := 2, code := prog_69_method_8_code, exceptionTable := #[], attributes := #[] }
def k2m7 : Method := { name := "parent", desc := "(I)I", sig := { parameters := [.int], returnType := some .int }, accessFlags := 0, code := some k2c7 }
def k2c8 : Code := { maxStack := 5, maxLocals := 6, code := prog_69_method_9_code, exceptionTable := #[], attributes := #[] }
def k2m8 : Method := { name := "mark", desc := "(I)V", sig := { parameters := [.int], returnType := none }, accessFlags := 0, code := some k2c8 }
def k2c9 : Code := { maxStack := 4, maxLocals := 6, code := prog_69_method_10_code, exceptionTable := #[], attributes := #[] }
def k2m9 : Method := { name := "split", desc := "()V", sig := { parameters := [], returnType := none }, accessFlags := 0, code := some k2c9 }
/-- com/example/ourthe/ourthe/lts/RefinablePartition -/
def k2 : Class := { plain "com/example/ourthe/ourthe/lts/RefinablePartition" (some 0) with
  accessFlags := 48
  interfaces := #[]
  cf := some (fileOf pool2 8 #[] #[{ accessFlags := 0, nameIndex := 5, descriptorIndex := 62, attributes := #[] }, { accessFlags := 0, nameIndex := 36, descriptorIndex := 67, attributes := #[] }, { accessFlags := 0, nameIndex := 18, descriptorIndex := 68, attributes := #[] }, { accessFlags := 0, nameIndex := 21, descriptorIndex := 68, attributes := #[] }, { accessFlags := 0, nameIndex := 24, descriptorIndex := 68, attributes := #[] }, { accessFlags := 0, nameIndex := 69, descriptorIndex := 68, attributes := #[] }, { accessFlags := 0, nameIndex := 70, descriptorIndex := 68, attributes := #[] }, { accessFlags := 0, nameIndex := 30, descriptorIndex := 68, attributes := #[] }, { accessFlags := 0, nameIndex := 71, descriptorIndex := 72, attributes := #[] }, { accessFlags := 0, nameIndex := 73, descriptorIndex := 6, attributes := #[] }] 48 2 #[] #[{ accessFlags := 18, nameIndex := 11, descriptorIndex := 12, attributes := #[] }, { accessFlags := 18, nameIndex := 15, descriptorIndex := 12, attributes := #[] }, { accessFlags := 18, nameIndex := 18, descriptorIndex := 12, attributes := #[] }, { accessFlags := 2, nameIndex := 21, descriptorIndex := 12, attributes := #[] }, { accessFlags := 2, nameIndex := 24, descriptorIndex := 12, attributes := #[] }, { accessFlags := 2, nameIndex := 27, descriptorIndex := 12, attributes := #[] }, { accessFlags := 2, nameIndex := 30, descriptorIndex := 12, attributes := #[] }, { accessFlags := 2, nameIndex := 36, descriptorIndex := 37, attributes := #[] }, { accessFlags := 2, nameIndex := 33, descriptorIndex := 12, attributes := #[] }, { accessFlags := 2, nameIndex := 40, descriptorIndex := 37, attributes := #[] }])
  fields := #[{ name := "elements", type := (.array .int), accessFlags := 18, slot := 0, constantValue := 0 }, { name := "location", type := (.array .int), accessFlags := 18, slot := 1, constantValue := 0 }, { name := "setOf", type := (.array .int), accessFlags := 18, slot := 2, constantValue := 0 }, { name := "first", type := (.array .int), accessFlags := 2, slot := 3, constantValue := 0 }, { name := "end", type := (.array .int), accessFlags := 2, slot := 4, constantValue := 0 }, { name := "markEnd", type := (.array .int), accessFlags := 2, slot := 5, constantValue := 0 }, { name := "parent", type := (.array .int), accessFlags := 2, slot := 6, constantValue := 0 }, { name := "setCount", type := .int, accessFlags := 2, slot := 7, constantValue := 0 }, { name := "touched", type := (.array .int), accessFlags := 2, slot := 8, constantValue := 0 }, { name := "touchedCount", type := .int, accessFlags := 2, slot := 9, constantValue := 0 }]
  methods := #[k2m0, k2m1, k2m2, k2m3, k2m4, k2m5, k2m6, k2m7, k2m8, k2m9]
  instanceTypes := #[(.array .int), (.array .int), (.array .int), (.array .int), (.array .int), (.array .int), (.array .int), .int, (.array .int), .int]
  staticTypes := #[]
  resolved := Array.replicate 76 none
  statics := none }

def pool3 : Array CpInfo := pool [(1, u "java/lang/Cloneable"), (0, .class_ 1), (0, u "java/lang/Object"), (0, .class_ 3)] 3

/-- java/lang/Cloneable -/
def k3 : Class := { plain "java/lang/Cloneable" (some 0) with
  accessFlags := 1537
  interfaces := #[]
  cf := some (fileOf pool3 2 #[] #[] 1537 4 #[] #[])
  fields := #[]
  methods := #[]
  instanceTypes := #[]
  staticTypes := #[]
  resolved := Array.replicate 8 none
  statics := none }

def pool4 : Array CpInfo := pool [(1, u "java/io/Serializable"), (0, .class_ 1), (0, u "java/lang/Object"), (0, .class_ 3)] 3

/-- java/io/Serializable -/
def k4 : Class := { plain "java/io/Serializable" (some 0) with
  accessFlags := 1537
  interfaces := #[]
  cf := some (fileOf pool4 2 #[] #[] 1537 4 #[] #[])
  fields := #[]
  methods := #[]
  instanceTypes := #[]
  staticTypes := #[]
  resolved := Array.replicate 8 none
  statics := none }

/-- the primitive boolean -/
def k5 : Class := { plain "boolean" none with kind := .primitive 'Z', accessFlags := 0x411 }
/-- [Z -/
def k6 : Class := { plain "[Z" (some 0) with kind := .array 5 .boolean, interfaces := #[3, 4], accessFlags := 1041 }

/-- the primitive byte -/
def k7 : Class := { plain "byte" none with kind := .primitive 'B', accessFlags := 0x411 }
/-- [B -/
def k8 : Class := { plain "[B" (some 0) with kind := .array 7 .byte, interfaces := #[3, 4], accessFlags := 1041 }

/-- the primitive int -/
def k9 : Class := { plain "int" none with kind := .primitive 'I', accessFlags := 0x411 }
/-- [I -/
def k10 : Class := { plain "[I" (some 0) with kind := .array 9 .int, interfaces := #[3, 4], accessFlags := 1041 }

def heap : Heap := #[]
def classes : Array Class := #[k0, k1, k2, k3, k4, k5, k6, k7, k8, k9, k10]
def interned : List (Array UInt16 × Addr) := []
def slotsUsed : Nat := 0
def theMethod : MethodId := ⟨1, 1⟩
def args0 : Array Value := #[.int 27, .int 5, .int 3]
def aboutOver (below : List Frame) : State where
  vm := { classes := classes, interned := interned.toArray }
  heap := heap
  slotsUsed := slotsUsed
  threads := #[{ frames := .invoking theMethod args0 :: below }]
def below0 : List Frame := [.native { method := ⟨0, 0⟩, args := #[] }]
def about1 : State := aboutOver below0
def p0 : Program := .bare "" "" ""
def e0 : Env := launch0.env 0 0 0
theorem w_frames : about1.frames = Frame.invoking theMethod args0 :: below0 := rfl
set_option maxRecDepth 65536 in
theorem w_args : argsFit about1.vm theMethod args0 = true := by decide +kernel
set_option maxRecDepth 65536 in
theorem w_heap : heapFits about1 = true := by decide +kernel
set_option maxRecDepth 65536 in
theorem w_runnable : about1.curStatus? = some .runnable := by decide +kernel
set_option maxRecDepth 65536 in
theorem w_alone : about1.alone = true := by decide +kernel
set_option maxRecDepth 65536 in
theorem w_named : about1.methodNamed? x = some theMethod := by decide +kernel
set_option maxRecDepth 65536 in
theorem w_hears : about1.hears theMethod below0 = true := by decide +kernel
set_option maxRecDepth 65536 in
theorem w_ripe : about1.ripe theMethod args0 below0 = true := by decide +kernel
theorem w_running : about1.status = .running := rfl
set_option maxRecDepth 65536 in
theorem w_room : about1.hasRoom e0.platform room_1 = true :=
  launch0.hasRoom_least _ room_1 (by decide +kernel) (by decide +kernel) (by decide +kernel) (by decide +kernel) (by decide +kernel) (by decide +kernel)
theorem allAtoms_all (ts : List Jvm.Cond) (a : Array Jvm.Value) (st : Jvm.State) : (allAtoms ts).before a st = ts.all (fun c => c.before a st) := by
  induction ts with
  | nil => rfl
  | cons c t ih =>
    show (Jvm.Cond.and c (allAtoms t)).before a st = _
    rw [Jvm.Cond.before_and, ih, List.all_cons]
def words1 : List Jvm.Cond := Jvm.Cond.code x code maxLocals ret :: tables_1
/-- a 'code' word, met by the world's own term for the bytes: nothing is compared byte by byte -/
theorem code_word {y : MethodName} {bytes : ByteArray} {mx : Nat} {rt : Option FieldType} {a : Array Value} {s : State} {m : MethodId} {meth : Method} {c : Code} (h1 : s.methodNamed? y = some m) (h2 : s.vm.method? m = some meth) (h3 : meth.code = some c) (h4 : c.code = bytes)
    (h5 : (c.maxLocals == mx && c.exceptionTable.isEmpty && decide (c.maxStack ≤ mostOperands) && decide (meth.sig.returnType = rt) && !meth.locks && decide (parseMethodDescriptor y.desc = some meth.sig)) = true) : (Jvm.Cond.code y bytes mx rt).before a s = true := by
  simp only [Bool.and_eq_true, beq_iff_eq, Bool.not_eq_true', decide_eq_true_eq] at h5
  obtain ⟨⟨⟨⟨⟨g1, g2⟩, g3⟩, g4⟩, g5⟩, g6⟩ := h5
  simp [Cond.before, Cond.holds, Cond.value, h1, h2, h3, h4, g1, g2, g3, g4, g5, g6]
def isCode : Jvm.Cond → Bool
  | .code _ _ _ _ => true
  | _ => false
theorem all_split {L : List Jvm.Cond} {P : Jvm.Cond → Bool} (h1 : L.all (fun c => isCode c || P c) = true) (h2 : ∀ c ∈ L.filter isCode, P c = true) : L.all P = true := by
  refine List.all_eq_true.mpr fun c hc => ?_
  have h := List.all_eq_true.mp h1 c hc
  rcases Bool.eq_false_or_eq_true (isCode c) with hi | hi
  · exact h2 c (List.mem_filter.mpr ⟨hc, hi⟩)
  · simpa [hi] using h
set_option maxRecDepth 65536 in
theorem w_c0 : (Jvm.Cond.code x code maxLocals ret).before args0 about1 = true := code_word (m := ⟨1, 1⟩) (meth := k1m1) (c := k1c1) (by decide +kernel) rfl rfl rfl (by decide +kernel)
set_option maxRecDepth 65536 in
theorem w_c1 : (Jvm.Cond.code ({ cls := "com/example/ourthe/ourthe/lts/RefinablePartition", name := "<init>", desc := "([III)V" } : Jvm.MethodName) prog_69_method_1_code (9 : Nat) (Option.none : Option Jvm.ClassFile.FieldType)).before args0 about1 = true := code_word (m := ⟨2, 0⟩) (meth := k2m0) (c := k2c0) (by decide +kernel) rfl rfl rfl (by decide +kernel)
set_option maxRecDepth 65536 in
theorem w_c2 : (Jvm.Cond.code ({ cls := "java/lang/Object", name := "<init>", desc := "()V" } : Jvm.MethodName) object_method_1_code (1 : Nat) (Option.none : Option Jvm.ClassFile.FieldType)).before args0 about1 = true := code_word (m := ⟨0, 0⟩) (meth := k0m0) (c := k0c0) (by decide +kernel) rfl rfl rfl (by decide +kernel)
set_option maxRecDepth 65536 in
theorem w_c3 : (Jvm.Cond.code ({ cls := "com/example/ourthe/ourthe/lts/RefinablePartition", name := "setCount", desc := "()I" } : Jvm.MethodName) prog_69_method_2_code (1 : Nat) (Option.some Jvm.ClassFile.FieldType.int)).before args0 about1 = true := code_word (m := ⟨2, 1⟩) (meth := k2m1) (c := k2c1) (by decide +kernel) rfl rfl rfl (by decide +kernel)
set_option maxRecDepth 65536 in
theorem w_c4 : (Jvm.Cond.code ({ cls := "com/example/ourthe/ourthe/lts/RefinablePartition", name := "setOf", desc := "(I)I" } : Jvm.MethodName) prog_69_method_3_code (2 : Nat) (Option.some Jvm.ClassFile.FieldType.int)).before args0 about1 = true := code_word (m := ⟨2, 2⟩) (meth := k2m2) (c := k2c2) (by decide +kernel) rfl rfl rfl (by decide +kernel)
set_option maxRecDepth 65536 in
theorem w_c5 : (Jvm.Cond.code ({ cls := "com/example/ourthe/ourthe/lts/RefinablePartitionMarkPinLaw", name := "markIf", desc := "(Lcom/example/ourthe/ourthe/lts/RefinablePartition;IZ)V" } : Jvm.MethodName) method_3_code (3 : Nat) (Option.none : Option Jvm.ClassFile.FieldType)).before args0 about1 = true := code_word (m := ⟨1, 2⟩) (meth := k1m2) (c := k1c2) (by decide +kernel) rfl rfl rfl (by decide +kernel)
set_option maxRecDepth 65536 in
theorem w_c6 : (Jvm.Cond.code ({ cls := "com/example/ourthe/ourthe/lts/RefinablePartition", name := "mark", desc := "(I)V" } : Jvm.MethodName) prog_69_method_9_code (6 : Nat) (Option.none : Option Jvm.ClassFile.FieldType)).before args0 about1 = true := code_word (m := ⟨2, 8⟩) (meth := k2m8) (c := k2c8) (by decide +kernel) rfl rfl rfl (by decide +kernel)
set_option maxRecDepth 65536 in
theorem w_c7 : (Jvm.Cond.code ({ cls := "com/example/ourthe/ourthe/lts/RefinablePartition", name := "split", desc := "()V" } : Jvm.MethodName) prog_69_method_10_code (6 : Nat) (Option.none : Option Jvm.ClassFile.FieldType)).before args0 about1 = true := code_word (m := ⟨2, 9⟩) (meth := k2m9) (c := k2c9) (by decide +kernel) rfl rfl rfl (by decide +kernel)
set_option maxRecDepth 65536 in
theorem w_c8 : (Jvm.Cond.code ({ cls := "com/example/ourthe/ourthe/lts/RefinablePartitionMarkPinLaw", name := "mixed", desc := "([I[ZI)Z" } : Jvm.MethodName) method_4_code (5 : Nat) (Option.some Jvm.ClassFile.FieldType.boolean)).before args0 about1 = true := code_word (m := ⟨1, 3⟩) (meth := k1m3) (c := k1c3) (by decide +kernel) rfl rfl rfl (by decide +kernel)
set_option maxRecDepth 65536 in
theorem w_c9 : (Jvm.Cond.code ({ cls := "com/example/ourthe/ourthe/lts/RefinablePartitionMarkPinLaw", name := "elementOk", desc := "(Lcom/example/ourthe/ourthe/lts/RefinablePartition;[I[Z[I[IIII)Z" } : Jvm.MethodName) method_6_code (10 : Nat) (Option.some Jvm.ClassFile.FieldType.boolean)).before args0 about1 = true := code_word (m := ⟨1, 5⟩) (meth := k1m5) (c := k1c5) (by decide +kernel) rfl rfl rfl (by decide +kernel)
set_option maxRecDepth 65536 in
theorem w_c10 : (Jvm.Cond.code ({ cls := "com/example/ourthe/ourthe/lts/RefinablePartition", name := "parent", desc := "(I)I" } : Jvm.MethodName) prog_69_method_8_code (2 : Nat) (Option.some Jvm.ClassFile.FieldType.int)).before args0 about1 = true := code_word (m := ⟨2, 7⟩) (meth := k2m7) (c := k2c7) (by decide +kernel) rfl rfl rfl (by decide +kernel)
set_option maxRecDepth 65536 in
theorem w_c11 : (Jvm.Cond.code ({ cls := "com/example/ourthe/ourthe/lts/RefinablePartitionMarkPinLaw", name := "same", desc := "([I[ZII)I" } : Jvm.MethodName) method_5_code (4 : Nat) (Option.some Jvm.ClassFile.FieldType.int)).before args0 about1 = true := code_word (m := ⟨1, 4⟩) (meth := k1m4) (c := k1c4) (by decide +kernel) rfl rfl rfl (by decide +kernel)
set_option maxRecDepth 65536 in
theorem w_c12 : (Jvm.Cond.code ({ cls := "com/example/ourthe/ourthe/lts/RefinablePartition", name := "size", desc := "(I)I" } : Jvm.MethodName) prog_69_method_6_code (2 : Nat) (Option.some Jvm.ClassFile.FieldType.int)).before args0 about1 = true := code_word (m := ⟨2, 5⟩) (meth := k2m5) (c := k2c5) (by decide +kernel) rfl rfl rfl (by decide +kernel)
set_option maxRecDepth 65536 in
theorem w_c13 : (Jvm.Cond.code ({ cls := "com/example/ourthe/ourthe/lts/RefinablePartitionMarkPinLaw", name := "pairOk", desc := "([I[Z[III)Z" } : Jvm.MethodName) method_7_code (5 : Nat) (Option.some Jvm.ClassFile.FieldType.boolean)).before args0 about1 = true := code_word (m := ⟨1, 6⟩) (meth := k1m6) (c := k1c6) (by decide +kernel) rfl rfl rfl (by decide +kernel)
set_option maxRecDepth 65536 in
theorem w_c14 : (Jvm.Cond.code ({ cls := "com/example/ourthe/ourthe/lts/RefinablePartitionMarkPinLaw", name := "placeOk", desc := "(Lcom/example/ourthe/ourthe/lts/RefinablePartition;I)Z" } : Jvm.MethodName) method_8_code (4 : Nat) (Option.some Jvm.ClassFile.FieldType.boolean)).before args0 about1 = true := code_word (m := ⟨1, 7⟩) (meth := k1m7) (c := k1c7) (by decide +kernel) rfl rfl rfl (by decide +kernel)
set_option maxRecDepth 65536 in
theorem w_c15 : (Jvm.Cond.code ({ cls := "com/example/ourthe/ourthe/lts/RefinablePartition", name := "element", desc := "(I)I" } : Jvm.MethodName) prog_69_method_7_code (2 : Nat) (Option.some Jvm.ClassFile.FieldType.int)).before args0 about1 = true := code_word (m := ⟨2, 6⟩) (meth := k2m6) (c := k2c6) (by decide +kernel) rfl rfl rfl (by decide +kernel)
set_option maxRecDepth 65536 in
theorem w_c16 : (Jvm.Cond.code ({ cls := "com/example/ourthe/ourthe/lts/RefinablePartition", name := "first", desc := "(I)I" } : Jvm.MethodName) prog_69_method_4_code (2 : Nat) (Option.some Jvm.ClassFile.FieldType.int)).before args0 about1 = true := code_word (m := ⟨2, 3⟩) (meth := k2m3) (c := k2c3) (by decide +kernel) rfl rfl rfl (by decide +kernel)
set_option maxRecDepth 65536 in
theorem w_c17 : (Jvm.Cond.code ({ cls := "com/example/ourthe/ourthe/lts/RefinablePartition", name := "end", desc := "(I)I" } : Jvm.MethodName) prog_69_method_5_code (2 : Nat) (Option.some Jvm.ClassFile.FieldType.int)).before args0 about1 = true := code_word (m := ⟨2, 4⟩) (meth := k2m4) (c := k2c4) (by decide +kernel) rfl rfl rfl (by decide +kernel)
def codes1 : List Jvm.Cond := [Jvm.Cond.code x code maxLocals ret, Jvm.Cond.code ({ cls := "com/example/ourthe/ourthe/lts/RefinablePartition", name := "<init>", desc := "([III)V" } : Jvm.MethodName) prog_69_method_1_code (9 : Nat) (Option.none : Option Jvm.ClassFile.FieldType), Jvm.Cond.code ({ cls := "java/lang/Object", name := "<init>", desc := "()V" } : Jvm.MethodName) object_method_1_code (1 : Nat) (Option.none : Option Jvm.ClassFile.FieldType), Jvm.Cond.code ({ cls := "com/example/ourthe/ourthe/lts/RefinablePartition", name := "setCount", desc := "()I" } : Jvm.MethodName) prog_69_method_2_code (1 : Nat) (Option.some Jvm.ClassFile.FieldType.int), Jvm.Cond.code ({ cls := "com/example/ourthe/ourthe/lts/RefinablePartition", name := "setOf", desc := "(I)I" } : Jvm.MethodName) prog_69_method_3_code (2 : Nat) (Option.some Jvm.ClassFile.FieldType.int), Jvm.Cond.code ({ cls := "com/example/ourthe/ourthe/lts/RefinablePartitionMarkPinLaw", name := "markIf", desc := "(Lcom/example/ourthe/ourthe/lts/RefinablePartition;IZ)V" } : Jvm.MethodName) method_3_code (3 : Nat) (Option.none : Option Jvm.ClassFile.FieldType), Jvm.Cond.code ({ cls := "com/example/ourthe/ourthe/lts/RefinablePartition", name := "mark", desc := "(I)V" } : Jvm.MethodName) prog_69_method_9_code (6 : Nat) (Option.none : Option Jvm.ClassFile.FieldType), Jvm.Cond.code ({ cls := "com/example/ourthe/ourthe/lts/RefinablePartition", name := "split", desc := "()V" } : Jvm.MethodName) prog_69_method_10_code (6 : Nat) (Option.none : Option Jvm.ClassFile.FieldType), Jvm.Cond.code ({ cls := "com/example/ourthe/ourthe/lts/RefinablePartitionMarkPinLaw", name := "mixed", desc := "([I[ZI)Z" } : Jvm.MethodName) method_4_code (5 : Nat) (Option.some Jvm.ClassFile.FieldType.boolean), Jvm.Cond.code ({ cls := "com/example/ourthe/ourthe/lts/RefinablePartitionMarkPinLaw", name := "elementOk", desc := "(Lcom/example/ourthe/ourthe/lts/RefinablePartition;[I[Z[I[IIII)Z" } : Jvm.MethodName) method_6_code (10 : Nat) (Option.some Jvm.ClassFile.FieldType.boolean), Jvm.Cond.code ({ cls := "com/example/ourthe/ourthe/lts/RefinablePartition", name := "parent", desc := "(I)I" } : Jvm.MethodName) prog_69_method_8_code (2 : Nat) (Option.some Jvm.ClassFile.FieldType.int), Jvm.Cond.code ({ cls := "com/example/ourthe/ourthe/lts/RefinablePartitionMarkPinLaw", name := "same", desc := "([I[ZII)I" } : Jvm.MethodName) method_5_code (4 : Nat) (Option.some Jvm.ClassFile.FieldType.int), Jvm.Cond.code ({ cls := "com/example/ourthe/ourthe/lts/RefinablePartition", name := "size", desc := "(I)I" } : Jvm.MethodName) prog_69_method_6_code (2 : Nat) (Option.some Jvm.ClassFile.FieldType.int), Jvm.Cond.code ({ cls := "com/example/ourthe/ourthe/lts/RefinablePartitionMarkPinLaw", name := "pairOk", desc := "([I[Z[III)Z" } : Jvm.MethodName) method_7_code (5 : Nat) (Option.some Jvm.ClassFile.FieldType.boolean), Jvm.Cond.code ({ cls := "com/example/ourthe/ourthe/lts/RefinablePartitionMarkPinLaw", name := "placeOk", desc := "(Lcom/example/ourthe/ourthe/lts/RefinablePartition;I)Z" } : Jvm.MethodName) method_8_code (4 : Nat) (Option.some Jvm.ClassFile.FieldType.boolean), Jvm.Cond.code ({ cls := "com/example/ourthe/ourthe/lts/RefinablePartition", name := "element", desc := "(I)I" } : Jvm.MethodName) prog_69_method_7_code (2 : Nat) (Option.some Jvm.ClassFile.FieldType.int), Jvm.Cond.code ({ cls := "com/example/ourthe/ourthe/lts/RefinablePartition", name := "first", desc := "(I)I" } : Jvm.MethodName) prog_69_method_4_code (2 : Nat) (Option.some Jvm.ClassFile.FieldType.int), Jvm.Cond.code ({ cls := "com/example/ourthe/ourthe/lts/RefinablePartition", name := "end", desc := "(I)I" } : Jvm.MethodName) prog_69_method_5_code (2 : Nat) (Option.some Jvm.ClassFile.FieldType.int)]
set_option maxRecDepth 65536 in
theorem codes_eq : words1.filter isCode = codes1 := rfl
theorem w_codes : ∀ c ∈ words1.filter isCode, c.before args0 about1 = true := by
  rw [codes_eq]
  intro c hc
  simp only [codes1, List.mem_cons, List.not_mem_nil, or_false] at hc
  rcases hc with rfl | rfl | rfl | rfl | rfl | rfl | rfl | rfl | rfl | rfl | rfl | rfl | rfl | rfl | rfl | rfl | rfl | rfl
  · exact w_c0
  · exact w_c1
  · exact w_c2
  · exact w_c3
  · exact w_c4
  · exact w_c5
  · exact w_c6
  · exact w_c7
  · exact w_c8
  · exact w_c9
  · exact w_c10
  · exact w_c11
  · exact w_c12
  · exact w_c13
  · exact w_c14
  · exact w_c15
  · exact w_c16
  · exact w_c17
set_option maxRecDepth 65536 in
theorem w_t1 : (words1.take 24).all (fun c => isCode c || c.before args0 about1) = true := by decide +kernel
set_option maxRecDepth 65536 in
theorem w_t2 : ((words1.drop 24).take 24).all (fun c => isCode c || c.before args0 about1) = true := by decide +kernel
set_option maxRecDepth 65536 in
theorem w_t3 : (((words1.drop 24).drop 24).take 24).all (fun c => isCode c || c.before args0 about1) = true := by decide +kernel
set_option maxRecDepth 65536 in
theorem w_t4 : (((words1.drop 24).drop 24).drop 24).all (fun c => isCode c || c.before args0 about1) = true := by decide +kernel
theorem w_tables : (allAtoms (Jvm.Cond.code x code maxLocals ret :: tables_1)).before args0 about1 = true := by
  rw [allAtoms_all]
  show words1.all (fun c => c.before args0 about1) = true
  refine all_split ?_ w_codes
  rw [← List.take_append_drop 24 words1, List.all_append, w_t1, ← List.take_append_drop 24 (words1.drop 24), List.all_append, w_t2, ← List.take_append_drop 24 ((words1.drop 24).drop 24), List.all_append, w_t3, w_t4]
  rfl
set_option maxRecDepth 65536 in
theorem w_case : (Jvm.Cond.and given_1 narrow_1).before args0 about1 = true := by decide +kernel
theorem w_applies : (headSpec (Jvm.Cond.code x code maxLocals ret :: tables_1) room_1).applies x e0.platform about1 = true :=
  (Spec.applies_iff w_frames).mpr ⟨w_running, w_runnable, w_alone, w_named, w_hears, w_ripe, w_room, w_tables⟩
theorem atStart : AtStart classFile x code maxLocals ret World_1 tables_1 room_1 Calls_1 rest_1 Pre_1 launch0 p0 e0 about1 theMethod args0 below0 :=
  ⟨lists_1, trivial, launch0.admits_env _ _ _, launch0.least_env, fairChoices_fair.cas, fairChoices_fair.clock, w_frames, w_args, w_heap, w_applies, trivial, trivial, w_case⟩
end start1
theorem witness_1 : WitnessClaimed_1 := ⟨start1.p0, start1.e0, start1.about1, start1.theMethod, start1.args0, start1.below0, start1.atStart⟩
end Jvm.Pilot.@@N@@
