import JvmDerived
import JvmDerived.Pilot.@@N@@Statement
import JvmDerived.Pilot.@@N@@Code
set_option linter.unusedVariables false
set_option linter.unusedSimpArgs false
namespace Jvm.Eng
open Jvm Jvm.ClassFile Sem Op Lib Jvm.Free Jvm.Stand Jvm.LawKit Jvm.RoadKit

/-! ## A small machine over abstract objects, and that the JVM's model does what it does -/
abbrev Obj : Type := Sum (FieldType × List Value) (Nat × List (Nat × Value))
abbrev Row : Type := Instr × Nat × Nat × Nat × Value
abbrev Meth : Type := MethodName × ByteArray × Nat × Option FieldType × (Nat → Option Row)
abbrev Fm : Type := Nat × List Slot × List Value
abbrev Cfg : Type := Fm × List Obj × Nat × Nat
abbrev Res : Type := Option Value × List Obj × Nat × Nat
abbrev Fls : Type := Nat × List (Nat × Value × Bool)

/-- where the abstract references lie, and what the tokens (ints that are not known) stand for -/
abbrev Rho : Type := (Nat → Addr) × (Nat → Int32)
/-- an abstract value read by the map of its references and tokens -/
def rl (ρ : Rho) : Value → Value
  | .ref i => .ref (ρ.1 i)
  | .retAddr t => .int (ρ.2 t)
  | v => v
def rs (ρ : Rho) : Slot → Slot
  | .val v => .val (rl ρ v)
  | s => s
abbrev ar (ρ : Rho) (l : List Slot) : Array Slot := (l.map (rs ρ)).toArray
abbrev fm (ρ : Rho) (m : MethodId) (f : Fm) : JFrame := mkF m f.1 (ar ρ f.2.1) (f.2.2.map (rl ρ))

theorem rl_isRef (ρ : Rho) (v : Value) : (rl ρ v).isRef = v.isRef := by cases v <;> rfl
theorem rl_cat (ρ : Rho) (v : Value) : (rl ρ v).category = v.category := by cases v <;> rfl

/-! ### local variables -/
def setS (l : List Slot) (i : Nat) (x : Slot) : Option (List Slot) := if i < l.length then some (l.set i x) else none
def stSelf (l : List Slot) (i : Nat) (v : Value) : Option (List Slot) :=
  match setS l i (.val v) with
  | none => none
  | some l => if v.category = 2 then
      match l[i + 1]? with
      | none => none
      | some (.val old) => if old.category = 2 then (match setS l (i + 2) .unset with | none => none | some l' => setS l' (i + 1) .second) else setS l (i + 1) .second
      | some _ => setS l (i + 1) .second
    else some l
def stL (l : List Slot) (i : Nat) (v : Value) : Option (List Slot) :=
  match l[i]? with
  | none => none
  | some .second => (match setS l (i - 1) .unset with | none => none | some l' => stSelf l' i v)
  | some (.val old) => if old.category = 2 then (match setS l (i + 1) .unset with | none => none | some l' => stSelf l' i v) else stSelf l i v
  | some .unset => stSelf l i v

theorem ar_get {ρ : Rho} {l : List Slot} {i : Nat} {x : Slot} (h : l[i]? = some x) : (ar ρ l)[i]? = some (rs ρ x) := by simp [ar, h]
theorem setS_ok {ρ : Rho} {l l' : List Slot} {i : Nat} {x : Slot} (h : setS l i x = some l') : setAt (ar ρ l) i (rs ρ x) = some (ar ρ l') := by
  unfold setS at h
  split at h
  · rename_i q
    cases h
    unfold setAt
    rw [if_pos (by simpa [ar] using q)]
    simp [ar, List.map_set]
  · cases h
theorem stSelf_ok {ρ : Rho} {l l' : List Slot} {i : Nat} {v : Value} (h : stSelf l i v = some l') : storeSelf (ar ρ l) i (rl ρ v) = some (ar ρ l') := by
  unfold stSelf at h
  unfold storeSelf
  cases h1 : setS l i (.val v) with
  | none => rw [h1] at h; cases h
  | some l1 =>
    rw [h1] at h
    have q1 : setAt (ar ρ l) i (.val (rl ρ v)) = some (ar ρ l1) := setS_ok (ρ := ρ) h1
    simp only [q1, Option.bind_eq_bind, Option.bind_some, rl_cat]
    dsimp only at h
    split at h
    · rename_i hc
      rw [if_pos hc]
      cases h2 : l1[i + 1]? with
      | none => rw [h2] at h; cases h
      | some s2 =>
        rw [h2] at h
        rw [ar_get h2]
        cases s2 with
        | unset => exact setS_ok (ρ := ρ) h
        | second => exact setS_ok (ρ := ρ) h
        | val old =>
          simp only [rs, Option.bind_some, rl_cat]
          dsimp only at h
          split at h
          · rename_i hc2
            rw [if_pos hc2]
            cases h3 : setS l1 (i + 2) .unset with
            | none => rw [h3] at h; cases h
            | some l3 =>
              rw [h3] at h
              have q3 : setAt (ar ρ l1) (i + 2) .unset = some (ar ρ l3) := setS_ok (ρ := ρ) h3
              rw [q3]
              exact setS_ok (ρ := ρ) h
          · rename_i hc2
            rw [if_neg hc2]
            exact setS_ok (ρ := ρ) h
    · rename_i hc
      rw [if_neg hc]
      cases h; rfl
theorem stL_ok {ρ : Rho} {l l' : List Slot} {i : Nat} {v : Value} (h : stL l i v = some l') : storeLocals (ar ρ l) i (rl ρ v) = some (ar ρ l') := by
  unfold stL at h
  unfold storeLocals
  cases h1 : l[i]? with
  | none => rw [h1] at h; cases h
  | some s1 =>
    rw [h1] at h
    rw [ar_get h1]
    cases s1 with
    | unset => exact stSelf_ok h
    | second =>
      dsimp only at h
      simp only [rs, Option.bind_eq_bind, Option.bind_some]
      cases h2 : setS l (i - 1) .unset with
      | none => rw [h2] at h; cases h
      | some l2 =>
        rw [h2] at h
        have q : setAt (ar ρ l) (i - 1) .unset = some (ar ρ l2) := setS_ok (ρ := ρ) h2
        rw [q]
        exact stSelf_ok h
    | val old =>
      dsimp only at h
      simp only [rs, Option.bind_eq_bind, Option.bind_some, rl_cat]
      split at h
      · rename_i hc
        rw [if_pos hc]
        cases h2 : setS l (i + 1) .unset with
        | none => rw [h2] at h; cases h
        | some l2 =>
          rw [h2] at h
          have q : setAt (ar ρ l) (i + 1) .unset = some (ar ρ l2) := setS_ok (ρ := ρ) h2
          rw [q]
          exact stSelf_ok h
      · rename_i hc
        rw [if_neg hc]
        exact stSelf_ok h

/-- the frame with which a method is entered -/
def flat : List Value → List Slot
  | [] => []
  | v :: vs => if v.category = 2 then .val v :: .second :: flat vs else .val v :: flat vs
def entL (as : List Value) (maxL : Nat) : List Slot := flat as ++ List.replicate (maxL - (flat as).length) .unset
theorem flat_fold (ρ : Rho) : ∀ (as : List Value) (acc : Array Slot),
    (as.map (rl ρ)).foldl (fun acc v => if v.category = 2 then (acc.push (.val v)).push .second else acc.push (.val v)) acc = acc ++ ar ρ (flat as)
  | [], acc => by simp [flat, ar]
  | v :: vs, acc => by
    simp only [List.map_cons, List.foldl_cons, rl_cat]
    rw [flat_fold ρ vs]
    by_cases hc : v.category = 2
    · simp [flat, hc, ar, rs]
    · simp [flat, hc, ar, rs]
theorem ent_ok (ρ : Rho) (m : MethodId) (as : List Value) (maxL : Nat) : entryFrame m (as.map (rl ρ)).toArray maxL = fm ρ m (0, entL as maxL, []) := by
  have h : argsToLocals (as.map (rl ρ)).toArray maxL = ar ρ (entL as maxL) := by
    unfold argsToLocals
    have q := flat_fold ρ as #[]
    simp only [List.foldl_toArray'] at *
    rw [q]
    simp [entL, ar, rs]
  simp only [entryFrame, h, fm, mkF, List.map_nil]

/-! ### the pure steps -/
def isI : Value → Bool | .int _ => true | .retAddr _ => true | _ => false
def isJ : Value → Bool | .long _ => true | _ => false
def bI (g : Int32 → Int32 → Int32) : Fm → Option Fm
  | (pc, ls, .int y :: .int x :: st) => some (pc + 1, ls, .int (g x y) :: st)
  | _ => none
def bI0 (g : Int32 → Int32 → Int32) : Fm → Option Fm
  | (pc, ls, .int y :: .int x :: st) => if y = 0 then none else some (pc + 1, ls, .int (g x y) :: st)
  | _ => none
def bL (g : Int64 → Int64 → Int64) : Fm → Option Fm
  | (pc, ls, .long y :: .long x :: st) => some (pc + 1, ls, .long (g x y) :: st)
  | _ => none
def bL0 (g : Int64 → Int64 → Int64) : Fm → Option Fm
  | (pc, ls, .long y :: .long x :: st) => if y = 0 then none else some (pc + 1, ls, .long (g x y) :: st)
  | _ => none
def sL (g : Int64 → Int32 → Int64) : Fm → Option Fm
  | (pc, ls, .int y :: .long x :: st) => some (pc + 1, ls, .long (g x y) :: st)
  | _ => none
def uI (g : Int32 → Int32) : Fm → Option Fm
  | (pc, ls, .int x :: st) => some (pc + 1, ls, .int (g x) :: st)
  | _ => none
def ld (n k : Nat) (ok : Value → Bool) : Fm → Option Fm
  | (pc, ls, st) => match ls[k]? with
    | some (.val v) => if ok v then some (pc + n, ls, v :: st) else none
    | _ => none
def sto (n k : Nat) (ok : Value → Bool) : Fm → Option Fm
  | (pc, ls, v :: st) => if ok v then (match stL ls k v with | some ls' => some (pc + n, ls', st) | none => none) else none
  | _ => none
def psh (n : Nat) (v : Value) : Fm → Option Fm
  | (pc, ls, st) => some (pc + n, ls, v :: st)
def br (c : Bool) (o : Int) (pc : Nat) (ls : List Slot) (st : List Value) : Option Fm :=
  match c with
  | true => if 0 ≤ (pc : Int) + o then some (((pc : Int) + o).toNat, ls, st) else none
  | false => some (pc + 3, ls, st)
/-- the same reference? D: those that are known to be apart -/
def sameR (D : Nat → Nat → Bool) : Value → Value → Option Bool
  | .null, .null => some true
  | .null, .ref _ => some false
  | .ref _, .null => some false
  | .ref i, .ref j => if i = j then some true else if D i j then some false else none
  | _, _ => none
def pIinc (k : Nat) (c : Int) : Fm → Option Fm
  | (pc, ls, st) => match ls[k]? with
    | some (.val (.int x)) => (match stL ls k (.int (x + Int32.ofInt c)) with | some ls' => some (pc + 3, ls', st) | none => none)
    | _ => none
def pGoto (o : Int) : Fm → Option Fm
  | (pc, ls, st) => if 0 ≤ (pc : Int) + o then some (((pc : Int) + o).toNat, ls, st) else none
def pIf (cd : ClassFile.Cond) (o : Int) : Fm → Option Fm
  | (pc, ls, .int x :: st) => br (ifCond.holds cd x) o pc ls st
  | _ => none
def pIcmp (cd : ClassFile.Cond) (o : Int) : Fm → Option Fm
  | (pc, ls, .int y :: .int x :: st) => br (if_icmp.holds cd x y) o pc ls st
  | _ => none
def pAcmp (D : Nat → Nat → Bool) (cd : ACond) (o : Int) : Fm → Option Fm
  | (pc, ls, y :: x :: st) => if 0 ≤ (pc : Int) + o then (match sameR D x y with | some sm => br (acV cd sm) o pc ls st | none => none) else none
  | _ => none
def pNull (w : Bool) (o : Int) : Fm → Option Fm
  | (pc, ls, .null :: st) => br w o pc ls st
  | (pc, ls, .ref _ :: st) => br (!w) o pc ls st
  | _ => none
def pLcmp : Fm → Option Fm
  | (pc, ls, .long y :: .long x :: st) => some (pc + 1, ls, .int (XT.cmpL x y) :: st)
  | _ => none
def pI2l : Fm → Option Fm
  | (pc, ls, .int x :: st) => some (pc + 1, ls, .long x.toInt64 :: st)
  | _ => none
def pL2i : Fm → Option Fm
  | (pc, ls, .long x :: st) => some (pc + 1, ls, .int x.toInt32 :: st)
  | _ => none
def c1 (v : Value) : Bool := v.category == 1
def pDup : Fm → Option Fm
  | (pc, ls, x :: st) => if c1 x then some (pc + 1, ls, x :: x :: st) else none
  | _ => none
def pPop : Fm → Option Fm
  | (pc, ls, x :: st) => if c1 x then some (pc + 1, ls, st) else none
  | _ => none
def pDupX1 : Fm → Option Fm
  | (pc, ls, x :: y :: st) => if c1 x && c1 y then some (pc + 1, ls, x :: y :: x :: st) else none
  | _ => none
def pDup2 : Fm → Option Fm
  | (pc, ls, x :: y :: st) => if c1 x && c1 y then some (pc + 1, ls, x :: y :: x :: y :: st) else none
  | _ => none
def pDupX2 : Fm → Option Fm
  | (pc, ls, x :: y :: z :: st) => if c1 x && c1 y && c1 z then some (pc + 1, ls, x :: y :: z :: x :: st) else none
  | _ => none
def pLdc (v : Value) (f : Fm) : Option Fm := match v with | .int _ => psh 2 v f | _ => none
def pLdc2 (v : Value) (f : Fm) : Option Fm := match v with | .long _ => psh 3 v f | _ => none

def pstep (D : Nat → Nat → Bool) (i : Instr) (v : Value) (f : Fm) : Option Fm :=
  match i with
  | .aload_n k => ld 1 k.val Value.isRef f
  | .aload k => ld 2 k Value.isRef f
  | .iload_n k => ld 1 k.val isI f
  | .iload k => ld 2 k isI f
  | .lload_n k => ld 1 k.val isJ f
  | .lload k => ld 2 k isJ f
  | .astore_n k => sto 1 k.val Value.isRef f
  | .astore k => sto 2 k Value.isRef f
  | .istore_n k => sto 1 k.val isI f
  | .istore k => sto 2 k isI f
  | .lstore_n k => sto 1 k.val isJ f
  | .lstore k => sto 2 k isJ f
  | .iconst c => psh 1 (.int (Int32.ofInt c)) f
  | .lconst c => psh 1 (.long (Int64.ofNat c)) f
  | .bipush c => psh 2 (.int (Int8.ofInt c).toInt32) f
  | .sipush c => psh 3 (.int (Int16.ofInt c).toInt32) f
  | .aconst_null => psh 1 .null f
  | .ldc _ => pLdc v f
  | .ldc2_w _ => pLdc2 v f
  | .iadd => bI (fun x y => x + y) f
  | .isub => bI (fun x y => x - y) f
  | .imul => bI (fun x y => x * y) f
  | .iand => bI (fun x y => x &&& y) f
  | .ior => bI (fun x y => x ||| y) f
  | .ixor => bI (fun x y => x ^^^ y) f
  | .ishl => bI (fun x y => x <<< (y &&& 31)) f
  | .ishr => bI (fun x y => x >>> (y &&& 31)) f
  | .iushr => bI XT.ushr f
  | .irem => bI0 (fun x y => x % y) f
  | .idiv => bI0 (fun x y => x / y) f
  | .ladd => bL (fun x y => x + y) f
  | .lsub => bL (fun x y => x - y) f
  | .lmul => bL (fun x y => x * y) f
  | .land => bL (fun x y => x &&& y) f
  | .lor => bL (fun x y => x ||| y) f
  | .lxor => bL (fun x y => x ^^^ y) f
  | .ldiv => bL0 (fun x y => x / y) f
  | .lrem => bL0 (fun x y => x - (x / y) * y) f
  | .lushr => sL XT.ushrL f
  | .iinc k c => pIinc k c f
  | .goto o => pGoto o f
  | .ifCond cd o => pIf cd o f
  | .if_icmp cd o => pIcmp cd o f
  | .if_acmp cd o => pAcmp D cd o f
  | .ifnull o => pNull true o f
  | .ifnonnull o => pNull false o f
  | .lcmp => pLcmp f
  | .i2l => pI2l f
  | .l2i => pL2i f
  | .i2b => uI (fun x => x.toInt8.toInt32) f
  | .i2c => uI (fun x => x.toUInt32.toUInt16.toUInt32.toInt32) f
  | .dup => pDup f
  | .dup_x1 => pDupX1 f
  | .dup_x2 => pDupX2 f
  | .dup2 => pDup2 f
  | .pop => pPop f
  | _ => none

/-- arithmetic of a token and a number: by a table of known answers -/
def tstep (TB : Instr → Nat → Int32 → Option Value) (i : Instr) (f : Fm) : Option Fm :=
  match i with
  | .iand => tI2 TB i f
  | .iushr => tI2 TB i f
  | .irem => tI2 TB i f
  | _ => none
where tI2 (TB : Instr → Nat → Int32 → Option Value) (i : Instr) : Fm → Option Fm
  | (pc, ls, .int y :: .retAddr t :: st) => match TB i t y with
    | some v => some (pc + 1, ls, v :: st)
    | none => none
  | _ => none
def ilen : Instr → Nat
  | .aload _ | .iload _ | .lload _ | .astore _ | .istore _ | .lstore _ | .bipush _ | .ldc _ | .newarray _ => 2
  | .sipush _ | .ldc2_w _ | .iinc _ _ | .goto _ | .ifCond _ _ | .if_icmp _ _ | .if_acmp _ _ | .ifnull _ | .ifnonnull _
  | .getfield _ | .putfield _ | .getstatic _ | .new _ | .anewarray _ | .checkcast _ | .instanceof _ | .invokestatic _ | .invokespecial _ | .invokevirtual _ => 3
  | .invokeinterface _ _ => 5
  | _ => 1

section Pure
variable {p : Program} {l : Launch} {e : Env} {R : Room} {s : State} {m : MethodId} {args : Array Value} {below : List Frame} {meth : Method} {c : Code} {T : State} {locs : List Loc} {cells slots : Nat} {Z : State} {a0 : Array Value}
variable {ρ : Rho} {D : Nat → Nat → Bool} {pc : Nat} {ls : List Slot} {st : List Value} {f' : Fm}

theorem bI_inv {g : Int32 → Int32 → Int32} (h : bI g (pc, ls, st) = some f') : ∃ x y r, st = .int y :: .int x :: r ∧ f' = (pc + 1, ls, .int (g x y) :: r) := by
  unfold bI at h
  split at h
  · rename_i q; cases q; cases h; exact ⟨_, _, _, rfl, rfl⟩
  · cases h
theorem bI0_inv {g : Int32 → Int32 → Int32} (h : bI0 g (pc, ls, st) = some f') : ∃ x y r, st = .int y :: .int x :: r ∧ y ≠ 0 ∧ f' = (pc + 1, ls, .int (g x y) :: r) := by
  unfold bI0 at h
  split at h
  · rename_i q; cases q
    split at h
    · cases h
    · rename_i hy; cases h; exact ⟨_, _, _, rfl, hy, rfl⟩
  · cases h
theorem bL_inv {g : Int64 → Int64 → Int64} (h : bL g (pc, ls, st) = some f') : ∃ x y r, st = .long y :: .long x :: r ∧ f' = (pc + 1, ls, .long (g x y) :: r) := by
  unfold bL at h
  split at h
  · rename_i q; cases q; cases h; exact ⟨_, _, _, rfl, rfl⟩
  · cases h
theorem bL0_inv {g : Int64 → Int64 → Int64} (h : bL0 g (pc, ls, st) = some f') : ∃ x y r, st = .long y :: .long x :: r ∧ y ≠ 0 ∧ f' = (pc + 1, ls, .long (g x y) :: r) := by
  unfold bL0 at h
  split at h
  · rename_i q; cases q
    split at h
    · cases h
    · rename_i hy; cases h; exact ⟨_, _, _, rfl, hy, rfl⟩
  · cases h
theorem sL_inv {g : Int64 → Int32 → Int64} (h : sL g (pc, ls, st) = some f') : ∃ x y r, st = .int y :: .long x :: r ∧ f' = (pc + 1, ls, .long (g x y) :: r) := by
  unfold sL at h
  split at h
  · rename_i q; cases q; cases h; exact ⟨_, _, _, rfl, rfl⟩
  · cases h
theorem uI_inv {g : Int32 → Int32} (h : uI g (pc, ls, st) = some f') : ∃ x r, st = .int x :: r ∧ f' = (pc + 1, ls, .int (g x) :: r) := by
  unfold uI at h
  split at h
  · rename_i q; cases q; cases h; exact ⟨_, _, rfl, rfl⟩
  · cases h
theorem ld_inv {n k : Nat} {ok : Value → Bool} (h : ld n k ok (pc, ls, st) = some f') : ∃ v, ls[k]? = some (.val v) ∧ ok v = true ∧ f' = (pc + n, ls, v :: st) := by
  unfold ld at h
  dsimp only at h
  split at h
  · rename_i v q
    split at h
    · rename_i hv; cases h; exact ⟨v, q, hv, rfl⟩
    · cases h
  · cases h
theorem sto_inv {n k : Nat} {ok : Value → Bool} (h : sto n k ok (pc, ls, st) = some f') : ∃ v r ls', st = v :: r ∧ ok v = true ∧ stL ls k v = some ls' ∧ f' = (pc + n, ls', r) := by
  unfold sto at h
  split at h
  · rename_i q; cases q
    split at h
    · rename_i hv
      split at h
      · rename_i ls' q; cases h; exact ⟨_, _, ls', rfl, hv, q, rfl⟩
      · cases h
    · cases h
  · cases h
theorem br_inv {b : Bool} {o : Int} {r : List Value} (h : br b o pc ls r = some f') : (b = true ∧ 0 ≤ (pc : Int) + o ∧ f' = (((pc : Int) + o).toNat, ls, r)) ∨ (b = false ∧ f' = (pc + 3, ls, r)) := by
  unfold br at h
  split at h
  · split at h
    · rename_i q; cases h; exact Or.inl ⟨rfl, q, rfl⟩
    · cases h
  · cases h; exact Or.inr ⟨rfl, rfl⟩
theorem isI_inv {v : Value} (h : isI v = true) : ∃ x, rl ρ v = .int x := by cases v <;> first | exact ⟨_, rfl⟩ | cases h
theorem isJ_inv {v : Value} (h : isJ v = true) : ∃ x, v = .long x := by cases v <;> first | exact ⟨_, rfl⟩ | cases h
theorem c1_inv {v : Value} (h : c1 v = true) : (rl ρ v).category = 1 := by rw [rl_cat]; simpa [c1] using h
theorem sameR_ok (hD : ∀ i j, D i j = true → ρ.1 i ≠ ρ.1 j) {x y : Value} {b : Bool} (h : sameR D x y = some b) : (rl ρ x).isRef = true ∧ (rl ρ y).isRef = true ∧ decide (rl ρ x = rl ρ y) = b := by
  unfold sameR at h
  split at h
  · cases h; exact ⟨rfl, rfl, rfl⟩
  · cases h; exact ⟨rfl, rfl, by simp [rl]⟩
  · cases h; exact ⟨rfl, rfl, by simp [rl]⟩
  · rename_i i j
    split at h
    · rename_i q; cases h; subst q; exact ⟨rfl, rfl, by simp⟩
    · split at h
      · rename_i q; cases h; exact ⟨rfl, rfl, by simpa [rl] using hD i j q⟩
      · cases h
  · cases h

theorem pstep_ok (X : Stand p l e R s m args below meth c T locs cells slots) (hx : p.tables.exec = Jvm.exec) {own : String} (hown : s.vm.findClass own = some m.cls) (hD : ∀ i j, D i j = true → ρ.1 i ≠ ρ.1 j)
    {i : Instr} {v : Value} (hd : decode c.code pc = .ok (i, ilen i)) (h1 : ∀ k x, i = .ldc k → v = .int x → (Cond.constant own k x).before args s = true) (h2 : ∀ k x, i = .ldc2_w k → v = .long x → (Cond.constantLong own k x).before args s = true)
    (h : pstep D i v (pc, ls, st) = some f') (target : State) (hr : Steps p.tables e below (T.setTop (fm ρ m f')) target) : Steps p.tables e below (T.setTop (fm ρ m (pc, ls, st))) target := by
  cases i
  case aload_n k => obtain ⟨v, q1, q2, rfl⟩ := ld_inv h; exact XS.aloadN X.here hx rfl hd (ar_get q1) (by rw [rl_isRef]; exact q2) hr
  case aload k => obtain ⟨v, q1, q2, rfl⟩ := ld_inv h; exact XS.aload X.here hx rfl hd (ar_get q1) (by rw [rl_isRef]; exact q2) hr
  case iload_n k =>
    obtain ⟨v, q1, q2, rfl⟩ := ld_inv h
    obtain ⟨x, hxv⟩ := isI_inv (ρ := ρ) q2
    exact XS.iloadN X.here hx rfl hd ((ar_get q1).trans (by rw [rs, hxv])) (by rw [← hxv]; exact hr)
  case iload k =>
    obtain ⟨v, q1, q2, rfl⟩ := ld_inv h
    obtain ⟨x, hxv⟩ := isI_inv (ρ := ρ) q2
    exact XS.iload X.here hx rfl hd ((ar_get q1).trans (by rw [rs, hxv])) (by rw [← hxv]; exact hr)
  case lload_n k => obtain ⟨v, q1, q2, rfl⟩ := ld_inv h; obtain ⟨x, rfl⟩ := isJ_inv q2; exact XT.lloadN X.here hx rfl hd (ar_get q1) hr
  case lload k => obtain ⟨v, q1, q2, rfl⟩ := ld_inv h; obtain ⟨x, rfl⟩ := isJ_inv q2; exact XT.lload X.here hx rfl hd (ar_get q1) hr
  case astore_n k => obtain ⟨v, r, ls', rfl, q2, q3, rfl⟩ := sto_inv h; exact XS.astoreN X.here hx rfl hd rfl (by rw [rl_isRef]; exact q2) (stL_ok q3) hr
  case astore k => obtain ⟨v, r, ls', rfl, q2, q3, rfl⟩ := sto_inv h; exact XS.astore X.here hx rfl hd rfl (by rw [rl_isRef]; exact q2) (stL_ok q3) hr
  case istore_n k =>
    obtain ⟨v, r, ls', rfl, q2, q3, rfl⟩ := sto_inv h
    obtain ⟨x, hxv⟩ := isI_inv (ρ := ρ) q2
    have q3' := stL_ok (ρ := ρ) q3
    rw [hxv] at q3'
    exact XS.istoreN X.here hx rfl hd (by show rl ρ v :: _ = _; rw [hxv]) q3' hr
  case istore k =>
    obtain ⟨v, r, ls', rfl, q2, q3, rfl⟩ := sto_inv h
    obtain ⟨x, hxv⟩ := isI_inv (ρ := ρ) q2
    have q3' := stL_ok (ρ := ρ) q3
    rw [hxv] at q3'
    exact XS.istore X.here hx rfl hd (by show rl ρ v :: _ = _; rw [hxv]) q3' hr
  case lstore_n k => obtain ⟨v, r, ls', rfl, q2, q3, rfl⟩ := sto_inv h; obtain ⟨x, rfl⟩ := isJ_inv q2; exact XT.lstoreN X.here hx rfl hd rfl (stL_ok (ρ := ρ) q3) hr
  case lstore k => obtain ⟨v, r, ls', rfl, q2, q3, rfl⟩ := sto_inv h; obtain ⟨x, rfl⟩ := isJ_inv q2; exact XT.lstore X.here hx rfl hd rfl (stL_ok (ρ := ρ) q3) hr
  case iconst k => cases h; exact XS.iconst X.here hx rfl hd hr
  case lconst k => cases h; exact XT.lconst X.here hx rfl hd hr
  case bipush k => cases h; exact XS.bipush X.here hx rfl hd hr
  case sipush k => cases h; exact XS.sipush X.here hx rfl hd hr
  case aconst_null => cases h; exact XS.aconstNull X.here hx rfl hd hr
  case ldc k =>
    cases v <;> first | (cases h; done) | skip
    cases h
    exact X.ldcI hx hown (h1 _ _ rfl rfl) rfl hd hr
  case ldc2_w k =>
    cases v <;> first | (cases h; done) | skip
    cases h
    exact X.ldc2J hx hown (h2 _ _ rfl rfl) rfl hd hr
  case iadd => obtain ⟨x, y, r, rfl, rfl⟩ := bI_inv h; exact XS.iadd X.here hx rfl hd rfl hr
  case isub => obtain ⟨x, y, r, rfl, rfl⟩ := bI_inv h; exact XS.isub X.here hx rfl hd rfl hr
  case imul => obtain ⟨x, y, r, rfl, rfl⟩ := bI_inv h; exact XS.imul X.here hx rfl hd rfl hr
  case iand => obtain ⟨x, y, r, rfl, rfl⟩ := bI_inv h; exact XS.iand X.here hx rfl hd rfl hr
  case ior => obtain ⟨x, y, r, rfl, rfl⟩ := bI_inv h; exact XT.ior X.here hx rfl hd rfl hr
  case ixor => obtain ⟨x, y, r, rfl, rfl⟩ := bI_inv h; exact XT.ixor X.here hx rfl hd rfl hr
  case ishl => obtain ⟨x, y, r, rfl, rfl⟩ := bI_inv h; exact XT.ishl X.here hx rfl hd rfl hr
  case ishr => obtain ⟨x, y, r, rfl, rfl⟩ := bI_inv h; exact XT.ishr X.here hx rfl hd rfl hr
  case iushr => obtain ⟨x, y, r, rfl, rfl⟩ := bI_inv h; exact XT.iushr X.here hx rfl hd rfl hr
  case irem => obtain ⟨x, y, r, rfl, hy, rfl⟩ := bI0_inv h; exact iremM X hx rfl hd rfl hy hr
  case idiv => obtain ⟨x, y, r, rfl, hy, rfl⟩ := bI0_inv h; exact XS.idiv X.here hx rfl hd rfl hy hr
  case ladd => obtain ⟨x, y, r, rfl, rfl⟩ := bL_inv h; exact XT.ladd X.here hx rfl hd rfl hr
  case lsub => obtain ⟨x, y, r, rfl, rfl⟩ := bL_inv h; exact XT.lsub X.here hx rfl hd rfl hr
  case lmul => obtain ⟨x, y, r, rfl, rfl⟩ := bL_inv h; exact XT.lmul X.here hx rfl hd rfl hr
  case land => obtain ⟨x, y, r, rfl, rfl⟩ := bL_inv h; exact XT.land X.here hx rfl hd rfl hr
  case lor => obtain ⟨x, y, r, rfl, rfl⟩ := bL_inv h; exact XT.lor X.here hx rfl hd rfl hr
  case lxor => obtain ⟨x, y, r, rfl, rfl⟩ := bL_inv h; exact XT.lxor X.here hx rfl hd rfl hr
  case ldiv => obtain ⟨x, y, r, rfl, hy, rfl⟩ := bL0_inv h; exact XT.ldiv X.here hx rfl hd rfl hy hr
  case lrem => obtain ⟨x, y, r, rfl, hy, rfl⟩ := bL0_inv h; exact XT.lrem X.here hx rfl hd rfl hy hr
  case lushr => obtain ⟨x, y, r, rfl, rfl⟩ := sL_inv h; exact XT.lushr X.here hx rfl hd rfl hr
  case i2b => obtain ⟨x, r, rfl, rfl⟩ := uI_inv h; exact XT.i2b X.here hx rfl hd rfl hr
  case i2c => obtain ⟨x, r, rfl, rfl⟩ := uI_inv h; exact XT.i2c X.here hx rfl hd rfl hr
  case iinc k cst =>
    have h' : pIinc k cst (pc, ls, st) = some f' := h
    unfold pIinc at h'
    dsimp only at h'
    split at h'
    · rename_i x q
      split at h'
      · rename_i ls' q2; cases h'; exact XS.iinc X.here hx rfl hd (ar_get q) (stL_ok (ρ := ρ) q2) hr
      · cases h'
    · cases h'
  case goto o =>
    have h' : pGoto o (pc, ls, st) = some f' := h
    unfold pGoto at h'
    dsimp only at h'
    split at h'
    · rename_i q; cases h'; exact XS.goto X.here hx rfl rfl hd q rfl hr
    · cases h'
  case ifCond cd o =>
    have h' : pIf cd o (pc, ls, st) = some f' := h
    unfold pIf at h'
    split at h'
    · rename_i q; cases q
      rcases br_inv h' with ⟨q1, q2, rfl⟩ | ⟨q1, rfl⟩
      · exact XS.ifYes X.here hx rfl rfl hd rfl q1 q2 rfl hr
      · exact XS.ifNo X.here hx rfl hd rfl q1 hr
    · cases h'
  case if_icmp cd o =>
    have h' : pIcmp cd o (pc, ls, st) = some f' := h
    unfold pIcmp at h'
    split at h'
    · rename_i q; cases q
      rcases br_inv h' with ⟨q1, q2, rfl⟩ | ⟨q1, rfl⟩
      · exact XS.icmpYes X.here hx rfl rfl hd rfl q1 q2 rfl hr
      · exact XS.icmpNo X.here hx rfl hd rfl q1 hr
    · cases h'
  case if_acmp cd o =>
    have h' : pAcmp D cd o (pc, ls, st) = some f' := h
    unfold pAcmp at h'
    split at h'
    · rename_i q; cases q
      split at h'
      · rename_i ho
        split at h'
        · rename_i sm q
          obtain ⟨g1, g2, g3⟩ := sameR_ok hD q
          rcases br_inv h' with ⟨q1, q2, rfl⟩ | ⟨q1, rfl⟩
          · exact Jvm.RoadKit.acmp X hx rfl g1 g2 rfl hd rfl g3 ho (by rw [if_pos q1]) hr
          · exact Jvm.RoadKit.acmp X hx rfl g1 g2 rfl hd rfl g3 ho (by rw [if_neg (by rw [q1]; simp)]) hr
        · cases h'
      · cases h'
    · cases h'
  case ifnull o =>
    have h' : pNull true o (pc, ls, st) = some f' := h
    unfold pNull at h'
    split at h'
    · rename_i q; cases q
      rcases br_inv h' with ⟨q1, q2, rfl⟩ | ⟨q1, rfl⟩
      · exact XS.ifnullYes X.here hx rfl rfl hd rfl q2 rfl hr
      · cases q1
    · rename_i q; cases q
      rcases br_inv h' with ⟨q1, q2, rfl⟩ | ⟨q1, rfl⟩
      · cases q1
      · exact XS.ifnullNo X.here hx rfl hd rfl hr
    · cases h'
  case ifnonnull o =>
    have h' : pNull false o (pc, ls, st) = some f' := h
    unfold pNull at h'
    split at h'
    · rename_i q; cases q
      rcases br_inv h' with ⟨q1, q2, rfl⟩ | ⟨q1, rfl⟩
      · cases q1
      · exact XT.ifnonnullNo X.here hx rfl hd rfl hr
    · rename_i q; cases q
      rcases br_inv h' with ⟨q1, q2, rfl⟩ | ⟨q1, rfl⟩
      · exact XT.ifnonnullYes X.here hx rfl rfl hd rfl q2 rfl hr
      · cases q1
    · cases h'
  case lcmp =>
    have h' : pLcmp (pc, ls, st) = some f' := h
    unfold pLcmp at h'
    split at h'
    · rename_i q; cases q; cases h'; exact XT.lcmp X.here hx rfl hd rfl hr
    · cases h'
  case i2l =>
    have h' : pI2l (pc, ls, st) = some f' := h
    unfold pI2l at h'
    split at h'
    · rename_i q; cases q; cases h'; exact XT.i2l X.here hx rfl hd rfl hr
    · cases h'
  case l2i =>
    have h' : pL2i (pc, ls, st) = some f' := h
    unfold pL2i at h'
    split at h'
    · rename_i q; cases q; cases h'; exact XT.l2i X.here hx rfl hd rfl hr
    · cases h'
  case dup =>
    have h' : pDup (pc, ls, st) = some f' := h
    unfold pDup at h'
    split at h'
    · rename_i q; cases q
      split at h'
      · rename_i q; cases h'; exact XS.dup X.here hx rfl hd rfl (c1_inv q) hr
      · cases h'
    · cases h'
  case pop =>
    have h' : pPop (pc, ls, st) = some f' := h
    unfold pPop at h'
    split at h'
    · rename_i q; cases q
      split at h'
      · rename_i q; cases h'; exact XT.pop X.here hx rfl hd rfl (c1_inv q) hr
      · cases h'
    · cases h'
  case dup_x1 =>
    have h' : pDupX1 (pc, ls, st) = some f' := h
    unfold pDupX1 at h'
    split at h'
    · rename_i q; cases q
      split at h'
      · rename_i q; cases h'
        obtain ⟨q1, q2⟩ := Bool.and_eq_true_iff.mp q
        exact XT.dupX1 X.here hx rfl hd rfl (c1_inv q1) (c1_inv q2) hr
      · cases h'
    · cases h'
  case dup2 =>
    have h' : pDup2 (pc, ls, st) = some f' := h
    unfold pDup2 at h'
    split at h'
    · rename_i q; cases q
      split at h'
      · rename_i q; cases h'
        obtain ⟨q1, q2⟩ := Bool.and_eq_true_iff.mp q
        exact XT.dup2 X.here hx rfl hd rfl (c1_inv q1) (c1_inv q2) hr
      · cases h'
    · cases h'
  case dup_x2 =>
    have h' : pDupX2 (pc, ls, st) = some f' := h
    unfold pDupX2 at h'
    split at h'
    · rename_i q; cases q
      split at h'
      · rename_i q; cases h'
        obtain ⟨q12, q3⟩ := Bool.and_eq_true_iff.mp q
        obtain ⟨q1, q2⟩ := Bool.and_eq_true_iff.mp q12
        have w1 := c1_inv (ρ := ρ) q1
        have w2 := c1_inv (ρ := ρ) q2
        have w3 := c1_inv (ρ := ρ) q3
        have hX := X.here
        show Steps p.tables e below (T.setTop { method := m, pc := pc, locals := ar ρ ls, stack := _ :: _ :: _ :: _, locked := none }) _
        jvm_step hX [hX.top, hx, hd, ilen, w1, w2, w3]
        exact hr
      · cases h'
    · cases h'
  all_goals exact absurd (show none = some f' from h) (by simp)
/-- what a table of answers must say -/
def TbOk (ρ : Rho) (TB : Instr → Nat → Int32 → Option Value) : Prop := ∀ t y v, (TB .iand t y = some v → rl ρ v = .int (ρ.2 t &&& y)) ∧ (TB .iushr t y = some v → rl ρ v = .int (XT.ushr (ρ.2 t) y)) ∧ (TB .irem t y = some v → y ≠ 0 ∧ rl ρ v = .int (ρ.2 t % y))
theorem tI2_inv {TB : Instr → Nat → Int32 → Option Value} {i : Instr} (h : tstep.tI2 TB i (pc, ls, st) = some f') : ∃ t y v r, st = .int y :: .retAddr t :: r ∧ TB i t y = some v ∧ f' = (pc + 1, ls, v :: r) := by
  unfold tstep.tI2 at h
  split at h
  · rename_i q; cases q
    split at h
    · rename_i v q; cases h; exact ⟨_, _, _, _, rfl, q, rfl⟩
    · cases h
  · cases h
theorem tstep_ok {TB : Instr → Nat → Int32 → Option Value} (hTB : TbOk ρ TB) (X : Stand p l e R s m args below meth c T locs cells slots) (hx : p.tables.exec = Jvm.exec) {i : Instr} (hd : decode c.code pc = .ok (i, ilen i)) (h : tstep TB i (pc, ls, st) = some f')
    (target : State) (hr : Steps p.tables e below (T.setTop (fm ρ m f')) target) : Steps p.tables e below (T.setTop (fm ρ m (pc, ls, st))) target := by
  cases i
  case iand => obtain ⟨t, y, v, r, rfl, q, rfl⟩ := tI2_inv h; have q' := (hTB t y v).1 q; exact XS.iand X.here hx rfl hd rfl (by rw [← q']; exact hr)
  case iushr => obtain ⟨t, y, v, r, rfl, q, rfl⟩ := tI2_inv h; have q' := (hTB t y v).2.1 q; exact XT.iushr X.here hx rfl hd rfl (by rw [← q']; exact hr)
  case irem => obtain ⟨t, y, v, r, rfl, q, rfl⟩ := tI2_inv h; have q' := (hTB t y v).2.2 q; exact iremM X hx rfl hd rfl q'.1 (by rw [← q'.2]; exact hr)
  all_goals exact absurd (show none = some f' from h) (by simp)
end Pure
end Jvm.Eng
namespace Jvm.Eng
open Jvm Jvm.ClassFile Sem Op Lib Jvm.Free Jvm.Stand Jvm.LawKit Jvm.RoadKit
/-! ### abstract objects on the model's heap -/
/-- a component that is known: a `.float` in an abstract array says that nothing is known of it -/
def kn : Value → Bool | .float _ => false | _ => true
def ObjOk (Z : State) (ρ : Rho) (K : Nat → String × String × String) (CN : Nat → String) (h : Heap) (a : Addr) : Obj → Prop
  | .inl (ty, vs) => ∃ c : Cell, Arr Z h a c ty ∧ c.slots.size = vs.length ∧ ∀ (i : Nat) (v : Value), vs[i]? = some v → kn v = true → c.slots[i]? = some (rl ρ v)
  | .inr (C, fs) => Exa Z h a (CN C) ∧ ∀ q ∈ fs, Fld Z h a (K q.1).1 (K q.1).2.1 (K q.1).2.2 (rl ρ q.2)
def Sim (Z : State) (ρ : Rho) (K : Nat → String × String × String) (CN : Nat → String) (b : Nat) (n0 : Heap × Nat) (S : List (Nat × Value)) (H : List Obj) (h : Heap) : Prop :=
  b ≤ H.length ∧ h.size = n0.1.size + (H.length - b) ∧ (∀ i o, H[i]? = some o → ObjOk Z ρ K CN h (ρ.1 i) o) ∧ (∀ q ∈ S, Sta Z h (K q.1).1 (K q.1).2.1 (K q.1).2.2 (rl ρ q.2)) ∧ Ext n0.1 h ∧ n0.2 ≤ n0.1.size
theorem wrOld {h h' : Heap} {a : Addr} {sl : Nat} {v : Value} (W : Wr h h' a sl v) {y : Addr} {cl : Cell} (q : h[y]? = some cl) (ne : y ≠ a) : h'[y]? = some cl := by
  obtain ⟨c0, -, -, -, rfl⟩ := W
  rw [Array.getElem?_setIfInBounds_ne (fun z => ne z.symm)]; exact q

section Objs
variable {Z : State} {ρ : Rho} {K : Nat → String × String × String} {CN : Nat → String} {b : Nat} {n0 : Heap × Nat} {S : List (Nat × Value)} {H : List Obj} {h h' : Heap} {a : Addr} {o : Obj}
theorem ObjOk.of_slots {c : Cell} {ty : FieldType} {vs : List Value} (A : Arr Z h a c ty) (e : c.slots = (vs.map (rl ρ)).toArray) : ObjOk Z ρ K CN h a (.inl (ty, vs)) :=
  ⟨c, A, by rw [e]; simp, fun i v hv _ => by rw [e]; simp [hv]⟩
theorem ObjOk.ext (E : Ext h h') (O : ObjOk Z ρ K CN h a o) : ObjOk Z ρ K CN h' a o := by
  rcases o with ⟨ty, vs⟩ | ⟨C, fs⟩
  · obtain ⟨c, A, q⟩ := O; exact ⟨c, A.ext E, q⟩
  · exact ⟨O.1.ext E, fun q hq => (O.2 q hq).ext E⟩
theorem ObjOk.other {a' : Addr} {sl : Nat} {v : Value} (W : Wr h h' a' sl v) (ne : a ≠ a') (O : ObjOk Z ρ K CN h a o) : ObjOk Z ρ K CN h' a o := by
  rcases o with ⟨ty, vs⟩ | ⟨C, fs⟩
  · obtain ⟨c, A, q⟩ := O; exact ⟨c, A.other W ne, q⟩
  · exact ⟨O.1.wr W, fun q hq => (O.2 q hq).other W (Or.inl ne)⟩
theorem Sim.new (hρ1 : ∀ i, b ≤ i → ρ.1 i = n0.1.size + (i - b)) (X : Sim Z ρ K CN b n0 S H h) (E : Ext h h') (hsz : h'.size = h.size + 1) (O : ObjOk Z ρ K CN h' h.size o) : Sim Z ρ K CN b n0 S (H ++ [o]) h' := by
  obtain ⟨h1, h2, h3, h4, h5, h6⟩ := X
  refine ⟨by simp; omega, by rw [hsz, h2]; simp; omega, fun i o' ho => ?_, fun q hq => (h4 q hq).ext E, ⟨Nat.le_trans h5.1 E.1, fun y cl q => E.2 _ _ (h5.2 _ _ q)⟩, h6⟩
  by_cases hi : i < H.length
  · rw [List.getElem?_append_left hi] at ho
    exact (h3 i o' ho).ext E
  · rw [List.getElem?_append_right (Nat.le_of_not_lt hi)] at ho
    have e0 : i - H.length = 0 := by
      rcases Nat.eq_zero_or_pos (i - H.length) with z | z
      · exact z
      · rw [List.getElem?_eq_none (show [o].length ≤ i - H.length from z)] at ho; cases ho
    rw [e0] at ho
    cases ho
    have ei : i = H.length := by omega
    rw [ei, hρ1 _ h1, ← h2]
    exact O
theorem Sim.wr (hρ1 : ∀ i, b ≤ i → ρ.1 i = n0.1.size + (i - b)) (hρ0 : ∀ i, i < b → ρ.1 i < n0.1.size) (X : Sim Z ρ K CN b n0 S H h) {a : Nat} {sl : Nat} {v : Value} (W : Wr h h' (ρ.1 a) sl v) (hb : b ≤ a) (O : ObjOk Z ρ K CN h' (ρ.1 a) o) : Sim Z ρ K CN b n0 S (H.set a o) h' := by
  obtain ⟨h1, h2, h3, h4, h5, h6⟩ := X
  have hold : ∀ (y : Addr) (cl : Cell), n0.1[y]? = some cl → h'[y]? = some cl := fun y cl q => wrOld W (h5.2 _ _ q) (fun z => by
    have e1 := hρ1 a hb
    have e2 := (Array.getElem?_eq_some_iff.mp q).1
    have e3 : n0.1.size + (a - b) < n0.1.size := by rw [← e1, ← z]; exact e2
    omega)
  refine ⟨by simpa using h1, by rw [W.size, h2]; simp, fun i o' ho => ?_, fun q hq => (h4 q hq).wr W, ⟨by rw [W.size]; exact h5.1, hold⟩, h6⟩
  by_cases hi : i = a
  · subst hi
    rw [List.getElem?_set] at ho
    simp only [if_true] at ho
    split at ho
    · cases ho; exact O
    · cases ho
  · rw [List.getElem?_set_ne (fun q => hi q.symm)] at ho
    refine (h3 i o' ho).other W fun q => ?_
    have e1 := hρ1 a hb
    by_cases hi' : i < b
    · have e2 : n0.1.size + (a - b) < n0.1.size := by rw [← e1, ← q]; exact hρ0 i hi'
      omega
    · have e2 : n0.1.size + (a - b) = n0.1.size + (i - b) := by rw [← e1, ← q]; exact hρ1 i (by omega)
      omega
end Objs

/-! ### steps that read or write the heap -/
def look (a : Nat) : List (Nat × Value) → Option Value
  | [] => none
  | (k, v) :: r => match Nat.beq k a with | true => some v | false => look a r
def setF (a : Nat) (v : Value) : List (Nat × Value) → List (Nat × Value)
  | [] => []
  | (k, w) :: r => (match Nat.beq k a with | true => (k, v) | false => (k, w)) :: setF a v r
def lookT (a : Nat) : List (Nat × Value × Bool) → Option (Value × Bool)
  | [] => none
  | (k, v, f) :: r => match Nat.beq k a with | true => some (v, f) | false => lookT a r
def sameKeys : List (Nat × Value) → List (Nat × Value × Bool) → Bool
  | [], [] => true
  | (k, _) :: r, (k', _) :: r' => match Nat.beq k k' with | true => sameKeys r r' | false => false
  | _, _ => false
def sameKind : Value → Value → Bool
  | .int _, .int _ => true
  | .long _, .long _ => true
  | .null, .null => true
  | .null, .ref _ => true
  | _, _ => false
theorem look_mem {a : Nat} {v : Value} : ∀ {fs : List (Nat × Value)}, look a fs = some v → (a, v) ∈ fs
  | [], h => by cases h
  | (k, w) :: r, h => by
    unfold look at h
    split at h
    · rename_i q; cases h; rw [Nat.eq_of_beq_eq_true q]; exact List.mem_cons_self ..
    · exact List.mem_cons_of_mem _ (look_mem h)
theorem lookT_mem {a : Nat} {v : Value} {f : Bool} : ∀ {fs : List (Nat × Value × Bool)}, lookT a fs = some (v, f) → (a, v, f) ∈ fs
  | [], h => by cases h
  | (k, w, g) :: r, h => by
    unfold lookT at h
    split at h
    · rename_i q; cases h; rw [Nat.eq_of_beq_eq_true q]; exact List.mem_cons_self ..
    · exact List.mem_cons_of_mem _ (lookT_mem h)
theorem setF_mem {a : Nat} {v : Value} {q : Nat × Value} : ∀ {fs : List (Nat × Value)}, q ∈ setF a v fs → (q = (a, v)) ∨ (q.1 ≠ a ∧ q ∈ fs)
  | [], h => by cases h
  | (k, w) :: r, h => by
    unfold setF at h
    rcases List.mem_cons.mp h with h | h
    · split at h
      · rename_i e; rw [Nat.eq_of_beq_eq_true e] at h; exact Or.inl h
      · rename_i e; subst h; exact Or.inr ⟨fun z => by subst z; simp at e, List.mem_cons_self ..⟩
    · rcases setF_mem h with h | ⟨h1, h2⟩
      · exact Or.inl h
      · exact Or.inr ⟨h1, List.mem_cons_of_mem _ h2⟩
theorem keys_mem {a : Nat} : ∀ {fs : List (Nat × Value)} {fl : List (Nat × Value × Bool)}, sameKeys fs fl = true → (∀ q ∈ fs, ∃ v f, (q.1, v, f) ∈ fl) ∧ (∀ q ∈ fl, ∃ w, (q.1, w) ∈ fs)
  | [], [], _ => ⟨fun q h => by (cases h), fun q h => by (cases h)⟩
  | (k, w) :: r, (k', w', f') :: r', h => by
    unfold sameKeys at h
    split at h
    · rename_i e
      have e' := Nat.eq_of_beq_eq_true e
      obtain ⟨h1, h2⟩ := keys_mem (a := a) h
      refine ⟨fun q hq => ?_, fun q hq => ?_⟩
      · rcases List.mem_cons.mp hq with rfl | hq
        · exact ⟨w', f', by rw [e']; exact List.mem_cons_self ..⟩
        · obtain ⟨v, f, hm⟩ := h1 q hq; exact ⟨v, f, List.mem_cons_of_mem _ hm⟩
      · rcases List.mem_cons.mp hq with rfl | hq
        · exact ⟨w, by rw [← e']; exact List.mem_cons_self ..⟩
        · obtain ⟨v, hm⟩ := h2 q hq; exact ⟨v, List.mem_cons_of_mem _ hm⟩
    · cases h
  | [], _ :: _, h => by cases h
  | _ :: _, [], h => by cases h

def getA (H : List Obj) (a : Nat) : Option (FieldType × List Value) := match H[a]? with | some (.inl p) => some p | _ => none
def getO (H : List Obj) (a : Nat) : Option (Nat × List (Nat × Value)) := match H[a]? with | some (.inr p) => some p | _ => none
theorem getA_inv {H : List Obj} {a : Nat} {p : FieldType × List Value} (h : getA H a = some p) : H[a]? = some (.inl p) := by
  unfold getA at h; split at h
  · rename_i q; cases h; exact q
  · cases h
theorem getO_inv {H : List Obj} {a : Nat} {p : Nat × List (Nat × Value)} (h : getO H a = some p) : H[a]? = some (.inr p) := by
  unfold getO at h; split at h
  · rename_i q; cases h; exact q
  · cases h

def tI : FieldType → Bool | .int => true | _ => false
def tJ : FieldType → Bool | .long => true | _ => false
def tB : FieldType → Bool | .byte => true | .boolean => true | _ => false
def tC : FieldType → Bool | .char => true | _ => false

def hGet (a : Nat) : Fm → List Obj → Option (Fm × List Obj)
  | (pc, ls, .ref o :: st), H => match getO H o with
    | some (_, fs) => (match look a fs with | some v => some ((pc + 3, ls, v :: st), H) | none => none)
    | none => none
  | _, _ => none
def is0 : Value → Bool | .int x => decide (x = 0) | _ => false
theorem is0_inv {v : Value} (h : is0 v = true) : v = .int 0 := by
  cases v with
  | int x => exact congrArg Value.int (of_decide_eq_true h)
  | _ => cases h
def hPut (b : Nat) (CT : Nat → Option Fls) (a k : Nat) : Fm → List Obj → Option (Fm × List Obj)
  | (pc, ls, v :: .ref o :: st), H => match getO H o with
    | some (C, fs) => (match CT C with
      | some (_, fl) => (match lookT a fl with
        | some (dv, fin) => if Nat.ble b o && sameKeys fs fl && (sameKind dv v && (Nat.blt k 2 || is0 v)) && (!fin || Nat.beq k 1 || Nat.beq k 3) then some ((pc + 3, ls, st), H.set o (.inr (C, setF a v fs))) else none
        | none => none)
      | none => none)
    | none => none
  | _, _ => none
def hSta (S : List (Nat × Value)) (a c : Nat) : Fm → List Obj → Option (Fm × List Obj)
  | (pc, ls, st), H => match S[a]? with
    | some (c', v) => if Nat.beq c' c then some ((pc + 3, ls, v :: st), H) else none
    | none => none
def hLen : Fm → List Obj → Option (Fm × List Obj)
  | (pc, ls, .ref a :: st), H => match getA H a with
    | some (_, vs) => some ((pc + 1, ls, .int vs.length.toInt32 :: st), H)
    | none => none
  | _, _ => none
def hLd (ok : FieldType → Bool) : Fm → List Obj → Option (Fm × List Obj)
  | (pc, ls, .int j :: .ref a :: st), H => match getA H a with
    | some (ty, vs) => if ok ty && !decide (j < 0) then (match vs[j.toNatClampNeg]? with | some v => if kn v then some ((pc + 1, ls, v :: st), H) else none | none => none) else none
    | none => none
  | _, _ => none
def hSt (b : Nat) (ok : FieldType → Bool) : Fm → List Obj → Option (Fm × List Obj)
  | (pc, ls, .int x :: .int j :: .ref a :: st), H => match getA H a with
    | some (ty, vs) => if ok ty && Nat.ble b a && !decide (j < 0) && Nat.blt j.toNatClampNeg vs.length then some ((pc + 1, ls, st), H.set a (.inl (ty, vs.set j.toNatClampNeg (.int (nar ty x))))) else none
    | none => none
  | _, _ => none
def hStJ (b : Nat) : Fm → List Obj → Option (Fm × List Obj)
  | (pc, ls, .long x :: .int j :: .ref a :: st), H => match getA H a with
    | some (ty, vs) => if tJ ty && Nat.ble b a && !decide (j < 0) && Nat.blt j.toNatClampNeg vs.length then some ((pc + 1, ls, st), H.set a (.inl (ty, vs.set j.toNatClampNeg (.long x)))) else none
    | none => none
  | _, _ => none
def hCast (c : Nat) : Fm → List Obj → Option (Fm × List Obj)
  | (pc, ls, .null :: st), H => some ((pc + 3, ls, .null :: st), H)
  | (pc, ls, .ref a :: st), H => match getO H a with
    | some (C, _) => if Nat.beq C c then some ((pc + 3, ls, .ref a :: st), H) else none
    | none => none
  | _, _ => none
def hInst (NI : Nat → Nat → Bool) (c : Nat) : Fm → List Obj → Option (Fm × List Obj)
  | (pc, ls, .null :: st), H => some ((pc + 3, ls, .int 0 :: st), H)
  | (pc, ls, .ref a :: st), H => match getO H a with
    | some (C, _) => if Nat.beq C c then some ((pc + 3, ls, .int 1 :: st), H) else if NI C c then some ((pc + 3, ls, .int 0 :: st), H) else none
    | none => none
  | _, _ => none

def hstep (b : Nat) (S : List (Nat × Value)) (CT : Nat → Option Fls) (NI : Nat → Nat → Bool) (i : Instr) (a k c : Nat) (f : Fm) (H : List Obj) : Option (Fm × List Obj) :=
  match i with
  | .getfield _ => hGet a f H
  | .putfield _ => hPut b CT a k f H
  | .getstatic _ => hSta S a c f H
  | .arraylength => hLen f H
  | .iaload => hLd tI f H
  | .laload => hLd tJ f H
  | .baload => hLd tB f H
  | .caload => hLd tC f H
  | .aaload => hLd FieldType.isReference f H
  | .iastore => hSt b tI f H
  | .bastore => hSt b tB f H
  | .castore => hSt b tC f H
  | .lastore => hStJ b f H
  | .checkcast _ => hCast c f H
  | .instanceof _ => hInst NI c f H
  | _ => none

/-- the words that a row leans on -/
def need (P : Nat → Option Meth) (K : Nat → String × String × String) (CN : Nat → String) (MN : Nat → MethodName) (own : String) (r : Row) : List Cond :=
  match r with
  | (i, a, _, c, v) =>
    match i with
    | .ldc idx => (match v with | .int x => [.constant own idx x] | _ => [])
    | .ldc2_w idx => (match v with | .long x => [.constantLong own idx x] | _ => [])
    | .getfield idx => [.fieldLink own idx (K a).1 (K a).2.1 (K a).2.2]
    | .putfield idx => [.fieldLink own idx (K a).1 (K a).2.1 (K a).2.2]
    | .getstatic idx => [.fieldLink own idx (K c).1 (K c).2.1 (K c).2.2]
    | .new idx => [.classLink own idx (CN c)]
    | .newarray aty => [.arrayClass (newarray.typeOf aty)]
    | .checkcast idx => [.classLink own idx (CN c)]
    | .instanceof idx => [.classLink own idx (CN c)]
    | .invokestatic idx => (match P a with | some M => [.methodLink own idx M.1, .static M.1] | none => [])
    | .invokespecial idx => (match Nat.beq c 1 with
      | true => [.methodLink own idx Lib.objectInit, .instanceMethod Lib.objectInit, .code Lib.objectInit ⟨#[0xb1]⟩ 1 none]
      | false => (match P a with | some M => [.methodLink own idx M.1, .instanceMethod M.1] | none => []))
    | .invokevirtual idx => (match P a with | some M => [.methodLink own idx M.1, .declares M.1, .selects (CN c) M.1 M.1, .instanceMethod M.1] | none => [])
    | .invokeinterface idx _ => (match P a, v with
      | some M, .retAddr r => [.methodLink own idx (MN r), .declares (MN r), .interfaceMethod (MN r).cls (MN r).cls (MN r).name (MN r).desc, .selects (CN c) (MN r) M.1, .instanceMethod M.1, .publicMethod M.1, .unhidden (CN c) (MN r).name (MN r).desc, .castable (CN c) (MN r).cls]
      | _, _ => [])
    | _ => []
def notMH (s : String) : Bool := s != "java/lang/invoke/MethodHandle" && s != "java/lang/invoke/VarHandle"
def arity (d : String) (k : Nat) : Bool := match parseMethodDescriptor d with | some sig => sig.parameters.length == k | none => true
def side (P : Nat → Option Meth) (K : Nat → String × String × String) (MN : Nat → MethodName) (x : MethodName) (r : Row) : Bool :=
  match r with
  | (i, a, k, c, v) =>
    match i with
    | .putfield _ => (Nat.beq k 0 || Nat.beq k 2 || (x.cls == (K a).1 && x.name == "<init>")) && ((K a).2.2 != "B" || Nat.ble 2 k)
    | .invokestatic _ => (match P a with | some M => notMH M.1.cls && arity M.1.desc k | none => true)
    | .invokespecial _ => Nat.beq c 1 || (match P a with | some M => notMH M.1.cls && arity M.1.desc (k - 1) && M.1.name == "<init>" && decide (M.2.2.2.1 = none) | none => true)
    | .invokevirtual _ => (match P a with | some M => notMH M.1.cls && arity M.1.desc (k - 1) | none => true)
    | .invokeinterface _ _ => (match v with | .retAddr r => notMH (MN r).cls && arity (MN r).desc (k - 1) | _ => false)
    | _ => true
/-- what is known of a class whose objects are made here -/
def ClsOk (Z : State) (a0 : Array Value) (K : Nat → String × String × String) (CN : Nat → String) (C : Nat) (F : Fls) : Prop :=
  (Cond.instantiable (CN C) F.1).before a0 Z = true ∧ (Cond.initialized (CN C)).before a0 Z = true ∧
  (∀ q ∈ F.2, (if q.2.2 = true then (Cond.laysFinal (CN C) (K q.1).1 (K q.1).2.1 (K q.1).2.2).before a0 Z = true else (Cond.lays (CN C) (K q.1).1 (K q.1).2.1 (K q.1).2.2).before a0 Z = true) ∧
    ∃ ty, parseFieldDescriptor (K q.1).2.2 = some ty ∧ defaultValue ty = q.2.1 ∧ (ty = .int ∨ ty = .long ∨ ty.isReference = true ∨ (ty = .byte ∧ (K q.1).2.2 = "B"))) ∧
  ∀ q ∈ F.2, ∀ q' ∈ F.2, q.1 ≠ q'.1 → (K q.1).2.1 ≠ (K q'.1).2.1
theorem cls_laid {Z : State} {a0 : Array Value} {K : Nat → String × String × String} {CN : Nat → String} {C : Nat} {F : Fls} (h : ClsOk Z a0 K CN C F) {q : Nat × Value × Bool} (hq : q ∈ F.2) : Laid Z a0 (CN C) (K q.1).1 (K q.1).2.1 (K q.1).2.2 := by
  obtain ⟨-, -, h3, -⟩ := h
  have w := (h3 q hq).1
  split at w
  · exact Or.inr w
  · exact Or.inl w

section HeapSteps
variable {p : Program} {l : Launch} {e : Env} {R : Room} {s : State} {m : MethodId} {args : Array Value} {below : List Frame} {meth : Method} {c : Code} {T : State} {locs : List Loc} {cells slots : Nat} {Z : State} {a0 : Array Value}
variable {ρ : Rho} {D NI : Nat → Nat → Bool} {pc : Nat} {ls : List Slot} {st : List Value} {f' : Fm} {K : Nat → String × String × String} {CN : Nat → String} {MN : Nat → MethodName} {b : Nat} {n0 : Heap × Nat} {S : List (Nat × Value)} {H H' : List Obj} {CT : Nat → Option Fls} {P : Nat → Option Meth} {x : MethodName}

theorem in_of {j : Int32} {n : Nat} (h1 : ¬ j < 0) (h2 : j.toNatClampNeg < n) : ¬ (j < 0 ∨ n ≤ j.toNatClampNeg) := fun q => q.elim h1 (fun z => absurd h2 (Nat.not_lt.mpr z))

/-- what a step that keeps the accounts leaves -/
abbrev Goes (p : Program) (l : Launch) (e : Env) (R : Room) (s : State) (m : MethodId) (args : Array Value) (below : List Frame) (meth : Method) (c : Code) (T : State) (cells slots : Nat) (Z : State) (ρ : Rho) (K : Nat → String × String × String) (CN : Nat → String) (b : Nat) (n0 : Heap × Nat) (S : List (Nat × Value)) (H' : List Obj) (f f' : Fm) : Prop :=
  ∃ (T' : State) (locs' : List Loc), Stand p l e R s m args below meth c T' locs' cells slots ∧ Fr n0.2 locs' ∧ Sim Z ρ K CN b n0 S H' T'.heap ∧ T'.heap.size = T.heap.size ∧ ∀ target, Steps p.tables e below (T'.setTop (fm ρ m f')) target → Steps p.tables e below (T.setTop (fm ρ m f)) target

theorem ld_ok (X : Stand p l e R s m args below meth c T locs cells slots) (hx : p.tables.exec = Jvm.exec) (hZ : Z.Warmed39 s.vm) (N : Fr n0.2 locs) (hS : Sim Z ρ K CN b n0 S H T.heap) {ok : FieldType → Bool} (h : hLd ok (pc, ls, st) H = some (f', H'))
    (law : ∀ {a : Addr} {cell : Cell} {ty : FieldType} {j : Int32} {v : Value} {rest : List Value}, ok ty = true → T.heap[a]? = some cell → s.isArrayOf cell ty → cell.vm ≠ .unknown → ¬ (j < 0 ∨ cell.slots.size ≤ j.toNatClampNeg) → cell.slots[j.toNatClampNeg]? = some v → ∀ target, Steps p.tables e below (T.setTop (mkF m (pc + 1) (ar ρ ls) (v :: rest))) target → Steps p.tables e below (T.setTop (mkF m pc (ar ρ ls) (.int j :: .ref a :: rest))) target) :
    Goes p l e R s m args below meth c T cells slots Z ρ K CN b n0 S H' (pc, ls, st) f' := by
  unfold hLd at h
  split at h
  · rename_i q; cases q
    split at h
    · rename_i ty vs q
      have q' := getA_inv q
      split at h
      · rename_i q1
        obtain ⟨q1, q2⟩ := Bool.and_eq_true_iff.mp q1
        split at h
        · rename_i v q3
          split at h
          · rename_i q5
            cases h
            obtain ⟨cl, A, e1, e2⟩ := hS.2.2.1 _ _ q'
            have hj := q2
            simp only [Bool.not_eq_true', decide_eq_false_iff_not] at hj
            have hlt := (List.getElem?_eq_some_iff.mp q3).1
            exact ⟨T, locs, X, N, hS, rfl, law q1 A.1 (State.isArrayOf_alike hZ.alike A.2.1) A.2.2 (in_of hj (by rw [e1]; exact hlt)) (e2 _ _ q3 q5)⟩
          · cases h
        · cases h
      · cases h
    · cases h
  · cases h
theorem set_arr {h h' : Heap} {a : Addr} {ty : FieldType} {vs : List Value} {cl : Cell} {j : Nat} {v : Value} (A : Arr Z h a cl ty) (e1 : cl.slots.size = vs.length) (e2 : ∀ (i : Nat) (v : Value), vs[i]? = some v → kn v = true → cl.slots[i]? = some (rl ρ v)) (hj : j < vs.length) (W : Wr h h' a j (rl ρ v)) : ObjOk Z ρ K CN h' a (.inl (ty, vs.set j v)) := by
  refine ⟨_, A.same W, by simp [Cell.setSlot, e1], fun i w hw hk => ?_⟩
  by_cases hi : i = j
  · subst hi
    rw [List.getElem?_set_self hj] at hw
    cases hw
    simp [Cell.setSlot, e1, hj]
  · rw [List.getElem?_set_ne (fun q => hi q.symm)] at hw
    show (cl.slots.setIfInBounds j (rl ρ v))[i]? = _
    rw [Array.getElem?_setIfInBounds_ne (fun q => hi q.symm)]
    exact e2 i w hw hk
theorem rl_nar (ρ : Rho) (ty : FieldType) (x : Int32) : rl ρ (.int (nar ty x)) = .int (nar ty x) := rfl
theorem st_ok (hρ1 : ∀ i, b ≤ i → ρ.1 i = n0.1.size + (i - b)) (hρ0 : ∀ i, i < b → ρ.1 i < n0.1.size) (X : Stand p l e R s m args below meth c T locs cells slots) (N : Fr n0.2 locs) (hS : Sim Z ρ K CN b n0 S H T.heap) {ok : FieldType → Bool} (h : hSt b ok (pc, ls, st) H = some (f', H'))
    (law : ∀ {a : Addr} {cell : Cell} {ty : FieldType} {j x : Int32} {rest : List Value}, ok ty = true → Arr Z T.heap a cell ty → ¬ (j < 0 ∨ cell.slots.size ≤ j.toNatClampNeg) → ∃ T' h', Stand p l e R s m args below meth c T' (locs ++ [⟨a, j.toNatClampNeg⟩]) cells slots ∧ T'.heap = h' ∧ Wr T.heap h' a j.toNatClampNeg (.int (nar ty x)) ∧ ∀ target, Steps p.tables e below (T'.setTop (mkF m (pc + 1) (ar ρ ls) rest)) target → Steps p.tables e below (T.setTop (mkF m pc (ar ρ ls) (.int x :: .int j :: .ref a :: rest))) target) :
    Goes p l e R s m args below meth c T cells slots Z ρ K CN b n0 S H' (pc, ls, st) f' := by
  unfold hSt at h
  split at h
  · rename_i q; cases q
    split at h
    · rename_i ty vs q
      have q' := getA_inv q
      split at h
      · rename_i q1
        obtain ⟨q1, q4⟩ := Bool.and_eq_true_iff.mp q1
        obtain ⟨q1, q3⟩ := Bool.and_eq_true_iff.mp q1
        obtain ⟨q1, q2⟩ := Bool.and_eq_true_iff.mp q1
        cases h
        obtain ⟨cl, A, e1, e2⟩ := hS.2.2.1 _ _ q'
        have hj := q3
        simp only [Bool.not_eq_true', decide_eq_false_iff_not] at hj
        have hlt := Nat.le_of_ble_eq_true (show Nat.ble _ vs.length = true from q4)
        have hba := Nat.le_of_ble_eq_true q2
        obtain ⟨T', h', X', e3, W, st'⟩ := law q1 A (in_of hj (by rw [e1]; exact hlt))
        subst e3
        exact ⟨T', _, X', Fr.snoc X' N (by rw [hρ1 _ hba]; have := hS.2.2.2.2.2; omega), hS.wr hρ1 hρ0 W hba (set_arr A e1 e2 hlt W), W.size, st' ⟩
      · cases h
    · cases h
  · cases h
theorem stJ_ok (hρ1 : ∀ i, b ≤ i → ρ.1 i = n0.1.size + (i - b)) (hρ0 : ∀ i, i < b → ρ.1 i < n0.1.size) (X : Stand p l e R s m args below meth c T locs cells slots) (hx : p.tables.exec = Jvm.exec) (hZ : Z.Warmed39 s.vm) (hd : decode c.code pc = .ok (.lastore, 1)) (N : Fr n0.2 locs) (hS : Sim Z ρ K CN b n0 S H T.heap) (h : hStJ b (pc, ls, st) H = some (f', H')) :
    Goes p l e R s m args below meth c T cells slots Z ρ K CN b n0 S H' (pc, ls, st) f' := by
  unfold hStJ at h
  split at h
  · rename_i q; cases q
    rename_i xx jj aa st
    split at h
    · rename_i ty vs q
      have q' := getA_inv q
      split at h
      · rename_i q1
        obtain ⟨q1, q4⟩ := Bool.and_eq_true_iff.mp q1
        obtain ⟨q1, q3⟩ := Bool.and_eq_true_iff.mp q1
        obtain ⟨q1, q2⟩ := Bool.and_eq_true_iff.mp q1
        cases h
        obtain ⟨cl, A, e1, e2⟩ := hS.2.2.1 _ _ q'
        have hj := q3
        simp only [Bool.not_eq_true', decide_eq_false_iff_not] at hj
        have hlt := Nat.le_of_ble_eq_true (show Nat.ble _ vs.length = true from q4)
        have hba := Nat.le_of_ble_eq_true q2
        have hty : ty = .long := by cases ty <;> first | rfl | cases q1
        subst hty
        obtain ⟨T', h', X', e3, W, st'⟩ := stJ X hx hZ rfl A (in_of hj (by rw [e1]; exact hlt)) (g := fm ρ m (pc, ls, .long xx :: .int jj :: .ref aa :: st)) rfl rfl hd
        subst e3
        exact ⟨T', _, X', Fr.snoc X' N (by rw [hρ1 _ hba]; have := hS.2.2.2.2.2; omega), hS.wr hρ1 hρ0 W hba (set_arr (v := .long _) A e1 e2 hlt W), W.size, st'⟩
      · cases h
    · cases h
  · cases h
theorem kind_ok {ty : FieldType} {dv v : Value} (h1 : defaultValue ty = dv) (h2 : ty = .int ∨ ty = .long ∨ ty.isReference = true ∨ ty = .byte) (h0 : ty = .byte → v = .int 0) (h3 : sameKind dv v = true) : narrow ty (rl ρ v) = rl ρ v ∧ fits ty (rl ρ v) = true := by
  subst h1
  rcases h2 with rfl | rfl | h2 | rfl
  · cases v <;> first | exact ⟨rfl, rfl⟩ | cases h3
  · cases v <;> first | exact ⟨rfl, rfl⟩ | cases h3
  · cases ty <;> first | (cases h2; done) | (cases v <;> first | exact ⟨rfl, rfl⟩ | cases h3)
  · rw [h0 rfl]; exact ⟨rfl, rfl⟩
set_option maxHeartbeats 1600000 in
theorem put_ok (hρ1 : ∀ i, b ≤ i → ρ.1 i = n0.1.size + (i - b)) (hρ0 : ∀ i, i < b → ρ.1 i < n0.1.size) (hCT : ∀ C F, CT C = some F → ClsOk Z a0 K CN C F) (X : Stand p l e R s m args below meth c T locs cells slots) (hx : p.tables.exec = Jvm.exec) (hZ : Z.Warmed39 s.vm) {own : String} (hown : s.vm.findClass own = some m.cls) {idx a k : Nat}
    (w : (Cond.fieldLink own idx (K a).1 (K a).2.1 (K a).2.2).before a0 Z = true) (hfin : k = 1 ∨ k = 3 → own = (K a).1 ∧ meth.name = "<init>") (hbyte : (K a).2.2 = "B" → 2 ≤ k) (hd : decode c.code pc = .ok (.putfield idx, 3)) (N : Fr n0.2 locs) (hS : Sim Z ρ K CN b n0 S H T.heap) (h : hPut b CT a k (pc, ls, st) H = some (f', H')) :
    Goes p l e R s m args below meth c T cells slots Z ρ K CN b n0 S H' (pc, ls, st) f' := by
  unfold hPut at h
  split at h
  · rename_i q; cases q
    rename_i v o st
    split at h
    · rename_i C fs q
      have q' := getO_inv q
      split at h
      · rename_i sl fl qc
        split at h
        · rename_i dv fin ql
          split at h
          · rename_i q1
            obtain ⟨q1, q4⟩ := Bool.and_eq_true_iff.mp q1
            obtain ⟨q1, q3⟩ := Bool.and_eq_true_iff.mp q1
            obtain ⟨q3, q5⟩ := Bool.and_eq_true_iff.mp q3
            obtain ⟨q1, q2⟩ := Bool.and_eq_true_iff.mp q1
            cases h
            have hC := hCT _ _ qc
            have hm := lookT_mem ql
            obtain ⟨k1, k2⟩ := keys_mem (a := 0) q2
            obtain ⟨old, hold⟩ := k2 _ hm
            obtain ⟨E, Fs⟩ := hS.2.2.1 _ _ q'
            obtain ⟨wl, ty, t1, t2, t3⟩ := hC.2.2.1 (a, dv, fin) hm
            have t3' : ty = .int ∨ ty = .long ∨ ty.isReference = true ∨ ty = .byte := by
              rcases t3 with z | z | z | z
              · exact Or.inl z
              · exact Or.inr (Or.inl z)
              · exact Or.inr (Or.inr (Or.inl z))
              · exact Or.inr (Or.inr (Or.inr z.1))
            have t0 : ty = .byte → v = .int 0 := fun e => by
              have e2 : (K a).2.2 = "B" := by
                rcases t3 with z | z | z | z
                · rw [z] at e; cases e
                · rw [z] at e; cases e
                · rw [e] at z; cases z
                · exact z.2
              have hk := hbyte e2
              rcases Bool.or_eq_true_iff.mp q5 with z | z
              · have := Nat.le_of_ble_eq_true (show Nat.ble (k + 1) 2 = true from z)
                omega
              · exact is0_inv z
            obtain ⟨n1, n2⟩ := kind_ok (ρ := ρ) t2 t3' t0 q3
            have hba := Nat.le_of_ble_eq_true q1
            have L : (Cond.lays (CN C) (K a).1 (K a).2.1 (K a).2.2).before a0 Z = true ∨ ((Cond.laysFinal (CN C) (K a).1 (K a).2.1 (K a).2.2).before a0 Z = true ∧ own = (K a).1 ∧ meth.name = "<init>") := by
              dsimp only at wl
              cases fin with
              | false => exact Or.inl (by simpa using wl)
              | true =>
                refine Or.inr ⟨by simpa using wl, hfin ?_⟩
                have q6 : (Nat.beq k 1 || Nat.beq k 3) = true := q4
                rcases Bool.or_eq_true_iff.mp q6 with z | z
                · exact Or.inl (Nat.eq_of_beq_eq_true z)
                · exact Or.inr (Nat.eq_of_beq_eq_true z)
            obtain ⟨T', h', X', e2, W, st'⟩ := putF X hx hZ hown (host := "") (Or.inl w) Via.refl rfl (Fs _ hold) E L hC.1 t1 n1 n2 (g := fm ρ m (pc, ls, v :: .ref o :: st)) rfl rfl hd
            subst e2
            refine ⟨T', _, X', Fr.snoc X' N (by rw [hρ1 _ hba]; have := hS.2.2.2.2.2; omega), hS.wr hρ1 hρ0 W hba ⟨E.wr W, fun r hr => ?_⟩, W.size, st'⟩
            rcases setF_mem hr with rfl | ⟨r1, r2⟩
            · exact (Fs _ hold).same W
            · obtain ⟨dv', fin', hm'⟩ := k1 _ r2
              obtain ⟨-, ty', t1', -⟩ := hC.2.2.1 (r.1, dv', fin') hm'
              have l1 : Laid Z a0 (CN C) (K r.1).1 (K r.1).2.1 (K r.1).2.2 := cls_laid (F := (sl, fl)) (q := (r.1, dv', fin')) hC hm'
              have l2 : Laid Z a0 (CN C) (K a).1 (K a).2.1 (K a).2.2 := cls_laid (F := (sl, fl)) (q := (a, dv, fin)) hC hm
              have ne : (K r.1).2.1 ≠ (K a).2.1 := hC.2.2.2 (r.1, dv', fin') hm' (a, dv, fin) hm r1
              have sn := slot_ne l1 l2 ne t1' t1
              exact (Fs _ r2).other W (Or.inr sn)
          · cases h
        · cases h
      · cases h
    · cases h
  · cases h
theorem hstep_ok (hρ1 : ∀ i, b ≤ i → ρ.1 i = n0.1.size + (i - b)) (hρ0 : ∀ i, i < b → ρ.1 i < n0.1.size) (hCT : ∀ C F, CT C = some F → ClsOk Z a0 K CN C F)
    (hNI : ∀ C k, NI C k = true → ∃ c t, Z.vm.findClass (CN C) = some c ∧ Z.vm.findClass (CN k) = some t ∧ Z.vm.assignable c t = false)
    (X : Stand p l e R s m args below meth c T locs cells slots) (hx : p.tables.exec = Jvm.exec) (hZ : Z.Warmed39 s.vm) (hown : s.vm.findClass x.cls = some m.cls) (hnm : meth.name = x.name)
    {i : Instr} {a k cc : Nat} {v : Value} (hw : ∀ w ∈ need P K CN MN x.cls (i, a, k, cc, v), w.before a0 Z = true) (hsd : side P K MN x (i, a, k, cc, v) = true)
    (hd : decode c.code pc = .ok (i, ilen i)) (N : Fr n0.2 locs) (hS : Sim Z ρ K CN b n0 S H T.heap) (h : hstep b S CT NI i a k cc (pc, ls, st) H = some (f', H')) :
    Goes p l e R s m args below meth c T cells slots Z ρ K CN b n0 S H' (pc, ls, st) f' := by
  cases i
  case iaload => exact ld_ok X hx hZ N hS h (fun {a cell ty j v rest} h1 h2 h3 h4 h5 h6 target hr => by
    have hty : ty = .int := by cases ty <;> first | rfl | cases h1
    subst hty
    exact X.iaload hx h2 h3 h4 h5 h6 (g := mkF m pc (ar ρ ls) (.int j :: .ref a :: rest)) rfl rfl hd target hr)
  case laload => exact ld_ok X hx hZ N hS h (fun {a cell ty j v rest} h1 h2 h3 h4 h5 h6 target hr => by
    have hty : ty = .long := by cases ty <;> first | rfl | cases h1
    subst hty
    exact X.laload hx h2 h3 h4 h5 h6 (g := mkF m pc (ar ρ ls) (.int j :: .ref a :: rest)) rfl rfl hd target hr)
  case caload => exact ld_ok X hx hZ N hS h (fun {a cell ty j v rest} h1 h2 h3 h4 h5 h6 target hr => by
    have hty : ty = .char := by cases ty <;> first | rfl | cases h1
    subst hty
    exact X.caload hx h2 h3 h4 h5 h6 (g := mkF m pc (ar ρ ls) (.int j :: .ref a :: rest)) rfl rfl hd target hr)
  case baload => exact ld_ok X hx hZ N hS h (fun {a cell ty j v rest} h1 h2 h3 h4 h5 h6 target hr => by
    have hty : ty = .byte ∨ ty = .boolean := by cases ty <;> first | exact Or.inl rfl | exact Or.inr rfl | cases h1
    rcases hty with rfl | rfl
    · exact X.baloadBytes hx h2 h3 h4 h5 h6 (g := mkF m pc (ar ρ ls) (.int j :: .ref a :: rest)) rfl rfl hd target hr
    · exact X.baloadBooleans hx h2 h3 h4 h5 h6 (g := mkF m pc (ar ρ ls) (.int j :: .ref a :: rest)) rfl rfl hd target hr)
  case aaload => exact ld_ok X hx hZ N hS h (fun {a cell ty j v rest} h1 h2 h3 h4 h5 h6 target hr => X.aaload hx h2 h3 h1 h4 h5 h6 (g := mkF m pc (ar ρ ls) (.int j :: .ref a :: rest)) rfl rfl hd target hr)
  case iastore => exact st_ok hρ1 hρ0 X N hS h (fun {a cell ty j x rest} h1 A h2 => by
    have hty : ty = .int := by cases ty <;> first | rfl | cases h1
    subst hty
    exact stI X hx hZ rfl A h2 (g := mkF m pc (ar ρ ls) (.int x :: .int j :: .ref a :: rest)) rfl rfl hd)
  case castore => exact st_ok hρ1 hρ0 X N hS h (fun {a cell ty j x rest} h1 A h2 => by
    have hty : ty = .char := by cases ty <;> first | rfl | cases h1
    subst hty
    exact stC X hx hZ rfl A h2 (g := mkF m pc (ar ρ ls) (.int x :: .int j :: .ref a :: rest)) rfl rfl hd)
  case bastore => exact st_ok hρ1 hρ0 X N hS h (fun {a cell ty j x rest} h1 A h2 => by
    have hty : ty = .byte ∨ ty = .boolean := by cases ty <;> first | exact Or.inl rfl | exact Or.inr rfl | cases h1
    rcases hty with rfl | rfl
    · exact stB X hx hZ rfl A h2 (g := mkF m pc (ar ρ ls) (.int x :: .int j :: .ref a :: rest)) rfl rfl hd
    · exact stZ X hx hZ rfl A h2 (g := mkF m pc (ar ρ ls) (.int x :: .int j :: .ref a :: rest)) rfl rfl hd)
  case lastore => exact stJ_ok hρ1 hρ0 X hx hZ hd N hS h
  case putfield idx =>
    have hsd' : ((Nat.beq k 0 || Nat.beq k 2 || (x.cls == (K a).1 && x.name == "<init>")) && ((K a).2.2 != "B" || Nat.ble 2 k)) = true := hsd
    obtain ⟨s1, s2⟩ := Bool.and_eq_true_iff.mp hsd'
    refine put_ok hρ1 hρ0 hCT X hx hZ hown (idx := idx) (hw _ (List.mem_cons_self ..)) (fun hk => ?_) (fun hb => ?_) hd N hS h
    · have q : (x.cls == (K a).1 && x.name == "<init>") = true := by
        rcases hk with rfl | rfl
        · exact s1
        · exact s1
      obtain ⟨q1, q2⟩ := Bool.and_eq_true_iff.mp q
      exact ⟨by simpa using q1, by rw [hnm]; simpa using q2⟩
    · rcases Bool.or_eq_true_iff.mp s2 with z | z
      · simp [hb] at z
      · exact Nat.le_of_ble_eq_true z
  case getfield idx =>
    have h' : hGet a (pc, ls, st) H = some (f', H') := h
    unfold hGet at h'
    split at h'
    · rename_i q; cases q
      rename_i o st
      split at h'
      · rename_i C fs q
        split at h'
        · rename_i v q2
          cases h'
          obtain ⟨E, Fs⟩ := hS.2.2.1 _ _ (getO_inv q)
          obtain ⟨T', X', e', st'⟩ := getF X hx hZ hown (host := "") (Or.inl (hw _ (List.mem_cons_self ..))) Via.refl rfl (Fs _ (look_mem q2)) (g := fm ρ m (pc, ls, .ref o :: st)) rfl rfl hd
          exact ⟨T', _, X', N, by rw [e']; exact hS, by rw [e'], st'⟩
        · cases h'
      · cases h'
    · cases h'
  case getstatic idx =>
    have h' : hSta S a cc (pc, ls, st) H = some (f', H') := h
    unfold hSta at h'
    dsimp only at h'
    split at h'
    · rename_i c' v q
      split at h'
      · rename_i q2
        cases h'
        have e1 := Nat.eq_of_beq_eq_true q2
        subst e1
        have F := hS.2.2.2.1 _ (List.mem_of_getElem? q)
        obtain ⟨T', X', e', st'⟩ := getS (host := "") X hx hZ hown (hw _ (List.mem_cons_self ..)) Via.refl rfl F (g := fm ρ m (pc, ls, st)) rfl hd
        exact ⟨T', _, X', N, by rw [e']; exact hS, by rw [e'], st'⟩
      · cases h'
    · cases h'
  case arraylength =>
    have h' : hLen (pc, ls, st) H = some (f', H') := h
    unfold hLen at h'
    split at h'
    · rename_i q; cases q
      rename_i o st
      split at h'
      · rename_i ty vs q
        cases h'
        obtain ⟨cl, A, e1, -⟩ := hS.2.2.1 _ _ (getA_inv q)
        refine ⟨T, _, X, N, hS, rfl, fun target hr => X.arraylength hx A.1 (State.isArrayOf_alike hZ.alike A.2.1) (g := fm ρ m (pc, ls, .ref o :: st)) rfl rfl hd target ?_⟩
        rw [e1]
        exact hr
      · cases h'
    · cases h'
  case checkcast idx =>
    have h' : hCast cc (pc, ls, st) H = some (f', H') := h
    unfold hCast at h'
    split at h'
    · rename_i q; cases q; cases h'
      exact ⟨T, _, X, N, hS, rfl, fun target hr => X.checkcastNull hx (g := fm ρ m (pc, ls, .null :: _)) rfl rfl hd target hr⟩
    · rename_i q; cases q
      rename_i o st
      split at h'
      · rename_i C fs q
        split at h'
        · rename_i q2; cases h'
          have e1 := Nat.eq_of_beq_eq_true q2
          subst e1
          obtain ⟨E, -⟩ := hS.2.2.1 _ _ (getO_inv q)
          obtain ⟨T', X', e', st'⟩ := castY X hx hZ hown (hw _ (List.mem_cons_self ..)) rfl (Ins.self E) (g := fm ρ m (pc, ls, .ref o :: st)) rfl rfl hd
          exact ⟨T', _, X', N, by rw [e']; exact hS, by rw [e'], st'⟩
        · cases h'
      · cases h'
    · cases h'
  case instanceof idx =>
    have h' : hInst NI cc (pc, ls, st) H = some (f', H') := h
    unfold hInst at h'
    split at h'
    · rename_i q; cases q; cases h'
      exact ⟨T, _, X, N, hS, rfl, fun target hr => X.instanceofNull hx (g := fm ρ m (pc, ls, .null :: _)) rfl rfl hd target hr⟩
    · rename_i q; cases q
      rename_i o st
      split at h'
      · rename_i C fs q
        obtain ⟨E, -⟩ := hS.2.2.1 _ _ (getO_inv q)
        split at h'
        · rename_i q2; cases h'
          have e1 := Nat.eq_of_beq_eq_true q2
          subst e1
          obtain ⟨T', X', e', st'⟩ := instY X hx hZ hown (hw _ (List.mem_cons_self ..)) rfl (Ins.self E) (g := fm ρ m (pc, ls, .ref o :: st)) rfl rfl hd
          exact ⟨T', _, X', N, by rw [e']; exact hS, by rw [e'], st'⟩
        · split at h'
          · rename_i q3; cases h'
            obtain ⟨T', X', e', st'⟩ := instNo X hx hZ hown (hw _ (List.mem_cons_self ..)) rfl E (hNI _ _ q3) (g := fm ρ m (pc, ls, .ref o :: st)) rfl rfl hd
            exact ⟨T', _, X', N, by rw [e']; exact hS, by rw [e'], st'⟩
          · cases h'
      · cases h'
    · cases h'
  all_goals exact absurd (show none = some (f', H') from h) (by simp)

/-! ### steps that make a cell -/
def aNew (CT : Nat → Option Fls) (c : Nat) : Fm → List Obj → Option (Fm × List Obj × Nat)
  | (pc, ls, st), H => match CT c with
    | some (sl, fl) => some ((pc + 3, ls, .ref H.length :: st), H ++ [.inr (c, fl.map fun q => (q.1, q.2.1))], sl)
    | none => none
def aArr (aty : ArrayType) : Fm → List Obj → Option (Fm × List Obj × Nat)
  | (pc, ls, .int n :: st), H => if !decide (n < 0) && Nat.ble (n.toNatClampNeg * 8) 536870912 then some ((pc + 2, ls, .ref H.length :: st), H ++ [.inl (newarray.typeOf aty, List.replicate n.toNatClampNeg (defaultValue (newarray.typeOf aty)))], n.toNatClampNeg) else none
  | _, _ => none
def astep (CT : Nat → Option Fls) (i : Instr) (c : Nat) (f : Fm) (H : List Obj) : Option (Fm × List Obj × Nat) :=
  match i with
  | .new _ => aNew CT c f H
  | .newarray aty => aArr aty f H
  | _ => none
theorem rl_default (ρ : Rho) (ty : FieldType) : rl ρ (defaultValue ty) = defaultValue ty := by cases ty <;> rfl
theorem astep_ok (hρ1 : ∀ i, b ≤ i → ρ.1 i = n0.1.size + (i - b)) (hCT : ∀ C F, CT C = some F → ClsOk Z a0 K CN C F)
    (X : Stand p l e R s m args below meth c T locs cells slots) (hx : p.tables.exec = Jvm.exec) (hZ : Z.Warmed39 s.vm) (hown : s.vm.findClass x.cls = some m.cls)
    {i : Instr} {a k cc ds : Nat} {v : Value} (hw : ∀ w ∈ need P K CN MN x.cls (i, a, k, cc, v), w.before a0 Z = true)
    (hd : decode c.code pc = .ok (i, ilen i)) (hS : Sim Z ρ K CN b n0 S H T.heap) (hsz : T.heap.size = s.heap.size + cells) (h : astep CT i cc (pc, ls, st) H = some (f', H', ds)) (hc : cells + 1 ≤ R.cells) (hl : slots + ds ≤ R.slots) :
    ∃ T', Stand p l e R s m args below meth c T' locs (cells + 1) (slots + ds) ∧ Sim Z ρ K CN b n0 S H' T'.heap ∧ T'.heap.size = s.heap.size + (cells + 1) ∧ ∀ target, Steps p.tables e below (T'.setTop (fm ρ m f')) target → Steps p.tables e below (T.setTop (fm ρ m (pc, ls, st))) target := by
  have eρ : ρ.1 H.length = T.heap.size := by rw [hρ1 _ hS.1, ← hS.2.1]
  cases i
  case new idx =>
    have h' : aNew CT cc (pc, ls, st) H = some (f', H', ds) := h
    unfold aNew at h'
    dsimp only at h'
    split at h'
    · rename_i sl fl q
      cases h'
      have hC := hCT _ _ q
      obtain ⟨T', h', X', e', E, A, Dv, -, st'⟩ := newO X hx hZ hown (hw _ (List.mem_cons_self ..)) hC.1 hC.2.1 rfl (g := fm ρ m (pc, ls, st)) rfl hd hc hl
      subst e'
      have hs1 : T'.heap.size = T.heap.size + 1 := by
        have q1 : T'.heap.size ≤ s.heap.size + (cells + 1) := X'.heapSize
        have q2 : T.heap.size < T'.heap.size := A.lt
        omega
      refine ⟨T', X', hS.new hρ1 E hs1 ⟨A, fun r hr => ?_⟩, by omega, fun target hr => st' target ?_⟩
      · obtain ⟨y, hy, rfl⟩ := List.mem_map.mp hr
        obtain ⟨-, ty, t1, t2, -⟩ := hC.2.2.1 _ hy
        have F := Dv (cls_laid hC hy) t1
        show Fld Z T'.heap T.heap.size (K y.1).1 (K y.1).2.1 (K y.1).2.2 (rl ρ y.2.1)
        rw [← t2, rl_default]
        exact F
      · show Steps p.tables e below (T'.setTop (mkF m (pc + 3) (ar ρ ls) (.ref T.heap.size :: st.map (rl ρ)))) target
        rw [← eρ]
        exact hr
    · cases h'
  case newarray aty =>
    have h' : aArr aty (pc, ls, st) H = some (f', H', ds) := h
    unfold aArr at h'
    split at h'
    · rename_i q; cases q
      rename_i n st
      split at h'
      · rename_i q1
        cases h'
        obtain ⟨q1, q2⟩ := Bool.and_eq_true_iff.mp q1
        have hn : ¬ n < 0 := by simpa using q1
        obtain ⟨T', h', cA, X', e', E, A, st'⟩ := newP X hx hZ (hw _ (List.mem_cons_self ..)) rfl (g := fm ρ m (pc, ls, .int n :: st)) rfl hd rfl hn (Nat.le_refl _) (Nat.le_of_ble_eq_true q2) hc hl
        subst e'
        have hs1 : T'.heap.size = T.heap.size + 1 := by
          have q1 : T'.heap.size ≤ s.heap.size + (cells + 1) := X'.heapSize
          have q2 : T.heap.size < T'.heap.size := A.lt
          omega
        refine ⟨T', X', hS.new hρ1 E hs1 (ObjOk.of_slots A ?_), by omega, fun target hr => st' target ?_⟩
        · simp [newA, rl_default]
        · show Steps p.tables e below (T'.setTop (mkF m (pc + 2) (ar ρ ls) (.ref T.heap.size :: st.map (rl ρ)))) target
          rw [← eρ]
          exact hr
      · cases h'
    · cases h'
  all_goals exact absurd (show none = some (f', H', ds) from h) (by simp)

/-! ### Object's constructor, and returning -/
def wt (st : List Value) : Nat := (st.map fun v => v.category).sum
theorem wt_rl (ρ : Rho) (st : List Value) : ((st.map (rl ρ)).map fun v => v.category).sum = wt st := by
  unfold wt
  rw [List.map_map]
  congr 1
  apply List.map_congr_left
  intro v _
  exact rl_cat ρ v
def istep (maxL fr lo : Nat) (i : Instr) (c : Nat) (f : Fm) : Option Fm :=
  match i with
  | .invokespecial _ => (match f with
    | (pc, ls, .ref _ :: st) => if Nat.beq c 1 && Nat.ble 1 fr && Nat.ble (wt st + 12) lo && Nat.beq ls.length maxL then some (pc + 3, ls, st) else none
    | _ => none)
  | _ => none
theorem istep_ok (X : Stand p l e R s m args below meth c T locs cells slots) (hx : p.tables.exec = Jvm.exec) (hZ : Z.Warmed39 s.vm) (hown : s.vm.findClass x.cls = some m.cls)
    {i : Instr} {a k cc maxL fr lo : Nat} {v : Value} (hml : c.maxLocals = maxL) (hfr : R.frames = fr) (hlo : R.locals = lo) (hw : ∀ w ∈ need P K CN MN x.cls (i, a, k, cc, v), w.before a0 Z = true)
    (hd : decode c.code pc = .ok (i, ilen i)) (N : Fr n0.2 locs) (hS : Sim Z ρ K CN b n0 S H T.heap) (h : istep maxL fr lo i cc (pc, ls, st) = some f') :
    Goes p l e R s m args below meth c T cells slots Z ρ K CN b n0 S H (pc, ls, st) f' := by
  cases i
  case invokespecial idx =>
    unfold istep at h
    dsimp only at h
    split at h
    · rename_i q; cases q
      rename_i o st
      split at h
      · rename_i q1
        obtain ⟨q1, q4⟩ := Bool.and_eq_true_iff.mp q1
        obtain ⟨q1, q3⟩ := Bool.and_eq_true_iff.mp q1
        obtain ⟨q1, q2⟩ := Bool.and_eq_true_iff.mp q1
        cases h
        have e1 := Nat.eq_of_beq_eq_true q1
        subst e1
        have hlen := Nat.eq_of_beq_eq_true q4
        obtain ⟨T', X', e', st'⟩ := initO X hx hZ hown (idx := idx) (hw _ (by simp [need])) (hw _ (by simp [need])) (hw _ (by simp [need])) rfl (g := fm ρ m (pc, ls, .ref o :: st)) rfl (by rw [hml]; simpa [ar] using hlen) rfl hd (by rw [hfr]; exact Nat.le_of_ble_eq_true q2) (W := wt st) (by show 2 * 0 + _ ≤ _; rw [wt_rl]; omega) (by rw [hlo]; exact Nat.le_of_ble_eq_true q3)
        exact ⟨T', _, X', N, by rw [e']; exact hS, by rw [e'], st'⟩
      · cases h
    · cases h
  all_goals exact absurd (show none = some f' from h) (by simp)
def rstep (ret : Option FieldType) (i : Instr) (st : List Value) : Option (Option Value) :=
  match i with
  | .ireturn => (match st with
    | .int x :: _ => (match ret with
      | some .int => some (some (.int x))
      | some .boolean => some (some (.int (nar .boolean x)))
      | some .byte => some (some (.int (nar .byte x)))
      | some .char => some (some (.int (nar .char x)))
      | _ => none)
    | _ => none)
  | .lreturn => (match st with
    | .long x :: _ => (match ret with | some .long => some (some (.long x)) | _ => none)
    | _ => none)
  | .areturn => (match st with
    | v :: _ => (match ret with | some t => if t.isReference && v.isRef then some (some v) else none | none => none)
    | _ => none)
  | .return_ => (match st with
    | [] => (match ret with | none => some none | _ => none)
    | _ => none)
  | _ => none
theorem rstep_ok (X : Stand p l e R s m args below meth c T locs cells slots) (hx : p.tables.exec = Jvm.exec) {i : Instr} {ret : Option FieldType} {v : Option Value} (hret : meth.sig.returnType = ret) (hd : decode c.code pc = .ok (i, ilen i)) (h : rstep ret i st = some v) :
    (meth.sig.returnType = none → v.map (rl ρ) = none) ∧ ∀ fs, (∀ (f : JFrame) (acts : List Action), f.method = m → f.locked = none → f.entered = [] → (doReturn e (T.setTop f) acts (v.map (rl ρ))).1 = T.setFrames fs) → Steps p.tables e below (T.setTop (fm ρ m (pc, ls, st))) (T.setFrames fs) := by
  cases i
  case ireturn =>
    unfold rstep at h
    dsimp only at h
    split at h
    · split at h
      · cases h
        exact ⟨fun q => by (rw [hret] at q; cases q), fun fs hl => retOut X hx hret rfl (Or.inl ⟨rfl, Or.inl rfl, _, rfl⟩) hd hl⟩
      · cases h
        exact ⟨fun q => by (rw [hret] at q; cases q), fun fs hl => retN X hx (t := .boolean) hret (by simp) hd hl⟩
      · cases h
        exact ⟨fun q => by (rw [hret] at q; cases q), fun fs hl => retN X hx (t := .byte) hret (by simp) hd hl⟩
      · cases h
        exact ⟨fun q => by (rw [hret] at q; cases q), fun fs hl => retN X hx (t := .char) hret (by simp) hd hl⟩
      · cases h
    · cases h
  case lreturn =>
    unfold rstep at h
    dsimp only at h
    split at h
    · split at h
      · cases h
        exact ⟨fun q => by (rw [hret] at q; cases q), fun fs hl => retOut X hx hret rfl (Or.inr (Or.inl ⟨rfl, rfl, _, rfl⟩)) hd hl⟩
      · cases h
    · cases h
  case areturn =>
    unfold rstep at h
    dsimp only at h
    split at h
    · rename_i w r
      split at h
      · rename_i t
        split at h
        · rename_i q1
          obtain ⟨q1, q2⟩ := Bool.and_eq_true_iff.mp q1
          cases h
          have hn : narrow t (rl ρ w) = rl ρ w := by cases t <;> first | (cases q1; done) | (cases w <;> rfl)
          exact ⟨fun q => by (rw [hret] at q; cases q), fun fs hl => retOut X hx hret hn (Or.inr (Or.inr (Or.inr (Or.inr ⟨rfl, q1, by rw [rl_isRef]; exact q2⟩)))) hd hl⟩
        · cases h
      · cases h
    · cases h
  case return_ =>
    unfold rstep at h
    dsimp only at h
    split at h
    · split at h
      · cases h
        exact ⟨fun _ => rfl, fun fs hl => X.returnOut hx hret hd hl⟩
      · cases h
    · cases h
  all_goals exact absurd (show none = some v from h) (by simp)
end HeapSteps
/-! ### calls -/
def recvOk (i : Instr) (H : List Obj) (c : Nat) (as : List Value) : Bool :=
  match i with
  | .invokestatic _ => true
  | .invokespecial _ => (match as with | .ref _ :: _ => Nat.beq c 0 | _ => false)
  | .invokevirtual _ => (match as with | .ref o :: _ => (match getO H o with | some (C, _) => Nat.beq C c | none => false) | _ => false)
  | .invokeinterface _ _ => (match as with | .ref o :: _ => (match getO H o with | some (C, _) => Nat.beq C c | none => false) | _ => false)
  | _ => false
def callee (P : Nat → Option Meth) (maxL fr lo : Nat) (i : Instr) (a k c : Nat) (f : Fm) (H : List Obj) : Option (Meth × Nat × Nat × List Value × List Value) :=
  match P a with
  | none => none
  | some M => if Nat.beq (f.2.2.take k).length k && Nat.ble 1 fr && Nat.ble (wt (f.2.2.drop k) + (M.2.2.1 + 11)) lo && Nat.beq f.2.1.length maxL && recvOk i H c (f.2.2.take k).reverse then
      some (M, fr - 1, lo - (wt (f.2.2.drop k) + (M.2.2.1 + 11)), (f.2.2.take k).reverse, f.2.2.drop k)
    else none
/-- what a run leans on: methods, how many objects stood at the start, statics, classes, references apart, classes apart, tokens' answers -/
abbrev VT : Type := Nat → Nat → Nat → Instr → Nat → Nat → Nat → Fm → List Obj → Option (Fm × List Obj × Nat)
abbrev Cx : Type := (Nat → Option Meth) × Nat × List (Nat × Value) × (Nat → Option Fls) × (Nat → Nat → Bool) × (Nat → Nat → Bool) × (Instr → Nat → Int32 → Option Value) × VT
def body (G : Cx) (self : Nat → Nat → Meth → Cfg → Option Res) (fr lo : Nat) (M : Meth) (cf : Cfg) : Option Res :=
  match M.2.2.2.2 cf.1.1 with
  | none => none
  | some (i, a, k, c, v) =>
    match pstep G.2.2.2.2.1 i v cf.1 with
    | some f' => self fr lo M (f', cf.2)
    | none =>
     match tstep G.2.2.2.2.2.2.1 i cf.1 with
     | some f' => self fr lo M (f', cf.2)
     | none =>
      match hstep G.2.1 G.2.2.1 G.2.2.2.1 G.2.2.2.2.2.1 i a k c cf.1 cf.2.1 with
      | some (f', H') => self fr lo M (f', H', cf.2.2)
      | none =>
        match rstep M.2.2.2.1 i cf.1.2.2 with
        | some v => some (v, cf.2)
        | none =>
          match astep G.2.2.2.1 i c cf.1 cf.2.1 with
          | some (f', H', ds) => self fr lo M (f', H', cf.2.2.1 + 1, cf.2.2.2 + ds)
          | none =>
            match istep M.2.2.1 fr lo i c cf.1 with
            | some f' => self fr lo M (f', cf.2)
            | none =>
             match G.2.2.2.2.2.2.2 M.2.2.1 fr lo i a k c cf.1 cf.2.1 with
             | some (f', H', ds) => self fr lo M (f', H', cf.2.2.1 + 1, cf.2.2.2 + ds)
             | none =>
              match callee G.1 M.2.2.1 fr lo i a k c cf.1 cf.2.1 with
              | some (M', fr', lo', as, rest) =>
                (match self fr' lo' M' ((0, entL as M'.2.2.1, []), cf.2.1, 0, 0) with
                | some (r, H', c', s') => self fr lo M ((cf.1.1 + ilen i, cf.1.2.1, r.toList ++ rest), H', cf.2.2.1 + c', cf.2.2.2 + s')
                | none => none)
              | none => none
def exec (G : Cx) : Nat → Nat → Nat → Meth → Cfg → Option Res
  | 0 => fun _ _ _ _ => none
  | n + 1 => body G (exec G n)

section Exec
variable {P : Nat → Option Meth} {b : Nat} {S : List (Nat × Value)} {CT : Nat → Option Fls} {D NI : Nat → Nat → Bool} {TB : Instr → Nat → Int32 → Option Value} {V : VT}
theorem exec_mono {G : Cx} : ∀ (n fr lo : Nat) (M : Meth) (cf : Cfg) (r : Res), exec G n fr lo M cf = some r → cf.2.2.1 ≤ r.2.2.1 ∧ cf.2.2.2 ≤ r.2.2.2
  | 0, _, _, _, _, _, h => by cases h
  | n + 1, fr, lo, M, cf, r, h => by
    have h' : body G (exec G n) fr lo M cf = some r := h
    unfold body at h'
    split at h'
    · cases h'
    · split at h'
      · have q := exec_mono n _ _ _ _ _ h'
        exact q
      · split at h'
        · have q := exec_mono n _ _ _ _ _ h'
          exact q
        · split at h'
          · have q := exec_mono n _ _ _ _ _ h'
            exact q
          · split at h'
            · cases h'; exact ⟨Nat.le_refl _, Nat.le_refl _⟩
            · split at h'
              · have q := exec_mono n _ _ _ _ _ h'
                exact ⟨Nat.le_trans (Nat.le_add_right _ _) q.1, Nat.le_trans (Nat.le_add_right _ _) q.2⟩
              · split at h'
                · have q := exec_mono n _ _ _ _ _ h'
                  exact q
                · split at h'
                  · have q := exec_mono n _ _ _ _ _ h'
                    exact ⟨Nat.le_trans (Nat.le_add_right _ _) q.1, Nat.le_trans (Nat.le_add_right _ _) q.2⟩
                  · split at h'
                    · split at h'
                      · have q := exec_mono n _ _ _ _ _ h'
                        exact ⟨Nat.le_trans (Nat.le_add_right _ _) q.1, Nat.le_trans (Nat.le_add_right _ _) q.2⟩
                      · cases h'
                    · cases h'

def GoodM (Z : State) (a0 : Array Value) (P : Nat → Option Meth) (K : Nat → String × String × String) (CN : Nat → String) (MN : Nat → MethodName) (M : Meth) : Prop :=
  ∀ pc r, M.2.2.2.2 pc = some r → decode M.2.1 pc = .ok (r.1, ilen r.1) ∧ (∀ w ∈ need P K CN MN M.1.cls r, w.before a0 Z = true) ∧ side P K MN M.1 r = true
def GoodP (Z : State) (a0 : Array Value) (P : Nat → Option Meth) (K : Nat → String × String × String) (CN : Nat → String) (MN : Nat → MethodName) : Prop :=
  ∀ a M, P a = some M → GoodM Z a0 P K CN MN M ∧ plainFor M.1 = true ∧ (Cond.code M.1 M.2.1 M.2.2.1 M.2.2.2.1).before a0 Z = true ∧ (Cond.initialized M.1.cls).before a0 Z = true

variable {l : Launch} {Z : State} {a0 : Array Value} {ρ : Rho} {K : Nat → String × String × String} {CN : Nat → String} {MN : Nat → MethodName} {n0 : Heap × Nat}

/-- what a run of the machine says of the model, inside a method -/
def Runs (l : Launch) (Z : State) (ρ : Rho) (K : Nat → String × String × String) (CN : Nat → String) (b : Nat) (n0 : Heap × Nat) (S : List (Nat × Value)) (fr lo : Nat) (M : Meth) (cf : Cfg) (r : Res) : Prop :=
  ∀ (p : Program) (e : Env) (R : Room) (s : State) (m : MethodId) (args : Array Value) (below : List Frame) (meth : Method) (c : Code) (T : State) (locs : List Loc),
    Stand p l e R s m args below meth c T locs cf.2.2.1 cf.2.2.2 → p.tables.exec = Jvm.exec → Z.Warmed39 s.vm → s.vm.findClass M.1.cls = some m.cls → meth.name = M.1.name → c.code = M.2.1 → c.maxLocals = M.2.2.1 → meth.sig.returnType = M.2.2.2.1 →
    R.frames = fr → R.locals = lo → r.2.2.1 ≤ R.cells → r.2.2.2 ≤ R.slots → Fr n0.2 locs → Sim Z ρ K CN b n0 S cf.2.1 T.heap → T.heap.size = s.heap.size + cf.2.2.1 →
    ∃ (T' : State) (locs' : List Loc), Stand p l e R s m args below meth c T' locs' r.2.2.1 r.2.2.2 ∧ Fr n0.2 locs' ∧ Sim Z ρ K CN b n0 S r.2.1 T'.heap ∧ T'.heap.size = s.heap.size + r.2.2.1 ∧ (meth.sig.returnType = none → r.1.map (rl ρ) = none) ∧
      ∀ fs, (∀ (f : JFrame) (acts : List Action), f.method = m → f.locked = none → f.entered = [] → (doReturn e (T'.setTop f) acts (r.1.map (rl ρ))).1 = T'.setFrames fs) → Steps p.tables e below (T.setTop (fm ρ m cf.1)) (T'.setFrames fs)

abbrev QR (Z : State) (ρ : Rho) (K : Nat → String × String × String) (CN : Nat → String) (b : Nat) (n0 : Heap × Nat) (S : List (Nat × Value)) (r : Res) (h0 : Heap) (v : Option Value) (h : Heap) (L : List Loc) : Prop :=
  v = r.1.map (rl ρ) ∧ Fr n0.2 L ∧ Sim Z ρ K CN b n0 S r.2.1 h ∧ h.size = h0.size + r.2.2.1

theorem met_of {fr lo : Nat} {M : Meth} {as : List Value} {H : List Obj} {r : Res} (hR : Runs l Z ρ K CN b n0 S fr lo M ((0, entL as M.2.2.1, []), H, 0, 0) r) (hp : plainFor M.1 = true) {h0 : Heap} (hS : Sim Z ρ K CN b n0 S H h0) (ws : List Cond) (R : Room) (h1 : R.frames = fr) (h2 : R.locals = lo) (h3 : r.2.2.1 ≤ R.cells) (h4 : r.2.2.2 ≤ R.slots) :
    MetFree l M.1 (head1 (Cond.code M.1 M.2.1 M.2.2.1 M.2.2.2.1 :: ws) R) (fun a U => a = (as.map (rl ρ)).toArray ∧ Z.Warmed39 U.vm ∧ U.heap = h0) (fun _ _ _ _ _ => True)
      (fun _ U o U' => ∃ v L, o = .returned v ∧ QR Z ρ K CN b n0 S r h0 v U'.heap L ∧ FrameEnd U o U' L r.2.2.1 r.2.2.2) := by
  refine MetFree.of_bodySF hp hisR ?_
  intro p e s m args below meth c s₁ Bd hml0 hP hK
  obtain ⟨rfl, hZ, hh⟩ := hP
  have hx := Bd.exec
  have hby := Bd.bytes
  have hown : s.vm.findClass M.1.cls = some m.cls := findClass_of_methodNamed Bd.named
  have hnm := (name_of_methodNamed Bd.named Bd.method).1
  have X0 : Stand p l e R s m (as.map (rl ρ)).toArray below meth c s₁ [] 0 0 := Stand.of_body Bd
  have e0 : s₁.heap = h0 := by rw [← hh, Bd.state]; rfl
  have es : s₁.heap = s.heap := by rw [Bd.state]; rfl
  obtain ⟨T', L', X', N', hS', hsz, hv, st⟩ := hR _ _ _ _ _ _ _ _ _ _ _ X0 hx hZ hown hnm hby hml0 Bd.returns h1 h2 h3 h4 (Fr.nil n0.2) (by rw [e0]; exact hS) (by rw [es]; rfl)
  obtain ⟨fs, hr, hrun, hended, hW, hsame⟩ := X'.leave (v := r.1.map (rl ρ)) hv
  refine ⟨_, _, castTop (ent_ok ρ m as M.2.2.1) (st fs hr), hrun, hended, _, _, rfl, ⟨rfl, N', hS', ?_⟩, ⟨_, rfl⟩, hW, hsame⟩
  show T'.heap.size = _
  rw [hsz, ← hh]

theorem toList_map (ρ : Rho) (r : Option Value) (rest : List Value) : (r.map (rl ρ)).toList ++ rest.map (rl ρ) = (r.toList ++ rest).map (rl ρ) := by cases r <;> rfl
theorem arity_ok {d : String} {k : Nat} (h : arity d k = true) {L : List Value} (hl : L.length = k) : ∀ sig, parseMethodDescriptor d = some sig → L.length = sig.parameters.length := fun sig hs => by
  unfold arity at h
  rw [hs] at h
  rw [hl]
  exact (by simpa using h : sig.parameters.length = k).symm
theorem notMH_ok {s : String} (h : notMH s = true) : s ≠ "java/lang/invoke/MethodHandle" ∧ s ≠ "java/lang/invoke/VarHandle" := by
  unfold notMH at h
  simpa using h

theorem call_ok {p : Program} {e : Env} {R : Room} {s : State} {m : MethodId} {args : Array Value} {below : List Frame} {meth : Method} {c : Code} {T : State} {locs : List Loc} {cells slots : Nat} {x : MethodName} {pc : Nat} {ls : List Slot} {st : List Value} {H : List Obj}
    (hP : GoodP Z a0 P K CN MN) (X : Stand p l e R s m args below meth c T locs cells slots) (hx : p.tables.exec = Jvm.exec) (hZ : Z.Warmed39 s.vm) (hown : s.vm.findClass x.cls = some m.cls)
    {i : Instr} {a k cc maxL fr lo fr' lo' : Nat} {v : Value} {M' : Meth} {as rest : List Value} {r : Res} (hml : c.maxLocals = maxL) (hfr : R.frames = fr) (hlo : R.locals = lo) (hw : ∀ w ∈ need P K CN MN x.cls (i, a, k, cc, v), w.before a0 Z = true) (hsd : side P K MN x (i, a, k, cc, v) = true)
    (hd : decode c.code pc = .ok (i, ilen i)) (hS : Sim Z ρ K CN b n0 S H T.heap) (h : callee P maxL fr lo i a k cc (pc, ls, st) H = some (M', fr', lo', as, rest))
    (hR : Runs l Z ρ K CN b n0 S fr' lo' M' ((0, entL as M'.2.2.1, []), H, 0, 0) r) (hc : cells + r.2.2.1 ≤ R.cells) (hs : slots + r.2.2.2 ≤ R.slots) :
    ∃ (T' : State) (L : List Loc), Stand p l e R s m args below meth c T' (locs ++ L) (cells + r.2.2.1) (slots + r.2.2.2) ∧ Fr n0.2 L ∧ Sim Z ρ K CN b n0 S r.2.1 T'.heap ∧ T'.heap.size = T.heap.size + r.2.2.1 ∧
      ∀ target, Steps p.tables e below (T'.setTop (fm ρ m (pc + ilen i, ls, r.1.toList ++ rest))) target → Steps p.tables e below (T.setTop (fm ρ m (pc, ls, st))) target := by
  unfold callee at h
  split at h
  · cases h
  · rename_i M hPa
    split at h
    · rename_i q
      obtain ⟨q, q5⟩ := Bool.and_eq_true_iff.mp q
      obtain ⟨q, q4⟩ := Bool.and_eq_true_iff.mp q
      obtain ⟨q, q3⟩ := Bool.and_eq_true_iff.mp q
      obtain ⟨q1, q2⟩ := Bool.and_eq_true_iff.mp q
      simp only [Option.some.injEq, Prod.mk.injEq] at h
      obtain ⟨rfl, rfl, rfl, has, rfl⟩ := h
      dsimp only at q1 q2 q3 q4 q5 has
      obtain ⟨hG, hpl, hcode, hini⟩ := hP a M hPa
      have hk : (st.take k).length = k := Nat.eq_of_beq_eq_true q1
      have hfr1 : 1 ≤ fr := Nat.le_of_ble_eq_true q2
      have hlo1 : wt (st.drop k) + (M.2.2.1 + 11) ≤ lo := Nat.le_of_ble_eq_true q3
      have hsize : (ar ρ ls).size = c.maxLocals := by rw [hml]; simpa [ar] using Nat.eq_of_beq_eq_true q4
      have hM := met_of hR hpl hS [] ({ frames := fr - 1, cells := r.2.2.1, slots := r.2.2.2, locals := lo - (wt (st.drop k) + (M.2.2.1 + 11)) } : Room) rfl rfl (Nat.le_refl _) (Nat.le_refl _)
      have hK := fun len => backOf (p := p) (e := e) (below := below) (s := s) (args := args) (R := R) (len := len) (W := wt (st.drop k)) (rm := ({ frames := fr - 1, cells := r.2.2.1, slots := r.2.2.2, locals := lo - (wt (st.drop k) + (M.2.2.1 + 11)) } : Room)) hM hZ hcode hini (by show fr - 1 + 1 ≤ _; omega) (by show wt (st.drop k) + (M.2.2.1 + 11) + (lo - (wt (st.drop k) + (M.2.2.1 + 11))) ≤ _; omega)
      have hWt : 2 * 0 + ((((st.drop k).map (rl ρ)).map fun v => v.category).sum) ≤ wt (st.drop k) := by rw [wt_rl]; omega
      have hstk : st.map (rl ρ) = ((as.map (rl ρ)).reverse) ++ (st.drop k).map (rl ρ) := by
        rw [← has, ← List.map_reverse, List.reverse_reverse, ← List.map_append, List.take_append_drop]
      have hal : as.length = k := by rw [← has]; simpa using hk
      cases i
      case invokestatic idx =>
        have hw' : ∀ w ∈ [Cond.methodLink x.cls idx M.1, Cond.static M.1], w.before a0 Z = true := fun w hm => hw w (by simp only [need, hPa]; exact hm)
        have hsd' : (notMH M.1.cls && arity M.1.desc k) = true := by simpa [side, hPa] using hsd
        obtain ⟨s1, s2⟩ := Bool.and_eq_true_iff.mp hsd'
        obtain ⟨v, vm₁, ⟨T1, L1, k1, n1⟩, -, X', ⟨L, ⟨hv, N, hS', hsz⟩, e1, e2, e3⟩, st'⟩ := Jvm.LawKit.callS X hx (y := M.1) hown (mvT hZ (hw' _ (by simp))) (mvT hZ (hw' _ (by simp))) (mvT hZ hini) (mvT hZ hcode) (notMH_ok s1) (hK 3) (g := fm ρ m (pc, ls, st)) rfl hsize (argsL := as.map (rl ρ)) (rest := (st.drop k).map (rl ρ)) (arity_ok s2 (by simpa using hal)) hstk hWt hd (fun _ _ => ⟨rfl, rfl, hc, hs⟩)
        dsimp only [Pt.U, Pt.locs, Pt.cells, Pt.slots] at X' e1 e2 e3 st' hS' hsz
        subst e1 e2 e3 hv
        exact ⟨T1, L, X', N, hS', hsz, fun target hr => st' target (by rw [toList_map]; exact hr)⟩
      case invokespecial idx =>
        unfold recvOk at q5
        rw [has] at q5
        dsimp only at q5
        split at q5
        · rename_i o as'
          have hc0 := Nat.eq_of_beq_eq_true q5
          subst hc0
          have hw' : ∀ w ∈ [Cond.methodLink x.cls idx M.1, Cond.instanceMethod M.1], w.before a0 Z = true := fun w hm => hw w (by simp only [need, hPa]; exact hm)
          have hsd' : (notMH M.1.cls && arity M.1.desc (k - 1) && M.1.name == "<init>" && decide (M.2.2.2.1 = none)) = true := by simpa [side, hPa] using hsd
          obtain ⟨s1, s4⟩ := Bool.and_eq_true_iff.mp hsd'
          obtain ⟨s1, s3⟩ := Bool.and_eq_true_iff.mp s1
          obtain ⟨s1, s2⟩ := Bool.and_eq_true_iff.mp s1
          have hret : M.2.2.2.1 = none := of_decide_eq_true s4
          have hcode' := hcode
          rw [hret] at hcode'
          obtain ⟨v, vm₁, ⟨T1, L1, k1, n1⟩, -, X', ⟨L, ⟨hv, N, hS', hsz⟩, e1, e2, e3⟩, st'⟩ := X.specialBack hx (y := M.1) (by simpa using s3) hown (mvT hZ (hw' _ (by simp))) (mvT hZ (hw' _ (by simp))) (mvT hZ hcode') (notMH_ok s1) (hK 3) (g := fm ρ m (pc, ls, st)) rfl hsize (Steps.refl _) (a := ρ.1 o) (argsL := as'.map (rl ρ)) (rest := (st.drop k).map (rl ρ)) (arity_ok s2 (by simp at hal ⊢; omega)) (by rw [show (fm ρ m (pc, ls, st)).stack = st.map (rl ρ) from rfl, hstk]; simp [rl]) hWt hd (fun _ _ => ⟨rfl, rfl, hc, hs⟩)
          dsimp only [Pt.U, Pt.locs, Pt.cells, Pt.slots] at X' e1 e2 e3 st' hS' hsz
          subst e1 e2 e3 hv
          exact ⟨T1, L, X', N, hS', hsz, fun target hr => st'.trans (by rw [toList_map]; exact hr)⟩
        · cases q5
      case invokevirtual idx =>
        unfold recvOk at q5
        rw [has] at q5
        dsimp only at q5
        split at q5
        · rename_i o as'
          split at q5
          · rename_i C fs qo
            have hc0 := Nat.eq_of_beq_eq_true q5
            subst hc0
            obtain ⟨E, -⟩ := hS.2.2.1 _ _ (getO_inv qo)
            have hw' : ∀ w ∈ [Cond.methodLink x.cls idx M.1, Cond.declares M.1, Cond.selects (CN C) M.1 M.1, Cond.instanceMethod M.1], w.before a0 Z = true := fun w hm => hw w (by simp only [need, hPa]; exact hm)
            have hsd' : (notMH M.1.cls && arity M.1.desc (k - 1)) = true := by simpa [side, hPa] using hsd
            obtain ⟨s1, s2⟩ := Bool.and_eq_true_iff.mp hsd'
            obtain ⟨cq, kq, qa, qb, qc⟩ := isOf hZ (T := T) rfl E
            obtain ⟨v, vm₁, ⟨T1, L1, k1, n1⟩, -, X', ⟨L, ⟨hv, N, hS', hsz⟩, e1, e2, e3⟩, st'⟩ := X.virtualBack hx (y := M.1) (z := M.1) hown (mvT hZ (hw' _ (by simp))) (mvT hZ (hw' _ (by simp))) (notFace_of_selects (args := #[]) (C := CN C) (mvT hZ (hw' _ (by simp)))) (mvT hZ (hw' (Cond.selects (CN C) M.1 M.1) (by simp))) (mvT hZ (hw' _ (by simp))) (notMH_ok s1) (hK 3) qa qc (g := fm ρ m (pc, ls, st)) rfl hsize (Steps.refl _) (argsL := as'.map (rl ρ)) (rest := (st.drop k).map (rl ρ)) (arity_ok s2 (by simp at hal ⊢; omega)) (by rw [show (fm ρ m (pc, ls, st)).stack = st.map (rl ρ) from rfl, hstk]; simp [rl]) hWt hd (fun _ _ => ⟨rfl, rfl, hc, hs⟩)
            dsimp only [Pt.U, Pt.locs, Pt.cells, Pt.slots] at X' e1 e2 e3 st' hS' hsz
            subst e1 e2 e3 hv
            exact ⟨T1, L, X', N, hS', hsz, fun target hr => st'.trans (by rw [toList_map]; exact hr)⟩
          · cases q5
        · cases q5
      case invokeinterface idx cnt =>
        unfold recvOk at q5
        rw [has] at q5
        dsimp only at q5
        split at q5
        · rename_i o as'
          split at q5
          · rename_i C fs qo
            have hc0 := Nat.eq_of_beq_eq_true q5
            subst hc0
            obtain ⟨E, -⟩ := hS.2.2.1 _ _ (getO_inv qo)
            cases v with
            | retAddr r0 =>
              have hw' : ∀ w ∈ [Cond.methodLink x.cls idx (MN r0), Cond.declares (MN r0), Cond.interfaceMethod (MN r0).cls (MN r0).cls (MN r0).name (MN r0).desc, Cond.selects (CN C) (MN r0) M.1, Cond.instanceMethod M.1, Cond.publicMethod M.1, Cond.unhidden (CN C) (MN r0).name (MN r0).desc, Cond.castable (CN C) (MN r0).cls], w.before a0 Z = true := fun w hm => hw w (by simp only [need, hPa]; exact hm)
              have hsd' : (notMH (MN r0).cls && arity (MN r0).desc (k - 1)) = true := by simpa [side] using hsd
              obtain ⟨s1, s2⟩ := Bool.and_eq_true_iff.mp hsd'
              obtain ⟨cq, kq, qa, qb, qc⟩ := isOf hZ (T := T) rfl E
              obtain ⟨v, vm₁, ⟨T1, L1, k1, n1⟩, -, X', ⟨L, ⟨hv, N, hS', hsz⟩, e1, e2, e3⟩, st'⟩ := X.interfaceBack hx (C := CN C) (xi := MN r0) (y := M.1) hown (mvT hZ (hw' (Cond.methodLink x.cls idx (MN r0)) (by simp))) (mvT hZ (hw' (Cond.declares (MN r0)) (by simp))) (mvT hZ (hw' (Cond.interfaceMethod (MN r0).cls (MN r0).cls (MN r0).name (MN r0).desc) (by simp)) (hd := by simpa [Cond.onTables, Cond.keepsFace, Cond.keeps, Cond.steady, Cond.faceAtom] using notMH_ok s1)) (mvT hZ (hw' (Cond.selects (CN C) (MN r0) M.1) (by simp))) (mvT hZ (hw' (Cond.instanceMethod M.1) (by simp))) (mvT hZ (hw' (Cond.publicMethod M.1) (by simp))) (mvT hZ (hw' (Cond.unhidden (CN C) (MN r0).name (MN r0).desc) (by simp))) (mvT hZ (hw' (Cond.castable (CN C) (MN r0).cls) (by simp))) (notMH_ok s1) (hK 5) qa qb qc (g := fm ρ m (pc, ls, st)) rfl hsize (Steps.refl _) (argsL := as'.map (rl ρ)) (rest := (st.drop k).map (rl ρ)) (arity_ok s2 (by simp at hal ⊢; omega)) (by rw [show (fm ρ m (pc, ls, st)).stack = st.map (rl ρ) from rfl, hstk]; simp [rl]) hWt hd (fun _ _ => ⟨rfl, rfl, hc, hs⟩)
              dsimp only [Pt.U, Pt.locs, Pt.cells, Pt.slots] at X' e1 e2 e3 st' hS' hsz
              subst e1 e2 e3 hv
              exact ⟨T1, L, X', N, hS', hsz, fun target hr => st'.trans (by rw [toList_map]; exact hr)⟩
            | _ => exact absurd hsd (by simp [side])
          · cases q5
        · cases q5
      all_goals exact absurd (show false = true from q5) (by simp)
    · cases h

/-- what is asked of the step V -/
def VOk (l : Launch) (Z : State) (a0 : Array Value) (ρ : Rho) (K : Nat → String × String × String) (CN : Nat → String) (MN : Nat → MethodName) (b : Nat) (n0 : Heap × Nat) (S : List (Nat × Value)) (P : Nat → Option Meth) (V : VT) : Prop :=
  ∀ {p : Program} {e : Env} {R : Room} {s : State} {m : MethodId} {args : Array Value} {below : List Frame} {meth : Method} {c : Code} {T : State} {locs : List Loc} {cells slots : Nat} {x : MethodName} {pc : Nat} {ls : List Slot} {st : List Value} {H H' : List Obj} {f' : Fm} {i : Instr} {a k cc maxL fr lo ds : Nat} {v : Value},
    Stand p l e R s m args below meth c T locs cells slots → p.tables.exec = Jvm.exec → Z.Warmed39 s.vm → s.vm.findClass x.cls = some m.cls → c.maxLocals = maxL → R.frames = fr → R.locals = lo → (∀ w ∈ need P K CN MN x.cls (i, a, k, cc, v), w.before a0 Z = true) → side P K MN x (i, a, k, cc, v) = true →
    decode c.code pc = .ok (i, ilen i) → Sim Z ρ K CN b n0 S H T.heap → V maxL fr lo i a k cc (pc, ls, st) H = some (f', H', ds) → cells + 1 ≤ R.cells → slots + ds ≤ R.slots →
    ∃ T' : State, Stand p l e R s m args below meth c T' locs (cells + 1) (slots + ds) ∧ Sim Z ρ K CN b n0 S H' T'.heap ∧ T'.heap.size = T.heap.size + 1 ∧ ∀ target, Steps p.tables e below (T'.setTop (fm ρ m f')) target → Steps p.tables e below (T.setTop (fm ρ m (pc, ls, st))) target
theorem exec_ok (hρ1 : ∀ i, b ≤ i → ρ.1 i = n0.1.size + (i - b)) (hρ0 : ∀ i, i < b → ρ.1 i < n0.1.size) (hD : ∀ i j, D i j = true → ρ.1 i ≠ ρ.1 j) (hCT : ∀ C F, CT C = some F → ClsOk Z a0 K CN C F)
    (hNI : ∀ C k, NI C k = true → ∃ c t, Z.vm.findClass (CN C) = some c ∧ Z.vm.findClass (CN k) = some t ∧ Z.vm.assignable c t = false) (hP : GoodP Z a0 P K CN MN) (hTB : TbOk ρ TB) (hV : VOk l Z a0 ρ K CN MN b n0 S P V) :
    ∀ (n fr lo : Nat) (M : Meth) (cf : Cfg) (r : Res), GoodM Z a0 P K CN MN M → exec (P, b, S, CT, D, NI, TB, V) n fr lo M cf = some r → Runs l Z ρ K CN b n0 S fr lo M cf r
  | 0, _, _, _, _, _, _, h => by cases h
  | n + 1, fr, lo, M, ⟨⟨pc, ls, st⟩, H, cells, slots⟩, r, hG, h => by

    intro p e R s m args below meth c T locs X hx hZ hown hnm hby hml hret hfr hlo hrc hrs N hS hsz
    have ih := exec_ok hρ1 hρ0 hD hCT hNI hP hTB hV n
    have h' : body (P, b, S, CT, D, NI, TB, V) (exec (P, b, S, CT, D, NI, TB, V) n) fr lo M ((pc, ls, st), H, cells, slots) = some r := h
    unfold body at h'
    dsimp only at h' X hS hsz
    split at h'
    · cases h'
    · rename_i i a k cc v hf
      obtain ⟨hd0, hw, hsd⟩ := hG _ _ hf
      have hd : decode c.code pc = .ok (i, ilen i) := by rw [hby]; exact hd0
      split at h'
      · rename_i f' hstep
        obtain ⟨T', L', X', N', hS', hsz', hv, st'⟩ := ih _ _ _ _ _ hG h' _ _ _ _ _ _ _ _ _ _ _ X hx hZ hown hnm hby hml hret hfr hlo hrc hrs N hS hsz
        refine ⟨T', L', X', N', hS', hsz', hv, fun fs hl => pstep_ok X hx hown hD hd (fun k' x' e1 e2 => ?_) (fun k' x' e1 e2 => ?_) hstep _ (st' fs hl)⟩
        · subst e1 e2; exact mvT hZ (hw _ (by simp [need]))
        · subst e1 e2; exact mvT hZ (hw _ (by simp [need]))
      · split at h'
        · rename_i f' hstep
          obtain ⟨T', L', X', N', hS', hsz', hv, st'⟩ := ih _ _ _ _ _ hG h' _ _ _ _ _ _ _ _ _ _ _ X hx hZ hown hnm hby hml hret hfr hlo hrc hrs N hS hsz
          exact ⟨T', L', X', N', hS', hsz', hv, fun fs hl => tstep_ok hTB X hx hd hstep _ (st' fs hl)⟩
        · split at h'
          · rename_i f' H' hstep
            obtain ⟨T1, L1, X1, N1, hS1, hsz1, st1⟩ := hstep_ok hρ1 hρ0 hCT hNI X hx hZ hown hnm hw hsd hd N hS hstep
            obtain ⟨T', L', X', N', hS', hsz', hv, st'⟩ := ih _ _ _ _ _ hG h' _ _ _ _ _ _ _ _ _ _ _ X1 hx hZ hown hnm hby hml hret hfr hlo hrc hrs N1 hS1 (hsz1.trans hsz)
            exact ⟨T', L', X', N', hS', hsz', hv, fun fs hl => st1 _ (st' fs hl)⟩
          · split at h'
            · rename_i v' hstep
              cases h'
              obtain ⟨q1, q2⟩ := rstep_ok (ρ := ρ) (ls := ls) X hx hret hd hstep
              exact ⟨T, locs, X, N, hS, hsz, q1, q2⟩
            · split at h'
              · rename_i f' H' ds hstep
                have hm := exec_mono _ _ _ _ _ _ h'
                dsimp only at hm
                obtain ⟨T1, X1, hS1, hsz1, st1⟩ := astep_ok hρ1 hCT X hx hZ hown hw hd hS hsz hstep (Nat.le_trans hm.1 hrc) (Nat.le_trans hm.2 hrs)
                obtain ⟨T', L', X', N', hS', hsz', hv, st'⟩ := ih _ _ _ _ _ hG h' _ _ _ _ _ _ _ _ _ _ _ X1 hx hZ hown hnm hby hml hret hfr hlo hrc hrs N hS1 hsz1
                exact ⟨T', L', X', N', hS', hsz', hv, fun fs hl => st1 _ (st' fs hl)⟩
              · split at h'
                · rename_i f' hstep
                  obtain ⟨T1, L1, X1, N1, hS1, hsz1, st1⟩ := istep_ok X hx hZ hown hml hfr hlo hw hd N hS hstep
                  obtain ⟨T', L', X', N', hS', hsz', hv, st'⟩ := ih _ _ _ _ _ hG h' _ _ _ _ _ _ _ _ _ _ _ X1 hx hZ hown hnm hby hml hret hfr hlo hrc hrs N1 hS1 (hsz1.trans hsz)
                  exact ⟨T', L', X', N', hS', hsz', hv, fun fs hl => st1 _ (st' fs hl)⟩
                · split at h'
                  · rename_i f' H' ds hstep
                    have hm := exec_mono _ _ _ _ _ _ h'
                    dsimp only at hm
                    obtain ⟨T1, X1, hS1, hsz1, st1⟩ := hV X hx hZ hown hml hfr hlo hw hsd hd hS hstep (Nat.le_trans hm.1 hrc) (Nat.le_trans hm.2 hrs)
                    obtain ⟨T', L', X', N', hS', hsz', hv, st'⟩ := ih _ _ _ _ _ hG h' _ _ _ _ _ _ _ _ _ _ _ X1 hx hZ hown hnm hby hml hret hfr hlo hrc hrs N hS1 (by rw [hsz1, hsz]; exact Nat.add_assoc ..)
                    exact ⟨T', L', X', N', hS', hsz', hv, fun fs hl => st1 _ (st' fs hl)⟩
                  · split at h'
                    · rename_i M' fr' lo' as rest hcal
                      split at h'
                      · rename_i r' H' c' s' hrun
                        have hm := exec_mono _ _ _ _ _ _ h'
                        dsimp only at hm
                        have hG' : GoodM Z a0 P K CN MN M' := by
                          unfold callee at hcal
                          split at hcal
                          · cases hcal
                          · rename_i M2 hPa
                            split at hcal
                            · cases hcal; exact (hP _ _ hPa).1
                            · cases hcal
                        have hrun' := ih _ _ _ _ _ hG' hrun
                        obtain ⟨T1, L1, X1, N1, hS1, hsz1, st1⟩ := call_ok hP X hx hZ hown hml hfr hlo hw hsd hd hS hcal hrun' (Nat.le_trans hm.1 hrc) (Nat.le_trans hm.2 hrs)
                        obtain ⟨T', L', X', N', hS', hsz', hv, st'⟩ := ih _ _ _ _ _ hG h' _ _ _ _ _ _ _ _ _ _ _ X1 hx hZ hown hnm hby hml hret hfr hlo hrc hrs (Fr.app N N1) hS1 (by rw [hsz1, hsz]; exact Nat.add_assoc ..)
                        exact ⟨T', L', X', N', hS', hsz', hv, fun fs hl => st1 _ (st' fs hl)⟩
                      · cases h'
                    · cases h'
end Exec
end Jvm.Eng
namespace Jvm.Eng
open Jvm Jvm.ClassFile Sem Op Lib Jvm.Free Jvm.Stand Jvm.LawKit Jvm.RoadKit
/-! ### a program's rows, and that the sheet's words pay them -/
def lf (pc : Nat) (r : Row) : Nat → Option Row := fun q => match Nat.beq q pc with | true => some r | false => none
def nd (k : Nat) (A B : Nat → Option Row) : Nat → Option Row := fun q => match Nat.ble k q with | true => B q | false => A q
def upTo (n : Nat) (A : Nat → Option Row) : Nat → Option Row := fun q => match Nat.ble n q with | true => none | false => A q
def chk1 (P : Nat → Option Meth) (K : Nat → String × String × String) (CN : Nat → String) (MN : Nat → MethodName) (tb : List Cond) (M : Meth) (q : Nat) : Bool :=
  match M.2.2.2.2 q with
  | none => true
  | some r => decide (decode M.2.1 q = .ok (r.1, ilen r.1)) && ((need P K CN MN M.1.cls r).all (fun w => decide (w ∈ tb)) && side P K MN M.1 r)
def chk (P : Nat → Option Meth) (K : Nat → String × String × String) (CN : Nat → String) (MN : Nat → MethodName) (tb : List Cond) (n : Nat) (M : Meth) : Bool := (List.range n).all (chk1 P K CN MN tb M)
section Checks
variable {Z : State} {a0 : Array Value} {tb : List Cond} {P : Nat → Option Meth} {K : Nat → String × String × String} {CN : Nat → String} {MN : Nat → MethodName}
theorem good_of (hw : ∀ d ∈ tb, d.before a0 Z = true) {n : Nat} {M : Meth} (h : chk P K CN MN tb n M = true) {t : Nat → Option Row} (hM : M.2.2.2.2 = upTo n t) : GoodM Z a0 P K CN MN M := by
  intro pc r hr
  have hlt : pc < n := by
    rw [hM] at hr
    unfold upTo at hr
    split at hr
    · cases hr
    · rename_i q; exact Nat.lt_of_not_le fun z => by rw [Nat.ble_eq_true_of_le z] at q; cases q
  have h1 := List.all_eq_true.mp h pc (List.mem_range.mpr hlt)
  unfold chk1 at h1
  rw [hr] at h1
  dsimp only at h1
  obtain ⟨q1, q2⟩ := Bool.and_eq_true_iff.mp h1
  obtain ⟨q2, q3⟩ := Bool.and_eq_true_iff.mp q2
  exact ⟨of_decide_eq_true q1, fun w hm => hw w (of_decide_eq_true (List.all_eq_true.mp q2 w hm)), q3⟩
def clsChk (K : Nat → String × String × String) (CN : Nat → String) (tb : List Cond) (C : Nat) (F : Fls) : Bool :=
  decide (Cond.instantiable (CN C) F.1 ∈ tb) && decide (Cond.initialized (CN C) ∈ tb) &&
  (F.2.all fun q => decide ((if q.2.2 = true then Cond.laysFinal (CN C) (K q.1).1 (K q.1).2.1 (K q.1).2.2 else Cond.lays (CN C) (K q.1).1 (K q.1).2.1 (K q.1).2.2) ∈ tb) &&
    (match parseFieldDescriptor (K q.1).2.2 with | some ty => decide (defaultValue ty = q.2.1) && (decide (ty = .int) || decide (ty = .long) || ty.isReference || (decide (ty = .byte) && decide ((K q.1).2.2 = "B"))) | none => false)) &&
  F.2.all fun q => F.2.all fun q' => decide (q.1 = q'.1) || decide ((K q.1).2.1 ≠ (K q'.1).2.1)
theorem cls_of (hw : ∀ d ∈ tb, d.before a0 Z = true) {C : Nat} {F : Fls} (h : clsChk K CN tb C F = true) : ClsOk Z a0 K CN C F := by
  unfold clsChk at h
  obtain ⟨h, h4⟩ := Bool.and_eq_true_iff.mp h
  obtain ⟨h, h3⟩ := Bool.and_eq_true_iff.mp h
  obtain ⟨h1, h2⟩ := Bool.and_eq_true_iff.mp h
  refine ⟨hw _ (of_decide_eq_true h1), hw _ (of_decide_eq_true h2), fun q hq => ?_, fun q hq q' hq' ne => ?_⟩
  · have w := List.all_eq_true.mp h3 q hq
    obtain ⟨w1, w2⟩ := Bool.and_eq_true_iff.mp w
    refine ⟨?_, ?_⟩
    · have w3 := hw _ (of_decide_eq_true w1)
      split
      · rename_i e; rw [if_pos e] at w3; exact w3
      · rename_i e; rw [if_neg e] at w3; exact w3
    · split at w2
      · rename_i ty e
        obtain ⟨v1, v2⟩ := Bool.and_eq_true_iff.mp w2
        refine ⟨ty, e, of_decide_eq_true v1, ?_⟩
        rcases Bool.or_eq_true_iff.mp v2 with v2 | v2
        · rcases Bool.or_eq_true_iff.mp v2 with v2 | v2
          · rcases Bool.or_eq_true_iff.mp v2 with v2 | v2
            · exact Or.inl (of_decide_eq_true v2)
            · exact Or.inr (Or.inl (of_decide_eq_true v2))
          · exact Or.inr (Or.inr (Or.inl v2))
        · obtain ⟨v3, v4⟩ := Bool.and_eq_true_iff.mp v2
          exact Or.inr (Or.inr (Or.inr ⟨of_decide_eq_true v3, of_decide_eq_true v4⟩))
      · cases w2
  · have w := List.all_eq_true.mp (List.all_eq_true.mp h4 q hq) q' hq'
    rcases Bool.or_eq_true_iff.mp w with w | w
    · exact absurd (of_decide_eq_true w) ne
    · exact of_decide_eq_true w
theorem code_of (hw : ∀ d ∈ tb, d.before a0 Z = true) {M : Meth} (h : (decide (Cond.code M.1 M.2.1 M.2.2.1 M.2.2.2.1 ∈ tb) && decide (Cond.initialized M.1.cls ∈ tb)) = true) : (Cond.code M.1 M.2.1 M.2.2.1 M.2.2.2.1).before a0 Z = true ∧ (Cond.initialized M.1.cls).before a0 Z = true := by
  obtain ⟨h1, h2⟩ := Bool.and_eq_true_iff.mp h
  exact ⟨hw _ (of_decide_eq_true h1), hw _ (of_decide_eq_true h2)⟩
end Checks

/-! ### running by hand -/
section Reach
variable {G : Cx}
/-- one step that is no call and no return -/
def next (G : Cx) (fr lo : Nat) (M : Meth) (cf : Cfg) : Option Cfg :=
  match M.2.2.2.2 cf.1.1 with
  | none => none
  | some (i, a, k, c, v) =>
    match pstep G.2.2.2.2.1 i v cf.1 with
    | some f' => some (f', cf.2)
    | none =>
     match tstep G.2.2.2.2.2.2.1 i cf.1 with
     | some f' => some (f', cf.2)
     | none =>
      match hstep G.2.1 G.2.2.1 G.2.2.2.1 G.2.2.2.2.2.1 i a k c cf.1 cf.2.1 with
      | some (f', H') => some (f', H', cf.2.2)
      | none =>
        match rstep M.2.2.2.1 i cf.1.2.2 with
        | some _ => none
        | none =>
          match astep G.2.2.2.1 i c cf.1 cf.2.1 with
          | some (f', H', ds) => some (f', H', cf.2.2.1 + 1, cf.2.2.2 + ds)
          | none =>
            match istep M.2.2.1 fr lo i c cf.1 with
            | some f' => some (f', cf.2)
            | none =>
              match G.2.2.2.2.2.2.2 M.2.2.1 fr lo i a k c cf.1 cf.2.1 with
              | some (f', H', ds) => some (f', H', cf.2.2.1 + 1, cf.2.2.2 + ds)
              | none => none
def runK (G : Cx) (fr lo : Nat) (M : Meth) : Nat → Cfg → Option Cfg
  | 0, cf => some cf
  | n + 1, cf => match next G fr lo M cf with
    | some cf' => runK G fr lo M n cf'
    | none => none
def Rch (G : Cx) (fr lo : Nat) (M : Meth) (cf : Cfg) (r : Res) : Prop := ∃ n, exec G n fr lo M cf = some r

theorem exec_more : ∀ (n fr lo : Nat) (M : Meth) (cf : Cfg) (r : Res), exec G n fr lo M cf = some r → exec G (n + 1) fr lo M cf = some r
  | 0, _, _, _, _, _, h => by cases h
  | n + 1, fr, lo, M, cf, r, h => by
    have h' : body G (exec G n) fr lo M cf = some r := h
    show body G (exec G (n + 1)) fr lo M cf = some r
    unfold body at h' ⊢
    split at h'
    · cases h'
    · rename_i q0
      
      split at h'
      · rename_i q1; exact exec_more n _ _ _ _ _ h'
      · rename_i q1
        split at h'
        · rename_i q2; exact exec_more n _ _ _ _ _ h'
        · rename_i q2
          split at h'
          · rename_i q3; exact exec_more n _ _ _ _ _ h'
          · rename_i q3
            split at h'
            · rename_i q4; exact h'
            · rename_i q4
              split at h'
              · rename_i q5; exact exec_more n _ _ _ _ _ h'
              · rename_i q5
                split at h'
                · rename_i q6; exact exec_more n _ _ _ _ _ h'
                · rename_i q6
                  split at h'
                  · rename_i q9; exact exec_more n _ _ _ _ _ h'
                  · rename_i q9
                    split at h'
                    · rename_i q7
                      split at h'
                      · rename_i q8; simp only [exec_more n _ _ _ _ _ q8]; exact exec_more n _ _ _ _ _ h'
                      · cases h'
                    · cases h'
theorem exec_add (k : Nat) {n fr lo : Nat} {M : Meth} {cf : Cfg} {r : Res} (h : exec G n fr lo M cf = some r) : exec G (n + k) fr lo M cf = some r := by
  induction k with
  | zero => exact h
  | succ k ih => exact exec_more _ _ _ _ _ _ ih
theorem next_exec {n fr lo : Nat} {M : Meth} {cf cf' : Cfg} (h : next G fr lo M cf = some cf') : exec G (n + 1) fr lo M cf = exec G n fr lo M cf' := by
  show body G (exec G n) fr lo M cf = _
  unfold next at h
  unfold body
  split at h
  · cases h
  · rename_i q0
    (try simp only [q0])
    split at h
    · rename_i q1; (try simp only [q1]); cases h; rfl
    · rename_i q1; (try simp only [q1])
      split at h
      · rename_i q2; (try simp only [q2]); cases h; rfl
      · rename_i q2; (try simp only [q2])
        split at h
        · rename_i q3; (try simp only [q3]); cases h; rfl
        · rename_i q3; (try simp only [q3])
          split at h
          · cases h
          · rename_i q4; (try simp only [q4])
            split at h
            · rename_i q5; (try simp only [q5]); cases h; rfl
            · rename_i q5; (try simp only [q5])
              split at h
              · rename_i q6; (try simp only [q6]); cases h; rfl
              · rename_i q6; (try simp only [q6])
                split at h
                · rename_i q7; (try simp only [q7]); cases h; rfl
                · cases h
theorem Rch.step1 {fr lo : Nat} {M : Meth} {cf cf' : Cfg} {r : Res} (h : next G fr lo M cf = some cf') (hr : Rch G fr lo M cf' r) : Rch G fr lo M cf r := by
  obtain ⟨n, hn⟩ := hr
  exact ⟨n + 1, by rw [next_exec h]; exact hn⟩
theorem Rch.run {fr lo : Nat} {M : Meth} (k : Nat) {cf cf' : Cfg} {r : Res} (h : runK G fr lo M k cf = some cf') (hr : Rch G fr lo M cf' r) : Rch G fr lo M cf r := by
  induction k generalizing cf with
  | zero => cases h; exact hr
  | succ k ih =>
    have h' : (match next G fr lo M cf with | some cf' => runK G fr lo M k cf' | none => none) = some cf' := h
    split at h'
    · rename_i q; exact Rch.step1 q (ih h')
    · cases h'
theorem Rch.ret {fr lo : Nat} {M : Meth} {cf : Cfg} {r : Res} (h : exec G 1 fr lo M cf = some r) : Rch G fr lo M cf r := ⟨1, h⟩
theorem Rch.call {fr lo fr' lo' i a k c pc cells slots c' s' : Nat} {ins : Instr} {v : Value} {M M' : Meth} {ls : List Slot} {st as rest : List Value} {H H' : List Obj} {r : Res} {w : Option Value} (hf : M.2.2.2.2 pc = some (ins, a, k, c, v)) (hp : pstep G.2.2.2.2.1 ins v (pc, ls, st) = none) (ht : tstep G.2.2.2.2.2.2.1 ins (pc, ls, st) = none) (hh : hstep G.2.1 G.2.2.1 G.2.2.2.1 G.2.2.2.2.2.1 ins a k c (pc, ls, st) H = none) (hr0 : rstep M.2.2.2.1 ins st = none) (ha : astep G.2.2.2.1 ins c (pc, ls, st) H = none)
    (hi : istep M.2.2.1 fr lo ins c (pc, ls, st) = none) (hv : G.2.2.2.2.2.2.2 M.2.2.1 fr lo ins a k c (pc, ls, st) H = none) (hc : callee G.1 M.2.2.1 fr lo ins a k c (pc, ls, st) H = some (M', fr', lo', as, rest)) (hcall : Rch G fr' lo' M' ((0, entL as M'.2.2.1, []), H, 0, 0) (w, H', c', s'))
    (hr : Rch G fr lo M ((pc + ilen ins, ls, w.toList ++ rest), H', cells + c', slots + s') r) : Rch G fr lo M ((pc, ls, st), H, cells, slots) r := by
  obtain ⟨n1, h1⟩ := hcall
  obtain ⟨n2, h2⟩ := hr
  have h1' := exec_add n2 h1
  have h2' := exec_add n1 h2
  rw [Nat.add_comm n2 n1] at h2'
  refine ⟨n1 + n2 + 1, ?_⟩
  show body G (exec G (n1 + n2)) fr lo M ((pc, ls, st), H, cells, slots) = some r
  unfold body
  simp only [hf, hp, ht, hh, hr0, ha, hi, hv, hc, h1']
  exact h2'
end Reach
end Jvm.Eng
namespace Jvm.Eng
open Jvm Jvm.ClassFile Sem Op Lib Jvm.Free Jvm.Stand Jvm.LawKit Jvm.RoadKit
section Walk
variable {G : Cx} {fr lo : Nat} {M : Meth} {Q : Res → Prop} {cf : Cfg}
/-- the machine ends, and Q holds of what it leaves -/
def EW (G : Cx) (fr lo : Nat) (M : Meth) (Q : Res → Prop) (cf : Cfg) : Prop := ∃ r, Rch G fr lo M cf r ∧ Q r
theorem EW.run (k : Nat) {cf' : Cfg} (h : runK G fr lo M k cf = some cf') (hr : EW G fr lo M Q cf') : EW G fr lo M Q cf := by
  obtain ⟨r, h1, h2⟩ := hr; exact ⟨r, h1.run k h, h2⟩
theorem EW.ret {r : Res} (h : exec G 1 fr lo M cf = some r) (q : Q r) : EW G fr lo M Q cf := ⟨r, Rch.ret h, q⟩
theorem EW.all (n : Nat) {r : Res} (h : exec G n fr lo M cf = some r) (q : Q r) : EW G fr lo M Q cf := ⟨r, ⟨n, h⟩, q⟩
theorem EW.mono {Q' : Res → Prop} (h : EW G fr lo M Q cf) (q : ∀ r, Q r → Q' r) : EW G fr lo M Q' cf := by
  obtain ⟨r, h1, h2⟩ := h; exact ⟨r, h1, q r h2⟩
/-- a branch on two ints -/
theorem EW.icmp {pc : Nat} {ls : List Slot} {st : List Value} {H : List Obj × Nat × Nat} {cd : ClassFile.Cond} {o : Int} {a k c : Nat} {v : Value} {x y : Int32} (hf : M.2.2.2.2 pc = some (.if_icmp cd o, a, k, c, v)) (ho : 0 ≤ (pc : Int) + o)
    (h1 : if_icmp.holds cd x y = true → EW G fr lo M Q ((((pc : Int) + o).toNat, ls, st), H)) (h2 : if_icmp.holds cd x y = false → EW G fr lo M Q ((pc + 3, ls, st), H)) : EW G fr lo M Q ((pc, ls, .int y :: .int x :: st), H) := by
  cases hc : if_icmp.holds cd x y with
  | true =>
    refine EW.run 1 ?_ (h1 hc)
    show (match next G fr lo M ((pc, ls, .int y :: .int x :: st), H) with | some cf' => runK G fr lo M 0 cf' | none => none) = _
    have : next G fr lo M ((pc, ls, .int y :: .int x :: st), H) = some ((((pc : Int) + o).toNat, ls, st), H) := by
      unfold next
      simp only [hf, pstep, pIcmp, br, hc, ho, if_true]
    rw [this]; rfl
  | false =>
    refine EW.run 1 ?_ (h2 hc)
    show (match next G fr lo M ((pc, ls, .int y :: .int x :: st), H) with | some cf' => runK G fr lo M 0 cf' | none => none) = _
    have : next G fr lo M ((pc, ls, .int y :: .int x :: st), H) = some ((pc + 3, ls, st), H) := by
      unfold next
      simp only [hf, pstep, pIcmp, br, hc]
    rw [this]; rfl
theorem EW.ifc {pc : Nat} {ls : List Slot} {st : List Value} {H : List Obj × Nat × Nat} {cd : ClassFile.Cond} {o : Int} {a k c : Nat} {v : Value} {x : Int32} (hf : M.2.2.2.2 pc = some (.ifCond cd o, a, k, c, v)) (ho : 0 ≤ (pc : Int) + o)
    (h1 : ifCond.holds cd x = true → EW G fr lo M Q ((((pc : Int) + o).toNat, ls, st), H)) (h2 : ifCond.holds cd x = false → EW G fr lo M Q ((pc + 3, ls, st), H)) : EW G fr lo M Q ((pc, ls, .int x :: st), H) := by
  cases hc : ifCond.holds cd x with
  | true =>
    refine EW.run 1 ?_ (h1 hc)
    show (match next G fr lo M ((pc, ls, .int x :: st), H) with | some cf' => runK G fr lo M 0 cf' | none => none) = _
    have : next G fr lo M ((pc, ls, .int x :: st), H) = some ((((pc : Int) + o).toNat, ls, st), H) := by
      unfold next
      simp only [hf, pstep, pIf, br, hc, ho, if_true]
    rw [this]; rfl
  | false =>
    refine EW.run 1 ?_ (h2 hc)
    show (match next G fr lo M ((pc, ls, .int x :: st), H) with | some cf' => runK G fr lo M 0 cf' | none => none) = _
    have : next G fr lo M ((pc, ls, .int x :: st), H) = some ((pc + 3, ls, st), H) := by
      unfold next
      simp only [hf, pstep, pIf, br, hc]
    rw [this]; rfl
/-- a branch's condition in plain integers -/
def cP : ClassFile.Cond → Int → Int → Prop
  | .eq, x, y => x = y
  | .ne, x, y => x ≠ y
  | .lt, x, y => x < y
  | .ge, x, y => y ≤ x
  | .gt, x, y => y < x
  | .le, x, y => x ≤ y
theorem cP_t {cd : ClassFile.Cond} {x y : Int32} (h : if_icmp.holds cd x y = true) : cP cd x.toInt y.toInt := by
  cases cd <;> simp [if_icmp.holds, Int32.lt_iff_toInt_lt, Int32.le_iff_toInt_le, ← Int32.toInt_inj] at h <;> exact h
theorem cP_f {cd : ClassFile.Cond} {x y : Int32} (h : if_icmp.holds cd x y = false) : ¬ cP cd x.toInt y.toInt := by
  cases cd <;> simp [if_icmp.holds, Int32.lt_iff_toInt_lt, Int32.le_iff_toInt_le, ← Int32.toInt_inj] at h <;> simp [cP] <;> exact h
theorem cP_l (x y : Int64) (cd : ClassFile.Cond) : (ifCond.holds cd (XT.cmpL x y) = true → cP cd x.toInt y.toInt) ∧ (ifCond.holds cd (XT.cmpL x y) = false → ¬ cP cd x.toInt y.toInt) := by
  have key : (x.toInt < y.toInt ∧ XT.cmpL x y = -1) ∨ (x.toInt = y.toInt ∧ XT.cmpL x y = 0) ∨ (y.toInt < x.toInt ∧ XT.cmpL x y = 1) := by
    unfold XT.cmpL
    by_cases h1 : y < x
    · rw [if_pos h1]; exact Or.inr (Or.inr ⟨Int64.lt_iff_toInt_lt.mp h1, rfl⟩)
    · rw [if_neg h1]
      by_cases h2 : x = y
      · rw [if_pos h2]; exact Or.inr (Or.inl ⟨by rw [h2], rfl⟩)
      · rw [if_neg h2]
        refine Or.inl ⟨?_, rfl⟩
        have q1 : ¬ y.toInt < x.toInt := fun q => h1 (Int64.lt_iff_toInt_lt.mpr q)
        have q2 : ¬ x.toInt = y.toInt := fun q => h2 (Int64.toInt_inj.mp q)
        omega
  rcases key with ⟨k1, k2⟩ | ⟨k1, k2⟩ | ⟨k1, k2⟩ <;> rw [k2] <;> cases cd <;> simp [cP, ifCond.holds] <;> omega
theorem EW.icmpP {pc : Nat} {ls : List Slot} {st : List Value} {H : List Obj × Nat × Nat} {cd : ClassFile.Cond} {o : Int} {a k c : Nat} {v : Value} {x y : Int32} (hf : M.2.2.2.2 pc = some (.if_icmp cd o, a, k, c, v)) (ho : 0 ≤ (pc : Int) + o)
    (h1 : cP cd x.toInt y.toInt → EW G fr lo M Q ((((pc : Int) + o).toNat, ls, st), H)) (h2 : ¬ cP cd x.toInt y.toInt → EW G fr lo M Q ((pc + 3, ls, st), H)) : EW G fr lo M Q ((pc, ls, .int y :: .int x :: st), H) :=
  EW.icmp hf ho (fun h => h1 (cP_t h)) (fun h => h2 (cP_f h))
theorem EW.ifP {pc : Nat} {ls : List Slot} {st : List Value} {H : List Obj × Nat × Nat} {cd : ClassFile.Cond} {o : Int} {a k c : Nat} {v : Value} {x : Int32} (hf : M.2.2.2.2 pc = some (.ifCond cd o, a, k, c, v)) (ho : 0 ≤ (pc : Int) + o)
    (h1 : cP cd x.toInt 0 → EW G fr lo M Q ((((pc : Int) + o).toNat, ls, st), H)) (h2 : ¬ cP cd x.toInt 0 → EW G fr lo M Q ((pc + 3, ls, st), H)) : EW G fr lo M Q ((pc, ls, .int x :: st), H) :=
  EW.ifc hf ho (fun h => h1 (by rw [if0] at h; exact cP_t h)) (fun h => h2 (by rw [if0] at h; exact cP_f h))
theorem EW.iflP {pc : Nat} {ls : List Slot} {st : List Value} {H : List Obj × Nat × Nat} {cd : ClassFile.Cond} {o : Int} {a k c : Nat} {v : Value} {x y : Int64} (hf : M.2.2.2.2 pc = some (.ifCond cd o, a, k, c, v)) (ho : 0 ≤ (pc : Int) + o)
    (h1 : cP cd x.toInt y.toInt → EW G fr lo M Q ((((pc : Int) + o).toNat, ls, st), H)) (h2 : ¬ cP cd x.toInt y.toInt → EW G fr lo M Q ((pc + 3, ls, st), H)) : EW G fr lo M Q ((pc, ls, .int (XT.cmpL x y) :: st), H) :=
  EW.ifc hf ho (fun h => h1 ((cP_l x y cd).1 h)) (fun h => h2 ((cP_l x y cd).2 h))
/-- the call at hand -/
def cstep (G : Cx) (fr lo : Nat) (M : Meth) (cf : Cfg) : Option (Nat × Meth × Nat × Nat × List Value × List Value) :=
  match M.2.2.2.2 cf.1.1 with
  | none => none
  | some (i, a, k, c, v) =>
    match pstep G.2.2.2.2.1 i v cf.1 with
    | some _ => none
    | none =>
     match tstep G.2.2.2.2.2.2.1 i cf.1 with
     | some _ => none
     | none =>
      match hstep G.2.1 G.2.2.1 G.2.2.2.1 G.2.2.2.2.2.1 i a k c cf.1 cf.2.1 with
      | some _ => none
      | none =>
        match rstep M.2.2.2.1 i cf.1.2.2 with
        | some _ => none
        | none =>
          match astep G.2.2.2.1 i c cf.1 cf.2.1 with
          | some _ => none
          | none =>
            match istep M.2.2.1 fr lo i c cf.1 with
            | some _ => none
            | none => match G.2.2.2.2.2.2.2 M.2.2.1 fr lo i a k c cf.1 cf.2.1 with
             | some _ => none
             | none => match callee G.1 M.2.2.1 fr lo i a k c cf.1 cf.2.1 with
              | some q => some (ilen i, q)
              | none => none
theorem EW.call {f : Fm} {H : List Obj} {cells slots fr' lo' n : Nat} {M' : Meth} {as rest : List Value} {Qc : Res → Prop} (h : cstep G fr lo M (f, H, cells, slots) = some (n, M', fr', lo', as, rest)) (hc : EW G fr' lo' M' Qc ((0, entL as M'.2.2.1, []), H, 0, 0))
    (hr : ∀ w H' c' s', Qc (w, H', c', s') → EW G fr lo M Q ((f.1 + n, f.2.1, w.toList ++ rest), H', cells + c', slots + s')) : EW G fr lo M Q (f, H, cells, slots) := by
  obtain ⟨⟨w, H', c', s'⟩, h1, h2⟩ := hc
  obtain ⟨r, h3, h4⟩ := hr w H' c' s' h2
  refine ⟨r, ?_, h4⟩
  unfold cstep at h
  split at h
  · cases h
  · rename_i q0
    split at h
    · cases h
    · rename_i q1
      split at h
      · cases h
      · rename_i qt
        split at h
        · cases h
        · rename_i q2
          split at h
          · cases h
          · rename_i q3
            split at h
            · cases h
            · rename_i q4
              split at h
              · cases h
              · rename_i q5
                split at h
                · cases h
                · rename_i qv
                  split at h
                  · rename_i q q6
                    cases h
                    exact Rch.call (i := 0) q0 q1 qt q2 q3 q4 q5 qv q6 h1 h3
                  · cases h
end Walk
end Jvm.Eng
namespace Jvm.Eng
open Jvm Jvm.RoadKit
theorem lt_cases {E : Int32} {n : Nat} (h0 : 0 ≤ E.toInt) (h1 : E.toInt < n) : ∃ j : Nat, j < n ∧ E = Int32.ofNat j := by
  refine ⟨E.toNatClampNeg, by simp only [Int32.toNatClampNeg]; omega, ?_⟩
  have q : ¬ E < 0 := by rw [Int32.lt_iff_toInt_lt]; simp only [Int32.reduceToInt]; omega
  exact ((back32 q).1).symm
end Jvm.Eng
namespace Jvm.Eng
open Jvm Jvm.ClassFile Sem Op Lib Jvm.Free Jvm.Stand Jvm.LawKit Jvm.RoadKit
/-! ### what a case says of statics -/
section Stat
variable {Z : State} {args : Array Value}
theorem eq_out {t u : Term} {w : Value} (h : (Cond.eq t u).value args Z none Z [] = some true) (hu : u.eval args Z none [] Z = some w) (hw : (match w with | .int _ => true | .null => true | .ref _ => true | _ => false) = true := by rfl) : t.eval args Z none [] Z = some w := by
  cases ht : t.eval args Z none [] Z with
  | none => simp [Cond.value, ht] at h
  | some x => cases w <;> first | (cases hw; done) | (cases x <;> simp [Cond.value, ht, hu] at h <;> subst h <;> rfl) | (cases x <;> simp [Cond.value, ht, hu] at h <;> rfl)
theorem len_out {t : Term} {a : Addr} {c : Cell} {n : Int32} {ty : FieldType} (ev : t.eval args Z none [] Z = some (.ref a)) (A : Arr Z Z.heap a c ty) (h : (Term.length t).eval args Z none [] Z = some (.int n)) : c.slots.size < 2 ^ 31 ∧ c.slots.size.toInt32 = n := by
  have e := A.fin (U := Z) (Vm.Alike.refl _)
  by_cases q : c.slots.size < 2 ^ 31
  · refine ⟨q, ?_⟩
    rw [len_f ev e q] at h
    cases h; rfl
  · have q' : ¬ c.slots.size < 2147483648 := q
    simp [Term.eval, ev, e, q'] at h
theorem arr_out {t : Term} {a : Addr} {c : Cell} {n : Int32} {ty : FieldType} (ev : t.eval args Z none [] Z = some (.ref a)) (A : Arr Z Z.heap a c ty) (h : (Term.length t).eval args Z none [] Z = some (.int n)) (vs : List Value) (hn : n.toInt = vs.length)
    (he : ∀ j v, vs[j]? = some v → (Term.elem t (.int (Int32.ofNat j))).eval args Z none [] Z = some v) : c.slots = vs.toArray := by
  obtain ⟨h1, h2⟩ := len_out ev A h
  have hs : c.slots.size = vs.length := by
    have q : c.slots.size.toInt32.toInt = c.slots.size := len_toInt h1
    rw [h2, hn] at q
    omega
  apply Array.ext (by simpa using hs)
  intro j hj hj'
  have hv : j < vs.length := by omega
  have q := elem_in (he j _ (List.getElem?_eq_getElem hv)) ev (Term.int_eval _) A.1
  have e1 : (Int32.ofNat j).toNatClampNeg = j := by
    have q2 : (j.toInt32).toInt = j := len_toInt (by omega)
    have q3 : (Int32.ofNat j).toInt = j := q2
    simp only [Int32.toNatClampNeg, q3]; omega
  have q3 := q.2
  rw [e1, Array.getElem?_eq_getElem hj] at q3
  simpa using Option.some.inj q3
end Stat
end Jvm.Eng
namespace Jvm.Eng
open Jvm Jvm.ClassFile Sem Op Lib Jvm.Free Jvm.Stand Jvm.LawKit Jvm.RoadKit
/-! ### tables of tokens' answers, and runs by evaluation -/
def tbFind : List (Nat × Nat × Int32 × Value) → Nat → Nat → Int32 → Option Value
  | [], _, _, _ => none
  | (o', t', y', v) :: r, o, t, y => match Nat.beq o' o && Nat.beq t' t && decide (y' = y) with
    | true => some v
    | false => tbFind r o t y
def tbOf (E : List (Nat × Nat × Int32 × Value)) : Instr → Nat → Int32 → Option Value := fun i t y => match i with
  | .iand => tbFind E 0 t y
  | .iushr => tbFind E 1 t y
  | .irem => tbFind E 2 t y
  | _ => none
def entOk (ρ : Rho) (e : Nat × Nat × Int32 × Value) : Prop := (e.1 = 0 → rl ρ e.2.2.2 = .int (ρ.2 e.2.1 &&& e.2.2.1)) ∧ (e.1 = 1 → rl ρ e.2.2.2 = .int (XT.ushr (ρ.2 e.2.1) e.2.2.1)) ∧ (e.1 = 2 → e.2.2.1 ≠ 0 ∧ rl ρ e.2.2.2 = .int (ρ.2 e.2.1 % e.2.2.1))
theorem tbFind_mem {o t : Nat} {y : Int32} {v : Value} : ∀ {E : List (Nat × Nat × Int32 × Value)}, tbFind E o t y = some v → (o, t, y, v) ∈ E
  | [], h => by cases h
  | (o', t', y', v') :: r, h => by
    unfold tbFind at h
    split at h
    · rename_i q
      obtain ⟨q, q3⟩ := Bool.and_eq_true_iff.mp q
      obtain ⟨q1, q2⟩ := Bool.and_eq_true_iff.mp q
      cases h
      rw [Nat.eq_of_beq_eq_true q1, Nat.eq_of_beq_eq_true q2, of_decide_eq_true q3]
      exact List.mem_cons_self ..
    · exact List.mem_cons_of_mem _ (tbFind_mem h)
theorem tb_ok {ρ : Rho} {E : List (Nat × Nat × Int32 × Value)} (h : ∀ e ∈ E, entOk ρ e) : TbOk ρ (tbOf E) := by
  intro t y v
  refine ⟨fun q => (h _ (tbFind_mem q)).1 rfl, fun q => (h _ (tbFind_mem q)).2.1 rfl, fun q => (h _ (tbFind_mem q)).2.2 rfl⟩
theorem ent_and {ρ : Rho} {t : Nat} {y : Int32} {v : Value} (h : rl ρ v = .int (ρ.2 t &&& y)) : entOk ρ (0, t, y, v) := ⟨fun _ => h, fun q => by (cases q), fun q => by (cases q)⟩
theorem ent_ushr {ρ : Rho} {t : Nat} {y : Int32} {v : Value} (h : rl ρ v = .int (XT.ushr (ρ.2 t) y)) : entOk ρ (1, t, y, v) := ⟨fun q => by (cases q), fun _ => h, fun q => by (cases q)⟩
theorem ent_rem {ρ : Rho} {t : Nat} {y : Int32} {v : Value} (hy : y ≠ 0) (h : rl ρ v = .int (ρ.2 t % y)) : entOk ρ (2, t, y, v) := ⟨fun q => by (cases q), fun q => by (cases q), fun _ => ⟨hy, h⟩⟩
/-- a run that answers 1 within so many cells and slots -/
def okR (c s : Nat) : Option Res → Bool
  | some (some (.int z), _, c', s') => decide (z = 1) && Nat.ble c' c && Nat.ble s' s
  | _ => false
theorem okR_ok {c s : Nat} {o : Option Res} (h : okR c s o = true) : ∃ r, o = some r ∧ r.1 = some (.int 1) ∧ r.2.2.1 ≤ c ∧ r.2.2.2 ≤ s := by
  unfold okR at h
  split at h
  · rename_i z H c' s'
    obtain ⟨q, q3⟩ := Bool.and_eq_true_iff.mp h
    obtain ⟨q1, q2⟩ := Bool.and_eq_true_iff.mp q
    have e := of_decide_eq_true q1
    exact ⟨_, rfl, by rw [e], Nat.le_of_ble_eq_true q2, Nat.le_of_ble_eq_true q3⟩
  · cases h
end Jvm.Eng
namespace Jvm.Eng
open Jvm Jvm.RoadKit
theorem bit_ex (x : Int32) (k : Nat) : ∃ a : Nat, a < 2 ∧ x &&& Int32.ofNat (2 ^ k) = Int32.ofNat (2 ^ k * a) := by
  have hm : (Int32.ofNat (2 ^ k)).toBitVec = BitVec.twoPow 32 k := by
    apply BitVec.eq_of_toNat_eq
    rw [BitVec.toNat_twoPow]
    rfl
  have h : (x &&& Int32.ofNat (2 ^ k)).toBitVec = x.toBitVec &&& (Int32.ofNat (2 ^ k)).toBitVec := Int32.toBitVec_and ..
  rw [hm, BitVec.and_twoPow] at h
  split at h
  · exact ⟨1, by omega, by rw [Nat.mul_one]; exact Int32.toBitVec_inj.mp (h.trans hm.symm)⟩
  · exact ⟨0, by omega, by rw [Nat.mul_zero]; exact Int32.toBitVec_inj.mp h⟩
end Jvm.Eng
namespace Jvm.Eng
open Jvm Jvm.ClassFile Sem Op Lib Jvm.Free Jvm.Stand Jvm.LawKit Jvm.RoadKit
/-- an array's load at an index that isn't a numeral -/
theorem EW.aald {G : Cx} {fr lo : Nat} {M : Meth} {Q : Res → Prop} {pc : Nat} {ls : List Slot} {st : List Value} {H : List Obj} {n : Nat × Nat} {a k c o : Nat} {w : Value} {j : Int32} {ty : FieldType} {vs : List Value} {v : Value} (hf : M.2.2.2.2 pc = some (.aaload, a, k, c, w)) (hA : getA H o = some (ty, vs)) (ht : ty.isReference = true) (hj : ¬ j < 0) (hv : vs[j.toNatClampNeg]? = some v) (hk : kn v = true)
    (hr : EW G fr lo M Q ((pc + 1, ls, v :: st), H, n)) : EW G fr lo M Q ((pc, ls, .int j :: .ref o :: st), H, n) := by
  refine EW.run 1 ?_ hr
  show (match next G fr lo M ((pc, ls, .int j :: .ref o :: st), H, n) with | some cf' => runK G fr lo M 0 cf' | none => none) = _
  have : next G fr lo M ((pc, ls, .int j :: .ref o :: st), H, n) = some ((pc + 1, ls, v :: st), H, n) := by
    unfold next
    simp only [hf, pstep, tstep, hstep, hLd, hA, ht, hv, hk, hj, decide_false, Bool.not_false, Bool.and_self, if_true]
  rw [this]; rfl
/-- no object of the class C is one of the class K: by C's superclasses, K a class that can be instantiated -/
theorem ns_root {Z : State} {a0 : Array Value} {O K : String} {n : Nat} (w : (Cond.noSuperclass O).before a0 Z = true) (wk : (Cond.instantiable K n).before a0 Z = true) (hn : O ≠ K) : NS Z O K := by
  obtain ⟨c, k, h1, h2, h3, -, -⟩ := Cond.noSuperclass_spec w
  obtain ⟨t, kt, g1, -⟩ := Cond.instantiable_spec wk
  have ne := ids_ne h1 g1 hn
  refine ⟨c, t, h1, g1, fun fuel => ?_⟩
  cases fuel with
  | zero => rfl
  | succ f => simp [Vm.isSubclassAux, ne, h2, h3]
theorem ns_no {Z : State} {a0 : Array Value} {C S K : String} {n : Nat} (w : (Cond.superclass C S).before a0 Z = true) (wk : (Cond.instantiable K n).before a0 Z = true) (nn : NS Z C K) (hn : C ≠ K) : ∃ c t, Z.vm.findClass C = some c ∧ Z.vm.findClass K = some t ∧ Z.vm.assignable c t = false := by
  obtain ⟨c, t, h0, g0, n3⟩ := nn
  obtain ⟨p, k, kp, h1, h2, h3, h4, h5, -, h7⟩ := Cond.superclass_spec h0 w
  obtain ⟨t', k', g1, g2, g3, g4, -⟩ := Cond.instantiable_spec wk
  cases g0.symm.trans g1
  have g5 : k'.isInterface = false := by
    cases hq : k'.isInterface with
    | false => rfl
    | true => rw [hq] at g4; cases g4
  have ne := ids_ne h0 g0 hn
  refine ⟨c, t, h0, g0, ?_⟩
  show Z.vm.assignableAux (255 + 1) c t = false
  simp [Vm.assignableAux, ne, h2, g2, h5, g3, g5, Vm.isSubclass, n3]
end Jvm.Eng
namespace Jvm.Eng
open Jvm Jvm.ClassFile Sem Op Lib Jvm.Free Jvm.Stand Jvm.LawKit Jvm.RoadKit
/-! ### segments of a method -/
/-- from one state of a method to a later one; where al is false nothing is made in this frame itself -/
def goN (G : Cx) (al : Bool) (fr lo : Nat) (M : Meth) : Nat → Cfg → Cfg → Prop
  | 0, cf, cf' => cf = cf'
  | k + 1, cf, cf'' => (∃ cf' : Cfg, next G fr lo M cf = some cf' ∧ (al = true ∨ cf'.2.2.1 = cf.2.2.1) ∧ goN G al fr lo M k cf' cf'') ∨
      ∃ (n : Nat) (M' : Meth) (fr' lo' : Nat) (as rest : List Value) (w : Option Value) (H' : List Obj) (c' s' : Nat), cstep G fr lo M cf = some (n, M', fr', lo', as, rest) ∧ Rch G fr' lo' M' ((0, entL as M'.2.2.1, []), cf.2.1, 0, 0) (w, H', c', s') ∧ goN G al fr lo M k ((cf.1.1 + n, cf.1.2.1, w.toList ++ rest), H', cf.2.2.1 + c', cf.2.2.2 + s') cf''
def Go (G : Cx) (al : Bool) (fr lo : Nat) (M : Meth) (cf cf' : Cfg) : Prop := ∃ k, goN G al fr lo M k cf cf'
theorem Go.refl {G : Cx} {al : Bool} {fr lo : Nat} {M : Meth} (cf : Cfg) : Go G al fr lo M cf cf := ⟨0, rfl⟩
theorem Go.step {G : Cx} {al : Bool} {fr lo : Nat} {M : Meth} {cf cf' cf'' : Cfg} (h : next G fr lo M cf = some cf') (ha : al = true ∨ cf'.2.2.1 = cf.2.2.1) (r : Go G al fr lo M cf' cf'') : Go G al fr lo M cf cf'' := by
  obtain ⟨k, q⟩ := r
  exact ⟨k + 1, Or.inl ⟨cf', h, ha, q⟩⟩
theorem Go.call {G : Cx} {al : Bool} {fr lo : Nat} {M : Meth} {cf cf'' : Cfg} {n fr' lo' c' s' : Nat} {M' : Meth} {as rest : List Value} {w : Option Value} {H' : List Obj} (h : cstep G fr lo M cf = some (n, M', fr', lo', as, rest))
    (hc : Rch G fr' lo' M' ((0, entL as M'.2.2.1, []), cf.2.1, 0, 0) (w, H', c', s')) (r : Go G al fr lo M ((cf.1.1 + n, cf.1.2.1, w.toList ++ rest), H', cf.2.2.1 + c', cf.2.2.2 + s') cf'') : Go G al fr lo M cf cf'' := by
  obtain ⟨k, q⟩ := r
  exact ⟨k + 1, Or.inr ⟨n, M', fr', lo', as, rest, w, H', c', s', h, hc, q⟩⟩
theorem next_mono {G : Cx} {fr lo : Nat} {M : Meth} {cf cf' : Cfg} (h : next G fr lo M cf = some cf') : cf.2.2.1 ≤ cf'.2.2.1 ∧ cf.2.2.2 ≤ cf'.2.2.2 := by
  unfold next at h
  repeat' split at h
  all_goals first | (cases h; done) | (cases h; exact ⟨Nat.le_refl _, Nat.le_refl _⟩) | (cases h; exact ⟨Nat.le_add_right _ _, Nat.le_add_right _ _⟩)
theorem goN_mono {G : Cx} {al : Bool} {fr lo : Nat} {M : Meth} {cf' : Cfg} : ∀ (k : Nat) {cf : Cfg}, goN G al fr lo M k cf cf' → cf.2.2.1 ≤ cf'.2.2.1 ∧ cf.2.2.2 ≤ cf'.2.2.2
  | 0, cf, h => by
    have e : cf = cf' := h
    rw [e]; exact ⟨Nat.le_refl _, Nat.le_refl _⟩
  | k + 1, cf, h => by
    rcases h with ⟨c1, h1, -, r⟩ | ⟨n, M', fr', lo', as, rest, w, H', c', s', -, -, r⟩
    · have q := next_mono h1
      have ih := goN_mono k r
      exact ⟨Nat.le_trans q.1 ih.1, Nat.le_trans q.2 ih.2⟩
    · have ih := goN_mono k r
      exact ⟨Nat.le_trans (Nat.le_add_right _ _) ih.1, Nat.le_trans (Nat.le_add_right _ _) ih.2⟩
theorem goN_trans {G : Cx} {al : Bool} {fr lo : Nat} {M : Meth} {cf' cf'' : Cfg} (h' : Go G al fr lo M cf' cf'') : ∀ (k : Nat) {cf : Cfg}, goN G al fr lo M k cf cf' → Go G al fr lo M cf cf''
  | 0, cf, h => by
    have e : cf = cf' := h
    rw [e]; exact h'
  | k + 1, cf, h => by
    rcases h with ⟨c1, h1, h2, r⟩ | ⟨n, M', fr', lo', as, rest, w, H', c', s', h1, h2, r⟩
    · exact Go.step h1 h2 (goN_trans h' k r)
    · exact Go.call h1 h2 (goN_trans h' k r)
theorem Go.trans {G : Cx} {al : Bool} {fr lo : Nat} {M : Meth} {cf cf' cf'' : Cfg} (h : Go G al fr lo M cf cf') (h' : Go G al fr lo M cf' cf'') : Go G al fr lo M cf cf'' := by
  obtain ⟨k, q⟩ := h
  exact goN_trans h' k q
section Segs
variable {P : Nat → Option Meth} {b : Nat} {S : List (Nat × Value)} {CT : Nat → Option Fls} {D NI : Nat → Nat → Bool} {TB : Instr → Nat → Int32 → Option Value} {V : VT}
variable {l : Launch} {Z : State} {a0 : Array Value} {ρ : Rho} {K : Nat → String × String × String} {CN : Nat → String} {MN : Nat → MethodName} {n0 : Heap × Nat}
theorem next_ok (hρ1 : ∀ i, b ≤ i → ρ.1 i = n0.1.size + (i - b)) (hρ0 : ∀ i, i < b → ρ.1 i < n0.1.size) (hD : ∀ i j, D i j = true → ρ.1 i ≠ ρ.1 j) (hCT : ∀ C F, CT C = some F → ClsOk Z a0 K CN C F)
    (hNI : ∀ C k, NI C k = true → ∃ c t, Z.vm.findClass (CN C) = some c ∧ Z.vm.findClass (CN k) = some t ∧ Z.vm.assignable c t = false) (hTB : TbOk ρ TB) (hV : VOk l Z a0 ρ K CN MN b n0 S P V)
    {fr lo : Nat} {M : Meth} {cf cf' : Cfg} (hG : GoodM Z a0 P K CN MN M) (h : next (P, b, S, CT, D, NI, TB, V) fr lo M cf = some cf')
    {p : Program} {e : Env} {R : Room} {s : State} {m : MethodId} {args : Array Value} {below : List Frame} {meth : Method} {c : Code} {T : State} {locs : List Loc}
    (X : Stand p l e R s m args below meth c T locs cf.2.2.1 cf.2.2.2) (hx : p.tables.exec = Jvm.exec) (hZ : Z.Warmed39 s.vm) (hown : s.vm.findClass M.1.cls = some m.cls) (hnm : meth.name = M.1.name) (hby : c.code = M.2.1) (hml : c.maxLocals = M.2.2.1)
    (hfr : R.frames = fr) (hlo : R.locals = lo) (hrc : cf'.2.2.1 ≤ R.cells) (hrs : cf'.2.2.2 ≤ R.slots) (N : Fr n0.2 locs) (hS : Sim Z ρ K CN b n0 S cf.2.1 T.heap) (al : cf'.2.2.1 = cf.2.2.1 ∨ T.heap.size = s.heap.size + cf.2.2.1) :
    ∃ (T' : State) (locs' : List Loc), Stand p l e R s m args below meth c T' locs' cf'.2.2.1 cf'.2.2.2 ∧ Fr n0.2 locs' ∧ Sim Z ρ K CN b n0 S cf'.2.1 T'.heap ∧ T.heap.size ≤ T'.heap.size ∧ (T.heap.size = s.heap.size + cf.2.2.1 → T'.heap.size = s.heap.size + cf'.2.2.1) ∧
      ∀ target, Steps p.tables e below (T'.setTop (fm ρ m cf'.1)) target → Steps p.tables e below (T.setTop (fm ρ m cf.1)) target := by
  obtain ⟨⟨pc, ls, st⟩, H, cells, slots⟩ := cf
  unfold next at h
  dsimp only at h X hS al
  split at h
  · cases h
  · rename_i i a k cc v hf
    obtain ⟨hd0, hw, hsd⟩ := hG _ _ hf
    have hd : decode c.code pc = .ok (i, ilen i) := by rw [hby]; exact hd0
    split at h
    · rename_i f' hstep
      cases h
      refine ⟨T, locs, X, N, hS, Nat.le_refl _, id, fun target hr => pstep_ok X hx hown hD hd (fun k' x' e1 e2 => ?_) (fun k' x' e1 e2 => ?_) hstep target hr⟩
      · subst e1 e2; exact mvT hZ (hw _ (by simp [need]))
      · subst e1 e2; exact mvT hZ (hw _ (by simp [need]))
    · split at h
      · rename_i f' hstep
        cases h
        exact ⟨T, locs, X, N, hS, Nat.le_refl _, id, fun target hr => tstep_ok hTB X hx hd hstep target hr⟩
      · split at h
        · rename_i f' H' hstep
          cases h
          obtain ⟨T1, L1, X1, N1, hS1, hsz1, st1⟩ := hstep_ok hρ1 hρ0 hCT hNI X hx hZ hown hnm hw hsd hd N hS hstep
          exact ⟨T1, L1, X1, N1, hS1, Nat.le_of_eq hsz1.symm, fun z => hsz1.trans z, st1⟩
        · split at h
          · cases h
          · split at h
            · rename_i f' H' ds hstep
              cases h
              rcases al with e1 | e1
              · have e2 : cells + 1 = cells := e1
                omega
              · obtain ⟨T1, X1, hS1, hsz1, st1⟩ := astep_ok hρ1 hCT X hx hZ hown hw hd hS e1 hstep hrc hrs
                exact ⟨T1, locs, X1, N, hS1, by rw [hsz1, e1]; omega, fun _ => hsz1, st1⟩
            · split at h
              · rename_i f' hstep
                cases h
                obtain ⟨T1, L1, X1, N1, hS1, hsz1, st1⟩ := istep_ok X hx hZ hown hml hfr hlo hw hd N hS hstep
                exact ⟨T1, L1, X1, N1, hS1, Nat.le_of_eq hsz1.symm, fun z => hsz1.trans z, st1⟩
              · split at h
                · rename_i f' H' ds hstep
                  cases h
                  obtain ⟨T1, X1, hS1, hsz1, st1⟩ := hV X hx hZ hown hml hfr hlo hw hsd hd hS hstep hrc hrs
                  exact ⟨T1, locs, X1, N, hS1, by rw [hsz1]; exact Nat.le_succ _, fun z => by rw [hsz1, z]; exact Nat.add_assoc .., st1⟩
                · cases h
theorem go_ok (hρ1 : ∀ i, b ≤ i → ρ.1 i = n0.1.size + (i - b)) (hρ0 : ∀ i, i < b → ρ.1 i < n0.1.size) (hD : ∀ i j, D i j = true → ρ.1 i ≠ ρ.1 j) (hCT : ∀ C F, CT C = some F → ClsOk Z a0 K CN C F)
    (hNI : ∀ C k, NI C k = true → ∃ c t, Z.vm.findClass (CN C) = some c ∧ Z.vm.findClass (CN k) = some t ∧ Z.vm.assignable c t = false) (hP : GoodP Z a0 P K CN MN) (hTB : TbOk ρ TB) (hV : VOk l Z a0 ρ K CN MN b n0 S P V)
    {al : Bool} {fr lo : Nat} {M : Meth} (hG : GoodM Z a0 P K CN MN M)
    {p : Program} {e : Env} {R : Room} {s : State} {m : MethodId} {args : Array Value} {below : List Frame} {meth : Method} {c : Code}
    (hx : p.tables.exec = Jvm.exec) (hZ : Z.Warmed39 s.vm) (hown : s.vm.findClass M.1.cls = some m.cls) (hnm : meth.name = M.1.name) (hby : c.code = M.2.1) (hml : c.maxLocals = M.2.2.1) (hfr : R.frames = fr) (hlo : R.locals = lo)
    {cf cf' : Cfg} (h : Go (P, b, S, CT, D, NI, TB, V) al fr lo M cf cf') (hrc : cf'.2.2.1 ≤ R.cells) (hrs : cf'.2.2.2 ≤ R.slots) :
    ∀ {T : State} {locs : List Loc}, Stand p l e R s m args below meth c T locs cf.2.2.1 cf.2.2.2 → Fr n0.2 locs → Sim Z ρ K CN b n0 S cf.2.1 T.heap → (al = true → T.heap.size = s.heap.size + cf.2.2.1) →
    ∃ (T' : State) (locs' : List Loc), Stand p l e R s m args below meth c T' locs' cf'.2.2.1 cf'.2.2.2 ∧ Fr n0.2 locs' ∧ Sim Z ρ K CN b n0 S cf'.2.1 T'.heap ∧ T.heap.size ≤ T'.heap.size ∧ (al = true → T'.heap.size = s.heap.size + cf'.2.2.1) ∧
      ∀ target, Steps p.tables e below (T'.setTop (fm ρ m cf'.1)) target → Steps p.tables e below (T.setTop (fm ρ m cf.1)) target := by
  obtain ⟨k, h⟩ := h
  induction k generalizing cf with
  | zero =>
    have e1 : cf = cf' := h
    subst e1
    exact fun {T locs} X N hS hsz => ⟨T, locs, X, N, hS, Nat.le_refl _, hsz, fun _ hr => hr⟩
  | succ k ih =>
   intro T locs X N hS hsz
   rcases h with ⟨c1, h, ha, r⟩ | ⟨n, M', fr', lo', as, rest, w, H', c', s', h, hc, r⟩
   · have hm := goN_mono k r
     obtain ⟨T1, L1, X1, N1, hS1, g1, z1, st1⟩ := next_ok hρ1 hρ0 hD hCT hNI hTB hV hG h X hx hZ hown hnm hby hml hfr hlo (Nat.le_trans hm.1 hrc) (Nat.le_trans hm.2 hrs) N hS (ha.elim (fun z => Or.inr (hsz z)) Or.inl)
     obtain ⟨T2, L2, X2, N2, hS2, g2, z2, st2⟩ := ih r X1 N1 hS1 (fun z => z1 (hsz z))
     exact ⟨T2, L2, X2, N2, hS2, Nat.le_trans g1 g2, z2, fun target hr => st1 target (st2 target hr)⟩
   · have hm := goN_mono k r
     obtain ⟨⟨pc, ls, st⟩, H, cells, slots⟩ := cf
     dsimp only at hm X hS hsz hc
     unfold cstep at h
     dsimp only at h
     split at h
     · cases h
     · rename_i i a k cc v hf
       obtain ⟨hd0, hw, hsd⟩ := hG _ _ hf
       have hd : decode c.code pc = .ok (i, ilen i) := by rw [hby]; exact hd0
       split at h
       · cases h
       · split at h
         · cases h
         · split at h
           · cases h
           · split at h
             · cases h
             · split at h
               · cases h
               · split at h
                 · cases h
                 · split at h
                   · cases h
                   · split at h
                     · rename_i q hcal
                       cases h
                       have hG' : GoodM Z a0 P K CN MN M' := by
                         unfold callee at hcal
                         split at hcal
                         · cases hcal
                         · rename_i M2 hPa
                           split at hcal
                           · cases hcal; exact (hP _ _ hPa).1
                           · cases hcal
                       obtain ⟨nn, hrun⟩ := hc
                       have hrun' := exec_ok (l := l) hρ1 hρ0 hD hCT hNI hP hTB hV _ _ _ _ _ _ hG' hrun
                       obtain ⟨T1, L1, X1, N1, hS1, hsz1, st1⟩ := call_ok hP X hx hZ hown hml hfr hlo hw hsd hd hS hcal hrun' (Nat.le_trans hm.1 hrc) (Nat.le_trans hm.2 hrs)
                       dsimp only at hsz1
                       obtain ⟨T2, L2, X2, N2, hS2, g2, z2, st2⟩ := ih r X1 (Fr.app N N1) hS1 (fun z => by rw [hsz1, hsz z]; exact Nat.add_assoc ..)
                       exact ⟨T2, L2, X2, N2, hS2, Nat.le_trans (by rw [hsz1]; exact Nat.le_add_right _ _) g2, z2, fun target hr => st1 target (st2 target hr)⟩
                     · cases h
end Segs
section SegWalk
variable {G : Cx} {al : Bool} {fr lo : Nat} {M : Meth} {Q : Cfg → Prop} {cf : Cfg}
/-- the method comes to a state of which Q holds -/
def ES (G : Cx) (al : Bool) (fr lo : Nat) (M : Meth) (Q : Cfg → Prop) (cf : Cfg) : Prop := ∃ cf', Go G al fr lo M cf cf' ∧ Q cf'
theorem ES.stop (q : Q cf) : ES G al fr lo M Q cf := ⟨cf, Go.refl cf, q⟩
theorem ES.mono {Q' : Cfg → Prop} (h : ES G al fr lo M Q cf) (q : ∀ r, Q r → Q' r) : ES G al fr lo M Q' cf := by
  obtain ⟨r, h1, h2⟩ := h; exact ⟨r, h1, q r h2⟩
theorem ES.run (k : Nat) {cf' : Cfg} (h : runK G fr lo M k cf = some cf') (hr : ES G true fr lo M Q cf') : ES G true fr lo M Q cf := by
  induction k generalizing cf with
  | zero => cases h; exact hr
  | succ k ih =>
    have h' : (match next G fr lo M cf with | some cf' => runK G fr lo M k cf' | none => none) = some cf' := h
    split at h'
    · rename_i q
      obtain ⟨r, h1, h2⟩ := ih h'
      exact ⟨r, Go.step q (Or.inl rfl) h1, h2⟩
    · cases h'
def runF (G : Cx) (fr lo : Nat) (M : Meth) : Nat → Cfg → Option Cfg
  | 0, cf => some cf
  | n + 1, cf => match next G fr lo M cf with
    | some cf' => (match Nat.beq cf'.2.2.1 cf.2.2.1 with | true => runF G fr lo M n cf' | false => none)
    | none => none
theorem ES.runF (k : Nat) {cf' : Cfg} (h : runF G fr lo M k cf = some cf') (hr : ES G al fr lo M Q cf') : ES G al fr lo M Q cf := by
  induction k generalizing cf with
  | zero => cases h; exact hr
  | succ k ih =>
    have h' : (match next G fr lo M cf with | some cf1 => (match Nat.beq cf1.2.2.1 cf.2.2.1 with | true => Eng.runF G fr lo M k cf1 | false => none) | none => none) = some cf' := h
    split at h'
    · rename_i q
      split at h'
      · rename_i qb
        obtain ⟨r, h1, h2⟩ := ih h'
        exact ⟨r, Go.step q (Or.inr (Nat.eq_of_beq_eq_true qb)) h1, h2⟩
      · cases h'
    · cases h'
theorem ES.call {f : Fm} {H : List Obj} {cells slots fr' lo' n : Nat} {M' : Meth} {as rest : List Value} {Qc : Res → Prop} (h : cstep G fr lo M (f, H, cells, slots) = some (n, M', fr', lo', as, rest)) (hc : EW G fr' lo' M' Qc ((0, entL as M'.2.2.1, []), H, 0, 0))
    (hr : ∀ w H' c' s', Qc (w, H', c', s') → ES G al fr lo M Q ((f.1 + n, f.2.1, w.toList ++ rest), H', cells + c', slots + s')) : ES G al fr lo M Q (f, H, cells, slots) := by
  obtain ⟨⟨w, H', c', s'⟩, h1, h2⟩ := hc
  obtain ⟨r, h3, h4⟩ := hr w H' c' s' h2
  exact ⟨r, Go.call h h1 h3, h4⟩
theorem next_icmp {pc : Nat} {ls : List Slot} {st : List Value} {H : List Obj × Nat × Nat} {cd : ClassFile.Cond} {o : Int} {a k c : Nat} {v : Value} {x y : Int32} (hf : M.2.2.2.2 pc = some (.if_icmp cd o, a, k, c, v)) (ho : 0 ≤ (pc : Int) + o) :
    next G fr lo M ((pc, ls, .int y :: .int x :: st), H) = some (match if_icmp.holds cd x y with | true => ((((pc : Int) + o).toNat, ls, st), H) | false => ((pc + 3, ls, st), H)) := by
  cases hc : if_icmp.holds cd x y with
  | true => unfold next; simp only [hf, pstep, pIcmp, br, hc, ho, if_true]
  | false => unfold next; simp only [hf, pstep, pIcmp, br, hc]
theorem next_ifc {pc : Nat} {ls : List Slot} {st : List Value} {H : List Obj × Nat × Nat} {cd : ClassFile.Cond} {o : Int} {a k c : Nat} {v : Value} {x : Int32} (hf : M.2.2.2.2 pc = some (.ifCond cd o, a, k, c, v)) (ho : 0 ≤ (pc : Int) + o) :
    next G fr lo M ((pc, ls, .int x :: st), H) = some (match ifCond.holds cd x with | true => ((((pc : Int) + o).toNat, ls, st), H) | false => ((pc + 3, ls, st), H)) := by
  cases hc : ifCond.holds cd x with
  | true => unfold next; simp only [hf, pstep, pIf, br, hc, ho, if_true]
  | false => unfold next; simp only [hf, pstep, pIf, br, hc]
theorem ES.icmp {pc : Nat} {ls : List Slot} {st : List Value} {H : List Obj × Nat × Nat} {cd : ClassFile.Cond} {o : Int} {a k c : Nat} {v : Value} {x y : Int32} (hf : M.2.2.2.2 pc = some (.if_icmp cd o, a, k, c, v)) (ho : 0 ≤ (pc : Int) + o)
    (h1 : if_icmp.holds cd x y = true → ES G al fr lo M Q ((((pc : Int) + o).toNat, ls, st), H)) (h2 : if_icmp.holds cd x y = false → ES G al fr lo M Q ((pc + 3, ls, st), H)) : ES G al fr lo M Q ((pc, ls, .int y :: .int x :: st), H) := by
  have hn := next_icmp (G := G) (fr := fr) (lo := lo) (ls := ls) (st := st) (H := H) (x := x) (y := y) hf ho
  cases hc : if_icmp.holds cd x y with
  | true =>
    rw [hc] at hn
    obtain ⟨r, g1, g2⟩ := h1 hc
    exact ⟨r, Go.step hn (Or.inr rfl) g1, g2⟩
  | false =>
    rw [hc] at hn
    obtain ⟨r, g1, g2⟩ := h2 hc
    exact ⟨r, Go.step hn (Or.inr rfl) g1, g2⟩
theorem ES.ifc {pc : Nat} {ls : List Slot} {st : List Value} {H : List Obj × Nat × Nat} {cd : ClassFile.Cond} {o : Int} {a k c : Nat} {v : Value} {x : Int32} (hf : M.2.2.2.2 pc = some (.ifCond cd o, a, k, c, v)) (ho : 0 ≤ (pc : Int) + o)
    (h1 : ifCond.holds cd x = true → ES G al fr lo M Q ((((pc : Int) + o).toNat, ls, st), H)) (h2 : ifCond.holds cd x = false → ES G al fr lo M Q ((pc + 3, ls, st), H)) : ES G al fr lo M Q ((pc, ls, .int x :: st), H) := by
  have hn := next_ifc (G := G) (fr := fr) (lo := lo) (ls := ls) (st := st) (H := H) (x := x) hf ho
  cases hc : ifCond.holds cd x with
  | true =>
    rw [hc] at hn
    obtain ⟨r, g1, g2⟩ := h1 hc
    exact ⟨r, Go.step hn (Or.inr rfl) g1, g2⟩
  | false =>
    rw [hc] at hn
    obtain ⟨r, g1, g2⟩ := h2 hc
    exact ⟨r, Go.step hn (Or.inr rfl) g1, g2⟩
theorem EW.stp {Qr : Res → Prop} {cf' : Cfg} (h : next G fr lo M cf = some cf') (hr : EW G fr lo M Qr cf') : EW G fr lo M Qr cf := by
  obtain ⟨r, h1, h2⟩ := hr; exact ⟨r, h1.step1 h, h2⟩
theorem EW.alen {Qr : Res → Prop} {pc : Nat} {ls : List Slot} {st : List Value} {H : List Obj} {n : Nat × Nat} {a k c o : Nat} {w : Value} {ty : FieldType} {vs : List Value} (hf : M.2.2.2.2 pc = some (.arraylength, a, k, c, w)) (hA : getA H o = some (ty, vs))
    (hr : EW G fr lo M Qr ((pc + 1, ls, .int vs.length.toInt32 :: st), H, n)) : EW G fr lo M Qr ((pc, ls, .ref o :: st), H, n) := by
  refine EW.stp ?_ hr
  unfold next
  simp only [hf, pstep, tstep, hstep, hLen, hA]
theorem EW.bald {Qr : Res → Prop} {pc : Nat} {ls : List Slot} {st : List Value} {H : List Obj} {n : Nat × Nat} {a k c o : Nat} {w : Value} {j : Int32} {vs : List Value} {v : Value} (hf : M.2.2.2.2 pc = some (.baload, a, k, c, w)) (hA : getA H o = some (.byte, vs)) (hj : ¬ j < 0) (hv : vs[j.toNatClampNeg]? = some v) (hk : kn v = true)
    (hr : EW G fr lo M Qr ((pc + 1, ls, v :: st), H, n)) : EW G fr lo M Qr ((pc, ls, .int j :: .ref o :: st), H, n) := by
  refine EW.stp ?_ hr
  unfold next
  simp only [hf, pstep, tstep, hstep, hLd, hA, tB, hv, hk, hj, decide_false, Bool.not_false, Bool.and_self, if_true]
theorem EW.getf {Qr : Res → Prop} {pc : Nat} {ls : List Slot} {st : List Value} {H : List Obj} {n : Nat × Nat} {a k c o C idx : Nat} {w v : Value} {fs : List (Nat × Value)} (hf : M.2.2.2.2 pc = some (.getfield idx, a, k, c, w)) (hO : getO H o = some (C, fs)) (hl : look a fs = some v)
    (hr : EW G fr lo M Qr ((pc + 3, ls, v :: st), H, n)) : EW G fr lo M Qr ((pc, ls, .ref o :: st), H, n) := by
  refine EW.stp ?_ hr
  unfold next
  simp only [hf, pstep, tstep, hstep, hGet, hO, hl]
theorem EW.inst {Qr : Res → Prop} {pc : Nat} {ls : List Slot} {st : List Value} {H : List Obj} {n : Nat × Nat} {a k c o idx : Nat} {w : Value} {fs : List (Nat × Value)} (hf : M.2.2.2.2 pc = some (.instanceof idx, a, k, c, w)) (hO : getO H o = some (c, fs))
    (hr : EW G fr lo M Qr ((pc + 3, ls, .int 1 :: st), H, n)) : EW G fr lo M Qr ((pc, ls, .ref o :: st), H, n) := by
  refine EW.stp ?_ hr
  unfold next
  simp only [hf, pstep, tstep, hstep, hInst, hO, Nat.beq_refl, if_true]
theorem EW.cast {Qr : Res → Prop} {pc : Nat} {ls : List Slot} {st : List Value} {H : List Obj} {n : Nat × Nat} {a k c o idx : Nat} {w : Value} {fs : List (Nat × Value)} (hf : M.2.2.2.2 pc = some (.checkcast idx, a, k, c, w)) (hO : getO H o = some (c, fs))
    (hr : EW G fr lo M Qr ((pc + 3, ls, .ref o :: st), H, n)) : EW G fr lo M Qr ((pc, ls, .ref o :: st), H, n) := by
  refine EW.stp ?_ hr
  unfold next
  simp only [hf, pstep, tstep, hstep, hCast, hO, Nat.beq_refl, if_true]
/-- two references that are known to be apart -/
theorem EW.apart {Qr : Res → Prop} {pc i j : Nat} {ls : List Slot} {st : List Value} {H : List Obj × Nat × Nat} {o : Int} {a k c : Nat} {v : Value} (hf : M.2.2.2.2 pc = some (.if_acmp .ne o, a, k, c, v)) (ho : 0 ≤ (pc : Int) + o) (hne : i ≠ j) (hD : G.2.2.2.2.1 i j = true)
    (hr : EW G fr lo M Qr ((((pc : Int) + o).toNat, ls, st), H)) : EW G fr lo M Qr ((pc, ls, .ref j :: .ref i :: st), H) := by
  refine EW.stp ?_ hr
  unfold next
  simp only [hf, pstep, pAcmp, sameR, hne, hD, ho, if_true, if_false, acV, br]
  rfl
end SegWalk
end Jvm.Eng
namespace Jvm.Pilot.@@N@@
open Jvm Jvm.ClassFile Sem Op Lib Jvm.Free Jvm.Stand Jvm.LawKit Jvm.RoadKit Jvm.Eng Bundle Jvm.Pilot.@@N@@.Jvm.D

def gK : Nat → String × String × String
  | 0 => ("java/lang/String", "value", "[B")
  | 1 => ("java/lang/String", "coder", "B")
  | 2 => ("java/lang/String", "COMPACT_STRINGS", "Z")
  | 3 => ("com/example/ourthe/ourthe/cli/TraceSemantics", "name", "Ljava/lang/String;")
  | 4 => ("com/example/ourthe/ourthe/cli/TraceSemantics", "$VALUES", "[Lcom/example/ourthe/ourthe/cli/TraceSemantics;")
  | 5 => ("com/example/ourthe/ourthe/cli/TraceSemantics", "STEPS", "Lcom/example/ourthe/ourthe/cli/TraceSemantics;")
  | 6 => ("com/example/ourthe/ourthe/cli/TraceSemantics", "CAUSAL", "Lcom/example/ourthe/ourthe/cli/TraceSemantics;")
  | _ => ("", "", "")
def gC : Nat → String
  | 0 => "java/lang/String"
  | 1 => "[Lcom/example/ourthe/ourthe/cli/TraceSemantics;"
  | 2 => "com/example/ourthe/ourthe/cli/TraceSemantics$1"
  | 3 => "com/example/ourthe/ourthe/cli/TraceSemantics$2"
  | _ => ""
def gM : Nat → MethodName
  | _ => ⟨"", "", ""⟩
def gT : Nat → Option Fls
  | 0 => some (4, [(0, .null, true), (1, .int 0, true)])
  | _ => none
def m0_t : Nat → Option Eng.Row := (nd 11 (nd 6 (nd 2 (nd 1 (lf 0 (.iload_n 0, 0, 0, 0, .null)) (lf 1 (.aload_n 1, 0, 0, 0, .null))) (nd 3 (lf 2 (.arraylength, 0, 0, 0, .null)) (lf 3 (.if_icmp .ge 7, 0, 0, 0, .null)))) (nd 8 (nd 7 (lf 6 (.aload_n 1, 0, 0, 0, .null)) (lf 7 (.iload_n 0, 0, 0, 0, .null))) (nd 9 (lf 8 (.caload, 0, 0, 0, .null)) (nd 10 (lf 9 (.ireturn, 0, 0, 0, .null)) (lf 10 (.lload_n 2, 0, 0, 0, .null)))))) (nd 16 (nd 14 (nd 13 (lf 11 (.bipush 8, 0, 0, 0, .null)) (lf 13 (.iload_n 0, 0, 0, 0, .null))) (nd 15 (lf 14 (.imul, 0, 0, 0, .null)) (lf 15 (.lushr, 0, 0, 0, .null)))) (nd 20 (nd 19 (lf 16 (.ldc2_w 41, 0, 0, 0, .long (255))) (lf 19 (.land, 0, 0, 0, .null))) (nd 21 (lf 20 (.l2i, 0, 0, 0, .null)) (nd 22 (lf 21 (.i2c, 0, 0, 0, .null)) (lf 22 (.ireturn, 0, 0, 0, .null)))))))
def m0 : Meth := (⟨"com/example/ourthe/ourthe/cli/TraceSemanticsNamedPinLaw", "pick", "(I[CJ)C"⟩, method_3_code, 4, (Option.some Jvm.ClassFile.FieldType.char), upTo 23 m0_t)
def m1_t : Nat → Option Eng.Row := (nd 158 (nd 85 (nd 47 (nd 25 (nd 14 (nd 7 (nd 1 (lf 0 (.iload_n 1, 0, 0, 0, .null)) (nd 4 (lf 1 (.ifCond .ne 14, 0, 0, 0, .null)) (lf 4 (.new 21, 0, 0, 0, .null)))) (nd 9 (nd 8 (lf 7 (.dup, 0, 0, 0, .null)) (lf 8 (.iconst 0, 0, 0, 0, .null))) (nd 11 (lf 9 (.newarray .char, 0, 0, 0, .null)) (lf 11 (.invokespecial 43, 2, 2, 0, .null))))) (nd 17 (nd 15 (lf 14 (.areturn, 0, 0, 0, .null)) (nd 16 (lf 15 (.iload_n 1, 0, 0, 0, .null)) (lf 16 (.iconst 1, 0, 0, 0, .null)))) (nd 23 (nd 20 (lf 17 (.if_icmp .ne 20, 0, 0, 0, .null)) (lf 20 (.new 21, 0, 0, 0, .null))) (nd 24 (lf 23 (.dup, 0, 0, 0, .null)) (lf 24 (.iconst 1, 0, 0, 0, .null)))))) (nd 33 (nd 29 (nd 27 (lf 25 (.newarray .char, 0, 0, 0, .null)) (nd 28 (lf 27 (.dup, 0, 0, 0, .null)) (lf 28 (.iconst 0, 0, 0, 0, .null)))) (nd 31 (nd 30 (lf 29 (.aload_n 0, 0, 0, 0, .null)) (lf 30 (.iconst 0, 0, 0, 0, .null))) (nd 32 (lf 31 (.caload, 0, 0, 0, .null)) (lf 32 (.castore, 0, 0, 0, .null))))) (nd 39 (nd 37 (nd 36 (lf 33 (.invokespecial 43, 2, 2, 0, .null)) (lf 36 (.areturn, 0, 0, 0, .null))) (nd 38 (lf 37 (.iload_n 1, 0, 0, 0, .null)) (lf 38 (.iconst 2, 0, 0, 0, .null)))) (nd 45 (nd 42 (lf 39 (.if_icmp .ne 26, 0, 0, 0, .null)) (lf 42 (.new 21, 0, 0, 0, .null))) (nd 46 (lf 45 (.dup, 0, 0, 0, .null)) (lf 46 (.iconst 2, 0, 0, 0, .null))))))) (nd 65 (nd 55 (nd 51 (nd 49 (lf 47 (.newarray .char, 0, 0, 0, .null)) (nd 50 (lf 49 (.dup, 0, 0, 0, .null)) (lf 50 (.iconst 0, 0, 0, 0, .null)))) (nd 53 (nd 52 (lf 51 (.aload_n 0, 0, 0, 0, .null)) (lf 52 (.iconst 0, 0, 0, 0, .null))) (nd 54 (lf 53 (.caload, 0, 0, 0, .null)) (lf 54 (.castore, 0, 0, 0, .null))))) (nd 59 (nd 57 (nd 56 (lf 55 (.dup, 0, 0, 0, .null)) (lf 56 (.iconst 1, 0, 0, 0, .null))) (nd 58 (lf 57 (.aload_n 0, 0, 0, 0, .null)) (lf 58 (.iconst 1, 0, 0, 0, .null)))) (nd 61 (nd 60 (lf 59 (.caload, 0, 0, 0, .null)) (lf 60 (.castore, 0, 0, 0, .null))) (nd 64 (lf 61 (.invokespecial 43, 2, 2, 0, .null)) (lf 64 (.areturn, 0, 0, 0, .null)))))) (nd 77 (nd 70 (nd 66 (lf 65 (.iload_n 1, 0, 0, 0, .null)) (nd 67 (lf 66 (.iconst 3, 0, 0, 0, .null)) (lf 67 (.if_icmp .ne 32, 0, 0, 0, .null)))) (nd 74 (nd 73 (lf 70 (.new 21, 0, 0, 0, .null)) (lf 73 (.dup, 0, 0, 0, .null))) (nd 75 (lf 74 (.iconst 3, 0, 0, 0, .null)) (lf 75 (.newarray .char, 0, 0, 0, .null))))) (nd 81 (nd 79 (nd 78 (lf 77 (.dup, 0, 0, 0, .null)) (lf 78 (.iconst 0, 0, 0, 0, .null))) (nd 80 (lf 79 (.aload_n 0, 0, 0, 0, .null)) (lf 80 (.iconst 0, 0, 0, 0, .null)))) (nd 83 (nd 82 (lf 81 (.caload, 0, 0, 0, .null)) (lf 82 (.castore, 0, 0, 0, .null))) (nd 84 (lf 83 (.dup, 0, 0, 0, .null)) (lf 84 (.iconst 1, 0, 0, 0, .null)))))))) (nd 121 (nd 101 (nd 92 (nd 88 (nd 86 (lf 85 (.aload_n 0, 0, 0, 0, .null)) (nd 87 (lf 86 (.iconst 1, 0, 0, 0, .null)) (lf 87 (.caload, 0, 0, 0, .null)))) (nd 90 (nd 89 (lf 88 (.castore, 0, 0, 0, .null)) (lf 89 (.dup, 0, 0, 0, .null))) (nd 91 (lf 90 (.iconst 2, 0, 0, 0, .null)) (lf 91 (.aload_n 0, 0, 0, 0, .null))))) (nd 95 (nd 93 (lf 92 (.iconst 2, 0, 0, 0, .null)) (nd 94 (lf 93 (.caload, 0, 0, 0, .null)) (lf 94 (.castore, 0, 0, 0, .null)))) (nd 99 (nd 98 (lf 95 (.invokespecial 43, 2, 2, 0, .null)) (lf 98 (.areturn, 0, 0, 0, .null))) (nd 100 (lf 99 (.iload_n 1, 0, 0, 0, .null)) (lf 100 (.iconst 4, 0, 0, 0, .null)))))) (nd 113 (nd 108 (nd 104 (lf 101 (.if_icmp .ne 38, 0, 0, 0, .null)) (nd 107 (lf 104 (.new 21, 0, 0, 0, .null)) (lf 107 (.dup, 0, 0, 0, .null)))) (nd 111 (nd 109 (lf 108 (.iconst 4, 0, 0, 0, .null)) (lf 109 (.newarray .char, 0, 0, 0, .null))) (nd 112 (lf 111 (.dup, 0, 0, 0, .null)) (lf 112 (.iconst 0, 0, 0, 0, .null))))) (nd 117 (nd 115 (nd 114 (lf 113 (.aload_n 0, 0, 0, 0, .null)) (lf 114 (.iconst 0, 0, 0, 0, .null))) (nd 116 (lf 115 (.caload, 0, 0, 0, .null)) (lf 116 (.castore, 0, 0, 0, .null)))) (nd 119 (nd 118 (lf 117 (.dup, 0, 0, 0, .null)) (lf 118 (.iconst 1, 0, 0, 0, .null))) (nd 120 (lf 119 (.aload_n 0, 0, 0, 0, .null)) (lf 120 (.iconst 1, 0, 0, 0, .null))))))) (nd 138 (nd 128 (nd 124 (nd 122 (lf 121 (.caload, 0, 0, 0, .null)) (nd 123 (lf 122 (.castore, 0, 0, 0, .null)) (lf 123 (.dup, 0, 0, 0, .null)))) (nd 126 (nd 125 (lf 124 (.iconst 2, 0, 0, 0, .null)) (lf 125 (.aload_n 0, 0, 0, 0, .null))) (nd 127 (lf 126 (.iconst 2, 0, 0, 0, .null)) (lf 127 (.caload, 0, 0, 0, .null))))) (nd 132 (nd 130 (nd 129 (lf 128 (.castore, 0, 0, 0, .null)) (lf 129 (.dup, 0, 0, 0, .null))) (nd 131 (lf 130 (.iconst 3, 0, 0, 0, .null)) (lf 131 (.aload_n 0, 0, 0, 0, .null)))) (nd 134 (nd 133 (lf 132 (.iconst 3, 0, 0, 0, .null)) (lf 133 (.caload, 0, 0, 0, .null))) (nd 135 (lf 134 (.castore, 0, 0, 0, .null)) (lf 135 (.invokespecial 43, 2, 2, 0, .null)))))) (nd 149 (nd 141 (nd 139 (lf 138 (.areturn, 0, 0, 0, .null)) (nd 140 (lf 139 (.iload_n 1, 0, 0, 0, .null)) (lf 140 (.iconst 5, 0, 0, 0, .null)))) (nd 147 (nd 144 (lf 141 (.if_icmp .ne 44, 0, 0, 0, .null)) (lf 144 (.new 21, 0, 0, 0, .null))) (nd 148 (lf 147 (.dup, 0, 0, 0, .null)) (lf 148 (.iconst 5, 0, 0, 0, .null))))) (nd 154 (nd 152 (nd 151 (lf 149 (.newarray .char, 0, 0, 0, .null)) (lf 151 (.dup, 0, 0, 0, .null))) (nd 153 (lf 152 (.iconst 0, 0, 0, 0, .null)) (lf 153 (.aload_n 0, 0, 0, 0, .null)))) (nd 156 (nd 155 (lf 154 (.iconst 0, 0, 0, 0, .null)) (lf 155 (.caload, 0, 0, 0, .null))) (nd 157 (lf 156 (.castore, 0, 0, 0, .null)) (lf 157 (.dup, 0, 0, 0, .null))))))))) (nd 226 (nd 194 (nd 172 (nd 165 (nd 161 (nd 159 (lf 158 (.iconst 1, 0, 0, 0, .null)) (nd 160 (lf 159 (.aload_n 0, 0, 0, 0, .null)) (lf 160 (.iconst 1, 0, 0, 0, .null)))) (nd 163 (nd 162 (lf 161 (.caload, 0, 0, 0, .null)) (lf 162 (.castore, 0, 0, 0, .null))) (nd 164 (lf 163 (.dup, 0, 0, 0, .null)) (lf 164 (.iconst 2, 0, 0, 0, .null))))) (nd 168 (nd 166 (lf 165 (.aload_n 0, 0, 0, 0, .null)) (nd 167 (lf 166 (.iconst 2, 0, 0, 0, .null)) (lf 167 (.caload, 0, 0, 0, .null)))) (nd 170 (nd 169 (lf 168 (.castore, 0, 0, 0, .null)) (lf 169 (.dup, 0, 0, 0, .null))) (nd 171 (lf 170 (.iconst 3, 0, 0, 0, .null)) (lf 171 (.aload_n 0, 0, 0, 0, .null)))))) (nd 179 (nd 175 (nd 173 (lf 172 (.iconst 3, 0, 0, 0, .null)) (nd 174 (lf 173 (.caload, 0, 0, 0, .null)) (lf 174 (.castore, 0, 0, 0, .null)))) (nd 177 (nd 176 (lf 175 (.dup, 0, 0, 0, .null)) (lf 176 (.iconst 4, 0, 0, 0, .null))) (nd 178 (lf 177 (.aload_n 0, 0, 0, 0, .null)) (lf 178 (.iconst 4, 0, 0, 0, .null))))) (nd 185 (nd 181 (nd 180 (lf 179 (.caload, 0, 0, 0, .null)) (lf 180 (.castore, 0, 0, 0, .null))) (nd 184 (lf 181 (.invokespecial 43, 2, 2, 0, .null)) (lf 184 (.areturn, 0, 0, 0, .null)))) (nd 188 (nd 186 (lf 185 (.iload_n 1, 0, 0, 0, .null)) (lf 186 (.bipush 6, 0, 0, 0, .null))) (nd 191 (lf 188 (.if_icmp .ne 51, 0, 0, 0, .null)) (lf 191 (.new 21, 0, 0, 0, .null))))))) (nd 211 (nd 203 (nd 199 (nd 195 (lf 194 (.dup, 0, 0, 0, .null)) (nd 197 (lf 195 (.bipush 6, 0, 0, 0, .null)) (lf 197 (.newarray .char, 0, 0, 0, .null)))) (nd 201 (nd 200 (lf 199 (.dup, 0, 0, 0, .null)) (lf 200 (.iconst 0, 0, 0, 0, .null))) (nd 202 (lf 201 (.aload_n 0, 0, 0, 0, .null)) (lf 202 (.iconst 0, 0, 0, 0, .null))))) (nd 207 (nd 205 (nd 204 (lf 203 (.caload, 0, 0, 0, .null)) (lf 204 (.castore, 0, 0, 0, .null))) (nd 206 (lf 205 (.dup, 0, 0, 0, .null)) (lf 206 (.iconst 1, 0, 0, 0, .null)))) (nd 209 (nd 208 (lf 207 (.aload_n 0, 0, 0, 0, .null)) (lf 208 (.iconst 1, 0, 0, 0, .null))) (nd 210 (lf 209 (.caload, 0, 0, 0, .null)) (lf 210 (.castore, 0, 0, 0, .null)))))) (nd 218 (nd 214 (nd 212 (lf 211 (.dup, 0, 0, 0, .null)) (nd 213 (lf 212 (.iconst 2, 0, 0, 0, .null)) (lf 213 (.aload_n 0, 0, 0, 0, .null)))) (nd 216 (nd 215 (lf 214 (.iconst 2, 0, 0, 0, .null)) (lf 215 (.caload, 0, 0, 0, .null))) (nd 217 (lf 216 (.castore, 0, 0, 0, .null)) (lf 217 (.dup, 0, 0, 0, .null))))) (nd 222 (nd 220 (nd 219 (lf 218 (.iconst 3, 0, 0, 0, .null)) (lf 219 (.aload_n 0, 0, 0, 0, .null))) (nd 221 (lf 220 (.iconst 3, 0, 0, 0, .null)) (lf 221 (.caload, 0, 0, 0, .null)))) (nd 224 (nd 223 (lf 222 (.castore, 0, 0, 0, .null)) (lf 223 (.dup, 0, 0, 0, .null))) (nd 225 (lf 224 (.iconst 4, 0, 0, 0, .null)) (lf 225 (.aload_n 0, 0, 0, 0, .null)))))))) (nd 261 (nd 245 (nd 233 (nd 229 (nd 227 (lf 226 (.iconst 4, 0, 0, 0, .null)) (nd 228 (lf 227 (.caload, 0, 0, 0, .null)) (lf 228 (.castore, 0, 0, 0, .null)))) (nd 231 (nd 230 (lf 229 (.dup, 0, 0, 0, .null)) (lf 230 (.iconst 5, 0, 0, 0, .null))) (nd 232 (lf 231 (.aload_n 0, 0, 0, 0, .null)) (lf 232 (.iconst 5, 0, 0, 0, .null))))) (nd 238 (nd 234 (lf 233 (.caload, 0, 0, 0, .null)) (nd 235 (lf 234 (.castore, 0, 0, 0, .null)) (lf 235 (.invokespecial 43, 2, 2, 0, .null)))) (nd 242 (nd 239 (lf 238 (.areturn, 0, 0, 0, .null)) (lf 239 (.new 21, 0, 0, 0, .null))) (nd 243 (lf 242 (.dup, 0, 0, 0, .null)) (lf 243 (.bipush 7, 0, 0, 0, .null)))))) (nd 253 (nd 249 (nd 247 (lf 245 (.newarray .char, 0, 0, 0, .null)) (nd 248 (lf 247 (.dup, 0, 0, 0, .null)) (lf 248 (.iconst 0, 0, 0, 0, .null)))) (nd 251 (nd 250 (lf 249 (.aload_n 0, 0, 0, 0, .null)) (lf 250 (.iconst 0, 0, 0, 0, .null))) (nd 252 (lf 251 (.caload, 0, 0, 0, .null)) (lf 252 (.castore, 0, 0, 0, .null))))) (nd 257 (nd 255 (nd 254 (lf 253 (.dup, 0, 0, 0, .null)) (lf 254 (.iconst 1, 0, 0, 0, .null))) (nd 256 (lf 255 (.aload_n 0, 0, 0, 0, .null)) (lf 256 (.iconst 1, 0, 0, 0, .null)))) (nd 259 (nd 258 (lf 257 (.caload, 0, 0, 0, .null)) (lf 258 (.castore, 0, 0, 0, .null))) (nd 260 (lf 259 (.dup, 0, 0, 0, .null)) (lf 260 (.iconst 2, 0, 0, 0, .null))))))) (nd 276 (nd 268 (nd 264 (nd 262 (lf 261 (.aload_n 0, 0, 0, 0, .null)) (nd 263 (lf 262 (.iconst 2, 0, 0, 0, .null)) (lf 263 (.caload, 0, 0, 0, .null)))) (nd 266 (nd 265 (lf 264 (.castore, 0, 0, 0, .null)) (lf 265 (.dup, 0, 0, 0, .null))) (nd 267 (lf 266 (.iconst 3, 0, 0, 0, .null)) (lf 267 (.aload_n 0, 0, 0, 0, .null))))) (nd 272 (nd 270 (nd 269 (lf 268 (.iconst 3, 0, 0, 0, .null)) (lf 269 (.caload, 0, 0, 0, .null))) (nd 271 (lf 270 (.castore, 0, 0, 0, .null)) (lf 271 (.dup, 0, 0, 0, .null)))) (nd 274 (nd 273 (lf 272 (.iconst 4, 0, 0, 0, .null)) (lf 273 (.aload_n 0, 0, 0, 0, .null))) (nd 275 (lf 274 (.iconst 4, 0, 0, 0, .null)) (lf 275 (.caload, 0, 0, 0, .null)))))) (nd 283 (nd 279 (nd 277 (lf 276 (.castore, 0, 0, 0, .null)) (nd 278 (lf 277 (.dup, 0, 0, 0, .null)) (lf 278 (.iconst 5, 0, 0, 0, .null)))) (nd 281 (nd 280 (lf 279 (.aload_n 0, 0, 0, 0, .null)) (lf 280 (.iconst 5, 0, 0, 0, .null))) (nd 282 (lf 281 (.caload, 0, 0, 0, .null)) (lf 282 (.castore, 0, 0, 0, .null))))) (nd 289 (nd 286 (nd 284 (lf 283 (.dup, 0, 0, 0, .null)) (lf 284 (.bipush 6, 0, 0, 0, .null))) (nd 287 (lf 286 (.aload_n 0, 0, 0, 0, .null)) (lf 287 (.bipush 6, 0, 0, 0, .null)))) (nd 291 (nd 290 (lf 289 (.caload, 0, 0, 0, .null)) (lf 290 (.castore, 0, 0, 0, .null))) (nd 294 (lf 291 (.invokespecial 43, 2, 2, 0, .null)) (lf 294 (.areturn, 0, 0, 0, .null))))))))))
def m1 : Meth := (⟨"com/example/ourthe/ourthe/cli/TraceSemanticsNamedPinLaw", "cut", "([CI)Ljava/lang/String;"⟩, method_4_code, 2, (Option.some (Jvm.ClassFile.FieldType.object "java/lang/String")), upTo 295 m1_t)
def m2_t : Nat → Option Eng.Row := (nd 4 (nd 2 (nd 1 (lf 0 (.aload_n 0, 0, 0, 0, .null)) (lf 1 (.aload_n 1, 0, 0, 0, .null))) (nd 3 (lf 2 (.iconst 0, 0, 0, 0, .null)) (lf 3 (.aload_n 1, 0, 0, 0, .null)))) (nd 6 (nd 5 (lf 4 (.arraylength, 0, 0, 0, .null)) (lf 5 (.aconst_null, 0, 0, 0, .null))) (nd 9 (lf 6 (.invokespecial 27, 3, 5, 0, .null)) (lf 9 (.return_, 0, 0, 0, .null)))))
def m2 : Meth := (⟨"java/lang/String", "<init>", "([C)V"⟩, jdk_42_method_3_code, 2, (Option.none : Option Jvm.ClassFile.FieldType), upTo 10 m2_t)
def m3_t : Nat → Option Eng.Row := (nd 41 (nd 23 (nd 8 (nd 4 (nd 1 (lf 0 (.aload_n 0, 0, 0, 0, .null)) (lf 1 (.invokespecial 1, 0, 1, 1, .null))) (nd 5 (lf 4 (.iload_n 3, 0, 0, 0, .null)) (lf 5 (.ifCond .ne 22, 0, 0, 0, .null)))) (nd 14 (nd 11 (lf 8 (.aload_n 0, 0, 0, 0, .null)) (lf 11 (.getfield 9, 0, 0, 0, .null))) (nd 17 (lf 14 (.putfield 9, 0, 1, 0, .null)) (nd 20 (lf 17 (.aload_n 0, 0, 0, 0, .null)) (lf 20 (.getfield 15, 1, 0, 0, .null)))))) (nd 33 (nd 27 (nd 26 (lf 23 (.putfield 15, 1, 3, 0, .null)) (lf 26 (.return_, 0, 0, 0, .null))) (nd 30 (lf 27 (.getstatic 38, 0, 0, 2, .null)) (lf 30 (.ifCond .eq 28, 0, 0, 0, .null)))) (nd 35 (nd 34 (lf 33 (.aload_n 1, 0, 0, 0, .null)) (lf 34 (.iload_n 2, 0, 0, 0, .null))) (nd 36 (lf 35 (.iload_n 3, 0, 0, 0, .null)) (nd 39 (lf 36 (.invokestatic 177, 8, 3, 0, .null)) (lf 39 (.astore 5, 0, 0, 0, .null))))))) (nd 58 (nd 48 (nd 44 (nd 42 (lf 41 (.aload_n 0, 0, 0, 0, .null)) (lf 42 (.aload 5, 0, 0, 0, .null))) (nd 45 (lf 44 (.iload_n 3, 0, 0, 0, .null)) (lf 45 (.invokestatic 47, 10, 2, 0, .null)))) (nd 52 (nd 51 (lf 48 (.putfield 15, 1, 3, 0, .null)) (lf 51 (.aload_n 0, 0, 0, 0, .null))) (nd 54 (lf 52 (.aload 5, 0, 0, 0, .null)) (nd 57 (lf 54 (.putfield 9, 0, 1, 0, .null)) (lf 57 (.return_, 0, 0, 0, .null)))))) (nd 64 (nd 60 (nd 59 (lf 58 (.aload_n 0, 0, 0, 0, .null)) (lf 59 (.iconst 1, 0, 0, 0, .null))) (nd 63 (lf 60 (.putfield 15, 1, 3, 0, .null)) (lf 63 (.aload_n 0, 0, 0, 0, .null)))) (nd 66 (nd 65 (lf 64 (.aload_n 1, 0, 0, 0, .null)) (lf 65 (.iload_n 2, 0, 0, 0, .null))) (nd 70 (lf 66 (.iload_n 3, 0, 0, 0, .null)) (nd 73 (lf 70 (.putfield 9, 0, 1, 0, .null)) (lf 73 (.return_, 0, 0, 0, .null))))))))
def m3 : Meth := (⟨"java/lang/String", "<init>", "([CIILjava/lang/Void;)V"⟩, jdk_42_method_149_code, 6, (Option.none : Option Jvm.ClassFile.FieldType), upTo 74 m3_t)
def m4_t : Nat → Option Eng.Row := (nd 26 (nd 11 (nd 5 (nd 1 (lf 0 (.aload_n 0, 0, 0, 0, .null)) (nd 2 (lf 1 (.aload_n 1, 0, 0, 0, .null)) (lf 2 (.if_acmp .ne 5, 0, 0, 0, .null)))) (nd 7 (nd 6 (lf 5 (.iconst 1, 0, 0, 0, .null)) (lf 6 (.ireturn, 0, 0, 0, .null))) (nd 8 (lf 7 (.aload_n 1, 0, 0, 0, .null)) (lf 8 (.instanceof 10, 0, 0, 0, .null))))) (nd 18 (nd 14 (lf 11 (.ifCond .eq 43, 0, 0, 0, .null)) (nd 15 (lf 14 (.aload_n 1, 0, 0, 0, .null)) (lf 15 (.checkcast 10, 0, 0, 0, .null)))) (nd 22 (nd 19 (lf 18 (.astore_n 2, 0, 0, 0, .null)) (lf 19 (.getstatic 38, 0, 0, 2, .null))) (nd 25 (lf 22 (.ifCond .eq 14, 0, 0, 0, .null)) (lf 25 (.aload_n 0, 0, 0, 0, .null)))))) (nd 41 (nd 33 (nd 29 (lf 26 (.getfield 15, 1, 0, 0, .null)) (nd 30 (lf 29 (.aload_n 2, 0, 0, 0, .null)) (lf 30 (.getfield 15, 1, 0, 0, .null)))) (nd 37 (nd 36 (lf 33 (.if_icmp .ne 21, 0, 0, 0, .null)) (lf 36 (.aload_n 0, 0, 0, 0, .null))) (nd 40 (lf 37 (.getfield 9, 0, 0, 0, .null)) (lf 40 (.aload_n 2, 0, 0, 0, .null))))) (nd 50 (nd 44 (lf 41 (.getfield 9, 0, 0, 0, .null)) (nd 47 (lf 44 (.invokestatic 541, 5, 2, 0, .null)) (lf 47 (.ifCond .eq 7, 0, 0, 0, .null)))) (nd 54 (nd 51 (lf 50 (.iconst 1, 0, 0, 0, .null)) (lf 51 (.goto 4, 0, 0, 0, .null))) (nd 55 (lf 54 (.iconst 0, 0, 0, 0, .null)) (lf 55 (.ireturn, 0, 0, 0, .null)))))))
def m4 : Meth := (⟨"java/lang/String", "equals", "(Ljava/lang/Object;)Z"⟩, jdk_42_method_66_code, 3, (Option.some Jvm.ClassFile.FieldType.boolean), upTo 56 m4_t)
def m5_t : Nat → Option Eng.Row := (nd 17 (nd 8 (nd 3 (nd 1 (lf 0 (.aload_n 0, 0, 0, 0, .null)) (nd 2 (lf 1 (.arraylength, 0, 0, 0, .null)) (lf 2 (.aload_n 1, 0, 0, 0, .null)))) (nd 4 (lf 3 (.arraylength, 0, 0, 0, .null)) (nd 7 (lf 4 (.if_icmp .ne 30, 0, 0, 0, .null)) (lf 7 (.iconst 0, 0, 0, 0, .null))))) (nd 11 (nd 9 (lf 8 (.istore_n 2, 0, 0, 0, .null)) (nd 10 (lf 9 (.iload_n 2, 0, 0, 0, .null)) (lf 10 (.aload_n 0, 0, 0, 0, .null)))) (nd 15 (nd 12 (lf 11 (.arraylength, 0, 0, 0, .null)) (lf 12 (.if_icmp .ge 20, 0, 0, 0, .null))) (nd 16 (lf 15 (.aload_n 0, 0, 0, 0, .null)) (lf 16 (.iload_n 2, 0, 0, 0, .null)))))) (nd 25 (nd 20 (nd 18 (lf 17 (.baload, 0, 0, 0, .null)) (nd 19 (lf 18 (.aload_n 1, 0, 0, 0, .null)) (lf 19 (.iload_n 2, 0, 0, 0, .null)))) (nd 21 (lf 20 (.baload, 0, 0, 0, .null)) (nd 24 (lf 21 (.if_icmp .eq 5, 0, 0, 0, .null)) (lf 24 (.iconst 0, 0, 0, 0, .null))))) (nd 32 (nd 26 (lf 25 (.ireturn, 0, 0, 0, .null)) (nd 29 (lf 26 (.iinc 2 1, 0, 0, 0, .null)) (lf 29 (.goto (-20), 0, 0, 0, .null)))) (nd 34 (nd 33 (lf 32 (.iconst 1, 0, 0, 0, .null)) (lf 33 (.ireturn, 0, 0, 0, .null))) (nd 35 (lf 34 (.iconst 0, 0, 0, 0, .null)) (lf 35 (.ireturn, 0, 0, 0, .null)))))))
def m5 : Meth := (⟨"java/lang/StringLatin1", "equals", "([B[B)Z"⟩, jdk_43_method_13_code, 3, (Option.some Jvm.ClassFile.FieldType.boolean), upTo 36 m5_t)
def m6_t : Nat → Option Eng.Row := (nd 19 (nd 8 (nd 5 (nd 1 (lf 0 (.aconst_null, 0, 0, 0, .null)) (nd 2 (lf 1 (.astore_n 1, 0, 0, 0, .null)) (lf 2 (.invokestatic 33, 7, 0, 0, .null)))) (nd 6 (lf 5 (.astore_n 2, 0, 0, 0, .null)) (nd 7 (lf 6 (.aload_n 2, 0, 0, 0, .null)) (lf 7 (.arraylength, 0, 0, 0, .null))))) (nd 12 (nd 9 (lf 8 (.istore_n 3, 0, 0, 0, .null)) (nd 10 (lf 9 (.iconst 0, 0, 0, 0, .null)) (lf 10 (.istore 4, 0, 0, 0, .null)))) (nd 15 (nd 14 (lf 12 (.iload 4, 0, 0, 0, .null)) (lf 14 (.iload_n 3, 0, 0, 0, .null))) (nd 18 (lf 15 (.if_icmp .ge 30, 0, 0, 0, .null)) (lf 18 (.aload_n 2, 0, 0, 0, .null)))))) (nd 33 (nd 24 (nd 21 (lf 19 (.iload 4, 0, 0, 0, .null)) (nd 22 (lf 21 (.aaload, 0, 0, 0, .null)) (lf 22 (.astore 5, 0, 0, 0, .null)))) (nd 29 (nd 26 (lf 24 (.aload 5, 0, 0, 0, .null)) (lf 26 (.getfield 29, 3, 0, 0, .null))) (nd 30 (lf 29 (.aload_n 0, 0, 0, 0, .null)) (lf 30 (.invokevirtual 37, 4, 2, 0, .null))))) (nd 39 (nd 36 (lf 33 (.ifCond .eq 6, 0, 0, 0, .null)) (nd 38 (lf 36 (.aload 5, 0, 0, 0, .null)) (lf 38 (.astore_n 1, 0, 0, 0, .null)))) (nd 45 (nd 42 (lf 39 (.iinc 4 1, 0, 0, 0, .null)) (lf 42 (.goto (-30), 0, 0, 0, .null))) (nd 46 (lf 45 (.aload_n 1, 0, 0, 0, .null)) (lf 46 (.areturn, 0, 0, 0, .null)))))))
def m6 : Meth := (⟨"com/example/ourthe/ourthe/cli/TraceSemantics", "named", "(Ljava/lang/String;)Lcom/example/ourthe/ourthe/cli/TraceSemantics;"⟩, prog_50_method_5_code, 6, (Option.some (Jvm.ClassFile.FieldType.object "com/example/ourthe/ourthe/cli/TraceSemantics")), upTo 47 m6_t)
def m7_t : Nat → Option Eng.Row := (nd 6 (lf 0 (.getstatic 10, 1, 0, 4, .null)) (nd 9 (lf 6 (.checkcast 15, 0, 0, 1, .null)) (lf 9 (.areturn, 0, 0, 0, .null))))
def m7 : Meth := (⟨"com/example/ourthe/ourthe/cli/TraceSemantics", "values", "()[Lcom/example/ourthe/ourthe/cli/TraceSemantics;"⟩, prog_50_method_1_code, 0, (Option.some (Jvm.ClassFile.FieldType.array (Jvm.ClassFile.FieldType.object "com/example/ourthe/ourthe/cli/TraceSemantics"))), upTo 10 m7_t)
def m8_t : Nat → Option Eng.Row := (nd 26 (nd 9 (nd 5 (nd 3 (nd 1 (lf 0 (.iload_n 2, 0, 0, 0, .null)) (lf 1 (.newarray .byte, 0, 0, 0, .null))) (nd 4 (lf 3 (.astore_n 3, 0, 0, 0, .null)) (lf 4 (.aload_n 0, 0, 0, 0, .null)))) (nd 7 (nd 6 (lf 5 (.iload_n 1, 0, 0, 0, .null)) (lf 6 (.aload_n 3, 0, 0, 0, .null))) (nd 8 (lf 7 (.iconst 0, 0, 0, 0, .null)) (lf 8 (.iload_n 2, 0, 0, 0, .null))))) (nd 17 (nd 14 (nd 12 (lf 9 (.invokestatic 115, 9, 5, 0, .null)) (lf 12 (.istore 4, 0, 0, 0, .null))) (nd 16 (lf 14 (.iload 4, 0, 0, 0, .null)) (lf 16 (.iload_n 2, 0, 0, 0, .null)))) (nd 21 (nd 20 (lf 17 (.if_icmp .eq 40, 0, 0, 0, .null)) (lf 20 (.aload_n 0, 0, 0, 0, .null))) (nd 22 (lf 21 (.iload_n 1, 0, 0, 0, .null)) (lf 22 (.iload_n 2, 0, 0, 0, .null)))))) (nd 45 (nd 38 (nd 30 (nd 28 (lf 26 (.astore 5, 0, 0, 0, .null)) (lf 28 (.aload 5, 0, 0, 0, .null))) (nd 35 (lf 30 (.iload 4, 0, 0, 0, .null)) (lf 35 (.sipush 255, 0, 0, 0, .null)))) (nd 43 (nd 41 (lf 38 (.if_icmp .gt 16, 0, 0, 0, .null)) (lf 41 (.aload 5, 0, 0, 0, .null))) (nd 44 (lf 43 (.iconst 0, 0, 0, 0, .null)) (lf 44 (.aload_n 3, 0, 0, 0, .null))))) (nd 54 (nd 50 (nd 46 (lf 45 (.iconst 0, 0, 0, 0, .null)) (lf 46 (.iload_n 2, 0, 0, 0, .null))) (nd 51 (lf 50 (.iload_n 2, 0, 0, 0, .null)) (lf 51 (.if_icmp .eq 6, 0, 0, 0, .null)))) (nd 57 (nd 56 (lf 54 (.aload 5, 0, 0, 0, .null)) (lf 56 (.areturn, 0, 0, 0, .null))) (nd 58 (lf 57 (.aload_n 3, 0, 0, 0, .null)) (lf 58 (.areturn, 0, 0, 0, .null)))))))
def m8 : Meth := (⟨"java/lang/StringUTF16", "compress", "([CII)[B"⟩, jdk_52_method_16_code, 6, (Option.some (Jvm.ClassFile.FieldType.array Jvm.ClassFile.FieldType.byte)), upTo 59 m8_t)
def m9_t : Nat → Option Eng.Row := (nd 23 (nd 11 (nd 5 (nd 1 (lf 0 (.iconst 0, 0, 0, 0, .null)) (nd 3 (lf 1 (.istore 5, 0, 0, 0, .null)) (lf 3 (.iload 5, 0, 0, 0, .null)))) (nd 7 (lf 5 (.iload 4, 0, 0, 0, .null)) (nd 10 (lf 7 (.if_icmp .ge 37, 0, 0, 0, .null)) (lf 10 (.aload_n 0, 0, 0, 0, .null))))) (nd 15 (nd 12 (lf 11 (.iload_n 1, 0, 0, 0, .null)) (nd 13 (lf 12 (.caload, 0, 0, 0, .null)) (lf 13 (.istore 6, 0, 0, 0, .null)))) (nd 17 (lf 15 (.iload 6, 0, 0, 0, .null)) (nd 20 (lf 17 (.sipush 255, 0, 0, 0, .null)) (lf 20 (.if_icmp .le 6, 0, 0, 0, .null)))))) (nd 31 (nd 27 (nd 25 (lf 23 (.iload 5, 0, 0, 0, .null)) (nd 26 (lf 25 (.ireturn, 0, 0, 0, .null)) (lf 26 (.aload_n 2, 0, 0, 0, .null)))) (nd 28 (lf 27 (.iload_n 3, 0, 0, 0, .null)) (nd 30 (lf 28 (.iload 6, 0, 0, 0, .null)) (lf 30 (.i2b, 0, 0, 0, .null))))) (nd 38 (nd 32 (lf 31 (.bastore, 0, 0, 0, .null)) (nd 35 (lf 32 (.iinc 1 1, 0, 0, 0, .null)) (lf 35 (.iinc 3 1, 0, 0, 0, .null)))) (nd 44 (nd 41 (lf 38 (.iinc 5 1, 0, 0, 0, .null)) (lf 41 (.goto (-38), 0, 0, 0, .null))) (nd 46 (lf 44 (.iload 4, 0, 0, 0, .null)) (lf 46 (.ireturn, 0, 0, 0, .null)))))))
def m9 : Meth := (⟨"java/lang/StringUTF16", "compress", "([CI[BII)I"⟩, jdk_52_method_21_code, 7, (Option.some Jvm.ClassFile.FieldType.int), upTo 47 m9_t)
def m10_t : Nat → Option Eng.Row := (nd 4 (nd 2 (nd 1 (lf 0 (.iload_n 1, 0, 0, 0, .null)) (lf 1 (.aload_n 0, 0, 0, 0, .null))) (nd 3 (lf 2 (.arraylength, 0, 0, 0, .null)) (lf 3 (.isub, 0, 0, 0, .null)))) (nd 7 (nd 6 (lf 4 (.bipush 31, 0, 0, 0, .null)) (lf 6 (.iushr, 0, 0, 0, .null))) (nd 8 (lf 7 (.i2b, 0, 0, 0, .null)) (lf 8 (.ireturn, 0, 0, 0, .null)))))
def m10 : Meth := (⟨"java/lang/StringUTF16", "coderFromArrayLen", "([BI)B"⟩, jdk_52_method_15_code, 2, (Option.some Jvm.ClassFile.FieldType.byte), upTo 9 m10_t)
def mL_t : Nat → Option Eng.Row := (nd 124 (nd 60 (nd 28 (nd 15 (nd 7 (nd 2 (nd 1 (lf 0 (.iload_n 1, 0, 0, 0, .null)) (lf 1 (.iconst 3, 0, 0, 0, .null))) (nd 3 (lf 2 (.iand, 0, 0, 0, .null)) (nd 5 (lf 3 (.istore 5, 0, 0, 0, .null)) (lf 5 (.iload 5, 0, 0, 0, .null))))) (nd 11 (nd 8 (lf 7 (.iconst 1, 0, 0, 0, .null)) (lf 8 (.if_icmp .ne 36, 0, 0, 0, .null))) (nd 12 (lf 11 (.iconst 5, 0, 0, 0, .null)) (nd 14 (lf 12 (.newarray .char, 0, 0, 0, .null)) (lf 14 (.dup, 0, 0, 0, .null)))))) (nd 21 (nd 18 (nd 16 (lf 15 (.iconst 0, 0, 0, 0, .null)) (lf 16 (.bipush 115, 0, 0, 0, .null))) (nd 19 (lf 18 (.castore, 0, 0, 0, .null)) (nd 20 (lf 19 (.dup, 0, 0, 0, .null)) (lf 20 (.iconst 1, 0, 0, 0, .null))))) (nd 24 (nd 23 (lf 21 (.bipush 116, 0, 0, 0, .null)) (lf 23 (.castore, 0, 0, 0, .null))) (nd 25 (lf 24 (.dup, 0, 0, 0, .null)) (nd 26 (lf 25 (.iconst 2, 0, 0, 0, .null)) (lf 26 (.bipush 101, 0, 0, 0, .null))))))) (nd 41 (nd 34 (nd 30 (nd 29 (lf 28 (.castore, 0, 0, 0, .null)) (lf 29 (.dup, 0, 0, 0, .null))) (nd 31 (lf 30 (.iconst 3, 0, 0, 0, .null)) (nd 33 (lf 31 (.bipush 112, 0, 0, 0, .null)) (lf 33 (.castore, 0, 0, 0, .null))))) (nd 36 (nd 35 (lf 34 (.dup, 0, 0, 0, .null)) (lf 35 (.iconst 4, 0, 0, 0, .null))) (nd 38 (lf 36 (.bipush 115, 0, 0, 0, .null)) (nd 39 (lf 38 (.castore, 0, 0, 0, .null)) (lf 39 (.astore 6, 0, 0, 0, .null)))))) (nd 52 (nd 46 (nd 44 (lf 41 (.goto 53, 0, 0, 0, .null)) (lf 44 (.iload 5, 0, 0, 0, .null))) (nd 47 (lf 46 (.iconst 2, 0, 0, 0, .null)) (nd 50 (lf 47 (.if_icmp .ne 42, 0, 0, 0, .null)) (lf 50 (.bipush 6, 0, 0, 0, .null))))) (nd 56 (nd 54 (lf 52 (.newarray .char, 0, 0, 0, .null)) (nd 55 (lf 54 (.dup, 0, 0, 0, .null)) (lf 55 (.iconst 0, 0, 0, 0, .null)))) (nd 58 (lf 56 (.bipush 99, 0, 0, 0, .null)) (nd 59 (lf 58 (.castore, 0, 0, 0, .null)) (lf 59 (.dup, 0, 0, 0, .null)))))))) (nd 89 (nd 73 (nd 66 (nd 63 (nd 61 (lf 60 (.iconst 1, 0, 0, 0, .null)) (lf 61 (.bipush 97, 0, 0, 0, .null))) (nd 64 (lf 63 (.castore, 0, 0, 0, .null)) (nd 65 (lf 64 (.dup, 0, 0, 0, .null)) (lf 65 (.iconst 2, 0, 0, 0, .null))))) (nd 69 (nd 68 (lf 66 (.bipush 117, 0, 0, 0, .null)) (lf 68 (.castore, 0, 0, 0, .null))) (nd 70 (lf 69 (.dup, 0, 0, 0, .null)) (nd 71 (lf 70 (.iconst 3, 0, 0, 0, .null)) (lf 71 (.bipush 115, 0, 0, 0, .null)))))) (nd 79 (nd 75 (nd 74 (lf 73 (.castore, 0, 0, 0, .null)) (lf 74 (.dup, 0, 0, 0, .null))) (nd 76 (lf 75 (.iconst 4, 0, 0, 0, .null)) (nd 78 (lf 76 (.bipush 97, 0, 0, 0, .null)) (lf 78 (.castore, 0, 0, 0, .null))))) (nd 83 (nd 80 (lf 79 (.dup, 0, 0, 0, .null)) (nd 81 (lf 80 (.iconst 5, 0, 0, 0, .null)) (lf 81 (.bipush 108, 0, 0, 0, .null)))) (nd 84 (lf 83 (.castore, 0, 0, 0, .null)) (nd 86 (lf 84 (.astore 6, 0, 0, 0, .null)) (lf 86 (.goto 8, 0, 0, 0, .null))))))) (nd 106 (nd 98 (nd 92 (nd 90 (lf 89 (.iconst 0, 0, 0, 0, .null)) (lf 90 (.newarray .char, 0, 0, 0, .null))) (nd 94 (lf 92 (.astore 6, 0, 0, 0, .null)) (nd 96 (lf 94 (.bipush 7, 0, 0, 0, .null)) (lf 96 (.newarray .char, 0, 0, 0, .null))))) (nd 102 (nd 100 (lf 98 (.astore 7, 0, 0, 0, .null)) (lf 100 (.aload 7, 0, 0, 0, .null))) (nd 103 (lf 102 (.iconst 0, 0, 0, 0, .null)) (nd 104 (lf 103 (.iconst 0, 0, 0, 0, .null)) (lf 104 (.aload 6, 0, 0, 0, .null)))))) (nd 114 (nd 110 (nd 107 (lf 106 (.lload_n 3, 0, 0, 0, .null)) (lf 107 (.invokestatic 7, 0, 3, 0, .null))) (nd 111 (lf 110 (.castore, 0, 0, 0, .null)) (nd 113 (lf 111 (.aload 7, 0, 0, 0, .null)) (lf 113 (.iconst 1, 0, 0, 0, .null))))) (nd 118 (nd 115 (lf 114 (.iconst 1, 0, 0, 0, .null)) (nd 117 (lf 115 (.aload 6, 0, 0, 0, .null)) (lf 117 (.lload_n 3, 0, 0, 0, .null)))) (nd 121 (lf 118 (.invokestatic 7, 0, 3, 0, .null)) (nd 122 (lf 121 (.castore, 0, 0, 0, .null)) (lf 122 (.aload 7, 0, 0, 0, .null))))))))) (nd 189 (nd 155 (nd 139 (nd 132 (nd 126 (nd 125 (lf 124 (.iconst 2, 0, 0, 0, .null)) (lf 125 (.iconst 2, 0, 0, 0, .null))) (nd 128 (lf 126 (.aload 6, 0, 0, 0, .null)) (nd 129 (lf 128 (.lload_n 3, 0, 0, 0, .null)) (lf 129 (.invokestatic 7, 0, 3, 0, .null))))) (nd 135 (nd 133 (lf 132 (.castore, 0, 0, 0, .null)) (lf 133 (.aload 7, 0, 0, 0, .null))) (nd 136 (lf 135 (.iconst 3, 0, 0, 0, .null)) (nd 137 (lf 136 (.iconst 3, 0, 0, 0, .null)) (lf 137 (.aload 6, 0, 0, 0, .null)))))) (nd 147 (nd 143 (nd 140 (lf 139 (.lload_n 3, 0, 0, 0, .null)) (lf 140 (.invokestatic 7, 0, 3, 0, .null))) (nd 144 (lf 143 (.castore, 0, 0, 0, .null)) (nd 146 (lf 144 (.aload 7, 0, 0, 0, .null)) (lf 146 (.iconst 4, 0, 0, 0, .null))))) (nd 150 (nd 148 (lf 147 (.iconst 4, 0, 0, 0, .null)) (lf 148 (.aload 6, 0, 0, 0, .null))) (nd 151 (lf 150 (.lload_n 3, 0, 0, 0, .null)) (nd 154 (lf 151 (.invokestatic 7, 0, 3, 0, .null)) (lf 154 (.castore, 0, 0, 0, .null))))))) (nd 172 (nd 162 (nd 158 (nd 157 (lf 155 (.aload 7, 0, 0, 0, .null)) (lf 157 (.iconst 5, 0, 0, 0, .null))) (nd 159 (lf 158 (.iconst 5, 0, 0, 0, .null)) (nd 161 (lf 159 (.aload 6, 0, 0, 0, .null)) (lf 161 (.lload_n 3, 0, 0, 0, .null))))) (nd 166 (nd 165 (lf 162 (.invokestatic 7, 0, 3, 0, .null)) (lf 165 (.castore, 0, 0, 0, .null))) (nd 168 (lf 166 (.aload 7, 0, 0, 0, .null)) (nd 170 (lf 168 (.bipush 6, 0, 0, 0, .null)) (lf 170 (.bipush 6, 0, 0, 0, .null)))))) (nd 180 (nd 175 (nd 174 (lf 172 (.aload 6, 0, 0, 0, .null)) (lf 174 (.lload_n 3, 0, 0, 0, .null))) (nd 178 (lf 175 (.invokestatic 7, 0, 3, 0, .null)) (nd 179 (lf 178 (.castore, 0, 0, 0, .null)) (lf 179 (.iload_n 1, 0, 0, 0, .null))))) (nd 185 (nd 181 (lf 180 (.iconst 4, 0, 0, 0, .null)) (nd 182 (lf 181 (.iand, 0, 0, 0, .null)) (lf 182 (.ifCond .eq 26, 0, 0, 0, .null)))) (nd 186 (lf 185 (.iload_n 2, 0, 0, 0, .null)) (nd 188 (lf 186 (.ldc 13, 0, 0, 0, .int (2147483647))) (lf 188 (.iand, 0, 0, 0, .null)))))))) (nd 227 (nd 206 (nd 198 (nd 192 (nd 191 (lf 189 (.bipush 7, 0, 0, 0, .null)) (lf 191 (.irem, 0, 0, 0, .null))) (nd 194 (lf 192 (.istore 8, 0, 0, 0, .null)) (nd 196 (lf 194 (.aload 7, 0, 0, 0, .null)) (lf 196 (.iload 8, 0, 0, 0, .null))))) (nd 201 (nd 199 (lf 198 (.iload_n 2, 0, 0, 0, .null)) (lf 199 (.bipush 8, 0, 0, 0, .null))) (nd 202 (lf 201 (.iushr, 0, 0, 0, .null)) (nd 205 (lf 202 (.sipush 255, 0, 0, 0, .null)) (lf 205 (.iand, 0, 0, 0, .null)))))) (nd 212 (nd 208 (nd 207 (lf 206 (.i2c, 0, 0, 0, .null)) (lf 207 (.castore, 0, 0, 0, .null))) (nd 209 (lf 208 (.iload_n 0, 0, 0, 0, .null)) (nd 211 (lf 209 (.bipush 7, 0, 0, 0, .null)) (lf 211 (.iand, 0, 0, 0, .null))))) (nd 218 (nd 214 (lf 212 (.istore 8, 0, 0, 0, .null)) (nd 216 (lf 214 (.aload 7, 0, 0, 0, .null)) (lf 216 (.iload 8, 0, 0, 0, .null)))) (nd 221 (lf 218 (.invokestatic 14, 1, 2, 0, .null)) (nd 223 (lf 221 (.astore 9, 0, 0, 0, .null)) (lf 223 (.aload 9, 0, 0, 0, .null))))))) (nd 256 (nd 241 (nd 233 (nd 230 (lf 227 (.invokevirtual 20, 4, 2, 0, .null)) (lf 230 (.ifCond .eq 11, 0, 0, 0, .null))) (nd 236 (lf 233 (.getstatic 26, 2, 0, 5, .null)) (nd 238 (lf 236 (.astore 10, 0, 0, 0, .null)) (lf 238 (.goto 24, 0, 0, 0, .null))))) (nd 248 (nd 245 (lf 241 (.aload 9, 0, 0, 0, .null)) (lf 245 (.invokevirtual 20, 4, 2, 0, .null))) (nd 251 (lf 248 (.ifCond .eq 11, 0, 0, 0, .null)) (nd 254 (lf 251 (.getstatic 34, 3, 0, 6, .null)) (lf 254 (.astore 10, 0, 0, 0, .null)))))) (nd 267 (nd 260 (nd 259 (lf 256 (.goto 6, 0, 0, 0, .null)) (lf 259 (.aconst_null, 0, 0, 0, .null))) (nd 262 (lf 260 (.astore 10, 0, 0, 0, .null)) (nd 264 (lf 262 (.aload 9, 0, 0, 0, .null)) (lf 264 (.invokestatic 37, 6, 1, 0, .null))))) (nd 273 (nd 269 (lf 267 (.aload 10, 0, 0, 0, .null)) (nd 272 (lf 269 (.if_acmp .ne 7, 0, 0, 0, .null)) (lf 272 (.iconst 1, 0, 0, 0, .null)))) (nd 276 (lf 273 (.goto 4, 0, 0, 0, .null)) (nd 277 (lf 276 (.iconst 0, 0, 0, 0, .null)) (lf 277 (.ireturn, 0, 0, 0, .null))))))))))
def mL : Meth := (x, code, maxLocals, ret, upTo 278 mL_t)
def gP : Nat → Option Meth
  | 0 => some m0
  | 1 => some m1
  | 2 => some m2
  | 3 => some m3
  | 4 => some m4
  | 5 => some m5
  | 6 => some m6
  | 7 => some m7
  | 8 => some m8
  | 9 => some m9
  | 10 => some m10
  | _ => none
-- statics: 0: java/lang/String COMPACT_STRINGS Z (field 2) | 1: com/example/ourthe/ourthe/cli/TraceSemantics $VALUES [Lcom/example/ourthe/ourthe/cli/TraceSemantics; (field 4) | 2: com/example/ourthe/ourthe/cli/TraceSemantics STEPS Lcom/example/ourthe/ourthe/cli/TraceSemantics; (field 5) | 3: com/example/ourthe/ourthe/cli/TraceSemantics CAUSAL Lcom/example/ourthe/ourthe/cli/TraceSemantics; (field 6)
set_option maxRecDepth 65536 in
theorem cL : chk gP gK gC gM tables_1 278 mL = true := by decide +kernel
set_option maxRecDepth 65536 in
theorem c0 : chk gP gK gC gM tables_1 23 m0 = true := by decide +kernel
theorem pl0 : plainFor m0.1 = true := plainFor_of_name (by first | (simp [plainName, overriddenIn, m0]; done) | decide +kernel)
set_option maxRecDepth 65536 in
theorem c1 : chk gP gK gC gM tables_1 295 m1 = true := by decide +kernel
theorem pl1 : plainFor m1.1 = true := plainFor_of_name (by first | (simp [plainName, overriddenIn, m1]; done) | decide +kernel)
set_option maxRecDepth 65536 in
theorem c2 : chk gP gK gC gM tables_1 10 m2 = true := by decide +kernel
theorem pl2 : plainFor m2.1 = true := plainFor_of_name (by first | (simp [plainName, overriddenIn, m2]; done) | decide +kernel)
set_option maxRecDepth 65536 in
theorem c3 : chk gP gK gC gM tables_1 74 m3 = true := by decide +kernel
theorem pl3 : plainFor m3.1 = true := plainFor_of_name (by first | (simp [plainName, overriddenIn, m3]; done) | decide +kernel)
set_option maxRecDepth 65536 in
theorem c4 : chk gP gK gC gM tables_1 56 m4 = true := by decide +kernel
theorem pl4 : plainFor m4.1 = true := plainFor_of_name (by first | (simp [plainName, overriddenIn, m4]; done) | decide +kernel)
set_option maxRecDepth 65536 in
theorem c5 : chk gP gK gC gM tables_1 36 m5 = true := by decide +kernel
theorem pl5 : plainFor m5.1 = true := plainFor_of_name (by first | (simp [plainName, overriddenIn, m5]; done) | decide +kernel)
set_option maxRecDepth 65536 in
theorem c6 : chk gP gK gC gM tables_1 47 m6 = true := by decide +kernel
theorem pl6 : plainFor m6.1 = true := plainFor_of_name (by first | (simp [plainName, overriddenIn, m6]; done) | decide +kernel)
set_option maxRecDepth 65536 in
theorem c7 : chk gP gK gC gM tables_1 10 m7 = true := by decide +kernel
theorem pl7 : plainFor m7.1 = true := plainFor_of_name (by first | (simp [plainName, overriddenIn, m7]; done) | decide +kernel)
set_option maxRecDepth 65536 in
theorem c8 : chk gP gK gC gM tables_1 59 m8 = true := by decide +kernel
theorem pl8 : plainFor m8.1 = true := plainFor_of_name (by first | (simp [plainName, overriddenIn, m8]; done) | decide +kernel)
set_option maxRecDepth 65536 in
theorem c9 : chk gP gK gC gM tables_1 47 m9 = true := by decide +kernel
theorem pl9 : plainFor m9.1 = true := plainFor_of_name (by first | (simp [plainName, overriddenIn, m9]; done) | decide +kernel)
set_option maxRecDepth 65536 in
theorem c10 : chk gP gK gC gM tables_1 9 m10 = true := by decide +kernel
theorem pl10 : plainFor m10.1 = true := plainFor_of_name (by first | (simp [plainName, overriddenIn, m10]; done) | decide +kernel)
set_option maxRecDepth 65536 in
theorem cW : ([m0, m1, m2, m3, m4, m5, m6, m7, m8, m9, m10]).all (fun M => decide (Jvm.Cond.code M.1 M.2.1 M.2.2.1 M.2.2.2.1 ∈ tables_1) && decide (Jvm.Cond.initialized M.1.cls ∈ tables_1)) = true := by decide +kernel
theorem hP {Z : State} {a0 : Array Value} (hw : ∀ d ∈ tables_1, d.before a0 Z = true) : GoodP Z a0 gP gK gC gM := by
  intro a M h
  have hc := List.all_eq_true.mp cW
  match a, h with
  | 0, h => obtain rfl : m0 = M := Option.some.inj h; exact ⟨good_of hw c0 rfl, pl0, code_of hw (hc _ (by simp))⟩
  | 1, h => obtain rfl : m1 = M := Option.some.inj h; exact ⟨good_of hw c1 rfl, pl1, code_of hw (hc _ (by simp))⟩
  | 2, h => obtain rfl : m2 = M := Option.some.inj h; exact ⟨good_of hw c2 rfl, pl2, code_of hw (hc _ (by simp))⟩
  | 3, h => obtain rfl : m3 = M := Option.some.inj h; exact ⟨good_of hw c3 rfl, pl3, code_of hw (hc _ (by simp))⟩
  | 4, h => obtain rfl : m4 = M := Option.some.inj h; exact ⟨good_of hw c4 rfl, pl4, code_of hw (hc _ (by simp))⟩
  | 5, h => obtain rfl : m5 = M := Option.some.inj h; exact ⟨good_of hw c5 rfl, pl5, code_of hw (hc _ (by simp))⟩
  | 6, h => obtain rfl : m6 = M := Option.some.inj h; exact ⟨good_of hw c6 rfl, pl6, code_of hw (hc _ (by simp))⟩
  | 7, h => obtain rfl : m7 = M := Option.some.inj h; exact ⟨good_of hw c7 rfl, pl7, code_of hw (hc _ (by simp))⟩
  | 8, h => obtain rfl : m8 = M := Option.some.inj h; exact ⟨good_of hw c8 rfl, pl8, code_of hw (hc _ (by simp))⟩
  | 9, h => obtain rfl : m9 = M := Option.some.inj h; exact ⟨good_of hw c9 rfl, pl9, code_of hw (hc _ (by simp))⟩
  | 10, h => obtain rfl : m10 = M := Option.some.inj h; exact ⟨good_of hw c10 rfl, pl10, code_of hw (hc _ (by simp))⟩
  | _ + 11, h => cases h

/-! ## b311-m3: Strings on the heap, and what stands at the start -/
def stL : List Int32 := [115, 116, 101, 112, 115]
def caL : List Int32 := [99, 97, 117, 115, 97, 108]
/-- at a stands a String, compact, whose bytes (the array v) are ys -/
def Strg (Z : State) (h : Heap) (a v : Addr) (ys : List Int32) : Prop :=
  Exa Z h a "java/lang/String" ∧ Fld Z h a "java/lang/String" "coder" "B" (.int 0) ∧ Fld Z h a "java/lang/String" "value" "[B" (.ref v) ∧ ∃ c : Cell, Arr Z h v c .byte ∧ c.slots = (ys.map Value.int).toArray
theorem Strg.ext {Z : State} {h h' : Heap} {a v : Addr} {ys : List Int32} (E : Ext h h') (F : Strg Z h a v ys) : Strg Z h' a v ys := by
  obtain ⟨f1, f2, f3, c, q, r⟩ := F
  exact ⟨f1.ext E, f2.ext E, f3.ext E, c, q.ext E, r⟩
theorem own_int_inj : ∀ {xs ys : List Int32}, xs.map Value.int = ys.map Value.int → xs = ys
  | [], [], _ => rfl
  | a :: xs, b :: ys, h => by
    simp only [List.map_cons, List.cons.injEq, Value.int.injEq] at h
    rw [h.1, own_int_inj h.2]
  | [], _ :: _, h => by cases h
  | _ :: _, [], h => by cases h
theorem own_fld_one {Z : State} {h : Heap} {a : Addr} {C n d : String} {v w : Value} (F : Fld Z h a C n d v) (F' : Fld Z h a C n d w) : v = w := by
  obtain ⟨cell, cf, k, i, f, h1, h2, -, -, -, -, h7⟩ := F
  obtain ⟨cell', cf', k', i', f', g1, g2, -, -, -, -, g7⟩ := F'
  cases h1.symm.trans g1
  cases h2.symm.trans g2
  exact Option.some.inj (h7.symm.trans g7)
theorem Strg.one {Z : State} {h : Heap} {a v w : Addr} {ys zs : List Int32} (F : Strg Z h a v ys) (F' : Strg Z h a w zs) : ys = zs := by
  obtain ⟨-, -, f3, c, q, r⟩ := F
  obtain ⟨-, -, g3, c', q', r'⟩ := F'
  have e := own_fld_one f3 g3
  cases e
  cases q.1.symm.trans q'.1
  have e2 := congrArg Array.toList (r.symm.trans r')
  exact own_int_inj (by simpa using e2)
theorem own_arv {Z : State} {h : Heap} {b : Addr} {k : ClassId} {z : Int32} {vs : List Value} {d : Value} (F : Arv Z h b k .byte z vs d) (hl : z.toNatClampNeg = vs.length) : ∃ c : Cell, Arr Z h b c .byte ∧ c.slots = vs.toArray := by
  obtain ⟨c, A, -, hs, -, H, -⟩ := F
  refine ⟨c, A, ?_⟩
  apply Array.ext (by simp; omega)
  intro i h1 h2
  have q := H i h1
  rw [Array.getElem?_eq_getElem h1] at q
  have h3 : i < vs.length := by simpa using h2
  rw [Option.some.inj q]
  simp [List.getD, h3]
/-- an array of chars with so many components -/
def CA (Z : State) (h : Heap) (a : Addr) (n : Nat) : Prop := ∃ c : Cell, Arr Z h a c .char ∧ c.slots.size = n
theorem CA.ext {Z : State} {h h' : Heap} {a : Addr} {n : Nat} (E : Ext h h') (F : CA Z h a n) : CA Z h' a n := by
  obtain ⟨c, q, r⟩ := F; exact ⟨c, q.ext E, r⟩
theorem CA.lt {Z : State} {h : Heap} {a : Addr} {n : Nat} (F : CA Z h a n) : a < h.size := by
  obtain ⟨c, q, r⟩ := F; exact q.lt
theorem Strg.ltv {Z : State} {h : Heap} {a v : Addr} {ys : List Int32} (F : Strg Z h a v ys) : v < h.size := by
  obtain ⟨-, -, -, c, q, -⟩ := F; exact q.lt
/-- the objects and statics that the case names -/
def StF (Z : State) (A : Nat → Addr) (cs : Int32) (h : Heap) : Prop :=
  (∃ c : Cell, Arr Z h (A 0) c (.object "com/example/ourthe/ourthe/cli/TraceSemantics") ∧ c.slots = #[.ref (A 1), .ref (A 2)] ∧ FitC Z c) ∧ (Exa Z h (A 0) "[Lcom/example/ourthe/ourthe/cli/TraceSemantics;") ∧ (Exa Z h (A 1) "com/example/ourthe/ourthe/cli/TraceSemantics$1") ∧ (Fld Z h (A 1) "com/example/ourthe/ourthe/cli/TraceSemantics" "name" "Ljava/lang/String;" (.ref (A 3))) ∧ (Exa Z h (A 2) "com/example/ourthe/ourthe/cli/TraceSemantics$2") ∧ (Fld Z h (A 2) "com/example/ourthe/ourthe/cli/TraceSemantics" "name" "Ljava/lang/String;" (.ref (A 5))) ∧ (Strg Z h (A 3) (A 4) stL) ∧ (Strg Z h (A 5) (A 6) caL) ∧ (Sta Z h "java/lang/String" "COMPACT_STRINGS" "Z" (.int cs)) ∧ (Sta Z h "com/example/ourthe/ourthe/cli/TraceSemantics" "$VALUES" "[Lcom/example/ourthe/ourthe/cli/TraceSemantics;" (.ref (A 0))) ∧ (Sta Z h "com/example/ourthe/ourthe/cli/TraceSemantics" "STEPS" "Lcom/example/ourthe/ourthe/cli/TraceSemantics;" (.ref (A 1))) ∧ (Sta Z h "com/example/ourthe/ourthe/cli/TraceSemantics" "CAUSAL" "Lcom/example/ourthe/ourthe/cli/TraceSemantics;" (.ref (A 2)))
theorem StF.arr {Z : State} {A : Nat → Addr} {cs : Int32} {h : Heap} (F : StF Z A cs h) : ∃ c : Cell, Arr Z h (A 0) c (.object "com/example/ourthe/ourthe/cli/TraceSemantics") ∧ c.slots = #[.ref (A 1), .ref (A 2)] ∧ FitC Z c := F.1
theorem StF.exa {Z : State} {A : Nat → Addr} {cs : Int32} {h : Heap} (F : StF Z A cs h) : Exa Z h (A 0) "[Lcom/example/ourthe/ourthe/cli/TraceSemantics;" := F.2.1
theorem StF.x1 {Z : State} {A : Nat → Addr} {cs : Int32} {h : Heap} (F : StF Z A cs h) : Exa Z h (A 1) "com/example/ourthe/ourthe/cli/TraceSemantics$1" := F.2.2.1
theorem StF.f1 {Z : State} {A : Nat → Addr} {cs : Int32} {h : Heap} (F : StF Z A cs h) : Fld Z h (A 1) "com/example/ourthe/ourthe/cli/TraceSemantics" "name" "Ljava/lang/String;" (.ref (A 3)) := F.2.2.2.1
theorem StF.x2 {Z : State} {A : Nat → Addr} {cs : Int32} {h : Heap} (F : StF Z A cs h) : Exa Z h (A 2) "com/example/ourthe/ourthe/cli/TraceSemantics$2" := F.2.2.2.2.1
theorem StF.f2 {Z : State} {A : Nat → Addr} {cs : Int32} {h : Heap} (F : StF Z A cs h) : Fld Z h (A 2) "com/example/ourthe/ourthe/cli/TraceSemantics" "name" "Ljava/lang/String;" (.ref (A 5)) := F.2.2.2.2.2.1
theorem StF.s3 {Z : State} {A : Nat → Addr} {cs : Int32} {h : Heap} (F : StF Z A cs h) : Strg Z h (A 3) (A 4) stL := F.2.2.2.2.2.2.1
theorem StF.s5 {Z : State} {A : Nat → Addr} {cs : Int32} {h : Heap} (F : StF Z A cs h) : Strg Z h (A 5) (A 6) caL := F.2.2.2.2.2.2.2.1
theorem StF.t0 {Z : State} {A : Nat → Addr} {cs : Int32} {h : Heap} (F : StF Z A cs h) : Sta Z h "java/lang/String" "COMPACT_STRINGS" "Z" (.int cs) := F.2.2.2.2.2.2.2.2.1
theorem StF.t1 {Z : State} {A : Nat → Addr} {cs : Int32} {h : Heap} (F : StF Z A cs h) : Sta Z h "com/example/ourthe/ourthe/cli/TraceSemantics" "$VALUES" "[Lcom/example/ourthe/ourthe/cli/TraceSemantics;" (.ref (A 0)) := F.2.2.2.2.2.2.2.2.2.1
theorem StF.t2 {Z : State} {A : Nat → Addr} {cs : Int32} {h : Heap} (F : StF Z A cs h) : Sta Z h "com/example/ourthe/ourthe/cli/TraceSemantics" "STEPS" "Lcom/example/ourthe/ourthe/cli/TraceSemantics;" (.ref (A 1)) := F.2.2.2.2.2.2.2.2.2.2.1
theorem StF.t3 {Z : State} {A : Nat → Addr} {cs : Int32} {h : Heap} (F : StF Z A cs h) : Sta Z h "com/example/ourthe/ourthe/cli/TraceSemantics" "CAUSAL" "Lcom/example/ourthe/ourthe/cli/TraceSemantics;" (.ref (A 2)) := F.2.2.2.2.2.2.2.2.2.2.2
theorem StF.ext {Z : State} {A : Nat → Addr} {cs : Int32} {h h' : Heap} (E : Ext h h') (F : StF Z A cs h) : StF Z A cs h' :=
  ⟨by obtain ⟨c, q, r⟩ := F.arr; exact ⟨c, q.ext E, r⟩, F.exa.ext E, F.x1.ext E, F.f1.ext E, F.x2.ext E, F.f2.ext E, F.s3.ext E, F.s5.ext E, F.t0.ext E, F.t1.ext E, F.t2.ext E, F.t3.ext E⟩
/-- places by a list, new ones behind n -/
def rhoL (as : List Addr) (n : Nat) : Rho := (fun i => match as[i]? with | some a => a | none => n + (i - as.length), fun _ => 0)
theorem rhoL_hi {as : List Addr} {n : Nat} : ∀ i, as.length ≤ i → (rhoL as n).1 i = n + (i - as.length) := fun i hi => by
  simp only [rhoL, List.getElem?_eq_none hi]
theorem rhoL_lo {as : List Addr} {n : Nat} (h : ∀ a ∈ as, a < n) : ∀ i, i < as.length → (rhoL as n).1 i < n := fun i hi => by
  simp only [rhoL, List.getElem?_eq_getElem hi]
  exact h _ (List.getElem_mem hi)
theorem simL {Z : State} {as : List Addr} {H : List Obj} {h : Heap} {k : Nat} {S : List (Nat × Value)} (len : H.length = as.length) (hk : k ≤ h.size) (hO : ∀ i o, H[i]? = some o → ObjOk Z (rhoL as h.size) gK gC h ((rhoL as h.size).1 i) o)
    (hS : ∀ q ∈ S, Sta Z h (gK q.1).1 (gK q.1).2.1 (gK q.1).2.2 (rl (rhoL as h.size) q.2)) : Sim Z (rhoL as h.size) gK gC as.length (h, k) S H h :=
  ⟨Nat.le_of_eq len.symm, by rw [len, Nat.sub_self]; rfl, hO, hS, ⟨Nat.le_refl _, fun _ _ q => q⟩, hk⟩
abbrev B0 : Obj := .inl (.object "com/example/ourthe/ourthe/cli/TraceSemantics", [.ref 1, .ref 2])
abbrev B1 : Obj := .inr (2, [(3, .ref 3)])
abbrev B2 : Obj := .inr (3, [(3, .ref 5)])
abbrev B3 : Obj := .inr (0, [(0, .ref 4), (1, .int 0)])
abbrev B4 : Obj := .inl (.byte, stL.map Value.int)
abbrev B5 : Obj := .inr (0, [(0, .ref 6), (1, .int 0)])
abbrev B6 : Obj := .inl (.byte, caL.map Value.int)
abbrev asB (A : Nat → Addr) (tl : List Addr) : List Addr := A 0 :: A 1 :: A 2 :: A 3 :: A 4 :: A 5 :: A 6 :: tl
abbrev gB (tl : List Obj) : List Obj := B0 :: B1 :: B2 :: B3 :: B4 :: B5 :: B6 :: tl
abbrev gS (cs : Int32) : List (Nat × Value) := [(2, .int cs), (4, .ref 0), (5, .ref 1), (6, .ref 2)]
theorem own_sta {Z : State} {A : Nat → Addr} {cs : Int32} {h : Heap} (F : StF Z A cs h) (tl : List Addr) (n : Nat) : ∀ q ∈ gS cs, Sta Z h (gK q.1).1 (gK q.1).2.1 (gK q.1).2.2 (rl (rhoL (asB A tl) n) q.2) :=
  List.forall_mem_cons.mpr ⟨F.t0, List.forall_mem_cons.mpr ⟨F.t1, List.forall_mem_cons.mpr ⟨F.t2, List.forall_mem_cons.mpr ⟨F.t3, fun _ h => nomatch h⟩⟩⟩⟩
theorem own_strO {Z : State} {ρ : Rho} {h : Heap} {a v : Addr} {ys : List Int32} {j : Nat} (F : Strg Z h a v ys) (ea : ρ.1 j = v) : ObjOk Z ρ gK gC h a (.inr (0, [(0, .ref j), (1, .int 0)])) := by
  refine ⟨F.1, List.forall_mem_cons.mpr ⟨?_, List.forall_mem_cons.mpr ⟨F.2.1, fun _ h => nomatch h⟩⟩⟩
  show Fld Z h a "java/lang/String" "value" "[B" (.ref (ρ.1 j))
  rw [ea]
  exact F.2.2.1
theorem own_bytO {Z : State} {ρ : Rho} {h : Heap} {a v : Addr} {ys : List Int32} (F : Strg Z h a v ys) : ObjOk Z ρ gK gC h v (.inl (.byte, ys.map Value.int)) := by
  obtain ⟨-, -, -, c, q, r⟩ := F
  refine ObjOk.of_slots q ?_
  rw [r, List.map_map]
  rfl
theorem own_blkO {Z : State} {ρ : Rho} {h : Heap} {a : Addr} {n : Nat} (F : CA Z h a n) : ObjOk Z ρ gK gC h a (.inl (.char, List.replicate n (.float 0))) := by
  obtain ⟨c, q, r⟩ := F
  refine ⟨c, q, by simp [r], fun i v hv hk => ?_⟩
  have e := (List.mem_replicate.mp (List.mem_of_getElem? hv)).2
  rw [e] at hk
  cases hk
theorem own_objs {Z : State} {A : Nat → Addr} {cs : Int32} {h : Heap} (F : StF Z A cs h) {tlA : List Addr} {tlH : List Obj} {n : Nat} (hT : ∀ j o, tlH[j]? = some o → ObjOk Z (rhoL (asB A tlA) n) gK gC h ((rhoL (asB A tlA) n).1 (j + 7)) o) :
    ∀ i o, (gB tlH)[i]? = some o → ObjOk Z (rhoL (asB A tlA) n) gK gC h ((rhoL (asB A tlA) n).1 i) o := by
  intro i o ho
  match i, ho with
  | 0, ho => obtain rfl := Option.some.inj ho; obtain ⟨c, q, r, -⟩ := F.arr; exact ObjOk.of_slots q r
  | 1, ho => obtain rfl := Option.some.inj ho; exact ⟨F.x1, List.forall_mem_cons.mpr ⟨F.f1, fun _ h => nomatch h⟩⟩
  | 2, ho => obtain rfl := Option.some.inj ho; exact ⟨F.x2, List.forall_mem_cons.mpr ⟨F.f2, fun _ h => nomatch h⟩⟩
  | 3, ho => obtain rfl := Option.some.inj ho; exact own_strO F.s3 rfl
  | 4, ho => obtain rfl := Option.some.inj ho; exact own_bytO F.s3
  | 5, ho => obtain rfl := Option.some.inj ho; exact own_strO F.s5 rfl
  | 6, ho => obtain rfl := Option.some.inj ho; exact own_bytO F.s5
  | j + 7, ho => exact hT j o ho
theorem own_ltB {Z : State} {A : Nat → Addr} {cs : Int32} {h : Heap} (F : StF Z A cs h) {tl : List Addr} (hT : ∀ a ∈ tl, a < h.size) : ∀ a ∈ asB A tl, a < h.size :=
  List.forall_mem_cons.mpr ⟨F.exa.lt, List.forall_mem_cons.mpr ⟨F.x1.lt, List.forall_mem_cons.mpr ⟨F.x2.lt, List.forall_mem_cons.mpr ⟨F.s3.1.lt, List.forall_mem_cons.mpr ⟨F.s3.ltv, List.forall_mem_cons.mpr ⟨F.s5.1.lt, List.forall_mem_cons.mpr ⟨F.s5.ltv, hT⟩⟩⟩⟩⟩⟩⟩
/-! ### values(): a clone of $VALUES -/
abbrev rmV : Room := { frames := 1, cells := 1, slots := 2, locals := 14 }
abbrev rho0 : Rho := (fun _ => 0, fun _ => 0)
/-- what values() leaves -/
def QVal (Z : State) (h0 : Heap) (cl : Cell) (ty : FieldType) (v : Option Value) (h : Heap) (L : List Loc) : Prop := v = some (.ref h0.size) ∧ L = [] ∧ Ext h0 h ∧ Arr Z h h0.size (cloneOf cl) ty ∧ h.size = h0.size + 1
theorem valMet {l : Launch} {Z : State} {a0 : Array Value} (hw : ∀ d ∈ tables_1, d.before a0 Z = true) {h0 : Heap} {a : Addr} {cl : Cell} {ty : FieldType} (A : Arr Z h0 a cl ty) (E : Exa Z h0 a "[Lcom/example/ourthe/ourthe/cli/TraceSemantics;") (F : FitC Z cl) (hsz : cl.slots.size ≤ 2) (St : Sta Z h0 "com/example/ourthe/ourthe/cli/TraceSemantics" "$VALUES" "[Lcom/example/ourthe/ourthe/cli/TraceSemantics;" (.ref a)) :
    MetFree l m7.1 (head1 [Cond.code m7.1 m7.2.1 m7.2.2.1 m7.2.2.2.1] rmV) (fun ar U => ar = #[] ∧ Z.Warmed39 U.vm ∧ U.heap = h0) (fun _ _ _ _ _ => True)
      (fun _ U o U' => ∃ v L, o = .returned v ∧ QVal Z h0 cl ty v U'.heap L ∧ FrameEnd U o U' L rmV.cells rmV.slots) := by
  refine MetFree.of_bodySF pl7 hisR ?_
  intro p e s m args below meth c s₁ Bd hml0 hP hK
  obtain ⟨rfl, hZ, hh⟩ := hP
  have hx := Bd.exec
  have hby : c.code = m7.2.1 := Bd.bytes
  have hown : s.vm.findClass m7.1.cls = some m.cls := findClass_of_methodNamed Bd.named
  have X0 : Stand p l e rmV s m #[] below meth c s₁ [] 0 0 := Stand.of_body Bd
  have e0 : s₁.heap = h0 := by rw [← hh, Bd.state]; rfl
  have es : s₁.heap = s.heap := by rw [Bd.state]; rfl
  have hret : meth.sig.returnType = some (.array (.object "com/example/ourthe/ourthe/cli/TraceSemantics")) := Bd.returns
  have d0 : decode c.code 0 = .ok (.getstatic 10, 3) := by rw [hby]; decide +kernel
  have d3 : decode c.code 3 = .ok (.invokevirtual 14, 3) := by rw [hby]; decide +kernel
  have d6 : decode c.code 6 = .ok (.checkcast 15, 3) := by rw [hby]; decide +kernel
  have d9 : decode c.code 9 = .ok (.areturn, 1) := by rw [hby]; decide +kernel
  obtain ⟨T1, X1, e1, st1⟩ := getS (host := "") X0 hx hZ hown (index := 10) (hw (Cond.fieldLink "com/example/ourthe/ourthe/cli/TraceSemantics" 10 "com/example/ourthe/ourthe/cli/TraceSemantics" "$VALUES" "[Lcom/example/ourthe/ourthe/cli/TraceSemantics;") (by decide +kernel)) Via.refl e0 St (g := mkF m 0 #[] []) rfl d0
  obtain ⟨T2, h2, X2, e2, E2, A2, Y2, st2⟩ := cloneA X1 hx hZ hown (ad := "[Lcom/example/ourthe/ourthe/cli/TraceSemantics;") (index := 14) (hw _ (by decide +kernel)) (hw _ (by decide +kernel)) (hw _ (by decide +kernel)) (hw _ (by decide +kernel)) (hw _ (by decide +kernel)) (hw _ (by decide +kernel)) e1 A E F (g := mkF m 3 #[] [.ref a]) rfl (by rw [hml0]; rfl) (rest := []) rfl d3 (by decide) (W := 0) (Nat.le_refl 0) (by decide) (cap := 2) hsz (by decide) (by decide)
  obtain ⟨T3, X3, e3, st3⟩ := castY X2 hx hZ hown (K := "[Lcom/example/ourthe/ourthe/cli/TraceSemantics;") (index := 15) (hw _ (by decide +kernel)) e2 (Ins.self Y2) (g := mkF m 6 #[] [.ref h0.size]) rfl rfl d6
  obtain ⟨fs, hr, hrun, hended, hW, hsame⟩ := X3.leave (v := some (.ref h0.size)) (fun q => by rw [hret] at q; cases q)
  have s9 : Steps p.tables e below (T3.setTop (mkF m 9 #[] [.ref h0.size])) (T3.setFrames fs) := retOut X3 hx hret rfl (Or.inr (Or.inr (Or.inr (Or.inr ⟨rfl, rfl, rfl⟩)))) d9 hr
  have hsz3 : (T3.setFrames fs).heap.size = h0.size + 1 := by
    have q1 : T3.heap.size ≤ s.heap.size + 1 := X3.heapSize
    have q2 : h0.size < h2.size := A2.lt
    have q3 : T3.heap = h2 := e3
    have q4 : s.heap = h0 := hh
    show T3.heap.size = _
    rw [q4] at q1
    rw [q3] at q1 ⊢
    omega
  refine ⟨_, _, castTop (ent_ok rho0 m [] 0) (st1 _ (st2 _ (st3 _ s9))), hrun, hended, _, _, rfl, ⟨rfl, rfl, ?_, ?_, hsz3⟩, ⟨_, rfl⟩, hW, hsame⟩
  · show Ext h0 T3.heap
    rw [e3]; exact E2
  · show Arr Z T3.heap h0.size (cloneOf cl) ty
    rw [e3]; exact A2
/-- the step of values(), by its contract -/
def gV : VT := fun maxL fr lo i a k c f H => match i with
  | .invokestatic _ => (match Nat.beq a 7 && Nat.beq k 0 && Nat.ble 2 fr && Nat.ble (wt f.2.2 + 25) lo && Nat.beq f.2.1.length maxL with
    | true => (match getA H 0 with | some (ty, vs) => some ((f.1 + 3, f.2.1, .ref H.length :: f.2.2), H ++ [.inl (ty, vs)], 2) | none => none)
    | false => none)
  | _ => none
theorem gV_ok {l : Launch} {Z : State} {a0 : Array Value} (hw : ∀ d ∈ tables_1, d.before a0 Z = true) {ρ : Rho} {b : Nat} {n0 : Heap × Nat} {A : Nat → Addr} {cs : Int32} (hρ1 : ∀ i, b ≤ i → ρ.1 i = n0.1.size + (i - b)) (F : StF Z A cs n0.1) (h0 : ρ.1 0 = A 0) : VOk l Z a0 ρ gK gC gM b n0 (gS cs) gP gV := by
  intro p e R s m args below meth c T locs cells slots x pc ls st H H' f' i a k cc maxL fr lo ds v X hx hZ hown hml hfr hlo hwn hsd hd hS h hc hl
  unfold gV at h
  split at h
  · rename_i idx
    split at h
    · rename_i q
      split at h
      · rename_i ty vs qA
        simp only [Option.some.injEq, Prod.mk.injEq] at h
        obtain ⟨rfl, rfl, rfl⟩ := h
        obtain ⟨q, q5⟩ := Bool.and_eq_true_iff.mp q
        obtain ⟨q, q4⟩ := Bool.and_eq_true_iff.mp q
        obtain ⟨q, q3⟩ := Bool.and_eq_true_iff.mp q
        obtain ⟨q1, q2⟩ := Bool.and_eq_true_iff.mp q
        dsimp only at q4 q5
        have ea := Nat.eq_of_beq_eq_true q1
        have ek := Nat.eq_of_beq_eq_true q2
        subst ea ek
        have E := hS.2.2.2.2.1
        obtain ⟨cl, A', e1, e2⟩ := hS.2.2.1 0 _ (getA_inv qA)
        obtain ⟨c0, A0, q0, f0⟩ := F.arr
        have A0' := A0.ext E
        rw [h0] at A'
        cases A'.1.symm.trans A0'.1
        obtain ⟨-, hpl, hcode, hini⟩ := hP hw 7 m7 rfl
        have hM := valMet (l := l) hw A' (F.exa.ext E) f0 (by rw [q0]; exact Nat.le_refl 2) (F.t1.ext E)
        have hK := backOf (p := p) (e := e) (below := below) (s := s) (args := args) (R := R) (len := 3) (W := wt st) (rm := rmV) hM hZ hcode hini (by rw [hfr]; exact Nat.le_of_ble_eq_true q3) (by rw [hlo]; have := Nat.le_of_ble_eq_true q4; show wt st + (0 + 11) + 14 ≤ lo; omega)
        have hw' : ∀ w ∈ [Cond.methodLink x.cls idx m7.1, Cond.static m7.1], w.before a0 Z = true := fun w hm => hwn w hm
        have hsd' : (notMH m7.1.cls && arity m7.1.desc 0) = true := hsd
        obtain ⟨s1, s2⟩ := Bool.and_eq_true_iff.mp hsd'
        have hsize : (ar ρ ls).size = c.maxLocals := by rw [hml]; simpa [ar] using Nat.eq_of_beq_eq_true q5
        obtain ⟨v, vm₁, ⟨T1, L1, k1, n1⟩, -, X', ⟨L, ⟨hv, hL, E1, A1, hsz⟩, g1, g2, g3⟩, st'⟩ := Jvm.LawKit.callS X hx (y := m7.1) hown (mvT hZ (hw' _ (by simp))) (mvT hZ (hw' _ (by simp))) (mvT hZ hini) (mvT hZ hcode) (notMH_ok s1) hK (g := fm ρ m (pc, ls, st)) rfl hsize (argsL := []) (rest := st.map (rl ρ)) (arity_ok s2 rfl) rfl (by show 2 * 0 + _ ≤ _; rw [wt_rl]; omega) hd (fun _ _ => ⟨rfl, rfl, hc, hl⟩)
        dsimp only [Pt.U, Pt.locs, Pt.cells, Pt.slots] at X' g1 g2 g3 st' E1 A1 hsz
        subst g1 g2 g3 hv hL
        rw [List.append_nil] at X'
        refine ⟨T1, X', hS.new hρ1 E1 hsz ⟨_, A1, e1, e2⟩, hsz, fun target hr => st' target ?_⟩
        show Steps p.tables e below (T1.setTop (mkF m (pc + 3) (ar ρ ls) (.ref T.heap.size :: st.map (rl ρ)))) target
        have eρ : ρ.1 H.length = T.heap.size := by rw [hρ1 _ hS.1, ← hS.2.1]
        rw [← eρ]
        exact hr
      · cases h
    · cases h
  · cases h
abbrev N0 : Nat → Nat → Bool := fun _ _ => false
abbrev T0 : Instr → Nat → Int32 → Option Value := fun _ _ _ => none
theorem own_T0 (ρ : Rho) : TbOk ρ T0 := fun t y v => ⟨fun h => by (cases h), fun h => by (cases h), fun h => by (cases h)⟩
abbrev gG (cs : Int32) (b : Nat) (D : Nat → Nat → Bool) : Cx := (gP, b, gS cs, gT, D, N0, T0, gV)
def dP (ps : List (Nat × Nat)) (i j : Nat) : Bool := ps.any fun q => Nat.beq q.1 i && Nat.beq q.2 j
theorem dP_ok {ps : List (Nat × Nat)} {f : Nat → Addr} (h : ∀ q ∈ ps, f q.1 ≠ f q.2) : ∀ i j, dP ps i j = true → f i ≠ f j := fun i j q => by
  obtain ⟨⟨a, b⟩, hm, hq⟩ := List.any_eq_true.mp q
  obtain ⟨q1, q2⟩ := Bool.and_eq_true_iff.mp hq
  have e1 := Nat.eq_of_beq_eq_true q1
  have e2 := Nat.eq_of_beq_eq_true q2
  dsimp only at e1 e2
  subst e1 e2
  exact h _ hm
/-! ### StringLatin1.equals and String.equals, once for all -/
theorem lat_loop {G : Cx} {fr lo p q : Nat} {H : List Obj} {xs ys : List Int32} (hp : getA H p = some (.byte, xs.map Value.int)) (hq : getA H q = some (.byte, ys.map Value.int)) (hl : xs.length = ys.length) (hb : xs.length < 2147483648) :
    ∀ (k i : Nat), i + k = xs.length → (∀ j, j < i → xs[j]? = ys[j]?) → Eng.EW G fr lo m5 (fun r => r = (some (.int (if xs = ys then 1 else 0)), H, 0, 0)) ((9, [.val (.ref p), .val (.ref q), .val (.int (Int32.ofNat i))], []), H, 0, 0)
  | 0, i, hi, heq => by
    have e : xs = ys := List.ext_getElem? fun j => by
      by_cases hj : j < i
      · exact heq j hj
      · rw [List.getElem?_eq_none (by omega), List.getElem?_eq_none (by omega)]
    have e1 : (Int32.ofNat i).toInt = i := len_toInt (n := i) (by omega)
    have e2 : ((xs.map Value.int).length.toInt32).toInt = xs.length := by rw [List.length_map]; exact len_toInt hb
    refine EW.run 2 (cf' := ((11, [.val (.ref p), .val (.ref q), .val (.int (Int32.ofNat i))], [.ref p, .int (Int32.ofNat i)]), H, 0, 0)) rfl ?_
    refine EW.alen rfl hp ?_
    refine EW.icmpP rfl (by decide) (fun h => ?_) (fun h => ?_)
    · show Eng.EW _ _ _ _ _ ((32, [.val (.ref p), .val (.ref q), .val (.int (Int32.ofNat i))], []), H, 0, 0)
      refine EW.run 1 (cf' := ((33, [.val (.ref p), .val (.ref q), .val (.int (Int32.ofNat i))], [.int 1]), H, 0, 0)) rfl ?_
      exact EW.ret (r := (some (.int 1), H, 0, 0)) rfl (by rw [if_pos e])
    · exfalso; simp only [cP] at h; omega
  | k + 1, i, hi, heq => by
    have e1 : (Int32.ofNat i).toInt = i := len_toInt (n := i) (by omega)
    have e2 : ((xs.map Value.int).length.toInt32).toInt = xs.length := by rw [List.length_map]; exact len_toInt hb
    have e3 : (Int32.ofNat i).toNatClampNeg = i := by simp only [Int32.toNatClampNeg, e1]; omega
    have e4 : ¬ (Int32.ofNat i) < 0 := by rw [Int32.lt_iff_toInt_lt, e1]; simp only [Int32.reduceToInt]; omega
    have hix : i < xs.length := by omega
    have hiy : i < ys.length := by omega
    refine EW.run 2 (cf' := ((11, [.val (.ref p), .val (.ref q), .val (.int (Int32.ofNat i))], [.ref p, .int (Int32.ofNat i)]), H, 0, 0)) rfl ?_
    refine EW.alen rfl hp ?_
    refine EW.icmpP rfl (by decide) (fun h => ?_) (fun h => ?_)
    · exfalso; simp only [cP] at h; omega
    · show Eng.EW _ _ _ _ _ ((15, [.val (.ref p), .val (.ref q), .val (.int (Int32.ofNat i))], []), H, 0, 0)
      refine EW.run 2 (cf' := ((17, [.val (.ref p), .val (.ref q), .val (.int (Int32.ofNat i))], [.int (Int32.ofNat i), .ref p]), H, 0, 0)) rfl ?_
      refine EW.bald (v := .int xs[i]) rfl hp e4 (by rw [e3]; simp [hix]) rfl ?_
      refine EW.run 2 (cf' := ((20, [.val (.ref p), .val (.ref q), .val (.int (Int32.ofNat i))], [.int (Int32.ofNat i), .ref q, .int xs[i]]), H, 0, 0)) rfl ?_
      refine EW.bald (v := .int ys[i]) rfl hq e4 (by rw [e3]; simp [hiy]) rfl ?_
      refine EW.icmpP rfl (by decide) (fun h2 => ?_) (fun h2 => ?_)
      · show Eng.EW _ _ _ _ _ ((26, [.val (.ref p), .val (.ref q), .val (.int (Int32.ofNat i))], []), H, 0, 0)
        refine EW.run 2 (cf' := ((9, [.val (.ref p), .val (.ref q), .val (.int (Int32.ofNat i + Int32.ofInt 1))], []), H, 0, 0)) rfl ?_
        have e5 : Int32.ofNat i + Int32.ofInt 1 = Int32.ofNat (i + 1) := by rw [Int32.ofNat_add]; rfl
        rw [e5]
        refine lat_loop hp hq hl hb k (i + 1) (by omega) fun j hj => ?_
        by_cases hj' : j < i
        · exact heq j hj'
        · have ej : j = i := by omega
          subst ej
          rw [List.getElem?_eq_getElem hix, List.getElem?_eq_getElem hiy]
          exact congrArg some (Int32.toInt_inj.mp h2)
      · show Eng.EW _ _ _ _ _ ((24, [.val (.ref p), .val (.ref q), .val (.int (Int32.ofNat i))], []), H, 0, 0)
        have ne : xs ≠ ys := fun z => by
          subst z
          exact h2 rfl
        refine EW.run 1 (cf' := ((25, [.val (.ref p), .val (.ref q), .val (.int (Int32.ofNat i))], [.int 0]), H, 0, 0)) rfl ?_
        exact EW.ret (r := (some (.int 0), H, 0, 0)) rfl (by rw [if_neg ne])
theorem lat {G : Cx} {fr lo p q : Nat} {H : List Obj} {xs ys : List Int32} (hp : getA H p = some (.byte, xs.map Value.int)) (hq : getA H q = some (.byte, ys.map Value.int)) (hx : xs.length < 2147483648) (hy : ys.length < 2147483648) :
    Eng.EW G fr lo m5 (fun r => r = (some (.int (if xs = ys then 1 else 0)), H, 0, 0)) ((0, entL [.ref p, .ref q] 3, []), H, 0, 0) := by
  have e2 : ((xs.map Value.int).length.toInt32).toInt = xs.length := by rw [List.length_map]; exact len_toInt hx
  have e3 : ((ys.map Value.int).length.toInt32).toInt = ys.length := by rw [List.length_map]; exact len_toInt hy
  refine EW.run 1 (cf' := ((1, [.val (.ref p), .val (.ref q), .unset], [.ref p]), H, 0, 0)) rfl ?_
  refine EW.alen rfl hp ?_
  refine EW.run 1 (cf' := ((3, [.val (.ref p), .val (.ref q), .unset], [.ref q, .int (xs.map Value.int).length.toInt32]), H, 0, 0)) rfl ?_
  refine EW.alen rfl hq ?_
  refine EW.icmpP rfl (by decide) (fun h => ?_) (fun h => ?_)
  · show Eng.EW _ _ _ _ _ ((34, [.val (.ref p), .val (.ref q), .unset], []), H, 0, 0)
    have ne : xs ≠ ys := fun z => by
      subst z
      exact h rfl
    refine EW.run 1 (cf' := ((35, [.val (.ref p), .val (.ref q), .unset], [.int 0]), H, 0, 0)) rfl ?_
    exact EW.ret (r := (some (.int 0), H, 0, 0)) rfl (by rw [if_neg ne])
  · show Eng.EW _ _ _ _ _ ((7, [.val (.ref p), .val (.ref q), .unset], []), H, 0, 0)
    refine EW.run 2 (cf' := ((9, [.val (.ref p), .val (.ref q), .val (.int (Int32.ofNat 0))], []), H, 0, 0)) rfl ?_
    refine lat_loop hp hq ?_ hx xs.length 0 (by omega) (fun j hj => absurd hj (by omega))
    simp only [cP] at h
    omega
theorem eqS {cs : Int32} {b : Nat} {D : Nat → Nat → Bool} {fr lo fr' lo' o1 o2 p q : Nat} {H : List Obj} {xs ys : List Int32} (hcs : cs.toInt ≠ 0) (h1 : getO H o1 = some (0, [(0, .ref p), (1, .int 0)])) (h2 : getO H o2 = some (0, [(0, .ref q), (1, .int 0)]))
    (hp : getA H p = some (.byte, xs.map Value.int)) (hq : getA H q = some (.byte, ys.map Value.int)) (hx : xs.length < 2147483648) (hy : ys.length < 2147483648) (hne : o1 ≠ o2) (hD : D o1 o2 = true)
    (hcall : cstep (gG cs b D) fr lo m4 ((44, [.val (.ref o1), .val (.ref o2), .val (.ref o2)], [.ref q, .ref p]), H, 0, 0) = some (3, m5, fr', lo', [.ref p, .ref q], [])) :
    Eng.EW (gG cs b D) fr lo m4 (fun r => r = (some (.int (if xs = ys then 1 else 0)), H, 0, 0)) ((0, entL [.ref o1, .ref o2] 3, []), H, 0, 0) := by
  refine EW.run 2 (cf' := ((2, [.val (.ref o1), .val (.ref o2), .unset], [.ref o2, .ref o1]), H, 0, 0)) rfl ?_
  refine EW.apart rfl (by decide) hne hD ?_
  show Eng.EW _ _ _ _ _ ((7, [.val (.ref o1), .val (.ref o2), .unset], []), H, 0, 0)
  refine EW.run 1 (cf' := ((8, [.val (.ref o1), .val (.ref o2), .unset], [.ref o2]), H, 0, 0)) rfl ?_
  refine EW.inst rfl h2 ?_
  refine EW.run 2 (cf' := ((15, [.val (.ref o1), .val (.ref o2), .unset], [.ref o2]), H, 0, 0)) rfl ?_
  refine EW.cast rfl h2 ?_
  refine EW.run 2 (cf' := ((22, [.val (.ref o1), .val (.ref o2), .val (.ref o2)], [.int cs]), H, 0, 0)) rfl ?_
  refine EW.ifP rfl (by decide) (fun h => ?_) (fun h => ?_)
  · exact absurd h hcs
  show Eng.EW _ _ _ _ _ ((25, [.val (.ref o1), .val (.ref o2), .val (.ref o2)], []), H, 0, 0)
  refine EW.run 1 (cf' := ((26, [.val (.ref o1), .val (.ref o2), .val (.ref o2)], [.ref o1]), H, 0, 0)) rfl ?_
  refine EW.getf (v := .int 0) rfl h1 rfl ?_
  refine EW.run 1 (cf' := ((30, [.val (.ref o1), .val (.ref o2), .val (.ref o2)], [.ref o2, .int 0]), H, 0, 0)) rfl ?_
  refine EW.getf (v := .int 0) rfl h2 rfl ?_
  refine EW.run 2 (cf' := ((37, [.val (.ref o1), .val (.ref o2), .val (.ref o2)], [.ref o1]), H, 0, 0)) rfl ?_
  refine EW.getf (v := .ref p) rfl h1 rfl ?_
  refine EW.run 1 (cf' := ((41, [.val (.ref o1), .val (.ref o2), .val (.ref o2)], [.ref o2, .ref p]), H, 0, 0)) rfl ?_
  refine EW.getf (v := .ref q) rfl h2 rfl ?_
  refine EW.call (Qc := fun r => r = (some (.int (if xs = ys then 1 else 0)), H, 0, 0)) hcall (lat hp hq hx hy) ?_
  rintro _ _ _ _ ⟨⟩
  show Eng.EW _ _ _ _ _ ((47, [.val (.ref o1), .val (.ref o2), .val (.ref o2)], [.int (if xs = ys then 1 else 0)]), H, 0, 0)
  by_cases e : xs = ys
  · simp only [if_pos e]
    refine EW.run 3 (cf' := ((55, [.val (.ref o1), .val (.ref o2), .val (.ref o2)], [.int 1]), H, 0, 0)) rfl ?_
    exact EW.ret (r := (some (.int 1), H, 0, 0)) rfl rfl
  · simp only [if_neg e]
    refine EW.run 2 (cf' := ((55, [.val (.ref o1), .val (.ref o2), .val (.ref o2)], [.int 0]), H, 0, 0)) rfl ?_
    exact EW.ret (r := (some (.int 0), H, 0, 0)) rfl rfl
/-- the same object -/
theorem eqSame {G : Cx} {fr lo o : Nat} {H : List Obj} : Eng.EW G fr lo m4 (fun r => r = (some (.int 1), H, 0, 0)) ((0, entL [.ref o, .ref o] 3, []), H, 0, 0) := by
  refine EW.run 2 (cf' := ((2, [.val (.ref o), .val (.ref o), .unset], [.ref o, .ref o]), H, 0, 0)) rfl ?_
  refine EW.stp (cf' := ((5, [.val (.ref o), .val (.ref o), .unset], []), H, 0, 0)) ?_ ?_
  · have hf : m4.2.2.2.2 2 = some (.if_acmp .ne 5, 0, 0, 0, .null) := rfl
    unfold next
    simp only [hf, pstep, pAcmp, sameR, if_true, acV, br]
    rfl
  refine EW.run 1 (cf' := ((6, [.val (.ref o), .val (.ref o), .unset], [.int 1]), H, 0, 0)) rfl ?_
  exact EW.ret (r := (some (.int 1), H, 0, 0)) rfl rfl

abbrev hB (ys : List Int32) (n1 n2 : Nat) (tl : List Obj) : List Obj := gB (.inr (0, [(0, .ref 8), (1, .int 0)]) :: .inl (.byte, ys.map Value.int) :: .inl (.char, List.replicate n1 (.float 0)) :: .inl (.char, List.replicate n2 (.float 0)) :: tl)
theorem getA_last (H : List Obj) (q : FieldType × List Value) : getA (H ++ [.inl q]) H.length = some q := by
  unfold getA
  rw [List.getElem?_append_right (Nat.le_refl _), Nat.sub_self]
  rfl
/-- named(s): the constant of that name, or null -/
theorem named_ok {cs : Int32} {b : Nat} {D : Nat → Nat → Bool} {ys : List Int32} {n1 n2 : Nat} {tl : List Obj} (hcs : cs.toInt ≠ 0) (hy : ys.length < 2147483648) (hD3 : D 3 7 = true) (hD5 : D 5 7 = true) :
    Eng.EW (gG cs b D) 7 175 m6 (fun r => r = (some (if ys = stL then .ref 1 else if ys = caL then .ref 2 else .null), hB ys n1 n2 tl ++ [B0], 1, 2)) ((0, entL [.ref 7] 6, []), hB ys n1 n2 tl, 0, 0) := by
  have hA := getA_last (hB ys n1 n2 tl) (.object "com/example/ourthe/ourthe/cli/TraceSemantics", [.ref 1, .ref 2])
  have hne : stL ≠ caL := by decide
  refine EW.run 5 (cf' := ((7, [.val (.ref 7), .val .null, .val (.ref (hB ys n1 n2 tl).length), .unset, .unset, .unset], [.ref (hB ys n1 n2 tl).length]), (hB ys n1 n2 tl ++ [B0]), 1, 2)) rfl ?_
  refine EW.alen rfl hA ?_
  refine EW.run 6 (cf' := ((18, [.val (.ref 7), .val .null, .val (.ref (hB ys n1 n2 tl).length), .val (.int 2), .val (.int 0), .unset], []), (hB ys n1 n2 tl ++ [B0]), 1, 2)) rfl ?_
  refine EW.run 2 (cf' := ((21, [.val (.ref 7), .val .null, .val (.ref (hB ys n1 n2 tl).length), .val (.int 2), .val (.int 0), .unset], [.int 0, .ref (hB ys n1 n2 tl).length]), (hB ys n1 n2 tl ++ [B0]), 1, 2)) rfl ?_
  refine EW.aald (v := .ref 1) rfl hA rfl (by decide) rfl rfl ?_
  refine EW.run 2 (cf' := ((26, [.val (.ref 7), .val .null, .val (.ref (hB ys n1 n2 tl).length), .val (.int 2), .val (.int 0), .val (.ref 1)], [.ref 1]), (hB ys n1 n2 tl ++ [B0]), 1, 2)) rfl ?_
  refine EW.getf (C := 2) (fs := [(3, .ref 3)]) (v := .ref 3) rfl rfl rfl ?_
  refine EW.run 1 (cf' := ((30, [.val (.ref 7), .val .null, .val (.ref (hB ys n1 n2 tl).length), .val (.int 2), .val (.int 0), .val (.ref 1)], [.ref 7, .ref 3]), (hB ys n1 n2 tl ++ [B0]), 1, 2)) rfl ?_
  refine EW.call (Qc := fun r => r = (some (.int (if stL = ys then 1 else 0)), (hB ys n1 n2 tl ++ [B0]), 0, 0)) rfl ?_ ?_
  · exact eqS (o1 := 3) (o2 := 7) (p := 4) (q := 8) (fr' := 5) (lo' := 147) hcs rfl rfl rfl rfl (by decide) hy (by decide) hD3 rfl
  rintro _ _ _ _ ⟨⟩
  show Eng.EW _ _ _ _ _ ((33, [.val (.ref 7), .val .null, .val (.ref (hB ys n1 n2 tl).length), .val (.int 2), .val (.int 0), .val (.ref 1)], [.int (if stL = ys then 1 else 0)]), (hB ys n1 n2 tl ++ [B0]), 1, 2)
  by_cases e1 : stL = ys
  · simp only [if_pos e1]
    refine EW.run 8 (cf' := ((18, [.val (.ref 7), .val (.ref 1), .val (.ref (hB ys n1 n2 tl).length), .val (.int 2), .val (.int 1), .val (.ref 1)], []), (hB ys n1 n2 tl ++ [B0]), 1, 2)) rfl ?_
    refine EW.run 2 (cf' := ((21, [.val (.ref 7), .val (.ref 1), .val (.ref (hB ys n1 n2 tl).length), .val (.int 2), .val (.int 1), .val (.ref 1)], [.int 1, .ref (hB ys n1 n2 tl).length]), (hB ys n1 n2 tl ++ [B0]), 1, 2)) rfl ?_
    refine EW.aald (v := .ref 2) rfl hA rfl (by decide) rfl rfl ?_
    refine EW.run 2 (cf' := ((26, [.val (.ref 7), .val (.ref 1), .val (.ref (hB ys n1 n2 tl).length), .val (.int 2), .val (.int 1), .val (.ref 2)], [.ref 2]), (hB ys n1 n2 tl ++ [B0]), 1, 2)) rfl ?_
    refine EW.getf (C := 3) (fs := [(3, .ref 5)]) (v := .ref 5) rfl rfl rfl ?_
    refine EW.run 1 (cf' := ((30, [.val (.ref 7), .val (.ref 1), .val (.ref (hB ys n1 n2 tl).length), .val (.int 2), .val (.int 1), .val (.ref 2)], [.ref 7, .ref 5]), (hB ys n1 n2 tl ++ [B0]), 1, 2)) rfl ?_
    refine EW.call (Qc := fun r => r = (some (.int (if caL = ys then 1 else 0)), (hB ys n1 n2 tl ++ [B0]), 0, 0)) rfl ?_ ?_
    · exact eqS (o1 := 5) (o2 := 7) (p := 6) (q := 8) (fr' := 5) (lo' := 147) hcs rfl rfl rfl rfl (by decide) hy (by decide) hD5 rfl
    rintro _ _ _ _ ⟨⟩
    show Eng.EW _ _ _ _ _ ((33, [.val (.ref 7), .val (.ref 1), .val (.ref (hB ys n1 n2 tl).length), .val (.int 2), .val (.int 1), .val (.ref 2)], [.int (if caL = ys then 1 else 0)]), (hB ys n1 n2 tl ++ [B0]), 1, 2)
    have e2 : ¬ caL = ys := fun z => hne (e1.trans z.symm)
    simp only [if_neg e2]
    refine EW.run 7 (cf' := ((46, [.val (.ref 7), .val (.ref 1), .val (.ref (hB ys n1 n2 tl).length), .val (.int 2), .val (.int 2), .val (.ref 2)], [.ref 1]), (hB ys n1 n2 tl ++ [B0]), 1, 2)) rfl ?_
    exact EW.ret (r := (some (.ref 1), (hB ys n1 n2 tl ++ [B0]), 1, 2)) rfl (by rw [if_pos e1.symm])
  · simp only [if_neg e1]
    refine EW.run 6 (cf' := ((18, [.val (.ref 7), .val .null, .val (.ref (hB ys n1 n2 tl).length), .val (.int 2), .val (.int 1), .val (.ref 1)], []), (hB ys n1 n2 tl ++ [B0]), 1, 2)) rfl ?_
    refine EW.run 2 (cf' := ((21, [.val (.ref 7), .val .null, .val (.ref (hB ys n1 n2 tl).length), .val (.int 2), .val (.int 1), .val (.ref 1)], [.int 1, .ref (hB ys n1 n2 tl).length]), (hB ys n1 n2 tl ++ [B0]), 1, 2)) rfl ?_
    refine EW.aald (v := .ref 2) rfl hA rfl (by decide) rfl rfl ?_
    refine EW.run 2 (cf' := ((26, [.val (.ref 7), .val .null, .val (.ref (hB ys n1 n2 tl).length), .val (.int 2), .val (.int 1), .val (.ref 2)], [.ref 2]), (hB ys n1 n2 tl ++ [B0]), 1, 2)) rfl ?_
    refine EW.getf (C := 3) (fs := [(3, .ref 5)]) (v := .ref 5) rfl rfl rfl ?_
    refine EW.run 1 (cf' := ((30, [.val (.ref 7), .val .null, .val (.ref (hB ys n1 n2 tl).length), .val (.int 2), .val (.int 1), .val (.ref 2)], [.ref 7, .ref 5]), (hB ys n1 n2 tl ++ [B0]), 1, 2)) rfl ?_
    refine EW.call (Qc := fun r => r = (some (.int (if caL = ys then 1 else 0)), (hB ys n1 n2 tl ++ [B0]), 0, 0)) rfl ?_ ?_
    · exact eqS (o1 := 5) (o2 := 7) (p := 6) (q := 8) (fr' := 5) (lo' := 147) hcs rfl rfl rfl rfl (by decide) hy (by decide) hD5 rfl
    rintro _ _ _ _ ⟨⟩
    show Eng.EW _ _ _ _ _ ((33, [.val (.ref 7), .val .null, .val (.ref (hB ys n1 n2 tl).length), .val (.int 2), .val (.int 1), .val (.ref 2)], [.int (if caL = ys then 1 else 0)]), (hB ys n1 n2 tl ++ [B0]), 1, 2)
    have e1' : ¬ ys = stL := fun z => e1 z.symm
    by_cases e2 : caL = ys
    · simp only [if_pos e2]
      refine EW.run 9 (cf' := ((46, [.val (.ref 7), .val (.ref 2), .val (.ref (hB ys n1 n2 tl).length), .val (.int 2), .val (.int 2), .val (.ref 2)], [.ref 2]), (hB ys n1 n2 tl ++ [B0]), 1, 2)) rfl ?_
      exact EW.ret (r := (some (.ref 2), (hB ys n1 n2 tl ++ [B0]), 1, 2)) rfl (by rw [if_neg e1', if_pos e2.symm])
    · simp only [if_neg e2]
      have e2' : ¬ ys = caL := fun z => e2 z.symm
      refine EW.run 7 (cf' := ((46, [.val (.ref 7), .val .null, .val (.ref (hB ys n1 n2 tl).length), .val (.int 2), .val (.int 2), .val (.ref 2)], [.null]), (hB ys n1 n2 tl ++ [B0]), 1, 2)) rfl ?_
      exact EW.ret (r := (some .null, (hB ys n1 n2 tl ++ [B0]), 1, 2)) rfl (by rw [if_neg e1', if_neg e2'])
theorem tS1 {cs : Int32} {bb : Nat} {D : Nat → Nat → Bool} {n1 n2 : Nat} (hcs : cs.toInt ≠ 0) (hD3 : D 3 7 = true) (hD5 : D 5 7 = true) (a b c md nn : Int32) (d : Int64) (hDl : D 7 11 = true) : ES (gG cs bb D) false 8 192 mL (fun r => r = ((277, [.val (.int a), .val (.int b), .val (.int c), .val (.long d), .second, .val (.int md), .val (.ref 9), .val (.ref 10), .val (.int nn), .val (.ref 7), .val (.ref 1)], [.int 1]), ((hB stL n1 n2 [.inr (0, [(0, .ref 12), (1, .int 0)]), .inl (.byte, stL.map Value.int)]) ++ [B0]), 13, 226)) ((227, [.val (.int a), .val (.int b), .val (.int c), .val (.long d), .second, .val (.int md), .val (.ref 9), .val (.ref 10), .val (.int nn), .val (.ref 7), .unset], [.ref 11, .ref 7]), (hB stL n1 n2 [.inr (0, [(0, .ref 12), (1, .int 0)]), .inl (.byte, stL.map Value.int)]), 12, 224) := by
  refine ES.call (Qc := fun r => r = (some (.int (if stL = stL then 1 else 0)), (hB stL n1 n2 [.inr (0, [(0, .ref 12), (1, .int 0)]), .inl (.byte, stL.map Value.int)]), 0, 0)) rfl ?_ ?_
  · exact eqS (o1 := 7) (o2 := 11) (p := 8) (q := 12) (fr' := 6) (lo' := 164) hcs rfl rfl rfl rfl (by decide) (by decide) (by decide) hDl rfl
  rintro _ _ _ _ ⟨⟩
  show ES _ _ _ _ _ _ ((230, [.val (.int a), .val (.int b), .val (.int c), .val (.long d), .second, .val (.int md), .val (.ref 9), .val (.ref 10), .val (.int nn), .val (.ref 7), .unset], [.int (if stL = stL then 1 else 0)]), (hB stL n1 n2 [.inr (0, [(0, .ref 12), (1, .int 0)]), .inl (.byte, stL.map Value.int)]), 12, 224)
  rw [if_pos (Eq.refl stL)]
  refine ES.runF 4 (cf' := ((262, [.val (.int a), .val (.int b), .val (.int c), .val (.long d), .second, .val (.int md), .val (.ref 9), .val (.ref 10), .val (.int nn), .val (.ref 7), .val (.ref 1)], []), (hB stL n1 n2 [.inr (0, [(0, .ref 12), (1, .int 0)]), .inl (.byte, stL.map Value.int)]), 12, 224)) rfl ?_
  refine ES.runF 1 (cf' := ((264, [.val (.int a), .val (.int b), .val (.int c), .val (.long d), .second, .val (.int md), .val (.ref 9), .val (.ref 10), .val (.int nn), .val (.ref 7), .val (.ref 1)], [.ref 7]), (hB stL n1 n2 [.inr (0, [(0, .ref 12), (1, .int 0)]), .inl (.byte, stL.map Value.int)]), 12, 224)) rfl ?_
  refine ES.call (Qc := fun r => r = (some (if stL = stL then .ref 1 else if stL = caL then .ref 2 else .null), (hB stL n1 n2 [.inr (0, [(0, .ref 12), (1, .int 0)]), .inl (.byte, stL.map Value.int)]) ++ [B0], 1, 2)) rfl ?_ ?_
  · exact named_ok hcs (by decide) hD3 hD5
  rintro _ _ _ _ ⟨⟩
  show ES _ _ _ _ _ _ ((267, [.val (.int a), .val (.int b), .val (.int c), .val (.long d), .second, .val (.int md), .val (.ref 9), .val (.ref 10), .val (.int nn), .val (.ref 7), .val (.ref 1)], [(if stL = stL then .ref 1 else if stL = caL then .ref 2 else .null)]), ((hB stL n1 n2 [.inr (0, [(0, .ref 12), (1, .int 0)]), .inl (.byte, stL.map Value.int)]) ++ [B0]), 13, 226)
  rw [if_pos (Eq.refl stL)]
  refine ES.runF 4 (cf' := ((277, [.val (.int a), .val (.int b), .val (.int c), .val (.long d), .second, .val (.int md), .val (.ref 9), .val (.ref 10), .val (.int nn), .val (.ref 7), .val (.ref 1)], [.int 1]), ((hB stL n1 n2 [.inr (0, [(0, .ref 12), (1, .int 0)]), .inl (.byte, stL.map Value.int)]) ++ [B0]), 13, 226)) rfl ?_
  exact ES.stop rfl
theorem tS2 {cs : Int32} {bb : Nat} {D : Nat → Nat → Bool} {n1 n2 : Nat} (hcs : cs.toInt ≠ 0) (hD3 : D 3 7 = true) (hD5 : D 5 7 = true) (a b c md nn : Int32) (d : Int64)  : ES (gG cs bb D) false 8 192 mL (fun r => r = ((277, [.val (.int a), .val (.int b), .val (.int c), .val (.long d), .second, .val (.int md), .val (.ref 9), .val (.ref 10), .val (.int nn), .val (.ref 7), .val (.ref 1)], [.int 1]), ((hB stL n1 n2 []) ++ [B0]), 13, 226)) ((227, [.val (.int a), .val (.int b), .val (.int c), .val (.long d), .second, .val (.int md), .val (.ref 9), .val (.ref 10), .val (.int nn), .val (.ref 7), .unset], [.ref 7, .ref 7]), (hB stL n1 n2 []), 12, 224) := by
  refine ES.call (Qc := fun r => r = (some (.int 1), (hB stL n1 n2 []), 0, 0)) rfl ?_ ?_
  · exact eqSame
  rintro _ _ _ _ ⟨⟩
  show ES _ _ _ _ _ _ ((230, [.val (.int a), .val (.int b), .val (.int c), .val (.long d), .second, .val (.int md), .val (.ref 9), .val (.ref 10), .val (.int nn), .val (.ref 7), .unset], [.int 1]), (hB stL n1 n2 []), 12, 224)
  refine ES.runF 4 (cf' := ((262, [.val (.int a), .val (.int b), .val (.int c), .val (.long d), .second, .val (.int md), .val (.ref 9), .val (.ref 10), .val (.int nn), .val (.ref 7), .val (.ref 1)], []), (hB stL n1 n2 []), 12, 224)) rfl ?_
  refine ES.runF 1 (cf' := ((264, [.val (.int a), .val (.int b), .val (.int c), .val (.long d), .second, .val (.int md), .val (.ref 9), .val (.ref 10), .val (.int nn), .val (.ref 7), .val (.ref 1)], [.ref 7]), (hB stL n1 n2 []), 12, 224)) rfl ?_
  refine ES.call (Qc := fun r => r = (some (if stL = stL then .ref 1 else if stL = caL then .ref 2 else .null), (hB stL n1 n2 []) ++ [B0], 1, 2)) rfl ?_ ?_
  · exact named_ok hcs (by decide) hD3 hD5
  rintro _ _ _ _ ⟨⟩
  show ES _ _ _ _ _ _ ((267, [.val (.int a), .val (.int b), .val (.int c), .val (.long d), .second, .val (.int md), .val (.ref 9), .val (.ref 10), .val (.int nn), .val (.ref 7), .val (.ref 1)], [(if stL = stL then .ref 1 else if stL = caL then .ref 2 else .null)]), ((hB stL n1 n2 []) ++ [B0]), 13, 226)
  rw [if_pos (Eq.refl stL)]
  refine ES.runF 4 (cf' := ((277, [.val (.int a), .val (.int b), .val (.int c), .val (.long d), .second, .val (.int md), .val (.ref 9), .val (.ref 10), .val (.int nn), .val (.ref 7), .val (.ref 1)], [.int 1]), ((hB stL n1 n2 []) ++ [B0]), 13, 226)) rfl ?_
  exact ES.stop rfl
theorem tS3 {cs : Int32} {bb : Nat} {D : Nat → Nat → Bool} {n1 n2 : Nat} (hcs : cs.toInt ≠ 0) (hD3 : D 3 7 = true) (hD5 : D 5 7 = true) (a b c md nn : Int32) (d : Int64) {ys : List Int32} (hy : ys.length < 2147483648) (hn : ¬ ys = stL) (hDl : D 7 11 = true) : ES (gG cs bb D) false 8 192 mL (fun r => r = ((243, [.val (.int a), .val (.int b), .val (.int c), .val (.long d), .second, .val (.int md), .val (.ref 9), .val (.ref 10), .val (.int nn), .val (.ref 7), .unset], [.ref 7]), (hB ys n1 n2 [.inr (0, [(0, .ref 12), (1, .int 0)]), .inl (.byte, stL.map Value.int)]), 12, 224)) ((227, [.val (.int a), .val (.int b), .val (.int c), .val (.long d), .second, .val (.int md), .val (.ref 9), .val (.ref 10), .val (.int nn), .val (.ref 7), .unset], [.ref 11, .ref 7]), (hB ys n1 n2 [.inr (0, [(0, .ref 12), (1, .int 0)]), .inl (.byte, stL.map Value.int)]), 12, 224) := by
  refine ES.call (Qc := fun r => r = (some (.int (if ys = stL then 1 else 0)), (hB ys n1 n2 [.inr (0, [(0, .ref 12), (1, .int 0)]), .inl (.byte, stL.map Value.int)]), 0, 0)) rfl ?_ ?_
  · exact eqS (o1 := 7) (o2 := 11) (p := 8) (q := 12) (fr' := 6) (lo' := 164) hcs rfl rfl rfl rfl hy (by decide) (by decide) hDl rfl
  rintro _ _ _ _ ⟨⟩
  show ES _ _ _ _ _ _ ((230, [.val (.int a), .val (.int b), .val (.int c), .val (.long d), .second, .val (.int md), .val (.ref 9), .val (.ref 10), .val (.int nn), .val (.ref 7), .unset], [.int (if ys = stL then 1 else 0)]), (hB ys n1 n2 [.inr (0, [(0, .ref 12), (1, .int 0)]), .inl (.byte, stL.map Value.int)]), 12, 224)
  rw [if_neg hn]
  refine ES.runF 2 (cf' := ((243, [.val (.int a), .val (.int b), .val (.int c), .val (.long d), .second, .val (.int md), .val (.ref 9), .val (.ref 10), .val (.int nn), .val (.ref 7), .unset], [.ref 7]), (hB ys n1 n2 [.inr (0, [(0, .ref 12), (1, .int 0)]), .inl (.byte, stL.map Value.int)]), 12, 224)) rfl ?_
  exact ES.stop rfl
theorem tC1 {cs : Int32} {bb : Nat} {D : Nat → Nat → Bool} {n1 n2 : Nat} (hcs : cs.toInt ≠ 0) (hD3 : D 3 7 = true) (hD5 : D 5 7 = true) (a b c md nn : Int32) (d : Int64) (hDl : D 7 13 = true) : ES (gG cs bb D) false 8 192 mL (fun r => r = ((277, [.val (.int a), .val (.int b), .val (.int c), .val (.long d), .second, .val (.int md), .val (.ref 9), .val (.ref 10), .val (.int nn), .val (.ref 7), .val (.ref 2)], [.int 1]), ((hB caL n1 n2 [.inr (0, [(0, .ref 12), (1, .int 0)]), .inl (.byte, stL.map Value.int), .inr (0, [(0, .ref 14), (1, .int 0)]), .inl (.byte, caL.map Value.int)]) ++ [B0]), 15, 254)) ((245, [.val (.int a), .val (.int b), .val (.int c), .val (.long d), .second, .val (.int md), .val (.ref 9), .val (.ref 10), .val (.int nn), .val (.ref 7), .unset], [.ref 13, .ref 7]), (hB caL n1 n2 [.inr (0, [(0, .ref 12), (1, .int 0)]), .inl (.byte, stL.map Value.int), .inr (0, [(0, .ref 14), (1, .int 0)]), .inl (.byte, caL.map Value.int)]), 14, 252) := by
  refine ES.call (Qc := fun r => r = (some (.int (if caL = caL then 1 else 0)), (hB caL n1 n2 [.inr (0, [(0, .ref 12), (1, .int 0)]), .inl (.byte, stL.map Value.int), .inr (0, [(0, .ref 14), (1, .int 0)]), .inl (.byte, caL.map Value.int)]), 0, 0)) rfl ?_ ?_
  · exact eqS (o1 := 7) (o2 := 13) (p := 8) (q := 14) (fr' := 6) (lo' := 164) hcs rfl rfl rfl rfl (by decide) (by decide) (by decide) hDl rfl
  rintro _ _ _ _ ⟨⟩
  show ES _ _ _ _ _ _ ((248, [.val (.int a), .val (.int b), .val (.int c), .val (.long d), .second, .val (.int md), .val (.ref 9), .val (.ref 10), .val (.int nn), .val (.ref 7), .unset], [.int (if caL = caL then 1 else 0)]), (hB caL n1 n2 [.inr (0, [(0, .ref 12), (1, .int 0)]), .inl (.byte, stL.map Value.int), .inr (0, [(0, .ref 14), (1, .int 0)]), .inl (.byte, caL.map Value.int)]), 14, 252)
  rw [if_pos (Eq.refl caL)]
  refine ES.runF 4 (cf' := ((262, [.val (.int a), .val (.int b), .val (.int c), .val (.long d), .second, .val (.int md), .val (.ref 9), .val (.ref 10), .val (.int nn), .val (.ref 7), .val (.ref 2)], []), (hB caL n1 n2 [.inr (0, [(0, .ref 12), (1, .int 0)]), .inl (.byte, stL.map Value.int), .inr (0, [(0, .ref 14), (1, .int 0)]), .inl (.byte, caL.map Value.int)]), 14, 252)) rfl ?_
  have hq : ¬ caL = stL := by decide
  refine ES.runF 1 (cf' := ((264, [.val (.int a), .val (.int b), .val (.int c), .val (.long d), .second, .val (.int md), .val (.ref 9), .val (.ref 10), .val (.int nn), .val (.ref 7), .val (.ref 2)], [.ref 7]), (hB caL n1 n2 [.inr (0, [(0, .ref 12), (1, .int 0)]), .inl (.byte, stL.map Value.int), .inr (0, [(0, .ref 14), (1, .int 0)]), .inl (.byte, caL.map Value.int)]), 14, 252)) rfl ?_
  refine ES.call (Qc := fun r => r = (some (if caL = stL then .ref 1 else if caL = caL then .ref 2 else .null), (hB caL n1 n2 [.inr (0, [(0, .ref 12), (1, .int 0)]), .inl (.byte, stL.map Value.int), .inr (0, [(0, .ref 14), (1, .int 0)]), .inl (.byte, caL.map Value.int)]) ++ [B0], 1, 2)) rfl ?_ ?_
  · exact named_ok hcs (by decide) hD3 hD5
  rintro _ _ _ _ ⟨⟩
  show ES _ _ _ _ _ _ ((267, [.val (.int a), .val (.int b), .val (.int c), .val (.long d), .second, .val (.int md), .val (.ref 9), .val (.ref 10), .val (.int nn), .val (.ref 7), .val (.ref 2)], [(if caL = stL then .ref 1 else if caL = caL then .ref 2 else .null)]), ((hB caL n1 n2 [.inr (0, [(0, .ref 12), (1, .int 0)]), .inl (.byte, stL.map Value.int), .inr (0, [(0, .ref 14), (1, .int 0)]), .inl (.byte, caL.map Value.int)]) ++ [B0]), 15, 254)
  rw [if_neg hq, if_pos (Eq.refl caL)]
  refine ES.runF 4 (cf' := ((277, [.val (.int a), .val (.int b), .val (.int c), .val (.long d), .second, .val (.int md), .val (.ref 9), .val (.ref 10), .val (.int nn), .val (.ref 7), .val (.ref 2)], [.int 1]), ((hB caL n1 n2 [.inr (0, [(0, .ref 12), (1, .int 0)]), .inl (.byte, stL.map Value.int), .inr (0, [(0, .ref 14), (1, .int 0)]), .inl (.byte, caL.map Value.int)]) ++ [B0]), 15, 254)) rfl ?_
  exact ES.stop rfl
theorem tC2 {cs : Int32} {bb : Nat} {D : Nat → Nat → Bool} {n1 n2 : Nat} (hcs : cs.toInt ≠ 0) (hD3 : D 3 7 = true) (hD5 : D 5 7 = true) (a b c md nn : Int32) (d : Int64)  : ES (gG cs bb D) false 8 192 mL (fun r => r = ((277, [.val (.int a), .val (.int b), .val (.int c), .val (.long d), .second, .val (.int md), .val (.ref 9), .val (.ref 10), .val (.int nn), .val (.ref 7), .val (.ref 2)], [.int 1]), ((hB caL n1 n2 [.inr (0, [(0, .ref 12), (1, .int 0)]), .inl (.byte, stL.map Value.int)]) ++ [B0]), 15, 254)) ((245, [.val (.int a), .val (.int b), .val (.int c), .val (.long d), .second, .val (.int md), .val (.ref 9), .val (.ref 10), .val (.int nn), .val (.ref 7), .unset], [.ref 7, .ref 7]), (hB caL n1 n2 [.inr (0, [(0, .ref 12), (1, .int 0)]), .inl (.byte, stL.map Value.int)]), 14, 252) := by
  refine ES.call (Qc := fun r => r = (some (.int 1), (hB caL n1 n2 [.inr (0, [(0, .ref 12), (1, .int 0)]), .inl (.byte, stL.map Value.int)]), 0, 0)) rfl ?_ ?_
  · exact eqSame
  rintro _ _ _ _ ⟨⟩
  show ES _ _ _ _ _ _ ((248, [.val (.int a), .val (.int b), .val (.int c), .val (.long d), .second, .val (.int md), .val (.ref 9), .val (.ref 10), .val (.int nn), .val (.ref 7), .unset], [.int 1]), (hB caL n1 n2 [.inr (0, [(0, .ref 12), (1, .int 0)]), .inl (.byte, stL.map Value.int)]), 14, 252)
  refine ES.runF 4 (cf' := ((262, [.val (.int a), .val (.int b), .val (.int c), .val (.long d), .second, .val (.int md), .val (.ref 9), .val (.ref 10), .val (.int nn), .val (.ref 7), .val (.ref 2)], []), (hB caL n1 n2 [.inr (0, [(0, .ref 12), (1, .int 0)]), .inl (.byte, stL.map Value.int)]), 14, 252)) rfl ?_
  have hq : ¬ caL = stL := by decide
  refine ES.runF 1 (cf' := ((264, [.val (.int a), .val (.int b), .val (.int c), .val (.long d), .second, .val (.int md), .val (.ref 9), .val (.ref 10), .val (.int nn), .val (.ref 7), .val (.ref 2)], [.ref 7]), (hB caL n1 n2 [.inr (0, [(0, .ref 12), (1, .int 0)]), .inl (.byte, stL.map Value.int)]), 14, 252)) rfl ?_
  refine ES.call (Qc := fun r => r = (some (if caL = stL then .ref 1 else if caL = caL then .ref 2 else .null), (hB caL n1 n2 [.inr (0, [(0, .ref 12), (1, .int 0)]), .inl (.byte, stL.map Value.int)]) ++ [B0], 1, 2)) rfl ?_ ?_
  · exact named_ok hcs (by decide) hD3 hD5
  rintro _ _ _ _ ⟨⟩
  show ES _ _ _ _ _ _ ((267, [.val (.int a), .val (.int b), .val (.int c), .val (.long d), .second, .val (.int md), .val (.ref 9), .val (.ref 10), .val (.int nn), .val (.ref 7), .val (.ref 2)], [(if caL = stL then .ref 1 else if caL = caL then .ref 2 else .null)]), ((hB caL n1 n2 [.inr (0, [(0, .ref 12), (1, .int 0)]), .inl (.byte, stL.map Value.int)]) ++ [B0]), 15, 254)
  rw [if_neg hq, if_pos (Eq.refl caL)]
  refine ES.runF 4 (cf' := ((277, [.val (.int a), .val (.int b), .val (.int c), .val (.long d), .second, .val (.int md), .val (.ref 9), .val (.ref 10), .val (.int nn), .val (.ref 7), .val (.ref 2)], [.int 1]), ((hB caL n1 n2 [.inr (0, [(0, .ref 12), (1, .int 0)]), .inl (.byte, stL.map Value.int)]) ++ [B0]), 15, 254)) rfl ?_
  exact ES.stop rfl
theorem tC3 {cs : Int32} {bb : Nat} {D : Nat → Nat → Bool} {n1 n2 : Nat} (hcs : cs.toInt ≠ 0) (hD3 : D 3 7 = true) (hD5 : D 5 7 = true) (a b c md nn : Int32) (d : Int64) {ys : List Int32} (hy : ys.length < 2147483648) (hn : ¬ ys = stL) (hn2 : ¬ ys = caL) (hDl : D 7 13 = true) : ES (gG cs bb D) false 8 192 mL (fun r => r = ((277, [.val (.int a), .val (.int b), .val (.int c), .val (.long d), .second, .val (.int md), .val (.ref 9), .val (.ref 10), .val (.int nn), .val (.ref 7), .val .null], [.int 1]), ((hB ys n1 n2 [.inr (0, [(0, .ref 12), (1, .int 0)]), .inl (.byte, stL.map Value.int), .inr (0, [(0, .ref 14), (1, .int 0)]), .inl (.byte, caL.map Value.int)]) ++ [B0]), 15, 254)) ((245, [.val (.int a), .val (.int b), .val (.int c), .val (.long d), .second, .val (.int md), .val (.ref 9), .val (.ref 10), .val (.int nn), .val (.ref 7), .unset], [.ref 13, .ref 7]), (hB ys n1 n2 [.inr (0, [(0, .ref 12), (1, .int 0)]), .inl (.byte, stL.map Value.int), .inr (0, [(0, .ref 14), (1, .int 0)]), .inl (.byte, caL.map Value.int)]), 14, 252) := by
  refine ES.call (Qc := fun r => r = (some (.int (if ys = caL then 1 else 0)), (hB ys n1 n2 [.inr (0, [(0, .ref 12), (1, .int 0)]), .inl (.byte, stL.map Value.int), .inr (0, [(0, .ref 14), (1, .int 0)]), .inl (.byte, caL.map Value.int)]), 0, 0)) rfl ?_ ?_
  · exact eqS (o1 := 7) (o2 := 13) (p := 8) (q := 14) (fr' := 6) (lo' := 164) hcs rfl rfl rfl rfl hy (by decide) (by decide) hDl rfl
  rintro _ _ _ _ ⟨⟩
  show ES _ _ _ _ _ _ ((248, [.val (.int a), .val (.int b), .val (.int c), .val (.long d), .second, .val (.int md), .val (.ref 9), .val (.ref 10), .val (.int nn), .val (.ref 7), .unset], [.int (if ys = caL then 1 else 0)]), (hB ys n1 n2 [.inr (0, [(0, .ref 12), (1, .int 0)]), .inl (.byte, stL.map Value.int), .inr (0, [(0, .ref 14), (1, .int 0)]), .inl (.byte, caL.map Value.int)]), 14, 252)
  rw [if_neg hn2]
  refine ES.runF 3 (cf' := ((262, [.val (.int a), .val (.int b), .val (.int c), .val (.long d), .second, .val (.int md), .val (.ref 9), .val (.ref 10), .val (.int nn), .val (.ref 7), .val .null], []), (hB ys n1 n2 [.inr (0, [(0, .ref 12), (1, .int 0)]), .inl (.byte, stL.map Value.int), .inr (0, [(0, .ref 14), (1, .int 0)]), .inl (.byte, caL.map Value.int)]), 14, 252)) rfl ?_
  refine ES.runF 1 (cf' := ((264, [.val (.int a), .val (.int b), .val (.int c), .val (.long d), .second, .val (.int md), .val (.ref 9), .val (.ref 10), .val (.int nn), .val (.ref 7), .val .null], [.ref 7]), (hB ys n1 n2 [.inr (0, [(0, .ref 12), (1, .int 0)]), .inl (.byte, stL.map Value.int), .inr (0, [(0, .ref 14), (1, .int 0)]), .inl (.byte, caL.map Value.int)]), 14, 252)) rfl ?_
  refine ES.call (Qc := fun r => r = (some (if ys = stL then .ref 1 else if ys = caL then .ref 2 else .null), (hB ys n1 n2 [.inr (0, [(0, .ref 12), (1, .int 0)]), .inl (.byte, stL.map Value.int), .inr (0, [(0, .ref 14), (1, .int 0)]), .inl (.byte, caL.map Value.int)]) ++ [B0], 1, 2)) rfl ?_ ?_
  · exact named_ok hcs hy hD3 hD5
  rintro _ _ _ _ ⟨⟩
  show ES _ _ _ _ _ _ ((267, [.val (.int a), .val (.int b), .val (.int c), .val (.long d), .second, .val (.int md), .val (.ref 9), .val (.ref 10), .val (.int nn), .val (.ref 7), .val .null], [(if ys = stL then .ref 1 else if ys = caL then .ref 2 else .null)]), ((hB ys n1 n2 [.inr (0, [(0, .ref 12), (1, .int 0)]), .inl (.byte, stL.map Value.int), .inr (0, [(0, .ref 14), (1, .int 0)]), .inl (.byte, caL.map Value.int)]) ++ [B0]), 15, 254)
  rw [if_neg hn, if_neg hn2]
  refine ES.runF 4 (cf' := ((277, [.val (.int a), .val (.int b), .val (.int c), .val (.long d), .second, .val (.int md), .val (.ref 9), .val (.ref 10), .val (.int nn), .val (.ref 7), .val .null], [.int 1]), ((hB ys n1 n2 [.inr (0, [(0, .ref 12), (1, .int 0)]), .inl (.byte, stL.map Value.int), .inr (0, [(0, .ref 14), (1, .int 0)]), .inl (.byte, caL.map Value.int)]) ++ [B0]), 15, 254)) rfl ?_
  exact ES.stop rfl
/-! ### the law behind its String: two constants, equals, named -/
abbrev own_L (a b c : Int32) (d : Int64) (md : Int32) (r1 r2 : Addr) (nn : Int32) (sa : Addr) : Array Slot := #[.val (.int a), .val (.int b), .val (.int c), .val (.long d), .second, .val (.int md), .val (.ref r1), .val (.ref r2), .val (.int nn), .val (.ref sa), .unset]
theorem own_atoms : ∀ d ∈ Bundle.stringAtoms, d ∈ tables_1 := by
  have h : Bundle.stringAtoms.all (fun d => decide (d ∈ tables_1)) = true := by decide +kernel
  exact fun d hd => of_decide_eq_true (List.all_eq_true.mp h d hd)
abbrev asT (A : Nat → Addr) (sa sv r1 r2 : Addr) (tl : List Addr) : List Addr := asB A (sa :: sv :: r1 :: r2 :: tl)
theorem own_simT {Z : State} {A : Nat → Addr} {cs : Int32} {h : Heap} {sa sv r1 r2 : Addr} {n1 n2 k : Nat} {ys : List Int32} (F : StF Z A cs h) (SS : Strg Z h sa sv ys) (C1 : CA Z h r1 n1) (C2 : CA Z h r2 n2) (hk : k ≤ h.size) {tlA : List Addr} {tlH : List Obj} (len : tlH.length = tlA.length)
    (hT : ∀ j o, tlH[j]? = some o → ObjOk Z (rhoL (asT A sa sv r1 r2 tlA) h.size) gK gC h ((rhoL (asT A sa sv r1 r2 tlA) h.size).1 (j + 11)) o) :
    Sim Z (rhoL (asT A sa sv r1 r2 tlA) h.size) gK gC (asT A sa sv r1 r2 tlA).length (h, k) (gS cs) (hB ys n1 n2 tlH) h := by
  refine simL (by simp [len]) hk (own_objs F fun j o ho => ?_) (own_sta F _ _)
  match j, ho with
  | 0, ho => obtain rfl := Option.some.inj ho; exact own_strO SS rfl
  | 1, ho => obtain rfl := Option.some.inj ho; exact own_bytO SS
  | 2, ho => obtain rfl := Option.some.inj ho; exact own_blkO C1
  | 3, ho => obtain rfl := Option.some.inj ho; exact own_blkO C2
  | j + 4, ho => exact hT j o ho
theorem own_ltT {Z : State} {A : Nat → Addr} {cs : Int32} {h : Heap} {sa sv r1 r2 : Addr} {n1 n2 : Nat} {ys : List Int32} (F : StF Z A cs h) (SS : Strg Z h sa sv ys) (C1 : CA Z h r1 n1) (C2 : CA Z h r2 n2) {tl : List Addr} (hT : ∀ a ∈ tl, a < h.size) : ∀ a ∈ asT A sa sv r1 r2 tl, a < h.size :=
  own_ltB F (List.forall_mem_cons.mpr ⟨SS.1.lt, List.forall_mem_cons.mpr ⟨SS.ltv, List.forall_mem_cons.mpr ⟨C1.lt, List.forall_mem_cons.mpr ⟨C2.lt, hT⟩⟩⟩⟩)
theorem own_lit2 {Z : State} {ρ : Rho} {h : Heap} {la lb : Addr} {zs : List Int32} {k : Nat} (SL : Strg Z h la lb zs) (e0 : ρ.1 k = la) (e1 : ρ.1 (k + 1) = lb) : ObjOk Z ρ gK gC h (ρ.1 k) (.inr (0, [(0, .ref (k + 1)), (1, .int 0)])) ∧ ObjOk Z ρ gK gC h (ρ.1 (k + 1)) (.inl (.byte, zs.map Value.int)) :=
  ⟨by rw [e0]; exact own_strO SL e1, by rw [e1]; exact own_bytO SL⟩
section Tail
variable {p : Program} {l : Launch} {e : Env} {s : State} {m : MethodId} {args : Array Value} {below : List Frame} {meth : Method} {c : Code} {Z : State} {a0 : Array Value}
/-- what the law's frame ends in -/
def Ends (p : Program) (l : Launch) (e : Env) (s : State) (m : MethodId) (args : Array Value) (below : List Frame) (meth : Method) (c : Code) (T : State) (g : JFrame) : Prop :=
  ∃ (vm1 : Vm) (k1 : Nat) (T' : State) (locs' : List Loc), Stand p l e room_1 (s.setVm vm1) m args below meth c T' locs' 32 3264 ∧ s.Since vm1 k1 ∧ k1 ≤ T'.heap.size ∧ Fr s.heap.size locs' ∧
    ∀ fs, (∀ (f : JFrame) (acts : List Action), f.method = m → f.locked = none → f.entered = [] → (doReturn e (T'.setTop f) acts (some (.int 1))).1 = T'.setFrames fs) → Steps p.tables e below (T.setTop g) (T'.setFrames fs)
theorem Ends.of {T T1 : State} {g g1 : JFrame} (st : ∀ target, Steps p.tables e below (T1.setTop g1) target → Steps p.tables e below (T.setTop g) target) (h : Ends p l e s m args below meth c T1 g1) : Ends p l e s m args below meth c T g := by
  obtain ⟨vm1, k1, T', L, h1, h2, h3, h4, h5⟩ := h
  exact ⟨vm1, k1, T', L, h1, h2, h3, h4, fun fs q => st _ (h5 fs q)⟩
/-- a segment of the law's frame that comes to its ireturn with 1 -/
theorem own_fin (hw : ∀ d ∈ tables_1, d.before a0 Z = true) {cs : Int32} {A : Nat → Addr} {vm0 : Vm} {k0 : Nat} {T : State} {locs : List Loc} {as : List Addr} {D : Nat → Nat → Bool} {cf cf' : Cfg}
    (X : Stand p l e room_1 (s.setVm vm0) m args below meth c T locs cf.2.2.1 cf.2.2.2) (hSi : s.Since vm0 k0) (hk0 : k0 ≤ T.heap.size) (hx : p.tables.exec = Jvm.exec) (hZ : Z.Warmed39 vm0) (hown : vm0.findClass x.cls = some m.cls) (hnm : meth.name = x.name) (hby : c.code = code) (hml : c.maxLocals = maxLocals) (hret : meth.sig.returnType = ret)
    (N : Fr s.heap.size locs) (F : StF Z A cs T.heap) (e0 : (rhoL as T.heap.size).1 0 = A 0) (hlt : ∀ a ∈ as, a < T.heap.size) (hD : ∀ i j, D i j = true → (rhoL as T.heap.size).1 i ≠ (rhoL as T.heap.size).1 j)
    (hS : Sim Z (rhoL as T.heap.size) gK gC as.length (T.heap, s.heap.size) (gS cs) cf.2.1 T.heap) (hCT : ∀ C F, gT C = some F → ClsOk Z a0 gK gC C F)
    (hgo : ES (gG cs as.length D) false 8 192 mL (fun r => r = cf') cf) (hc : cf'.2.2.1 ≤ 32) (hs : cf'.2.2.2 ≤ 3264) (hpc : cf'.1.1 = 277) (hst : cf'.1.2.2 = [.int 1]) :
    Ends p l e s m args below meth c T (fm (rhoL as T.heap.size) m cf.1) := by
  obtain ⟨cf1, hgo, hq⟩ := hgo
  have hq' : cf1 = cf' := hq
  rw [hq'] at hgo
  obtain ⟨T', L', X', N', hS', hgr, -, st⟩ := go_ok (l := l) (s := s.setVm vm0) (ρ := rhoL as T.heap.size) (b := as.length) (n0 := (T.heap, s.heap.size)) (P := gP) (S := gS cs) (CT := gT) (D := D) (NI := N0) (TB := T0) (V := gV) (K := gK) (CN := gC) (MN := gM) (M := mL) (rhoL_hi (as := as)) (rhoL_lo (as := as) hlt) hD hCT (fun C k h => by cases h) (hP hw) (own_T0 _) (gV_ok (A := A) hw (rhoL_hi (as := as)) F e0) (good_of hw cL rfl) hx hZ hown hnm hby hml rfl rfl hgo hc hs X N hS (fun h => by cases h)
  obtain ⟨⟨pc, ls, stk⟩, H, ce, sl⟩ := cf'
  dsimp only at hpc hst X' st hc hs
  subst hpc hst
  refine ⟨vm0, k0, T', L', X'.mono hc hs, hSi, Nat.le_trans hk0 hgr, N', fun fs hl => st _ ?_⟩
  have hd : decode c.code 277 = .ok (.ireturn, 1) := by rw [hby]; decide +kernel
  exact retN X' hx (t := .boolean) hret (by simp) hd hl
theorem own_tail (hw : ∀ d ∈ tables_1, d.before a0 Z = true) (hCT : ∀ C F, gT C = some F → ClsOk Z a0 gK gC C F) (hEL : Jvm.RoadKit.EW Z a0 consts_1) {cs : Int32} (hcs : cs.toInt ≠ 0) {A : Nat → Addr} {vm0 : Vm} {k0 : Nat} {T : State} {locs : List Loc}
    (X : Stand p l e room_1 (s.setVm vm0) m args below meth c T locs 10 200) (hSi : s.Since vm0 k0) (hk0 : k0 ≤ T.heap.size) (hx : p.tables.exec = Jvm.exec) (hZ : Z.Warmed39 vm0) (hown : vm0.findClass x.cls = some m.cls) (hnm : meth.name = x.name) (hby : c.code = code) (hml : c.maxLocals = maxLocals) (hret : meth.sig.returnType = ret)
    (N : Fr s.heap.size locs) (hs0 : s.heap.size ≤ T.heap.size) (F : StF Z A cs T.heap) (hA3 : A 3 < s.heap.size) (hA5 : A 5 < s.heap.size) (hH : CHv Z consts_1 vm0 T.heap)
    {sa sv r1 r2 : Addr} {n1 n2 : Nat} {ys : List Int32} (SS : Strg Z T.heap sa sv ys) (hsa : s.heap.size ≤ sa) (C1 : CA Z T.heap r1 n1) (C2 : CA Z T.heap r2 n2) (hlen : ys.length < 2147483648) (a b cc md nn : Int32) (d : Int64) :
    Ends p l e s m args below meth c T (mkF m 225 (own_L a b cc d md r1 r2 nn sa) [.ref sa]) := by
  have d225 : decode c.code 225 = .ok (.ldc 18, 2) := by rw [hby]; decide +kernel
  have d243 : decode c.code 243 = .ok (.ldc 32, 2) := by rw [hby]; decide +kernel
  have ne3 : A 3 ≠ sa := fun z => absurd (z ▸ hA3) (Nat.not_lt.mpr hsa)
  have ne5 : A 5 ≠ sa := fun z => absurd (z ▸ hA5) (Nat.not_lt.mpr hsa)
  obtain ⟨la, T1, h1, k1, lb, kk, X1, e1, E1, hSi1, hk1, hZ1, hown1, Ex, Fc, Fv, Av, -, -, hC1, -, -, st1⟩ := ldcCH X hx hZ hown (text := "steps") (index := 18) (own := x.cls) (hw _ (by decide +kernel)) (fun q hq => hw q (own_atoms q hq)) rfl hSi hk0 hEL (by decide +kernel) hH (vs := stL.map Value.int) (z := 5) ⟨by decide +kernel, by decide +kernel⟩ (by decide) (by decide) (g := mkF m 225 (own_L a b cc d md r1 r2 nn sa) [.ref sa]) rfl d225 (n := 20) (by decide +kernel) (by decide) (by decide) (by decide)
  subst e1
  have SL : Strg Z T1.heap la lb stL := ⟨Ex, Fc, Fv, own_arv Av (by decide)⟩
  have F1 := F.ext E1
  have SS1 := SS.ext E1
  have C11 := C1.ext E1
  have C21 := C2.ext E1
  have hs1 : s.heap.size ≤ T1.heap.size := Nat.le_trans hs0 E1.1
  refine Ends.of st1 ?_
  by_cases hys : ys = stL
  · subst hys
    by_cases hla : la = sa
    · subst hla
      have hS := own_simT F1 SS1 C11 C21 hs1 (tlA := []) (tlH := []) rfl (fun j o h => by cases h)
      exact own_fin hw (as := asT A la sv r1 r2 []) (D := dP [(3, 7), (5, 7)]) (cf := ((227, [.val (.int a), .val (.int b), .val (.int cc), .val (.long d), .second, .val (.int md), .val (.ref 9), .val (.ref 10), .val (.int nn), .val (.ref 7), .unset], [.ref 7, .ref 7]), hB stL n1 n2 [], 12, 224)) X1 hSi1 hk1 hx hZ1 hown1 hnm hby hml hret N F1 rfl (own_ltT F1 SS1 C11 C21 (fun a h => by cases h)) (dP_ok (List.forall_mem_cons.mpr ⟨ne3, List.forall_mem_cons.mpr ⟨ne5, fun _ h => nomatch h⟩⟩)) hS hCT (tS2 (D := dP [(3, 7), (5, 7)]) hcs rfl rfl a b cc md nn d) (by show 13 ≤ 32; decide) (by show 226 ≤ 3264; decide) rfl rfl
    · have hS := own_simT F1 SS1 C11 C21 hs1 (tlA := [la, lb]) (tlH := [.inr (0, [(0, .ref 12), (1, .int 0)]), .inl (.byte, stL.map Value.int)]) rfl (fun j o h => by
        match j, h with
        | 0, h => obtain rfl := Option.some.inj h; exact own_strO SL rfl
        | 1, h => obtain rfl := Option.some.inj h; exact own_bytO SL
        | j + 2, h => cases h)
      exact own_fin hw (as := asT A sa sv r1 r2 [la, lb]) (D := dP [(3, 7), (5, 7), (7, 11)]) (cf := ((227, [.val (.int a), .val (.int b), .val (.int cc), .val (.long d), .second, .val (.int md), .val (.ref 9), .val (.ref 10), .val (.int nn), .val (.ref 7), .unset], [.ref 11, .ref 7]), hB stL n1 n2 [.inr (0, [(0, .ref 12), (1, .int 0)]), .inl (.byte, stL.map Value.int)], 12, 224)) X1 hSi1 hk1 hx hZ1 hown1 hnm hby hml hret N F1 rfl (own_ltT F1 SS1 C11 C21 (List.forall_mem_cons.mpr ⟨SL.1.lt, List.forall_mem_cons.mpr ⟨SL.ltv, fun _ h => nomatch h⟩⟩)) (dP_ok (List.forall_mem_cons.mpr ⟨ne3, List.forall_mem_cons.mpr ⟨ne5, List.forall_mem_cons.mpr ⟨fun z => hla z.symm, fun _ h => nomatch h⟩⟩⟩)) hS hCT (tS1 (D := dP [(3, 7), (5, 7), (7, 11)]) hcs rfl rfl a b cc md nn d rfl) (by show 13 ≤ 32; decide) (by show 226 ≤ 3264; decide) rfl rfl
  · have hla : sa ≠ la := fun z => by subst z; exact hys (SS1.one SL)
    have hS := own_simT F1 SS1 C11 C21 hs1 (tlA := [la, lb]) (tlH := [.inr (0, [(0, .ref 12), (1, .int 0)]), .inl (.byte, stL.map Value.int)]) rfl (fun j o h => by
      match j, h with
      | 0, h => obtain rfl := Option.some.inj h; exact own_strO SL rfl
      | 1, h => obtain rfl := Option.some.inj h; exact own_bytO SL
      | j + 2, h => cases h)
    have hlt := own_ltT F1 SS1 C11 C21 (tl := [la, lb]) (List.forall_mem_cons.mpr ⟨SL.1.lt, List.forall_mem_cons.mpr ⟨SL.ltv, fun _ h => nomatch h⟩⟩)
    obtain ⟨cf1, hgo, rfl⟩ := tS3 (cs := cs) (bb := (asT A sa sv r1 r2 [la, lb]).length) (D := dP [(3, 7), (5, 7), (7, 11)]) (n1 := n1) (n2 := n2) hcs rfl rfl a b cc md nn d hlen hys rfl
    obtain ⟨T2, L2, X2, N2, hS2, hgr2, -, st2⟩ := go_ok (l := l) (R := room_1) (s := s.setVm T1.vm) (ρ := rhoL (asT A sa sv r1 r2 [la, lb]) T1.heap.size) (b := (asT A sa sv r1 r2 [la, lb]).length) (n0 := (T1.heap, s.heap.size)) (P := gP) (S := gS cs) (CT := gT) (D := dP [(3, 7), (5, 7), (7, 11)]) (NI := N0) (TB := T0) (V := gV) (K := gK) (CN := gC) (MN := gM) (M := mL) (rhoL_hi (as := asT A sa sv r1 r2 [la, lb])) (rhoL_lo (as := asT A sa sv r1 r2 [la, lb]) hlt) (dP_ok (List.forall_mem_cons.mpr ⟨ne3, List.forall_mem_cons.mpr ⟨ne5, List.forall_mem_cons.mpr ⟨hla, fun _ h => nomatch h⟩⟩⟩)) hCT (fun C k h => by cases h) (hP hw) (own_T0 _) (gV_ok (A := A) hw (rhoL_hi (as := asT A sa sv r1 r2 [la, lb])) F1 rfl) (good_of hw cL rfl) hx hZ1 hown1 hnm hby hml rfl rfl hgo (Nat.le_of_ble_eq_true rfl) (Nat.le_of_ble_eq_true rfl) X1 N hS (fun h => nomatch h)
    have E2 := hS2.2.2.2.2.1
    dsimp only at E2 X2 st2
    refine Ends.of st2 ?_
    obtain ⟨ma, T3, h3, k3, mb, kk3, X3, e3, E3, hSi3, hk3, hZ3, hown3, Ex3, Fc3, Fv3, Av3, -, -, -, -, -, st3⟩ := ldcCH X2 hx hZ1 hown1 (text := "causal") (index := 32) (own := x.cls) (hw _ (by decide +kernel)) (fun q hq => hw q (own_atoms q hq)) rfl hSi1 (Nat.le_trans hk1 hgr2) hEL (by decide +kernel) (hC1.1.ext E2) (vs := caL.map Value.int) (z := 6) ⟨by decide +kernel, by decide +kernel⟩ (by decide) (by decide) (g := mkF m 243 (own_L a b cc d md r1 r2 nn sa) [.ref sa]) rfl d243 (n := 24) (by decide +kernel) (by decide) (by decide) (by decide)
    subst e3
    have SC : Strg Z T3.heap ma mb caL := ⟨Ex3, Fc3, Fv3, own_arv Av3 (by decide)⟩
    have F3 := (F1.ext E2).ext E3
    have SS3 := (SS1.ext E2).ext E3
    have SL3 := (SL.ext E2).ext E3
    have C13 := (C11.ext E2).ext E3
    have C23 := (C21.ext E2).ext E3
    have hs3 : s.heap.size ≤ T3.heap.size := Nat.le_trans hs1 (Nat.le_trans E2.1 E3.1)
    refine Ends.of st3 ?_
    by_cases hyc : ys = caL
    · subst hyc
      by_cases hma : ma = sa
      · subst hma
        have hS := own_simT F3 SS3 C13 C23 hs3 (tlA := [la, lb]) (tlH := [.inr (0, [(0, .ref 12), (1, .int 0)]), .inl (.byte, stL.map Value.int)]) rfl (fun j o h => by
          match j, h with
          | 0, h => obtain rfl := Option.some.inj h; exact own_strO SL3 rfl
          | 1, h => obtain rfl := Option.some.inj h; exact own_bytO SL3
          | j + 2, h => cases h)
        exact own_fin hw (as := asT A ma sv r1 r2 [la, lb]) (D := dP [(3, 7), (5, 7)]) (cf := ((245, [.val (.int a), .val (.int b), .val (.int cc), .val (.long d), .second, .val (.int md), .val (.ref 9), .val (.ref 10), .val (.int nn), .val (.ref 7), .unset], [.ref 7, .ref 7]), hB caL n1 n2 [.inr (0, [(0, .ref 12), (1, .int 0)]), .inl (.byte, stL.map Value.int)], 14, 252)) X3 hSi3 hk3 hx hZ3 hown3 hnm hby hml hret N2 F3 rfl (own_ltT F3 SS3 C13 C23 (List.forall_mem_cons.mpr ⟨SL3.1.lt, List.forall_mem_cons.mpr ⟨SL3.ltv, fun _ h => nomatch h⟩⟩)) (dP_ok (List.forall_mem_cons.mpr ⟨ne3, List.forall_mem_cons.mpr ⟨ne5, fun _ h => nomatch h⟩⟩)) hS hCT (tC2 (D := dP [(3, 7), (5, 7)]) hcs rfl rfl a b cc md nn d) (by show 15 ≤ 32; decide) (by show 254 ≤ 3264; decide) rfl rfl
      · have hS := own_simT F3 SS3 C13 C23 hs3 (tlA := [la, lb, ma, mb]) (tlH := [.inr (0, [(0, .ref 12), (1, .int 0)]), .inl (.byte, stL.map Value.int), .inr (0, [(0, .ref 14), (1, .int 0)]), .inl (.byte, caL.map Value.int)]) rfl (fun j o h => by
          match j, h with
          | 0, h => obtain rfl := Option.some.inj h; exact own_strO SL3 rfl
          | 1, h => obtain rfl := Option.some.inj h; exact own_bytO SL3
          | 2, h => obtain rfl := Option.some.inj h; exact own_strO SC rfl
          | 3, h => obtain rfl := Option.some.inj h; exact own_bytO SC
          | j + 4, h => cases h)
        exact own_fin hw (as := asT A sa sv r1 r2 [la, lb, ma, mb]) (D := dP [(3, 7), (5, 7), (7, 13)]) (cf := ((245, [.val (.int a), .val (.int b), .val (.int cc), .val (.long d), .second, .val (.int md), .val (.ref 9), .val (.ref 10), .val (.int nn), .val (.ref 7), .unset], [.ref 13, .ref 7]), hB caL n1 n2 [.inr (0, [(0, .ref 12), (1, .int 0)]), .inl (.byte, stL.map Value.int), .inr (0, [(0, .ref 14), (1, .int 0)]), .inl (.byte, caL.map Value.int)], 14, 252)) X3 hSi3 hk3 hx hZ3 hown3 hnm hby hml hret N2 F3 rfl (own_ltT F3 SS3 C13 C23 (List.forall_mem_cons.mpr ⟨SL3.1.lt, List.forall_mem_cons.mpr ⟨SL3.ltv, List.forall_mem_cons.mpr ⟨SC.1.lt, List.forall_mem_cons.mpr ⟨SC.ltv, fun _ h => nomatch h⟩⟩⟩⟩)) (dP_ok (List.forall_mem_cons.mpr ⟨ne3, List.forall_mem_cons.mpr ⟨ne5, List.forall_mem_cons.mpr ⟨fun z => hma z.symm, fun _ h => nomatch h⟩⟩⟩)) hS hCT (tC1 (D := dP [(3, 7), (5, 7), (7, 13)]) hcs rfl rfl a b cc md nn d rfl) (by show 15 ≤ 32; decide) (by show 254 ≤ 3264; decide) rfl rfl
    · have hma : sa ≠ ma := fun z => by subst z; exact hyc (SS3.one SC)
      have hS := own_simT F3 SS3 C13 C23 hs3 (tlA := [la, lb, ma, mb]) (tlH := [.inr (0, [(0, .ref 12), (1, .int 0)]), .inl (.byte, stL.map Value.int), .inr (0, [(0, .ref 14), (1, .int 0)]), .inl (.byte, caL.map Value.int)]) rfl (fun j o h => by
        match j, h with
        | 0, h => obtain rfl := Option.some.inj h; exact own_strO SL3 rfl
        | 1, h => obtain rfl := Option.some.inj h; exact own_bytO SL3
        | 2, h => obtain rfl := Option.some.inj h; exact own_strO SC rfl
        | 3, h => obtain rfl := Option.some.inj h; exact own_bytO SC
        | j + 4, h => cases h)
      exact own_fin hw (as := asT A sa sv r1 r2 [la, lb, ma, mb]) (D := dP [(3, 7), (5, 7), (7, 13)]) (cf := ((245, [.val (.int a), .val (.int b), .val (.int cc), .val (.long d), .second, .val (.int md), .val (.ref 9), .val (.ref 10), .val (.int nn), .val (.ref 7), .unset], [.ref 13, .ref 7]), hB ys n1 n2 [.inr (0, [(0, .ref 12), (1, .int 0)]), .inl (.byte, stL.map Value.int), .inr (0, [(0, .ref 14), (1, .int 0)]), .inl (.byte, caL.map Value.int)], 14, 252)) X3 hSi3 hk3 hx hZ3 hown3 hnm hby hml hret N2 F3 rfl (own_ltT F3 SS3 C13 C23 (List.forall_mem_cons.mpr ⟨SL3.1.lt, List.forall_mem_cons.mpr ⟨SL3.ltv, List.forall_mem_cons.mpr ⟨SC.1.lt, List.forall_mem_cons.mpr ⟨SC.ltv, fun _ h => nomatch h⟩⟩⟩⟩)) (dP_ok (List.forall_mem_cons.mpr ⟨ne3, List.forall_mem_cons.mpr ⟨ne5, List.forall_mem_cons.mpr ⟨hma, fun _ h => nomatch h⟩⟩⟩)) hS hCT (tC3 (D := dP [(3, 7), (5, 7), (7, 13)]) hcs rfl rfl a b cc md nn d hlen hys hyc rfl) (by show 15 ≤ 32; decide) (by show 254 ≤ 3264; decide) rfl rfl
end Tail

/-! ### new String(new char[0]): its constructor loads "" twice -/
abbrev V0 : VT := fun _ _ _ _ _ _ _ _ _ => none
theorem own_V0 {l : Launch} {Z : State} {a0 : Array Value} {ρ : Rho} {b : Nat} {n0 : Heap × Nat} {S : List (Nat × Value)} : VOk l Z a0 ρ gK gC gM b n0 S gP V0 := by
  intro p e R s m args below meth c T locs cells slots x pc ls st H H' f' i a k cc maxL fr lo ds v X hx hZ hown hml hfr hlo hwn hsd hd hS h hc hl
  cases h
abbrev gG0 (b : Nat) : Cx := (gP, b, [], gT, N0, N0, T0, V0)
theorem own_safe {Z : State} {EL : List (String × Nat)} {vm : Vm} {h : Heap} {o : Addr} (hal : Z.vm.Alike vm) (E : Exa Z h o "java/lang/String") (V : Fld Z h o "java/lang/String" "value" "[B" .null) : Safe Z EL vm h o := fun B => by
  obtain ⟨p, -, u, a, -, q, -, F, rfl | rfl⟩ := B
  · obtain ⟨cS, ⟨⟨s1, -, -, ⟨c1, k1, i1, f1, -⟩, -, -, -, v1, -⟩, -⟩, -⟩ := F
    obtain ⟨cell, cf, k, i, f, g1, g2, -, -, -, -, g7⟩ := V
    obtain ⟨k3, e3, -⟩ := State.fieldFound?_setVm (s := Z) hal g2
    have e4 := (show (Wst Z vm h).fieldFound? "java/lang/String" "value" "[B" = _ from e3).symm.trans f1
    simp only [Option.some.injEq, Prod.mk.injEq] at e4
    have ec : cell = q.sC := Option.some.inj (g1.symm.trans s1)
    rw [ec, e4.2.2.2, v1] at g7
    cases g7
  · obtain ⟨cell, k, e1, e2, e3, -, -⟩ := E
    cases (show h[q.sd]? = some q.SA from F.hd).symm.trans e1
    obtain ⟨cS, -, -, f, -⟩ := F
    have f' : vm.findClass "[B" = some q.SA.cls := f
    rw [hal.findClass] at f'
    obtain ⟨k1, q1, q2⟩ := Vm.findClass_spec f'
    obtain ⟨k2, q3, q4⟩ := Vm.findClass_spec e2
    cases q1.symm.trans q3
    exact absurd (q2.symm.trans q4) (by decide)
/-- what the constructor leaves: the String o is empty; whatever else stood stands -/
def QI (Z : State) (h0 : Heap) (o : Addr) (kF : Nat) (v : Option Value) (h : Heap) (L : List Loc) : Prop :=
  v = none ∧ Fr kF L ∧ (∃ b, Strg Z h o b []) ∧ h0.size ≤ h.size ∧ ∀ (y : Addr) (cl : Cell), y ≠ o → h0[y]? = some cl → h[y]? = some cl
abbrev rmI4 : Room := { frames := 1, cells := 4, slots := 8, locals := 12 }
abbrev rmI2 : Room := { frames := 2, cells := 4, slots := 8, locals := 29 }
abbrev rmC : Room := { frames := 3, cells := 6, slots := 12, locals := 43 }
abbrev hI : List Obj := [.inr (0, [(0, .null), (1, .int 0)]), .inl (.char, List.replicate 0 (.float 0))]
theorem own_simI {Z : State} {h : Heap} {o r : Addr} {k : Nat} (E : Exa Z h o "java/lang/String") (V : Fld Z h o "java/lang/String" "value" "[B" .null) (Cd : Fld Z h o "java/lang/String" "coder" "B" (.int 0)) (C1 : CA Z h r 0) (hk : k ≤ h.size) : Sim Z (rhoL [o, r] h.size) gK gC 2 (h, k) [] hI h :=
  simL (as := [o, r]) rfl hk (fun i ob ho => by
    match i, ho with
    | 0, ho => obtain rfl := Option.some.inj ho; exact ⟨E, List.forall_mem_cons.mpr ⟨V, List.forall_mem_cons.mpr ⟨Cd, fun _ h => nomatch h⟩⟩⟩
    | 1, ho => obtain rfl := Option.some.inj ho; exact own_blkO C1
    | j + 2, ho => cases ho) (fun _ h => nomatch h)
theorem i4_go : ES (gG0 2) false 1 12 m3 (fun r => r = ((9, [.val (.ref 0), .val (.ref 1), .val (.int 0), .val (.int 0), .val .null, .unset], [.ref 0]), hI, 0, 0)) ((0, entL [.ref 0, .ref 1, .int 0, .int 0, .null] 6, []), hI, 0, 0) := by
  refine ES.runF 5 (cf' := ((9, [.val (.ref 0), .val (.ref 1), .val (.int 0), .val (.int 0), .val .null, .unset], [.ref 0]), hI, 0, 0)) rfl ?_
  exact ES.stop rfl
theorem own_ltI {Z : State} {h : Heap} {o r : Addr} (E : Exa Z h o "java/lang/String") (C1 : CA Z h r 0) : ∀ a ∈ [o, r], a < h.size := List.forall_mem_cons.mpr ⟨E.lt, List.forall_mem_cons.mpr ⟨C1.lt, fun _ h => nomatch h⟩⟩
theorem own_pV : parseFieldDescriptor "[B" = some (.array .byte) := by decide +kernel
theorem own_pC : parseFieldDescriptor "B" = some .byte := by decide +kernel
set_option maxHeartbeats 4000000 in
theorem i4Met {l : Launch} {Z : State} {a0 : Array Value} (hw : ∀ d ∈ tables_1, d.before a0 Z = true) (hCT : ∀ C F, gT C = some F → ClsOk Z a0 gK gC C F) (hEL : Jvm.RoadKit.EW Z a0 consts_1) {h0 : Heap} {o r : Addr} {kF : Nat} (E : Exa Z h0 o "java/lang/String") (V : Fld Z h0 o "java/lang/String" "value" "[B" .null) (Cd : Fld Z h0 o "java/lang/String" "coder" "B" (.int 0)) (C1 : CA Z h0 r 0) (hkF : kF ≤ o) :
    MetFree l m3.1 (head1 [Cond.code m3.1 m3.2.1 m3.2.2.1 m3.2.2.2.1] rmI4) (fun ar U => ar = #[.ref o, .ref r, .int 0, .int 0, .null] ∧ Z.Warmed39 U.vm ∧ U.heap = h0 ∧ CHv Z consts_1 U.vm h0) (fun _ _ _ _ _ => True)
      (fun _ U ou U' => ∃ v L, ou = .returned v ∧ QI Z h0 o kF v U'.heap L ∧ CHr Z consts_1 U.vm U.heap U'.vm U'.heap ∧ ReturnedEndW U ou U' L rmI4.cells rmI4.slots) := by
  refine MetFree.of_bodySF pl3 hisR ?_
  intro p e s m args below meth c s₁ Bd hml0 hP0 hK
  obtain ⟨rfl, hZ, hh, hH⟩ := hP0
  have hx := Bd.exec
  have hby : c.code = m3.2.1 := Bd.bytes
  have hown0 : s.vm.findClass m3.1.cls = some m.cls := findClass_of_methodNamed Bd.named
  have hnm : meth.name = m3.1.name := (name_of_methodNamed Bd.named Bd.method).1
  have hret : meth.sig.returnType = none := Bd.returns
  have X0 : Stand p l e rmI4 s m #[.ref o, .ref r, .int 0, .int 0, .null] below meth c s₁ [] 0 0 := Stand.of_body Bd
  have e0 : s₁.heap = h0 := by rw [← hh, Bd.state]; rfl
  have X1 : Stand p l e rmI4 (s.setVm s₁.vm) m #[.ref o, .ref r, .int 0, .int 0, .null] below meth c s₁ [] 0 0 := X0.retabled X0.warmed.wide
  have hZ1 : Z.Warmed39 s₁.vm := State.Warmed39.trans (t := s) hZ X0.warmed.wide
  have hown : s₁.vm.findClass m3.1.cls = some m.cls := by rw [X0.warmed.wide.alike.findClass]; exact hown0
  have A0 : CHr Z consts_1 s.vm h0 s₁.vm h0 := CHv.at (vm0 := s.vm) (show Stand p l e rmI4 (s.setVm s.vm) m #[.ref o, .ref r, .int 0, .int 0, .null] below meth c s₁ [] 0 0 from X0) hZ hEL hH
  have d9 : decode c.code 9 = .ok (.ldc 7, 2) := by rw [hby]; decide +kernel
  have d11 : decode c.code 11 = .ok (.getfield 9, 3) := by rw [hby]; decide +kernel
  have d14 : decode c.code 14 = .ok (.putfield 9, 3) := by rw [hby]; decide +kernel
  have d17 : decode c.code 17 = .ok (.aload_n 0, 1) := by rw [hby]; decide +kernel
  have d18 : decode c.code 18 = .ok (.ldc 7, 2) := by rw [hby]; decide +kernel
  have d20 : decode c.code 20 = .ok (.getfield 15, 3) := by rw [hby]; decide +kernel
  have d23 : decode c.code 23 = .ok (.putfield 15, 3) := by rw [hby]; decide +kernel
  have d26 : decode c.code 26 = .ok (.return_, 1) := by rw [hby]; decide +kernel
  have wV : (Cond.laysFinal "java/lang/String" "java/lang/String" "value" "[B").before a0 Z = true := hw _ (by decide +kernel)
  have wC : (Cond.laysFinal "java/lang/String" "java/lang/String" "coder" "B").before a0 Z = true := hw _ (by decide +kernel)
  have wI : (Cond.instantiable "java/lang/String" 4).before a0 Z = true := hw _ (by decide +kernel)
  have wfV : (Cond.fieldLink "java/lang/String" 9 "java/lang/String" "value" "[B").before a0 Z = true := hw _ (by decide +kernel)
  have wfC : (Cond.fieldLink "java/lang/String" 15 "java/lang/String" "coder" "B").before a0 Z = true := hw _ (by decide +kernel)
  have sn : Jvm.RoadKit.slotOf Z "java/lang/String" "coder" "B" ≠ Jvm.RoadKit.slotOf Z "java/lang/String" "value" "[B" := Jvm.RoadKit.slot_ne (C := "java/lang/String") (Or.inr wC) (Or.inr wV) (by decide) own_pC own_pV
  have hk : kF ≤ h0.size := Nat.le_of_lt (Nat.lt_of_le_of_lt hkF E.lt)
  obtain ⟨cf1, hgo, rfl⟩ := i4_go
  have hSI : Sim Z (rhoL [o, r] h0.size) gK gC 2 (h0, kF) [] hI s₁.heap := by rw [e0]; exact own_simI E V Cd C1 hk
  obtain ⟨T2, L2, X2, N2, hS2, hgr2, -, st2⟩ := go_ok (l := l) (R := rmI4) (s := s.setVm s₁.vm) (n0 := (h0, kF)) (ρ := rhoL [o, r] h0.size) (b := 2) (P := gP) (S := []) (CT := gT) (D := N0) (NI := N0) (TB := T0) (V := V0) (K := gK) (CN := gC) (MN := gM) (M := m3) (rhoL_hi (as := [o, r])) (rhoL_lo (as := [o, r]) (own_ltI E C1)) (fun i j h => by cases h) hCT (fun C k h => by cases h) (hP hw) (own_T0 _) own_V0 (good_of hw c3 rfl) hx hZ1 hown hnm hby hml0 rfl rfl hgo (Nat.le_of_ble_eq_true rfl) (Nat.le_of_ble_eq_true rfl) X1 (Fr.nil _) hSI (fun h => nomatch h)
  have E2 : Ext h0 T2.heap := hS2.2.2.2.2.1
  dsimp only at X2 st2
  have hSi0 : s.Since s₁.vm s₁.heap.size := X0.warmed.since _
  obtain ⟨a, T3, h3, k3, b, kk, X3, e3, E3, hSi3, hk3, hZ3, hown3, Ex, Fc, Fv, Av, -, -, C3, -, hsafe, st3⟩ := ldcCH X2 hx hZ1 hown (text := "") (index := 7) (own := "java/lang/String") (hw _ (by decide +kernel)) (fun q hq => hw q (own_atoms q hq)) rfl hSi0 hgr2 hEL (by decide +kernel) (A0.1.ext E2) (vs := []) (z := 0) ⟨by decide +kernel, by decide +kernel⟩ (by decide) (by decide) (g := mkF m 9 #[.val (.ref o), .val (.ref r), .val (.int 0), .val (.int 0), .val .null, .unset] [.ref o]) rfl d9 (n := 0) (by decide +kernel) (by decide) (by decide) (by decide)
  subst e3
  have Eo3 := (E.ext E2).ext E3
  have V3 := (V.ext E2).ext E3
  have Cd3 := (Cd.ext E2).ext E3
  have Sf3 : Safe Z consts_1 T3.vm T3.heap o := own_safe (State.Warmed39.alike hZ3) Eo3 V3
  obtain ⟨nea, neb⟩ := hsafe o Sf3
  obtain ⟨cb, Ab, qb⟩ := own_arv Av (by decide)
  obtain ⟨T4, X4, e4, st4⟩ := getF X3 hx hZ3 hown3 (host := "") (index := 9) (Or.inl wfV) Via.refl rfl Fv (g := mkF m 11 #[.val (.ref o), .val (.ref r), .val (.int 0), .val (.int 0), .val .null, .unset] [.ref a, .ref o]) rfl (rest := [.ref o]) rfl d11
  obtain ⟨T5, h5, X5, e5, W5, st5⟩ := putF X4 hx hZ3 hown3 (host := "") (index := 9) (Or.inl wfV) Via.refl e4 V3 Eo3 (Or.inr ⟨wV, rfl, hnm⟩) wI own_pV (v := .ref b) rfl rfl (g := mkF m 14 #[.val (.ref o), .val (.ref r), .val (.int 0), .val (.int 0), .val .null, .unset] [.ref b, .ref o]) rfl (rest := []) rfl d14
  have Eo5 := Eo3.wr W5
  have V5 : Fld Z h5 o "java/lang/String" "value" "[B" (.ref b) := V3.same W5
  have Cd5 : Fld Z h5 o "java/lang/String" "coder" "B" (.int 0) := Cd3.other W5 (Or.inr sn)
  have Ab5 := Ab.other W5 (fun z => neb z.symm)
  have R5 := CHr.wr W5 Sf3 C3.1
  have Sf5 := Safe.wr W5 Sf3 C3.1 Sf3
  have hsz5 : h5.size = T3.heap.size := W5.size
  obtain ⟨a6, T6, h6, k6, b6, kk6, X6, e6, E6, hSi6, hk6, hZ6, hown6, Ex6, Fc6, Fv6, Av6, -, -, C6, -, -, st6⟩ := ldcCH X5 hx hZ3 hown3 (text := "") (index := 7) (own := "java/lang/String") (hw _ (by decide +kernel)) (fun q hq => hw q (own_atoms q hq)) e5 hSi3 (by rw [hsz5]; exact hk3) hEL (by decide +kernel) R5.1 (vs := []) (z := 0) ⟨by decide +kernel, by decide +kernel⟩ (by decide) (by decide) (g := mkF m 18 #[.val (.ref o), .val (.ref r), .val (.int 0), .val (.int 0), .val .null, .unset] [.ref o]) rfl d18 (n := 0) (by decide +kernel) (by decide) (by decide) (by decide)
  subst e6
  obtain ⟨T7, X7, e7, st7⟩ := getF X6 hx hZ6 hown6 (host := "") (index := 15) (Or.inl wfC) Via.refl rfl Fc6 (g := mkF m 20 #[.val (.ref o), .val (.ref r), .val (.int 0), .val (.int 0), .val .null, .unset] [.ref a6, .ref o]) rfl (rest := [.ref o]) rfl d20
  have Eo6 := Eo5.ext E6
  have V6 := V5.ext E6
  have Cd6 := Cd5.ext E6
  have Ab6 := Ab5.ext E6
  have Sf6 := C6.safe Eo5.lt Sf5
  obtain ⟨T8, h8, X8, e8, W8, st8⟩ := putF X7 hx hZ6 hown6 (host := "") (index := 15) (Or.inl wfC) Via.refl e7 Cd6 Eo6 (Or.inr ⟨wC, rfl, hnm⟩) wI own_pC (v := .int 0) rfl rfl (g := mkF m 23 #[.val (.ref o), .val (.ref r), .val (.int 0), .val (.int 0), .val .null, .unset] [.int 0, .ref o]) rfl (rest := []) rfl d23
  have R8 := CHr.wr W8 Sf6 C6.1
  have hsz8 : h8.size = T6.heap.size := W8.size
  have RE := CHv.at X8 hZ6 hEL R8.1
  obtain ⟨fs, hr, hrun, hended, hW⟩ := X8.leaveW hSi6 (by rw [e8, hsz8]; exact hk6) (v := none) (fun _ => rfl)
  have s26 : Steps p.tables e below (T8.setTop (mkF m 26 #[.val (.ref o), .val (.ref r), .val (.int 0), .val (.int 0), .val .null, .unset] [])) (T8.setFrames fs) := X8.returnOut hx hret d26 hr
  have s18 := st6 _ (st7 _ (st8 _ s26))
  have s17 : Steps p.tables e below (T5.setTop (mkF m 17 #[.val (.ref o), .val (.ref r), .val (.int 0), .val (.int 0), .val .null, .unset] [])) (T8.setFrames fs) := XS.aloadN X5.here hx rfl d17 rfl rfl s18
  refine ⟨_, _, castTop (ent_ok (rhoL [o, r] h0.size) m [.ref 0, .ref 1, .int 0, .int 0, .null] 6) (st2 _ (st3 _ (st4 _ (st5 _ s17)))), hrun, hended, _, _, rfl, ⟨rfl, ?_, ⟨b, ?_⟩, ?_, ?_⟩, ?_, hW⟩
  · exact Fr.snoc X8 (Fr.snoc X5 N2 hkF) hkF
  · show Strg Z T8.heap o b []
    rw [e8]
    exact ⟨Eo6.wr W8, Cd6.same W8, V6.other W8 (Or.inr (fun z => sn z.symm)), cb, Ab6.other W8 (fun z => neb z.symm), qb⟩
  · show h0.size ≤ T8.heap.size
    rw [e8, hsz8]
    exact Nat.le_trans E2.1 (Nat.le_trans E3.1 (by rw [← hsz5]; exact E6.1))
  · intro y cl ny q
    show T8.heap[y]? = some cl
    rw [e8]
    exact wrOld W8 (E6.2 _ _ (wrOld W5 (E3.2 _ _ (E2.2 _ _ q)) ny)) ny
  · show CHr Z consts_1 s.vm s.heap T8.vm T8.heap
    rw [hh, e8]
    exact A0.trans ((CHr.ext E2 A0.1).trans (C3.trans (R5.trans (C6.trans (R8.trans RE)))))
theorem i2_go : ES (gG0 2) false 2 29 m2 (fun r => r = ((6, [.val (.ref 0), .val (.ref 1)], [.null, .int 0, .int 0, .ref 1, .ref 0]), hI, 0, 0)) ((0, entL [.ref 0, .ref 1] 2, []), hI, 0, 0) := by
  refine ES.runF 6 (cf' := ((6, [.val (.ref 0), .val (.ref 1)], [.null, .int 0, .int 0, .ref 1, .ref 0]), hI, 0, 0)) rfl ?_
  exact ES.stop rfl
set_option maxHeartbeats 4000000 in
theorem i2Met {l : Launch} {Z : State} {a0 : Array Value} (hw : ∀ d ∈ tables_1, d.before a0 Z = true) (hCT : ∀ C F, gT C = some F → ClsOk Z a0 gK gC C F) (hEL : Jvm.RoadKit.EW Z a0 consts_1) {h0 : Heap} {o r : Addr} {kF : Nat} (E : Exa Z h0 o "java/lang/String") (V : Fld Z h0 o "java/lang/String" "value" "[B" .null) (Cd : Fld Z h0 o "java/lang/String" "coder" "B" (.int 0)) (C1 : CA Z h0 r 0) (hkF : kF ≤ o) :
    MetFree l m2.1 (head1 [Cond.code m2.1 m2.2.1 m2.2.2.1 m2.2.2.2.1] rmI2) (fun ar U => ar = #[.ref o, .ref r] ∧ Z.Warmed39 U.vm ∧ U.heap = h0 ∧ CHv Z consts_1 U.vm h0) (fun _ _ _ _ _ => True)
      (fun _ U ou U' => ∃ v L, ou = .returned v ∧ QI Z h0 o kF v U'.heap L ∧ CHr Z consts_1 U.vm U.heap U'.vm U'.heap ∧ ReturnedEndW U ou U' L rmI2.cells rmI2.slots) := by
  refine MetFree.of_bodySF pl2 hisR ?_
  intro p e s m args below meth c s₁ Bd hml0 hP0 hK
  obtain ⟨rfl, hZ, hh, hH⟩ := hP0
  have hx := Bd.exec
  have hby : c.code = m2.2.1 := Bd.bytes
  have hown0 : s.vm.findClass m2.1.cls = some m.cls := findClass_of_methodNamed Bd.named
  have hnm : meth.name = m2.1.name := (name_of_methodNamed Bd.named Bd.method).1
  have hret : meth.sig.returnType = none := Bd.returns
  have X0 : Stand p l e rmI2 s m #[.ref o, .ref r] below meth c s₁ [] 0 0 := Stand.of_body Bd
  have e0 : s₁.heap = h0 := by rw [← hh, Bd.state]; rfl
  have X1 : Stand p l e rmI2 (s.setVm s₁.vm) m #[.ref o, .ref r] below meth c s₁ [] 0 0 := X0.retabled X0.warmed.wide
  have hZ1 : Z.Warmed39 s₁.vm := State.Warmed39.trans (t := s) hZ X0.warmed.wide
  have hown : s₁.vm.findClass m2.1.cls = some m.cls := by rw [X0.warmed.wide.alike.findClass]; exact hown0
  have A0 : CHr Z consts_1 s.vm h0 s₁.vm h0 := CHv.at (vm0 := s.vm) (show Stand p l e rmI2 (s.setVm s.vm) m #[.ref o, .ref r] below meth c s₁ [] 0 0 from X0) hZ hEL hH
  have d6 : decode c.code 6 = .ok (.invokespecial 27, 3) := by rw [hby]; decide +kernel
  have d9 : decode c.code 9 = .ok (.return_, 1) := by rw [hby]; decide +kernel
  have hk : kF ≤ h0.size := Nat.le_of_lt (Nat.lt_of_le_of_lt hkF E.lt)
  obtain ⟨cf1, hgo, rfl⟩ := i2_go
  have hSI : Sim Z (rhoL [o, r] h0.size) gK gC 2 (h0, kF) [] hI s₁.heap := by rw [e0]; exact own_simI E V Cd C1 hk
  obtain ⟨T2, L2, X2, N2, hS2, hgr2, -, st2⟩ := go_ok (l := l) (R := rmI2) (s := s.setVm s₁.vm) (n0 := (h0, kF)) (ρ := rhoL [o, r] h0.size) (b := 2) (P := gP) (S := []) (CT := gT) (D := N0) (NI := N0) (TB := T0) (V := V0) (K := gK) (CN := gC) (MN := gM) (M := m2) (rhoL_hi (as := [o, r])) (rhoL_lo (as := [o, r]) (own_ltI E C1)) (fun i j h => by cases h) hCT (fun C k h => by cases h) (hP hw) (own_T0 _) own_V0 (good_of hw c2 rfl) hx hZ1 hown hnm hby hml0 rfl rfl hgo (Nat.le_of_ble_eq_true rfl) (Nat.le_of_ble_eq_true rfl) X1 (Fr.nil _) hSI (fun h => nomatch h)
  have E2 : Ext h0 T2.heap := hS2.2.2.2.2.1
  dsimp only at X2 st2
  have hSi0 : s.Since s₁.vm s₁.heap.size := X0.warmed.since _
  obtain ⟨-, hpl, hcode, hini⟩ := hP hw 3 m3 rfl
  have hM := i4Met (l := l) hw hCT hEL (E.ext E2) (V.ext E2) (Cd.ext E2) (C1.ext E2) hkF
  have hK4 := backOfSH (p := p) (e := e) (below := below) (s := s) (args := #[.ref o, .ref r]) (R := rmI2) (len := 3) (W := 0) (rm := rmI4) hM hZ1 hcode hini (by decide) (by decide) hEL (A0.1.ext E2)
  obtain ⟨v, vm₁, ⟨T3, L3, k3, n3⟩, -, X3, hSi3, hgr3, ⟨L, ⟨hv, NL, hSt, hsz, hkeep⟩, g1, g2, g3, C3⟩, st3⟩ := X2.specialBackS hx (y := m3.1) rfl hown (mvT hZ1 (hw (Cond.methodLink "java/lang/String" 27 m3.1) (by decide +kernel))) (mvT hZ1 (hw (Cond.instanceMethod m3.1) (by decide +kernel))) (mvT hZ1 hcode) ⟨by decide, by decide⟩ hK4 (g := mkF m 6 #[.val (.ref o), .val (.ref r)] [.null, .int 0, .int 0, .ref r, .ref o]) rfl (by rw [hml0]; rfl) (Steps.refl _) (a := o) (argsL := [.ref r, .int 0, .int 0, .null]) (rest := []) (fun sig h => by have q : parseMethodDescriptor m3.1.desc = some ⟨[.array .char, .int, .int, .object "java/lang/Void"], none⟩ := (by decide +kernel); cases q.symm.trans h; rfl) rfl (Nat.le_refl 0) d6 (fun _ _ => ⟨rfl, rfl, by show 0 + 4 ≤ 4; decide, by show 0 + 8 ≤ 8; decide⟩)
  dsimp only [Pt.U, Pt.locs, Pt.cells, Pt.slots] at X3 hSi3 hgr3 g1 g2 g3 st3 hSt hsz hkeep C3
  subst g1 g2 g3 hv
  have hSi3' : s.Since T3.vm T3.heap.size := hSi0.trans hSi3 (Nat.le_trans (by rw [e0]; exact E2.1) hgr3)
  have X3' : Stand p l e rmI2 (s.setVm T3.vm) m #[.ref o, .ref r] below meth c T3 (L2 ++ L) 4 8 := X3
  obtain ⟨fs, hr, hrun, hended, hW⟩ := X3'.leaveW hSi3' (Nat.le_refl _) (v := none) (fun _ => rfl)
  have s9 : Steps p.tables e below (T3.setTop (mkF m 9 #[.val (.ref o), .val (.ref r)] [])) (T3.setFrames fs) := X3'.returnOut hx hret d9 hr
  refine ⟨_, _, castTop (ent_ok (rhoL [o, r] h0.size) m [.ref 0, .ref 1] 2) (st2 _ (st3.trans s9)), hrun, hended, _, _, rfl, ⟨rfl, Fr.app N2 NL, hSt, Nat.le_trans E2.1 hsz, fun y cl ny q => hkeep y cl ny (E2.2 _ _ q)⟩, ?_, hW⟩
  show CHr Z consts_1 s.vm s.heap T3.vm T3.heap
  rw [hh]
  exact A0.trans ((CHr.ext E2 A0.1).trans C3)
def QCut (Z : State) (h0 : Heap) (v : Option Value) (h : Heap) (L : List Loc) : Prop := v = some (.ref h0.size) ∧ Fr h0.size L ∧ (∃ b, Strg Z h h0.size b []) ∧ Ext h0 h
abbrev hC1 (n : Nat) : List Obj := [.inl (.char, List.replicate n (.float 0))]
theorem cut_go (n : Nat) : ES (gG0 1) true 3 43 m1 (fun r => r = ((11, [.val (.ref 0), .val (.int 0)], [.ref 2, .ref 1, .ref 1]), hC1 n ++ hI, 2, 4)) ((0, entL [.ref 0, .int 0] 2, []), hC1 n, 0, 0) := by
  refine ES.run 6 (cf' := ((11, [.val (.ref 0), .val (.int 0)], [.ref 2, .ref 1, .ref 1]), hC1 n ++ hI, 2, 4)) rfl ?_
  exact ES.stop rfl
set_option maxHeartbeats 4000000 in
theorem cutMet {l : Launch} {Z : State} {a0 : Array Value} (hw : ∀ d ∈ tables_1, d.before a0 Z = true) (hCT : ∀ C F, gT C = some F → ClsOk Z a0 gK gC C F) (hEL : Jvm.RoadKit.EW Z a0 consts_1) {h0 : Heap} {f : Addr} {n : Nat} (CF : CA Z h0 f n) :
    MetFree l m1.1 (head1 [Cond.code m1.1 m1.2.1 m1.2.2.1 m1.2.2.2.1] rmC) (fun ar U => ar = #[.ref f, .int 0] ∧ Z.Warmed39 U.vm ∧ U.heap = h0 ∧ CHv Z consts_1 U.vm h0) (fun _ _ _ _ _ => True)
      (fun _ U ou U' => ∃ v L, ou = .returned v ∧ QCut Z h0 v U'.heap L ∧ CHr Z consts_1 U.vm U.heap U'.vm U'.heap ∧ ReturnedEndW U ou U' L rmC.cells rmC.slots) := by
  refine MetFree.of_bodySF pl1 hisR ?_
  intro p e s m args below meth c s₁ Bd hml0 hP0 hK
  obtain ⟨rfl, hZ, hh, hH⟩ := hP0
  have hx := Bd.exec
  have hby : c.code = m1.2.1 := Bd.bytes
  have hown0 : s.vm.findClass m1.1.cls = some m.cls := findClass_of_methodNamed Bd.named
  have hnm : meth.name = m1.1.name := (name_of_methodNamed Bd.named Bd.method).1
  have hret : meth.sig.returnType = some (.object "java/lang/String") := Bd.returns
  have X0 : Stand p l e rmC s m #[.ref f, .int 0] below meth c s₁ [] 0 0 := Stand.of_body Bd
  have e0 : s₁.heap = h0 := by rw [← hh, Bd.state]; rfl
  have X1 : Stand p l e rmC (s.setVm s₁.vm) m #[.ref f, .int 0] below meth c s₁ [] 0 0 := X0.retabled X0.warmed.wide
  have hZ1 : Z.Warmed39 s₁.vm := State.Warmed39.trans (t := s) hZ X0.warmed.wide
  have hown : s₁.vm.findClass m1.1.cls = some m.cls := by rw [X0.warmed.wide.alike.findClass]; exact hown0
  have A0 : CHr Z consts_1 s.vm h0 s₁.vm h0 := CHv.at (vm0 := s.vm) (show Stand p l e rmC (s.setVm s.vm) m #[.ref f, .int 0] below meth c s₁ [] 0 0 from X0) hZ hEL hH
  have d11 : decode c.code 11 = .ok (.invokespecial 43, 3) := by rw [hby]; decide +kernel
  have d14 : decode c.code 14 = .ok (.areturn, 1) := by rw [hby]; decide +kernel
  have hS : Sim Z (rhoL [f] h0.size) gK gC 1 (h0, h0.size) [] (hC1 n) h0 := simL (as := [f]) rfl (Nat.le_refl _) (fun i ob ho => by
    match i, ho with
    | 0, ho => obtain rfl := Option.some.inj ho; exact own_blkO CF
    | j + 1, ho => cases ho) (fun _ h => nomatch h)
  obtain ⟨cf1, hgo, rfl⟩ := cut_go n
  have hSI : Sim Z (rhoL [f] h0.size) gK gC 1 (h0, h0.size) [] (hC1 n) s₁.heap := by rw [e0]; exact hS
  have hsI : s₁.heap.size = s.heap.size + 0 := by rw [e0, hh]; rfl
  obtain ⟨T2, L2, X2, N2, hS2, hgr2, hsz2, st2⟩ := go_ok (l := l) (R := rmC) (s := s.setVm s₁.vm) (n0 := (h0, h0.size)) (ρ := rhoL [f] h0.size) (b := 1) (P := gP) (S := []) (CT := gT) (D := N0) (NI := N0) (TB := T0) (V := V0) (K := gK) (CN := gC) (MN := gM) (M := m1) (rhoL_hi (as := [f])) (rhoL_lo (as := [f]) (List.forall_mem_cons.mpr ⟨CF.lt, fun _ h => nomatch h⟩)) (fun i j h => by cases h) hCT (fun C k h => by cases h) (hP hw) (own_T0 _) own_V0 (good_of hw c1 rfl) hx hZ1 hown hnm hby hml0 rfl rfl hgo (Nat.le_of_ble_eq_true rfl) (Nat.le_of_ble_eq_true rfl) X1 (Fr.nil _) hSI (fun _ => hsI)
  have E2 : Ext h0 T2.heap := hS2.2.2.2.2.1
  dsimp only at X2 st2
  have O1 := hS2.2.2.1 1 _ rfl
  have O2 := hS2.2.2.1 2 _ rfl
  have r1 : (rhoL [f] h0.size).1 1 = h0.size := rfl
  have r2 : (rhoL [f] h0.size).1 2 = h0.size + 1 := rfl
  rw [r1] at O1
  rw [r2] at O2
  have Eo : Exa Z T2.heap h0.size "java/lang/String" := O1.1
  have Vo : Fld Z T2.heap h0.size "java/lang/String" "value" "[B" .null := O1.2 (0, .null) (by simp)
  have Co : Fld Z T2.heap h0.size "java/lang/String" "coder" "B" (.int 0) := O1.2 (1, .int 0) (by simp)
  have Ca : CA Z T2.heap (h0.size + 1) 0 := by
    obtain ⟨cl, q1, q2, -⟩ := O2
    exact ⟨cl, q1, q2⟩
  have hSi0 : s.Since s₁.vm s₁.heap.size := X0.warmed.since _
  obtain ⟨-, hpl, hcode, hini⟩ := hP hw 2 m2 rfl
  have hM := i2Met (l := l) hw hCT hEL Eo Vo Co Ca (Nat.le_refl _)
  have hK4 := backOfSH (p := p) (e := e) (below := below) (s := s) (args := #[.ref f, .int 0]) (R := rmC) (len := 3) (W := 1) (rm := rmI2) hM hZ1 hcode hini (by decide) (by decide) hEL (A0.1.ext E2)
  obtain ⟨v, vm₁, ⟨T3, L3, k3, n3⟩, -, X3, hSi3, hgr3, ⟨L, ⟨hv, NL, hSt, hsz, hkeep⟩, g1, g2, g3, C3⟩, st3⟩ := X2.specialBackS hx (y := m2.1) rfl hown (mvT hZ1 (hw (Cond.methodLink m1.1.cls 43 m2.1) (by decide +kernel))) (mvT hZ1 (hw (Cond.instanceMethod m2.1) (by decide +kernel))) (mvT hZ1 hcode) ⟨by decide, by decide⟩ hK4 (g := mkF m 11 #[.val (.ref f), .val (.int 0)] [.ref (h0.size + 1), .ref h0.size, .ref h0.size]) rfl (by rw [hml0]; rfl) (Steps.refl _) (a := h0.size) (argsL := [.ref (h0.size + 1)]) (rest := [.ref h0.size]) (fun sig h => by have q : parseMethodDescriptor m2.1.desc = some ⟨[.array .char], none⟩ := (by decide +kernel); cases q.symm.trans h; rfl) rfl (Nat.le_refl 1) d11 (fun _ _ => ⟨rfl, rfl, by show 2 + 4 ≤ 6; decide, by show 4 + 8 ≤ 12; decide⟩)
  dsimp only [Pt.U, Pt.locs, Pt.cells, Pt.slots] at X3 hSi3 hgr3 g1 g2 g3 st3 hSt hsz hkeep C3
  subst g1 g2 g3 hv
  have hSi3' : s.Since T3.vm T3.heap.size := hSi0.trans hSi3 (Nat.le_trans (by rw [e0]; exact E2.1) hgr3)
  have X3' : Stand p l e rmC (s.setVm T3.vm) m #[.ref f, .int 0] below meth c T3 (L2 ++ L) 6 12 := X3
  obtain ⟨fs, hr, hrun, hended, hW⟩ := X3'.leaveW hSi3' (Nat.le_refl _) (v := some (.ref h0.size)) (fun q => by rw [hret] at q; cases q)
  have s14 : Steps p.tables e below (T3.setTop (mkF m 14 #[.val (.ref f), .val (.int 0)] [.ref h0.size])) (T3.setFrames fs) := retOut X3' hx hret rfl (Or.inr (Or.inr (Or.inr (Or.inr ⟨rfl, rfl, rfl⟩)))) d14 hr
  refine ⟨_, _, castTop (ent_ok (rhoL [f] h0.size) m [.ref 0, .int 0] 2) (st2 _ (st3.trans s14)), hrun, hended, _, _, rfl, ⟨rfl, Fr.app N2 NL, hSt, ⟨Nat.le_trans E2.1 hsz, fun y cl q => hkeep y cl ?_ (E2.2 _ _ q)⟩⟩, ?_, hW⟩
  · exact Nat.ne_of_lt (Array.getElem?_eq_some_iff.mp q).1
  show CHr Z consts_1 s.vm s.heap T3.vm T3.heap
  rw [hh]
  exact A0.trans ((CHr.ext E2 A0.1).trans C3)

/-! ### the law up to its String -/
/-- coderFromArrayLen, of an array as long as it should be -/
theorem cod {G : Cx} {fr lo p : Nat} {n : Int32} {H : List Obj} {vs : List Value} (hA : getA H p = some (.byte, vs)) (hz : nar .byte ((XT.ushr (n - vs.length.toInt32) ((Int8.ofInt 31).toInt32)).toInt8.toInt32) = 0) : Eng.EW G fr lo m10 (fun r => r = (some (.int 0), H, 0, 0)) ((0, entL [.ref p, .int n] 2, []), H, 0, 0) := by
  refine EW.run 2 (cf' := ((2, [.val (.ref p), .val (.int n)], [.ref p, .int n]), H, 0, 0)) rfl ?_
  refine EW.alen rfl hA ?_
  refine EW.run 4 (cf' := ((8, [.val (.ref p), .val (.int n)], [.int (XT.ushr (n - vs.length.toInt32) ((Int8.ofInt 31).toInt32)).toInt8.toInt32]), H, 0, 0)) rfl ?_
  exact EW.ret (r := (some (.int (nar .byte ((XT.ushr (n - vs.length.toInt32) ((Int8.ofInt 31).toInt32)).toInt8.toInt32))), H, 0, 0)) rfl (by rw [hz])
def okc (a : Int32) : Prop := a.toUInt32.toUInt16.toUInt32.toInt32.toInt ≤ (255 : Int32).toInt
theorem own_chr (a : Int32) (h0 : 0 ≤ a.toInt) (h1 : a.toInt < 65536) : a.toUInt32.toUInt16.toUInt32.toInt32 = a := by
  apply Int32.toInt_inj.mp
  have q := c_i2c a
  omega
theorem own_okc (a : Int32) (h0 : 0 ≤ a.toInt) (h1 : a.toInt ≤ 255) : okc a := by
  unfold okc
  rw [own_chr a h0 (by omega)]
  have : (255 : Int32).toInt = 255 := by decide
  omega
theorem own_dz (z : Int64) : 0 ≤ ((z &&& (255 : Int64)).toInt32).toInt ∧ ((z &&& (255 : Int64)).toInt32).toInt ≤ 255 := by
  have h1 : (z &&& (255 : Int64)).toInt = z.toInt % 256 := c_maskL z 255 8 (by decide) (by decide)
  have h2 := c_l2i (z &&& (255 : Int64))
  have h3 := rng32 ((z &&& (255 : Int64)).toInt32)
  omega
theorem own_cz (z : Int32) : 0 ≤ (z &&& (255 : Int32)).toInt ∧ (z &&& (255 : Int32)).toInt ≤ 255 := by
  have h1 : (z &&& (255 : Int32)).toInt = z.toInt % 256 := c_mask z 255 8 (by decide) (by decide)
  omega
theorem own_d3 (z : Int64) : okc (z &&& (255 : Int64)).toInt32.toUInt32.toUInt16.toUInt32.toInt32.toUInt32.toUInt16.toUInt32.toInt32.toUInt32.toUInt16.toUInt32.toInt32 := by
  obtain ⟨h0, h1⟩ := own_dz z
  rw [own_chr _ h0 (by omega), own_chr _ h0 (by omega), own_chr _ h0 (by omega)]
  exact own_okc _ h0 h1
theorem own_c2 (z : Int32) : okc (z &&& (255 : Int32)).toUInt32.toUInt16.toUInt32.toInt32.toUInt32.toUInt16.toUInt32.toInt32 := by
  obtain ⟨h0, h1⟩ := own_cz z
  rw [own_chr _ h0 (by omega), own_chr _ h0 (by omega)]
  exact own_okc _ h0 h1
theorem own_k (k : Int32) (h0 : 0 ≤ k.toInt) (h1 : k.toInt ≤ 255) : okc k := own_okc k h0 h1
theorem own_m7 (a : Int32) : ∃ j : Nat, j < 8 ∧ (a &&& (7 : Int32)) = Int32.ofNat j := by
  have h1 : (a &&& (7 : Int32)).toInt = a.toInt % 8 := c_mask a 7 3 (by decide) (by decide)
  exact lt_cases (by omega) (by omega)
theorem own_r7 (a : Int32) : ∃ j : Nat, j < 7 ∧ ((a &&& (2147483647 : Int32)) % (7 : Int32)) = Int32.ofNat j := by
  have h1 : (a &&& (2147483647 : Int32)).toInt = a.toInt % 2147483648 := c_mask a 2147483647 31 (by decide) (by decide)
  have h2 := (c_irem (a &&& (2147483647 : Int32)) 7 7 (by decide)).1 (by omega)
  exact lt_cases (by omega) (by omega)

set_option maxHeartbeats 8000000 in
theorem cut_1 {cs : Int32} (hcs : cs.toInt ≠ 0) (v8 : List Value) (x0 x1 x2 x3 x4 x5 x6 : Int32) (h0x : okc x0) (h1x : okc x1) (h2x : okc x2) (h3x : okc x3) (h4x : okc x4) (h5x : okc x5) (h6x : okc x6) : Eng.EW (gG cs 7 N0) 7 179 m1 (fun r => r = (some (.ref 9), [B0, B1, B2, B3, B4, B5, B6, .inl (.char, v8), .inl (.char, [.int x0, .int x1, .int x2, .int x3, .int x4, .int x5, .int x6]), .inr (0, [(0, .ref 11), (1, .int (0 : Int32))]), .inl (.char, [.int x0.toUInt32.toUInt16.toUInt32.toInt32]), .inl (.byte, [.int x0.toUInt32.toUInt16.toUInt32.toInt32.toInt8.toInt32.toInt8.toInt32])], 3, 6)) ((0, entL [.ref 8, .int 1] 2, []), [B0, B1, B2, B3, B4, B5, B6, .inl (.char, v8), .inl (.char, [.int x0, .int x1, .int x2, .int x3, .int x4, .int x5, .int x6])], 0, 0) := by
  unfold okc at h0x h1x h2x h3x h4x h5x h6x
  show Eng.EW _ _ _ _ _ ((0, [.val (.ref 8), .val (.int (1 : Int32))], []), [B0, B1, B2, B3, B4, B5, B6, .inl (.char, v8), .inl (.char, [.int x0, .int x1, .int x2, .int x3, .int x4, .int x5, .int x6])], 0, 0)
  refine EW.run 6 (cf' := ((23, [.val (.ref 8), .val (.int (1 : Int32))], [.ref 9]), [B0, B1, B2, B3, B4, B5, B6, .inl (.char, v8), .inl (.char, [.int x0, .int x1, .int x2, .int x3, .int x4, .int x5, .int x6]), .inr (0, [(0, .null), (1, .int (0 : Int32))])], 1, 4)) rfl ?_
  refine EW.run 6 (cf' := ((30, [.val (.ref 8), .val (.int (1 : Int32))], [.ref 8, .int (0 : Int32), .ref 10, .ref 10, .ref 9, .ref 9]), [B0, B1, B2, B3, B4, B5, B6, .inl (.char, v8), .inl (.char, [.int x0, .int x1, .int x2, .int x3, .int x4, .int x5, .int x6]), .inr (0, [(0, .null), (1, .int (0 : Int32))]), .inl (.char, [.int (0 : Int32)])], 2, 5)) rfl ?_
  refine EW.run 3 (cf' := ((33, [.val (.ref 8), .val (.int (1 : Int32))], [.ref 10, .ref 9, .ref 9]), [B0, B1, B2, B3, B4, B5, B6, .inl (.char, v8), .inl (.char, [.int x0, .int x1, .int x2, .int x3, .int x4, .int x5, .int x6]), .inr (0, [(0, .null), (1, .int (0 : Int32))]), .inl (.char, [.int x0.toUInt32.toUInt16.toUInt32.toInt32])], 2, 5)) rfl ?_
  refine EW.call (Qc := fun r => r = (none, [B0, B1, B2, B3, B4, B5, B6, .inl (.char, v8), .inl (.char, [.int x0, .int x1, .int x2, .int x3, .int x4, .int x5, .int x6]), .inr (0, [(0, .ref 11), (1, .int (0 : Int32))]), .inl (.char, [.int x0.toUInt32.toUInt16.toUInt32.toInt32]), .inl (.byte, [.int x0.toUInt32.toUInt16.toUInt32.toInt32.toInt8.toInt32.toInt8.toInt32])], 1, 1)) rfl ?_ ?_
  · show EW _ _ _ _ _ ((0, [.val (.ref 9), .val (.ref 10)], []), [B0, B1, B2, B3, B4, B5, B6, .inl (.char, v8), .inl (.char, [.int x0, .int x1, .int x2, .int x3, .int x4, .int x5, .int x6]), .inr (0, [(0, .null), (1, .int (0 : Int32))]), .inl (.char, [.int x0.toUInt32.toUInt16.toUInt32.toInt32])], 0, 0)
    refine EW.run 6 (cf' := ((6, [.val (.ref 9), .val (.ref 10)], [.null, .int (1 : Int32), .int (0 : Int32), .ref 10, .ref 9]), [B0, B1, B2, B3, B4, B5, B6, .inl (.char, v8), .inl (.char, [.int x0, .int x1, .int x2, .int x3, .int x4, .int x5, .int x6]), .inr (0, [(0, .null), (1, .int (0 : Int32))]), .inl (.char, [.int x0.toUInt32.toUInt16.toUInt32.toInt32])], 0, 0)) rfl ?_
    refine EW.call (Qc := fun r => r = (none, [B0, B1, B2, B3, B4, B5, B6, .inl (.char, v8), .inl (.char, [.int x0, .int x1, .int x2, .int x3, .int x4, .int x5, .int x6]), .inr (0, [(0, .ref 11), (1, .int (0 : Int32))]), .inl (.char, [.int x0.toUInt32.toUInt16.toUInt32.toInt32]), .inl (.byte, [.int x0.toUInt32.toUInt16.toUInt32.toInt32.toInt8.toInt32.toInt8.toInt32])], 1, 1)) rfl ?_ ?_
    · show EW _ _ _ _ _ ((0, [.val (.ref 9), .val (.ref 10), .val (.int (0 : Int32)), .val (.int (1 : Int32)), .val (.null), .unset], []), [B0, B1, B2, B3, B4, B5, B6, .inl (.char, v8), .inl (.char, [.int x0, .int x1, .int x2, .int x3, .int x4, .int x5, .int x6]), .inr (0, [(0, .null), (1, .int (0 : Int32))]), .inl (.char, [.int x0.toUInt32.toUInt16.toUInt32.toInt32])], 0, 0)
      refine EW.run 5 (cf' := ((30, [.val (.ref 9), .val (.ref 10), .val (.int (0 : Int32)), .val (.int (1 : Int32)), .val (.null), .unset], [.int cs]), [B0, B1, B2, B3, B4, B5, B6, .inl (.char, v8), .inl (.char, [.int x0, .int x1, .int x2, .int x3, .int x4, .int x5, .int x6]), .inr (0, [(0, .null), (1, .int (0 : Int32))]), .inl (.char, [.int x0.toUInt32.toUInt16.toUInt32.toInt32])], 0, 0)) rfl ?_
      refine EW.ifP rfl (by decide) (fun h => ?_) (fun h => ?_)
      · exfalso; simp only [cP] at h; omega
      · have h1 : cs.toInt ≠ 0 := by simp only [cP] at h; omega
        clear h
        show EW _ _ _ _ _ ((33, [.val (.ref 9), .val (.ref 10), .val (.int (0 : Int32)), .val (.int (1 : Int32)), .val (.null), .unset], []), [B0, B1, B2, B3, B4, B5, B6, .inl (.char, v8), .inl (.char, [.int x0, .int x1, .int x2, .int x3, .int x4, .int x5, .int x6]), .inr (0, [(0, .null), (1, .int (0 : Int32))]), .inl (.char, [.int x0.toUInt32.toUInt16.toUInt32.toInt32])], 0, 0)
        refine EW.run 3 (cf' := ((36, [.val (.ref 9), .val (.ref 10), .val (.int (0 : Int32)), .val (.int (1 : Int32)), .val (.null), .unset], [.int (1 : Int32), .int (0 : Int32), .ref 10]), [B0, B1, B2, B3, B4, B5, B6, .inl (.char, v8), .inl (.char, [.int x0, .int x1, .int x2, .int x3, .int x4, .int x5, .int x6]), .inr (0, [(0, .null), (1, .int (0 : Int32))]), .inl (.char, [.int x0.toUInt32.toUInt16.toUInt32.toInt32])], 0, 0)) rfl ?_
        refine EW.call (Qc := fun r => r = (some (.ref 11), [B0, B1, B2, B3, B4, B5, B6, .inl (.char, v8), .inl (.char, [.int x0, .int x1, .int x2, .int x3, .int x4, .int x5, .int x6]), .inr (0, [(0, .null), (1, .int (0 : Int32))]), .inl (.char, [.int x0.toUInt32.toUInt16.toUInt32.toInt32]), .inl (.byte, [.int x0.toUInt32.toUInt16.toUInt32.toInt32.toInt8.toInt32.toInt8.toInt32])], 1, 1)) rfl ?_ ?_
        · show EW _ _ _ _ _ ((0, [.val (.ref 10), .val (.int (0 : Int32)), .val (.int (1 : Int32)), .unset, .unset, .unset], []), [B0, B1, B2, B3, B4, B5, B6, .inl (.char, v8), .inl (.char, [.int x0, .int x1, .int x2, .int x3, .int x4, .int x5, .int x6]), .inr (0, [(0, .null), (1, .int (0 : Int32))]), .inl (.char, [.int x0.toUInt32.toUInt16.toUInt32.toInt32])], 0, 0)
          refine EW.run 6 (cf' := ((7, [.val (.ref 10), .val (.int (0 : Int32)), .val (.int (1 : Int32)), .val (.ref 11), .unset, .unset], [.ref 11, .int (0 : Int32), .ref 10]), [B0, B1, B2, B3, B4, B5, B6, .inl (.char, v8), .inl (.char, [.int x0, .int x1, .int x2, .int x3, .int x4, .int x5, .int x6]), .inr (0, [(0, .null), (1, .int (0 : Int32))]), .inl (.char, [.int x0.toUInt32.toUInt16.toUInt32.toInt32]), .inl (.byte, [.int (0 : Int32)])], 1, 1)) rfl ?_
          refine EW.run 2 (cf' := ((9, [.val (.ref 10), .val (.int (0 : Int32)), .val (.int (1 : Int32)), .val (.ref 11), .unset, .unset], [.int (1 : Int32), .int (0 : Int32), .ref 11, .int (0 : Int32), .ref 10]), [B0, B1, B2, B3, B4, B5, B6, .inl (.char, v8), .inl (.char, [.int x0, .int x1, .int x2, .int x3, .int x4, .int x5, .int x6]), .inr (0, [(0, .null), (1, .int (0 : Int32))]), .inl (.char, [.int x0.toUInt32.toUInt16.toUInt32.toInt32]), .inl (.byte, [.int (0 : Int32)])], 1, 1)) rfl ?_
          refine EW.call (Qc := fun r => r = (some (.int (1 : Int32)), [B0, B1, B2, B3, B4, B5, B6, .inl (.char, v8), .inl (.char, [.int x0, .int x1, .int x2, .int x3, .int x4, .int x5, .int x6]), .inr (0, [(0, .null), (1, .int (0 : Int32))]), .inl (.char, [.int x0.toUInt32.toUInt16.toUInt32.toInt32]), .inl (.byte, [.int x0.toUInt32.toUInt16.toUInt32.toInt32.toInt8.toInt32.toInt8.toInt32])], 0, 0)) rfl ?_ ?_
          · show EW _ _ _ _ _ ((0, [.val (.ref 10), .val (.int (0 : Int32)), .val (.ref 11), .val (.int (0 : Int32)), .val (.int (1 : Int32)), .unset, .unset], []), [B0, B1, B2, B3, B4, B5, B6, .inl (.char, v8), .inl (.char, [.int x0, .int x1, .int x2, .int x3, .int x4, .int x5, .int x6]), .inr (0, [(0, .null), (1, .int (0 : Int32))]), .inl (.char, [.int x0.toUInt32.toUInt16.toUInt32.toInt32]), .inl (.byte, [.int (0 : Int32)])], 0, 0)
            refine EW.run 6 (cf' := ((11, [.val (.ref 10), .val (.int (0 : Int32)), .val (.ref 11), .val (.int (0 : Int32)), .val (.int (1 : Int32)), .val (.int (0 : Int32)), .unset], [.ref 10]), [B0, B1, B2, B3, B4, B5, B6, .inl (.char, v8), .inl (.char, [.int x0, .int x1, .int x2, .int x3, .int x4, .int x5, .int x6]), .inr (0, [(0, .null), (1, .int (0 : Int32))]), .inl (.char, [.int x0.toUInt32.toUInt16.toUInt32.toInt32]), .inl (.byte, [.int (0 : Int32)])], 0, 0)) rfl ?_
            refine EW.run 5 (cf' := ((20, [.val (.ref 10), .val (.int (0 : Int32)), .val (.ref 11), .val (.int (0 : Int32)), .val (.int (1 : Int32)), .val (.int (0 : Int32)), .val (.int x0.toUInt32.toUInt16.toUInt32.toInt32)], [.int (255 : Int32), .int x0.toUInt32.toUInt16.toUInt32.toInt32]), [B0, B1, B2, B3, B4, B5, B6, .inl (.char, v8), .inl (.char, [.int x0, .int x1, .int x2, .int x3, .int x4, .int x5, .int x6]), .inr (0, [(0, .null), (1, .int (0 : Int32))]), .inl (.char, [.int x0.toUInt32.toUInt16.toUInt32.toInt32]), .inl (.byte, [.int (0 : Int32)])], 0, 0)) rfl ?_
            refine EW.icmpP rfl (by decide) (fun h => ?_) (fun h => ?_)
            · have h2 : x0.toUInt32.toUInt16.toUInt32.toInt32.toInt ≤ (255 : Int32).toInt := by simp only [cP] at h; omega
              clear h
              show EW _ _ _ _ _ ((26, [.val (.ref 10), .val (.int (0 : Int32)), .val (.ref 11), .val (.int (0 : Int32)), .val (.int (1 : Int32)), .val (.int (0 : Int32)), .val (.int x0.toUInt32.toUInt16.toUInt32.toInt32)], []), [B0, B1, B2, B3, B4, B5, B6, .inl (.char, v8), .inl (.char, [.int x0, .int x1, .int x2, .int x3, .int x4, .int x5, .int x6]), .inr (0, [(0, .null), (1, .int (0 : Int32))]), .inl (.char, [.int x0.toUInt32.toUInt16.toUInt32.toInt32]), .inl (.byte, [.int (0 : Int32)])], 0, 0)
              refine EW.run 6 (cf' := ((35, [.val (.ref 10), .val (.int (1 : Int32)), .val (.ref 11), .val (.int (0 : Int32)), .val (.int (1 : Int32)), .val (.int (0 : Int32)), .val (.int x0.toUInt32.toUInt16.toUInt32.toInt32)], []), [B0, B1, B2, B3, B4, B5, B6, .inl (.char, v8), .inl (.char, [.int x0, .int x1, .int x2, .int x3, .int x4, .int x5, .int x6]), .inr (0, [(0, .null), (1, .int (0 : Int32))]), .inl (.char, [.int x0.toUInt32.toUInt16.toUInt32.toInt32]), .inl (.byte, [.int x0.toUInt32.toUInt16.toUInt32.toInt32.toInt8.toInt32.toInt8.toInt32])], 0, 0)) rfl ?_
              refine EW.run 6 (cf' := ((44, [.val (.ref 10), .val (.int (1 : Int32)), .val (.ref 11), .val (.int (1 : Int32)), .val (.int (1 : Int32)), .val (.int (1 : Int32)), .val (.int x0.toUInt32.toUInt16.toUInt32.toInt32)], []), [B0, B1, B2, B3, B4, B5, B6, .inl (.char, v8), .inl (.char, [.int x0, .int x1, .int x2, .int x3, .int x4, .int x5, .int x6]), .inr (0, [(0, .null), (1, .int (0 : Int32))]), .inl (.char, [.int x0.toUInt32.toUInt16.toUInt32.toInt32]), .inl (.byte, [.int x0.toUInt32.toUInt16.toUInt32.toInt32.toInt8.toInt32.toInt8.toInt32])], 0, 0)) rfl ?_
              refine EW.run 1 (cf' := ((46, [.val (.ref 10), .val (.int (1 : Int32)), .val (.ref 11), .val (.int (1 : Int32)), .val (.int (1 : Int32)), .val (.int (1 : Int32)), .val (.int x0.toUInt32.toUInt16.toUInt32.toInt32)], [.int (1 : Int32)]), [B0, B1, B2, B3, B4, B5, B6, .inl (.char, v8), .inl (.char, [.int x0, .int x1, .int x2, .int x3, .int x4, .int x5, .int x6]), .inr (0, [(0, .null), (1, .int (0 : Int32))]), .inl (.char, [.int x0.toUInt32.toUInt16.toUInt32.toInt32]), .inl (.byte, [.int x0.toUInt32.toUInt16.toUInt32.toInt32.toInt8.toInt32.toInt8.toInt32])], 0, 0)) rfl ?_
              exact EW.ret rfl rfl
            · exfalso; simp only [cP] at h; omega
          rintro _ _ _ _ ⟨⟩
          show EW _ _ _ _ _ ((12, [.val (.ref 10), .val (.int (0 : Int32)), .val (.int (1 : Int32)), .val (.ref 11), .unset, .unset], [.int (1 : Int32)]), [B0, B1, B2, B3, B4, B5, B6, .inl (.char, v8), .inl (.char, [.int x0, .int x1, .int x2, .int x3, .int x4, .int x5, .int x6]), .inr (0, [(0, .null), (1, .int (0 : Int32))]), .inl (.char, [.int x0.toUInt32.toUInt16.toUInt32.toInt32]), .inl (.byte, [.int x0.toUInt32.toUInt16.toUInt32.toInt32.toInt8.toInt32.toInt8.toInt32])], 1, 1)
          refine EW.run 5 (cf' := ((58, [.val (.ref 10), .val (.int (0 : Int32)), .val (.int (1 : Int32)), .val (.ref 11), .val (.int (1 : Int32)), .unset], [.ref 11]), [B0, B1, B2, B3, B4, B5, B6, .inl (.char, v8), .inl (.char, [.int x0, .int x1, .int x2, .int x3, .int x4, .int x5, .int x6]), .inr (0, [(0, .null), (1, .int (0 : Int32))]), .inl (.char, [.int x0.toUInt32.toUInt16.toUInt32.toInt32]), .inl (.byte, [.int x0.toUInt32.toUInt16.toUInt32.toInt32.toInt8.toInt32.toInt8.toInt32])], 1, 1)) rfl ?_
          exact EW.ret rfl rfl
        rintro _ _ _ _ ⟨⟩
        show EW _ _ _ _ _ ((39, [.val (.ref 9), .val (.ref 10), .val (.int (0 : Int32)), .val (.int (1 : Int32)), .val (.null), .unset], [.ref 11]), [B0, B1, B2, B3, B4, B5, B6, .inl (.char, v8), .inl (.char, [.int x0, .int x1, .int x2, .int x3, .int x4, .int x5, .int x6]), .inr (0, [(0, .null), (1, .int (0 : Int32))]), .inl (.char, [.int x0.toUInt32.toUInt16.toUInt32.toInt32]), .inl (.byte, [.int x0.toUInt32.toUInt16.toUInt32.toInt32.toInt8.toInt32.toInt8.toInt32])], 1, 1)
        refine EW.run 4 (cf' := ((45, [.val (.ref 9), .val (.ref 10), .val (.int (0 : Int32)), .val (.int (1 : Int32)), .val (.null), .val (.ref 11)], [.int (1 : Int32), .ref 11, .ref 9]), [B0, B1, B2, B3, B4, B5, B6, .inl (.char, v8), .inl (.char, [.int x0, .int x1, .int x2, .int x3, .int x4, .int x5, .int x6]), .inr (0, [(0, .null), (1, .int (0 : Int32))]), .inl (.char, [.int x0.toUInt32.toUInt16.toUInt32.toInt32]), .inl (.byte, [.int x0.toUInt32.toUInt16.toUInt32.toInt32.toInt8.toInt32.toInt8.toInt32])], 1, 1)) rfl ?_
        refine EW.call (Qc := fun r => r = (some (.int 0), [B0, B1, B2, B3, B4, B5, B6, .inl (.char, v8), .inl (.char, [.int x0, .int x1, .int x2, .int x3, .int x4, .int x5, .int x6]), .inr (0, [(0, .null), (1, .int (0 : Int32))]), .inl (.char, [.int x0.toUInt32.toUInt16.toUInt32.toInt32]), .inl (.byte, [.int x0.toUInt32.toUInt16.toUInt32.toInt32.toInt8.toInt32.toInt8.toInt32])], 0, 0)) rfl ?_ ?_
        · exact cod (p := 11) (n := (1 : Int32)) rfl (by show nar .byte ((XT.ushr ((1 : Int32) - (1 : Int32)) ((Int8.ofInt 31).toInt32)).toInt8.toInt32) = 0; decide)
        rintro _ _ _ _ ⟨⟩
        show EW _ _ _ _ _ ((48, [.val (.ref 9), .val (.ref 10), .val (.int (0 : Int32)), .val (.int (1 : Int32)), .val (.null), .val (.ref 11)], [.int (0 : Int32), .ref 9]), [B0, B1, B2, B3, B4, B5, B6, .inl (.char, v8), .inl (.char, [.int x0, .int x1, .int x2, .int x3, .int x4, .int x5, .int x6]), .inr (0, [(0, .null), (1, .int (0 : Int32))]), .inl (.char, [.int x0.toUInt32.toUInt16.toUInt32.toInt32]), .inl (.byte, [.int x0.toUInt32.toUInt16.toUInt32.toInt32.toInt8.toInt32.toInt8.toInt32])], 1, 1)
        refine EW.run 4 (cf' := ((57, [.val (.ref 9), .val (.ref 10), .val (.int (0 : Int32)), .val (.int (1 : Int32)), .val (.null), .val (.ref 11)], []), [B0, B1, B2, B3, B4, B5, B6, .inl (.char, v8), .inl (.char, [.int x0, .int x1, .int x2, .int x3, .int x4, .int x5, .int x6]), .inr (0, [(0, .ref 11), (1, .int (0 : Int32))]), .inl (.char, [.int x0.toUInt32.toUInt16.toUInt32.toInt32]), .inl (.byte, [.int x0.toUInt32.toUInt16.toUInt32.toInt32.toInt8.toInt32.toInt8.toInt32])], 1, 1)) rfl ?_
        exact EW.ret rfl rfl
    rintro _ _ _ _ ⟨⟩
    show EW _ _ _ _ _ ((9, [.val (.ref 9), .val (.ref 10)], []), [B0, B1, B2, B3, B4, B5, B6, .inl (.char, v8), .inl (.char, [.int x0, .int x1, .int x2, .int x3, .int x4, .int x5, .int x6]), .inr (0, [(0, .ref 11), (1, .int (0 : Int32))]), .inl (.char, [.int x0.toUInt32.toUInt16.toUInt32.toInt32]), .inl (.byte, [.int x0.toUInt32.toUInt16.toUInt32.toInt32.toInt8.toInt32.toInt8.toInt32])], 1, 1)
    exact EW.ret rfl rfl
  rintro _ _ _ _ ⟨⟩
  show EW _ _ _ _ _ ((36, [.val (.ref 8), .val (.int (1 : Int32))], [.ref 9]), [B0, B1, B2, B3, B4, B5, B6, .inl (.char, v8), .inl (.char, [.int x0, .int x1, .int x2, .int x3, .int x4, .int x5, .int x6]), .inr (0, [(0, .ref 11), (1, .int (0 : Int32))]), .inl (.char, [.int x0.toUInt32.toUInt16.toUInt32.toInt32]), .inl (.byte, [.int x0.toUInt32.toUInt16.toUInt32.toInt32.toInt8.toInt32.toInt8.toInt32])], 3, 6)
  exact EW.ret rfl rfl
set_option maxHeartbeats 8000000 in
theorem cut_2 {cs : Int32} (hcs : cs.toInt ≠ 0) (v8 : List Value) (x0 x1 x2 x3 x4 x5 x6 : Int32) (h0x : okc x0) (h1x : okc x1) (h2x : okc x2) (h3x : okc x3) (h4x : okc x4) (h5x : okc x5) (h6x : okc x6) : Eng.EW (gG cs 7 N0) 7 179 m1 (fun r => r = (some (.ref 9), [B0, B1, B2, B3, B4, B5, B6, .inl (.char, v8), .inl (.char, [.int x0, .int x1, .int x2, .int x3, .int x4, .int x5, .int x6]), .inr (0, [(0, .ref 11), (1, .int (0 : Int32))]), .inl (.char, [.int x0.toUInt32.toUInt16.toUInt32.toInt32, .int x1.toUInt32.toUInt16.toUInt32.toInt32]), .inl (.byte, [.int x0.toUInt32.toUInt16.toUInt32.toInt32.toInt8.toInt32.toInt8.toInt32, .int x1.toUInt32.toUInt16.toUInt32.toInt32.toInt8.toInt32.toInt8.toInt32])], 3, 8)) ((0, entL [.ref 8, .int 2] 2, []), [B0, B1, B2, B3, B4, B5, B6, .inl (.char, v8), .inl (.char, [.int x0, .int x1, .int x2, .int x3, .int x4, .int x5, .int x6])], 0, 0) := by
  unfold okc at h0x h1x h2x h3x h4x h5x h6x
  show Eng.EW _ _ _ _ _ ((0, [.val (.ref 8), .val (.int (2 : Int32))], []), [B0, B1, B2, B3, B4, B5, B6, .inl (.char, v8), .inl (.char, [.int x0, .int x1, .int x2, .int x3, .int x4, .int x5, .int x6])], 0, 0)
  refine EW.run 6 (cf' := ((38, [.val (.ref 8), .val (.int (2 : Int32))], [.int (2 : Int32)]), [B0, B1, B2, B3, B4, B5, B6, .inl (.char, v8), .inl (.char, [.int x0, .int x1, .int x2, .int x3, .int x4, .int x5, .int x6])], 0, 0)) rfl ?_
  refine EW.run 6 (cf' := ((49, [.val (.ref 8), .val (.int (2 : Int32))], [.ref 10, .ref 9, .ref 9]), [B0, B1, B2, B3, B4, B5, B6, .inl (.char, v8), .inl (.char, [.int x0, .int x1, .int x2, .int x3, .int x4, .int x5, .int x6]), .inr (0, [(0, .null), (1, .int (0 : Int32))]), .inl (.char, [.int (0 : Int32), .int (0 : Int32)])], 2, 6)) rfl ?_
  refine EW.run 6 (cf' := ((55, [.val (.ref 8), .val (.int (2 : Int32))], [.ref 10, .ref 9, .ref 9]), [B0, B1, B2, B3, B4, B5, B6, .inl (.char, v8), .inl (.char, [.int x0, .int x1, .int x2, .int x3, .int x4, .int x5, .int x6]), .inr (0, [(0, .null), (1, .int (0 : Int32))]), .inl (.char, [.int x0.toUInt32.toUInt16.toUInt32.toInt32, .int (0 : Int32)])], 2, 6)) rfl ?_
  refine EW.run 6 (cf' := ((61, [.val (.ref 8), .val (.int (2 : Int32))], [.ref 10, .ref 9, .ref 9]), [B0, B1, B2, B3, B4, B5, B6, .inl (.char, v8), .inl (.char, [.int x0, .int x1, .int x2, .int x3, .int x4, .int x5, .int x6]), .inr (0, [(0, .null), (1, .int (0 : Int32))]), .inl (.char, [.int x0.toUInt32.toUInt16.toUInt32.toInt32, .int x1.toUInt32.toUInt16.toUInt32.toInt32])], 2, 6)) rfl ?_
  refine EW.call (Qc := fun r => r = (none, [B0, B1, B2, B3, B4, B5, B6, .inl (.char, v8), .inl (.char, [.int x0, .int x1, .int x2, .int x3, .int x4, .int x5, .int x6]), .inr (0, [(0, .ref 11), (1, .int (0 : Int32))]), .inl (.char, [.int x0.toUInt32.toUInt16.toUInt32.toInt32, .int x1.toUInt32.toUInt16.toUInt32.toInt32]), .inl (.byte, [.int x0.toUInt32.toUInt16.toUInt32.toInt32.toInt8.toInt32.toInt8.toInt32, .int x1.toUInt32.toUInt16.toUInt32.toInt32.toInt8.toInt32.toInt8.toInt32])], 1, 2)) rfl ?_ ?_
  · show EW _ _ _ _ _ ((0, [.val (.ref 9), .val (.ref 10)], []), [B0, B1, B2, B3, B4, B5, B6, .inl (.char, v8), .inl (.char, [.int x0, .int x1, .int x2, .int x3, .int x4, .int x5, .int x6]), .inr (0, [(0, .null), (1, .int (0 : Int32))]), .inl (.char, [.int x0.toUInt32.toUInt16.toUInt32.toInt32, .int x1.toUInt32.toUInt16.toUInt32.toInt32])], 0, 0)
    refine EW.run 6 (cf' := ((6, [.val (.ref 9), .val (.ref 10)], [.null, .int (2 : Int32), .int (0 : Int32), .ref 10, .ref 9]), [B0, B1, B2, B3, B4, B5, B6, .inl (.char, v8), .inl (.char, [.int x0, .int x1, .int x2, .int x3, .int x4, .int x5, .int x6]), .inr (0, [(0, .null), (1, .int (0 : Int32))]), .inl (.char, [.int x0.toUInt32.toUInt16.toUInt32.toInt32, .int x1.toUInt32.toUInt16.toUInt32.toInt32])], 0, 0)) rfl ?_
    refine EW.call (Qc := fun r => r = (none, [B0, B1, B2, B3, B4, B5, B6, .inl (.char, v8), .inl (.char, [.int x0, .int x1, .int x2, .int x3, .int x4, .int x5, .int x6]), .inr (0, [(0, .ref 11), (1, .int (0 : Int32))]), .inl (.char, [.int x0.toUInt32.toUInt16.toUInt32.toInt32, .int x1.toUInt32.toUInt16.toUInt32.toInt32]), .inl (.byte, [.int x0.toUInt32.toUInt16.toUInt32.toInt32.toInt8.toInt32.toInt8.toInt32, .int x1.toUInt32.toUInt16.toUInt32.toInt32.toInt8.toInt32.toInt8.toInt32])], 1, 2)) rfl ?_ ?_
    · show EW _ _ _ _ _ ((0, [.val (.ref 9), .val (.ref 10), .val (.int (0 : Int32)), .val (.int (2 : Int32)), .val (.null), .unset], []), [B0, B1, B2, B3, B4, B5, B6, .inl (.char, v8), .inl (.char, [.int x0, .int x1, .int x2, .int x3, .int x4, .int x5, .int x6]), .inr (0, [(0, .null), (1, .int (0 : Int32))]), .inl (.char, [.int x0.toUInt32.toUInt16.toUInt32.toInt32, .int x1.toUInt32.toUInt16.toUInt32.toInt32])], 0, 0)
      refine EW.run 5 (cf' := ((30, [.val (.ref 9), .val (.ref 10), .val (.int (0 : Int32)), .val (.int (2 : Int32)), .val (.null), .unset], [.int cs]), [B0, B1, B2, B3, B4, B5, B6, .inl (.char, v8), .inl (.char, [.int x0, .int x1, .int x2, .int x3, .int x4, .int x5, .int x6]), .inr (0, [(0, .null), (1, .int (0 : Int32))]), .inl (.char, [.int x0.toUInt32.toUInt16.toUInt32.toInt32, .int x1.toUInt32.toUInt16.toUInt32.toInt32])], 0, 0)) rfl ?_
      refine EW.ifP rfl (by decide) (fun h => ?_) (fun h => ?_)
      · exfalso; simp only [cP] at h; omega
      · have h1 : cs.toInt ≠ 0 := by simp only [cP] at h; omega
        clear h
        show EW _ _ _ _ _ ((33, [.val (.ref 9), .val (.ref 10), .val (.int (0 : Int32)), .val (.int (2 : Int32)), .val (.null), .unset], []), [B0, B1, B2, B3, B4, B5, B6, .inl (.char, v8), .inl (.char, [.int x0, .int x1, .int x2, .int x3, .int x4, .int x5, .int x6]), .inr (0, [(0, .null), (1, .int (0 : Int32))]), .inl (.char, [.int x0.toUInt32.toUInt16.toUInt32.toInt32, .int x1.toUInt32.toUInt16.toUInt32.toInt32])], 0, 0)
        refine EW.run 3 (cf' := ((36, [.val (.ref 9), .val (.ref 10), .val (.int (0 : Int32)), .val (.int (2 : Int32)), .val (.null), .unset], [.int (2 : Int32), .int (0 : Int32), .ref 10]), [B0, B1, B2, B3, B4, B5, B6, .inl (.char, v8), .inl (.char, [.int x0, .int x1, .int x2, .int x3, .int x4, .int x5, .int x6]), .inr (0, [(0, .null), (1, .int (0 : Int32))]), .inl (.char, [.int x0.toUInt32.toUInt16.toUInt32.toInt32, .int x1.toUInt32.toUInt16.toUInt32.toInt32])], 0, 0)) rfl ?_
        refine EW.call (Qc := fun r => r = (some (.ref 11), [B0, B1, B2, B3, B4, B5, B6, .inl (.char, v8), .inl (.char, [.int x0, .int x1, .int x2, .int x3, .int x4, .int x5, .int x6]), .inr (0, [(0, .null), (1, .int (0 : Int32))]), .inl (.char, [.int x0.toUInt32.toUInt16.toUInt32.toInt32, .int x1.toUInt32.toUInt16.toUInt32.toInt32]), .inl (.byte, [.int x0.toUInt32.toUInt16.toUInt32.toInt32.toInt8.toInt32.toInt8.toInt32, .int x1.toUInt32.toUInt16.toUInt32.toInt32.toInt8.toInt32.toInt8.toInt32])], 1, 2)) rfl ?_ ?_
        · show EW _ _ _ _ _ ((0, [.val (.ref 10), .val (.int (0 : Int32)), .val (.int (2 : Int32)), .unset, .unset, .unset], []), [B0, B1, B2, B3, B4, B5, B6, .inl (.char, v8), .inl (.char, [.int x0, .int x1, .int x2, .int x3, .int x4, .int x5, .int x6]), .inr (0, [(0, .null), (1, .int (0 : Int32))]), .inl (.char, [.int x0.toUInt32.toUInt16.toUInt32.toInt32, .int x1.toUInt32.toUInt16.toUInt32.toInt32])], 0, 0)
          refine EW.run 6 (cf' := ((7, [.val (.ref 10), .val (.int (0 : Int32)), .val (.int (2 : Int32)), .val (.ref 11), .unset, .unset], [.ref 11, .int (0 : Int32), .ref 10]), [B0, B1, B2, B3, B4, B5, B6, .inl (.char, v8), .inl (.char, [.int x0, .int x1, .int x2, .int x3, .int x4, .int x5, .int x6]), .inr (0, [(0, .null), (1, .int (0 : Int32))]), .inl (.char, [.int x0.toUInt32.toUInt16.toUInt32.toInt32, .int x1.toUInt32.toUInt16.toUInt32.toInt32]), .inl (.byte, [.int (0 : Int32), .int (0 : Int32)])], 1, 2)) rfl ?_
          refine EW.run 2 (cf' := ((9, [.val (.ref 10), .val (.int (0 : Int32)), .val (.int (2 : Int32)), .val (.ref 11), .unset, .unset], [.int (2 : Int32), .int (0 : Int32), .ref 11, .int (0 : Int32), .ref 10]), [B0, B1, B2, B3, B4, B5, B6, .inl (.char, v8), .inl (.char, [.int x0, .int x1, .int x2, .int x3, .int x4, .int x5, .int x6]), .inr (0, [(0, .null), (1, .int (0 : Int32))]), .inl (.char, [.int x0.toUInt32.toUInt16.toUInt32.toInt32, .int x1.toUInt32.toUInt16.toUInt32.toInt32]), .inl (.byte, [.int (0 : Int32), .int (0 : Int32)])], 1, 2)) rfl ?_
          refine EW.call (Qc := fun r => r = (some (.int (2 : Int32)), [B0, B1, B2, B3, B4, B5, B6, .inl (.char, v8), .inl (.char, [.int x0, .int x1, .int x2, .int x3, .int x4, .int x5, .int x6]), .inr (0, [(0, .null), (1, .int (0 : Int32))]), .inl (.char, [.int x0.toUInt32.toUInt16.toUInt32.toInt32, .int x1.toUInt32.toUInt16.toUInt32.toInt32]), .inl (.byte, [.int x0.toUInt32.toUInt16.toUInt32.toInt32.toInt8.toInt32.toInt8.toInt32, .int x1.toUInt32.toUInt16.toUInt32.toInt32.toInt8.toInt32.toInt8.toInt32])], 0, 0)) rfl ?_ ?_
          · show EW _ _ _ _ _ ((0, [.val (.ref 10), .val (.int (0 : Int32)), .val (.ref 11), .val (.int (0 : Int32)), .val (.int (2 : Int32)), .unset, .unset], []), [B0, B1, B2, B3, B4, B5, B6, .inl (.char, v8), .inl (.char, [.int x0, .int x1, .int x2, .int x3, .int x4, .int x5, .int x6]), .inr (0, [(0, .null), (1, .int (0 : Int32))]), .inl (.char, [.int x0.toUInt32.toUInt16.toUInt32.toInt32, .int x1.toUInt32.toUInt16.toUInt32.toInt32]), .inl (.byte, [.int (0 : Int32), .int (0 : Int32)])], 0, 0)
            refine EW.run 6 (cf' := ((11, [.val (.ref 10), .val (.int (0 : Int32)), .val (.ref 11), .val (.int (0 : Int32)), .val (.int (2 : Int32)), .val (.int (0 : Int32)), .unset], [.ref 10]), [B0, B1, B2, B3, B4, B5, B6, .inl (.char, v8), .inl (.char, [.int x0, .int x1, .int x2, .int x3, .int x4, .int x5, .int x6]), .inr (0, [(0, .null), (1, .int (0 : Int32))]), .inl (.char, [.int x0.toUInt32.toUInt16.toUInt32.toInt32, .int x1.toUInt32.toUInt16.toUInt32.toInt32]), .inl (.byte, [.int (0 : Int32), .int (0 : Int32)])], 0, 0)) rfl ?_
            refine EW.run 5 (cf' := ((20, [.val (.ref 10), .val (.int (0 : Int32)), .val (.ref 11), .val (.int (0 : Int32)), .val (.int (2 : Int32)), .val (.int (0 : Int32)), .val (.int x0.toUInt32.toUInt16.toUInt32.toInt32)], [.int (255 : Int32), .int x0.toUInt32.toUInt16.toUInt32.toInt32]), [B0, B1, B2, B3, B4, B5, B6, .inl (.char, v8), .inl (.char, [.int x0, .int x1, .int x2, .int x3, .int x4, .int x5, .int x6]), .inr (0, [(0, .null), (1, .int (0 : Int32))]), .inl (.char, [.int x0.toUInt32.toUInt16.toUInt32.toInt32, .int x1.toUInt32.toUInt16.toUInt32.toInt32]), .inl (.byte, [.int (0 : Int32), .int (0 : Int32)])], 0, 0)) rfl ?_
            refine EW.icmpP rfl (by decide) (fun h => ?_) (fun h => ?_)
            · have h2 : x0.toUInt32.toUInt16.toUInt32.toInt32.toInt ≤ (255 : Int32).toInt := by simp only [cP] at h; omega
              clear h
              show EW _ _ _ _ _ ((26, [.val (.ref 10), .val (.int (0 : Int32)), .val (.ref 11), .val (.int (0 : Int32)), .val (.int (2 : Int32)), .val (.int (0 : Int32)), .val (.int x0.toUInt32.toUInt16.toUInt32.toInt32)], []), [B0, B1, B2, B3, B4, B5, B6, .inl (.char, v8), .inl (.char, [.int x0, .int x1, .int x2, .int x3, .int x4, .int x5, .int x6]), .inr (0, [(0, .null), (1, .int (0 : Int32))]), .inl (.char, [.int x0.toUInt32.toUInt16.toUInt32.toInt32, .int x1.toUInt32.toUInt16.toUInt32.toInt32]), .inl (.byte, [.int (0 : Int32), .int (0 : Int32)])], 0, 0)
              refine EW.run 6 (cf' := ((35, [.val (.ref 10), .val (.int (1 : Int32)), .val (.ref 11), .val (.int (0 : Int32)), .val (.int (2 : Int32)), .val (.int (0 : Int32)), .val (.int x0.toUInt32.toUInt16.toUInt32.toInt32)], []), [B0, B1, B2, B3, B4, B5, B6, .inl (.char, v8), .inl (.char, [.int x0, .int x1, .int x2, .int x3, .int x4, .int x5, .int x6]), .inr (0, [(0, .null), (1, .int (0 : Int32))]), .inl (.char, [.int x0.toUInt32.toUInt16.toUInt32.toInt32, .int x1.toUInt32.toUInt16.toUInt32.toInt32]), .inl (.byte, [.int x0.toUInt32.toUInt16.toUInt32.toInt32.toInt8.toInt32.toInt8.toInt32, .int (0 : Int32)])], 0, 0)) rfl ?_
              refine EW.run 6 (cf' := ((10, [.val (.ref 10), .val (.int (1 : Int32)), .val (.ref 11), .val (.int (1 : Int32)), .val (.int (2 : Int32)), .val (.int (1 : Int32)), .val (.int x0.toUInt32.toUInt16.toUInt32.toInt32)], []), [B0, B1, B2, B3, B4, B5, B6, .inl (.char, v8), .inl (.char, [.int x0, .int x1, .int x2, .int x3, .int x4, .int x5, .int x6]), .inr (0, [(0, .null), (1, .int (0 : Int32))]), .inl (.char, [.int x0.toUInt32.toUInt16.toUInt32.toInt32, .int x1.toUInt32.toUInt16.toUInt32.toInt32]), .inl (.byte, [.int x0.toUInt32.toUInt16.toUInt32.toInt32.toInt8.toInt32.toInt8.toInt32, .int (0 : Int32)])], 0, 0)) rfl ?_
              refine EW.run 6 (cf' := ((20, [.val (.ref 10), .val (.int (1 : Int32)), .val (.ref 11), .val (.int (1 : Int32)), .val (.int (2 : Int32)), .val (.int (1 : Int32)), .val (.int x1.toUInt32.toUInt16.toUInt32.toInt32)], [.int (255 : Int32), .int x1.toUInt32.toUInt16.toUInt32.toInt32]), [B0, B1, B2, B3, B4, B5, B6, .inl (.char, v8), .inl (.char, [.int x0, .int x1, .int x2, .int x3, .int x4, .int x5, .int x6]), .inr (0, [(0, .null), (1, .int (0 : Int32))]), .inl (.char, [.int x0.toUInt32.toUInt16.toUInt32.toInt32, .int x1.toUInt32.toUInt16.toUInt32.toInt32]), .inl (.byte, [.int x0.toUInt32.toUInt16.toUInt32.toInt32.toInt8.toInt32.toInt8.toInt32, .int (0 : Int32)])], 0, 0)) rfl ?_
              refine EW.icmpP rfl (by decide) (fun h => ?_) (fun h => ?_)
              · have h3 : x1.toUInt32.toUInt16.toUInt32.toInt32.toInt ≤ (255 : Int32).toInt := by simp only [cP] at h; omega
                clear h
                show EW _ _ _ _ _ ((26, [.val (.ref 10), .val (.int (1 : Int32)), .val (.ref 11), .val (.int (1 : Int32)), .val (.int (2 : Int32)), .val (.int (1 : Int32)), .val (.int x1.toUInt32.toUInt16.toUInt32.toInt32)], []), [B0, B1, B2, B3, B4, B5, B6, .inl (.char, v8), .inl (.char, [.int x0, .int x1, .int x2, .int x3, .int x4, .int x5, .int x6]), .inr (0, [(0, .null), (1, .int (0 : Int32))]), .inl (.char, [.int x0.toUInt32.toUInt16.toUInt32.toInt32, .int x1.toUInt32.toUInt16.toUInt32.toInt32]), .inl (.byte, [.int x0.toUInt32.toUInt16.toUInt32.toInt32.toInt8.toInt32.toInt8.toInt32, .int (0 : Int32)])], 0, 0)
                refine EW.run 6 (cf' := ((35, [.val (.ref 10), .val (.int (2 : Int32)), .val (.ref 11), .val (.int (1 : Int32)), .val (.int (2 : Int32)), .val (.int (1 : Int32)), .val (.int x1.toUInt32.toUInt16.toUInt32.toInt32)], []), [B0, B1, B2, B3, B4, B5, B6, .inl (.char, v8), .inl (.char, [.int x0, .int x1, .int x2, .int x3, .int x4, .int x5, .int x6]), .inr (0, [(0, .null), (1, .int (0 : Int32))]), .inl (.char, [.int x0.toUInt32.toUInt16.toUInt32.toInt32, .int x1.toUInt32.toUInt16.toUInt32.toInt32]), .inl (.byte, [.int x0.toUInt32.toUInt16.toUInt32.toInt32.toInt8.toInt32.toInt8.toInt32, .int x1.toUInt32.toUInt16.toUInt32.toInt32.toInt8.toInt32.toInt8.toInt32])], 0, 0)) rfl ?_
                refine EW.run 6 (cf' := ((44, [.val (.ref 10), .val (.int (2 : Int32)), .val (.ref 11), .val (.int (2 : Int32)), .val (.int (2 : Int32)), .val (.int (2 : Int32)), .val (.int x1.toUInt32.toUInt16.toUInt32.toInt32)], []), [B0, B1, B2, B3, B4, B5, B6, .inl (.char, v8), .inl (.char, [.int x0, .int x1, .int x2, .int x3, .int x4, .int x5, .int x6]), .inr (0, [(0, .null), (1, .int (0 : Int32))]), .inl (.char, [.int x0.toUInt32.toUInt16.toUInt32.toInt32, .int x1.toUInt32.toUInt16.toUInt32.toInt32]), .inl (.byte, [.int x0.toUInt32.toUInt16.toUInt32.toInt32.toInt8.toInt32.toInt8.toInt32, .int x1.toUInt32.toUInt16.toUInt32.toInt32.toInt8.toInt32.toInt8.toInt32])], 0, 0)) rfl ?_
                refine EW.run 1 (cf' := ((46, [.val (.ref 10), .val (.int (2 : Int32)), .val (.ref 11), .val (.int (2 : Int32)), .val (.int (2 : Int32)), .val (.int (2 : Int32)), .val (.int x1.toUInt32.toUInt16.toUInt32.toInt32)], [.int (2 : Int32)]), [B0, B1, B2, B3, B4, B5, B6, .inl (.char, v8), .inl (.char, [.int x0, .int x1, .int x2, .int x3, .int x4, .int x5, .int x6]), .inr (0, [(0, .null), (1, .int (0 : Int32))]), .inl (.char, [.int x0.toUInt32.toUInt16.toUInt32.toInt32, .int x1.toUInt32.toUInt16.toUInt32.toInt32]), .inl (.byte, [.int x0.toUInt32.toUInt16.toUInt32.toInt32.toInt8.toInt32.toInt8.toInt32, .int x1.toUInt32.toUInt16.toUInt32.toInt32.toInt8.toInt32.toInt8.toInt32])], 0, 0)) rfl ?_
                exact EW.ret rfl rfl
              · exfalso; simp only [cP] at h; omega
            · exfalso; simp only [cP] at h; omega
          rintro _ _ _ _ ⟨⟩
          show EW _ _ _ _ _ ((12, [.val (.ref 10), .val (.int (0 : Int32)), .val (.int (2 : Int32)), .val (.ref 11), .unset, .unset], [.int (2 : Int32)]), [B0, B1, B2, B3, B4, B5, B6, .inl (.char, v8), .inl (.char, [.int x0, .int x1, .int x2, .int x3, .int x4, .int x5, .int x6]), .inr (0, [(0, .null), (1, .int (0 : Int32))]), .inl (.char, [.int x0.toUInt32.toUInt16.toUInt32.toInt32, .int x1.toUInt32.toUInt16.toUInt32.toInt32]), .inl (.byte, [.int x0.toUInt32.toUInt16.toUInt32.toInt32.toInt8.toInt32.toInt8.toInt32, .int x1.toUInt32.toUInt16.toUInt32.toInt32.toInt8.toInt32.toInt8.toInt32])], 1, 2)
          refine EW.run 5 (cf' := ((58, [.val (.ref 10), .val (.int (0 : Int32)), .val (.int (2 : Int32)), .val (.ref 11), .val (.int (2 : Int32)), .unset], [.ref 11]), [B0, B1, B2, B3, B4, B5, B6, .inl (.char, v8), .inl (.char, [.int x0, .int x1, .int x2, .int x3, .int x4, .int x5, .int x6]), .inr (0, [(0, .null), (1, .int (0 : Int32))]), .inl (.char, [.int x0.toUInt32.toUInt16.toUInt32.toInt32, .int x1.toUInt32.toUInt16.toUInt32.toInt32]), .inl (.byte, [.int x0.toUInt32.toUInt16.toUInt32.toInt32.toInt8.toInt32.toInt8.toInt32, .int x1.toUInt32.toUInt16.toUInt32.toInt32.toInt8.toInt32.toInt8.toInt32])], 1, 2)) rfl ?_
          exact EW.ret rfl rfl
        rintro _ _ _ _ ⟨⟩
        show EW _ _ _ _ _ ((39, [.val (.ref 9), .val (.ref 10), .val (.int (0 : Int32)), .val (.int (2 : Int32)), .val (.null), .unset], [.ref 11]), [B0, B1, B2, B3, B4, B5, B6, .inl (.char, v8), .inl (.char, [.int x0, .int x1, .int x2, .int x3, .int x4, .int x5, .int x6]), .inr (0, [(0, .null), (1, .int (0 : Int32))]), .inl (.char, [.int x0.toUInt32.toUInt16.toUInt32.toInt32, .int x1.toUInt32.toUInt16.toUInt32.toInt32]), .inl (.byte, [.int x0.toUInt32.toUInt16.toUInt32.toInt32.toInt8.toInt32.toInt8.toInt32, .int x1.toUInt32.toUInt16.toUInt32.toInt32.toInt8.toInt32.toInt8.toInt32])], 1, 2)
        refine EW.run 4 (cf' := ((45, [.val (.ref 9), .val (.ref 10), .val (.int (0 : Int32)), .val (.int (2 : Int32)), .val (.null), .val (.ref 11)], [.int (2 : Int32), .ref 11, .ref 9]), [B0, B1, B2, B3, B4, B5, B6, .inl (.char, v8), .inl (.char, [.int x0, .int x1, .int x2, .int x3, .int x4, .int x5, .int x6]), .inr (0, [(0, .null), (1, .int (0 : Int32))]), .inl (.char, [.int x0.toUInt32.toUInt16.toUInt32.toInt32, .int x1.toUInt32.toUInt16.toUInt32.toInt32]), .inl (.byte, [.int x0.toUInt32.toUInt16.toUInt32.toInt32.toInt8.toInt32.toInt8.toInt32, .int x1.toUInt32.toUInt16.toUInt32.toInt32.toInt8.toInt32.toInt8.toInt32])], 1, 2)) rfl ?_
        refine EW.call (Qc := fun r => r = (some (.int 0), [B0, B1, B2, B3, B4, B5, B6, .inl (.char, v8), .inl (.char, [.int x0, .int x1, .int x2, .int x3, .int x4, .int x5, .int x6]), .inr (0, [(0, .null), (1, .int (0 : Int32))]), .inl (.char, [.int x0.toUInt32.toUInt16.toUInt32.toInt32, .int x1.toUInt32.toUInt16.toUInt32.toInt32]), .inl (.byte, [.int x0.toUInt32.toUInt16.toUInt32.toInt32.toInt8.toInt32.toInt8.toInt32, .int x1.toUInt32.toUInt16.toUInt32.toInt32.toInt8.toInt32.toInt8.toInt32])], 0, 0)) rfl ?_ ?_
        · exact cod (p := 11) (n := (2 : Int32)) rfl (by show nar .byte ((XT.ushr ((2 : Int32) - (2 : Int32)) ((Int8.ofInt 31).toInt32)).toInt8.toInt32) = 0; decide)
        rintro _ _ _ _ ⟨⟩
        show EW _ _ _ _ _ ((48, [.val (.ref 9), .val (.ref 10), .val (.int (0 : Int32)), .val (.int (2 : Int32)), .val (.null), .val (.ref 11)], [.int (0 : Int32), .ref 9]), [B0, B1, B2, B3, B4, B5, B6, .inl (.char, v8), .inl (.char, [.int x0, .int x1, .int x2, .int x3, .int x4, .int x5, .int x6]), .inr (0, [(0, .null), (1, .int (0 : Int32))]), .inl (.char, [.int x0.toUInt32.toUInt16.toUInt32.toInt32, .int x1.toUInt32.toUInt16.toUInt32.toInt32]), .inl (.byte, [.int x0.toUInt32.toUInt16.toUInt32.toInt32.toInt8.toInt32.toInt8.toInt32, .int x1.toUInt32.toUInt16.toUInt32.toInt32.toInt8.toInt32.toInt8.toInt32])], 1, 2)
        refine EW.run 4 (cf' := ((57, [.val (.ref 9), .val (.ref 10), .val (.int (0 : Int32)), .val (.int (2 : Int32)), .val (.null), .val (.ref 11)], []), [B0, B1, B2, B3, B4, B5, B6, .inl (.char, v8), .inl (.char, [.int x0, .int x1, .int x2, .int x3, .int x4, .int x5, .int x6]), .inr (0, [(0, .ref 11), (1, .int (0 : Int32))]), .inl (.char, [.int x0.toUInt32.toUInt16.toUInt32.toInt32, .int x1.toUInt32.toUInt16.toUInt32.toInt32]), .inl (.byte, [.int x0.toUInt32.toUInt16.toUInt32.toInt32.toInt8.toInt32.toInt8.toInt32, .int x1.toUInt32.toUInt16.toUInt32.toInt32.toInt8.toInt32.toInt8.toInt32])], 1, 2)) rfl ?_
        exact EW.ret rfl rfl
    rintro _ _ _ _ ⟨⟩
    show EW _ _ _ _ _ ((9, [.val (.ref 9), .val (.ref 10)], []), [B0, B1, B2, B3, B4, B5, B6, .inl (.char, v8), .inl (.char, [.int x0, .int x1, .int x2, .int x3, .int x4, .int x5, .int x6]), .inr (0, [(0, .ref 11), (1, .int (0 : Int32))]), .inl (.char, [.int x0.toUInt32.toUInt16.toUInt32.toInt32, .int x1.toUInt32.toUInt16.toUInt32.toInt32]), .inl (.byte, [.int x0.toUInt32.toUInt16.toUInt32.toInt32.toInt8.toInt32.toInt8.toInt32, .int x1.toUInt32.toUInt16.toUInt32.toInt32.toInt8.toInt32.toInt8.toInt32])], 1, 2)
    exact EW.ret rfl rfl
  rintro _ _ _ _ ⟨⟩
  show EW _ _ _ _ _ ((64, [.val (.ref 8), .val (.int (2 : Int32))], [.ref 9]), [B0, B1, B2, B3, B4, B5, B6, .inl (.char, v8), .inl (.char, [.int x0, .int x1, .int x2, .int x3, .int x4, .int x5, .int x6]), .inr (0, [(0, .ref 11), (1, .int (0 : Int32))]), .inl (.char, [.int x0.toUInt32.toUInt16.toUInt32.toInt32, .int x1.toUInt32.toUInt16.toUInt32.toInt32]), .inl (.byte, [.int x0.toUInt32.toUInt16.toUInt32.toInt32.toInt8.toInt32.toInt8.toInt32, .int x1.toUInt32.toUInt16.toUInt32.toInt32.toInt8.toInt32.toInt8.toInt32])], 3, 8)
  exact EW.ret rfl rfl
set_option maxHeartbeats 8000000 in
theorem cut_3 {cs : Int32} (hcs : cs.toInt ≠ 0) (v8 : List Value) (x0 x1 x2 x3 x4 x5 x6 : Int32) (h0x : okc x0) (h1x : okc x1) (h2x : okc x2) (h3x : okc x3) (h4x : okc x4) (h5x : okc x5) (h6x : okc x6) : Eng.EW (gG cs 7 N0) 7 179 m1 (fun r => r = (some (.ref 9), [B0, B1, B2, B3, B4, B5, B6, .inl (.char, v8), .inl (.char, [.int x0, .int x1, .int x2, .int x3, .int x4, .int x5, .int x6]), .inr (0, [(0, .ref 11), (1, .int (0 : Int32))]), .inl (.char, [.int x0.toUInt32.toUInt16.toUInt32.toInt32, .int x1.toUInt32.toUInt16.toUInt32.toInt32, .int x2.toUInt32.toUInt16.toUInt32.toInt32]), .inl (.byte, [.int x0.toUInt32.toUInt16.toUInt32.toInt32.toInt8.toInt32.toInt8.toInt32, .int x1.toUInt32.toUInt16.toUInt32.toInt32.toInt8.toInt32.toInt8.toInt32, .int x2.toUInt32.toUInt16.toUInt32.toInt32.toInt8.toInt32.toInt8.toInt32])], 3, 10)) ((0, entL [.ref 8, .int 3] 2, []), [B0, B1, B2, B3, B4, B5, B6, .inl (.char, v8), .inl (.char, [.int x0, .int x1, .int x2, .int x3, .int x4, .int x5, .int x6])], 0, 0) := by
  unfold okc at h0x h1x h2x h3x h4x h5x h6x
  show Eng.EW _ _ _ _ _ ((0, [.val (.ref 8), .val (.int (3 : Int32))], []), [B0, B1, B2, B3, B4, B5, B6, .inl (.char, v8), .inl (.char, [.int x0, .int x1, .int x2, .int x3, .int x4, .int x5, .int x6])], 0, 0)
  refine EW.run 6 (cf' := ((38, [.val (.ref 8), .val (.int (3 : Int32))], [.int (3 : Int32)]), [B0, B1, B2, B3, B4, B5, B6, .inl (.char, v8), .inl (.char, [.int x0, .int x1, .int x2, .int x3, .int x4, .int x5, .int x6])], 0, 0)) rfl ?_
  refine EW.run 6 (cf' := ((73, [.val (.ref 8), .val (.int (3 : Int32))], [.ref 9]), [B0, B1, B2, B3, B4, B5, B6, .inl (.char, v8), .inl (.char, [.int x0, .int x1, .int x2, .int x3, .int x4, .int x5, .int x6]), .inr (0, [(0, .null), (1, .int (0 : Int32))])], 1, 4)) rfl ?_
  refine EW.run 6 (cf' := ((80, [.val (.ref 8), .val (.int (3 : Int32))], [.ref 8, .int (0 : Int32), .ref 10, .ref 10, .ref 9, .ref 9]), [B0, B1, B2, B3, B4, B5, B6, .inl (.char, v8), .inl (.char, [.int x0, .int x1, .int x2, .int x3, .int x4, .int x5, .int x6]), .inr (0, [(0, .null), (1, .int (0 : Int32))]), .inl (.char, [.int (0 : Int32), .int (0 : Int32), .int (0 : Int32)])], 2, 7)) rfl ?_
  refine EW.run 6 (cf' := ((86, [.val (.ref 8), .val (.int (3 : Int32))], [.ref 8, .int (1 : Int32), .ref 10, .ref 10, .ref 9, .ref 9]), [B0, B1, B2, B3, B4, B5, B6, .inl (.char, v8), .inl (.char, [.int x0, .int x1, .int x2, .int x3, .int x4, .int x5, .int x6]), .inr (0, [(0, .null), (1, .int (0 : Int32))]), .inl (.char, [.int x0.toUInt32.toUInt16.toUInt32.toInt32, .int (0 : Int32), .int (0 : Int32)])], 2, 7)) rfl ?_
  refine EW.run 6 (cf' := ((92, [.val (.ref 8), .val (.int (3 : Int32))], [.ref 8, .int (2 : Int32), .ref 10, .ref 10, .ref 9, .ref 9]), [B0, B1, B2, B3, B4, B5, B6, .inl (.char, v8), .inl (.char, [.int x0, .int x1, .int x2, .int x3, .int x4, .int x5, .int x6]), .inr (0, [(0, .null), (1, .int (0 : Int32))]), .inl (.char, [.int x0.toUInt32.toUInt16.toUInt32.toInt32, .int x1.toUInt32.toUInt16.toUInt32.toInt32, .int (0 : Int32)])], 2, 7)) rfl ?_
  refine EW.run 3 (cf' := ((95, [.val (.ref 8), .val (.int (3 : Int32))], [.ref 10, .ref 9, .ref 9]), [B0, B1, B2, B3, B4, B5, B6, .inl (.char, v8), .inl (.char, [.int x0, .int x1, .int x2, .int x3, .int x4, .int x5, .int x6]), .inr (0, [(0, .null), (1, .int (0 : Int32))]), .inl (.char, [.int x0.toUInt32.toUInt16.toUInt32.toInt32, .int x1.toUInt32.toUInt16.toUInt32.toInt32, .int x2.toUInt32.toUInt16.toUInt32.toInt32])], 2, 7)) rfl ?_
  refine EW.call (Qc := fun r => r = (none, [B0, B1, B2, B3, B4, B5, B6, .inl (.char, v8), .inl (.char, [.int x0, .int x1, .int x2, .int x3, .int x4, .int x5, .int x6]), .inr (0, [(0, .ref 11), (1, .int (0 : Int32))]), .inl (.char, [.int x0.toUInt32.toUInt16.toUInt32.toInt32, .int x1.toUInt32.toUInt16.toUInt32.toInt32, .int x2.toUInt32.toUInt16.toUInt32.toInt32]), .inl (.byte, [.int x0.toUInt32.toUInt16.toUInt32.toInt32.toInt8.toInt32.toInt8.toInt32, .int x1.toUInt32.toUInt16.toUInt32.toInt32.toInt8.toInt32.toInt8.toInt32, .int x2.toUInt32.toUInt16.toUInt32.toInt32.toInt8.toInt32.toInt8.toInt32])], 1, 3)) rfl ?_ ?_
  · show EW _ _ _ _ _ ((0, [.val (.ref 9), .val (.ref 10)], []), [B0, B1, B2, B3, B4, B5, B6, .inl (.char, v8), .inl (.char, [.int x0, .int x1, .int x2, .int x3, .int x4, .int x5, .int x6]), .inr (0, [(0, .null), (1, .int (0 : Int32))]), .inl (.char, [.int x0.toUInt32.toUInt16.toUInt32.toInt32, .int x1.toUInt32.toUInt16.toUInt32.toInt32, .int x2.toUInt32.toUInt16.toUInt32.toInt32])], 0, 0)
    refine EW.run 6 (cf' := ((6, [.val (.ref 9), .val (.ref 10)], [.null, .int (3 : Int32), .int (0 : Int32), .ref 10, .ref 9]), [B0, B1, B2, B3, B4, B5, B6, .inl (.char, v8), .inl (.char, [.int x0, .int x1, .int x2, .int x3, .int x4, .int x5, .int x6]), .inr (0, [(0, .null), (1, .int (0 : Int32))]), .inl (.char, [.int x0.toUInt32.toUInt16.toUInt32.toInt32, .int x1.toUInt32.toUInt16.toUInt32.toInt32, .int x2.toUInt32.toUInt16.toUInt32.toInt32])], 0, 0)) rfl ?_
    refine EW.call (Qc := fun r => r = (none, [B0, B1, B2, B3, B4, B5, B6, .inl (.char, v8), .inl (.char, [.int x0, .int x1, .int x2, .int x3, .int x4, .int x5, .int x6]), .inr (0, [(0, .ref 11), (1, .int (0 : Int32))]), .inl (.char, [.int x0.toUInt32.toUInt16.toUInt32.toInt32, .int x1.toUInt32.toUInt16.toUInt32.toInt32, .int x2.toUInt32.toUInt16.toUInt32.toInt32]), .inl (.byte, [.int x0.toUInt32.toUInt16.toUInt32.toInt32.toInt8.toInt32.toInt8.toInt32, .int x1.toUInt32.toUInt16.toUInt32.toInt32.toInt8.toInt32.toInt8.toInt32, .int x2.toUInt32.toUInt16.toUInt32.toInt32.toInt8.toInt32.toInt8.toInt32])], 1, 3)) rfl ?_ ?_
    · show EW _ _ _ _ _ ((0, [.val (.ref 9), .val (.ref 10), .val (.int (0 : Int32)), .val (.int (3 : Int32)), .val (.null), .unset], []), [B0, B1, B2, B3, B4, B5, B6, .inl (.char, v8), .inl (.char, [.int x0, .int x1, .int x2, .int x3, .int x4, .int x5, .int x6]), .inr (0, [(0, .null), (1, .int (0 : Int32))]), .inl (.char, [.int x0.toUInt32.toUInt16.toUInt32.toInt32, .int x1.toUInt32.toUInt16.toUInt32.toInt32, .int x2.toUInt32.toUInt16.toUInt32.toInt32])], 0, 0)
      refine EW.run 5 (cf' := ((30, [.val (.ref 9), .val (.ref 10), .val (.int (0 : Int32)), .val (.int (3 : Int32)), .val (.null), .unset], [.int cs]), [B0, B1, B2, B3, B4, B5, B6, .inl (.char, v8), .inl (.char, [.int x0, .int x1, .int x2, .int x3, .int x4, .int x5, .int x6]), .inr (0, [(0, .null), (1, .int (0 : Int32))]), .inl (.char, [.int x0.toUInt32.toUInt16.toUInt32.toInt32, .int x1.toUInt32.toUInt16.toUInt32.toInt32, .int x2.toUInt32.toUInt16.toUInt32.toInt32])], 0, 0)) rfl ?_
      refine EW.ifP rfl (by decide) (fun h => ?_) (fun h => ?_)
      · exfalso; simp only [cP] at h; omega
      · have h1 : cs.toInt ≠ 0 := by simp only [cP] at h; omega
        clear h
        show EW _ _ _ _ _ ((33, [.val (.ref 9), .val (.ref 10), .val (.int (0 : Int32)), .val (.int (3 : Int32)), .val (.null), .unset], []), [B0, B1, B2, B3, B4, B5, B6, .inl (.char, v8), .inl (.char, [.int x0, .int x1, .int x2, .int x3, .int x4, .int x5, .int x6]), .inr (0, [(0, .null), (1, .int (0 : Int32))]), .inl (.char, [.int x0.toUInt32.toUInt16.toUInt32.toInt32, .int x1.toUInt32.toUInt16.toUInt32.toInt32, .int x2.toUInt32.toUInt16.toUInt32.toInt32])], 0, 0)
        refine EW.run 3 (cf' := ((36, [.val (.ref 9), .val (.ref 10), .val (.int (0 : Int32)), .val (.int (3 : Int32)), .val (.null), .unset], [.int (3 : Int32), .int (0 : Int32), .ref 10]), [B0, B1, B2, B3, B4, B5, B6, .inl (.char, v8), .inl (.char, [.int x0, .int x1, .int x2, .int x3, .int x4, .int x5, .int x6]), .inr (0, [(0, .null), (1, .int (0 : Int32))]), .inl (.char, [.int x0.toUInt32.toUInt16.toUInt32.toInt32, .int x1.toUInt32.toUInt16.toUInt32.toInt32, .int x2.toUInt32.toUInt16.toUInt32.toInt32])], 0, 0)) rfl ?_
        refine EW.call (Qc := fun r => r = (some (.ref 11), [B0, B1, B2, B3, B4, B5, B6, .inl (.char, v8), .inl (.char, [.int x0, .int x1, .int x2, .int x3, .int x4, .int x5, .int x6]), .inr (0, [(0, .null), (1, .int (0 : Int32))]), .inl (.char, [.int x0.toUInt32.toUInt16.toUInt32.toInt32, .int x1.toUInt32.toUInt16.toUInt32.toInt32, .int x2.toUInt32.toUInt16.toUInt32.toInt32]), .inl (.byte, [.int x0.toUInt32.toUInt16.toUInt32.toInt32.toInt8.toInt32.toInt8.toInt32, .int x1.toUInt32.toUInt16.toUInt32.toInt32.toInt8.toInt32.toInt8.toInt32, .int x2.toUInt32.toUInt16.toUInt32.toInt32.toInt8.toInt32.toInt8.toInt32])], 1, 3)) rfl ?_ ?_
        · show EW _ _ _ _ _ ((0, [.val (.ref 10), .val (.int (0 : Int32)), .val (.int (3 : Int32)), .unset, .unset, .unset], []), [B0, B1, B2, B3, B4, B5, B6, .inl (.char, v8), .inl (.char, [.int x0, .int x1, .int x2, .int x3, .int x4, .int x5, .int x6]), .inr (0, [(0, .null), (1, .int (0 : Int32))]), .inl (.char, [.int x0.toUInt32.toUInt16.toUInt32.toInt32, .int x1.toUInt32.toUInt16.toUInt32.toInt32, .int x2.toUInt32.toUInt16.toUInt32.toInt32])], 0, 0)
          refine EW.run 6 (cf' := ((7, [.val (.ref 10), .val (.int (0 : Int32)), .val (.int (3 : Int32)), .val (.ref 11), .unset, .unset], [.ref 11, .int (0 : Int32), .ref 10]), [B0, B1, B2, B3, B4, B5, B6, .inl (.char, v8), .inl (.char, [.int x0, .int x1, .int x2, .int x3, .int x4, .int x5, .int x6]), .inr (0, [(0, .null), (1, .int (0 : Int32))]), .inl (.char, [.int x0.toUInt32.toUInt16.toUInt32.toInt32, .int x1.toUInt32.toUInt16.toUInt32.toInt32, .int x2.toUInt32.toUInt16.toUInt32.toInt32]), .inl (.byte, [.int (0 : Int32), .int (0 : Int32), .int (0 : Int32)])], 1, 3)) rfl ?_
          refine EW.run 2 (cf' := ((9, [.val (.ref 10), .val (.int (0 : Int32)), .val (.int (3 : Int32)), .val (.ref 11), .unset, .unset], [.int (3 : Int32), .int (0 : Int32), .ref 11, .int (0 : Int32), .ref 10]), [B0, B1, B2, B3, B4, B5, B6, .inl (.char, v8), .inl (.char, [.int x0, .int x1, .int x2, .int x3, .int x4, .int x5, .int x6]), .inr (0, [(0, .null), (1, .int (0 : Int32))]), .inl (.char, [.int x0.toUInt32.toUInt16.toUInt32.toInt32, .int x1.toUInt32.toUInt16.toUInt32.toInt32, .int x2.toUInt32.toUInt16.toUInt32.toInt32]), .inl (.byte, [.int (0 : Int32), .int (0 : Int32), .int (0 : Int32)])], 1, 3)) rfl ?_
          refine EW.call (Qc := fun r => r = (some (.int (3 : Int32)), [B0, B1, B2, B3, B4, B5, B6, .inl (.char, v8), .inl (.char, [.int x0, .int x1, .int x2, .int x3, .int x4, .int x5, .int x6]), .inr (0, [(0, .null), (1, .int (0 : Int32))]), .inl (.char, [.int x0.toUInt32.toUInt16.toUInt32.toInt32, .int x1.toUInt32.toUInt16.toUInt32.toInt32, .int x2.toUInt32.toUInt16.toUInt32.toInt32]), .inl (.byte, [.int x0.toUInt32.toUInt16.toUInt32.toInt32.toInt8.toInt32.toInt8.toInt32, .int x1.toUInt32.toUInt16.toUInt32.toInt32.toInt8.toInt32.toInt8.toInt32, .int x2.toUInt32.toUInt16.toUInt32.toInt32.toInt8.toInt32.toInt8.toInt32])], 0, 0)) rfl ?_ ?_
          · show EW _ _ _ _ _ ((0, [.val (.ref 10), .val (.int (0 : Int32)), .val (.ref 11), .val (.int (0 : Int32)), .val (.int (3 : Int32)), .unset, .unset], []), [B0, B1, B2, B3, B4, B5, B6, .inl (.char, v8), .inl (.char, [.int x0, .int x1, .int x2, .int x3, .int x4, .int x5, .int x6]), .inr (0, [(0, .null), (1, .int (0 : Int32))]), .inl (.char, [.int x0.toUInt32.toUInt16.toUInt32.toInt32, .int x1.toUInt32.toUInt16.toUInt32.toInt32, .int x2.toUInt32.toUInt16.toUInt32.toInt32]), .inl (.byte, [.int (0 : Int32), .int (0 : Int32), .int (0 : Int32)])], 0, 0)
            refine EW.run 6 (cf' := ((11, [.val (.ref 10), .val (.int (0 : Int32)), .val (.ref 11), .val (.int (0 : Int32)), .val (.int (3 : Int32)), .val (.int (0 : Int32)), .unset], [.ref 10]), [B0, B1, B2, B3, B4, B5, B6, .inl (.char, v8), .inl (.char, [.int x0, .int x1, .int x2, .int x3, .int x4, .int x5, .int x6]), .inr (0, [(0, .null), (1, .int (0 : Int32))]), .inl (.char, [.int x0.toUInt32.toUInt16.toUInt32.toInt32, .int x1.toUInt32.toUInt16.toUInt32.toInt32, .int x2.toUInt32.toUInt16.toUInt32.toInt32]), .inl (.byte, [.int (0 : Int32), .int (0 : Int32), .int (0 : Int32)])], 0, 0)) rfl ?_
            refine EW.run 5 (cf' := ((20, [.val (.ref 10), .val (.int (0 : Int32)), .val (.ref 11), .val (.int (0 : Int32)), .val (.int (3 : Int32)), .val (.int (0 : Int32)), .val (.int x0.toUInt32.toUInt16.toUInt32.toInt32)], [.int (255 : Int32), .int x0.toUInt32.toUInt16.toUInt32.toInt32]), [B0, B1, B2, B3, B4, B5, B6, .inl (.char, v8), .inl (.char, [.int x0, .int x1, .int x2, .int x3, .int x4, .int x5, .int x6]), .inr (0, [(0, .null), (1, .int (0 : Int32))]), .inl (.char, [.int x0.toUInt32.toUInt16.toUInt32.toInt32, .int x1.toUInt32.toUInt16.toUInt32.toInt32, .int x2.toUInt32.toUInt16.toUInt32.toInt32]), .inl (.byte, [.int (0 : Int32), .int (0 : Int32), .int (0 : Int32)])], 0, 0)) rfl ?_
            refine EW.icmpP rfl (by decide) (fun h => ?_) (fun h => ?_)
            · have h2 : x0.toUInt32.toUInt16.toUInt32.toInt32.toInt ≤ (255 : Int32).toInt := by simp only [cP] at h; omega
              clear h
              show EW _ _ _ _ _ ((26, [.val (.ref 10), .val (.int (0 : Int32)), .val (.ref 11), .val (.int (0 : Int32)), .val (.int (3 : Int32)), .val (.int (0 : Int32)), .val (.int x0.toUInt32.toUInt16.toUInt32.toInt32)], []), [B0, B1, B2, B3, B4, B5, B6, .inl (.char, v8), .inl (.char, [.int x0, .int x1, .int x2, .int x3, .int x4, .int x5, .int x6]), .inr (0, [(0, .null), (1, .int (0 : Int32))]), .inl (.char, [.int x0.toUInt32.toUInt16.toUInt32.toInt32, .int x1.toUInt32.toUInt16.toUInt32.toInt32, .int x2.toUInt32.toUInt16.toUInt32.toInt32]), .inl (.byte, [.int (0 : Int32), .int (0 : Int32), .int (0 : Int32)])], 0, 0)
              refine EW.run 6 (cf' := ((35, [.val (.ref 10), .val (.int (1 : Int32)), .val (.ref 11), .val (.int (0 : Int32)), .val (.int (3 : Int32)), .val (.int (0 : Int32)), .val (.int x0.toUInt32.toUInt16.toUInt32.toInt32)], []), [B0, B1, B2, B3, B4, B5, B6, .inl (.char, v8), .inl (.char, [.int x0, .int x1, .int x2, .int x3, .int x4, .int x5, .int x6]), .inr (0, [(0, .null), (1, .int (0 : Int32))]), .inl (.char, [.int x0.toUInt32.toUInt16.toUInt32.toInt32, .int x1.toUInt32.toUInt16.toUInt32.toInt32, .int x2.toUInt32.toUInt16.toUInt32.toInt32]), .inl (.byte, [.int x0.toUInt32.toUInt16.toUInt32.toInt32.toInt8.toInt32.toInt8.toInt32, .int (0 : Int32), .int (0 : Int32)])], 0, 0)) rfl ?_
              refine EW.run 6 (cf' := ((10, [.val (.ref 10), .val (.int (1 : Int32)), .val (.ref 11), .val (.int (1 : Int32)), .val (.int (3 : Int32)), .val (.int (1 : Int32)), .val (.int x0.toUInt32.toUInt16.toUInt32.toInt32)], []), [B0, B1, B2, B3, B4, B5, B6, .inl (.char, v8), .inl (.char, [.int x0, .int x1, .int x2, .int x3, .int x4, .int x5, .int x6]), .inr (0, [(0, .null), (1, .int (0 : Int32))]), .inl (.char, [.int x0.toUInt32.toUInt16.toUInt32.toInt32, .int x1.toUInt32.toUInt16.toUInt32.toInt32, .int x2.toUInt32.toUInt16.toUInt32.toInt32]), .inl (.byte, [.int x0.toUInt32.toUInt16.toUInt32.toInt32.toInt8.toInt32.toInt8.toInt32, .int (0 : Int32), .int (0 : Int32)])], 0, 0)) rfl ?_
              refine EW.run 6 (cf' := ((20, [.val (.ref 10), .val (.int (1 : Int32)), .val (.ref 11), .val (.int (1 : Int32)), .val (.int (3 : Int32)), .val (.int (1 : Int32)), .val (.int x1.toUInt32.toUInt16.toUInt32.toInt32)], [.int (255 : Int32), .int x1.toUInt32.toUInt16.toUInt32.toInt32]), [B0, B1, B2, B3, B4, B5, B6, .inl (.char, v8), .inl (.char, [.int x0, .int x1, .int x2, .int x3, .int x4, .int x5, .int x6]), .inr (0, [(0, .null), (1, .int (0 : Int32))]), .inl (.char, [.int x0.toUInt32.toUInt16.toUInt32.toInt32, .int x1.toUInt32.toUInt16.toUInt32.toInt32, .int x2.toUInt32.toUInt16.toUInt32.toInt32]), .inl (.byte, [.int x0.toUInt32.toUInt16.toUInt32.toInt32.toInt8.toInt32.toInt8.toInt32, .int (0 : Int32), .int (0 : Int32)])], 0, 0)) rfl ?_
              refine EW.icmpP rfl (by decide) (fun h => ?_) (fun h => ?_)
              · have h3 : x1.toUInt32.toUInt16.toUInt32.toInt32.toInt ≤ (255 : Int32).toInt := by simp only [cP] at h; omega
                clear h
                show EW _ _ _ _ _ ((26, [.val (.ref 10), .val (.int (1 : Int32)), .val (.ref 11), .val (.int (1 : Int32)), .val (.int (3 : Int32)), .val (.int (1 : Int32)), .val (.int x1.toUInt32.toUInt16.toUInt32.toInt32)], []), [B0, B1, B2, B3, B4, B5, B6, .inl (.char, v8), .inl (.char, [.int x0, .int x1, .int x2, .int x3, .int x4, .int x5, .int x6]), .inr (0, [(0, .null), (1, .int (0 : Int32))]), .inl (.char, [.int x0.toUInt32.toUInt16.toUInt32.toInt32, .int x1.toUInt32.toUInt16.toUInt32.toInt32, .int x2.toUInt32.toUInt16.toUInt32.toInt32]), .inl (.byte, [.int x0.toUInt32.toUInt16.toUInt32.toInt32.toInt8.toInt32.toInt8.toInt32, .int (0 : Int32), .int (0 : Int32)])], 0, 0)
                refine EW.run 6 (cf' := ((35, [.val (.ref 10), .val (.int (2 : Int32)), .val (.ref 11), .val (.int (1 : Int32)), .val (.int (3 : Int32)), .val (.int (1 : Int32)), .val (.int x1.toUInt32.toUInt16.toUInt32.toInt32)], []), [B0, B1, B2, B3, B4, B5, B6, .inl (.char, v8), .inl (.char, [.int x0, .int x1, .int x2, .int x3, .int x4, .int x5, .int x6]), .inr (0, [(0, .null), (1, .int (0 : Int32))]), .inl (.char, [.int x0.toUInt32.toUInt16.toUInt32.toInt32, .int x1.toUInt32.toUInt16.toUInt32.toInt32, .int x2.toUInt32.toUInt16.toUInt32.toInt32]), .inl (.byte, [.int x0.toUInt32.toUInt16.toUInt32.toInt32.toInt8.toInt32.toInt8.toInt32, .int x1.toUInt32.toUInt16.toUInt32.toInt32.toInt8.toInt32.toInt8.toInt32, .int (0 : Int32)])], 0, 0)) rfl ?_
                refine EW.run 6 (cf' := ((10, [.val (.ref 10), .val (.int (2 : Int32)), .val (.ref 11), .val (.int (2 : Int32)), .val (.int (3 : Int32)), .val (.int (2 : Int32)), .val (.int x1.toUInt32.toUInt16.toUInt32.toInt32)], []), [B0, B1, B2, B3, B4, B5, B6, .inl (.char, v8), .inl (.char, [.int x0, .int x1, .int x2, .int x3, .int x4, .int x5, .int x6]), .inr (0, [(0, .null), (1, .int (0 : Int32))]), .inl (.char, [.int x0.toUInt32.toUInt16.toUInt32.toInt32, .int x1.toUInt32.toUInt16.toUInt32.toInt32, .int x2.toUInt32.toUInt16.toUInt32.toInt32]), .inl (.byte, [.int x0.toUInt32.toUInt16.toUInt32.toInt32.toInt8.toInt32.toInt8.toInt32, .int x1.toUInt32.toUInt16.toUInt32.toInt32.toInt8.toInt32.toInt8.toInt32, .int (0 : Int32)])], 0, 0)) rfl ?_
                refine EW.run 6 (cf' := ((20, [.val (.ref 10), .val (.int (2 : Int32)), .val (.ref 11), .val (.int (2 : Int32)), .val (.int (3 : Int32)), .val (.int (2 : Int32)), .val (.int x2.toUInt32.toUInt16.toUInt32.toInt32)], [.int (255 : Int32), .int x2.toUInt32.toUInt16.toUInt32.toInt32]), [B0, B1, B2, B3, B4, B5, B6, .inl (.char, v8), .inl (.char, [.int x0, .int x1, .int x2, .int x3, .int x4, .int x5, .int x6]), .inr (0, [(0, .null), (1, .int (0 : Int32))]), .inl (.char, [.int x0.toUInt32.toUInt16.toUInt32.toInt32, .int x1.toUInt32.toUInt16.toUInt32.toInt32, .int x2.toUInt32.toUInt16.toUInt32.toInt32]), .inl (.byte, [.int x0.toUInt32.toUInt16.toUInt32.toInt32.toInt8.toInt32.toInt8.toInt32, .int x1.toUInt32.toUInt16.toUInt32.toInt32.toInt8.toInt32.toInt8.toInt32, .int (0 : Int32)])], 0, 0)) rfl ?_
                refine EW.icmpP rfl (by decide) (fun h => ?_) (fun h => ?_)
                · have h4 : x2.toUInt32.toUInt16.toUInt32.toInt32.toInt ≤ (255 : Int32).toInt := by simp only [cP] at h; omega
                  clear h
                  show EW _ _ _ _ _ ((26, [.val (.ref 10), .val (.int (2 : Int32)), .val (.ref 11), .val (.int (2 : Int32)), .val (.int (3 : Int32)), .val (.int (2 : Int32)), .val (.int x2.toUInt32.toUInt16.toUInt32.toInt32)], []), [B0, B1, B2, B3, B4, B5, B6, .inl (.char, v8), .inl (.char, [.int x0, .int x1, .int x2, .int x3, .int x4, .int x5, .int x6]), .inr (0, [(0, .null), (1, .int (0 : Int32))]), .inl (.char, [.int x0.toUInt32.toUInt16.toUInt32.toInt32, .int x1.toUInt32.toUInt16.toUInt32.toInt32, .int x2.toUInt32.toUInt16.toUInt32.toInt32]), .inl (.byte, [.int x0.toUInt32.toUInt16.toUInt32.toInt32.toInt8.toInt32.toInt8.toInt32, .int x1.toUInt32.toUInt16.toUInt32.toInt32.toInt8.toInt32.toInt8.toInt32, .int (0 : Int32)])], 0, 0)
                  refine EW.run 6 (cf' := ((35, [.val (.ref 10), .val (.int (3 : Int32)), .val (.ref 11), .val (.int (2 : Int32)), .val (.int (3 : Int32)), .val (.int (2 : Int32)), .val (.int x2.toUInt32.toUInt16.toUInt32.toInt32)], []), [B0, B1, B2, B3, B4, B5, B6, .inl (.char, v8), .inl (.char, [.int x0, .int x1, .int x2, .int x3, .int x4, .int x5, .int x6]), .inr (0, [(0, .null), (1, .int (0 : Int32))]), .inl (.char, [.int x0.toUInt32.toUInt16.toUInt32.toInt32, .int x1.toUInt32.toUInt16.toUInt32.toInt32, .int x2.toUInt32.toUInt16.toUInt32.toInt32]), .inl (.byte, [.int x0.toUInt32.toUInt16.toUInt32.toInt32.toInt8.toInt32.toInt8.toInt32, .int x1.toUInt32.toUInt16.toUInt32.toInt32.toInt8.toInt32.toInt8.toInt32, .int x2.toUInt32.toUInt16.toUInt32.toInt32.toInt8.toInt32.toInt8.toInt32])], 0, 0)) rfl ?_
                  refine EW.run 6 (cf' := ((44, [.val (.ref 10), .val (.int (3 : Int32)), .val (.ref 11), .val (.int (3 : Int32)), .val (.int (3 : Int32)), .val (.int (3 : Int32)), .val (.int x2.toUInt32.toUInt16.toUInt32.toInt32)], []), [B0, B1, B2, B3, B4, B5, B6, .inl (.char, v8), .inl (.char, [.int x0, .int x1, .int x2, .int x3, .int x4, .int x5, .int x6]), .inr (0, [(0, .null), (1, .int (0 : Int32))]), .inl (.char, [.int x0.toUInt32.toUInt16.toUInt32.toInt32, .int x1.toUInt32.toUInt16.toUInt32.toInt32, .int x2.toUInt32.toUInt16.toUInt32.toInt32]), .inl (.byte, [.int x0.toUInt32.toUInt16.toUInt32.toInt32.toInt8.toInt32.toInt8.toInt32, .int x1.toUInt32.toUInt16.toUInt32.toInt32.toInt8.toInt32.toInt8.toInt32, .int x2.toUInt32.toUInt16.toUInt32.toInt32.toInt8.toInt32.toInt8.toInt32])], 0, 0)) rfl ?_
                  refine EW.run 1 (cf' := ((46, [.val (.ref 10), .val (.int (3 : Int32)), .val (.ref 11), .val (.int (3 : Int32)), .val (.int (3 : Int32)), .val (.int (3 : Int32)), .val (.int x2.toUInt32.toUInt16.toUInt32.toInt32)], [.int (3 : Int32)]), [B0, B1, B2, B3, B4, B5, B6, .inl (.char, v8), .inl (.char, [.int x0, .int x1, .int x2, .int x3, .int x4, .int x5, .int x6]), .inr (0, [(0, .null), (1, .int (0 : Int32))]), .inl (.char, [.int x0.toUInt32.toUInt16.toUInt32.toInt32, .int x1.toUInt32.toUInt16.toUInt32.toInt32, .int x2.toUInt32.toUInt16.toUInt32.toInt32]), .inl (.byte, [.int x0.toUInt32.toUInt16.toUInt32.toInt32.toInt8.toInt32.toInt8.toInt32, .int x1.toUInt32.toUInt16.toUInt32.toInt32.toInt8.toInt32.toInt8.toInt32, .int x2.toUInt32.toUInt16.toUInt32.toInt32.toInt8.toInt32.toInt8.toInt32])], 0, 0)) rfl ?_
                  exact EW.ret rfl rfl
                · exfalso; simp only [cP] at h; omega
              · exfalso; simp only [cP] at h; omega
            · exfalso; simp only [cP] at h; omega
          rintro _ _ _ _ ⟨⟩
          show EW _ _ _ _ _ ((12, [.val (.ref 10), .val (.int (0 : Int32)), .val (.int (3 : Int32)), .val (.ref 11), .unset, .unset], [.int (3 : Int32)]), [B0, B1, B2, B3, B4, B5, B6, .inl (.char, v8), .inl (.char, [.int x0, .int x1, .int x2, .int x3, .int x4, .int x5, .int x6]), .inr (0, [(0, .null), (1, .int (0 : Int32))]), .inl (.char, [.int x0.toUInt32.toUInt16.toUInt32.toInt32, .int x1.toUInt32.toUInt16.toUInt32.toInt32, .int x2.toUInt32.toUInt16.toUInt32.toInt32]), .inl (.byte, [.int x0.toUInt32.toUInt16.toUInt32.toInt32.toInt8.toInt32.toInt8.toInt32, .int x1.toUInt32.toUInt16.toUInt32.toInt32.toInt8.toInt32.toInt8.toInt32, .int x2.toUInt32.toUInt16.toUInt32.toInt32.toInt8.toInt32.toInt8.toInt32])], 1, 3)
          refine EW.run 5 (cf' := ((58, [.val (.ref 10), .val (.int (0 : Int32)), .val (.int (3 : Int32)), .val (.ref 11), .val (.int (3 : Int32)), .unset], [.ref 11]), [B0, B1, B2, B3, B4, B5, B6, .inl (.char, v8), .inl (.char, [.int x0, .int x1, .int x2, .int x3, .int x4, .int x5, .int x6]), .inr (0, [(0, .null), (1, .int (0 : Int32))]), .inl (.char, [.int x0.toUInt32.toUInt16.toUInt32.toInt32, .int x1.toUInt32.toUInt16.toUInt32.toInt32, .int x2.toUInt32.toUInt16.toUInt32.toInt32]), .inl (.byte, [.int x0.toUInt32.toUInt16.toUInt32.toInt32.toInt8.toInt32.toInt8.toInt32, .int x1.toUInt32.toUInt16.toUInt32.toInt32.toInt8.toInt32.toInt8.toInt32, .int x2.toUInt32.toUInt16.toUInt32.toInt32.toInt8.toInt32.toInt8.toInt32])], 1, 3)) rfl ?_
          exact EW.ret rfl rfl
        rintro _ _ _ _ ⟨⟩
        show EW _ _ _ _ _ ((39, [.val (.ref 9), .val (.ref 10), .val (.int (0 : Int32)), .val (.int (3 : Int32)), .val (.null), .unset], [.ref 11]), [B0, B1, B2, B3, B4, B5, B6, .inl (.char, v8), .inl (.char, [.int x0, .int x1, .int x2, .int x3, .int x4, .int x5, .int x6]), .inr (0, [(0, .null), (1, .int (0 : Int32))]), .inl (.char, [.int x0.toUInt32.toUInt16.toUInt32.toInt32, .int x1.toUInt32.toUInt16.toUInt32.toInt32, .int x2.toUInt32.toUInt16.toUInt32.toInt32]), .inl (.byte, [.int x0.toUInt32.toUInt16.toUInt32.toInt32.toInt8.toInt32.toInt8.toInt32, .int x1.toUInt32.toUInt16.toUInt32.toInt32.toInt8.toInt32.toInt8.toInt32, .int x2.toUInt32.toUInt16.toUInt32.toInt32.toInt8.toInt32.toInt8.toInt32])], 1, 3)
        refine EW.run 4 (cf' := ((45, [.val (.ref 9), .val (.ref 10), .val (.int (0 : Int32)), .val (.int (3 : Int32)), .val (.null), .val (.ref 11)], [.int (3 : Int32), .ref 11, .ref 9]), [B0, B1, B2, B3, B4, B5, B6, .inl (.char, v8), .inl (.char, [.int x0, .int x1, .int x2, .int x3, .int x4, .int x5, .int x6]), .inr (0, [(0, .null), (1, .int (0 : Int32))]), .inl (.char, [.int x0.toUInt32.toUInt16.toUInt32.toInt32, .int x1.toUInt32.toUInt16.toUInt32.toInt32, .int x2.toUInt32.toUInt16.toUInt32.toInt32]), .inl (.byte, [.int x0.toUInt32.toUInt16.toUInt32.toInt32.toInt8.toInt32.toInt8.toInt32, .int x1.toUInt32.toUInt16.toUInt32.toInt32.toInt8.toInt32.toInt8.toInt32, .int x2.toUInt32.toUInt16.toUInt32.toInt32.toInt8.toInt32.toInt8.toInt32])], 1, 3)) rfl ?_
        refine EW.call (Qc := fun r => r = (some (.int 0), [B0, B1, B2, B3, B4, B5, B6, .inl (.char, v8), .inl (.char, [.int x0, .int x1, .int x2, .int x3, .int x4, .int x5, .int x6]), .inr (0, [(0, .null), (1, .int (0 : Int32))]), .inl (.char, [.int x0.toUInt32.toUInt16.toUInt32.toInt32, .int x1.toUInt32.toUInt16.toUInt32.toInt32, .int x2.toUInt32.toUInt16.toUInt32.toInt32]), .inl (.byte, [.int x0.toUInt32.toUInt16.toUInt32.toInt32.toInt8.toInt32.toInt8.toInt32, .int x1.toUInt32.toUInt16.toUInt32.toInt32.toInt8.toInt32.toInt8.toInt32, .int x2.toUInt32.toUInt16.toUInt32.toInt32.toInt8.toInt32.toInt8.toInt32])], 0, 0)) rfl ?_ ?_
        · exact cod (p := 11) (n := (3 : Int32)) rfl (by show nar .byte ((XT.ushr ((3 : Int32) - (3 : Int32)) ((Int8.ofInt 31).toInt32)).toInt8.toInt32) = 0; decide)
        rintro _ _ _ _ ⟨⟩
        show EW _ _ _ _ _ ((48, [.val (.ref 9), .val (.ref 10), .val (.int (0 : Int32)), .val (.int (3 : Int32)), .val (.null), .val (.ref 11)], [.int (0 : Int32), .ref 9]), [B0, B1, B2, B3, B4, B5, B6, .inl (.char, v8), .inl (.char, [.int x0, .int x1, .int x2, .int x3, .int x4, .int x5, .int x6]), .inr (0, [(0, .null), (1, .int (0 : Int32))]), .inl (.char, [.int x0.toUInt32.toUInt16.toUInt32.toInt32, .int x1.toUInt32.toUInt16.toUInt32.toInt32, .int x2.toUInt32.toUInt16.toUInt32.toInt32]), .inl (.byte, [.int x0.toUInt32.toUInt16.toUInt32.toInt32.toInt8.toInt32.toInt8.toInt32, .int x1.toUInt32.toUInt16.toUInt32.toInt32.toInt8.toInt32.toInt8.toInt32, .int x2.toUInt32.toUInt16.toUInt32.toInt32.toInt8.toInt32.toInt8.toInt32])], 1, 3)
        refine EW.run 4 (cf' := ((57, [.val (.ref 9), .val (.ref 10), .val (.int (0 : Int32)), .val (.int (3 : Int32)), .val (.null), .val (.ref 11)], []), [B0, B1, B2, B3, B4, B5, B6, .inl (.char, v8), .inl (.char, [.int x0, .int x1, .int x2, .int x3, .int x4, .int x5, .int x6]), .inr (0, [(0, .ref 11), (1, .int (0 : Int32))]), .inl (.char, [.int x0.toUInt32.toUInt16.toUInt32.toInt32, .int x1.toUInt32.toUInt16.toUInt32.toInt32, .int x2.toUInt32.toUInt16.toUInt32.toInt32]), .inl (.byte, [.int x0.toUInt32.toUInt16.toUInt32.toInt32.toInt8.toInt32.toInt8.toInt32, .int x1.toUInt32.toUInt16.toUInt32.toInt32.toInt8.toInt32.toInt8.toInt32, .int x2.toUInt32.toUInt16.toUInt32.toInt32.toInt8.toInt32.toInt8.toInt32])], 1, 3)) rfl ?_
        exact EW.ret rfl rfl
    rintro _ _ _ _ ⟨⟩
    show EW _ _ _ _ _ ((9, [.val (.ref 9), .val (.ref 10)], []), [B0, B1, B2, B3, B4, B5, B6, .inl (.char, v8), .inl (.char, [.int x0, .int x1, .int x2, .int x3, .int x4, .int x5, .int x6]), .inr (0, [(0, .ref 11), (1, .int (0 : Int32))]), .inl (.char, [.int x0.toUInt32.toUInt16.toUInt32.toInt32, .int x1.toUInt32.toUInt16.toUInt32.toInt32, .int x2.toUInt32.toUInt16.toUInt32.toInt32]), .inl (.byte, [.int x0.toUInt32.toUInt16.toUInt32.toInt32.toInt8.toInt32.toInt8.toInt32, .int x1.toUInt32.toUInt16.toUInt32.toInt32.toInt8.toInt32.toInt8.toInt32, .int x2.toUInt32.toUInt16.toUInt32.toInt32.toInt8.toInt32.toInt8.toInt32])], 1, 3)
    exact EW.ret rfl rfl
  rintro _ _ _ _ ⟨⟩
  show EW _ _ _ _ _ ((98, [.val (.ref 8), .val (.int (3 : Int32))], [.ref 9]), [B0, B1, B2, B3, B4, B5, B6, .inl (.char, v8), .inl (.char, [.int x0, .int x1, .int x2, .int x3, .int x4, .int x5, .int x6]), .inr (0, [(0, .ref 11), (1, .int (0 : Int32))]), .inl (.char, [.int x0.toUInt32.toUInt16.toUInt32.toInt32, .int x1.toUInt32.toUInt16.toUInt32.toInt32, .int x2.toUInt32.toUInt16.toUInt32.toInt32]), .inl (.byte, [.int x0.toUInt32.toUInt16.toUInt32.toInt32.toInt8.toInt32.toInt8.toInt32, .int x1.toUInt32.toUInt16.toUInt32.toInt32.toInt8.toInt32.toInt8.toInt32, .int x2.toUInt32.toUInt16.toUInt32.toInt32.toInt8.toInt32.toInt8.toInt32])], 3, 10)
  exact EW.ret rfl rfl
set_option maxHeartbeats 8000000 in
theorem cut_4 {cs : Int32} (hcs : cs.toInt ≠ 0) (v8 : List Value) (x0 x1 x2 x3 x4 x5 x6 : Int32) (h0x : okc x0) (h1x : okc x1) (h2x : okc x2) (h3x : okc x3) (h4x : okc x4) (h5x : okc x5) (h6x : okc x6) : Eng.EW (gG cs 7 N0) 7 179 m1 (fun r => r = (some (.ref 9), [B0, B1, B2, B3, B4, B5, B6, .inl (.char, v8), .inl (.char, [.int x0, .int x1, .int x2, .int x3, .int x4, .int x5, .int x6]), .inr (0, [(0, .ref 11), (1, .int (0 : Int32))]), .inl (.char, [.int x0.toUInt32.toUInt16.toUInt32.toInt32, .int x1.toUInt32.toUInt16.toUInt32.toInt32, .int x2.toUInt32.toUInt16.toUInt32.toInt32, .int x3.toUInt32.toUInt16.toUInt32.toInt32]), .inl (.byte, [.int x0.toUInt32.toUInt16.toUInt32.toInt32.toInt8.toInt32.toInt8.toInt32, .int x1.toUInt32.toUInt16.toUInt32.toInt32.toInt8.toInt32.toInt8.toInt32, .int x2.toUInt32.toUInt16.toUInt32.toInt32.toInt8.toInt32.toInt8.toInt32, .int x3.toUInt32.toUInt16.toUInt32.toInt32.toInt8.toInt32.toInt8.toInt32])], 3, 12)) ((0, entL [.ref 8, .int 4] 2, []), [B0, B1, B2, B3, B4, B5, B6, .inl (.char, v8), .inl (.char, [.int x0, .int x1, .int x2, .int x3, .int x4, .int x5, .int x6])], 0, 0) := by
  unfold okc at h0x h1x h2x h3x h4x h5x h6x
  show Eng.EW _ _ _ _ _ ((0, [.val (.ref 8), .val (.int (4 : Int32))], []), [B0, B1, B2, B3, B4, B5, B6, .inl (.char, v8), .inl (.char, [.int x0, .int x1, .int x2, .int x3, .int x4, .int x5, .int x6])], 0, 0)
  refine EW.run 6 (cf' := ((38, [.val (.ref 8), .val (.int (4 : Int32))], [.int (4 : Int32)]), [B0, B1, B2, B3, B4, B5, B6, .inl (.char, v8), .inl (.char, [.int x0, .int x1, .int x2, .int x3, .int x4, .int x5, .int x6])], 0, 0)) rfl ?_
  refine EW.run 6 (cf' := ((100, [.val (.ref 8), .val (.int (4 : Int32))], [.int (4 : Int32)]), [B0, B1, B2, B3, B4, B5, B6, .inl (.char, v8), .inl (.char, [.int x0, .int x1, .int x2, .int x3, .int x4, .int x5, .int x6])], 0, 0)) rfl ?_
  refine EW.run 6 (cf' := ((111, [.val (.ref 8), .val (.int (4 : Int32))], [.ref 10, .ref 9, .ref 9]), [B0, B1, B2, B3, B4, B5, B6, .inl (.char, v8), .inl (.char, [.int x0, .int x1, .int x2, .int x3, .int x4, .int x5, .int x6]), .inr (0, [(0, .null), (1, .int (0 : Int32))]), .inl (.char, [.int (0 : Int32), .int (0 : Int32), .int (0 : Int32), .int (0 : Int32)])], 2, 8)) rfl ?_
  refine EW.run 6 (cf' := ((117, [.val (.ref 8), .val (.int (4 : Int32))], [.ref 10, .ref 9, .ref 9]), [B0, B1, B2, B3, B4, B5, B6, .inl (.char, v8), .inl (.char, [.int x0, .int x1, .int x2, .int x3, .int x4, .int x5, .int x6]), .inr (0, [(0, .null), (1, .int (0 : Int32))]), .inl (.char, [.int x0.toUInt32.toUInt16.toUInt32.toInt32, .int (0 : Int32), .int (0 : Int32), .int (0 : Int32)])], 2, 8)) rfl ?_
  refine EW.run 6 (cf' := ((123, [.val (.ref 8), .val (.int (4 : Int32))], [.ref 10, .ref 9, .ref 9]), [B0, B1, B2, B3, B4, B5, B6, .inl (.char, v8), .inl (.char, [.int x0, .int x1, .int x2, .int x3, .int x4, .int x5, .int x6]), .inr (0, [(0, .null), (1, .int (0 : Int32))]), .inl (.char, [.int x0.toUInt32.toUInt16.toUInt32.toInt32, .int x1.toUInt32.toUInt16.toUInt32.toInt32, .int (0 : Int32), .int (0 : Int32)])], 2, 8)) rfl ?_
  refine EW.run 6 (cf' := ((129, [.val (.ref 8), .val (.int (4 : Int32))], [.ref 10, .ref 9, .ref 9]), [B0, B1, B2, B3, B4, B5, B6, .inl (.char, v8), .inl (.char, [.int x0, .int x1, .int x2, .int x3, .int x4, .int x5, .int x6]), .inr (0, [(0, .null), (1, .int (0 : Int32))]), .inl (.char, [.int x0.toUInt32.toUInt16.toUInt32.toInt32, .int x1.toUInt32.toUInt16.toUInt32.toInt32, .int x2.toUInt32.toUInt16.toUInt32.toInt32, .int (0 : Int32)])], 2, 8)) rfl ?_
  refine EW.run 6 (cf' := ((135, [.val (.ref 8), .val (.int (4 : Int32))], [.ref 10, .ref 9, .ref 9]), [B0, B1, B2, B3, B4, B5, B6, .inl (.char, v8), .inl (.char, [.int x0, .int x1, .int x2, .int x3, .int x4, .int x5, .int x6]), .inr (0, [(0, .null), (1, .int (0 : Int32))]), .inl (.char, [.int x0.toUInt32.toUInt16.toUInt32.toInt32, .int x1.toUInt32.toUInt16.toUInt32.toInt32, .int x2.toUInt32.toUInt16.toUInt32.toInt32, .int x3.toUInt32.toUInt16.toUInt32.toInt32])], 2, 8)) rfl ?_
  refine EW.call (Qc := fun r => r = (none, [B0, B1, B2, B3, B4, B5, B6, .inl (.char, v8), .inl (.char, [.int x0, .int x1, .int x2, .int x3, .int x4, .int x5, .int x6]), .inr (0, [(0, .ref 11), (1, .int (0 : Int32))]), .inl (.char, [.int x0.toUInt32.toUInt16.toUInt32.toInt32, .int x1.toUInt32.toUInt16.toUInt32.toInt32, .int x2.toUInt32.toUInt16.toUInt32.toInt32, .int x3.toUInt32.toUInt16.toUInt32.toInt32]), .inl (.byte, [.int x0.toUInt32.toUInt16.toUInt32.toInt32.toInt8.toInt32.toInt8.toInt32, .int x1.toUInt32.toUInt16.toUInt32.toInt32.toInt8.toInt32.toInt8.toInt32, .int x2.toUInt32.toUInt16.toUInt32.toInt32.toInt8.toInt32.toInt8.toInt32, .int x3.toUInt32.toUInt16.toUInt32.toInt32.toInt8.toInt32.toInt8.toInt32])], 1, 4)) rfl ?_ ?_
  · show EW _ _ _ _ _ ((0, [.val (.ref 9), .val (.ref 10)], []), [B0, B1, B2, B3, B4, B5, B6, .inl (.char, v8), .inl (.char, [.int x0, .int x1, .int x2, .int x3, .int x4, .int x5, .int x6]), .inr (0, [(0, .null), (1, .int (0 : Int32))]), .inl (.char, [.int x0.toUInt32.toUInt16.toUInt32.toInt32, .int x1.toUInt32.toUInt16.toUInt32.toInt32, .int x2.toUInt32.toUInt16.toUInt32.toInt32, .int x3.toUInt32.toUInt16.toUInt32.toInt32])], 0, 0)
    refine EW.run 6 (cf' := ((6, [.val (.ref 9), .val (.ref 10)], [.null, .int (4 : Int32), .int (0 : Int32), .ref 10, .ref 9]), [B0, B1, B2, B3, B4, B5, B6, .inl (.char, v8), .inl (.char, [.int x0, .int x1, .int x2, .int x3, .int x4, .int x5, .int x6]), .inr (0, [(0, .null), (1, .int (0 : Int32))]), .inl (.char, [.int x0.toUInt32.toUInt16.toUInt32.toInt32, .int x1.toUInt32.toUInt16.toUInt32.toInt32, .int x2.toUInt32.toUInt16.toUInt32.toInt32, .int x3.toUInt32.toUInt16.toUInt32.toInt32])], 0, 0)) rfl ?_
    refine EW.call (Qc := fun r => r = (none, [B0, B1, B2, B3, B4, B5, B6, .inl (.char, v8), .inl (.char, [.int x0, .int x1, .int x2, .int x3, .int x4, .int x5, .int x6]), .inr (0, [(0, .ref 11), (1, .int (0 : Int32))]), .inl (.char, [.int x0.toUInt32.toUInt16.toUInt32.toInt32, .int x1.toUInt32.toUInt16.toUInt32.toInt32, .int x2.toUInt32.toUInt16.toUInt32.toInt32, .int x3.toUInt32.toUInt16.toUInt32.toInt32]), .inl (.byte, [.int x0.toUInt32.toUInt16.toUInt32.toInt32.toInt8.toInt32.toInt8.toInt32, .int x1.toUInt32.toUInt16.toUInt32.toInt32.toInt8.toInt32.toInt8.toInt32, .int x2.toUInt32.toUInt16.toUInt32.toInt32.toInt8.toInt32.toInt8.toInt32, .int x3.toUInt32.toUInt16.toUInt32.toInt32.toInt8.toInt32.toInt8.toInt32])], 1, 4)) rfl ?_ ?_
    · show EW _ _ _ _ _ ((0, [.val (.ref 9), .val (.ref 10), .val (.int (0 : Int32)), .val (.int (4 : Int32)), .val (.null), .unset], []), [B0, B1, B2, B3, B4, B5, B6, .inl (.char, v8), .inl (.char, [.int x0, .int x1, .int x2, .int x3, .int x4, .int x5, .int x6]), .inr (0, [(0, .null), (1, .int (0 : Int32))]), .inl (.char, [.int x0.toUInt32.toUInt16.toUInt32.toInt32, .int x1.toUInt32.toUInt16.toUInt32.toInt32, .int x2.toUInt32.toUInt16.toUInt32.toInt32, .int x3.toUInt32.toUInt16.toUInt32.toInt32])], 0, 0)
      refine EW.run 5 (cf' := ((30, [.val (.ref 9), .val (.ref 10), .val (.int (0 : Int32)), .val (.int (4 : Int32)), .val (.null), .unset], [.int cs]), [B0, B1, B2, B3, B4, B5, B6, .inl (.char, v8), .inl (.char, [.int x0, .int x1, .int x2, .int x3, .int x4, .int x5, .int x6]), .inr (0, [(0, .null), (1, .int (0 : Int32))]), .inl (.char, [.int x0.toUInt32.toUInt16.toUInt32.toInt32, .int x1.toUInt32.toUInt16.toUInt32.toInt32, .int x2.toUInt32.toUInt16.toUInt32.toInt32, .int x3.toUInt32.toUInt16.toUInt32.toInt32])], 0, 0)) rfl ?_
      refine EW.ifP rfl (by decide) (fun h => ?_) (fun h => ?_)
      · exfalso; simp only [cP] at h; omega
      · have h1 : cs.toInt ≠ 0 := by simp only [cP] at h; omega
        clear h
        show EW _ _ _ _ _ ((33, [.val (.ref 9), .val (.ref 10), .val (.int (0 : Int32)), .val (.int (4 : Int32)), .val (.null), .unset], []), [B0, B1, B2, B3, B4, B5, B6, .inl (.char, v8), .inl (.char, [.int x0, .int x1, .int x2, .int x3, .int x4, .int x5, .int x6]), .inr (0, [(0, .null), (1, .int (0 : Int32))]), .inl (.char, [.int x0.toUInt32.toUInt16.toUInt32.toInt32, .int x1.toUInt32.toUInt16.toUInt32.toInt32, .int x2.toUInt32.toUInt16.toUInt32.toInt32, .int x3.toUInt32.toUInt16.toUInt32.toInt32])], 0, 0)
        refine EW.run 3 (cf' := ((36, [.val (.ref 9), .val (.ref 10), .val (.int (0 : Int32)), .val (.int (4 : Int32)), .val (.null), .unset], [.int (4 : Int32), .int (0 : Int32), .ref 10]), [B0, B1, B2, B3, B4, B5, B6, .inl (.char, v8), .inl (.char, [.int x0, .int x1, .int x2, .int x3, .int x4, .int x5, .int x6]), .inr (0, [(0, .null), (1, .int (0 : Int32))]), .inl (.char, [.int x0.toUInt32.toUInt16.toUInt32.toInt32, .int x1.toUInt32.toUInt16.toUInt32.toInt32, .int x2.toUInt32.toUInt16.toUInt32.toInt32, .int x3.toUInt32.toUInt16.toUInt32.toInt32])], 0, 0)) rfl ?_
        refine EW.call (Qc := fun r => r = (some (.ref 11), [B0, B1, B2, B3, B4, B5, B6, .inl (.char, v8), .inl (.char, [.int x0, .int x1, .int x2, .int x3, .int x4, .int x5, .int x6]), .inr (0, [(0, .null), (1, .int (0 : Int32))]), .inl (.char, [.int x0.toUInt32.toUInt16.toUInt32.toInt32, .int x1.toUInt32.toUInt16.toUInt32.toInt32, .int x2.toUInt32.toUInt16.toUInt32.toInt32, .int x3.toUInt32.toUInt16.toUInt32.toInt32]), .inl (.byte, [.int x0.toUInt32.toUInt16.toUInt32.toInt32.toInt8.toInt32.toInt8.toInt32, .int x1.toUInt32.toUInt16.toUInt32.toInt32.toInt8.toInt32.toInt8.toInt32, .int x2.toUInt32.toUInt16.toUInt32.toInt32.toInt8.toInt32.toInt8.toInt32, .int x3.toUInt32.toUInt16.toUInt32.toInt32.toInt8.toInt32.toInt8.toInt32])], 1, 4)) rfl ?_ ?_
        · show EW _ _ _ _ _ ((0, [.val (.ref 10), .val (.int (0 : Int32)), .val (.int (4 : Int32)), .unset, .unset, .unset], []), [B0, B1, B2, B3, B4, B5, B6, .inl (.char, v8), .inl (.char, [.int x0, .int x1, .int x2, .int x3, .int x4, .int x5, .int x6]), .inr (0, [(0, .null), (1, .int (0 : Int32))]), .inl (.char, [.int x0.toUInt32.toUInt16.toUInt32.toInt32, .int x1.toUInt32.toUInt16.toUInt32.toInt32, .int x2.toUInt32.toUInt16.toUInt32.toInt32, .int x3.toUInt32.toUInt16.toUInt32.toInt32])], 0, 0)
          refine EW.run 6 (cf' := ((7, [.val (.ref 10), .val (.int (0 : Int32)), .val (.int (4 : Int32)), .val (.ref 11), .unset, .unset], [.ref 11, .int (0 : Int32), .ref 10]), [B0, B1, B2, B3, B4, B5, B6, .inl (.char, v8), .inl (.char, [.int x0, .int x1, .int x2, .int x3, .int x4, .int x5, .int x6]), .inr (0, [(0, .null), (1, .int (0 : Int32))]), .inl (.char, [.int x0.toUInt32.toUInt16.toUInt32.toInt32, .int x1.toUInt32.toUInt16.toUInt32.toInt32, .int x2.toUInt32.toUInt16.toUInt32.toInt32, .int x3.toUInt32.toUInt16.toUInt32.toInt32]), .inl (.byte, [.int (0 : Int32), .int (0 : Int32), .int (0 : Int32), .int (0 : Int32)])], 1, 4)) rfl ?_
          refine EW.run 2 (cf' := ((9, [.val (.ref 10), .val (.int (0 : Int32)), .val (.int (4 : Int32)), .val (.ref 11), .unset, .unset], [.int (4 : Int32), .int (0 : Int32), .ref 11, .int (0 : Int32), .ref 10]), [B0, B1, B2, B3, B4, B5, B6, .inl (.char, v8), .inl (.char, [.int x0, .int x1, .int x2, .int x3, .int x4, .int x5, .int x6]), .inr (0, [(0, .null), (1, .int (0 : Int32))]), .inl (.char, [.int x0.toUInt32.toUInt16.toUInt32.toInt32, .int x1.toUInt32.toUInt16.toUInt32.toInt32, .int x2.toUInt32.toUInt16.toUInt32.toInt32, .int x3.toUInt32.toUInt16.toUInt32.toInt32]), .inl (.byte, [.int (0 : Int32), .int (0 : Int32), .int (0 : Int32), .int (0 : Int32)])], 1, 4)) rfl ?_
          refine EW.call (Qc := fun r => r = (some (.int (4 : Int32)), [B0, B1, B2, B3, B4, B5, B6, .inl (.char, v8), .inl (.char, [.int x0, .int x1, .int x2, .int x3, .int x4, .int x5, .int x6]), .inr (0, [(0, .null), (1, .int (0 : Int32))]), .inl (.char, [.int x0.toUInt32.toUInt16.toUInt32.toInt32, .int x1.toUInt32.toUInt16.toUInt32.toInt32, .int x2.toUInt32.toUInt16.toUInt32.toInt32, .int x3.toUInt32.toUInt16.toUInt32.toInt32]), .inl (.byte, [.int x0.toUInt32.toUInt16.toUInt32.toInt32.toInt8.toInt32.toInt8.toInt32, .int x1.toUInt32.toUInt16.toUInt32.toInt32.toInt8.toInt32.toInt8.toInt32, .int x2.toUInt32.toUInt16.toUInt32.toInt32.toInt8.toInt32.toInt8.toInt32, .int x3.toUInt32.toUInt16.toUInt32.toInt32.toInt8.toInt32.toInt8.toInt32])], 0, 0)) rfl ?_ ?_
          · show EW _ _ _ _ _ ((0, [.val (.ref 10), .val (.int (0 : Int32)), .val (.ref 11), .val (.int (0 : Int32)), .val (.int (4 : Int32)), .unset, .unset], []), [B0, B1, B2, B3, B4, B5, B6, .inl (.char, v8), .inl (.char, [.int x0, .int x1, .int x2, .int x3, .int x4, .int x5, .int x6]), .inr (0, [(0, .null), (1, .int (0 : Int32))]), .inl (.char, [.int x0.toUInt32.toUInt16.toUInt32.toInt32, .int x1.toUInt32.toUInt16.toUInt32.toInt32, .int x2.toUInt32.toUInt16.toUInt32.toInt32, .int x3.toUInt32.toUInt16.toUInt32.toInt32]), .inl (.byte, [.int (0 : Int32), .int (0 : Int32), .int (0 : Int32), .int (0 : Int32)])], 0, 0)
            refine EW.run 6 (cf' := ((11, [.val (.ref 10), .val (.int (0 : Int32)), .val (.ref 11), .val (.int (0 : Int32)), .val (.int (4 : Int32)), .val (.int (0 : Int32)), .unset], [.ref 10]), [B0, B1, B2, B3, B4, B5, B6, .inl (.char, v8), .inl (.char, [.int x0, .int x1, .int x2, .int x3, .int x4, .int x5, .int x6]), .inr (0, [(0, .null), (1, .int (0 : Int32))]), .inl (.char, [.int x0.toUInt32.toUInt16.toUInt32.toInt32, .int x1.toUInt32.toUInt16.toUInt32.toInt32, .int x2.toUInt32.toUInt16.toUInt32.toInt32, .int x3.toUInt32.toUInt16.toUInt32.toInt32]), .inl (.byte, [.int (0 : Int32), .int (0 : Int32), .int (0 : Int32), .int (0 : Int32)])], 0, 0)) rfl ?_
            refine EW.run 5 (cf' := ((20, [.val (.ref 10), .val (.int (0 : Int32)), .val (.ref 11), .val (.int (0 : Int32)), .val (.int (4 : Int32)), .val (.int (0 : Int32)), .val (.int x0.toUInt32.toUInt16.toUInt32.toInt32)], [.int (255 : Int32), .int x0.toUInt32.toUInt16.toUInt32.toInt32]), [B0, B1, B2, B3, B4, B5, B6, .inl (.char, v8), .inl (.char, [.int x0, .int x1, .int x2, .int x3, .int x4, .int x5, .int x6]), .inr (0, [(0, .null), (1, .int (0 : Int32))]), .inl (.char, [.int x0.toUInt32.toUInt16.toUInt32.toInt32, .int x1.toUInt32.toUInt16.toUInt32.toInt32, .int x2.toUInt32.toUInt16.toUInt32.toInt32, .int x3.toUInt32.toUInt16.toUInt32.toInt32]), .inl (.byte, [.int (0 : Int32), .int (0 : Int32), .int (0 : Int32), .int (0 : Int32)])], 0, 0)) rfl ?_
            refine EW.icmpP rfl (by decide) (fun h => ?_) (fun h => ?_)
            · have h2 : x0.toUInt32.toUInt16.toUInt32.toInt32.toInt ≤ (255 : Int32).toInt := by simp only [cP] at h; omega
              clear h
              show EW _ _ _ _ _ ((26, [.val (.ref 10), .val (.int (0 : Int32)), .val (.ref 11), .val (.int (0 : Int32)), .val (.int (4 : Int32)), .val (.int (0 : Int32)), .val (.int x0.toUInt32.toUInt16.toUInt32.toInt32)], []), [B0, B1, B2, B3, B4, B5, B6, .inl (.char, v8), .inl (.char, [.int x0, .int x1, .int x2, .int x3, .int x4, .int x5, .int x6]), .inr (0, [(0, .null), (1, .int (0 : Int32))]), .inl (.char, [.int x0.toUInt32.toUInt16.toUInt32.toInt32, .int x1.toUInt32.toUInt16.toUInt32.toInt32, .int x2.toUInt32.toUInt16.toUInt32.toInt32, .int x3.toUInt32.toUInt16.toUInt32.toInt32]), .inl (.byte, [.int (0 : Int32), .int (0 : Int32), .int (0 : Int32), .int (0 : Int32)])], 0, 0)
              refine EW.run 6 (cf' := ((35, [.val (.ref 10), .val (.int (1 : Int32)), .val (.ref 11), .val (.int (0 : Int32)), .val (.int (4 : Int32)), .val (.int (0 : Int32)), .val (.int x0.toUInt32.toUInt16.toUInt32.toInt32)], []), [B0, B1, B2, B3, B4, B5, B6, .inl (.char, v8), .inl (.char, [.int x0, .int x1, .int x2, .int x3, .int x4, .int x5, .int x6]), .inr (0, [(0, .null), (1, .int (0 : Int32))]), .inl (.char, [.int x0.toUInt32.toUInt16.toUInt32.toInt32, .int x1.toUInt32.toUInt16.toUInt32.toInt32, .int x2.toUInt32.toUInt16.toUInt32.toInt32, .int x3.toUInt32.toUInt16.toUInt32.toInt32]), .inl (.byte, [.int x0.toUInt32.toUInt16.toUInt32.toInt32.toInt8.toInt32.toInt8.toInt32, .int (0 : Int32), .int (0 : Int32), .int (0 : Int32)])], 0, 0)) rfl ?_
              refine EW.run 6 (cf' := ((10, [.val (.ref 10), .val (.int (1 : Int32)), .val (.ref 11), .val (.int (1 : Int32)), .val (.int (4 : Int32)), .val (.int (1 : Int32)), .val (.int x0.toUInt32.toUInt16.toUInt32.toInt32)], []), [B0, B1, B2, B3, B4, B5, B6, .inl (.char, v8), .inl (.char, [.int x0, .int x1, .int x2, .int x3, .int x4, .int x5, .int x6]), .inr (0, [(0, .null), (1, .int (0 : Int32))]), .inl (.char, [.int x0.toUInt32.toUInt16.toUInt32.toInt32, .int x1.toUInt32.toUInt16.toUInt32.toInt32, .int x2.toUInt32.toUInt16.toUInt32.toInt32, .int x3.toUInt32.toUInt16.toUInt32.toInt32]), .inl (.byte, [.int x0.toUInt32.toUInt16.toUInt32.toInt32.toInt8.toInt32.toInt8.toInt32, .int (0 : Int32), .int (0 : Int32), .int (0 : Int32)])], 0, 0)) rfl ?_
              refine EW.run 6 (cf' := ((20, [.val (.ref 10), .val (.int (1 : Int32)), .val (.ref 11), .val (.int (1 : Int32)), .val (.int (4 : Int32)), .val (.int (1 : Int32)), .val (.int x1.toUInt32.toUInt16.toUInt32.toInt32)], [.int (255 : Int32), .int x1.toUInt32.toUInt16.toUInt32.toInt32]), [B0, B1, B2, B3, B4, B5, B6, .inl (.char, v8), .inl (.char, [.int x0, .int x1, .int x2, .int x3, .int x4, .int x5, .int x6]), .inr (0, [(0, .null), (1, .int (0 : Int32))]), .inl (.char, [.int x0.toUInt32.toUInt16.toUInt32.toInt32, .int x1.toUInt32.toUInt16.toUInt32.toInt32, .int x2.toUInt32.toUInt16.toUInt32.toInt32, .int x3.toUInt32.toUInt16.toUInt32.toInt32]), .inl (.byte, [.int x0.toUInt32.toUInt16.toUInt32.toInt32.toInt8.toInt32.toInt8.toInt32, .int (0 : Int32), .int (0 : Int32), .int (0 : Int32)])], 0, 0)) rfl ?_
              refine EW.icmpP rfl (by decide) (fun h => ?_) (fun h => ?_)
              · have h3 : x1.toUInt32.toUInt16.toUInt32.toInt32.toInt ≤ (255 : Int32).toInt := by simp only [cP] at h; omega
                clear h
                show EW _ _ _ _ _ ((26, [.val (.ref 10), .val (.int (1 : Int32)), .val (.ref 11), .val (.int (1 : Int32)), .val (.int (4 : Int32)), .val (.int (1 : Int32)), .val (.int x1.toUInt32.toUInt16.toUInt32.toInt32)], []), [B0, B1, B2, B3, B4, B5, B6, .inl (.char, v8), .inl (.char, [.int x0, .int x1, .int x2, .int x3, .int x4, .int x5, .int x6]), .inr (0, [(0, .null), (1, .int (0 : Int32))]), .inl (.char, [.int x0.toUInt32.toUInt16.toUInt32.toInt32, .int x1.toUInt32.toUInt16.toUInt32.toInt32, .int x2.toUInt32.toUInt16.toUInt32.toInt32, .int x3.toUInt32.toUInt16.toUInt32.toInt32]), .inl (.byte, [.int x0.toUInt32.toUInt16.toUInt32.toInt32.toInt8.toInt32.toInt8.toInt32, .int (0 : Int32), .int (0 : Int32), .int (0 : Int32)])], 0, 0)
                refine EW.run 6 (cf' := ((35, [.val (.ref 10), .val (.int (2 : Int32)), .val (.ref 11), .val (.int (1 : Int32)), .val (.int (4 : Int32)), .val (.int (1 : Int32)), .val (.int x1.toUInt32.toUInt16.toUInt32.toInt32)], []), [B0, B1, B2, B3, B4, B5, B6, .inl (.char, v8), .inl (.char, [.int x0, .int x1, .int x2, .int x3, .int x4, .int x5, .int x6]), .inr (0, [(0, .null), (1, .int (0 : Int32))]), .inl (.char, [.int x0.toUInt32.toUInt16.toUInt32.toInt32, .int x1.toUInt32.toUInt16.toUInt32.toInt32, .int x2.toUInt32.toUInt16.toUInt32.toInt32, .int x3.toUInt32.toUInt16.toUInt32.toInt32]), .inl (.byte, [.int x0.toUInt32.toUInt16.toUInt32.toInt32.toInt8.toInt32.toInt8.toInt32, .int x1.toUInt32.toUInt16.toUInt32.toInt32.toInt8.toInt32.toInt8.toInt32, .int (0 : Int32), .int (0 : Int32)])], 0, 0)) rfl ?_
                refine EW.run 6 (cf' := ((10, [.val (.ref 10), .val (.int (2 : Int32)), .val (.ref 11), .val (.int (2 : Int32)), .val (.int (4 : Int32)), .val (.int (2 : Int32)), .val (.int x1.toUInt32.toUInt16.toUInt32.toInt32)], []), [B0, B1, B2, B3, B4, B5, B6, .inl (.char, v8), .inl (.char, [.int x0, .int x1, .int x2, .int x3, .int x4, .int x5, .int x6]), .inr (0, [(0, .null), (1, .int (0 : Int32))]), .inl (.char, [.int x0.toUInt32.toUInt16.toUInt32.toInt32, .int x1.toUInt32.toUInt16.toUInt32.toInt32, .int x2.toUInt32.toUInt16.toUInt32.toInt32, .int x3.toUInt32.toUInt16.toUInt32.toInt32]), .inl (.byte, [.int x0.toUInt32.toUInt16.toUInt32.toInt32.toInt8.toInt32.toInt8.toInt32, .int x1.toUInt32.toUInt16.toUInt32.toInt32.toInt8.toInt32.toInt8.toInt32, .int (0 : Int32), .int (0 : Int32)])], 0, 0)) rfl ?_
                refine EW.run 6 (cf' := ((20, [.val (.ref 10), .val (.int (2 : Int32)), .val (.ref 11), .val (.int (2 : Int32)), .val (.int (4 : Int32)), .val (.int (2 : Int32)), .val (.int x2.toUInt32.toUInt16.toUInt32.toInt32)], [.int (255 : Int32), .int x2.toUInt32.toUInt16.toUInt32.toInt32]), [B0, B1, B2, B3, B4, B5, B6, .inl (.char, v8), .inl (.char, [.int x0, .int x1, .int x2, .int x3, .int x4, .int x5, .int x6]), .inr (0, [(0, .null), (1, .int (0 : Int32))]), .inl (.char, [.int x0.toUInt32.toUInt16.toUInt32.toInt32, .int x1.toUInt32.toUInt16.toUInt32.toInt32, .int x2.toUInt32.toUInt16.toUInt32.toInt32, .int x3.toUInt32.toUInt16.toUInt32.toInt32]), .inl (.byte, [.int x0.toUInt32.toUInt16.toUInt32.toInt32.toInt8.toInt32.toInt8.toInt32, .int x1.toUInt32.toUInt16.toUInt32.toInt32.toInt8.toInt32.toInt8.toInt32, .int (0 : Int32), .int (0 : Int32)])], 0, 0)) rfl ?_
                refine EW.icmpP rfl (by decide) (fun h => ?_) (fun h => ?_)
                · have h4 : x2.toUInt32.toUInt16.toUInt32.toInt32.toInt ≤ (255 : Int32).toInt := by simp only [cP] at h; omega
                  clear h
                  show EW _ _ _ _ _ ((26, [.val (.ref 10), .val (.int (2 : Int32)), .val (.ref 11), .val (.int (2 : Int32)), .val (.int (4 : Int32)), .val (.int (2 : Int32)), .val (.int x2.toUInt32.toUInt16.toUInt32.toInt32)], []), [B0, B1, B2, B3, B4, B5, B6, .inl (.char, v8), .inl (.char, [.int x0, .int x1, .int x2, .int x3, .int x4, .int x5, .int x6]), .inr (0, [(0, .null), (1, .int (0 : Int32))]), .inl (.char, [.int x0.toUInt32.toUInt16.toUInt32.toInt32, .int x1.toUInt32.toUInt16.toUInt32.toInt32, .int x2.toUInt32.toUInt16.toUInt32.toInt32, .int x3.toUInt32.toUInt16.toUInt32.toInt32]), .inl (.byte, [.int x0.toUInt32.toUInt16.toUInt32.toInt32.toInt8.toInt32.toInt8.toInt32, .int x1.toUInt32.toUInt16.toUInt32.toInt32.toInt8.toInt32.toInt8.toInt32, .int (0 : Int32), .int (0 : Int32)])], 0, 0)
                  refine EW.run 6 (cf' := ((35, [.val (.ref 10), .val (.int (3 : Int32)), .val (.ref 11), .val (.int (2 : Int32)), .val (.int (4 : Int32)), .val (.int (2 : Int32)), .val (.int x2.toUInt32.toUInt16.toUInt32.toInt32)], []), [B0, B1, B2, B3, B4, B5, B6, .inl (.char, v8), .inl (.char, [.int x0, .int x1, .int x2, .int x3, .int x4, .int x5, .int x6]), .inr (0, [(0, .null), (1, .int (0 : Int32))]), .inl (.char, [.int x0.toUInt32.toUInt16.toUInt32.toInt32, .int x1.toUInt32.toUInt16.toUInt32.toInt32, .int x2.toUInt32.toUInt16.toUInt32.toInt32, .int x3.toUInt32.toUInt16.toUInt32.toInt32]), .inl (.byte, [.int x0.toUInt32.toUInt16.toUInt32.toInt32.toInt8.toInt32.toInt8.toInt32, .int x1.toUInt32.toUInt16.toUInt32.toInt32.toInt8.toInt32.toInt8.toInt32, .int x2.toUInt32.toUInt16.toUInt32.toInt32.toInt8.toInt32.toInt8.toInt32, .int (0 : Int32)])], 0, 0)) rfl ?_
                  refine EW.run 6 (cf' := ((10, [.val (.ref 10), .val (.int (3 : Int32)), .val (.ref 11), .val (.int (3 : Int32)), .val (.int (4 : Int32)), .val (.int (3 : Int32)), .val (.int x2.toUInt32.toUInt16.toUInt32.toInt32)], []), [B0, B1, B2, B3, B4, B5, B6, .inl (.char, v8), .inl (.char, [.int x0, .int x1, .int x2, .int x3, .int x4, .int x5, .int x6]), .inr (0, [(0, .null), (1, .int (0 : Int32))]), .inl (.char, [.int x0.toUInt32.toUInt16.toUInt32.toInt32, .int x1.toUInt32.toUInt16.toUInt32.toInt32, .int x2.toUInt32.toUInt16.toUInt32.toInt32, .int x3.toUInt32.toUInt16.toUInt32.toInt32]), .inl (.byte, [.int x0.toUInt32.toUInt16.toUInt32.toInt32.toInt8.toInt32.toInt8.toInt32, .int x1.toUInt32.toUInt16.toUInt32.toInt32.toInt8.toInt32.toInt8.toInt32, .int x2.toUInt32.toUInt16.toUInt32.toInt32.toInt8.toInt32.toInt8.toInt32, .int (0 : Int32)])], 0, 0)) rfl ?_
                  refine EW.run 6 (cf' := ((20, [.val (.ref 10), .val (.int (3 : Int32)), .val (.ref 11), .val (.int (3 : Int32)), .val (.int (4 : Int32)), .val (.int (3 : Int32)), .val (.int x3.toUInt32.toUInt16.toUInt32.toInt32)], [.int (255 : Int32), .int x3.toUInt32.toUInt16.toUInt32.toInt32]), [B0, B1, B2, B3, B4, B5, B6, .inl (.char, v8), .inl (.char, [.int x0, .int x1, .int x2, .int x3, .int x4, .int x5, .int x6]), .inr (0, [(0, .null), (1, .int (0 : Int32))]), .inl (.char, [.int x0.toUInt32.toUInt16.toUInt32.toInt32, .int x1.toUInt32.toUInt16.toUInt32.toInt32, .int x2.toUInt32.toUInt16.toUInt32.toInt32, .int x3.toUInt32.toUInt16.toUInt32.toInt32]), .inl (.byte, [.int x0.toUInt32.toUInt16.toUInt32.toInt32.toInt8.toInt32.toInt8.toInt32, .int x1.toUInt32.toUInt16.toUInt32.toInt32.toInt8.toInt32.toInt8.toInt32, .int x2.toUInt32.toUInt16.toUInt32.toInt32.toInt8.toInt32.toInt8.toInt32, .int (0 : Int32)])], 0, 0)) rfl ?_
                  refine EW.icmpP rfl (by decide) (fun h => ?_) (fun h => ?_)
                  · have h5 : x3.toUInt32.toUInt16.toUInt32.toInt32.toInt ≤ (255 : Int32).toInt := by simp only [cP] at h; omega
                    clear h
                    show EW _ _ _ _ _ ((26, [.val (.ref 10), .val (.int (3 : Int32)), .val (.ref 11), .val (.int (3 : Int32)), .val (.int (4 : Int32)), .val (.int (3 : Int32)), .val (.int x3.toUInt32.toUInt16.toUInt32.toInt32)], []), [B0, B1, B2, B3, B4, B5, B6, .inl (.char, v8), .inl (.char, [.int x0, .int x1, .int x2, .int x3, .int x4, .int x5, .int x6]), .inr (0, [(0, .null), (1, .int (0 : Int32))]), .inl (.char, [.int x0.toUInt32.toUInt16.toUInt32.toInt32, .int x1.toUInt32.toUInt16.toUInt32.toInt32, .int x2.toUInt32.toUInt16.toUInt32.toInt32, .int x3.toUInt32.toUInt16.toUInt32.toInt32]), .inl (.byte, [.int x0.toUInt32.toUInt16.toUInt32.toInt32.toInt8.toInt32.toInt8.toInt32, .int x1.toUInt32.toUInt16.toUInt32.toInt32.toInt8.toInt32.toInt8.toInt32, .int x2.toUInt32.toUInt16.toUInt32.toInt32.toInt8.toInt32.toInt8.toInt32, .int (0 : Int32)])], 0, 0)
                    refine EW.run 6 (cf' := ((35, [.val (.ref 10), .val (.int (4 : Int32)), .val (.ref 11), .val (.int (3 : Int32)), .val (.int (4 : Int32)), .val (.int (3 : Int32)), .val (.int x3.toUInt32.toUInt16.toUInt32.toInt32)], []), [B0, B1, B2, B3, B4, B5, B6, .inl (.char, v8), .inl (.char, [.int x0, .int x1, .int x2, .int x3, .int x4, .int x5, .int x6]), .inr (0, [(0, .null), (1, .int (0 : Int32))]), .inl (.char, [.int x0.toUInt32.toUInt16.toUInt32.toInt32, .int x1.toUInt32.toUInt16.toUInt32.toInt32, .int x2.toUInt32.toUInt16.toUInt32.toInt32, .int x3.toUInt32.toUInt16.toUInt32.toInt32]), .inl (.byte, [.int x0.toUInt32.toUInt16.toUInt32.toInt32.toInt8.toInt32.toInt8.toInt32, .int x1.toUInt32.toUInt16.toUInt32.toInt32.toInt8.toInt32.toInt8.toInt32, .int x2.toUInt32.toUInt16.toUInt32.toInt32.toInt8.toInt32.toInt8.toInt32, .int x3.toUInt32.toUInt16.toUInt32.toInt32.toInt8.toInt32.toInt8.toInt32])], 0, 0)) rfl ?_
                    refine EW.run 6 (cf' := ((44, [.val (.ref 10), .val (.int (4 : Int32)), .val (.ref 11), .val (.int (4 : Int32)), .val (.int (4 : Int32)), .val (.int (4 : Int32)), .val (.int x3.toUInt32.toUInt16.toUInt32.toInt32)], []), [B0, B1, B2, B3, B4, B5, B6, .inl (.char, v8), .inl (.char, [.int x0, .int x1, .int x2, .int x3, .int x4, .int x5, .int x6]), .inr (0, [(0, .null), (1, .int (0 : Int32))]), .inl (.char, [.int x0.toUInt32.toUInt16.toUInt32.toInt32, .int x1.toUInt32.toUInt16.toUInt32.toInt32, .int x2.toUInt32.toUInt16.toUInt32.toInt32, .int x3.toUInt32.toUInt16.toUInt32.toInt32]), .inl (.byte, [.int x0.toUInt32.toUInt16.toUInt32.toInt32.toInt8.toInt32.toInt8.toInt32, .int x1.toUInt32.toUInt16.toUInt32.toInt32.toInt8.toInt32.toInt8.toInt32, .int x2.toUInt32.toUInt16.toUInt32.toInt32.toInt8.toInt32.toInt8.toInt32, .int x3.toUInt32.toUInt16.toUInt32.toInt32.toInt8.toInt32.toInt8.toInt32])], 0, 0)) rfl ?_
                    refine EW.run 1 (cf' := ((46, [.val (.ref 10), .val (.int (4 : Int32)), .val (.ref 11), .val (.int (4 : Int32)), .val (.int (4 : Int32)), .val (.int (4 : Int32)), .val (.int x3.toUInt32.toUInt16.toUInt32.toInt32)], [.int (4 : Int32)]), [B0, B1, B2, B3, B4, B5, B6, .inl (.char, v8), .inl (.char, [.int x0, .int x1, .int x2, .int x3, .int x4, .int x5, .int x6]), .inr (0, [(0, .null), (1, .int (0 : Int32))]), .inl (.char, [.int x0.toUInt32.toUInt16.toUInt32.toInt32, .int x1.toUInt32.toUInt16.toUInt32.toInt32, .int x2.toUInt32.toUInt16.toUInt32.toInt32, .int x3.toUInt32.toUInt16.toUInt32.toInt32]), .inl (.byte, [.int x0.toUInt32.toUInt16.toUInt32.toInt32.toInt8.toInt32.toInt8.toInt32, .int x1.toUInt32.toUInt16.toUInt32.toInt32.toInt8.toInt32.toInt8.toInt32, .int x2.toUInt32.toUInt16.toUInt32.toInt32.toInt8.toInt32.toInt8.toInt32, .int x3.toUInt32.toUInt16.toUInt32.toInt32.toInt8.toInt32.toInt8.toInt32])], 0, 0)) rfl ?_
                    exact EW.ret rfl rfl
                  · exfalso; simp only [cP] at h; omega
                · exfalso; simp only [cP] at h; omega
              · exfalso; simp only [cP] at h; omega
            · exfalso; simp only [cP] at h; omega
          rintro _ _ _ _ ⟨⟩
          show EW _ _ _ _ _ ((12, [.val (.ref 10), .val (.int (0 : Int32)), .val (.int (4 : Int32)), .val (.ref 11), .unset, .unset], [.int (4 : Int32)]), [B0, B1, B2, B3, B4, B5, B6, .inl (.char, v8), .inl (.char, [.int x0, .int x1, .int x2, .int x3, .int x4, .int x5, .int x6]), .inr (0, [(0, .null), (1, .int (0 : Int32))]), .inl (.char, [.int x0.toUInt32.toUInt16.toUInt32.toInt32, .int x1.toUInt32.toUInt16.toUInt32.toInt32, .int x2.toUInt32.toUInt16.toUInt32.toInt32, .int x3.toUInt32.toUInt16.toUInt32.toInt32]), .inl (.byte, [.int x0.toUInt32.toUInt16.toUInt32.toInt32.toInt8.toInt32.toInt8.toInt32, .int x1.toUInt32.toUInt16.toUInt32.toInt32.toInt8.toInt32.toInt8.toInt32, .int x2.toUInt32.toUInt16.toUInt32.toInt32.toInt8.toInt32.toInt8.toInt32, .int x3.toUInt32.toUInt16.toUInt32.toInt32.toInt8.toInt32.toInt8.toInt32])], 1, 4)
          refine EW.run 5 (cf' := ((58, [.val (.ref 10), .val (.int (0 : Int32)), .val (.int (4 : Int32)), .val (.ref 11), .val (.int (4 : Int32)), .unset], [.ref 11]), [B0, B1, B2, B3, B4, B5, B6, .inl (.char, v8), .inl (.char, [.int x0, .int x1, .int x2, .int x3, .int x4, .int x5, .int x6]), .inr (0, [(0, .null), (1, .int (0 : Int32))]), .inl (.char, [.int x0.toUInt32.toUInt16.toUInt32.toInt32, .int x1.toUInt32.toUInt16.toUInt32.toInt32, .int x2.toUInt32.toUInt16.toUInt32.toInt32, .int x3.toUInt32.toUInt16.toUInt32.toInt32]), .inl (.byte, [.int x0.toUInt32.toUInt16.toUInt32.toInt32.toInt8.toInt32.toInt8.toInt32, .int x1.toUInt32.toUInt16.toUInt32.toInt32.toInt8.toInt32.toInt8.toInt32, .int x2.toUInt32.toUInt16.toUInt32.toInt32.toInt8.toInt32.toInt8.toInt32, .int x3.toUInt32.toUInt16.toUInt32.toInt32.toInt8.toInt32.toInt8.toInt32])], 1, 4)) rfl ?_
          exact EW.ret rfl rfl
        rintro _ _ _ _ ⟨⟩
        show EW _ _ _ _ _ ((39, [.val (.ref 9), .val (.ref 10), .val (.int (0 : Int32)), .val (.int (4 : Int32)), .val (.null), .unset], [.ref 11]), [B0, B1, B2, B3, B4, B5, B6, .inl (.char, v8), .inl (.char, [.int x0, .int x1, .int x2, .int x3, .int x4, .int x5, .int x6]), .inr (0, [(0, .null), (1, .int (0 : Int32))]), .inl (.char, [.int x0.toUInt32.toUInt16.toUInt32.toInt32, .int x1.toUInt32.toUInt16.toUInt32.toInt32, .int x2.toUInt32.toUInt16.toUInt32.toInt32, .int x3.toUInt32.toUInt16.toUInt32.toInt32]), .inl (.byte, [.int x0.toUInt32.toUInt16.toUInt32.toInt32.toInt8.toInt32.toInt8.toInt32, .int x1.toUInt32.toUInt16.toUInt32.toInt32.toInt8.toInt32.toInt8.toInt32, .int x2.toUInt32.toUInt16.toUInt32.toInt32.toInt8.toInt32.toInt8.toInt32, .int x3.toUInt32.toUInt16.toUInt32.toInt32.toInt8.toInt32.toInt8.toInt32])], 1, 4)
        refine EW.run 4 (cf' := ((45, [.val (.ref 9), .val (.ref 10), .val (.int (0 : Int32)), .val (.int (4 : Int32)), .val (.null), .val (.ref 11)], [.int (4 : Int32), .ref 11, .ref 9]), [B0, B1, B2, B3, B4, B5, B6, .inl (.char, v8), .inl (.char, [.int x0, .int x1, .int x2, .int x3, .int x4, .int x5, .int x6]), .inr (0, [(0, .null), (1, .int (0 : Int32))]), .inl (.char, [.int x0.toUInt32.toUInt16.toUInt32.toInt32, .int x1.toUInt32.toUInt16.toUInt32.toInt32, .int x2.toUInt32.toUInt16.toUInt32.toInt32, .int x3.toUInt32.toUInt16.toUInt32.toInt32]), .inl (.byte, [.int x0.toUInt32.toUInt16.toUInt32.toInt32.toInt8.toInt32.toInt8.toInt32, .int x1.toUInt32.toUInt16.toUInt32.toInt32.toInt8.toInt32.toInt8.toInt32, .int x2.toUInt32.toUInt16.toUInt32.toInt32.toInt8.toInt32.toInt8.toInt32, .int x3.toUInt32.toUInt16.toUInt32.toInt32.toInt8.toInt32.toInt8.toInt32])], 1, 4)) rfl ?_
        refine EW.call (Qc := fun r => r = (some (.int 0), [B0, B1, B2, B3, B4, B5, B6, .inl (.char, v8), .inl (.char, [.int x0, .int x1, .int x2, .int x3, .int x4, .int x5, .int x6]), .inr (0, [(0, .null), (1, .int (0 : Int32))]), .inl (.char, [.int x0.toUInt32.toUInt16.toUInt32.toInt32, .int x1.toUInt32.toUInt16.toUInt32.toInt32, .int x2.toUInt32.toUInt16.toUInt32.toInt32, .int x3.toUInt32.toUInt16.toUInt32.toInt32]), .inl (.byte, [.int x0.toUInt32.toUInt16.toUInt32.toInt32.toInt8.toInt32.toInt8.toInt32, .int x1.toUInt32.toUInt16.toUInt32.toInt32.toInt8.toInt32.toInt8.toInt32, .int x2.toUInt32.toUInt16.toUInt32.toInt32.toInt8.toInt32.toInt8.toInt32, .int x3.toUInt32.toUInt16.toUInt32.toInt32.toInt8.toInt32.toInt8.toInt32])], 0, 0)) rfl ?_ ?_
        · exact cod (p := 11) (n := (4 : Int32)) rfl (by show nar .byte ((XT.ushr ((4 : Int32) - (4 : Int32)) ((Int8.ofInt 31).toInt32)).toInt8.toInt32) = 0; decide)
        rintro _ _ _ _ ⟨⟩
        show EW _ _ _ _ _ ((48, [.val (.ref 9), .val (.ref 10), .val (.int (0 : Int32)), .val (.int (4 : Int32)), .val (.null), .val (.ref 11)], [.int (0 : Int32), .ref 9]), [B0, B1, B2, B3, B4, B5, B6, .inl (.char, v8), .inl (.char, [.int x0, .int x1, .int x2, .int x3, .int x4, .int x5, .int x6]), .inr (0, [(0, .null), (1, .int (0 : Int32))]), .inl (.char, [.int x0.toUInt32.toUInt16.toUInt32.toInt32, .int x1.toUInt32.toUInt16.toUInt32.toInt32, .int x2.toUInt32.toUInt16.toUInt32.toInt32, .int x3.toUInt32.toUInt16.toUInt32.toInt32]), .inl (.byte, [.int x0.toUInt32.toUInt16.toUInt32.toInt32.toInt8.toInt32.toInt8.toInt32, .int x1.toUInt32.toUInt16.toUInt32.toInt32.toInt8.toInt32.toInt8.toInt32, .int x2.toUInt32.toUInt16.toUInt32.toInt32.toInt8.toInt32.toInt8.toInt32, .int x3.toUInt32.toUInt16.toUInt32.toInt32.toInt8.toInt32.toInt8.toInt32])], 1, 4)
        refine EW.run 4 (cf' := ((57, [.val (.ref 9), .val (.ref 10), .val (.int (0 : Int32)), .val (.int (4 : Int32)), .val (.null), .val (.ref 11)], []), [B0, B1, B2, B3, B4, B5, B6, .inl (.char, v8), .inl (.char, [.int x0, .int x1, .int x2, .int x3, .int x4, .int x5, .int x6]), .inr (0, [(0, .ref 11), (1, .int (0 : Int32))]), .inl (.char, [.int x0.toUInt32.toUInt16.toUInt32.toInt32, .int x1.toUInt32.toUInt16.toUInt32.toInt32, .int x2.toUInt32.toUInt16.toUInt32.toInt32, .int x3.toUInt32.toUInt16.toUInt32.toInt32]), .inl (.byte, [.int x0.toUInt32.toUInt16.toUInt32.toInt32.toInt8.toInt32.toInt8.toInt32, .int x1.toUInt32.toUInt16.toUInt32.toInt32.toInt8.toInt32.toInt8.toInt32, .int x2.toUInt32.toUInt16.toUInt32.toInt32.toInt8.toInt32.toInt8.toInt32, .int x3.toUInt32.toUInt16.toUInt32.toInt32.toInt8.toInt32.toInt8.toInt32])], 1, 4)) rfl ?_
        exact EW.ret rfl rfl
    rintro _ _ _ _ ⟨⟩
    show EW _ _ _ _ _ ((9, [.val (.ref 9), .val (.ref 10)], []), [B0, B1, B2, B3, B4, B5, B6, .inl (.char, v8), .inl (.char, [.int x0, .int x1, .int x2, .int x3, .int x4, .int x5, .int x6]), .inr (0, [(0, .ref 11), (1, .int (0 : Int32))]), .inl (.char, [.int x0.toUInt32.toUInt16.toUInt32.toInt32, .int x1.toUInt32.toUInt16.toUInt32.toInt32, .int x2.toUInt32.toUInt16.toUInt32.toInt32, .int x3.toUInt32.toUInt16.toUInt32.toInt32]), .inl (.byte, [.int x0.toUInt32.toUInt16.toUInt32.toInt32.toInt8.toInt32.toInt8.toInt32, .int x1.toUInt32.toUInt16.toUInt32.toInt32.toInt8.toInt32.toInt8.toInt32, .int x2.toUInt32.toUInt16.toUInt32.toInt32.toInt8.toInt32.toInt8.toInt32, .int x3.toUInt32.toUInt16.toUInt32.toInt32.toInt8.toInt32.toInt8.toInt32])], 1, 4)
    exact EW.ret rfl rfl
  rintro _ _ _ _ ⟨⟩
  show EW _ _ _ _ _ ((138, [.val (.ref 8), .val (.int (4 : Int32))], [.ref 9]), [B0, B1, B2, B3, B4, B5, B6, .inl (.char, v8), .inl (.char, [.int x0, .int x1, .int x2, .int x3, .int x4, .int x5, .int x6]), .inr (0, [(0, .ref 11), (1, .int (0 : Int32))]), .inl (.char, [.int x0.toUInt32.toUInt16.toUInt32.toInt32, .int x1.toUInt32.toUInt16.toUInt32.toInt32, .int x2.toUInt32.toUInt16.toUInt32.toInt32, .int x3.toUInt32.toUInt16.toUInt32.toInt32]), .inl (.byte, [.int x0.toUInt32.toUInt16.toUInt32.toInt32.toInt8.toInt32.toInt8.toInt32, .int x1.toUInt32.toUInt16.toUInt32.toInt32.toInt8.toInt32.toInt8.toInt32, .int x2.toUInt32.toUInt16.toUInt32.toInt32.toInt8.toInt32.toInt8.toInt32, .int x3.toUInt32.toUInt16.toUInt32.toInt32.toInt8.toInt32.toInt8.toInt32])], 3, 12)
  exact EW.ret rfl rfl
set_option maxHeartbeats 8000000 in
theorem cut_5 {cs : Int32} (hcs : cs.toInt ≠ 0) (v8 : List Value) (x0 x1 x2 x3 x4 x5 x6 : Int32) (h0x : okc x0) (h1x : okc x1) (h2x : okc x2) (h3x : okc x3) (h4x : okc x4) (h5x : okc x5) (h6x : okc x6) : Eng.EW (gG cs 7 N0) 7 179 m1 (fun r => r = (some (.ref 9), [B0, B1, B2, B3, B4, B5, B6, .inl (.char, v8), .inl (.char, [.int x0, .int x1, .int x2, .int x3, .int x4, .int x5, .int x6]), .inr (0, [(0, .ref 11), (1, .int (0 : Int32))]), .inl (.char, [.int x0.toUInt32.toUInt16.toUInt32.toInt32, .int x1.toUInt32.toUInt16.toUInt32.toInt32, .int x2.toUInt32.toUInt16.toUInt32.toInt32, .int x3.toUInt32.toUInt16.toUInt32.toInt32, .int x4.toUInt32.toUInt16.toUInt32.toInt32]), .inl (.byte, [.int x0.toUInt32.toUInt16.toUInt32.toInt32.toInt8.toInt32.toInt8.toInt32, .int x1.toUInt32.toUInt16.toUInt32.toInt32.toInt8.toInt32.toInt8.toInt32, .int x2.toUInt32.toUInt16.toUInt32.toInt32.toInt8.toInt32.toInt8.toInt32, .int x3.toUInt32.toUInt16.toUInt32.toInt32.toInt8.toInt32.toInt8.toInt32, .int x4.toUInt32.toUInt16.toUInt32.toInt32.toInt8.toInt32.toInt8.toInt32])], 3, 14)) ((0, entL [.ref 8, .int 5] 2, []), [B0, B1, B2, B3, B4, B5, B6, .inl (.char, v8), .inl (.char, [.int x0, .int x1, .int x2, .int x3, .int x4, .int x5, .int x6])], 0, 0) := by
  unfold okc at h0x h1x h2x h3x h4x h5x h6x
  show Eng.EW _ _ _ _ _ ((0, [.val (.ref 8), .val (.int (5 : Int32))], []), [B0, B1, B2, B3, B4, B5, B6, .inl (.char, v8), .inl (.char, [.int x0, .int x1, .int x2, .int x3, .int x4, .int x5, .int x6])], 0, 0)
  refine EW.run 6 (cf' := ((38, [.val (.ref 8), .val (.int (5 : Int32))], [.int (5 : Int32)]), [B0, B1, B2, B3, B4, B5, B6, .inl (.char, v8), .inl (.char, [.int x0, .int x1, .int x2, .int x3, .int x4, .int x5, .int x6])], 0, 0)) rfl ?_
  refine EW.run 6 (cf' := ((100, [.val (.ref 8), .val (.int (5 : Int32))], [.int (5 : Int32)]), [B0, B1, B2, B3, B4, B5, B6, .inl (.char, v8), .inl (.char, [.int x0, .int x1, .int x2, .int x3, .int x4, .int x5, .int x6])], 0, 0)) rfl ?_
  refine EW.run 6 (cf' := ((147, [.val (.ref 8), .val (.int (5 : Int32))], [.ref 9]), [B0, B1, B2, B3, B4, B5, B6, .inl (.char, v8), .inl (.char, [.int x0, .int x1, .int x2, .int x3, .int x4, .int x5, .int x6]), .inr (0, [(0, .null), (1, .int (0 : Int32))])], 1, 4)) rfl ?_
  refine EW.run 6 (cf' := ((154, [.val (.ref 8), .val (.int (5 : Int32))], [.ref 8, .int (0 : Int32), .ref 10, .ref 10, .ref 9, .ref 9]), [B0, B1, B2, B3, B4, B5, B6, .inl (.char, v8), .inl (.char, [.int x0, .int x1, .int x2, .int x3, .int x4, .int x5, .int x6]), .inr (0, [(0, .null), (1, .int (0 : Int32))]), .inl (.char, [.int (0 : Int32), .int (0 : Int32), .int (0 : Int32), .int (0 : Int32), .int (0 : Int32)])], 2, 9)) rfl ?_
  refine EW.run 6 (cf' := ((160, [.val (.ref 8), .val (.int (5 : Int32))], [.ref 8, .int (1 : Int32), .ref 10, .ref 10, .ref 9, .ref 9]), [B0, B1, B2, B3, B4, B5, B6, .inl (.char, v8), .inl (.char, [.int x0, .int x1, .int x2, .int x3, .int x4, .int x5, .int x6]), .inr (0, [(0, .null), (1, .int (0 : Int32))]), .inl (.char, [.int x0.toUInt32.toUInt16.toUInt32.toInt32, .int (0 : Int32), .int (0 : Int32), .int (0 : Int32), .int (0 : Int32)])], 2, 9)) rfl ?_
  refine EW.run 6 (cf' := ((166, [.val (.ref 8), .val (.int (5 : Int32))], [.ref 8, .int (2 : Int32), .ref 10, .ref 10, .ref 9, .ref 9]), [B0, B1, B2, B3, B4, B5, B6, .inl (.char, v8), .inl (.char, [.int x0, .int x1, .int x2, .int x3, .int x4, .int x5, .int x6]), .inr (0, [(0, .null), (1, .int (0 : Int32))]), .inl (.char, [.int x0.toUInt32.toUInt16.toUInt32.toInt32, .int x1.toUInt32.toUInt16.toUInt32.toInt32, .int (0 : Int32), .int (0 : Int32), .int (0 : Int32)])], 2, 9)) rfl ?_
  refine EW.run 6 (cf' := ((172, [.val (.ref 8), .val (.int (5 : Int32))], [.ref 8, .int (3 : Int32), .ref 10, .ref 10, .ref 9, .ref 9]), [B0, B1, B2, B3, B4, B5, B6, .inl (.char, v8), .inl (.char, [.int x0, .int x1, .int x2, .int x3, .int x4, .int x5, .int x6]), .inr (0, [(0, .null), (1, .int (0 : Int32))]), .inl (.char, [.int x0.toUInt32.toUInt16.toUInt32.toInt32, .int x1.toUInt32.toUInt16.toUInt32.toInt32, .int x2.toUInt32.toUInt16.toUInt32.toInt32, .int (0 : Int32), .int (0 : Int32)])], 2, 9)) rfl ?_
  refine EW.run 6 (cf' := ((178, [.val (.ref 8), .val (.int (5 : Int32))], [.ref 8, .int (4 : Int32), .ref 10, .ref 10, .ref 9, .ref 9]), [B0, B1, B2, B3, B4, B5, B6, .inl (.char, v8), .inl (.char, [.int x0, .int x1, .int x2, .int x3, .int x4, .int x5, .int x6]), .inr (0, [(0, .null), (1, .int (0 : Int32))]), .inl (.char, [.int x0.toUInt32.toUInt16.toUInt32.toInt32, .int x1.toUInt32.toUInt16.toUInt32.toInt32, .int x2.toUInt32.toUInt16.toUInt32.toInt32, .int x3.toUInt32.toUInt16.toUInt32.toInt32, .int (0 : Int32)])], 2, 9)) rfl ?_
  refine EW.run 3 (cf' := ((181, [.val (.ref 8), .val (.int (5 : Int32))], [.ref 10, .ref 9, .ref 9]), [B0, B1, B2, B3, B4, B5, B6, .inl (.char, v8), .inl (.char, [.int x0, .int x1, .int x2, .int x3, .int x4, .int x5, .int x6]), .inr (0, [(0, .null), (1, .int (0 : Int32))]), .inl (.char, [.int x0.toUInt32.toUInt16.toUInt32.toInt32, .int x1.toUInt32.toUInt16.toUInt32.toInt32, .int x2.toUInt32.toUInt16.toUInt32.toInt32, .int x3.toUInt32.toUInt16.toUInt32.toInt32, .int x4.toUInt32.toUInt16.toUInt32.toInt32])], 2, 9)) rfl ?_
  refine EW.call (Qc := fun r => r = (none, [B0, B1, B2, B3, B4, B5, B6, .inl (.char, v8), .inl (.char, [.int x0, .int x1, .int x2, .int x3, .int x4, .int x5, .int x6]), .inr (0, [(0, .ref 11), (1, .int (0 : Int32))]), .inl (.char, [.int x0.toUInt32.toUInt16.toUInt32.toInt32, .int x1.toUInt32.toUInt16.toUInt32.toInt32, .int x2.toUInt32.toUInt16.toUInt32.toInt32, .int x3.toUInt32.toUInt16.toUInt32.toInt32, .int x4.toUInt32.toUInt16.toUInt32.toInt32]), .inl (.byte, [.int x0.toUInt32.toUInt16.toUInt32.toInt32.toInt8.toInt32.toInt8.toInt32, .int x1.toUInt32.toUInt16.toUInt32.toInt32.toInt8.toInt32.toInt8.toInt32, .int x2.toUInt32.toUInt16.toUInt32.toInt32.toInt8.toInt32.toInt8.toInt32, .int x3.toUInt32.toUInt16.toUInt32.toInt32.toInt8.toInt32.toInt8.toInt32, .int x4.toUInt32.toUInt16.toUInt32.toInt32.toInt8.toInt32.toInt8.toInt32])], 1, 5)) rfl ?_ ?_
  · show EW _ _ _ _ _ ((0, [.val (.ref 9), .val (.ref 10)], []), [B0, B1, B2, B3, B4, B5, B6, .inl (.char, v8), .inl (.char, [.int x0, .int x1, .int x2, .int x3, .int x4, .int x5, .int x6]), .inr (0, [(0, .null), (1, .int (0 : Int32))]), .inl (.char, [.int x0.toUInt32.toUInt16.toUInt32.toInt32, .int x1.toUInt32.toUInt16.toUInt32.toInt32, .int x2.toUInt32.toUInt16.toUInt32.toInt32, .int x3.toUInt32.toUInt16.toUInt32.toInt32, .int x4.toUInt32.toUInt16.toUInt32.toInt32])], 0, 0)
    refine EW.run 6 (cf' := ((6, [.val (.ref 9), .val (.ref 10)], [.null, .int (5 : Int32), .int (0 : Int32), .ref 10, .ref 9]), [B0, B1, B2, B3, B4, B5, B6, .inl (.char, v8), .inl (.char, [.int x0, .int x1, .int x2, .int x3, .int x4, .int x5, .int x6]), .inr (0, [(0, .null), (1, .int (0 : Int32))]), .inl (.char, [.int x0.toUInt32.toUInt16.toUInt32.toInt32, .int x1.toUInt32.toUInt16.toUInt32.toInt32, .int x2.toUInt32.toUInt16.toUInt32.toInt32, .int x3.toUInt32.toUInt16.toUInt32.toInt32, .int x4.toUInt32.toUInt16.toUInt32.toInt32])], 0, 0)) rfl ?_
    refine EW.call (Qc := fun r => r = (none, [B0, B1, B2, B3, B4, B5, B6, .inl (.char, v8), .inl (.char, [.int x0, .int x1, .int x2, .int x3, .int x4, .int x5, .int x6]), .inr (0, [(0, .ref 11), (1, .int (0 : Int32))]), .inl (.char, [.int x0.toUInt32.toUInt16.toUInt32.toInt32, .int x1.toUInt32.toUInt16.toUInt32.toInt32, .int x2.toUInt32.toUInt16.toUInt32.toInt32, .int x3.toUInt32.toUInt16.toUInt32.toInt32, .int x4.toUInt32.toUInt16.toUInt32.toInt32]), .inl (.byte, [.int x0.toUInt32.toUInt16.toUInt32.toInt32.toInt8.toInt32.toInt8.toInt32, .int x1.toUInt32.toUInt16.toUInt32.toInt32.toInt8.toInt32.toInt8.toInt32, .int x2.toUInt32.toUInt16.toUInt32.toInt32.toInt8.toInt32.toInt8.toInt32, .int x3.toUInt32.toUInt16.toUInt32.toInt32.toInt8.toInt32.toInt8.toInt32, .int x4.toUInt32.toUInt16.toUInt32.toInt32.toInt8.toInt32.toInt8.toInt32])], 1, 5)) rfl ?_ ?_
    · show EW _ _ _ _ _ ((0, [.val (.ref 9), .val (.ref 10), .val (.int (0 : Int32)), .val (.int (5 : Int32)), .val (.null), .unset], []), [B0, B1, B2, B3, B4, B5, B6, .inl (.char, v8), .inl (.char, [.int x0, .int x1, .int x2, .int x3, .int x4, .int x5, .int x6]), .inr (0, [(0, .null), (1, .int (0 : Int32))]), .inl (.char, [.int x0.toUInt32.toUInt16.toUInt32.toInt32, .int x1.toUInt32.toUInt16.toUInt32.toInt32, .int x2.toUInt32.toUInt16.toUInt32.toInt32, .int x3.toUInt32.toUInt16.toUInt32.toInt32, .int x4.toUInt32.toUInt16.toUInt32.toInt32])], 0, 0)
      refine EW.run 5 (cf' := ((30, [.val (.ref 9), .val (.ref 10), .val (.int (0 : Int32)), .val (.int (5 : Int32)), .val (.null), .unset], [.int cs]), [B0, B1, B2, B3, B4, B5, B6, .inl (.char, v8), .inl (.char, [.int x0, .int x1, .int x2, .int x3, .int x4, .int x5, .int x6]), .inr (0, [(0, .null), (1, .int (0 : Int32))]), .inl (.char, [.int x0.toUInt32.toUInt16.toUInt32.toInt32, .int x1.toUInt32.toUInt16.toUInt32.toInt32, .int x2.toUInt32.toUInt16.toUInt32.toInt32, .int x3.toUInt32.toUInt16.toUInt32.toInt32, .int x4.toUInt32.toUInt16.toUInt32.toInt32])], 0, 0)) rfl ?_
      refine EW.ifP rfl (by decide) (fun h => ?_) (fun h => ?_)
      · exfalso; simp only [cP] at h; omega
      · have h1 : cs.toInt ≠ 0 := by simp only [cP] at h; omega
        clear h
        show EW _ _ _ _ _ ((33, [.val (.ref 9), .val (.ref 10), .val (.int (0 : Int32)), .val (.int (5 : Int32)), .val (.null), .unset], []), [B0, B1, B2, B3, B4, B5, B6, .inl (.char, v8), .inl (.char, [.int x0, .int x1, .int x2, .int x3, .int x4, .int x5, .int x6]), .inr (0, [(0, .null), (1, .int (0 : Int32))]), .inl (.char, [.int x0.toUInt32.toUInt16.toUInt32.toInt32, .int x1.toUInt32.toUInt16.toUInt32.toInt32, .int x2.toUInt32.toUInt16.toUInt32.toInt32, .int x3.toUInt32.toUInt16.toUInt32.toInt32, .int x4.toUInt32.toUInt16.toUInt32.toInt32])], 0, 0)
        refine EW.run 3 (cf' := ((36, [.val (.ref 9), .val (.ref 10), .val (.int (0 : Int32)), .val (.int (5 : Int32)), .val (.null), .unset], [.int (5 : Int32), .int (0 : Int32), .ref 10]), [B0, B1, B2, B3, B4, B5, B6, .inl (.char, v8), .inl (.char, [.int x0, .int x1, .int x2, .int x3, .int x4, .int x5, .int x6]), .inr (0, [(0, .null), (1, .int (0 : Int32))]), .inl (.char, [.int x0.toUInt32.toUInt16.toUInt32.toInt32, .int x1.toUInt32.toUInt16.toUInt32.toInt32, .int x2.toUInt32.toUInt16.toUInt32.toInt32, .int x3.toUInt32.toUInt16.toUInt32.toInt32, .int x4.toUInt32.toUInt16.toUInt32.toInt32])], 0, 0)) rfl ?_
        refine EW.call (Qc := fun r => r = (some (.ref 11), [B0, B1, B2, B3, B4, B5, B6, .inl (.char, v8), .inl (.char, [.int x0, .int x1, .int x2, .int x3, .int x4, .int x5, .int x6]), .inr (0, [(0, .null), (1, .int (0 : Int32))]), .inl (.char, [.int x0.toUInt32.toUInt16.toUInt32.toInt32, .int x1.toUInt32.toUInt16.toUInt32.toInt32, .int x2.toUInt32.toUInt16.toUInt32.toInt32, .int x3.toUInt32.toUInt16.toUInt32.toInt32, .int x4.toUInt32.toUInt16.toUInt32.toInt32]), .inl (.byte, [.int x0.toUInt32.toUInt16.toUInt32.toInt32.toInt8.toInt32.toInt8.toInt32, .int x1.toUInt32.toUInt16.toUInt32.toInt32.toInt8.toInt32.toInt8.toInt32, .int x2.toUInt32.toUInt16.toUInt32.toInt32.toInt8.toInt32.toInt8.toInt32, .int x3.toUInt32.toUInt16.toUInt32.toInt32.toInt8.toInt32.toInt8.toInt32, .int x4.toUInt32.toUInt16.toUInt32.toInt32.toInt8.toInt32.toInt8.toInt32])], 1, 5)) rfl ?_ ?_
        · show EW _ _ _ _ _ ((0, [.val (.ref 10), .val (.int (0 : Int32)), .val (.int (5 : Int32)), .unset, .unset, .unset], []), [B0, B1, B2, B3, B4, B5, B6, .inl (.char, v8), .inl (.char, [.int x0, .int x1, .int x2, .int x3, .int x4, .int x5, .int x6]), .inr (0, [(0, .null), (1, .int (0 : Int32))]), .inl (.char, [.int x0.toUInt32.toUInt16.toUInt32.toInt32, .int x1.toUInt32.toUInt16.toUInt32.toInt32, .int x2.toUInt32.toUInt16.toUInt32.toInt32, .int x3.toUInt32.toUInt16.toUInt32.toInt32, .int x4.toUInt32.toUInt16.toUInt32.toInt32])], 0, 0)
          refine EW.run 6 (cf' := ((7, [.val (.ref 10), .val (.int (0 : Int32)), .val (.int (5 : Int32)), .val (.ref 11), .unset, .unset], [.ref 11, .int (0 : Int32), .ref 10]), [B0, B1, B2, B3, B4, B5, B6, .inl (.char, v8), .inl (.char, [.int x0, .int x1, .int x2, .int x3, .int x4, .int x5, .int x6]), .inr (0, [(0, .null), (1, .int (0 : Int32))]), .inl (.char, [.int x0.toUInt32.toUInt16.toUInt32.toInt32, .int x1.toUInt32.toUInt16.toUInt32.toInt32, .int x2.toUInt32.toUInt16.toUInt32.toInt32, .int x3.toUInt32.toUInt16.toUInt32.toInt32, .int x4.toUInt32.toUInt16.toUInt32.toInt32]), .inl (.byte, [.int (0 : Int32), .int (0 : Int32), .int (0 : Int32), .int (0 : Int32), .int (0 : Int32)])], 1, 5)) rfl ?_
          refine EW.run 2 (cf' := ((9, [.val (.ref 10), .val (.int (0 : Int32)), .val (.int (5 : Int32)), .val (.ref 11), .unset, .unset], [.int (5 : Int32), .int (0 : Int32), .ref 11, .int (0 : Int32), .ref 10]), [B0, B1, B2, B3, B4, B5, B6, .inl (.char, v8), .inl (.char, [.int x0, .int x1, .int x2, .int x3, .int x4, .int x5, .int x6]), .inr (0, [(0, .null), (1, .int (0 : Int32))]), .inl (.char, [.int x0.toUInt32.toUInt16.toUInt32.toInt32, .int x1.toUInt32.toUInt16.toUInt32.toInt32, .int x2.toUInt32.toUInt16.toUInt32.toInt32, .int x3.toUInt32.toUInt16.toUInt32.toInt32, .int x4.toUInt32.toUInt16.toUInt32.toInt32]), .inl (.byte, [.int (0 : Int32), .int (0 : Int32), .int (0 : Int32), .int (0 : Int32), .int (0 : Int32)])], 1, 5)) rfl ?_
          refine EW.call (Qc := fun r => r = (some (.int (5 : Int32)), [B0, B1, B2, B3, B4, B5, B6, .inl (.char, v8), .inl (.char, [.int x0, .int x1, .int x2, .int x3, .int x4, .int x5, .int x6]), .inr (0, [(0, .null), (1, .int (0 : Int32))]), .inl (.char, [.int x0.toUInt32.toUInt16.toUInt32.toInt32, .int x1.toUInt32.toUInt16.toUInt32.toInt32, .int x2.toUInt32.toUInt16.toUInt32.toInt32, .int x3.toUInt32.toUInt16.toUInt32.toInt32, .int x4.toUInt32.toUInt16.toUInt32.toInt32]), .inl (.byte, [.int x0.toUInt32.toUInt16.toUInt32.toInt32.toInt8.toInt32.toInt8.toInt32, .int x1.toUInt32.toUInt16.toUInt32.toInt32.toInt8.toInt32.toInt8.toInt32, .int x2.toUInt32.toUInt16.toUInt32.toInt32.toInt8.toInt32.toInt8.toInt32, .int x3.toUInt32.toUInt16.toUInt32.toInt32.toInt8.toInt32.toInt8.toInt32, .int x4.toUInt32.toUInt16.toUInt32.toInt32.toInt8.toInt32.toInt8.toInt32])], 0, 0)) rfl ?_ ?_
          · show EW _ _ _ _ _ ((0, [.val (.ref 10), .val (.int (0 : Int32)), .val (.ref 11), .val (.int (0 : Int32)), .val (.int (5 : Int32)), .unset, .unset], []), [B0, B1, B2, B3, B4, B5, B6, .inl (.char, v8), .inl (.char, [.int x0, .int x1, .int x2, .int x3, .int x4, .int x5, .int x6]), .inr (0, [(0, .null), (1, .int (0 : Int32))]), .inl (.char, [.int x0.toUInt32.toUInt16.toUInt32.toInt32, .int x1.toUInt32.toUInt16.toUInt32.toInt32, .int x2.toUInt32.toUInt16.toUInt32.toInt32, .int x3.toUInt32.toUInt16.toUInt32.toInt32, .int x4.toUInt32.toUInt16.toUInt32.toInt32]), .inl (.byte, [.int (0 : Int32), .int (0 : Int32), .int (0 : Int32), .int (0 : Int32), .int (0 : Int32)])], 0, 0)
            refine EW.run 6 (cf' := ((11, [.val (.ref 10), .val (.int (0 : Int32)), .val (.ref 11), .val (.int (0 : Int32)), .val (.int (5 : Int32)), .val (.int (0 : Int32)), .unset], [.ref 10]), [B0, B1, B2, B3, B4, B5, B6, .inl (.char, v8), .inl (.char, [.int x0, .int x1, .int x2, .int x3, .int x4, .int x5, .int x6]), .inr (0, [(0, .null), (1, .int (0 : Int32))]), .inl (.char, [.int x0.toUInt32.toUInt16.toUInt32.toInt32, .int x1.toUInt32.toUInt16.toUInt32.toInt32, .int x2.toUInt32.toUInt16.toUInt32.toInt32, .int x3.toUInt32.toUInt16.toUInt32.toInt32, .int x4.toUInt32.toUInt16.toUInt32.toInt32]), .inl (.byte, [.int (0 : Int32), .int (0 : Int32), .int (0 : Int32), .int (0 : Int32), .int (0 : Int32)])], 0, 0)) rfl ?_
            refine EW.run 5 (cf' := ((20, [.val (.ref 10), .val (.int (0 : Int32)), .val (.ref 11), .val (.int (0 : Int32)), .val (.int (5 : Int32)), .val (.int (0 : Int32)), .val (.int x0.toUInt32.toUInt16.toUInt32.toInt32)], [.int (255 : Int32), .int x0.toUInt32.toUInt16.toUInt32.toInt32]), [B0, B1, B2, B3, B4, B5, B6, .inl (.char, v8), .inl (.char, [.int x0, .int x1, .int x2, .int x3, .int x4, .int x5, .int x6]), .inr (0, [(0, .null), (1, .int (0 : Int32))]), .inl (.char, [.int x0.toUInt32.toUInt16.toUInt32.toInt32, .int x1.toUInt32.toUInt16.toUInt32.toInt32, .int x2.toUInt32.toUInt16.toUInt32.toInt32, .int x3.toUInt32.toUInt16.toUInt32.toInt32, .int x4.toUInt32.toUInt16.toUInt32.toInt32]), .inl (.byte, [.int (0 : Int32), .int (0 : Int32), .int (0 : Int32), .int (0 : Int32), .int (0 : Int32)])], 0, 0)) rfl ?_
            refine EW.icmpP rfl (by decide) (fun h => ?_) (fun h => ?_)
            · have h2 : x0.toUInt32.toUInt16.toUInt32.toInt32.toInt ≤ (255 : Int32).toInt := by simp only [cP] at h; omega
              clear h
              show EW _ _ _ _ _ ((26, [.val (.ref 10), .val (.int (0 : Int32)), .val (.ref 11), .val (.int (0 : Int32)), .val (.int (5 : Int32)), .val (.int (0 : Int32)), .val (.int x0.toUInt32.toUInt16.toUInt32.toInt32)], []), [B0, B1, B2, B3, B4, B5, B6, .inl (.char, v8), .inl (.char, [.int x0, .int x1, .int x2, .int x3, .int x4, .int x5, .int x6]), .inr (0, [(0, .null), (1, .int (0 : Int32))]), .inl (.char, [.int x0.toUInt32.toUInt16.toUInt32.toInt32, .int x1.toUInt32.toUInt16.toUInt32.toInt32, .int x2.toUInt32.toUInt16.toUInt32.toInt32, .int x3.toUInt32.toUInt16.toUInt32.toInt32, .int x4.toUInt32.toUInt16.toUInt32.toInt32]), .inl (.byte, [.int (0 : Int32), .int (0 : Int32), .int (0 : Int32), .int (0 : Int32), .int (0 : Int32)])], 0, 0)
              refine EW.run 6 (cf' := ((35, [.val (.ref 10), .val (.int (1 : Int32)), .val (.ref 11), .val (.int (0 : Int32)), .val (.int (5 : Int32)), .val (.int (0 : Int32)), .val (.int x0.toUInt32.toUInt16.toUInt32.toInt32)], []), [B0, B1, B2, B3, B4, B5, B6, .inl (.char, v8), .inl (.char, [.int x0, .int x1, .int x2, .int x3, .int x4, .int x5, .int x6]), .inr (0, [(0, .null), (1, .int (0 : Int32))]), .inl (.char, [.int x0.toUInt32.toUInt16.toUInt32.toInt32, .int x1.toUInt32.toUInt16.toUInt32.toInt32, .int x2.toUInt32.toUInt16.toUInt32.toInt32, .int x3.toUInt32.toUInt16.toUInt32.toInt32, .int x4.toUInt32.toUInt16.toUInt32.toInt32]), .inl (.byte, [.int x0.toUInt32.toUInt16.toUInt32.toInt32.toInt8.toInt32.toInt8.toInt32, .int (0 : Int32), .int (0 : Int32), .int (0 : Int32), .int (0 : Int32)])], 0, 0)) rfl ?_
              refine EW.run 6 (cf' := ((10, [.val (.ref 10), .val (.int (1 : Int32)), .val (.ref 11), .val (.int (1 : Int32)), .val (.int (5 : Int32)), .val (.int (1 : Int32)), .val (.int x0.toUInt32.toUInt16.toUInt32.toInt32)], []), [B0, B1, B2, B3, B4, B5, B6, .inl (.char, v8), .inl (.char, [.int x0, .int x1, .int x2, .int x3, .int x4, .int x5, .int x6]), .inr (0, [(0, .null), (1, .int (0 : Int32))]), .inl (.char, [.int x0.toUInt32.toUInt16.toUInt32.toInt32, .int x1.toUInt32.toUInt16.toUInt32.toInt32, .int x2.toUInt32.toUInt16.toUInt32.toInt32, .int x3.toUInt32.toUInt16.toUInt32.toInt32, .int x4.toUInt32.toUInt16.toUInt32.toInt32]), .inl (.byte, [.int x0.toUInt32.toUInt16.toUInt32.toInt32.toInt8.toInt32.toInt8.toInt32, .int (0 : Int32), .int (0 : Int32), .int (0 : Int32), .int (0 : Int32)])], 0, 0)) rfl ?_
              refine EW.run 6 (cf' := ((20, [.val (.ref 10), .val (.int (1 : Int32)), .val (.ref 11), .val (.int (1 : Int32)), .val (.int (5 : Int32)), .val (.int (1 : Int32)), .val (.int x1.toUInt32.toUInt16.toUInt32.toInt32)], [.int (255 : Int32), .int x1.toUInt32.toUInt16.toUInt32.toInt32]), [B0, B1, B2, B3, B4, B5, B6, .inl (.char, v8), .inl (.char, [.int x0, .int x1, .int x2, .int x3, .int x4, .int x5, .int x6]), .inr (0, [(0, .null), (1, .int (0 : Int32))]), .inl (.char, [.int x0.toUInt32.toUInt16.toUInt32.toInt32, .int x1.toUInt32.toUInt16.toUInt32.toInt32, .int x2.toUInt32.toUInt16.toUInt32.toInt32, .int x3.toUInt32.toUInt16.toUInt32.toInt32, .int x4.toUInt32.toUInt16.toUInt32.toInt32]), .inl (.byte, [.int x0.toUInt32.toUInt16.toUInt32.toInt32.toInt8.toInt32.toInt8.toInt32, .int (0 : Int32), .int (0 : Int32), .int (0 : Int32), .int (0 : Int32)])], 0, 0)) rfl ?_
              refine EW.icmpP rfl (by decide) (fun h => ?_) (fun h => ?_)
              · have h3 : x1.toUInt32.toUInt16.toUInt32.toInt32.toInt ≤ (255 : Int32).toInt := by simp only [cP] at h; omega
                clear h
                show EW _ _ _ _ _ ((26, [.val (.ref 10), .val (.int (1 : Int32)), .val (.ref 11), .val (.int (1 : Int32)), .val (.int (5 : Int32)), .val (.int (1 : Int32)), .val (.int x1.toUInt32.toUInt16.toUInt32.toInt32)], []), [B0, B1, B2, B3, B4, B5, B6, .inl (.char, v8), .inl (.char, [.int x0, .int x1, .int x2, .int x3, .int x4, .int x5, .int x6]), .inr (0, [(0, .null), (1, .int (0 : Int32))]), .inl (.char, [.int x0.toUInt32.toUInt16.toUInt32.toInt32, .int x1.toUInt32.toUInt16.toUInt32.toInt32, .int x2.toUInt32.toUInt16.toUInt32.toInt32, .int x3.toUInt32.toUInt16.toUInt32.toInt32, .int x4.toUInt32.toUInt16.toUInt32.toInt32]), .inl (.byte, [.int x0.toUInt32.toUInt16.toUInt32.toInt32.toInt8.toInt32.toInt8.toInt32, .int (0 : Int32), .int (0 : Int32), .int (0 : Int32), .int (0 : Int32)])], 0, 0)
                refine EW.run 6 (cf' := ((35, [.val (.ref 10), .val (.int (2 : Int32)), .val (.ref 11), .val (.int (1 : Int32)), .val (.int (5 : Int32)), .val (.int (1 : Int32)), .val (.int x1.toUInt32.toUInt16.toUInt32.toInt32)], []), [B0, B1, B2, B3, B4, B5, B6, .inl (.char, v8), .inl (.char, [.int x0, .int x1, .int x2, .int x3, .int x4, .int x5, .int x6]), .inr (0, [(0, .null), (1, .int (0 : Int32))]), .inl (.char, [.int x0.toUInt32.toUInt16.toUInt32.toInt32, .int x1.toUInt32.toUInt16.toUInt32.toInt32, .int x2.toUInt32.toUInt16.toUInt32.toInt32, .int x3.toUInt32.toUInt16.toUInt32.toInt32, .int x4.toUInt32.toUInt16.toUInt32.toInt32]), .inl (.byte, [.int x0.toUInt32.toUInt16.toUInt32.toInt32.toInt8.toInt32.toInt8.toInt32, .int x1.toUInt32.toUInt16.toUInt32.toInt32.toInt8.toInt32.toInt8.toInt32, .int (0 : Int32), .int (0 : Int32), .int (0 : Int32)])], 0, 0)) rfl ?_
                refine EW.run 6 (cf' := ((10, [.val (.ref 10), .val (.int (2 : Int32)), .val (.ref 11), .val (.int (2 : Int32)), .val (.int (5 : Int32)), .val (.int (2 : Int32)), .val (.int x1.toUInt32.toUInt16.toUInt32.toInt32)], []), [B0, B1, B2, B3, B4, B5, B6, .inl (.char, v8), .inl (.char, [.int x0, .int x1, .int x2, .int x3, .int x4, .int x5, .int x6]), .inr (0, [(0, .null), (1, .int (0 : Int32))]), .inl (.char, [.int x0.toUInt32.toUInt16.toUInt32.toInt32, .int x1.toUInt32.toUInt16.toUInt32.toInt32, .int x2.toUInt32.toUInt16.toUInt32.toInt32, .int x3.toUInt32.toUInt16.toUInt32.toInt32, .int x4.toUInt32.toUInt16.toUInt32.toInt32]), .inl (.byte, [.int x0.toUInt32.toUInt16.toUInt32.toInt32.toInt8.toInt32.toInt8.toInt32, .int x1.toUInt32.toUInt16.toUInt32.toInt32.toInt8.toInt32.toInt8.toInt32, .int (0 : Int32), .int (0 : Int32), .int (0 : Int32)])], 0, 0)) rfl ?_
                refine EW.run 6 (cf' := ((20, [.val (.ref 10), .val (.int (2 : Int32)), .val (.ref 11), .val (.int (2 : Int32)), .val (.int (5 : Int32)), .val (.int (2 : Int32)), .val (.int x2.toUInt32.toUInt16.toUInt32.toInt32)], [.int (255 : Int32), .int x2.toUInt32.toUInt16.toUInt32.toInt32]), [B0, B1, B2, B3, B4, B5, B6, .inl (.char, v8), .inl (.char, [.int x0, .int x1, .int x2, .int x3, .int x4, .int x5, .int x6]), .inr (0, [(0, .null), (1, .int (0 : Int32))]), .inl (.char, [.int x0.toUInt32.toUInt16.toUInt32.toInt32, .int x1.toUInt32.toUInt16.toUInt32.toInt32, .int x2.toUInt32.toUInt16.toUInt32.toInt32, .int x3.toUInt32.toUInt16.toUInt32.toInt32, .int x4.toUInt32.toUInt16.toUInt32.toInt32]), .inl (.byte, [.int x0.toUInt32.toUInt16.toUInt32.toInt32.toInt8.toInt32.toInt8.toInt32, .int x1.toUInt32.toUInt16.toUInt32.toInt32.toInt8.toInt32.toInt8.toInt32, .int (0 : Int32), .int (0 : Int32), .int (0 : Int32)])], 0, 0)) rfl ?_
                refine EW.icmpP rfl (by decide) (fun h => ?_) (fun h => ?_)
                · have h4 : x2.toUInt32.toUInt16.toUInt32.toInt32.toInt ≤ (255 : Int32).toInt := by simp only [cP] at h; omega
                  clear h
                  show EW _ _ _ _ _ ((26, [.val (.ref 10), .val (.int (2 : Int32)), .val (.ref 11), .val (.int (2 : Int32)), .val (.int (5 : Int32)), .val (.int (2 : Int32)), .val (.int x2.toUInt32.toUInt16.toUInt32.toInt32)], []), [B0, B1, B2, B3, B4, B5, B6, .inl (.char, v8), .inl (.char, [.int x0, .int x1, .int x2, .int x3, .int x4, .int x5, .int x6]), .inr (0, [(0, .null), (1, .int (0 : Int32))]), .inl (.char, [.int x0.toUInt32.toUInt16.toUInt32.toInt32, .int x1.toUInt32.toUInt16.toUInt32.toInt32, .int x2.toUInt32.toUInt16.toUInt32.toInt32, .int x3.toUInt32.toUInt16.toUInt32.toInt32, .int x4.toUInt32.toUInt16.toUInt32.toInt32]), .inl (.byte, [.int x0.toUInt32.toUInt16.toUInt32.toInt32.toInt8.toInt32.toInt8.toInt32, .int x1.toUInt32.toUInt16.toUInt32.toInt32.toInt8.toInt32.toInt8.toInt32, .int (0 : Int32), .int (0 : Int32), .int (0 : Int32)])], 0, 0)
                  refine EW.run 6 (cf' := ((35, [.val (.ref 10), .val (.int (3 : Int32)), .val (.ref 11), .val (.int (2 : Int32)), .val (.int (5 : Int32)), .val (.int (2 : Int32)), .val (.int x2.toUInt32.toUInt16.toUInt32.toInt32)], []), [B0, B1, B2, B3, B4, B5, B6, .inl (.char, v8), .inl (.char, [.int x0, .int x1, .int x2, .int x3, .int x4, .int x5, .int x6]), .inr (0, [(0, .null), (1, .int (0 : Int32))]), .inl (.char, [.int x0.toUInt32.toUInt16.toUInt32.toInt32, .int x1.toUInt32.toUInt16.toUInt32.toInt32, .int x2.toUInt32.toUInt16.toUInt32.toInt32, .int x3.toUInt32.toUInt16.toUInt32.toInt32, .int x4.toUInt32.toUInt16.toUInt32.toInt32]), .inl (.byte, [.int x0.toUInt32.toUInt16.toUInt32.toInt32.toInt8.toInt32.toInt8.toInt32, .int x1.toUInt32.toUInt16.toUInt32.toInt32.toInt8.toInt32.toInt8.toInt32, .int x2.toUInt32.toUInt16.toUInt32.toInt32.toInt8.toInt32.toInt8.toInt32, .int (0 : Int32), .int (0 : Int32)])], 0, 0)) rfl ?_
                  refine EW.run 6 (cf' := ((10, [.val (.ref 10), .val (.int (3 : Int32)), .val (.ref 11), .val (.int (3 : Int32)), .val (.int (5 : Int32)), .val (.int (3 : Int32)), .val (.int x2.toUInt32.toUInt16.toUInt32.toInt32)], []), [B0, B1, B2, B3, B4, B5, B6, .inl (.char, v8), .inl (.char, [.int x0, .int x1, .int x2, .int x3, .int x4, .int x5, .int x6]), .inr (0, [(0, .null), (1, .int (0 : Int32))]), .inl (.char, [.int x0.toUInt32.toUInt16.toUInt32.toInt32, .int x1.toUInt32.toUInt16.toUInt32.toInt32, .int x2.toUInt32.toUInt16.toUInt32.toInt32, .int x3.toUInt32.toUInt16.toUInt32.toInt32, .int x4.toUInt32.toUInt16.toUInt32.toInt32]), .inl (.byte, [.int x0.toUInt32.toUInt16.toUInt32.toInt32.toInt8.toInt32.toInt8.toInt32, .int x1.toUInt32.toUInt16.toUInt32.toInt32.toInt8.toInt32.toInt8.toInt32, .int x2.toUInt32.toUInt16.toUInt32.toInt32.toInt8.toInt32.toInt8.toInt32, .int (0 : Int32), .int (0 : Int32)])], 0, 0)) rfl ?_
                  refine EW.run 6 (cf' := ((20, [.val (.ref 10), .val (.int (3 : Int32)), .val (.ref 11), .val (.int (3 : Int32)), .val (.int (5 : Int32)), .val (.int (3 : Int32)), .val (.int x3.toUInt32.toUInt16.toUInt32.toInt32)], [.int (255 : Int32), .int x3.toUInt32.toUInt16.toUInt32.toInt32]), [B0, B1, B2, B3, B4, B5, B6, .inl (.char, v8), .inl (.char, [.int x0, .int x1, .int x2, .int x3, .int x4, .int x5, .int x6]), .inr (0, [(0, .null), (1, .int (0 : Int32))]), .inl (.char, [.int x0.toUInt32.toUInt16.toUInt32.toInt32, .int x1.toUInt32.toUInt16.toUInt32.toInt32, .int x2.toUInt32.toUInt16.toUInt32.toInt32, .int x3.toUInt32.toUInt16.toUInt32.toInt32, .int x4.toUInt32.toUInt16.toUInt32.toInt32]), .inl (.byte, [.int x0.toUInt32.toUInt16.toUInt32.toInt32.toInt8.toInt32.toInt8.toInt32, .int x1.toUInt32.toUInt16.toUInt32.toInt32.toInt8.toInt32.toInt8.toInt32, .int x2.toUInt32.toUInt16.toUInt32.toInt32.toInt8.toInt32.toInt8.toInt32, .int (0 : Int32), .int (0 : Int32)])], 0, 0)) rfl ?_
                  refine EW.icmpP rfl (by decide) (fun h => ?_) (fun h => ?_)
                  · have h5 : x3.toUInt32.toUInt16.toUInt32.toInt32.toInt ≤ (255 : Int32).toInt := by simp only [cP] at h; omega
                    clear h
                    show EW _ _ _ _ _ ((26, [.val (.ref 10), .val (.int (3 : Int32)), .val (.ref 11), .val (.int (3 : Int32)), .val (.int (5 : Int32)), .val (.int (3 : Int32)), .val (.int x3.toUInt32.toUInt16.toUInt32.toInt32)], []), [B0, B1, B2, B3, B4, B5, B6, .inl (.char, v8), .inl (.char, [.int x0, .int x1, .int x2, .int x3, .int x4, .int x5, .int x6]), .inr (0, [(0, .null), (1, .int (0 : Int32))]), .inl (.char, [.int x0.toUInt32.toUInt16.toUInt32.toInt32, .int x1.toUInt32.toUInt16.toUInt32.toInt32, .int x2.toUInt32.toUInt16.toUInt32.toInt32, .int x3.toUInt32.toUInt16.toUInt32.toInt32, .int x4.toUInt32.toUInt16.toUInt32.toInt32]), .inl (.byte, [.int x0.toUInt32.toUInt16.toUInt32.toInt32.toInt8.toInt32.toInt8.toInt32, .int x1.toUInt32.toUInt16.toUInt32.toInt32.toInt8.toInt32.toInt8.toInt32, .int x2.toUInt32.toUInt16.toUInt32.toInt32.toInt8.toInt32.toInt8.toInt32, .int (0 : Int32), .int (0 : Int32)])], 0, 0)
                    refine EW.run 6 (cf' := ((35, [.val (.ref 10), .val (.int (4 : Int32)), .val (.ref 11), .val (.int (3 : Int32)), .val (.int (5 : Int32)), .val (.int (3 : Int32)), .val (.int x3.toUInt32.toUInt16.toUInt32.toInt32)], []), [B0, B1, B2, B3, B4, B5, B6, .inl (.char, v8), .inl (.char, [.int x0, .int x1, .int x2, .int x3, .int x4, .int x5, .int x6]), .inr (0, [(0, .null), (1, .int (0 : Int32))]), .inl (.char, [.int x0.toUInt32.toUInt16.toUInt32.toInt32, .int x1.toUInt32.toUInt16.toUInt32.toInt32, .int x2.toUInt32.toUInt16.toUInt32.toInt32, .int x3.toUInt32.toUInt16.toUInt32.toInt32, .int x4.toUInt32.toUInt16.toUInt32.toInt32]), .inl (.byte, [.int x0.toUInt32.toUInt16.toUInt32.toInt32.toInt8.toInt32.toInt8.toInt32, .int x1.toUInt32.toUInt16.toUInt32.toInt32.toInt8.toInt32.toInt8.toInt32, .int x2.toUInt32.toUInt16.toUInt32.toInt32.toInt8.toInt32.toInt8.toInt32, .int x3.toUInt32.toUInt16.toUInt32.toInt32.toInt8.toInt32.toInt8.toInt32, .int (0 : Int32)])], 0, 0)) rfl ?_
                    refine EW.run 6 (cf' := ((10, [.val (.ref 10), .val (.int (4 : Int32)), .val (.ref 11), .val (.int (4 : Int32)), .val (.int (5 : Int32)), .val (.int (4 : Int32)), .val (.int x3.toUInt32.toUInt16.toUInt32.toInt32)], []), [B0, B1, B2, B3, B4, B5, B6, .inl (.char, v8), .inl (.char, [.int x0, .int x1, .int x2, .int x3, .int x4, .int x5, .int x6]), .inr (0, [(0, .null), (1, .int (0 : Int32))]), .inl (.char, [.int x0.toUInt32.toUInt16.toUInt32.toInt32, .int x1.toUInt32.toUInt16.toUInt32.toInt32, .int x2.toUInt32.toUInt16.toUInt32.toInt32, .int x3.toUInt32.toUInt16.toUInt32.toInt32, .int x4.toUInt32.toUInt16.toUInt32.toInt32]), .inl (.byte, [.int x0.toUInt32.toUInt16.toUInt32.toInt32.toInt8.toInt32.toInt8.toInt32, .int x1.toUInt32.toUInt16.toUInt32.toInt32.toInt8.toInt32.toInt8.toInt32, .int x2.toUInt32.toUInt16.toUInt32.toInt32.toInt8.toInt32.toInt8.toInt32, .int x3.toUInt32.toUInt16.toUInt32.toInt32.toInt8.toInt32.toInt8.toInt32, .int (0 : Int32)])], 0, 0)) rfl ?_
                    refine EW.run 6 (cf' := ((20, [.val (.ref 10), .val (.int (4 : Int32)), .val (.ref 11), .val (.int (4 : Int32)), .val (.int (5 : Int32)), .val (.int (4 : Int32)), .val (.int x4.toUInt32.toUInt16.toUInt32.toInt32)], [.int (255 : Int32), .int x4.toUInt32.toUInt16.toUInt32.toInt32]), [B0, B1, B2, B3, B4, B5, B6, .inl (.char, v8), .inl (.char, [.int x0, .int x1, .int x2, .int x3, .int x4, .int x5, .int x6]), .inr (0, [(0, .null), (1, .int (0 : Int32))]), .inl (.char, [.int x0.toUInt32.toUInt16.toUInt32.toInt32, .int x1.toUInt32.toUInt16.toUInt32.toInt32, .int x2.toUInt32.toUInt16.toUInt32.toInt32, .int x3.toUInt32.toUInt16.toUInt32.toInt32, .int x4.toUInt32.toUInt16.toUInt32.toInt32]), .inl (.byte, [.int x0.toUInt32.toUInt16.toUInt32.toInt32.toInt8.toInt32.toInt8.toInt32, .int x1.toUInt32.toUInt16.toUInt32.toInt32.toInt8.toInt32.toInt8.toInt32, .int x2.toUInt32.toUInt16.toUInt32.toInt32.toInt8.toInt32.toInt8.toInt32, .int x3.toUInt32.toUInt16.toUInt32.toInt32.toInt8.toInt32.toInt8.toInt32, .int (0 : Int32)])], 0, 0)) rfl ?_
                    refine EW.icmpP rfl (by decide) (fun h => ?_) (fun h => ?_)
                    · have h6 : x4.toUInt32.toUInt16.toUInt32.toInt32.toInt ≤ (255 : Int32).toInt := by simp only [cP] at h; omega
                      clear h
                      show EW _ _ _ _ _ ((26, [.val (.ref 10), .val (.int (4 : Int32)), .val (.ref 11), .val (.int (4 : Int32)), .val (.int (5 : Int32)), .val (.int (4 : Int32)), .val (.int x4.toUInt32.toUInt16.toUInt32.toInt32)], []), [B0, B1, B2, B3, B4, B5, B6, .inl (.char, v8), .inl (.char, [.int x0, .int x1, .int x2, .int x3, .int x4, .int x5, .int x6]), .inr (0, [(0, .null), (1, .int (0 : Int32))]), .inl (.char, [.int x0.toUInt32.toUInt16.toUInt32.toInt32, .int x1.toUInt32.toUInt16.toUInt32.toInt32, .int x2.toUInt32.toUInt16.toUInt32.toInt32, .int x3.toUInt32.toUInt16.toUInt32.toInt32, .int x4.toUInt32.toUInt16.toUInt32.toInt32]), .inl (.byte, [.int x0.toUInt32.toUInt16.toUInt32.toInt32.toInt8.toInt32.toInt8.toInt32, .int x1.toUInt32.toUInt16.toUInt32.toInt32.toInt8.toInt32.toInt8.toInt32, .int x2.toUInt32.toUInt16.toUInt32.toInt32.toInt8.toInt32.toInt8.toInt32, .int x3.toUInt32.toUInt16.toUInt32.toInt32.toInt8.toInt32.toInt8.toInt32, .int (0 : Int32)])], 0, 0)
                      refine EW.run 6 (cf' := ((35, [.val (.ref 10), .val (.int (5 : Int32)), .val (.ref 11), .val (.int (4 : Int32)), .val (.int (5 : Int32)), .val (.int (4 : Int32)), .val (.int x4.toUInt32.toUInt16.toUInt32.toInt32)], []), [B0, B1, B2, B3, B4, B5, B6, .inl (.char, v8), .inl (.char, [.int x0, .int x1, .int x2, .int x3, .int x4, .int x5, .int x6]), .inr (0, [(0, .null), (1, .int (0 : Int32))]), .inl (.char, [.int x0.toUInt32.toUInt16.toUInt32.toInt32, .int x1.toUInt32.toUInt16.toUInt32.toInt32, .int x2.toUInt32.toUInt16.toUInt32.toInt32, .int x3.toUInt32.toUInt16.toUInt32.toInt32, .int x4.toUInt32.toUInt16.toUInt32.toInt32]), .inl (.byte, [.int x0.toUInt32.toUInt16.toUInt32.toInt32.toInt8.toInt32.toInt8.toInt32, .int x1.toUInt32.toUInt16.toUInt32.toInt32.toInt8.toInt32.toInt8.toInt32, .int x2.toUInt32.toUInt16.toUInt32.toInt32.toInt8.toInt32.toInt8.toInt32, .int x3.toUInt32.toUInt16.toUInt32.toInt32.toInt8.toInt32.toInt8.toInt32, .int x4.toUInt32.toUInt16.toUInt32.toInt32.toInt8.toInt32.toInt8.toInt32])], 0, 0)) rfl ?_
                      refine EW.run 6 (cf' := ((44, [.val (.ref 10), .val (.int (5 : Int32)), .val (.ref 11), .val (.int (5 : Int32)), .val (.int (5 : Int32)), .val (.int (5 : Int32)), .val (.int x4.toUInt32.toUInt16.toUInt32.toInt32)], []), [B0, B1, B2, B3, B4, B5, B6, .inl (.char, v8), .inl (.char, [.int x0, .int x1, .int x2, .int x3, .int x4, .int x5, .int x6]), .inr (0, [(0, .null), (1, .int (0 : Int32))]), .inl (.char, [.int x0.toUInt32.toUInt16.toUInt32.toInt32, .int x1.toUInt32.toUInt16.toUInt32.toInt32, .int x2.toUInt32.toUInt16.toUInt32.toInt32, .int x3.toUInt32.toUInt16.toUInt32.toInt32, .int x4.toUInt32.toUInt16.toUInt32.toInt32]), .inl (.byte, [.int x0.toUInt32.toUInt16.toUInt32.toInt32.toInt8.toInt32.toInt8.toInt32, .int x1.toUInt32.toUInt16.toUInt32.toInt32.toInt8.toInt32.toInt8.toInt32, .int x2.toUInt32.toUInt16.toUInt32.toInt32.toInt8.toInt32.toInt8.toInt32, .int x3.toUInt32.toUInt16.toUInt32.toInt32.toInt8.toInt32.toInt8.toInt32, .int x4.toUInt32.toUInt16.toUInt32.toInt32.toInt8.toInt32.toInt8.toInt32])], 0, 0)) rfl ?_
                      refine EW.run 1 (cf' := ((46, [.val (.ref 10), .val (.int (5 : Int32)), .val (.ref 11), .val (.int (5 : Int32)), .val (.int (5 : Int32)), .val (.int (5 : Int32)), .val (.int x4.toUInt32.toUInt16.toUInt32.toInt32)], [.int (5 : Int32)]), [B0, B1, B2, B3, B4, B5, B6, .inl (.char, v8), .inl (.char, [.int x0, .int x1, .int x2, .int x3, .int x4, .int x5, .int x6]), .inr (0, [(0, .null), (1, .int (0 : Int32))]), .inl (.char, [.int x0.toUInt32.toUInt16.toUInt32.toInt32, .int x1.toUInt32.toUInt16.toUInt32.toInt32, .int x2.toUInt32.toUInt16.toUInt32.toInt32, .int x3.toUInt32.toUInt16.toUInt32.toInt32, .int x4.toUInt32.toUInt16.toUInt32.toInt32]), .inl (.byte, [.int x0.toUInt32.toUInt16.toUInt32.toInt32.toInt8.toInt32.toInt8.toInt32, .int x1.toUInt32.toUInt16.toUInt32.toInt32.toInt8.toInt32.toInt8.toInt32, .int x2.toUInt32.toUInt16.toUInt32.toInt32.toInt8.toInt32.toInt8.toInt32, .int x3.toUInt32.toUInt16.toUInt32.toInt32.toInt8.toInt32.toInt8.toInt32, .int x4.toUInt32.toUInt16.toUInt32.toInt32.toInt8.toInt32.toInt8.toInt32])], 0, 0)) rfl ?_
                      exact EW.ret rfl rfl
                    · exfalso; simp only [cP] at h; omega
                  · exfalso; simp only [cP] at h; omega
                · exfalso; simp only [cP] at h; omega
              · exfalso; simp only [cP] at h; omega
            · exfalso; simp only [cP] at h; omega
          rintro _ _ _ _ ⟨⟩
          show EW _ _ _ _ _ ((12, [.val (.ref 10), .val (.int (0 : Int32)), .val (.int (5 : Int32)), .val (.ref 11), .unset, .unset], [.int (5 : Int32)]), [B0, B1, B2, B3, B4, B5, B6, .inl (.char, v8), .inl (.char, [.int x0, .int x1, .int x2, .int x3, .int x4, .int x5, .int x6]), .inr (0, [(0, .null), (1, .int (0 : Int32))]), .inl (.char, [.int x0.toUInt32.toUInt16.toUInt32.toInt32, .int x1.toUInt32.toUInt16.toUInt32.toInt32, .int x2.toUInt32.toUInt16.toUInt32.toInt32, .int x3.toUInt32.toUInt16.toUInt32.toInt32, .int x4.toUInt32.toUInt16.toUInt32.toInt32]), .inl (.byte, [.int x0.toUInt32.toUInt16.toUInt32.toInt32.toInt8.toInt32.toInt8.toInt32, .int x1.toUInt32.toUInt16.toUInt32.toInt32.toInt8.toInt32.toInt8.toInt32, .int x2.toUInt32.toUInt16.toUInt32.toInt32.toInt8.toInt32.toInt8.toInt32, .int x3.toUInt32.toUInt16.toUInt32.toInt32.toInt8.toInt32.toInt8.toInt32, .int x4.toUInt32.toUInt16.toUInt32.toInt32.toInt8.toInt32.toInt8.toInt32])], 1, 5)
          refine EW.run 5 (cf' := ((58, [.val (.ref 10), .val (.int (0 : Int32)), .val (.int (5 : Int32)), .val (.ref 11), .val (.int (5 : Int32)), .unset], [.ref 11]), [B0, B1, B2, B3, B4, B5, B6, .inl (.char, v8), .inl (.char, [.int x0, .int x1, .int x2, .int x3, .int x4, .int x5, .int x6]), .inr (0, [(0, .null), (1, .int (0 : Int32))]), .inl (.char, [.int x0.toUInt32.toUInt16.toUInt32.toInt32, .int x1.toUInt32.toUInt16.toUInt32.toInt32, .int x2.toUInt32.toUInt16.toUInt32.toInt32, .int x3.toUInt32.toUInt16.toUInt32.toInt32, .int x4.toUInt32.toUInt16.toUInt32.toInt32]), .inl (.byte, [.int x0.toUInt32.toUInt16.toUInt32.toInt32.toInt8.toInt32.toInt8.toInt32, .int x1.toUInt32.toUInt16.toUInt32.toInt32.toInt8.toInt32.toInt8.toInt32, .int x2.toUInt32.toUInt16.toUInt32.toInt32.toInt8.toInt32.toInt8.toInt32, .int x3.toUInt32.toUInt16.toUInt32.toInt32.toInt8.toInt32.toInt8.toInt32, .int x4.toUInt32.toUInt16.toUInt32.toInt32.toInt8.toInt32.toInt8.toInt32])], 1, 5)) rfl ?_
          exact EW.ret rfl rfl
        rintro _ _ _ _ ⟨⟩
        show EW _ _ _ _ _ ((39, [.val (.ref 9), .val (.ref 10), .val (.int (0 : Int32)), .val (.int (5 : Int32)), .val (.null), .unset], [.ref 11]), [B0, B1, B2, B3, B4, B5, B6, .inl (.char, v8), .inl (.char, [.int x0, .int x1, .int x2, .int x3, .int x4, .int x5, .int x6]), .inr (0, [(0, .null), (1, .int (0 : Int32))]), .inl (.char, [.int x0.toUInt32.toUInt16.toUInt32.toInt32, .int x1.toUInt32.toUInt16.toUInt32.toInt32, .int x2.toUInt32.toUInt16.toUInt32.toInt32, .int x3.toUInt32.toUInt16.toUInt32.toInt32, .int x4.toUInt32.toUInt16.toUInt32.toInt32]), .inl (.byte, [.int x0.toUInt32.toUInt16.toUInt32.toInt32.toInt8.toInt32.toInt8.toInt32, .int x1.toUInt32.toUInt16.toUInt32.toInt32.toInt8.toInt32.toInt8.toInt32, .int x2.toUInt32.toUInt16.toUInt32.toInt32.toInt8.toInt32.toInt8.toInt32, .int x3.toUInt32.toUInt16.toUInt32.toInt32.toInt8.toInt32.toInt8.toInt32, .int x4.toUInt32.toUInt16.toUInt32.toInt32.toInt8.toInt32.toInt8.toInt32])], 1, 5)
        refine EW.run 4 (cf' := ((45, [.val (.ref 9), .val (.ref 10), .val (.int (0 : Int32)), .val (.int (5 : Int32)), .val (.null), .val (.ref 11)], [.int (5 : Int32), .ref 11, .ref 9]), [B0, B1, B2, B3, B4, B5, B6, .inl (.char, v8), .inl (.char, [.int x0, .int x1, .int x2, .int x3, .int x4, .int x5, .int x6]), .inr (0, [(0, .null), (1, .int (0 : Int32))]), .inl (.char, [.int x0.toUInt32.toUInt16.toUInt32.toInt32, .int x1.toUInt32.toUInt16.toUInt32.toInt32, .int x2.toUInt32.toUInt16.toUInt32.toInt32, .int x3.toUInt32.toUInt16.toUInt32.toInt32, .int x4.toUInt32.toUInt16.toUInt32.toInt32]), .inl (.byte, [.int x0.toUInt32.toUInt16.toUInt32.toInt32.toInt8.toInt32.toInt8.toInt32, .int x1.toUInt32.toUInt16.toUInt32.toInt32.toInt8.toInt32.toInt8.toInt32, .int x2.toUInt32.toUInt16.toUInt32.toInt32.toInt8.toInt32.toInt8.toInt32, .int x3.toUInt32.toUInt16.toUInt32.toInt32.toInt8.toInt32.toInt8.toInt32, .int x4.toUInt32.toUInt16.toUInt32.toInt32.toInt8.toInt32.toInt8.toInt32])], 1, 5)) rfl ?_
        refine EW.call (Qc := fun r => r = (some (.int 0), [B0, B1, B2, B3, B4, B5, B6, .inl (.char, v8), .inl (.char, [.int x0, .int x1, .int x2, .int x3, .int x4, .int x5, .int x6]), .inr (0, [(0, .null), (1, .int (0 : Int32))]), .inl (.char, [.int x0.toUInt32.toUInt16.toUInt32.toInt32, .int x1.toUInt32.toUInt16.toUInt32.toInt32, .int x2.toUInt32.toUInt16.toUInt32.toInt32, .int x3.toUInt32.toUInt16.toUInt32.toInt32, .int x4.toUInt32.toUInt16.toUInt32.toInt32]), .inl (.byte, [.int x0.toUInt32.toUInt16.toUInt32.toInt32.toInt8.toInt32.toInt8.toInt32, .int x1.toUInt32.toUInt16.toUInt32.toInt32.toInt8.toInt32.toInt8.toInt32, .int x2.toUInt32.toUInt16.toUInt32.toInt32.toInt8.toInt32.toInt8.toInt32, .int x3.toUInt32.toUInt16.toUInt32.toInt32.toInt8.toInt32.toInt8.toInt32, .int x4.toUInt32.toUInt16.toUInt32.toInt32.toInt8.toInt32.toInt8.toInt32])], 0, 0)) rfl ?_ ?_
        · exact cod (p := 11) (n := (5 : Int32)) rfl (by show nar .byte ((XT.ushr ((5 : Int32) - (5 : Int32)) ((Int8.ofInt 31).toInt32)).toInt8.toInt32) = 0; decide)
        rintro _ _ _ _ ⟨⟩
        show EW _ _ _ _ _ ((48, [.val (.ref 9), .val (.ref 10), .val (.int (0 : Int32)), .val (.int (5 : Int32)), .val (.null), .val (.ref 11)], [.int (0 : Int32), .ref 9]), [B0, B1, B2, B3, B4, B5, B6, .inl (.char, v8), .inl (.char, [.int x0, .int x1, .int x2, .int x3, .int x4, .int x5, .int x6]), .inr (0, [(0, .null), (1, .int (0 : Int32))]), .inl (.char, [.int x0.toUInt32.toUInt16.toUInt32.toInt32, .int x1.toUInt32.toUInt16.toUInt32.toInt32, .int x2.toUInt32.toUInt16.toUInt32.toInt32, .int x3.toUInt32.toUInt16.toUInt32.toInt32, .int x4.toUInt32.toUInt16.toUInt32.toInt32]), .inl (.byte, [.int x0.toUInt32.toUInt16.toUInt32.toInt32.toInt8.toInt32.toInt8.toInt32, .int x1.toUInt32.toUInt16.toUInt32.toInt32.toInt8.toInt32.toInt8.toInt32, .int x2.toUInt32.toUInt16.toUInt32.toInt32.toInt8.toInt32.toInt8.toInt32, .int x3.toUInt32.toUInt16.toUInt32.toInt32.toInt8.toInt32.toInt8.toInt32, .int x4.toUInt32.toUInt16.toUInt32.toInt32.toInt8.toInt32.toInt8.toInt32])], 1, 5)
        refine EW.run 4 (cf' := ((57, [.val (.ref 9), .val (.ref 10), .val (.int (0 : Int32)), .val (.int (5 : Int32)), .val (.null), .val (.ref 11)], []), [B0, B1, B2, B3, B4, B5, B6, .inl (.char, v8), .inl (.char, [.int x0, .int x1, .int x2, .int x3, .int x4, .int x5, .int x6]), .inr (0, [(0, .ref 11), (1, .int (0 : Int32))]), .inl (.char, [.int x0.toUInt32.toUInt16.toUInt32.toInt32, .int x1.toUInt32.toUInt16.toUInt32.toInt32, .int x2.toUInt32.toUInt16.toUInt32.toInt32, .int x3.toUInt32.toUInt16.toUInt32.toInt32, .int x4.toUInt32.toUInt16.toUInt32.toInt32]), .inl (.byte, [.int x0.toUInt32.toUInt16.toUInt32.toInt32.toInt8.toInt32.toInt8.toInt32, .int x1.toUInt32.toUInt16.toUInt32.toInt32.toInt8.toInt32.toInt8.toInt32, .int x2.toUInt32.toUInt16.toUInt32.toInt32.toInt8.toInt32.toInt8.toInt32, .int x3.toUInt32.toUInt16.toUInt32.toInt32.toInt8.toInt32.toInt8.toInt32, .int x4.toUInt32.toUInt16.toUInt32.toInt32.toInt8.toInt32.toInt8.toInt32])], 1, 5)) rfl ?_
        exact EW.ret rfl rfl
    rintro _ _ _ _ ⟨⟩
    show EW _ _ _ _ _ ((9, [.val (.ref 9), .val (.ref 10)], []), [B0, B1, B2, B3, B4, B5, B6, .inl (.char, v8), .inl (.char, [.int x0, .int x1, .int x2, .int x3, .int x4, .int x5, .int x6]), .inr (0, [(0, .ref 11), (1, .int (0 : Int32))]), .inl (.char, [.int x0.toUInt32.toUInt16.toUInt32.toInt32, .int x1.toUInt32.toUInt16.toUInt32.toInt32, .int x2.toUInt32.toUInt16.toUInt32.toInt32, .int x3.toUInt32.toUInt16.toUInt32.toInt32, .int x4.toUInt32.toUInt16.toUInt32.toInt32]), .inl (.byte, [.int x0.toUInt32.toUInt16.toUInt32.toInt32.toInt8.toInt32.toInt8.toInt32, .int x1.toUInt32.toUInt16.toUInt32.toInt32.toInt8.toInt32.toInt8.toInt32, .int x2.toUInt32.toUInt16.toUInt32.toInt32.toInt8.toInt32.toInt8.toInt32, .int x3.toUInt32.toUInt16.toUInt32.toInt32.toInt8.toInt32.toInt8.toInt32, .int x4.toUInt32.toUInt16.toUInt32.toInt32.toInt8.toInt32.toInt8.toInt32])], 1, 5)
    exact EW.ret rfl rfl
  rintro _ _ _ _ ⟨⟩
  show EW _ _ _ _ _ ((184, [.val (.ref 8), .val (.int (5 : Int32))], [.ref 9]), [B0, B1, B2, B3, B4, B5, B6, .inl (.char, v8), .inl (.char, [.int x0, .int x1, .int x2, .int x3, .int x4, .int x5, .int x6]), .inr (0, [(0, .ref 11), (1, .int (0 : Int32))]), .inl (.char, [.int x0.toUInt32.toUInt16.toUInt32.toInt32, .int x1.toUInt32.toUInt16.toUInt32.toInt32, .int x2.toUInt32.toUInt16.toUInt32.toInt32, .int x3.toUInt32.toUInt16.toUInt32.toInt32, .int x4.toUInt32.toUInt16.toUInt32.toInt32]), .inl (.byte, [.int x0.toUInt32.toUInt16.toUInt32.toInt32.toInt8.toInt32.toInt8.toInt32, .int x1.toUInt32.toUInt16.toUInt32.toInt32.toInt8.toInt32.toInt8.toInt32, .int x2.toUInt32.toUInt16.toUInt32.toInt32.toInt8.toInt32.toInt8.toInt32, .int x3.toUInt32.toUInt16.toUInt32.toInt32.toInt8.toInt32.toInt8.toInt32, .int x4.toUInt32.toUInt16.toUInt32.toInt32.toInt8.toInt32.toInt8.toInt32])], 3, 14)
  exact EW.ret rfl rfl
set_option maxHeartbeats 8000000 in
theorem cut_6 {cs : Int32} (hcs : cs.toInt ≠ 0) (v8 : List Value) (x0 x1 x2 x3 x4 x5 x6 : Int32) (h0x : okc x0) (h1x : okc x1) (h2x : okc x2) (h3x : okc x3) (h4x : okc x4) (h5x : okc x5) (h6x : okc x6) : Eng.EW (gG cs 7 N0) 7 179 m1 (fun r => r = (some (.ref 9), [B0, B1, B2, B3, B4, B5, B6, .inl (.char, v8), .inl (.char, [.int x0, .int x1, .int x2, .int x3, .int x4, .int x5, .int x6]), .inr (0, [(0, .ref 11), (1, .int (0 : Int32))]), .inl (.char, [.int x0.toUInt32.toUInt16.toUInt32.toInt32, .int x1.toUInt32.toUInt16.toUInt32.toInt32, .int x2.toUInt32.toUInt16.toUInt32.toInt32, .int x3.toUInt32.toUInt16.toUInt32.toInt32, .int x4.toUInt32.toUInt16.toUInt32.toInt32, .int x5.toUInt32.toUInt16.toUInt32.toInt32]), .inl (.byte, [.int x0.toUInt32.toUInt16.toUInt32.toInt32.toInt8.toInt32.toInt8.toInt32, .int x1.toUInt32.toUInt16.toUInt32.toInt32.toInt8.toInt32.toInt8.toInt32, .int x2.toUInt32.toUInt16.toUInt32.toInt32.toInt8.toInt32.toInt8.toInt32, .int x3.toUInt32.toUInt16.toUInt32.toInt32.toInt8.toInt32.toInt8.toInt32, .int x4.toUInt32.toUInt16.toUInt32.toInt32.toInt8.toInt32.toInt8.toInt32, .int x5.toUInt32.toUInt16.toUInt32.toInt32.toInt8.toInt32.toInt8.toInt32])], 3, 16)) ((0, entL [.ref 8, .int 6] 2, []), [B0, B1, B2, B3, B4, B5, B6, .inl (.char, v8), .inl (.char, [.int x0, .int x1, .int x2, .int x3, .int x4, .int x5, .int x6])], 0, 0) := by
  unfold okc at h0x h1x h2x h3x h4x h5x h6x
  show Eng.EW _ _ _ _ _ ((0, [.val (.ref 8), .val (.int (6 : Int32))], []), [B0, B1, B2, B3, B4, B5, B6, .inl (.char, v8), .inl (.char, [.int x0, .int x1, .int x2, .int x3, .int x4, .int x5, .int x6])], 0, 0)
  refine EW.run 6 (cf' := ((38, [.val (.ref 8), .val (.int (6 : Int32))], [.int (6 : Int32)]), [B0, B1, B2, B3, B4, B5, B6, .inl (.char, v8), .inl (.char, [.int x0, .int x1, .int x2, .int x3, .int x4, .int x5, .int x6])], 0, 0)) rfl ?_
  refine EW.run 6 (cf' := ((100, [.val (.ref 8), .val (.int (6 : Int32))], [.int (6 : Int32)]), [B0, B1, B2, B3, B4, B5, B6, .inl (.char, v8), .inl (.char, [.int x0, .int x1, .int x2, .int x3, .int x4, .int x5, .int x6])], 0, 0)) rfl ?_
  refine EW.run 6 (cf' := ((186, [.val (.ref 8), .val (.int (6 : Int32))], [.int (6 : Int32)]), [B0, B1, B2, B3, B4, B5, B6, .inl (.char, v8), .inl (.char, [.int x0, .int x1, .int x2, .int x3, .int x4, .int x5, .int x6])], 0, 0)) rfl ?_
  refine EW.run 6 (cf' := ((199, [.val (.ref 8), .val (.int (6 : Int32))], [.ref 10, .ref 9, .ref 9]), [B0, B1, B2, B3, B4, B5, B6, .inl (.char, v8), .inl (.char, [.int x0, .int x1, .int x2, .int x3, .int x4, .int x5, .int x6]), .inr (0, [(0, .null), (1, .int (0 : Int32))]), .inl (.char, [.int (0 : Int32), .int (0 : Int32), .int (0 : Int32), .int (0 : Int32), .int (0 : Int32), .int (0 : Int32)])], 2, 10)) rfl ?_
  refine EW.run 6 (cf' := ((205, [.val (.ref 8), .val (.int (6 : Int32))], [.ref 10, .ref 9, .ref 9]), [B0, B1, B2, B3, B4, B5, B6, .inl (.char, v8), .inl (.char, [.int x0, .int x1, .int x2, .int x3, .int x4, .int x5, .int x6]), .inr (0, [(0, .null), (1, .int (0 : Int32))]), .inl (.char, [.int x0.toUInt32.toUInt16.toUInt32.toInt32, .int (0 : Int32), .int (0 : Int32), .int (0 : Int32), .int (0 : Int32), .int (0 : Int32)])], 2, 10)) rfl ?_
  refine EW.run 6 (cf' := ((211, [.val (.ref 8), .val (.int (6 : Int32))], [.ref 10, .ref 9, .ref 9]), [B0, B1, B2, B3, B4, B5, B6, .inl (.char, v8), .inl (.char, [.int x0, .int x1, .int x2, .int x3, .int x4, .int x5, .int x6]), .inr (0, [(0, .null), (1, .int (0 : Int32))]), .inl (.char, [.int x0.toUInt32.toUInt16.toUInt32.toInt32, .int x1.toUInt32.toUInt16.toUInt32.toInt32, .int (0 : Int32), .int (0 : Int32), .int (0 : Int32), .int (0 : Int32)])], 2, 10)) rfl ?_
  refine EW.run 6 (cf' := ((217, [.val (.ref 8), .val (.int (6 : Int32))], [.ref 10, .ref 9, .ref 9]), [B0, B1, B2, B3, B4, B5, B6, .inl (.char, v8), .inl (.char, [.int x0, .int x1, .int x2, .int x3, .int x4, .int x5, .int x6]), .inr (0, [(0, .null), (1, .int (0 : Int32))]), .inl (.char, [.int x0.toUInt32.toUInt16.toUInt32.toInt32, .int x1.toUInt32.toUInt16.toUInt32.toInt32, .int x2.toUInt32.toUInt16.toUInt32.toInt32, .int (0 : Int32), .int (0 : Int32), .int (0 : Int32)])], 2, 10)) rfl ?_
  refine EW.run 6 (cf' := ((223, [.val (.ref 8), .val (.int (6 : Int32))], [.ref 10, .ref 9, .ref 9]), [B0, B1, B2, B3, B4, B5, B6, .inl (.char, v8), .inl (.char, [.int x0, .int x1, .int x2, .int x3, .int x4, .int x5, .int x6]), .inr (0, [(0, .null), (1, .int (0 : Int32))]), .inl (.char, [.int x0.toUInt32.toUInt16.toUInt32.toInt32, .int x1.toUInt32.toUInt16.toUInt32.toInt32, .int x2.toUInt32.toUInt16.toUInt32.toInt32, .int x3.toUInt32.toUInt16.toUInt32.toInt32, .int (0 : Int32), .int (0 : Int32)])], 2, 10)) rfl ?_
  refine EW.run 6 (cf' := ((229, [.val (.ref 8), .val (.int (6 : Int32))], [.ref 10, .ref 9, .ref 9]), [B0, B1, B2, B3, B4, B5, B6, .inl (.char, v8), .inl (.char, [.int x0, .int x1, .int x2, .int x3, .int x4, .int x5, .int x6]), .inr (0, [(0, .null), (1, .int (0 : Int32))]), .inl (.char, [.int x0.toUInt32.toUInt16.toUInt32.toInt32, .int x1.toUInt32.toUInt16.toUInt32.toInt32, .int x2.toUInt32.toUInt16.toUInt32.toInt32, .int x3.toUInt32.toUInt16.toUInt32.toInt32, .int x4.toUInt32.toUInt16.toUInt32.toInt32, .int (0 : Int32)])], 2, 10)) rfl ?_
  refine EW.run 6 (cf' := ((235, [.val (.ref 8), .val (.int (6 : Int32))], [.ref 10, .ref 9, .ref 9]), [B0, B1, B2, B3, B4, B5, B6, .inl (.char, v8), .inl (.char, [.int x0, .int x1, .int x2, .int x3, .int x4, .int x5, .int x6]), .inr (0, [(0, .null), (1, .int (0 : Int32))]), .inl (.char, [.int x0.toUInt32.toUInt16.toUInt32.toInt32, .int x1.toUInt32.toUInt16.toUInt32.toInt32, .int x2.toUInt32.toUInt16.toUInt32.toInt32, .int x3.toUInt32.toUInt16.toUInt32.toInt32, .int x4.toUInt32.toUInt16.toUInt32.toInt32, .int x5.toUInt32.toUInt16.toUInt32.toInt32])], 2, 10)) rfl ?_
  refine EW.call (Qc := fun r => r = (none, [B0, B1, B2, B3, B4, B5, B6, .inl (.char, v8), .inl (.char, [.int x0, .int x1, .int x2, .int x3, .int x4, .int x5, .int x6]), .inr (0, [(0, .ref 11), (1, .int (0 : Int32))]), .inl (.char, [.int x0.toUInt32.toUInt16.toUInt32.toInt32, .int x1.toUInt32.toUInt16.toUInt32.toInt32, .int x2.toUInt32.toUInt16.toUInt32.toInt32, .int x3.toUInt32.toUInt16.toUInt32.toInt32, .int x4.toUInt32.toUInt16.toUInt32.toInt32, .int x5.toUInt32.toUInt16.toUInt32.toInt32]), .inl (.byte, [.int x0.toUInt32.toUInt16.toUInt32.toInt32.toInt8.toInt32.toInt8.toInt32, .int x1.toUInt32.toUInt16.toUInt32.toInt32.toInt8.toInt32.toInt8.toInt32, .int x2.toUInt32.toUInt16.toUInt32.toInt32.toInt8.toInt32.toInt8.toInt32, .int x3.toUInt32.toUInt16.toUInt32.toInt32.toInt8.toInt32.toInt8.toInt32, .int x4.toUInt32.toUInt16.toUInt32.toInt32.toInt8.toInt32.toInt8.toInt32, .int x5.toUInt32.toUInt16.toUInt32.toInt32.toInt8.toInt32.toInt8.toInt32])], 1, 6)) rfl ?_ ?_
  · show EW _ _ _ _ _ ((0, [.val (.ref 9), .val (.ref 10)], []), [B0, B1, B2, B3, B4, B5, B6, .inl (.char, v8), .inl (.char, [.int x0, .int x1, .int x2, .int x3, .int x4, .int x5, .int x6]), .inr (0, [(0, .null), (1, .int (0 : Int32))]), .inl (.char, [.int x0.toUInt32.toUInt16.toUInt32.toInt32, .int x1.toUInt32.toUInt16.toUInt32.toInt32, .int x2.toUInt32.toUInt16.toUInt32.toInt32, .int x3.toUInt32.toUInt16.toUInt32.toInt32, .int x4.toUInt32.toUInt16.toUInt32.toInt32, .int x5.toUInt32.toUInt16.toUInt32.toInt32])], 0, 0)
    refine EW.run 6 (cf' := ((6, [.val (.ref 9), .val (.ref 10)], [.null, .int (6 : Int32), .int (0 : Int32), .ref 10, .ref 9]), [B0, B1, B2, B3, B4, B5, B6, .inl (.char, v8), .inl (.char, [.int x0, .int x1, .int x2, .int x3, .int x4, .int x5, .int x6]), .inr (0, [(0, .null), (1, .int (0 : Int32))]), .inl (.char, [.int x0.toUInt32.toUInt16.toUInt32.toInt32, .int x1.toUInt32.toUInt16.toUInt32.toInt32, .int x2.toUInt32.toUInt16.toUInt32.toInt32, .int x3.toUInt32.toUInt16.toUInt32.toInt32, .int x4.toUInt32.toUInt16.toUInt32.toInt32, .int x5.toUInt32.toUInt16.toUInt32.toInt32])], 0, 0)) rfl ?_
    refine EW.call (Qc := fun r => r = (none, [B0, B1, B2, B3, B4, B5, B6, .inl (.char, v8), .inl (.char, [.int x0, .int x1, .int x2, .int x3, .int x4, .int x5, .int x6]), .inr (0, [(0, .ref 11), (1, .int (0 : Int32))]), .inl (.char, [.int x0.toUInt32.toUInt16.toUInt32.toInt32, .int x1.toUInt32.toUInt16.toUInt32.toInt32, .int x2.toUInt32.toUInt16.toUInt32.toInt32, .int x3.toUInt32.toUInt16.toUInt32.toInt32, .int x4.toUInt32.toUInt16.toUInt32.toInt32, .int x5.toUInt32.toUInt16.toUInt32.toInt32]), .inl (.byte, [.int x0.toUInt32.toUInt16.toUInt32.toInt32.toInt8.toInt32.toInt8.toInt32, .int x1.toUInt32.toUInt16.toUInt32.toInt32.toInt8.toInt32.toInt8.toInt32, .int x2.toUInt32.toUInt16.toUInt32.toInt32.toInt8.toInt32.toInt8.toInt32, .int x3.toUInt32.toUInt16.toUInt32.toInt32.toInt8.toInt32.toInt8.toInt32, .int x4.toUInt32.toUInt16.toUInt32.toInt32.toInt8.toInt32.toInt8.toInt32, .int x5.toUInt32.toUInt16.toUInt32.toInt32.toInt8.toInt32.toInt8.toInt32])], 1, 6)) rfl ?_ ?_
    · show EW _ _ _ _ _ ((0, [.val (.ref 9), .val (.ref 10), .val (.int (0 : Int32)), .val (.int (6 : Int32)), .val (.null), .unset], []), [B0, B1, B2, B3, B4, B5, B6, .inl (.char, v8), .inl (.char, [.int x0, .int x1, .int x2, .int x3, .int x4, .int x5, .int x6]), .inr (0, [(0, .null), (1, .int (0 : Int32))]), .inl (.char, [.int x0.toUInt32.toUInt16.toUInt32.toInt32, .int x1.toUInt32.toUInt16.toUInt32.toInt32, .int x2.toUInt32.toUInt16.toUInt32.toInt32, .int x3.toUInt32.toUInt16.toUInt32.toInt32, .int x4.toUInt32.toUInt16.toUInt32.toInt32, .int x5.toUInt32.toUInt16.toUInt32.toInt32])], 0, 0)
      refine EW.run 5 (cf' := ((30, [.val (.ref 9), .val (.ref 10), .val (.int (0 : Int32)), .val (.int (6 : Int32)), .val (.null), .unset], [.int cs]), [B0, B1, B2, B3, B4, B5, B6, .inl (.char, v8), .inl (.char, [.int x0, .int x1, .int x2, .int x3, .int x4, .int x5, .int x6]), .inr (0, [(0, .null), (1, .int (0 : Int32))]), .inl (.char, [.int x0.toUInt32.toUInt16.toUInt32.toInt32, .int x1.toUInt32.toUInt16.toUInt32.toInt32, .int x2.toUInt32.toUInt16.toUInt32.toInt32, .int x3.toUInt32.toUInt16.toUInt32.toInt32, .int x4.toUInt32.toUInt16.toUInt32.toInt32, .int x5.toUInt32.toUInt16.toUInt32.toInt32])], 0, 0)) rfl ?_
      refine EW.ifP rfl (by decide) (fun h => ?_) (fun h => ?_)
      · exfalso; simp only [cP] at h; omega
      · have h1 : cs.toInt ≠ 0 := by simp only [cP] at h; omega
        clear h
        show EW _ _ _ _ _ ((33, [.val (.ref 9), .val (.ref 10), .val (.int (0 : Int32)), .val (.int (6 : Int32)), .val (.null), .unset], []), [B0, B1, B2, B3, B4, B5, B6, .inl (.char, v8), .inl (.char, [.int x0, .int x1, .int x2, .int x3, .int x4, .int x5, .int x6]), .inr (0, [(0, .null), (1, .int (0 : Int32))]), .inl (.char, [.int x0.toUInt32.toUInt16.toUInt32.toInt32, .int x1.toUInt32.toUInt16.toUInt32.toInt32, .int x2.toUInt32.toUInt16.toUInt32.toInt32, .int x3.toUInt32.toUInt16.toUInt32.toInt32, .int x4.toUInt32.toUInt16.toUInt32.toInt32, .int x5.toUInt32.toUInt16.toUInt32.toInt32])], 0, 0)
        refine EW.run 3 (cf' := ((36, [.val (.ref 9), .val (.ref 10), .val (.int (0 : Int32)), .val (.int (6 : Int32)), .val (.null), .unset], [.int (6 : Int32), .int (0 : Int32), .ref 10]), [B0, B1, B2, B3, B4, B5, B6, .inl (.char, v8), .inl (.char, [.int x0, .int x1, .int x2, .int x3, .int x4, .int x5, .int x6]), .inr (0, [(0, .null), (1, .int (0 : Int32))]), .inl (.char, [.int x0.toUInt32.toUInt16.toUInt32.toInt32, .int x1.toUInt32.toUInt16.toUInt32.toInt32, .int x2.toUInt32.toUInt16.toUInt32.toInt32, .int x3.toUInt32.toUInt16.toUInt32.toInt32, .int x4.toUInt32.toUInt16.toUInt32.toInt32, .int x5.toUInt32.toUInt16.toUInt32.toInt32])], 0, 0)) rfl ?_
        refine EW.call (Qc := fun r => r = (some (.ref 11), [B0, B1, B2, B3, B4, B5, B6, .inl (.char, v8), .inl (.char, [.int x0, .int x1, .int x2, .int x3, .int x4, .int x5, .int x6]), .inr (0, [(0, .null), (1, .int (0 : Int32))]), .inl (.char, [.int x0.toUInt32.toUInt16.toUInt32.toInt32, .int x1.toUInt32.toUInt16.toUInt32.toInt32, .int x2.toUInt32.toUInt16.toUInt32.toInt32, .int x3.toUInt32.toUInt16.toUInt32.toInt32, .int x4.toUInt32.toUInt16.toUInt32.toInt32, .int x5.toUInt32.toUInt16.toUInt32.toInt32]), .inl (.byte, [.int x0.toUInt32.toUInt16.toUInt32.toInt32.toInt8.toInt32.toInt8.toInt32, .int x1.toUInt32.toUInt16.toUInt32.toInt32.toInt8.toInt32.toInt8.toInt32, .int x2.toUInt32.toUInt16.toUInt32.toInt32.toInt8.toInt32.toInt8.toInt32, .int x3.toUInt32.toUInt16.toUInt32.toInt32.toInt8.toInt32.toInt8.toInt32, .int x4.toUInt32.toUInt16.toUInt32.toInt32.toInt8.toInt32.toInt8.toInt32, .int x5.toUInt32.toUInt16.toUInt32.toInt32.toInt8.toInt32.toInt8.toInt32])], 1, 6)) rfl ?_ ?_
        · show EW _ _ _ _ _ ((0, [.val (.ref 10), .val (.int (0 : Int32)), .val (.int (6 : Int32)), .unset, .unset, .unset], []), [B0, B1, B2, B3, B4, B5, B6, .inl (.char, v8), .inl (.char, [.int x0, .int x1, .int x2, .int x3, .int x4, .int x5, .int x6]), .inr (0, [(0, .null), (1, .int (0 : Int32))]), .inl (.char, [.int x0.toUInt32.toUInt16.toUInt32.toInt32, .int x1.toUInt32.toUInt16.toUInt32.toInt32, .int x2.toUInt32.toUInt16.toUInt32.toInt32, .int x3.toUInt32.toUInt16.toUInt32.toInt32, .int x4.toUInt32.toUInt16.toUInt32.toInt32, .int x5.toUInt32.toUInt16.toUInt32.toInt32])], 0, 0)
          refine EW.run 6 (cf' := ((7, [.val (.ref 10), .val (.int (0 : Int32)), .val (.int (6 : Int32)), .val (.ref 11), .unset, .unset], [.ref 11, .int (0 : Int32), .ref 10]), [B0, B1, B2, B3, B4, B5, B6, .inl (.char, v8), .inl (.char, [.int x0, .int x1, .int x2, .int x3, .int x4, .int x5, .int x6]), .inr (0, [(0, .null), (1, .int (0 : Int32))]), .inl (.char, [.int x0.toUInt32.toUInt16.toUInt32.toInt32, .int x1.toUInt32.toUInt16.toUInt32.toInt32, .int x2.toUInt32.toUInt16.toUInt32.toInt32, .int x3.toUInt32.toUInt16.toUInt32.toInt32, .int x4.toUInt32.toUInt16.toUInt32.toInt32, .int x5.toUInt32.toUInt16.toUInt32.toInt32]), .inl (.byte, [.int (0 : Int32), .int (0 : Int32), .int (0 : Int32), .int (0 : Int32), .int (0 : Int32), .int (0 : Int32)])], 1, 6)) rfl ?_
          refine EW.run 2 (cf' := ((9, [.val (.ref 10), .val (.int (0 : Int32)), .val (.int (6 : Int32)), .val (.ref 11), .unset, .unset], [.int (6 : Int32), .int (0 : Int32), .ref 11, .int (0 : Int32), .ref 10]), [B0, B1, B2, B3, B4, B5, B6, .inl (.char, v8), .inl (.char, [.int x0, .int x1, .int x2, .int x3, .int x4, .int x5, .int x6]), .inr (0, [(0, .null), (1, .int (0 : Int32))]), .inl (.char, [.int x0.toUInt32.toUInt16.toUInt32.toInt32, .int x1.toUInt32.toUInt16.toUInt32.toInt32, .int x2.toUInt32.toUInt16.toUInt32.toInt32, .int x3.toUInt32.toUInt16.toUInt32.toInt32, .int x4.toUInt32.toUInt16.toUInt32.toInt32, .int x5.toUInt32.toUInt16.toUInt32.toInt32]), .inl (.byte, [.int (0 : Int32), .int (0 : Int32), .int (0 : Int32), .int (0 : Int32), .int (0 : Int32), .int (0 : Int32)])], 1, 6)) rfl ?_
          refine EW.call (Qc := fun r => r = (some (.int (6 : Int32)), [B0, B1, B2, B3, B4, B5, B6, .inl (.char, v8), .inl (.char, [.int x0, .int x1, .int x2, .int x3, .int x4, .int x5, .int x6]), .inr (0, [(0, .null), (1, .int (0 : Int32))]), .inl (.char, [.int x0.toUInt32.toUInt16.toUInt32.toInt32, .int x1.toUInt32.toUInt16.toUInt32.toInt32, .int x2.toUInt32.toUInt16.toUInt32.toInt32, .int x3.toUInt32.toUInt16.toUInt32.toInt32, .int x4.toUInt32.toUInt16.toUInt32.toInt32, .int x5.toUInt32.toUInt16.toUInt32.toInt32]), .inl (.byte, [.int x0.toUInt32.toUInt16.toUInt32.toInt32.toInt8.toInt32.toInt8.toInt32, .int x1.toUInt32.toUInt16.toUInt32.toInt32.toInt8.toInt32.toInt8.toInt32, .int x2.toUInt32.toUInt16.toUInt32.toInt32.toInt8.toInt32.toInt8.toInt32, .int x3.toUInt32.toUInt16.toUInt32.toInt32.toInt8.toInt32.toInt8.toInt32, .int x4.toUInt32.toUInt16.toUInt32.toInt32.toInt8.toInt32.toInt8.toInt32, .int x5.toUInt32.toUInt16.toUInt32.toInt32.toInt8.toInt32.toInt8.toInt32])], 0, 0)) rfl ?_ ?_
          · show EW _ _ _ _ _ ((0, [.val (.ref 10), .val (.int (0 : Int32)), .val (.ref 11), .val (.int (0 : Int32)), .val (.int (6 : Int32)), .unset, .unset], []), [B0, B1, B2, B3, B4, B5, B6, .inl (.char, v8), .inl (.char, [.int x0, .int x1, .int x2, .int x3, .int x4, .int x5, .int x6]), .inr (0, [(0, .null), (1, .int (0 : Int32))]), .inl (.char, [.int x0.toUInt32.toUInt16.toUInt32.toInt32, .int x1.toUInt32.toUInt16.toUInt32.toInt32, .int x2.toUInt32.toUInt16.toUInt32.toInt32, .int x3.toUInt32.toUInt16.toUInt32.toInt32, .int x4.toUInt32.toUInt16.toUInt32.toInt32, .int x5.toUInt32.toUInt16.toUInt32.toInt32]), .inl (.byte, [.int (0 : Int32), .int (0 : Int32), .int (0 : Int32), .int (0 : Int32), .int (0 : Int32), .int (0 : Int32)])], 0, 0)
            refine EW.run 6 (cf' := ((11, [.val (.ref 10), .val (.int (0 : Int32)), .val (.ref 11), .val (.int (0 : Int32)), .val (.int (6 : Int32)), .val (.int (0 : Int32)), .unset], [.ref 10]), [B0, B1, B2, B3, B4, B5, B6, .inl (.char, v8), .inl (.char, [.int x0, .int x1, .int x2, .int x3, .int x4, .int x5, .int x6]), .inr (0, [(0, .null), (1, .int (0 : Int32))]), .inl (.char, [.int x0.toUInt32.toUInt16.toUInt32.toInt32, .int x1.toUInt32.toUInt16.toUInt32.toInt32, .int x2.toUInt32.toUInt16.toUInt32.toInt32, .int x3.toUInt32.toUInt16.toUInt32.toInt32, .int x4.toUInt32.toUInt16.toUInt32.toInt32, .int x5.toUInt32.toUInt16.toUInt32.toInt32]), .inl (.byte, [.int (0 : Int32), .int (0 : Int32), .int (0 : Int32), .int (0 : Int32), .int (0 : Int32), .int (0 : Int32)])], 0, 0)) rfl ?_
            refine EW.run 5 (cf' := ((20, [.val (.ref 10), .val (.int (0 : Int32)), .val (.ref 11), .val (.int (0 : Int32)), .val (.int (6 : Int32)), .val (.int (0 : Int32)), .val (.int x0.toUInt32.toUInt16.toUInt32.toInt32)], [.int (255 : Int32), .int x0.toUInt32.toUInt16.toUInt32.toInt32]), [B0, B1, B2, B3, B4, B5, B6, .inl (.char, v8), .inl (.char, [.int x0, .int x1, .int x2, .int x3, .int x4, .int x5, .int x6]), .inr (0, [(0, .null), (1, .int (0 : Int32))]), .inl (.char, [.int x0.toUInt32.toUInt16.toUInt32.toInt32, .int x1.toUInt32.toUInt16.toUInt32.toInt32, .int x2.toUInt32.toUInt16.toUInt32.toInt32, .int x3.toUInt32.toUInt16.toUInt32.toInt32, .int x4.toUInt32.toUInt16.toUInt32.toInt32, .int x5.toUInt32.toUInt16.toUInt32.toInt32]), .inl (.byte, [.int (0 : Int32), .int (0 : Int32), .int (0 : Int32), .int (0 : Int32), .int (0 : Int32), .int (0 : Int32)])], 0, 0)) rfl ?_
            refine EW.icmpP rfl (by decide) (fun h => ?_) (fun h => ?_)
            · have h2 : x0.toUInt32.toUInt16.toUInt32.toInt32.toInt ≤ (255 : Int32).toInt := by simp only [cP] at h; omega
              clear h
              show EW _ _ _ _ _ ((26, [.val (.ref 10), .val (.int (0 : Int32)), .val (.ref 11), .val (.int (0 : Int32)), .val (.int (6 : Int32)), .val (.int (0 : Int32)), .val (.int x0.toUInt32.toUInt16.toUInt32.toInt32)], []), [B0, B1, B2, B3, B4, B5, B6, .inl (.char, v8), .inl (.char, [.int x0, .int x1, .int x2, .int x3, .int x4, .int x5, .int x6]), .inr (0, [(0, .null), (1, .int (0 : Int32))]), .inl (.char, [.int x0.toUInt32.toUInt16.toUInt32.toInt32, .int x1.toUInt32.toUInt16.toUInt32.toInt32, .int x2.toUInt32.toUInt16.toUInt32.toInt32, .int x3.toUInt32.toUInt16.toUInt32.toInt32, .int x4.toUInt32.toUInt16.toUInt32.toInt32, .int x5.toUInt32.toUInt16.toUInt32.toInt32]), .inl (.byte, [.int (0 : Int32), .int (0 : Int32), .int (0 : Int32), .int (0 : Int32), .int (0 : Int32), .int (0 : Int32)])], 0, 0)
              refine EW.run 6 (cf' := ((35, [.val (.ref 10), .val (.int (1 : Int32)), .val (.ref 11), .val (.int (0 : Int32)), .val (.int (6 : Int32)), .val (.int (0 : Int32)), .val (.int x0.toUInt32.toUInt16.toUInt32.toInt32)], []), [B0, B1, B2, B3, B4, B5, B6, .inl (.char, v8), .inl (.char, [.int x0, .int x1, .int x2, .int x3, .int x4, .int x5, .int x6]), .inr (0, [(0, .null), (1, .int (0 : Int32))]), .inl (.char, [.int x0.toUInt32.toUInt16.toUInt32.toInt32, .int x1.toUInt32.toUInt16.toUInt32.toInt32, .int x2.toUInt32.toUInt16.toUInt32.toInt32, .int x3.toUInt32.toUInt16.toUInt32.toInt32, .int x4.toUInt32.toUInt16.toUInt32.toInt32, .int x5.toUInt32.toUInt16.toUInt32.toInt32]), .inl (.byte, [.int x0.toUInt32.toUInt16.toUInt32.toInt32.toInt8.toInt32.toInt8.toInt32, .int (0 : Int32), .int (0 : Int32), .int (0 : Int32), .int (0 : Int32), .int (0 : Int32)])], 0, 0)) rfl ?_
              refine EW.run 6 (cf' := ((10, [.val (.ref 10), .val (.int (1 : Int32)), .val (.ref 11), .val (.int (1 : Int32)), .val (.int (6 : Int32)), .val (.int (1 : Int32)), .val (.int x0.toUInt32.toUInt16.toUInt32.toInt32)], []), [B0, B1, B2, B3, B4, B5, B6, .inl (.char, v8), .inl (.char, [.int x0, .int x1, .int x2, .int x3, .int x4, .int x5, .int x6]), .inr (0, [(0, .null), (1, .int (0 : Int32))]), .inl (.char, [.int x0.toUInt32.toUInt16.toUInt32.toInt32, .int x1.toUInt32.toUInt16.toUInt32.toInt32, .int x2.toUInt32.toUInt16.toUInt32.toInt32, .int x3.toUInt32.toUInt16.toUInt32.toInt32, .int x4.toUInt32.toUInt16.toUInt32.toInt32, .int x5.toUInt32.toUInt16.toUInt32.toInt32]), .inl (.byte, [.int x0.toUInt32.toUInt16.toUInt32.toInt32.toInt8.toInt32.toInt8.toInt32, .int (0 : Int32), .int (0 : Int32), .int (0 : Int32), .int (0 : Int32), .int (0 : Int32)])], 0, 0)) rfl ?_
              refine EW.run 6 (cf' := ((20, [.val (.ref 10), .val (.int (1 : Int32)), .val (.ref 11), .val (.int (1 : Int32)), .val (.int (6 : Int32)), .val (.int (1 : Int32)), .val (.int x1.toUInt32.toUInt16.toUInt32.toInt32)], [.int (255 : Int32), .int x1.toUInt32.toUInt16.toUInt32.toInt32]), [B0, B1, B2, B3, B4, B5, B6, .inl (.char, v8), .inl (.char, [.int x0, .int x1, .int x2, .int x3, .int x4, .int x5, .int x6]), .inr (0, [(0, .null), (1, .int (0 : Int32))]), .inl (.char, [.int x0.toUInt32.toUInt16.toUInt32.toInt32, .int x1.toUInt32.toUInt16.toUInt32.toInt32, .int x2.toUInt32.toUInt16.toUInt32.toInt32, .int x3.toUInt32.toUInt16.toUInt32.toInt32, .int x4.toUInt32.toUInt16.toUInt32.toInt32, .int x5.toUInt32.toUInt16.toUInt32.toInt32]), .inl (.byte, [.int x0.toUInt32.toUInt16.toUInt32.toInt32.toInt8.toInt32.toInt8.toInt32, .int (0 : Int32), .int (0 : Int32), .int (0 : Int32), .int (0 : Int32), .int (0 : Int32)])], 0, 0)) rfl ?_
              refine EW.icmpP rfl (by decide) (fun h => ?_) (fun h => ?_)
              · have h3 : x1.toUInt32.toUInt16.toUInt32.toInt32.toInt ≤ (255 : Int32).toInt := by simp only [cP] at h; omega
                clear h
                show EW _ _ _ _ _ ((26, [.val (.ref 10), .val (.int (1 : Int32)), .val (.ref 11), .val (.int (1 : Int32)), .val (.int (6 : Int32)), .val (.int (1 : Int32)), .val (.int x1.toUInt32.toUInt16.toUInt32.toInt32)], []), [B0, B1, B2, B3, B4, B5, B6, .inl (.char, v8), .inl (.char, [.int x0, .int x1, .int x2, .int x3, .int x4, .int x5, .int x6]), .inr (0, [(0, .null), (1, .int (0 : Int32))]), .inl (.char, [.int x0.toUInt32.toUInt16.toUInt32.toInt32, .int x1.toUInt32.toUInt16.toUInt32.toInt32, .int x2.toUInt32.toUInt16.toUInt32.toInt32, .int x3.toUInt32.toUInt16.toUInt32.toInt32, .int x4.toUInt32.toUInt16.toUInt32.toInt32, .int x5.toUInt32.toUInt16.toUInt32.toInt32]), .inl (.byte, [.int x0.toUInt32.toUInt16.toUInt32.toInt32.toInt8.toInt32.toInt8.toInt32, .int (0 : Int32), .int (0 : Int32), .int (0 : Int32), .int (0 : Int32), .int (0 : Int32)])], 0, 0)
                refine EW.run 6 (cf' := ((35, [.val (.ref 10), .val (.int (2 : Int32)), .val (.ref 11), .val (.int (1 : Int32)), .val (.int (6 : Int32)), .val (.int (1 : Int32)), .val (.int x1.toUInt32.toUInt16.toUInt32.toInt32)], []), [B0, B1, B2, B3, B4, B5, B6, .inl (.char, v8), .inl (.char, [.int x0, .int x1, .int x2, .int x3, .int x4, .int x5, .int x6]), .inr (0, [(0, .null), (1, .int (0 : Int32))]), .inl (.char, [.int x0.toUInt32.toUInt16.toUInt32.toInt32, .int x1.toUInt32.toUInt16.toUInt32.toInt32, .int x2.toUInt32.toUInt16.toUInt32.toInt32, .int x3.toUInt32.toUInt16.toUInt32.toInt32, .int x4.toUInt32.toUInt16.toUInt32.toInt32, .int x5.toUInt32.toUInt16.toUInt32.toInt32]), .inl (.byte, [.int x0.toUInt32.toUInt16.toUInt32.toInt32.toInt8.toInt32.toInt8.toInt32, .int x1.toUInt32.toUInt16.toUInt32.toInt32.toInt8.toInt32.toInt8.toInt32, .int (0 : Int32), .int (0 : Int32), .int (0 : Int32), .int (0 : Int32)])], 0, 0)) rfl ?_
                refine EW.run 6 (cf' := ((10, [.val (.ref 10), .val (.int (2 : Int32)), .val (.ref 11), .val (.int (2 : Int32)), .val (.int (6 : Int32)), .val (.int (2 : Int32)), .val (.int x1.toUInt32.toUInt16.toUInt32.toInt32)], []), [B0, B1, B2, B3, B4, B5, B6, .inl (.char, v8), .inl (.char, [.int x0, .int x1, .int x2, .int x3, .int x4, .int x5, .int x6]), .inr (0, [(0, .null), (1, .int (0 : Int32))]), .inl (.char, [.int x0.toUInt32.toUInt16.toUInt32.toInt32, .int x1.toUInt32.toUInt16.toUInt32.toInt32, .int x2.toUInt32.toUInt16.toUInt32.toInt32, .int x3.toUInt32.toUInt16.toUInt32.toInt32, .int x4.toUInt32.toUInt16.toUInt32.toInt32, .int x5.toUInt32.toUInt16.toUInt32.toInt32]), .inl (.byte, [.int x0.toUInt32.toUInt16.toUInt32.toInt32.toInt8.toInt32.toInt8.toInt32, .int x1.toUInt32.toUInt16.toUInt32.toInt32.toInt8.toInt32.toInt8.toInt32, .int (0 : Int32), .int (0 : Int32), .int (0 : Int32), .int (0 : Int32)])], 0, 0)) rfl ?_
                refine EW.run 6 (cf' := ((20, [.val (.ref 10), .val (.int (2 : Int32)), .val (.ref 11), .val (.int (2 : Int32)), .val (.int (6 : Int32)), .val (.int (2 : Int32)), .val (.int x2.toUInt32.toUInt16.toUInt32.toInt32)], [.int (255 : Int32), .int x2.toUInt32.toUInt16.toUInt32.toInt32]), [B0, B1, B2, B3, B4, B5, B6, .inl (.char, v8), .inl (.char, [.int x0, .int x1, .int x2, .int x3, .int x4, .int x5, .int x6]), .inr (0, [(0, .null), (1, .int (0 : Int32))]), .inl (.char, [.int x0.toUInt32.toUInt16.toUInt32.toInt32, .int x1.toUInt32.toUInt16.toUInt32.toInt32, .int x2.toUInt32.toUInt16.toUInt32.toInt32, .int x3.toUInt32.toUInt16.toUInt32.toInt32, .int x4.toUInt32.toUInt16.toUInt32.toInt32, .int x5.toUInt32.toUInt16.toUInt32.toInt32]), .inl (.byte, [.int x0.toUInt32.toUInt16.toUInt32.toInt32.toInt8.toInt32.toInt8.toInt32, .int x1.toUInt32.toUInt16.toUInt32.toInt32.toInt8.toInt32.toInt8.toInt32, .int (0 : Int32), .int (0 : Int32), .int (0 : Int32), .int (0 : Int32)])], 0, 0)) rfl ?_
                refine EW.icmpP rfl (by decide) (fun h => ?_) (fun h => ?_)
                · have h4 : x2.toUInt32.toUInt16.toUInt32.toInt32.toInt ≤ (255 : Int32).toInt := by simp only [cP] at h; omega
                  clear h
                  show EW _ _ _ _ _ ((26, [.val (.ref 10), .val (.int (2 : Int32)), .val (.ref 11), .val (.int (2 : Int32)), .val (.int (6 : Int32)), .val (.int (2 : Int32)), .val (.int x2.toUInt32.toUInt16.toUInt32.toInt32)], []), [B0, B1, B2, B3, B4, B5, B6, .inl (.char, v8), .inl (.char, [.int x0, .int x1, .int x2, .int x3, .int x4, .int x5, .int x6]), .inr (0, [(0, .null), (1, .int (0 : Int32))]), .inl (.char, [.int x0.toUInt32.toUInt16.toUInt32.toInt32, .int x1.toUInt32.toUInt16.toUInt32.toInt32, .int x2.toUInt32.toUInt16.toUInt32.toInt32, .int x3.toUInt32.toUInt16.toUInt32.toInt32, .int x4.toUInt32.toUInt16.toUInt32.toInt32, .int x5.toUInt32.toUInt16.toUInt32.toInt32]), .inl (.byte, [.int x0.toUInt32.toUInt16.toUInt32.toInt32.toInt8.toInt32.toInt8.toInt32, .int x1.toUInt32.toUInt16.toUInt32.toInt32.toInt8.toInt32.toInt8.toInt32, .int (0 : Int32), .int (0 : Int32), .int (0 : Int32), .int (0 : Int32)])], 0, 0)
                  refine EW.run 6 (cf' := ((35, [.val (.ref 10), .val (.int (3 : Int32)), .val (.ref 11), .val (.int (2 : Int32)), .val (.int (6 : Int32)), .val (.int (2 : Int32)), .val (.int x2.toUInt32.toUInt16.toUInt32.toInt32)], []), [B0, B1, B2, B3, B4, B5, B6, .inl (.char, v8), .inl (.char, [.int x0, .int x1, .int x2, .int x3, .int x4, .int x5, .int x6]), .inr (0, [(0, .null), (1, .int (0 : Int32))]), .inl (.char, [.int x0.toUInt32.toUInt16.toUInt32.toInt32, .int x1.toUInt32.toUInt16.toUInt32.toInt32, .int x2.toUInt32.toUInt16.toUInt32.toInt32, .int x3.toUInt32.toUInt16.toUInt32.toInt32, .int x4.toUInt32.toUInt16.toUInt32.toInt32, .int x5.toUInt32.toUInt16.toUInt32.toInt32]), .inl (.byte, [.int x0.toUInt32.toUInt16.toUInt32.toInt32.toInt8.toInt32.toInt8.toInt32, .int x1.toUInt32.toUInt16.toUInt32.toInt32.toInt8.toInt32.toInt8.toInt32, .int x2.toUInt32.toUInt16.toUInt32.toInt32.toInt8.toInt32.toInt8.toInt32, .int (0 : Int32), .int (0 : Int32), .int (0 : Int32)])], 0, 0)) rfl ?_
                  refine EW.run 6 (cf' := ((10, [.val (.ref 10), .val (.int (3 : Int32)), .val (.ref 11), .val (.int (3 : Int32)), .val (.int (6 : Int32)), .val (.int (3 : Int32)), .val (.int x2.toUInt32.toUInt16.toUInt32.toInt32)], []), [B0, B1, B2, B3, B4, B5, B6, .inl (.char, v8), .inl (.char, [.int x0, .int x1, .int x2, .int x3, .int x4, .int x5, .int x6]), .inr (0, [(0, .null), (1, .int (0 : Int32))]), .inl (.char, [.int x0.toUInt32.toUInt16.toUInt32.toInt32, .int x1.toUInt32.toUInt16.toUInt32.toInt32, .int x2.toUInt32.toUInt16.toUInt32.toInt32, .int x3.toUInt32.toUInt16.toUInt32.toInt32, .int x4.toUInt32.toUInt16.toUInt32.toInt32, .int x5.toUInt32.toUInt16.toUInt32.toInt32]), .inl (.byte, [.int x0.toUInt32.toUInt16.toUInt32.toInt32.toInt8.toInt32.toInt8.toInt32, .int x1.toUInt32.toUInt16.toUInt32.toInt32.toInt8.toInt32.toInt8.toInt32, .int x2.toUInt32.toUInt16.toUInt32.toInt32.toInt8.toInt32.toInt8.toInt32, .int (0 : Int32), .int (0 : Int32), .int (0 : Int32)])], 0, 0)) rfl ?_
                  refine EW.run 6 (cf' := ((20, [.val (.ref 10), .val (.int (3 : Int32)), .val (.ref 11), .val (.int (3 : Int32)), .val (.int (6 : Int32)), .val (.int (3 : Int32)), .val (.int x3.toUInt32.toUInt16.toUInt32.toInt32)], [.int (255 : Int32), .int x3.toUInt32.toUInt16.toUInt32.toInt32]), [B0, B1, B2, B3, B4, B5, B6, .inl (.char, v8), .inl (.char, [.int x0, .int x1, .int x2, .int x3, .int x4, .int x5, .int x6]), .inr (0, [(0, .null), (1, .int (0 : Int32))]), .inl (.char, [.int x0.toUInt32.toUInt16.toUInt32.toInt32, .int x1.toUInt32.toUInt16.toUInt32.toInt32, .int x2.toUInt32.toUInt16.toUInt32.toInt32, .int x3.toUInt32.toUInt16.toUInt32.toInt32, .int x4.toUInt32.toUInt16.toUInt32.toInt32, .int x5.toUInt32.toUInt16.toUInt32.toInt32]), .inl (.byte, [.int x0.toUInt32.toUInt16.toUInt32.toInt32.toInt8.toInt32.toInt8.toInt32, .int x1.toUInt32.toUInt16.toUInt32.toInt32.toInt8.toInt32.toInt8.toInt32, .int x2.toUInt32.toUInt16.toUInt32.toInt32.toInt8.toInt32.toInt8.toInt32, .int (0 : Int32), .int (0 : Int32), .int (0 : Int32)])], 0, 0)) rfl ?_
                  refine EW.icmpP rfl (by decide) (fun h => ?_) (fun h => ?_)
                  · have h5 : x3.toUInt32.toUInt16.toUInt32.toInt32.toInt ≤ (255 : Int32).toInt := by simp only [cP] at h; omega
                    clear h
                    show EW _ _ _ _ _ ((26, [.val (.ref 10), .val (.int (3 : Int32)), .val (.ref 11), .val (.int (3 : Int32)), .val (.int (6 : Int32)), .val (.int (3 : Int32)), .val (.int x3.toUInt32.toUInt16.toUInt32.toInt32)], []), [B0, B1, B2, B3, B4, B5, B6, .inl (.char, v8), .inl (.char, [.int x0, .int x1, .int x2, .int x3, .int x4, .int x5, .int x6]), .inr (0, [(0, .null), (1, .int (0 : Int32))]), .inl (.char, [.int x0.toUInt32.toUInt16.toUInt32.toInt32, .int x1.toUInt32.toUInt16.toUInt32.toInt32, .int x2.toUInt32.toUInt16.toUInt32.toInt32, .int x3.toUInt32.toUInt16.toUInt32.toInt32, .int x4.toUInt32.toUInt16.toUInt32.toInt32, .int x5.toUInt32.toUInt16.toUInt32.toInt32]), .inl (.byte, [.int x0.toUInt32.toUInt16.toUInt32.toInt32.toInt8.toInt32.toInt8.toInt32, .int x1.toUInt32.toUInt16.toUInt32.toInt32.toInt8.toInt32.toInt8.toInt32, .int x2.toUInt32.toUInt16.toUInt32.toInt32.toInt8.toInt32.toInt8.toInt32, .int (0 : Int32), .int (0 : Int32), .int (0 : Int32)])], 0, 0)
                    refine EW.run 6 (cf' := ((35, [.val (.ref 10), .val (.int (4 : Int32)), .val (.ref 11), .val (.int (3 : Int32)), .val (.int (6 : Int32)), .val (.int (3 : Int32)), .val (.int x3.toUInt32.toUInt16.toUInt32.toInt32)], []), [B0, B1, B2, B3, B4, B5, B6, .inl (.char, v8), .inl (.char, [.int x0, .int x1, .int x2, .int x3, .int x4, .int x5, .int x6]), .inr (0, [(0, .null), (1, .int (0 : Int32))]), .inl (.char, [.int x0.toUInt32.toUInt16.toUInt32.toInt32, .int x1.toUInt32.toUInt16.toUInt32.toInt32, .int x2.toUInt32.toUInt16.toUInt32.toInt32, .int x3.toUInt32.toUInt16.toUInt32.toInt32, .int x4.toUInt32.toUInt16.toUInt32.toInt32, .int x5.toUInt32.toUInt16.toUInt32.toInt32]), .inl (.byte, [.int x0.toUInt32.toUInt16.toUInt32.toInt32.toInt8.toInt32.toInt8.toInt32, .int x1.toUInt32.toUInt16.toUInt32.toInt32.toInt8.toInt32.toInt8.toInt32, .int x2.toUInt32.toUInt16.toUInt32.toInt32.toInt8.toInt32.toInt8.toInt32, .int x3.toUInt32.toUInt16.toUInt32.toInt32.toInt8.toInt32.toInt8.toInt32, .int (0 : Int32), .int (0 : Int32)])], 0, 0)) rfl ?_
                    refine EW.run 6 (cf' := ((10, [.val (.ref 10), .val (.int (4 : Int32)), .val (.ref 11), .val (.int (4 : Int32)), .val (.int (6 : Int32)), .val (.int (4 : Int32)), .val (.int x3.toUInt32.toUInt16.toUInt32.toInt32)], []), [B0, B1, B2, B3, B4, B5, B6, .inl (.char, v8), .inl (.char, [.int x0, .int x1, .int x2, .int x3, .int x4, .int x5, .int x6]), .inr (0, [(0, .null), (1, .int (0 : Int32))]), .inl (.char, [.int x0.toUInt32.toUInt16.toUInt32.toInt32, .int x1.toUInt32.toUInt16.toUInt32.toInt32, .int x2.toUInt32.toUInt16.toUInt32.toInt32, .int x3.toUInt32.toUInt16.toUInt32.toInt32, .int x4.toUInt32.toUInt16.toUInt32.toInt32, .int x5.toUInt32.toUInt16.toUInt32.toInt32]), .inl (.byte, [.int x0.toUInt32.toUInt16.toUInt32.toInt32.toInt8.toInt32.toInt8.toInt32, .int x1.toUInt32.toUInt16.toUInt32.toInt32.toInt8.toInt32.toInt8.toInt32, .int x2.toUInt32.toUInt16.toUInt32.toInt32.toInt8.toInt32.toInt8.toInt32, .int x3.toUInt32.toUInt16.toUInt32.toInt32.toInt8.toInt32.toInt8.toInt32, .int (0 : Int32), .int (0 : Int32)])], 0, 0)) rfl ?_
                    refine EW.run 6 (cf' := ((20, [.val (.ref 10), .val (.int (4 : Int32)), .val (.ref 11), .val (.int (4 : Int32)), .val (.int (6 : Int32)), .val (.int (4 : Int32)), .val (.int x4.toUInt32.toUInt16.toUInt32.toInt32)], [.int (255 : Int32), .int x4.toUInt32.toUInt16.toUInt32.toInt32]), [B0, B1, B2, B3, B4, B5, B6, .inl (.char, v8), .inl (.char, [.int x0, .int x1, .int x2, .int x3, .int x4, .int x5, .int x6]), .inr (0, [(0, .null), (1, .int (0 : Int32))]), .inl (.char, [.int x0.toUInt32.toUInt16.toUInt32.toInt32, .int x1.toUInt32.toUInt16.toUInt32.toInt32, .int x2.toUInt32.toUInt16.toUInt32.toInt32, .int x3.toUInt32.toUInt16.toUInt32.toInt32, .int x4.toUInt32.toUInt16.toUInt32.toInt32, .int x5.toUInt32.toUInt16.toUInt32.toInt32]), .inl (.byte, [.int x0.toUInt32.toUInt16.toUInt32.toInt32.toInt8.toInt32.toInt8.toInt32, .int x1.toUInt32.toUInt16.toUInt32.toInt32.toInt8.toInt32.toInt8.toInt32, .int x2.toUInt32.toUInt16.toUInt32.toInt32.toInt8.toInt32.toInt8.toInt32, .int x3.toUInt32.toUInt16.toUInt32.toInt32.toInt8.toInt32.toInt8.toInt32, .int (0 : Int32), .int (0 : Int32)])], 0, 0)) rfl ?_
                    refine EW.icmpP rfl (by decide) (fun h => ?_) (fun h => ?_)
                    · have h6 : x4.toUInt32.toUInt16.toUInt32.toInt32.toInt ≤ (255 : Int32).toInt := by simp only [cP] at h; omega
                      clear h
                      show EW _ _ _ _ _ ((26, [.val (.ref 10), .val (.int (4 : Int32)), .val (.ref 11), .val (.int (4 : Int32)), .val (.int (6 : Int32)), .val (.int (4 : Int32)), .val (.int x4.toUInt32.toUInt16.toUInt32.toInt32)], []), [B0, B1, B2, B3, B4, B5, B6, .inl (.char, v8), .inl (.char, [.int x0, .int x1, .int x2, .int x3, .int x4, .int x5, .int x6]), .inr (0, [(0, .null), (1, .int (0 : Int32))]), .inl (.char, [.int x0.toUInt32.toUInt16.toUInt32.toInt32, .int x1.toUInt32.toUInt16.toUInt32.toInt32, .int x2.toUInt32.toUInt16.toUInt32.toInt32, .int x3.toUInt32.toUInt16.toUInt32.toInt32, .int x4.toUInt32.toUInt16.toUInt32.toInt32, .int x5.toUInt32.toUInt16.toUInt32.toInt32]), .inl (.byte, [.int x0.toUInt32.toUInt16.toUInt32.toInt32.toInt8.toInt32.toInt8.toInt32, .int x1.toUInt32.toUInt16.toUInt32.toInt32.toInt8.toInt32.toInt8.toInt32, .int x2.toUInt32.toUInt16.toUInt32.toInt32.toInt8.toInt32.toInt8.toInt32, .int x3.toUInt32.toUInt16.toUInt32.toInt32.toInt8.toInt32.toInt8.toInt32, .int (0 : Int32), .int (0 : Int32)])], 0, 0)
                      refine EW.run 6 (cf' := ((35, [.val (.ref 10), .val (.int (5 : Int32)), .val (.ref 11), .val (.int (4 : Int32)), .val (.int (6 : Int32)), .val (.int (4 : Int32)), .val (.int x4.toUInt32.toUInt16.toUInt32.toInt32)], []), [B0, B1, B2, B3, B4, B5, B6, .inl (.char, v8), .inl (.char, [.int x0, .int x1, .int x2, .int x3, .int x4, .int x5, .int x6]), .inr (0, [(0, .null), (1, .int (0 : Int32))]), .inl (.char, [.int x0.toUInt32.toUInt16.toUInt32.toInt32, .int x1.toUInt32.toUInt16.toUInt32.toInt32, .int x2.toUInt32.toUInt16.toUInt32.toInt32, .int x3.toUInt32.toUInt16.toUInt32.toInt32, .int x4.toUInt32.toUInt16.toUInt32.toInt32, .int x5.toUInt32.toUInt16.toUInt32.toInt32]), .inl (.byte, [.int x0.toUInt32.toUInt16.toUInt32.toInt32.toInt8.toInt32.toInt8.toInt32, .int x1.toUInt32.toUInt16.toUInt32.toInt32.toInt8.toInt32.toInt8.toInt32, .int x2.toUInt32.toUInt16.toUInt32.toInt32.toInt8.toInt32.toInt8.toInt32, .int x3.toUInt32.toUInt16.toUInt32.toInt32.toInt8.toInt32.toInt8.toInt32, .int x4.toUInt32.toUInt16.toUInt32.toInt32.toInt8.toInt32.toInt8.toInt32, .int (0 : Int32)])], 0, 0)) rfl ?_
                      refine EW.run 6 (cf' := ((10, [.val (.ref 10), .val (.int (5 : Int32)), .val (.ref 11), .val (.int (5 : Int32)), .val (.int (6 : Int32)), .val (.int (5 : Int32)), .val (.int x4.toUInt32.toUInt16.toUInt32.toInt32)], []), [B0, B1, B2, B3, B4, B5, B6, .inl (.char, v8), .inl (.char, [.int x0, .int x1, .int x2, .int x3, .int x4, .int x5, .int x6]), .inr (0, [(0, .null), (1, .int (0 : Int32))]), .inl (.char, [.int x0.toUInt32.toUInt16.toUInt32.toInt32, .int x1.toUInt32.toUInt16.toUInt32.toInt32, .int x2.toUInt32.toUInt16.toUInt32.toInt32, .int x3.toUInt32.toUInt16.toUInt32.toInt32, .int x4.toUInt32.toUInt16.toUInt32.toInt32, .int x5.toUInt32.toUInt16.toUInt32.toInt32]), .inl (.byte, [.int x0.toUInt32.toUInt16.toUInt32.toInt32.toInt8.toInt32.toInt8.toInt32, .int x1.toUInt32.toUInt16.toUInt32.toInt32.toInt8.toInt32.toInt8.toInt32, .int x2.toUInt32.toUInt16.toUInt32.toInt32.toInt8.toInt32.toInt8.toInt32, .int x3.toUInt32.toUInt16.toUInt32.toInt32.toInt8.toInt32.toInt8.toInt32, .int x4.toUInt32.toUInt16.toUInt32.toInt32.toInt8.toInt32.toInt8.toInt32, .int (0 : Int32)])], 0, 0)) rfl ?_
                      refine EW.run 6 (cf' := ((20, [.val (.ref 10), .val (.int (5 : Int32)), .val (.ref 11), .val (.int (5 : Int32)), .val (.int (6 : Int32)), .val (.int (5 : Int32)), .val (.int x5.toUInt32.toUInt16.toUInt32.toInt32)], [.int (255 : Int32), .int x5.toUInt32.toUInt16.toUInt32.toInt32]), [B0, B1, B2, B3, B4, B5, B6, .inl (.char, v8), .inl (.char, [.int x0, .int x1, .int x2, .int x3, .int x4, .int x5, .int x6]), .inr (0, [(0, .null), (1, .int (0 : Int32))]), .inl (.char, [.int x0.toUInt32.toUInt16.toUInt32.toInt32, .int x1.toUInt32.toUInt16.toUInt32.toInt32, .int x2.toUInt32.toUInt16.toUInt32.toInt32, .int x3.toUInt32.toUInt16.toUInt32.toInt32, .int x4.toUInt32.toUInt16.toUInt32.toInt32, .int x5.toUInt32.toUInt16.toUInt32.toInt32]), .inl (.byte, [.int x0.toUInt32.toUInt16.toUInt32.toInt32.toInt8.toInt32.toInt8.toInt32, .int x1.toUInt32.toUInt16.toUInt32.toInt32.toInt8.toInt32.toInt8.toInt32, .int x2.toUInt32.toUInt16.toUInt32.toInt32.toInt8.toInt32.toInt8.toInt32, .int x3.toUInt32.toUInt16.toUInt32.toInt32.toInt8.toInt32.toInt8.toInt32, .int x4.toUInt32.toUInt16.toUInt32.toInt32.toInt8.toInt32.toInt8.toInt32, .int (0 : Int32)])], 0, 0)) rfl ?_
                      refine EW.icmpP rfl (by decide) (fun h => ?_) (fun h => ?_)
                      · have h7 : x5.toUInt32.toUInt16.toUInt32.toInt32.toInt ≤ (255 : Int32).toInt := by simp only [cP] at h; omega
                        clear h
                        show EW _ _ _ _ _ ((26, [.val (.ref 10), .val (.int (5 : Int32)), .val (.ref 11), .val (.int (5 : Int32)), .val (.int (6 : Int32)), .val (.int (5 : Int32)), .val (.int x5.toUInt32.toUInt16.toUInt32.toInt32)], []), [B0, B1, B2, B3, B4, B5, B6, .inl (.char, v8), .inl (.char, [.int x0, .int x1, .int x2, .int x3, .int x4, .int x5, .int x6]), .inr (0, [(0, .null), (1, .int (0 : Int32))]), .inl (.char, [.int x0.toUInt32.toUInt16.toUInt32.toInt32, .int x1.toUInt32.toUInt16.toUInt32.toInt32, .int x2.toUInt32.toUInt16.toUInt32.toInt32, .int x3.toUInt32.toUInt16.toUInt32.toInt32, .int x4.toUInt32.toUInt16.toUInt32.toInt32, .int x5.toUInt32.toUInt16.toUInt32.toInt32]), .inl (.byte, [.int x0.toUInt32.toUInt16.toUInt32.toInt32.toInt8.toInt32.toInt8.toInt32, .int x1.toUInt32.toUInt16.toUInt32.toInt32.toInt8.toInt32.toInt8.toInt32, .int x2.toUInt32.toUInt16.toUInt32.toInt32.toInt8.toInt32.toInt8.toInt32, .int x3.toUInt32.toUInt16.toUInt32.toInt32.toInt8.toInt32.toInt8.toInt32, .int x4.toUInt32.toUInt16.toUInt32.toInt32.toInt8.toInt32.toInt8.toInt32, .int (0 : Int32)])], 0, 0)
                        refine EW.run 6 (cf' := ((35, [.val (.ref 10), .val (.int (6 : Int32)), .val (.ref 11), .val (.int (5 : Int32)), .val (.int (6 : Int32)), .val (.int (5 : Int32)), .val (.int x5.toUInt32.toUInt16.toUInt32.toInt32)], []), [B0, B1, B2, B3, B4, B5, B6, .inl (.char, v8), .inl (.char, [.int x0, .int x1, .int x2, .int x3, .int x4, .int x5, .int x6]), .inr (0, [(0, .null), (1, .int (0 : Int32))]), .inl (.char, [.int x0.toUInt32.toUInt16.toUInt32.toInt32, .int x1.toUInt32.toUInt16.toUInt32.toInt32, .int x2.toUInt32.toUInt16.toUInt32.toInt32, .int x3.toUInt32.toUInt16.toUInt32.toInt32, .int x4.toUInt32.toUInt16.toUInt32.toInt32, .int x5.toUInt32.toUInt16.toUInt32.toInt32]), .inl (.byte, [.int x0.toUInt32.toUInt16.toUInt32.toInt32.toInt8.toInt32.toInt8.toInt32, .int x1.toUInt32.toUInt16.toUInt32.toInt32.toInt8.toInt32.toInt8.toInt32, .int x2.toUInt32.toUInt16.toUInt32.toInt32.toInt8.toInt32.toInt8.toInt32, .int x3.toUInt32.toUInt16.toUInt32.toInt32.toInt8.toInt32.toInt8.toInt32, .int x4.toUInt32.toUInt16.toUInt32.toInt32.toInt8.toInt32.toInt8.toInt32, .int x5.toUInt32.toUInt16.toUInt32.toInt32.toInt8.toInt32.toInt8.toInt32])], 0, 0)) rfl ?_
                        refine EW.run 6 (cf' := ((44, [.val (.ref 10), .val (.int (6 : Int32)), .val (.ref 11), .val (.int (6 : Int32)), .val (.int (6 : Int32)), .val (.int (6 : Int32)), .val (.int x5.toUInt32.toUInt16.toUInt32.toInt32)], []), [B0, B1, B2, B3, B4, B5, B6, .inl (.char, v8), .inl (.char, [.int x0, .int x1, .int x2, .int x3, .int x4, .int x5, .int x6]), .inr (0, [(0, .null), (1, .int (0 : Int32))]), .inl (.char, [.int x0.toUInt32.toUInt16.toUInt32.toInt32, .int x1.toUInt32.toUInt16.toUInt32.toInt32, .int x2.toUInt32.toUInt16.toUInt32.toInt32, .int x3.toUInt32.toUInt16.toUInt32.toInt32, .int x4.toUInt32.toUInt16.toUInt32.toInt32, .int x5.toUInt32.toUInt16.toUInt32.toInt32]), .inl (.byte, [.int x0.toUInt32.toUInt16.toUInt32.toInt32.toInt8.toInt32.toInt8.toInt32, .int x1.toUInt32.toUInt16.toUInt32.toInt32.toInt8.toInt32.toInt8.toInt32, .int x2.toUInt32.toUInt16.toUInt32.toInt32.toInt8.toInt32.toInt8.toInt32, .int x3.toUInt32.toUInt16.toUInt32.toInt32.toInt8.toInt32.toInt8.toInt32, .int x4.toUInt32.toUInt16.toUInt32.toInt32.toInt8.toInt32.toInt8.toInt32, .int x5.toUInt32.toUInt16.toUInt32.toInt32.toInt8.toInt32.toInt8.toInt32])], 0, 0)) rfl ?_
                        refine EW.run 1 (cf' := ((46, [.val (.ref 10), .val (.int (6 : Int32)), .val (.ref 11), .val (.int (6 : Int32)), .val (.int (6 : Int32)), .val (.int (6 : Int32)), .val (.int x5.toUInt32.toUInt16.toUInt32.toInt32)], [.int (6 : Int32)]), [B0, B1, B2, B3, B4, B5, B6, .inl (.char, v8), .inl (.char, [.int x0, .int x1, .int x2, .int x3, .int x4, .int x5, .int x6]), .inr (0, [(0, .null), (1, .int (0 : Int32))]), .inl (.char, [.int x0.toUInt32.toUInt16.toUInt32.toInt32, .int x1.toUInt32.toUInt16.toUInt32.toInt32, .int x2.toUInt32.toUInt16.toUInt32.toInt32, .int x3.toUInt32.toUInt16.toUInt32.toInt32, .int x4.toUInt32.toUInt16.toUInt32.toInt32, .int x5.toUInt32.toUInt16.toUInt32.toInt32]), .inl (.byte, [.int x0.toUInt32.toUInt16.toUInt32.toInt32.toInt8.toInt32.toInt8.toInt32, .int x1.toUInt32.toUInt16.toUInt32.toInt32.toInt8.toInt32.toInt8.toInt32, .int x2.toUInt32.toUInt16.toUInt32.toInt32.toInt8.toInt32.toInt8.toInt32, .int x3.toUInt32.toUInt16.toUInt32.toInt32.toInt8.toInt32.toInt8.toInt32, .int x4.toUInt32.toUInt16.toUInt32.toInt32.toInt8.toInt32.toInt8.toInt32, .int x5.toUInt32.toUInt16.toUInt32.toInt32.toInt8.toInt32.toInt8.toInt32])], 0, 0)) rfl ?_
                        exact EW.ret rfl rfl
                      · exfalso; simp only [cP] at h; omega
                    · exfalso; simp only [cP] at h; omega
                  · exfalso; simp only [cP] at h; omega
                · exfalso; simp only [cP] at h; omega
              · exfalso; simp only [cP] at h; omega
            · exfalso; simp only [cP] at h; omega
          rintro _ _ _ _ ⟨⟩
          show EW _ _ _ _ _ ((12, [.val (.ref 10), .val (.int (0 : Int32)), .val (.int (6 : Int32)), .val (.ref 11), .unset, .unset], [.int (6 : Int32)]), [B0, B1, B2, B3, B4, B5, B6, .inl (.char, v8), .inl (.char, [.int x0, .int x1, .int x2, .int x3, .int x4, .int x5, .int x6]), .inr (0, [(0, .null), (1, .int (0 : Int32))]), .inl (.char, [.int x0.toUInt32.toUInt16.toUInt32.toInt32, .int x1.toUInt32.toUInt16.toUInt32.toInt32, .int x2.toUInt32.toUInt16.toUInt32.toInt32, .int x3.toUInt32.toUInt16.toUInt32.toInt32, .int x4.toUInt32.toUInt16.toUInt32.toInt32, .int x5.toUInt32.toUInt16.toUInt32.toInt32]), .inl (.byte, [.int x0.toUInt32.toUInt16.toUInt32.toInt32.toInt8.toInt32.toInt8.toInt32, .int x1.toUInt32.toUInt16.toUInt32.toInt32.toInt8.toInt32.toInt8.toInt32, .int x2.toUInt32.toUInt16.toUInt32.toInt32.toInt8.toInt32.toInt8.toInt32, .int x3.toUInt32.toUInt16.toUInt32.toInt32.toInt8.toInt32.toInt8.toInt32, .int x4.toUInt32.toUInt16.toUInt32.toInt32.toInt8.toInt32.toInt8.toInt32, .int x5.toUInt32.toUInt16.toUInt32.toInt32.toInt8.toInt32.toInt8.toInt32])], 1, 6)
          refine EW.run 5 (cf' := ((58, [.val (.ref 10), .val (.int (0 : Int32)), .val (.int (6 : Int32)), .val (.ref 11), .val (.int (6 : Int32)), .unset], [.ref 11]), [B0, B1, B2, B3, B4, B5, B6, .inl (.char, v8), .inl (.char, [.int x0, .int x1, .int x2, .int x3, .int x4, .int x5, .int x6]), .inr (0, [(0, .null), (1, .int (0 : Int32))]), .inl (.char, [.int x0.toUInt32.toUInt16.toUInt32.toInt32, .int x1.toUInt32.toUInt16.toUInt32.toInt32, .int x2.toUInt32.toUInt16.toUInt32.toInt32, .int x3.toUInt32.toUInt16.toUInt32.toInt32, .int x4.toUInt32.toUInt16.toUInt32.toInt32, .int x5.toUInt32.toUInt16.toUInt32.toInt32]), .inl (.byte, [.int x0.toUInt32.toUInt16.toUInt32.toInt32.toInt8.toInt32.toInt8.toInt32, .int x1.toUInt32.toUInt16.toUInt32.toInt32.toInt8.toInt32.toInt8.toInt32, .int x2.toUInt32.toUInt16.toUInt32.toInt32.toInt8.toInt32.toInt8.toInt32, .int x3.toUInt32.toUInt16.toUInt32.toInt32.toInt8.toInt32.toInt8.toInt32, .int x4.toUInt32.toUInt16.toUInt32.toInt32.toInt8.toInt32.toInt8.toInt32, .int x5.toUInt32.toUInt16.toUInt32.toInt32.toInt8.toInt32.toInt8.toInt32])], 1, 6)) rfl ?_
          exact EW.ret rfl rfl
        rintro _ _ _ _ ⟨⟩
        show EW _ _ _ _ _ ((39, [.val (.ref 9), .val (.ref 10), .val (.int (0 : Int32)), .val (.int (6 : Int32)), .val (.null), .unset], [.ref 11]), [B0, B1, B2, B3, B4, B5, B6, .inl (.char, v8), .inl (.char, [.int x0, .int x1, .int x2, .int x3, .int x4, .int x5, .int x6]), .inr (0, [(0, .null), (1, .int (0 : Int32))]), .inl (.char, [.int x0.toUInt32.toUInt16.toUInt32.toInt32, .int x1.toUInt32.toUInt16.toUInt32.toInt32, .int x2.toUInt32.toUInt16.toUInt32.toInt32, .int x3.toUInt32.toUInt16.toUInt32.toInt32, .int x4.toUInt32.toUInt16.toUInt32.toInt32, .int x5.toUInt32.toUInt16.toUInt32.toInt32]), .inl (.byte, [.int x0.toUInt32.toUInt16.toUInt32.toInt32.toInt8.toInt32.toInt8.toInt32, .int x1.toUInt32.toUInt16.toUInt32.toInt32.toInt8.toInt32.toInt8.toInt32, .int x2.toUInt32.toUInt16.toUInt32.toInt32.toInt8.toInt32.toInt8.toInt32, .int x3.toUInt32.toUInt16.toUInt32.toInt32.toInt8.toInt32.toInt8.toInt32, .int x4.toUInt32.toUInt16.toUInt32.toInt32.toInt8.toInt32.toInt8.toInt32, .int x5.toUInt32.toUInt16.toUInt32.toInt32.toInt8.toInt32.toInt8.toInt32])], 1, 6)
        refine EW.run 4 (cf' := ((45, [.val (.ref 9), .val (.ref 10), .val (.int (0 : Int32)), .val (.int (6 : Int32)), .val (.null), .val (.ref 11)], [.int (6 : Int32), .ref 11, .ref 9]), [B0, B1, B2, B3, B4, B5, B6, .inl (.char, v8), .inl (.char, [.int x0, .int x1, .int x2, .int x3, .int x4, .int x5, .int x6]), .inr (0, [(0, .null), (1, .int (0 : Int32))]), .inl (.char, [.int x0.toUInt32.toUInt16.toUInt32.toInt32, .int x1.toUInt32.toUInt16.toUInt32.toInt32, .int x2.toUInt32.toUInt16.toUInt32.toInt32, .int x3.toUInt32.toUInt16.toUInt32.toInt32, .int x4.toUInt32.toUInt16.toUInt32.toInt32, .int x5.toUInt32.toUInt16.toUInt32.toInt32]), .inl (.byte, [.int x0.toUInt32.toUInt16.toUInt32.toInt32.toInt8.toInt32.toInt8.toInt32, .int x1.toUInt32.toUInt16.toUInt32.toInt32.toInt8.toInt32.toInt8.toInt32, .int x2.toUInt32.toUInt16.toUInt32.toInt32.toInt8.toInt32.toInt8.toInt32, .int x3.toUInt32.toUInt16.toUInt32.toInt32.toInt8.toInt32.toInt8.toInt32, .int x4.toUInt32.toUInt16.toUInt32.toInt32.toInt8.toInt32.toInt8.toInt32, .int x5.toUInt32.toUInt16.toUInt32.toInt32.toInt8.toInt32.toInt8.toInt32])], 1, 6)) rfl ?_
        refine EW.call (Qc := fun r => r = (some (.int 0), [B0, B1, B2, B3, B4, B5, B6, .inl (.char, v8), .inl (.char, [.int x0, .int x1, .int x2, .int x3, .int x4, .int x5, .int x6]), .inr (0, [(0, .null), (1, .int (0 : Int32))]), .inl (.char, [.int x0.toUInt32.toUInt16.toUInt32.toInt32, .int x1.toUInt32.toUInt16.toUInt32.toInt32, .int x2.toUInt32.toUInt16.toUInt32.toInt32, .int x3.toUInt32.toUInt16.toUInt32.toInt32, .int x4.toUInt32.toUInt16.toUInt32.toInt32, .int x5.toUInt32.toUInt16.toUInt32.toInt32]), .inl (.byte, [.int x0.toUInt32.toUInt16.toUInt32.toInt32.toInt8.toInt32.toInt8.toInt32, .int x1.toUInt32.toUInt16.toUInt32.toInt32.toInt8.toInt32.toInt8.toInt32, .int x2.toUInt32.toUInt16.toUInt32.toInt32.toInt8.toInt32.toInt8.toInt32, .int x3.toUInt32.toUInt16.toUInt32.toInt32.toInt8.toInt32.toInt8.toInt32, .int x4.toUInt32.toUInt16.toUInt32.toInt32.toInt8.toInt32.toInt8.toInt32, .int x5.toUInt32.toUInt16.toUInt32.toInt32.toInt8.toInt32.toInt8.toInt32])], 0, 0)) rfl ?_ ?_
        · exact cod (p := 11) (n := (6 : Int32)) rfl (by show nar .byte ((XT.ushr ((6 : Int32) - (6 : Int32)) ((Int8.ofInt 31).toInt32)).toInt8.toInt32) = 0; decide)
        rintro _ _ _ _ ⟨⟩
        show EW _ _ _ _ _ ((48, [.val (.ref 9), .val (.ref 10), .val (.int (0 : Int32)), .val (.int (6 : Int32)), .val (.null), .val (.ref 11)], [.int (0 : Int32), .ref 9]), [B0, B1, B2, B3, B4, B5, B6, .inl (.char, v8), .inl (.char, [.int x0, .int x1, .int x2, .int x3, .int x4, .int x5, .int x6]), .inr (0, [(0, .null), (1, .int (0 : Int32))]), .inl (.char, [.int x0.toUInt32.toUInt16.toUInt32.toInt32, .int x1.toUInt32.toUInt16.toUInt32.toInt32, .int x2.toUInt32.toUInt16.toUInt32.toInt32, .int x3.toUInt32.toUInt16.toUInt32.toInt32, .int x4.toUInt32.toUInt16.toUInt32.toInt32, .int x5.toUInt32.toUInt16.toUInt32.toInt32]), .inl (.byte, [.int x0.toUInt32.toUInt16.toUInt32.toInt32.toInt8.toInt32.toInt8.toInt32, .int x1.toUInt32.toUInt16.toUInt32.toInt32.toInt8.toInt32.toInt8.toInt32, .int x2.toUInt32.toUInt16.toUInt32.toInt32.toInt8.toInt32.toInt8.toInt32, .int x3.toUInt32.toUInt16.toUInt32.toInt32.toInt8.toInt32.toInt8.toInt32, .int x4.toUInt32.toUInt16.toUInt32.toInt32.toInt8.toInt32.toInt8.toInt32, .int x5.toUInt32.toUInt16.toUInt32.toInt32.toInt8.toInt32.toInt8.toInt32])], 1, 6)
        refine EW.run 4 (cf' := ((57, [.val (.ref 9), .val (.ref 10), .val (.int (0 : Int32)), .val (.int (6 : Int32)), .val (.null), .val (.ref 11)], []), [B0, B1, B2, B3, B4, B5, B6, .inl (.char, v8), .inl (.char, [.int x0, .int x1, .int x2, .int x3, .int x4, .int x5, .int x6]), .inr (0, [(0, .ref 11), (1, .int (0 : Int32))]), .inl (.char, [.int x0.toUInt32.toUInt16.toUInt32.toInt32, .int x1.toUInt32.toUInt16.toUInt32.toInt32, .int x2.toUInt32.toUInt16.toUInt32.toInt32, .int x3.toUInt32.toUInt16.toUInt32.toInt32, .int x4.toUInt32.toUInt16.toUInt32.toInt32, .int x5.toUInt32.toUInt16.toUInt32.toInt32]), .inl (.byte, [.int x0.toUInt32.toUInt16.toUInt32.toInt32.toInt8.toInt32.toInt8.toInt32, .int x1.toUInt32.toUInt16.toUInt32.toInt32.toInt8.toInt32.toInt8.toInt32, .int x2.toUInt32.toUInt16.toUInt32.toInt32.toInt8.toInt32.toInt8.toInt32, .int x3.toUInt32.toUInt16.toUInt32.toInt32.toInt8.toInt32.toInt8.toInt32, .int x4.toUInt32.toUInt16.toUInt32.toInt32.toInt8.toInt32.toInt8.toInt32, .int x5.toUInt32.toUInt16.toUInt32.toInt32.toInt8.toInt32.toInt8.toInt32])], 1, 6)) rfl ?_
        exact EW.ret rfl rfl
    rintro _ _ _ _ ⟨⟩
    show EW _ _ _ _ _ ((9, [.val (.ref 9), .val (.ref 10)], []), [B0, B1, B2, B3, B4, B5, B6, .inl (.char, v8), .inl (.char, [.int x0, .int x1, .int x2, .int x3, .int x4, .int x5, .int x6]), .inr (0, [(0, .ref 11), (1, .int (0 : Int32))]), .inl (.char, [.int x0.toUInt32.toUInt16.toUInt32.toInt32, .int x1.toUInt32.toUInt16.toUInt32.toInt32, .int x2.toUInt32.toUInt16.toUInt32.toInt32, .int x3.toUInt32.toUInt16.toUInt32.toInt32, .int x4.toUInt32.toUInt16.toUInt32.toInt32, .int x5.toUInt32.toUInt16.toUInt32.toInt32]), .inl (.byte, [.int x0.toUInt32.toUInt16.toUInt32.toInt32.toInt8.toInt32.toInt8.toInt32, .int x1.toUInt32.toUInt16.toUInt32.toInt32.toInt8.toInt32.toInt8.toInt32, .int x2.toUInt32.toUInt16.toUInt32.toInt32.toInt8.toInt32.toInt8.toInt32, .int x3.toUInt32.toUInt16.toUInt32.toInt32.toInt8.toInt32.toInt8.toInt32, .int x4.toUInt32.toUInt16.toUInt32.toInt32.toInt8.toInt32.toInt8.toInt32, .int x5.toUInt32.toUInt16.toUInt32.toInt32.toInt8.toInt32.toInt8.toInt32])], 1, 6)
    exact EW.ret rfl rfl
  rintro _ _ _ _ ⟨⟩
  show EW _ _ _ _ _ ((238, [.val (.ref 8), .val (.int (6 : Int32))], [.ref 9]), [B0, B1, B2, B3, B4, B5, B6, .inl (.char, v8), .inl (.char, [.int x0, .int x1, .int x2, .int x3, .int x4, .int x5, .int x6]), .inr (0, [(0, .ref 11), (1, .int (0 : Int32))]), .inl (.char, [.int x0.toUInt32.toUInt16.toUInt32.toInt32, .int x1.toUInt32.toUInt16.toUInt32.toInt32, .int x2.toUInt32.toUInt16.toUInt32.toInt32, .int x3.toUInt32.toUInt16.toUInt32.toInt32, .int x4.toUInt32.toUInt16.toUInt32.toInt32, .int x5.toUInt32.toUInt16.toUInt32.toInt32]), .inl (.byte, [.int x0.toUInt32.toUInt16.toUInt32.toInt32.toInt8.toInt32.toInt8.toInt32, .int x1.toUInt32.toUInt16.toUInt32.toInt32.toInt8.toInt32.toInt8.toInt32, .int x2.toUInt32.toUInt16.toUInt32.toInt32.toInt8.toInt32.toInt8.toInt32, .int x3.toUInt32.toUInt16.toUInt32.toInt32.toInt8.toInt32.toInt8.toInt32, .int x4.toUInt32.toUInt16.toUInt32.toInt32.toInt8.toInt32.toInt8.toInt32, .int x5.toUInt32.toUInt16.toUInt32.toInt32.toInt8.toInt32.toInt8.toInt32])], 3, 16)
  exact EW.ret rfl rfl
set_option maxHeartbeats 8000000 in
theorem cut_7 {cs : Int32} (hcs : cs.toInt ≠ 0) (v8 : List Value) (x0 x1 x2 x3 x4 x5 x6 : Int32) (h0x : okc x0) (h1x : okc x1) (h2x : okc x2) (h3x : okc x3) (h4x : okc x4) (h5x : okc x5) (h6x : okc x6) : Eng.EW (gG cs 7 N0) 7 179 m1 (fun r => r = (some (.ref 9), [B0, B1, B2, B3, B4, B5, B6, .inl (.char, v8), .inl (.char, [.int x0, .int x1, .int x2, .int x3, .int x4, .int x5, .int x6]), .inr (0, [(0, .ref 11), (1, .int (0 : Int32))]), .inl (.char, [.int x0.toUInt32.toUInt16.toUInt32.toInt32, .int x1.toUInt32.toUInt16.toUInt32.toInt32, .int x2.toUInt32.toUInt16.toUInt32.toInt32, .int x3.toUInt32.toUInt16.toUInt32.toInt32, .int x4.toUInt32.toUInt16.toUInt32.toInt32, .int x5.toUInt32.toUInt16.toUInt32.toInt32, .int x6.toUInt32.toUInt16.toUInt32.toInt32]), .inl (.byte, [.int x0.toUInt32.toUInt16.toUInt32.toInt32.toInt8.toInt32.toInt8.toInt32, .int x1.toUInt32.toUInt16.toUInt32.toInt32.toInt8.toInt32.toInt8.toInt32, .int x2.toUInt32.toUInt16.toUInt32.toInt32.toInt8.toInt32.toInt8.toInt32, .int x3.toUInt32.toUInt16.toUInt32.toInt32.toInt8.toInt32.toInt8.toInt32, .int x4.toUInt32.toUInt16.toUInt32.toInt32.toInt8.toInt32.toInt8.toInt32, .int x5.toUInt32.toUInt16.toUInt32.toInt32.toInt8.toInt32.toInt8.toInt32, .int x6.toUInt32.toUInt16.toUInt32.toInt32.toInt8.toInt32.toInt8.toInt32])], 3, 18)) ((0, entL [.ref 8, .int 7] 2, []), [B0, B1, B2, B3, B4, B5, B6, .inl (.char, v8), .inl (.char, [.int x0, .int x1, .int x2, .int x3, .int x4, .int x5, .int x6])], 0, 0) := by
  unfold okc at h0x h1x h2x h3x h4x h5x h6x
  show Eng.EW _ _ _ _ _ ((0, [.val (.ref 8), .val (.int (7 : Int32))], []), [B0, B1, B2, B3, B4, B5, B6, .inl (.char, v8), .inl (.char, [.int x0, .int x1, .int x2, .int x3, .int x4, .int x5, .int x6])], 0, 0)
  refine EW.run 6 (cf' := ((38, [.val (.ref 8), .val (.int (7 : Int32))], [.int (7 : Int32)]), [B0, B1, B2, B3, B4, B5, B6, .inl (.char, v8), .inl (.char, [.int x0, .int x1, .int x2, .int x3, .int x4, .int x5, .int x6])], 0, 0)) rfl ?_
  refine EW.run 6 (cf' := ((100, [.val (.ref 8), .val (.int (7 : Int32))], [.int (7 : Int32)]), [B0, B1, B2, B3, B4, B5, B6, .inl (.char, v8), .inl (.char, [.int x0, .int x1, .int x2, .int x3, .int x4, .int x5, .int x6])], 0, 0)) rfl ?_
  refine EW.run 6 (cf' := ((186, [.val (.ref 8), .val (.int (7 : Int32))], [.int (7 : Int32)]), [B0, B1, B2, B3, B4, B5, B6, .inl (.char, v8), .inl (.char, [.int x0, .int x1, .int x2, .int x3, .int x4, .int x5, .int x6])], 0, 0)) rfl ?_
  refine EW.run 6 (cf' := ((247, [.val (.ref 8), .val (.int (7 : Int32))], [.ref 10, .ref 9, .ref 9]), [B0, B1, B2, B3, B4, B5, B6, .inl (.char, v8), .inl (.char, [.int x0, .int x1, .int x2, .int x3, .int x4, .int x5, .int x6]), .inr (0, [(0, .null), (1, .int (0 : Int32))]), .inl (.char, [.int (0 : Int32), .int (0 : Int32), .int (0 : Int32), .int (0 : Int32), .int (0 : Int32), .int (0 : Int32), .int (0 : Int32)])], 2, 11)) rfl ?_
  refine EW.run 6 (cf' := ((253, [.val (.ref 8), .val (.int (7 : Int32))], [.ref 10, .ref 9, .ref 9]), [B0, B1, B2, B3, B4, B5, B6, .inl (.char, v8), .inl (.char, [.int x0, .int x1, .int x2, .int x3, .int x4, .int x5, .int x6]), .inr (0, [(0, .null), (1, .int (0 : Int32))]), .inl (.char, [.int x0.toUInt32.toUInt16.toUInt32.toInt32, .int (0 : Int32), .int (0 : Int32), .int (0 : Int32), .int (0 : Int32), .int (0 : Int32), .int (0 : Int32)])], 2, 11)) rfl ?_
  refine EW.run 6 (cf' := ((259, [.val (.ref 8), .val (.int (7 : Int32))], [.ref 10, .ref 9, .ref 9]), [B0, B1, B2, B3, B4, B5, B6, .inl (.char, v8), .inl (.char, [.int x0, .int x1, .int x2, .int x3, .int x4, .int x5, .int x6]), .inr (0, [(0, .null), (1, .int (0 : Int32))]), .inl (.char, [.int x0.toUInt32.toUInt16.toUInt32.toInt32, .int x1.toUInt32.toUInt16.toUInt32.toInt32, .int (0 : Int32), .int (0 : Int32), .int (0 : Int32), .int (0 : Int32), .int (0 : Int32)])], 2, 11)) rfl ?_
  refine EW.run 6 (cf' := ((265, [.val (.ref 8), .val (.int (7 : Int32))], [.ref 10, .ref 9, .ref 9]), [B0, B1, B2, B3, B4, B5, B6, .inl (.char, v8), .inl (.char, [.int x0, .int x1, .int x2, .int x3, .int x4, .int x5, .int x6]), .inr (0, [(0, .null), (1, .int (0 : Int32))]), .inl (.char, [.int x0.toUInt32.toUInt16.toUInt32.toInt32, .int x1.toUInt32.toUInt16.toUInt32.toInt32, .int x2.toUInt32.toUInt16.toUInt32.toInt32, .int (0 : Int32), .int (0 : Int32), .int (0 : Int32), .int (0 : Int32)])], 2, 11)) rfl ?_
  refine EW.run 6 (cf' := ((271, [.val (.ref 8), .val (.int (7 : Int32))], [.ref 10, .ref 9, .ref 9]), [B0, B1, B2, B3, B4, B5, B6, .inl (.char, v8), .inl (.char, [.int x0, .int x1, .int x2, .int x3, .int x4, .int x5, .int x6]), .inr (0, [(0, .null), (1, .int (0 : Int32))]), .inl (.char, [.int x0.toUInt32.toUInt16.toUInt32.toInt32, .int x1.toUInt32.toUInt16.toUInt32.toInt32, .int x2.toUInt32.toUInt16.toUInt32.toInt32, .int x3.toUInt32.toUInt16.toUInt32.toInt32, .int (0 : Int32), .int (0 : Int32), .int (0 : Int32)])], 2, 11)) rfl ?_
  refine EW.run 6 (cf' := ((277, [.val (.ref 8), .val (.int (7 : Int32))], [.ref 10, .ref 9, .ref 9]), [B0, B1, B2, B3, B4, B5, B6, .inl (.char, v8), .inl (.char, [.int x0, .int x1, .int x2, .int x3, .int x4, .int x5, .int x6]), .inr (0, [(0, .null), (1, .int (0 : Int32))]), .inl (.char, [.int x0.toUInt32.toUInt16.toUInt32.toInt32, .int x1.toUInt32.toUInt16.toUInt32.toInt32, .int x2.toUInt32.toUInt16.toUInt32.toInt32, .int x3.toUInt32.toUInt16.toUInt32.toInt32, .int x4.toUInt32.toUInt16.toUInt32.toInt32, .int (0 : Int32), .int (0 : Int32)])], 2, 11)) rfl ?_
  refine EW.run 6 (cf' := ((283, [.val (.ref 8), .val (.int (7 : Int32))], [.ref 10, .ref 9, .ref 9]), [B0, B1, B2, B3, B4, B5, B6, .inl (.char, v8), .inl (.char, [.int x0, .int x1, .int x2, .int x3, .int x4, .int x5, .int x6]), .inr (0, [(0, .null), (1, .int (0 : Int32))]), .inl (.char, [.int x0.toUInt32.toUInt16.toUInt32.toInt32, .int x1.toUInt32.toUInt16.toUInt32.toInt32, .int x2.toUInt32.toUInt16.toUInt32.toInt32, .int x3.toUInt32.toUInt16.toUInt32.toInt32, .int x4.toUInt32.toUInt16.toUInt32.toInt32, .int x5.toUInt32.toUInt16.toUInt32.toInt32, .int (0 : Int32)])], 2, 11)) rfl ?_
  refine EW.run 6 (cf' := ((291, [.val (.ref 8), .val (.int (7 : Int32))], [.ref 10, .ref 9, .ref 9]), [B0, B1, B2, B3, B4, B5, B6, .inl (.char, v8), .inl (.char, [.int x0, .int x1, .int x2, .int x3, .int x4, .int x5, .int x6]), .inr (0, [(0, .null), (1, .int (0 : Int32))]), .inl (.char, [.int x0.toUInt32.toUInt16.toUInt32.toInt32, .int x1.toUInt32.toUInt16.toUInt32.toInt32, .int x2.toUInt32.toUInt16.toUInt32.toInt32, .int x3.toUInt32.toUInt16.toUInt32.toInt32, .int x4.toUInt32.toUInt16.toUInt32.toInt32, .int x5.toUInt32.toUInt16.toUInt32.toInt32, .int x6.toUInt32.toUInt16.toUInt32.toInt32])], 2, 11)) rfl ?_
  refine EW.call (Qc := fun r => r = (none, [B0, B1, B2, B3, B4, B5, B6, .inl (.char, v8), .inl (.char, [.int x0, .int x1, .int x2, .int x3, .int x4, .int x5, .int x6]), .inr (0, [(0, .ref 11), (1, .int (0 : Int32))]), .inl (.char, [.int x0.toUInt32.toUInt16.toUInt32.toInt32, .int x1.toUInt32.toUInt16.toUInt32.toInt32, .int x2.toUInt32.toUInt16.toUInt32.toInt32, .int x3.toUInt32.toUInt16.toUInt32.toInt32, .int x4.toUInt32.toUInt16.toUInt32.toInt32, .int x5.toUInt32.toUInt16.toUInt32.toInt32, .int x6.toUInt32.toUInt16.toUInt32.toInt32]), .inl (.byte, [.int x0.toUInt32.toUInt16.toUInt32.toInt32.toInt8.toInt32.toInt8.toInt32, .int x1.toUInt32.toUInt16.toUInt32.toInt32.toInt8.toInt32.toInt8.toInt32, .int x2.toUInt32.toUInt16.toUInt32.toInt32.toInt8.toInt32.toInt8.toInt32, .int x3.toUInt32.toUInt16.toUInt32.toInt32.toInt8.toInt32.toInt8.toInt32, .int x4.toUInt32.toUInt16.toUInt32.toInt32.toInt8.toInt32.toInt8.toInt32, .int x5.toUInt32.toUInt16.toUInt32.toInt32.toInt8.toInt32.toInt8.toInt32, .int x6.toUInt32.toUInt16.toUInt32.toInt32.toInt8.toInt32.toInt8.toInt32])], 1, 7)) rfl ?_ ?_
  · show EW _ _ _ _ _ ((0, [.val (.ref 9), .val (.ref 10)], []), [B0, B1, B2, B3, B4, B5, B6, .inl (.char, v8), .inl (.char, [.int x0, .int x1, .int x2, .int x3, .int x4, .int x5, .int x6]), .inr (0, [(0, .null), (1, .int (0 : Int32))]), .inl (.char, [.int x0.toUInt32.toUInt16.toUInt32.toInt32, .int x1.toUInt32.toUInt16.toUInt32.toInt32, .int x2.toUInt32.toUInt16.toUInt32.toInt32, .int x3.toUInt32.toUInt16.toUInt32.toInt32, .int x4.toUInt32.toUInt16.toUInt32.toInt32, .int x5.toUInt32.toUInt16.toUInt32.toInt32, .int x6.toUInt32.toUInt16.toUInt32.toInt32])], 0, 0)
    refine EW.run 6 (cf' := ((6, [.val (.ref 9), .val (.ref 10)], [.null, .int (7 : Int32), .int (0 : Int32), .ref 10, .ref 9]), [B0, B1, B2, B3, B4, B5, B6, .inl (.char, v8), .inl (.char, [.int x0, .int x1, .int x2, .int x3, .int x4, .int x5, .int x6]), .inr (0, [(0, .null), (1, .int (0 : Int32))]), .inl (.char, [.int x0.toUInt32.toUInt16.toUInt32.toInt32, .int x1.toUInt32.toUInt16.toUInt32.toInt32, .int x2.toUInt32.toUInt16.toUInt32.toInt32, .int x3.toUInt32.toUInt16.toUInt32.toInt32, .int x4.toUInt32.toUInt16.toUInt32.toInt32, .int x5.toUInt32.toUInt16.toUInt32.toInt32, .int x6.toUInt32.toUInt16.toUInt32.toInt32])], 0, 0)) rfl ?_
    refine EW.call (Qc := fun r => r = (none, [B0, B1, B2, B3, B4, B5, B6, .inl (.char, v8), .inl (.char, [.int x0, .int x1, .int x2, .int x3, .int x4, .int x5, .int x6]), .inr (0, [(0, .ref 11), (1, .int (0 : Int32))]), .inl (.char, [.int x0.toUInt32.toUInt16.toUInt32.toInt32, .int x1.toUInt32.toUInt16.toUInt32.toInt32, .int x2.toUInt32.toUInt16.toUInt32.toInt32, .int x3.toUInt32.toUInt16.toUInt32.toInt32, .int x4.toUInt32.toUInt16.toUInt32.toInt32, .int x5.toUInt32.toUInt16.toUInt32.toInt32, .int x6.toUInt32.toUInt16.toUInt32.toInt32]), .inl (.byte, [.int x0.toUInt32.toUInt16.toUInt32.toInt32.toInt8.toInt32.toInt8.toInt32, .int x1.toUInt32.toUInt16.toUInt32.toInt32.toInt8.toInt32.toInt8.toInt32, .int x2.toUInt32.toUInt16.toUInt32.toInt32.toInt8.toInt32.toInt8.toInt32, .int x3.toUInt32.toUInt16.toUInt32.toInt32.toInt8.toInt32.toInt8.toInt32, .int x4.toUInt32.toUInt16.toUInt32.toInt32.toInt8.toInt32.toInt8.toInt32, .int x5.toUInt32.toUInt16.toUInt32.toInt32.toInt8.toInt32.toInt8.toInt32, .int x6.toUInt32.toUInt16.toUInt32.toInt32.toInt8.toInt32.toInt8.toInt32])], 1, 7)) rfl ?_ ?_
    · show EW _ _ _ _ _ ((0, [.val (.ref 9), .val (.ref 10), .val (.int (0 : Int32)), .val (.int (7 : Int32)), .val (.null), .unset], []), [B0, B1, B2, B3, B4, B5, B6, .inl (.char, v8), .inl (.char, [.int x0, .int x1, .int x2, .int x3, .int x4, .int x5, .int x6]), .inr (0, [(0, .null), (1, .int (0 : Int32))]), .inl (.char, [.int x0.toUInt32.toUInt16.toUInt32.toInt32, .int x1.toUInt32.toUInt16.toUInt32.toInt32, .int x2.toUInt32.toUInt16.toUInt32.toInt32, .int x3.toUInt32.toUInt16.toUInt32.toInt32, .int x4.toUInt32.toUInt16.toUInt32.toInt32, .int x5.toUInt32.toUInt16.toUInt32.toInt32, .int x6.toUInt32.toUInt16.toUInt32.toInt32])], 0, 0)
      refine EW.run 5 (cf' := ((30, [.val (.ref 9), .val (.ref 10), .val (.int (0 : Int32)), .val (.int (7 : Int32)), .val (.null), .unset], [.int cs]), [B0, B1, B2, B3, B4, B5, B6, .inl (.char, v8), .inl (.char, [.int x0, .int x1, .int x2, .int x3, .int x4, .int x5, .int x6]), .inr (0, [(0, .null), (1, .int (0 : Int32))]), .inl (.char, [.int x0.toUInt32.toUInt16.toUInt32.toInt32, .int x1.toUInt32.toUInt16.toUInt32.toInt32, .int x2.toUInt32.toUInt16.toUInt32.toInt32, .int x3.toUInt32.toUInt16.toUInt32.toInt32, .int x4.toUInt32.toUInt16.toUInt32.toInt32, .int x5.toUInt32.toUInt16.toUInt32.toInt32, .int x6.toUInt32.toUInt16.toUInt32.toInt32])], 0, 0)) rfl ?_
      refine EW.ifP rfl (by decide) (fun h => ?_) (fun h => ?_)
      · exfalso; simp only [cP] at h; omega
      · have h1 : cs.toInt ≠ 0 := by simp only [cP] at h; omega
        clear h
        show EW _ _ _ _ _ ((33, [.val (.ref 9), .val (.ref 10), .val (.int (0 : Int32)), .val (.int (7 : Int32)), .val (.null), .unset], []), [B0, B1, B2, B3, B4, B5, B6, .inl (.char, v8), .inl (.char, [.int x0, .int x1, .int x2, .int x3, .int x4, .int x5, .int x6]), .inr (0, [(0, .null), (1, .int (0 : Int32))]), .inl (.char, [.int x0.toUInt32.toUInt16.toUInt32.toInt32, .int x1.toUInt32.toUInt16.toUInt32.toInt32, .int x2.toUInt32.toUInt16.toUInt32.toInt32, .int x3.toUInt32.toUInt16.toUInt32.toInt32, .int x4.toUInt32.toUInt16.toUInt32.toInt32, .int x5.toUInt32.toUInt16.toUInt32.toInt32, .int x6.toUInt32.toUInt16.toUInt32.toInt32])], 0, 0)
        refine EW.run 3 (cf' := ((36, [.val (.ref 9), .val (.ref 10), .val (.int (0 : Int32)), .val (.int (7 : Int32)), .val (.null), .unset], [.int (7 : Int32), .int (0 : Int32), .ref 10]), [B0, B1, B2, B3, B4, B5, B6, .inl (.char, v8), .inl (.char, [.int x0, .int x1, .int x2, .int x3, .int x4, .int x5, .int x6]), .inr (0, [(0, .null), (1, .int (0 : Int32))]), .inl (.char, [.int x0.toUInt32.toUInt16.toUInt32.toInt32, .int x1.toUInt32.toUInt16.toUInt32.toInt32, .int x2.toUInt32.toUInt16.toUInt32.toInt32, .int x3.toUInt32.toUInt16.toUInt32.toInt32, .int x4.toUInt32.toUInt16.toUInt32.toInt32, .int x5.toUInt32.toUInt16.toUInt32.toInt32, .int x6.toUInt32.toUInt16.toUInt32.toInt32])], 0, 0)) rfl ?_
        refine EW.call (Qc := fun r => r = (some (.ref 11), [B0, B1, B2, B3, B4, B5, B6, .inl (.char, v8), .inl (.char, [.int x0, .int x1, .int x2, .int x3, .int x4, .int x5, .int x6]), .inr (0, [(0, .null), (1, .int (0 : Int32))]), .inl (.char, [.int x0.toUInt32.toUInt16.toUInt32.toInt32, .int x1.toUInt32.toUInt16.toUInt32.toInt32, .int x2.toUInt32.toUInt16.toUInt32.toInt32, .int x3.toUInt32.toUInt16.toUInt32.toInt32, .int x4.toUInt32.toUInt16.toUInt32.toInt32, .int x5.toUInt32.toUInt16.toUInt32.toInt32, .int x6.toUInt32.toUInt16.toUInt32.toInt32]), .inl (.byte, [.int x0.toUInt32.toUInt16.toUInt32.toInt32.toInt8.toInt32.toInt8.toInt32, .int x1.toUInt32.toUInt16.toUInt32.toInt32.toInt8.toInt32.toInt8.toInt32, .int x2.toUInt32.toUInt16.toUInt32.toInt32.toInt8.toInt32.toInt8.toInt32, .int x3.toUInt32.toUInt16.toUInt32.toInt32.toInt8.toInt32.toInt8.toInt32, .int x4.toUInt32.toUInt16.toUInt32.toInt32.toInt8.toInt32.toInt8.toInt32, .int x5.toUInt32.toUInt16.toUInt32.toInt32.toInt8.toInt32.toInt8.toInt32, .int x6.toUInt32.toUInt16.toUInt32.toInt32.toInt8.toInt32.toInt8.toInt32])], 1, 7)) rfl ?_ ?_
        · show EW _ _ _ _ _ ((0, [.val (.ref 10), .val (.int (0 : Int32)), .val (.int (7 : Int32)), .unset, .unset, .unset], []), [B0, B1, B2, B3, B4, B5, B6, .inl (.char, v8), .inl (.char, [.int x0, .int x1, .int x2, .int x3, .int x4, .int x5, .int x6]), .inr (0, [(0, .null), (1, .int (0 : Int32))]), .inl (.char, [.int x0.toUInt32.toUInt16.toUInt32.toInt32, .int x1.toUInt32.toUInt16.toUInt32.toInt32, .int x2.toUInt32.toUInt16.toUInt32.toInt32, .int x3.toUInt32.toUInt16.toUInt32.toInt32, .int x4.toUInt32.toUInt16.toUInt32.toInt32, .int x5.toUInt32.toUInt16.toUInt32.toInt32, .int x6.toUInt32.toUInt16.toUInt32.toInt32])], 0, 0)
          refine EW.run 6 (cf' := ((7, [.val (.ref 10), .val (.int (0 : Int32)), .val (.int (7 : Int32)), .val (.ref 11), .unset, .unset], [.ref 11, .int (0 : Int32), .ref 10]), [B0, B1, B2, B3, B4, B5, B6, .inl (.char, v8), .inl (.char, [.int x0, .int x1, .int x2, .int x3, .int x4, .int x5, .int x6]), .inr (0, [(0, .null), (1, .int (0 : Int32))]), .inl (.char, [.int x0.toUInt32.toUInt16.toUInt32.toInt32, .int x1.toUInt32.toUInt16.toUInt32.toInt32, .int x2.toUInt32.toUInt16.toUInt32.toInt32, .int x3.toUInt32.toUInt16.toUInt32.toInt32, .int x4.toUInt32.toUInt16.toUInt32.toInt32, .int x5.toUInt32.toUInt16.toUInt32.toInt32, .int x6.toUInt32.toUInt16.toUInt32.toInt32]), .inl (.byte, [.int (0 : Int32), .int (0 : Int32), .int (0 : Int32), .int (0 : Int32), .int (0 : Int32), .int (0 : Int32), .int (0 : Int32)])], 1, 7)) rfl ?_
          refine EW.run 2 (cf' := ((9, [.val (.ref 10), .val (.int (0 : Int32)), .val (.int (7 : Int32)), .val (.ref 11), .unset, .unset], [.int (7 : Int32), .int (0 : Int32), .ref 11, .int (0 : Int32), .ref 10]), [B0, B1, B2, B3, B4, B5, B6, .inl (.char, v8), .inl (.char, [.int x0, .int x1, .int x2, .int x3, .int x4, .int x5, .int x6]), .inr (0, [(0, .null), (1, .int (0 : Int32))]), .inl (.char, [.int x0.toUInt32.toUInt16.toUInt32.toInt32, .int x1.toUInt32.toUInt16.toUInt32.toInt32, .int x2.toUInt32.toUInt16.toUInt32.toInt32, .int x3.toUInt32.toUInt16.toUInt32.toInt32, .int x4.toUInt32.toUInt16.toUInt32.toInt32, .int x5.toUInt32.toUInt16.toUInt32.toInt32, .int x6.toUInt32.toUInt16.toUInt32.toInt32]), .inl (.byte, [.int (0 : Int32), .int (0 : Int32), .int (0 : Int32), .int (0 : Int32), .int (0 : Int32), .int (0 : Int32), .int (0 : Int32)])], 1, 7)) rfl ?_
          refine EW.call (Qc := fun r => r = (some (.int (7 : Int32)), [B0, B1, B2, B3, B4, B5, B6, .inl (.char, v8), .inl (.char, [.int x0, .int x1, .int x2, .int x3, .int x4, .int x5, .int x6]), .inr (0, [(0, .null), (1, .int (0 : Int32))]), .inl (.char, [.int x0.toUInt32.toUInt16.toUInt32.toInt32, .int x1.toUInt32.toUInt16.toUInt32.toInt32, .int x2.toUInt32.toUInt16.toUInt32.toInt32, .int x3.toUInt32.toUInt16.toUInt32.toInt32, .int x4.toUInt32.toUInt16.toUInt32.toInt32, .int x5.toUInt32.toUInt16.toUInt32.toInt32, .int x6.toUInt32.toUInt16.toUInt32.toInt32]), .inl (.byte, [.int x0.toUInt32.toUInt16.toUInt32.toInt32.toInt8.toInt32.toInt8.toInt32, .int x1.toUInt32.toUInt16.toUInt32.toInt32.toInt8.toInt32.toInt8.toInt32, .int x2.toUInt32.toUInt16.toUInt32.toInt32.toInt8.toInt32.toInt8.toInt32, .int x3.toUInt32.toUInt16.toUInt32.toInt32.toInt8.toInt32.toInt8.toInt32, .int x4.toUInt32.toUInt16.toUInt32.toInt32.toInt8.toInt32.toInt8.toInt32, .int x5.toUInt32.toUInt16.toUInt32.toInt32.toInt8.toInt32.toInt8.toInt32, .int x6.toUInt32.toUInt16.toUInt32.toInt32.toInt8.toInt32.toInt8.toInt32])], 0, 0)) rfl ?_ ?_
          · show EW _ _ _ _ _ ((0, [.val (.ref 10), .val (.int (0 : Int32)), .val (.ref 11), .val (.int (0 : Int32)), .val (.int (7 : Int32)), .unset, .unset], []), [B0, B1, B2, B3, B4, B5, B6, .inl (.char, v8), .inl (.char, [.int x0, .int x1, .int x2, .int x3, .int x4, .int x5, .int x6]), .inr (0, [(0, .null), (1, .int (0 : Int32))]), .inl (.char, [.int x0.toUInt32.toUInt16.toUInt32.toInt32, .int x1.toUInt32.toUInt16.toUInt32.toInt32, .int x2.toUInt32.toUInt16.toUInt32.toInt32, .int x3.toUInt32.toUInt16.toUInt32.toInt32, .int x4.toUInt32.toUInt16.toUInt32.toInt32, .int x5.toUInt32.toUInt16.toUInt32.toInt32, .int x6.toUInt32.toUInt16.toUInt32.toInt32]), .inl (.byte, [.int (0 : Int32), .int (0 : Int32), .int (0 : Int32), .int (0 : Int32), .int (0 : Int32), .int (0 : Int32), .int (0 : Int32)])], 0, 0)
            refine EW.run 6 (cf' := ((11, [.val (.ref 10), .val (.int (0 : Int32)), .val (.ref 11), .val (.int (0 : Int32)), .val (.int (7 : Int32)), .val (.int (0 : Int32)), .unset], [.ref 10]), [B0, B1, B2, B3, B4, B5, B6, .inl (.char, v8), .inl (.char, [.int x0, .int x1, .int x2, .int x3, .int x4, .int x5, .int x6]), .inr (0, [(0, .null), (1, .int (0 : Int32))]), .inl (.char, [.int x0.toUInt32.toUInt16.toUInt32.toInt32, .int x1.toUInt32.toUInt16.toUInt32.toInt32, .int x2.toUInt32.toUInt16.toUInt32.toInt32, .int x3.toUInt32.toUInt16.toUInt32.toInt32, .int x4.toUInt32.toUInt16.toUInt32.toInt32, .int x5.toUInt32.toUInt16.toUInt32.toInt32, .int x6.toUInt32.toUInt16.toUInt32.toInt32]), .inl (.byte, [.int (0 : Int32), .int (0 : Int32), .int (0 : Int32), .int (0 : Int32), .int (0 : Int32), .int (0 : Int32), .int (0 : Int32)])], 0, 0)) rfl ?_
            refine EW.run 5 (cf' := ((20, [.val (.ref 10), .val (.int (0 : Int32)), .val (.ref 11), .val (.int (0 : Int32)), .val (.int (7 : Int32)), .val (.int (0 : Int32)), .val (.int x0.toUInt32.toUInt16.toUInt32.toInt32)], [.int (255 : Int32), .int x0.toUInt32.toUInt16.toUInt32.toInt32]), [B0, B1, B2, B3, B4, B5, B6, .inl (.char, v8), .inl (.char, [.int x0, .int x1, .int x2, .int x3, .int x4, .int x5, .int x6]), .inr (0, [(0, .null), (1, .int (0 : Int32))]), .inl (.char, [.int x0.toUInt32.toUInt16.toUInt32.toInt32, .int x1.toUInt32.toUInt16.toUInt32.toInt32, .int x2.toUInt32.toUInt16.toUInt32.toInt32, .int x3.toUInt32.toUInt16.toUInt32.toInt32, .int x4.toUInt32.toUInt16.toUInt32.toInt32, .int x5.toUInt32.toUInt16.toUInt32.toInt32, .int x6.toUInt32.toUInt16.toUInt32.toInt32]), .inl (.byte, [.int (0 : Int32), .int (0 : Int32), .int (0 : Int32), .int (0 : Int32), .int (0 : Int32), .int (0 : Int32), .int (0 : Int32)])], 0, 0)) rfl ?_
            refine EW.icmpP rfl (by decide) (fun h => ?_) (fun h => ?_)
            · have h2 : x0.toUInt32.toUInt16.toUInt32.toInt32.toInt ≤ (255 : Int32).toInt := by simp only [cP] at h; omega
              clear h
              show EW _ _ _ _ _ ((26, [.val (.ref 10), .val (.int (0 : Int32)), .val (.ref 11), .val (.int (0 : Int32)), .val (.int (7 : Int32)), .val (.int (0 : Int32)), .val (.int x0.toUInt32.toUInt16.toUInt32.toInt32)], []), [B0, B1, B2, B3, B4, B5, B6, .inl (.char, v8), .inl (.char, [.int x0, .int x1, .int x2, .int x3, .int x4, .int x5, .int x6]), .inr (0, [(0, .null), (1, .int (0 : Int32))]), .inl (.char, [.int x0.toUInt32.toUInt16.toUInt32.toInt32, .int x1.toUInt32.toUInt16.toUInt32.toInt32, .int x2.toUInt32.toUInt16.toUInt32.toInt32, .int x3.toUInt32.toUInt16.toUInt32.toInt32, .int x4.toUInt32.toUInt16.toUInt32.toInt32, .int x5.toUInt32.toUInt16.toUInt32.toInt32, .int x6.toUInt32.toUInt16.toUInt32.toInt32]), .inl (.byte, [.int (0 : Int32), .int (0 : Int32), .int (0 : Int32), .int (0 : Int32), .int (0 : Int32), .int (0 : Int32), .int (0 : Int32)])], 0, 0)
              refine EW.run 6 (cf' := ((35, [.val (.ref 10), .val (.int (1 : Int32)), .val (.ref 11), .val (.int (0 : Int32)), .val (.int (7 : Int32)), .val (.int (0 : Int32)), .val (.int x0.toUInt32.toUInt16.toUInt32.toInt32)], []), [B0, B1, B2, B3, B4, B5, B6, .inl (.char, v8), .inl (.char, [.int x0, .int x1, .int x2, .int x3, .int x4, .int x5, .int x6]), .inr (0, [(0, .null), (1, .int (0 : Int32))]), .inl (.char, [.int x0.toUInt32.toUInt16.toUInt32.toInt32, .int x1.toUInt32.toUInt16.toUInt32.toInt32, .int x2.toUInt32.toUInt16.toUInt32.toInt32, .int x3.toUInt32.toUInt16.toUInt32.toInt32, .int x4.toUInt32.toUInt16.toUInt32.toInt32, .int x5.toUInt32.toUInt16.toUInt32.toInt32, .int x6.toUInt32.toUInt16.toUInt32.toInt32]), .inl (.byte, [.int x0.toUInt32.toUInt16.toUInt32.toInt32.toInt8.toInt32.toInt8.toInt32, .int (0 : Int32), .int (0 : Int32), .int (0 : Int32), .int (0 : Int32), .int (0 : Int32), .int (0 : Int32)])], 0, 0)) rfl ?_
              refine EW.run 6 (cf' := ((10, [.val (.ref 10), .val (.int (1 : Int32)), .val (.ref 11), .val (.int (1 : Int32)), .val (.int (7 : Int32)), .val (.int (1 : Int32)), .val (.int x0.toUInt32.toUInt16.toUInt32.toInt32)], []), [B0, B1, B2, B3, B4, B5, B6, .inl (.char, v8), .inl (.char, [.int x0, .int x1, .int x2, .int x3, .int x4, .int x5, .int x6]), .inr (0, [(0, .null), (1, .int (0 : Int32))]), .inl (.char, [.int x0.toUInt32.toUInt16.toUInt32.toInt32, .int x1.toUInt32.toUInt16.toUInt32.toInt32, .int x2.toUInt32.toUInt16.toUInt32.toInt32, .int x3.toUInt32.toUInt16.toUInt32.toInt32, .int x4.toUInt32.toUInt16.toUInt32.toInt32, .int x5.toUInt32.toUInt16.toUInt32.toInt32, .int x6.toUInt32.toUInt16.toUInt32.toInt32]), .inl (.byte, [.int x0.toUInt32.toUInt16.toUInt32.toInt32.toInt8.toInt32.toInt8.toInt32, .int (0 : Int32), .int (0 : Int32), .int (0 : Int32), .int (0 : Int32), .int (0 : Int32), .int (0 : Int32)])], 0, 0)) rfl ?_
              refine EW.run 6 (cf' := ((20, [.val (.ref 10), .val (.int (1 : Int32)), .val (.ref 11), .val (.int (1 : Int32)), .val (.int (7 : Int32)), .val (.int (1 : Int32)), .val (.int x1.toUInt32.toUInt16.toUInt32.toInt32)], [.int (255 : Int32), .int x1.toUInt32.toUInt16.toUInt32.toInt32]), [B0, B1, B2, B3, B4, B5, B6, .inl (.char, v8), .inl (.char, [.int x0, .int x1, .int x2, .int x3, .int x4, .int x5, .int x6]), .inr (0, [(0, .null), (1, .int (0 : Int32))]), .inl (.char, [.int x0.toUInt32.toUInt16.toUInt32.toInt32, .int x1.toUInt32.toUInt16.toUInt32.toInt32, .int x2.toUInt32.toUInt16.toUInt32.toInt32, .int x3.toUInt32.toUInt16.toUInt32.toInt32, .int x4.toUInt32.toUInt16.toUInt32.toInt32, .int x5.toUInt32.toUInt16.toUInt32.toInt32, .int x6.toUInt32.toUInt16.toUInt32.toInt32]), .inl (.byte, [.int x0.toUInt32.toUInt16.toUInt32.toInt32.toInt8.toInt32.toInt8.toInt32, .int (0 : Int32), .int (0 : Int32), .int (0 : Int32), .int (0 : Int32), .int (0 : Int32), .int (0 : Int32)])], 0, 0)) rfl ?_
              refine EW.icmpP rfl (by decide) (fun h => ?_) (fun h => ?_)
              · have h3 : x1.toUInt32.toUInt16.toUInt32.toInt32.toInt ≤ (255 : Int32).toInt := by simp only [cP] at h; omega
                clear h
                show EW _ _ _ _ _ ((26, [.val (.ref 10), .val (.int (1 : Int32)), .val (.ref 11), .val (.int (1 : Int32)), .val (.int (7 : Int32)), .val (.int (1 : Int32)), .val (.int x1.toUInt32.toUInt16.toUInt32.toInt32)], []), [B0, B1, B2, B3, B4, B5, B6, .inl (.char, v8), .inl (.char, [.int x0, .int x1, .int x2, .int x3, .int x4, .int x5, .int x6]), .inr (0, [(0, .null), (1, .int (0 : Int32))]), .inl (.char, [.int x0.toUInt32.toUInt16.toUInt32.toInt32, .int x1.toUInt32.toUInt16.toUInt32.toInt32, .int x2.toUInt32.toUInt16.toUInt32.toInt32, .int x3.toUInt32.toUInt16.toUInt32.toInt32, .int x4.toUInt32.toUInt16.toUInt32.toInt32, .int x5.toUInt32.toUInt16.toUInt32.toInt32, .int x6.toUInt32.toUInt16.toUInt32.toInt32]), .inl (.byte, [.int x0.toUInt32.toUInt16.toUInt32.toInt32.toInt8.toInt32.toInt8.toInt32, .int (0 : Int32), .int (0 : Int32), .int (0 : Int32), .int (0 : Int32), .int (0 : Int32), .int (0 : Int32)])], 0, 0)
                refine EW.run 6 (cf' := ((35, [.val (.ref 10), .val (.int (2 : Int32)), .val (.ref 11), .val (.int (1 : Int32)), .val (.int (7 : Int32)), .val (.int (1 : Int32)), .val (.int x1.toUInt32.toUInt16.toUInt32.toInt32)], []), [B0, B1, B2, B3, B4, B5, B6, .inl (.char, v8), .inl (.char, [.int x0, .int x1, .int x2, .int x3, .int x4, .int x5, .int x6]), .inr (0, [(0, .null), (1, .int (0 : Int32))]), .inl (.char, [.int x0.toUInt32.toUInt16.toUInt32.toInt32, .int x1.toUInt32.toUInt16.toUInt32.toInt32, .int x2.toUInt32.toUInt16.toUInt32.toInt32, .int x3.toUInt32.toUInt16.toUInt32.toInt32, .int x4.toUInt32.toUInt16.toUInt32.toInt32, .int x5.toUInt32.toUInt16.toUInt32.toInt32, .int x6.toUInt32.toUInt16.toUInt32.toInt32]), .inl (.byte, [.int x0.toUInt32.toUInt16.toUInt32.toInt32.toInt8.toInt32.toInt8.toInt32, .int x1.toUInt32.toUInt16.toUInt32.toInt32.toInt8.toInt32.toInt8.toInt32, .int (0 : Int32), .int (0 : Int32), .int (0 : Int32), .int (0 : Int32), .int (0 : Int32)])], 0, 0)) rfl ?_
                refine EW.run 6 (cf' := ((10, [.val (.ref 10), .val (.int (2 : Int32)), .val (.ref 11), .val (.int (2 : Int32)), .val (.int (7 : Int32)), .val (.int (2 : Int32)), .val (.int x1.toUInt32.toUInt16.toUInt32.toInt32)], []), [B0, B1, B2, B3, B4, B5, B6, .inl (.char, v8), .inl (.char, [.int x0, .int x1, .int x2, .int x3, .int x4, .int x5, .int x6]), .inr (0, [(0, .null), (1, .int (0 : Int32))]), .inl (.char, [.int x0.toUInt32.toUInt16.toUInt32.toInt32, .int x1.toUInt32.toUInt16.toUInt32.toInt32, .int x2.toUInt32.toUInt16.toUInt32.toInt32, .int x3.toUInt32.toUInt16.toUInt32.toInt32, .int x4.toUInt32.toUInt16.toUInt32.toInt32, .int x5.toUInt32.toUInt16.toUInt32.toInt32, .int x6.toUInt32.toUInt16.toUInt32.toInt32]), .inl (.byte, [.int x0.toUInt32.toUInt16.toUInt32.toInt32.toInt8.toInt32.toInt8.toInt32, .int x1.toUInt32.toUInt16.toUInt32.toInt32.toInt8.toInt32.toInt8.toInt32, .int (0 : Int32), .int (0 : Int32), .int (0 : Int32), .int (0 : Int32), .int (0 : Int32)])], 0, 0)) rfl ?_
                refine EW.run 6 (cf' := ((20, [.val (.ref 10), .val (.int (2 : Int32)), .val (.ref 11), .val (.int (2 : Int32)), .val (.int (7 : Int32)), .val (.int (2 : Int32)), .val (.int x2.toUInt32.toUInt16.toUInt32.toInt32)], [.int (255 : Int32), .int x2.toUInt32.toUInt16.toUInt32.toInt32]), [B0, B1, B2, B3, B4, B5, B6, .inl (.char, v8), .inl (.char, [.int x0, .int x1, .int x2, .int x3, .int x4, .int x5, .int x6]), .inr (0, [(0, .null), (1, .int (0 : Int32))]), .inl (.char, [.int x0.toUInt32.toUInt16.toUInt32.toInt32, .int x1.toUInt32.toUInt16.toUInt32.toInt32, .int x2.toUInt32.toUInt16.toUInt32.toInt32, .int x3.toUInt32.toUInt16.toUInt32.toInt32, .int x4.toUInt32.toUInt16.toUInt32.toInt32, .int x5.toUInt32.toUInt16.toUInt32.toInt32, .int x6.toUInt32.toUInt16.toUInt32.toInt32]), .inl (.byte, [.int x0.toUInt32.toUInt16.toUInt32.toInt32.toInt8.toInt32.toInt8.toInt32, .int x1.toUInt32.toUInt16.toUInt32.toInt32.toInt8.toInt32.toInt8.toInt32, .int (0 : Int32), .int (0 : Int32), .int (0 : Int32), .int (0 : Int32), .int (0 : Int32)])], 0, 0)) rfl ?_
                refine EW.icmpP rfl (by decide) (fun h => ?_) (fun h => ?_)
                · have h4 : x2.toUInt32.toUInt16.toUInt32.toInt32.toInt ≤ (255 : Int32).toInt := by simp only [cP] at h; omega
                  clear h
                  show EW _ _ _ _ _ ((26, [.val (.ref 10), .val (.int (2 : Int32)), .val (.ref 11), .val (.int (2 : Int32)), .val (.int (7 : Int32)), .val (.int (2 : Int32)), .val (.int x2.toUInt32.toUInt16.toUInt32.toInt32)], []), [B0, B1, B2, B3, B4, B5, B6, .inl (.char, v8), .inl (.char, [.int x0, .int x1, .int x2, .int x3, .int x4, .int x5, .int x6]), .inr (0, [(0, .null), (1, .int (0 : Int32))]), .inl (.char, [.int x0.toUInt32.toUInt16.toUInt32.toInt32, .int x1.toUInt32.toUInt16.toUInt32.toInt32, .int x2.toUInt32.toUInt16.toUInt32.toInt32, .int x3.toUInt32.toUInt16.toUInt32.toInt32, .int x4.toUInt32.toUInt16.toUInt32.toInt32, .int x5.toUInt32.toUInt16.toUInt32.toInt32, .int x6.toUInt32.toUInt16.toUInt32.toInt32]), .inl (.byte, [.int x0.toUInt32.toUInt16.toUInt32.toInt32.toInt8.toInt32.toInt8.toInt32, .int x1.toUInt32.toUInt16.toUInt32.toInt32.toInt8.toInt32.toInt8.toInt32, .int (0 : Int32), .int (0 : Int32), .int (0 : Int32), .int (0 : Int32), .int (0 : Int32)])], 0, 0)
                  refine EW.run 6 (cf' := ((35, [.val (.ref 10), .val (.int (3 : Int32)), .val (.ref 11), .val (.int (2 : Int32)), .val (.int (7 : Int32)), .val (.int (2 : Int32)), .val (.int x2.toUInt32.toUInt16.toUInt32.toInt32)], []), [B0, B1, B2, B3, B4, B5, B6, .inl (.char, v8), .inl (.char, [.int x0, .int x1, .int x2, .int x3, .int x4, .int x5, .int x6]), .inr (0, [(0, .null), (1, .int (0 : Int32))]), .inl (.char, [.int x0.toUInt32.toUInt16.toUInt32.toInt32, .int x1.toUInt32.toUInt16.toUInt32.toInt32, .int x2.toUInt32.toUInt16.toUInt32.toInt32, .int x3.toUInt32.toUInt16.toUInt32.toInt32, .int x4.toUInt32.toUInt16.toUInt32.toInt32, .int x5.toUInt32.toUInt16.toUInt32.toInt32, .int x6.toUInt32.toUInt16.toUInt32.toInt32]), .inl (.byte, [.int x0.toUInt32.toUInt16.toUInt32.toInt32.toInt8.toInt32.toInt8.toInt32, .int x1.toUInt32.toUInt16.toUInt32.toInt32.toInt8.toInt32.toInt8.toInt32, .int x2.toUInt32.toUInt16.toUInt32.toInt32.toInt8.toInt32.toInt8.toInt32, .int (0 : Int32), .int (0 : Int32), .int (0 : Int32), .int (0 : Int32)])], 0, 0)) rfl ?_
                  refine EW.run 6 (cf' := ((10, [.val (.ref 10), .val (.int (3 : Int32)), .val (.ref 11), .val (.int (3 : Int32)), .val (.int (7 : Int32)), .val (.int (3 : Int32)), .val (.int x2.toUInt32.toUInt16.toUInt32.toInt32)], []), [B0, B1, B2, B3, B4, B5, B6, .inl (.char, v8), .inl (.char, [.int x0, .int x1, .int x2, .int x3, .int x4, .int x5, .int x6]), .inr (0, [(0, .null), (1, .int (0 : Int32))]), .inl (.char, [.int x0.toUInt32.toUInt16.toUInt32.toInt32, .int x1.toUInt32.toUInt16.toUInt32.toInt32, .int x2.toUInt32.toUInt16.toUInt32.toInt32, .int x3.toUInt32.toUInt16.toUInt32.toInt32, .int x4.toUInt32.toUInt16.toUInt32.toInt32, .int x5.toUInt32.toUInt16.toUInt32.toInt32, .int x6.toUInt32.toUInt16.toUInt32.toInt32]), .inl (.byte, [.int x0.toUInt32.toUInt16.toUInt32.toInt32.toInt8.toInt32.toInt8.toInt32, .int x1.toUInt32.toUInt16.toUInt32.toInt32.toInt8.toInt32.toInt8.toInt32, .int x2.toUInt32.toUInt16.toUInt32.toInt32.toInt8.toInt32.toInt8.toInt32, .int (0 : Int32), .int (0 : Int32), .int (0 : Int32), .int (0 : Int32)])], 0, 0)) rfl ?_
                  refine EW.run 6 (cf' := ((20, [.val (.ref 10), .val (.int (3 : Int32)), .val (.ref 11), .val (.int (3 : Int32)), .val (.int (7 : Int32)), .val (.int (3 : Int32)), .val (.int x3.toUInt32.toUInt16.toUInt32.toInt32)], [.int (255 : Int32), .int x3.toUInt32.toUInt16.toUInt32.toInt32]), [B0, B1, B2, B3, B4, B5, B6, .inl (.char, v8), .inl (.char, [.int x0, .int x1, .int x2, .int x3, .int x4, .int x5, .int x6]), .inr (0, [(0, .null), (1, .int (0 : Int32))]), .inl (.char, [.int x0.toUInt32.toUInt16.toUInt32.toInt32, .int x1.toUInt32.toUInt16.toUInt32.toInt32, .int x2.toUInt32.toUInt16.toUInt32.toInt32, .int x3.toUInt32.toUInt16.toUInt32.toInt32, .int x4.toUInt32.toUInt16.toUInt32.toInt32, .int x5.toUInt32.toUInt16.toUInt32.toInt32, .int x6.toUInt32.toUInt16.toUInt32.toInt32]), .inl (.byte, [.int x0.toUInt32.toUInt16.toUInt32.toInt32.toInt8.toInt32.toInt8.toInt32, .int x1.toUInt32.toUInt16.toUInt32.toInt32.toInt8.toInt32.toInt8.toInt32, .int x2.toUInt32.toUInt16.toUInt32.toInt32.toInt8.toInt32.toInt8.toInt32, .int (0 : Int32), .int (0 : Int32), .int (0 : Int32), .int (0 : Int32)])], 0, 0)) rfl ?_
                  refine EW.icmpP rfl (by decide) (fun h => ?_) (fun h => ?_)
                  · have h5 : x3.toUInt32.toUInt16.toUInt32.toInt32.toInt ≤ (255 : Int32).toInt := by simp only [cP] at h; omega
                    clear h
                    show EW _ _ _ _ _ ((26, [.val (.ref 10), .val (.int (3 : Int32)), .val (.ref 11), .val (.int (3 : Int32)), .val (.int (7 : Int32)), .val (.int (3 : Int32)), .val (.int x3.toUInt32.toUInt16.toUInt32.toInt32)], []), [B0, B1, B2, B3, B4, B5, B6, .inl (.char, v8), .inl (.char, [.int x0, .int x1, .int x2, .int x3, .int x4, .int x5, .int x6]), .inr (0, [(0, .null), (1, .int (0 : Int32))]), .inl (.char, [.int x0.toUInt32.toUInt16.toUInt32.toInt32, .int x1.toUInt32.toUInt16.toUInt32.toInt32, .int x2.toUInt32.toUInt16.toUInt32.toInt32, .int x3.toUInt32.toUInt16.toUInt32.toInt32, .int x4.toUInt32.toUInt16.toUInt32.toInt32, .int x5.toUInt32.toUInt16.toUInt32.toInt32, .int x6.toUInt32.toUInt16.toUInt32.toInt32]), .inl (.byte, [.int x0.toUInt32.toUInt16.toUInt32.toInt32.toInt8.toInt32.toInt8.toInt32, .int x1.toUInt32.toUInt16.toUInt32.toInt32.toInt8.toInt32.toInt8.toInt32, .int x2.toUInt32.toUInt16.toUInt32.toInt32.toInt8.toInt32.toInt8.toInt32, .int (0 : Int32), .int (0 : Int32), .int (0 : Int32), .int (0 : Int32)])], 0, 0)
                    refine EW.run 6 (cf' := ((35, [.val (.ref 10), .val (.int (4 : Int32)), .val (.ref 11), .val (.int (3 : Int32)), .val (.int (7 : Int32)), .val (.int (3 : Int32)), .val (.int x3.toUInt32.toUInt16.toUInt32.toInt32)], []), [B0, B1, B2, B3, B4, B5, B6, .inl (.char, v8), .inl (.char, [.int x0, .int x1, .int x2, .int x3, .int x4, .int x5, .int x6]), .inr (0, [(0, .null), (1, .int (0 : Int32))]), .inl (.char, [.int x0.toUInt32.toUInt16.toUInt32.toInt32, .int x1.toUInt32.toUInt16.toUInt32.toInt32, .int x2.toUInt32.toUInt16.toUInt32.toInt32, .int x3.toUInt32.toUInt16.toUInt32.toInt32, .int x4.toUInt32.toUInt16.toUInt32.toInt32, .int x5.toUInt32.toUInt16.toUInt32.toInt32, .int x6.toUInt32.toUInt16.toUInt32.toInt32]), .inl (.byte, [.int x0.toUInt32.toUInt16.toUInt32.toInt32.toInt8.toInt32.toInt8.toInt32, .int x1.toUInt32.toUInt16.toUInt32.toInt32.toInt8.toInt32.toInt8.toInt32, .int x2.toUInt32.toUInt16.toUInt32.toInt32.toInt8.toInt32.toInt8.toInt32, .int x3.toUInt32.toUInt16.toUInt32.toInt32.toInt8.toInt32.toInt8.toInt32, .int (0 : Int32), .int (0 : Int32), .int (0 : Int32)])], 0, 0)) rfl ?_
                    refine EW.run 6 (cf' := ((10, [.val (.ref 10), .val (.int (4 : Int32)), .val (.ref 11), .val (.int (4 : Int32)), .val (.int (7 : Int32)), .val (.int (4 : Int32)), .val (.int x3.toUInt32.toUInt16.toUInt32.toInt32)], []), [B0, B1, B2, B3, B4, B5, B6, .inl (.char, v8), .inl (.char, [.int x0, .int x1, .int x2, .int x3, .int x4, .int x5, .int x6]), .inr (0, [(0, .null), (1, .int (0 : Int32))]), .inl (.char, [.int x0.toUInt32.toUInt16.toUInt32.toInt32, .int x1.toUInt32.toUInt16.toUInt32.toInt32, .int x2.toUInt32.toUInt16.toUInt32.toInt32, .int x3.toUInt32.toUInt16.toUInt32.toInt32, .int x4.toUInt32.toUInt16.toUInt32.toInt32, .int x5.toUInt32.toUInt16.toUInt32.toInt32, .int x6.toUInt32.toUInt16.toUInt32.toInt32]), .inl (.byte, [.int x0.toUInt32.toUInt16.toUInt32.toInt32.toInt8.toInt32.toInt8.toInt32, .int x1.toUInt32.toUInt16.toUInt32.toInt32.toInt8.toInt32.toInt8.toInt32, .int x2.toUInt32.toUInt16.toUInt32.toInt32.toInt8.toInt32.toInt8.toInt32, .int x3.toUInt32.toUInt16.toUInt32.toInt32.toInt8.toInt32.toInt8.toInt32, .int (0 : Int32), .int (0 : Int32), .int (0 : Int32)])], 0, 0)) rfl ?_
                    refine EW.run 6 (cf' := ((20, [.val (.ref 10), .val (.int (4 : Int32)), .val (.ref 11), .val (.int (4 : Int32)), .val (.int (7 : Int32)), .val (.int (4 : Int32)), .val (.int x4.toUInt32.toUInt16.toUInt32.toInt32)], [.int (255 : Int32), .int x4.toUInt32.toUInt16.toUInt32.toInt32]), [B0, B1, B2, B3, B4, B5, B6, .inl (.char, v8), .inl (.char, [.int x0, .int x1, .int x2, .int x3, .int x4, .int x5, .int x6]), .inr (0, [(0, .null), (1, .int (0 : Int32))]), .inl (.char, [.int x0.toUInt32.toUInt16.toUInt32.toInt32, .int x1.toUInt32.toUInt16.toUInt32.toInt32, .int x2.toUInt32.toUInt16.toUInt32.toInt32, .int x3.toUInt32.toUInt16.toUInt32.toInt32, .int x4.toUInt32.toUInt16.toUInt32.toInt32, .int x5.toUInt32.toUInt16.toUInt32.toInt32, .int x6.toUInt32.toUInt16.toUInt32.toInt32]), .inl (.byte, [.int x0.toUInt32.toUInt16.toUInt32.toInt32.toInt8.toInt32.toInt8.toInt32, .int x1.toUInt32.toUInt16.toUInt32.toInt32.toInt8.toInt32.toInt8.toInt32, .int x2.toUInt32.toUInt16.toUInt32.toInt32.toInt8.toInt32.toInt8.toInt32, .int x3.toUInt32.toUInt16.toUInt32.toInt32.toInt8.toInt32.toInt8.toInt32, .int (0 : Int32), .int (0 : Int32), .int (0 : Int32)])], 0, 0)) rfl ?_
                    refine EW.icmpP rfl (by decide) (fun h => ?_) (fun h => ?_)
                    · have h6 : x4.toUInt32.toUInt16.toUInt32.toInt32.toInt ≤ (255 : Int32).toInt := by simp only [cP] at h; omega
                      clear h
                      show EW _ _ _ _ _ ((26, [.val (.ref 10), .val (.int (4 : Int32)), .val (.ref 11), .val (.int (4 : Int32)), .val (.int (7 : Int32)), .val (.int (4 : Int32)), .val (.int x4.toUInt32.toUInt16.toUInt32.toInt32)], []), [B0, B1, B2, B3, B4, B5, B6, .inl (.char, v8), .inl (.char, [.int x0, .int x1, .int x2, .int x3, .int x4, .int x5, .int x6]), .inr (0, [(0, .null), (1, .int (0 : Int32))]), .inl (.char, [.int x0.toUInt32.toUInt16.toUInt32.toInt32, .int x1.toUInt32.toUInt16.toUInt32.toInt32, .int x2.toUInt32.toUInt16.toUInt32.toInt32, .int x3.toUInt32.toUInt16.toUInt32.toInt32, .int x4.toUInt32.toUInt16.toUInt32.toInt32, .int x5.toUInt32.toUInt16.toUInt32.toInt32, .int x6.toUInt32.toUInt16.toUInt32.toInt32]), .inl (.byte, [.int x0.toUInt32.toUInt16.toUInt32.toInt32.toInt8.toInt32.toInt8.toInt32, .int x1.toUInt32.toUInt16.toUInt32.toInt32.toInt8.toInt32.toInt8.toInt32, .int x2.toUInt32.toUInt16.toUInt32.toInt32.toInt8.toInt32.toInt8.toInt32, .int x3.toUInt32.toUInt16.toUInt32.toInt32.toInt8.toInt32.toInt8.toInt32, .int (0 : Int32), .int (0 : Int32), .int (0 : Int32)])], 0, 0)
                      refine EW.run 6 (cf' := ((35, [.val (.ref 10), .val (.int (5 : Int32)), .val (.ref 11), .val (.int (4 : Int32)), .val (.int (7 : Int32)), .val (.int (4 : Int32)), .val (.int x4.toUInt32.toUInt16.toUInt32.toInt32)], []), [B0, B1, B2, B3, B4, B5, B6, .inl (.char, v8), .inl (.char, [.int x0, .int x1, .int x2, .int x3, .int x4, .int x5, .int x6]), .inr (0, [(0, .null), (1, .int (0 : Int32))]), .inl (.char, [.int x0.toUInt32.toUInt16.toUInt32.toInt32, .int x1.toUInt32.toUInt16.toUInt32.toInt32, .int x2.toUInt32.toUInt16.toUInt32.toInt32, .int x3.toUInt32.toUInt16.toUInt32.toInt32, .int x4.toUInt32.toUInt16.toUInt32.toInt32, .int x5.toUInt32.toUInt16.toUInt32.toInt32, .int x6.toUInt32.toUInt16.toUInt32.toInt32]), .inl (.byte, [.int x0.toUInt32.toUInt16.toUInt32.toInt32.toInt8.toInt32.toInt8.toInt32, .int x1.toUInt32.toUInt16.toUInt32.toInt32.toInt8.toInt32.toInt8.toInt32, .int x2.toUInt32.toUInt16.toUInt32.toInt32.toInt8.toInt32.toInt8.toInt32, .int x3.toUInt32.toUInt16.toUInt32.toInt32.toInt8.toInt32.toInt8.toInt32, .int x4.toUInt32.toUInt16.toUInt32.toInt32.toInt8.toInt32.toInt8.toInt32, .int (0 : Int32), .int (0 : Int32)])], 0, 0)) rfl ?_
                      refine EW.run 6 (cf' := ((10, [.val (.ref 10), .val (.int (5 : Int32)), .val (.ref 11), .val (.int (5 : Int32)), .val (.int (7 : Int32)), .val (.int (5 : Int32)), .val (.int x4.toUInt32.toUInt16.toUInt32.toInt32)], []), [B0, B1, B2, B3, B4, B5, B6, .inl (.char, v8), .inl (.char, [.int x0, .int x1, .int x2, .int x3, .int x4, .int x5, .int x6]), .inr (0, [(0, .null), (1, .int (0 : Int32))]), .inl (.char, [.int x0.toUInt32.toUInt16.toUInt32.toInt32, .int x1.toUInt32.toUInt16.toUInt32.toInt32, .int x2.toUInt32.toUInt16.toUInt32.toInt32, .int x3.toUInt32.toUInt16.toUInt32.toInt32, .int x4.toUInt32.toUInt16.toUInt32.toInt32, .int x5.toUInt32.toUInt16.toUInt32.toInt32, .int x6.toUInt32.toUInt16.toUInt32.toInt32]), .inl (.byte, [.int x0.toUInt32.toUInt16.toUInt32.toInt32.toInt8.toInt32.toInt8.toInt32, .int x1.toUInt32.toUInt16.toUInt32.toInt32.toInt8.toInt32.toInt8.toInt32, .int x2.toUInt32.toUInt16.toUInt32.toInt32.toInt8.toInt32.toInt8.toInt32, .int x3.toUInt32.toUInt16.toUInt32.toInt32.toInt8.toInt32.toInt8.toInt32, .int x4.toUInt32.toUInt16.toUInt32.toInt32.toInt8.toInt32.toInt8.toInt32, .int (0 : Int32), .int (0 : Int32)])], 0, 0)) rfl ?_
                      refine EW.run 6 (cf' := ((20, [.val (.ref 10), .val (.int (5 : Int32)), .val (.ref 11), .val (.int (5 : Int32)), .val (.int (7 : Int32)), .val (.int (5 : Int32)), .val (.int x5.toUInt32.toUInt16.toUInt32.toInt32)], [.int (255 : Int32), .int x5.toUInt32.toUInt16.toUInt32.toInt32]), [B0, B1, B2, B3, B4, B5, B6, .inl (.char, v8), .inl (.char, [.int x0, .int x1, .int x2, .int x3, .int x4, .int x5, .int x6]), .inr (0, [(0, .null), (1, .int (0 : Int32))]), .inl (.char, [.int x0.toUInt32.toUInt16.toUInt32.toInt32, .int x1.toUInt32.toUInt16.toUInt32.toInt32, .int x2.toUInt32.toUInt16.toUInt32.toInt32, .int x3.toUInt32.toUInt16.toUInt32.toInt32, .int x4.toUInt32.toUInt16.toUInt32.toInt32, .int x5.toUInt32.toUInt16.toUInt32.toInt32, .int x6.toUInt32.toUInt16.toUInt32.toInt32]), .inl (.byte, [.int x0.toUInt32.toUInt16.toUInt32.toInt32.toInt8.toInt32.toInt8.toInt32, .int x1.toUInt32.toUInt16.toUInt32.toInt32.toInt8.toInt32.toInt8.toInt32, .int x2.toUInt32.toUInt16.toUInt32.toInt32.toInt8.toInt32.toInt8.toInt32, .int x3.toUInt32.toUInt16.toUInt32.toInt32.toInt8.toInt32.toInt8.toInt32, .int x4.toUInt32.toUInt16.toUInt32.toInt32.toInt8.toInt32.toInt8.toInt32, .int (0 : Int32), .int (0 : Int32)])], 0, 0)) rfl ?_
                      refine EW.icmpP rfl (by decide) (fun h => ?_) (fun h => ?_)
                      · have h7 : x5.toUInt32.toUInt16.toUInt32.toInt32.toInt ≤ (255 : Int32).toInt := by simp only [cP] at h; omega
                        clear h
                        show EW _ _ _ _ _ ((26, [.val (.ref 10), .val (.int (5 : Int32)), .val (.ref 11), .val (.int (5 : Int32)), .val (.int (7 : Int32)), .val (.int (5 : Int32)), .val (.int x5.toUInt32.toUInt16.toUInt32.toInt32)], []), [B0, B1, B2, B3, B4, B5, B6, .inl (.char, v8), .inl (.char, [.int x0, .int x1, .int x2, .int x3, .int x4, .int x5, .int x6]), .inr (0, [(0, .null), (1, .int (0 : Int32))]), .inl (.char, [.int x0.toUInt32.toUInt16.toUInt32.toInt32, .int x1.toUInt32.toUInt16.toUInt32.toInt32, .int x2.toUInt32.toUInt16.toUInt32.toInt32, .int x3.toUInt32.toUInt16.toUInt32.toInt32, .int x4.toUInt32.toUInt16.toUInt32.toInt32, .int x5.toUInt32.toUInt16.toUInt32.toInt32, .int x6.toUInt32.toUInt16.toUInt32.toInt32]), .inl (.byte, [.int x0.toUInt32.toUInt16.toUInt32.toInt32.toInt8.toInt32.toInt8.toInt32, .int x1.toUInt32.toUInt16.toUInt32.toInt32.toInt8.toInt32.toInt8.toInt32, .int x2.toUInt32.toUInt16.toUInt32.toInt32.toInt8.toInt32.toInt8.toInt32, .int x3.toUInt32.toUInt16.toUInt32.toInt32.toInt8.toInt32.toInt8.toInt32, .int x4.toUInt32.toUInt16.toUInt32.toInt32.toInt8.toInt32.toInt8.toInt32, .int (0 : Int32), .int (0 : Int32)])], 0, 0)
                        refine EW.run 6 (cf' := ((35, [.val (.ref 10), .val (.int (6 : Int32)), .val (.ref 11), .val (.int (5 : Int32)), .val (.int (7 : Int32)), .val (.int (5 : Int32)), .val (.int x5.toUInt32.toUInt16.toUInt32.toInt32)], []), [B0, B1, B2, B3, B4, B5, B6, .inl (.char, v8), .inl (.char, [.int x0, .int x1, .int x2, .int x3, .int x4, .int x5, .int x6]), .inr (0, [(0, .null), (1, .int (0 : Int32))]), .inl (.char, [.int x0.toUInt32.toUInt16.toUInt32.toInt32, .int x1.toUInt32.toUInt16.toUInt32.toInt32, .int x2.toUInt32.toUInt16.toUInt32.toInt32, .int x3.toUInt32.toUInt16.toUInt32.toInt32, .int x4.toUInt32.toUInt16.toUInt32.toInt32, .int x5.toUInt32.toUInt16.toUInt32.toInt32, .int x6.toUInt32.toUInt16.toUInt32.toInt32]), .inl (.byte, [.int x0.toUInt32.toUInt16.toUInt32.toInt32.toInt8.toInt32.toInt8.toInt32, .int x1.toUInt32.toUInt16.toUInt32.toInt32.toInt8.toInt32.toInt8.toInt32, .int x2.toUInt32.toUInt16.toUInt32.toInt32.toInt8.toInt32.toInt8.toInt32, .int x3.toUInt32.toUInt16.toUInt32.toInt32.toInt8.toInt32.toInt8.toInt32, .int x4.toUInt32.toUInt16.toUInt32.toInt32.toInt8.toInt32.toInt8.toInt32, .int x5.toUInt32.toUInt16.toUInt32.toInt32.toInt8.toInt32.toInt8.toInt32, .int (0 : Int32)])], 0, 0)) rfl ?_
                        refine EW.run 6 (cf' := ((10, [.val (.ref 10), .val (.int (6 : Int32)), .val (.ref 11), .val (.int (6 : Int32)), .val (.int (7 : Int32)), .val (.int (6 : Int32)), .val (.int x5.toUInt32.toUInt16.toUInt32.toInt32)], []), [B0, B1, B2, B3, B4, B5, B6, .inl (.char, v8), .inl (.char, [.int x0, .int x1, .int x2, .int x3, .int x4, .int x5, .int x6]), .inr (0, [(0, .null), (1, .int (0 : Int32))]), .inl (.char, [.int x0.toUInt32.toUInt16.toUInt32.toInt32, .int x1.toUInt32.toUInt16.toUInt32.toInt32, .int x2.toUInt32.toUInt16.toUInt32.toInt32, .int x3.toUInt32.toUInt16.toUInt32.toInt32, .int x4.toUInt32.toUInt16.toUInt32.toInt32, .int x5.toUInt32.toUInt16.toUInt32.toInt32, .int x6.toUInt32.toUInt16.toUInt32.toInt32]), .inl (.byte, [.int x0.toUInt32.toUInt16.toUInt32.toInt32.toInt8.toInt32.toInt8.toInt32, .int x1.toUInt32.toUInt16.toUInt32.toInt32.toInt8.toInt32.toInt8.toInt32, .int x2.toUInt32.toUInt16.toUInt32.toInt32.toInt8.toInt32.toInt8.toInt32, .int x3.toUInt32.toUInt16.toUInt32.toInt32.toInt8.toInt32.toInt8.toInt32, .int x4.toUInt32.toUInt16.toUInt32.toInt32.toInt8.toInt32.toInt8.toInt32, .int x5.toUInt32.toUInt16.toUInt32.toInt32.toInt8.toInt32.toInt8.toInt32, .int (0 : Int32)])], 0, 0)) rfl ?_
                        refine EW.run 6 (cf' := ((20, [.val (.ref 10), .val (.int (6 : Int32)), .val (.ref 11), .val (.int (6 : Int32)), .val (.int (7 : Int32)), .val (.int (6 : Int32)), .val (.int x6.toUInt32.toUInt16.toUInt32.toInt32)], [.int (255 : Int32), .int x6.toUInt32.toUInt16.toUInt32.toInt32]), [B0, B1, B2, B3, B4, B5, B6, .inl (.char, v8), .inl (.char, [.int x0, .int x1, .int x2, .int x3, .int x4, .int x5, .int x6]), .inr (0, [(0, .null), (1, .int (0 : Int32))]), .inl (.char, [.int x0.toUInt32.toUInt16.toUInt32.toInt32, .int x1.toUInt32.toUInt16.toUInt32.toInt32, .int x2.toUInt32.toUInt16.toUInt32.toInt32, .int x3.toUInt32.toUInt16.toUInt32.toInt32, .int x4.toUInt32.toUInt16.toUInt32.toInt32, .int x5.toUInt32.toUInt16.toUInt32.toInt32, .int x6.toUInt32.toUInt16.toUInt32.toInt32]), .inl (.byte, [.int x0.toUInt32.toUInt16.toUInt32.toInt32.toInt8.toInt32.toInt8.toInt32, .int x1.toUInt32.toUInt16.toUInt32.toInt32.toInt8.toInt32.toInt8.toInt32, .int x2.toUInt32.toUInt16.toUInt32.toInt32.toInt8.toInt32.toInt8.toInt32, .int x3.toUInt32.toUInt16.toUInt32.toInt32.toInt8.toInt32.toInt8.toInt32, .int x4.toUInt32.toUInt16.toUInt32.toInt32.toInt8.toInt32.toInt8.toInt32, .int x5.toUInt32.toUInt16.toUInt32.toInt32.toInt8.toInt32.toInt8.toInt32, .int (0 : Int32)])], 0, 0)) rfl ?_
                        refine EW.icmpP rfl (by decide) (fun h => ?_) (fun h => ?_)
                        · have h8 : x6.toUInt32.toUInt16.toUInt32.toInt32.toInt ≤ (255 : Int32).toInt := by simp only [cP] at h; omega
                          clear h
                          show EW _ _ _ _ _ ((26, [.val (.ref 10), .val (.int (6 : Int32)), .val (.ref 11), .val (.int (6 : Int32)), .val (.int (7 : Int32)), .val (.int (6 : Int32)), .val (.int x6.toUInt32.toUInt16.toUInt32.toInt32)], []), [B0, B1, B2, B3, B4, B5, B6, .inl (.char, v8), .inl (.char, [.int x0, .int x1, .int x2, .int x3, .int x4, .int x5, .int x6]), .inr (0, [(0, .null), (1, .int (0 : Int32))]), .inl (.char, [.int x0.toUInt32.toUInt16.toUInt32.toInt32, .int x1.toUInt32.toUInt16.toUInt32.toInt32, .int x2.toUInt32.toUInt16.toUInt32.toInt32, .int x3.toUInt32.toUInt16.toUInt32.toInt32, .int x4.toUInt32.toUInt16.toUInt32.toInt32, .int x5.toUInt32.toUInt16.toUInt32.toInt32, .int x6.toUInt32.toUInt16.toUInt32.toInt32]), .inl (.byte, [.int x0.toUInt32.toUInt16.toUInt32.toInt32.toInt8.toInt32.toInt8.toInt32, .int x1.toUInt32.toUInt16.toUInt32.toInt32.toInt8.toInt32.toInt8.toInt32, .int x2.toUInt32.toUInt16.toUInt32.toInt32.toInt8.toInt32.toInt8.toInt32, .int x3.toUInt32.toUInt16.toUInt32.toInt32.toInt8.toInt32.toInt8.toInt32, .int x4.toUInt32.toUInt16.toUInt32.toInt32.toInt8.toInt32.toInt8.toInt32, .int x5.toUInt32.toUInt16.toUInt32.toInt32.toInt8.toInt32.toInt8.toInt32, .int (0 : Int32)])], 0, 0)
                          refine EW.run 6 (cf' := ((35, [.val (.ref 10), .val (.int (7 : Int32)), .val (.ref 11), .val (.int (6 : Int32)), .val (.int (7 : Int32)), .val (.int (6 : Int32)), .val (.int x6.toUInt32.toUInt16.toUInt32.toInt32)], []), [B0, B1, B2, B3, B4, B5, B6, .inl (.char, v8), .inl (.char, [.int x0, .int x1, .int x2, .int x3, .int x4, .int x5, .int x6]), .inr (0, [(0, .null), (1, .int (0 : Int32))]), .inl (.char, [.int x0.toUInt32.toUInt16.toUInt32.toInt32, .int x1.toUInt32.toUInt16.toUInt32.toInt32, .int x2.toUInt32.toUInt16.toUInt32.toInt32, .int x3.toUInt32.toUInt16.toUInt32.toInt32, .int x4.toUInt32.toUInt16.toUInt32.toInt32, .int x5.toUInt32.toUInt16.toUInt32.toInt32, .int x6.toUInt32.toUInt16.toUInt32.toInt32]), .inl (.byte, [.int x0.toUInt32.toUInt16.toUInt32.toInt32.toInt8.toInt32.toInt8.toInt32, .int x1.toUInt32.toUInt16.toUInt32.toInt32.toInt8.toInt32.toInt8.toInt32, .int x2.toUInt32.toUInt16.toUInt32.toInt32.toInt8.toInt32.toInt8.toInt32, .int x3.toUInt32.toUInt16.toUInt32.toInt32.toInt8.toInt32.toInt8.toInt32, .int x4.toUInt32.toUInt16.toUInt32.toInt32.toInt8.toInt32.toInt8.toInt32, .int x5.toUInt32.toUInt16.toUInt32.toInt32.toInt8.toInt32.toInt8.toInt32, .int x6.toUInt32.toUInt16.toUInt32.toInt32.toInt8.toInt32.toInt8.toInt32])], 0, 0)) rfl ?_
                          refine EW.run 6 (cf' := ((44, [.val (.ref 10), .val (.int (7 : Int32)), .val (.ref 11), .val (.int (7 : Int32)), .val (.int (7 : Int32)), .val (.int (7 : Int32)), .val (.int x6.toUInt32.toUInt16.toUInt32.toInt32)], []), [B0, B1, B2, B3, B4, B5, B6, .inl (.char, v8), .inl (.char, [.int x0, .int x1, .int x2, .int x3, .int x4, .int x5, .int x6]), .inr (0, [(0, .null), (1, .int (0 : Int32))]), .inl (.char, [.int x0.toUInt32.toUInt16.toUInt32.toInt32, .int x1.toUInt32.toUInt16.toUInt32.toInt32, .int x2.toUInt32.toUInt16.toUInt32.toInt32, .int x3.toUInt32.toUInt16.toUInt32.toInt32, .int x4.toUInt32.toUInt16.toUInt32.toInt32, .int x5.toUInt32.toUInt16.toUInt32.toInt32, .int x6.toUInt32.toUInt16.toUInt32.toInt32]), .inl (.byte, [.int x0.toUInt32.toUInt16.toUInt32.toInt32.toInt8.toInt32.toInt8.toInt32, .int x1.toUInt32.toUInt16.toUInt32.toInt32.toInt8.toInt32.toInt8.toInt32, .int x2.toUInt32.toUInt16.toUInt32.toInt32.toInt8.toInt32.toInt8.toInt32, .int x3.toUInt32.toUInt16.toUInt32.toInt32.toInt8.toInt32.toInt8.toInt32, .int x4.toUInt32.toUInt16.toUInt32.toInt32.toInt8.toInt32.toInt8.toInt32, .int x5.toUInt32.toUInt16.toUInt32.toInt32.toInt8.toInt32.toInt8.toInt32, .int x6.toUInt32.toUInt16.toUInt32.toInt32.toInt8.toInt32.toInt8.toInt32])], 0, 0)) rfl ?_
                          refine EW.run 1 (cf' := ((46, [.val (.ref 10), .val (.int (7 : Int32)), .val (.ref 11), .val (.int (7 : Int32)), .val (.int (7 : Int32)), .val (.int (7 : Int32)), .val (.int x6.toUInt32.toUInt16.toUInt32.toInt32)], [.int (7 : Int32)]), [B0, B1, B2, B3, B4, B5, B6, .inl (.char, v8), .inl (.char, [.int x0, .int x1, .int x2, .int x3, .int x4, .int x5, .int x6]), .inr (0, [(0, .null), (1, .int (0 : Int32))]), .inl (.char, [.int x0.toUInt32.toUInt16.toUInt32.toInt32, .int x1.toUInt32.toUInt16.toUInt32.toInt32, .int x2.toUInt32.toUInt16.toUInt32.toInt32, .int x3.toUInt32.toUInt16.toUInt32.toInt32, .int x4.toUInt32.toUInt16.toUInt32.toInt32, .int x5.toUInt32.toUInt16.toUInt32.toInt32, .int x6.toUInt32.toUInt16.toUInt32.toInt32]), .inl (.byte, [.int x0.toUInt32.toUInt16.toUInt32.toInt32.toInt8.toInt32.toInt8.toInt32, .int x1.toUInt32.toUInt16.toUInt32.toInt32.toInt8.toInt32.toInt8.toInt32, .int x2.toUInt32.toUInt16.toUInt32.toInt32.toInt8.toInt32.toInt8.toInt32, .int x3.toUInt32.toUInt16.toUInt32.toInt32.toInt8.toInt32.toInt8.toInt32, .int x4.toUInt32.toUInt16.toUInt32.toInt32.toInt8.toInt32.toInt8.toInt32, .int x5.toUInt32.toUInt16.toUInt32.toInt32.toInt8.toInt32.toInt8.toInt32, .int x6.toUInt32.toUInt16.toUInt32.toInt32.toInt8.toInt32.toInt8.toInt32])], 0, 0)) rfl ?_
                          exact EW.ret rfl rfl
                        · exfalso; simp only [cP] at h; omega
                      · exfalso; simp only [cP] at h; omega
                    · exfalso; simp only [cP] at h; omega
                  · exfalso; simp only [cP] at h; omega
                · exfalso; simp only [cP] at h; omega
              · exfalso; simp only [cP] at h; omega
            · exfalso; simp only [cP] at h; omega
          rintro _ _ _ _ ⟨⟩
          show EW _ _ _ _ _ ((12, [.val (.ref 10), .val (.int (0 : Int32)), .val (.int (7 : Int32)), .val (.ref 11), .unset, .unset], [.int (7 : Int32)]), [B0, B1, B2, B3, B4, B5, B6, .inl (.char, v8), .inl (.char, [.int x0, .int x1, .int x2, .int x3, .int x4, .int x5, .int x6]), .inr (0, [(0, .null), (1, .int (0 : Int32))]), .inl (.char, [.int x0.toUInt32.toUInt16.toUInt32.toInt32, .int x1.toUInt32.toUInt16.toUInt32.toInt32, .int x2.toUInt32.toUInt16.toUInt32.toInt32, .int x3.toUInt32.toUInt16.toUInt32.toInt32, .int x4.toUInt32.toUInt16.toUInt32.toInt32, .int x5.toUInt32.toUInt16.toUInt32.toInt32, .int x6.toUInt32.toUInt16.toUInt32.toInt32]), .inl (.byte, [.int x0.toUInt32.toUInt16.toUInt32.toInt32.toInt8.toInt32.toInt8.toInt32, .int x1.toUInt32.toUInt16.toUInt32.toInt32.toInt8.toInt32.toInt8.toInt32, .int x2.toUInt32.toUInt16.toUInt32.toInt32.toInt8.toInt32.toInt8.toInt32, .int x3.toUInt32.toUInt16.toUInt32.toInt32.toInt8.toInt32.toInt8.toInt32, .int x4.toUInt32.toUInt16.toUInt32.toInt32.toInt8.toInt32.toInt8.toInt32, .int x5.toUInt32.toUInt16.toUInt32.toInt32.toInt8.toInt32.toInt8.toInt32, .int x6.toUInt32.toUInt16.toUInt32.toInt32.toInt8.toInt32.toInt8.toInt32])], 1, 7)
          refine EW.run 5 (cf' := ((58, [.val (.ref 10), .val (.int (0 : Int32)), .val (.int (7 : Int32)), .val (.ref 11), .val (.int (7 : Int32)), .unset], [.ref 11]), [B0, B1, B2, B3, B4, B5, B6, .inl (.char, v8), .inl (.char, [.int x0, .int x1, .int x2, .int x3, .int x4, .int x5, .int x6]), .inr (0, [(0, .null), (1, .int (0 : Int32))]), .inl (.char, [.int x0.toUInt32.toUInt16.toUInt32.toInt32, .int x1.toUInt32.toUInt16.toUInt32.toInt32, .int x2.toUInt32.toUInt16.toUInt32.toInt32, .int x3.toUInt32.toUInt16.toUInt32.toInt32, .int x4.toUInt32.toUInt16.toUInt32.toInt32, .int x5.toUInt32.toUInt16.toUInt32.toInt32, .int x6.toUInt32.toUInt16.toUInt32.toInt32]), .inl (.byte, [.int x0.toUInt32.toUInt16.toUInt32.toInt32.toInt8.toInt32.toInt8.toInt32, .int x1.toUInt32.toUInt16.toUInt32.toInt32.toInt8.toInt32.toInt8.toInt32, .int x2.toUInt32.toUInt16.toUInt32.toInt32.toInt8.toInt32.toInt8.toInt32, .int x3.toUInt32.toUInt16.toUInt32.toInt32.toInt8.toInt32.toInt8.toInt32, .int x4.toUInt32.toUInt16.toUInt32.toInt32.toInt8.toInt32.toInt8.toInt32, .int x5.toUInt32.toUInt16.toUInt32.toInt32.toInt8.toInt32.toInt8.toInt32, .int x6.toUInt32.toUInt16.toUInt32.toInt32.toInt8.toInt32.toInt8.toInt32])], 1, 7)) rfl ?_
          exact EW.ret rfl rfl
        rintro _ _ _ _ ⟨⟩
        show EW _ _ _ _ _ ((39, [.val (.ref 9), .val (.ref 10), .val (.int (0 : Int32)), .val (.int (7 : Int32)), .val (.null), .unset], [.ref 11]), [B0, B1, B2, B3, B4, B5, B6, .inl (.char, v8), .inl (.char, [.int x0, .int x1, .int x2, .int x3, .int x4, .int x5, .int x6]), .inr (0, [(0, .null), (1, .int (0 : Int32))]), .inl (.char, [.int x0.toUInt32.toUInt16.toUInt32.toInt32, .int x1.toUInt32.toUInt16.toUInt32.toInt32, .int x2.toUInt32.toUInt16.toUInt32.toInt32, .int x3.toUInt32.toUInt16.toUInt32.toInt32, .int x4.toUInt32.toUInt16.toUInt32.toInt32, .int x5.toUInt32.toUInt16.toUInt32.toInt32, .int x6.toUInt32.toUInt16.toUInt32.toInt32]), .inl (.byte, [.int x0.toUInt32.toUInt16.toUInt32.toInt32.toInt8.toInt32.toInt8.toInt32, .int x1.toUInt32.toUInt16.toUInt32.toInt32.toInt8.toInt32.toInt8.toInt32, .int x2.toUInt32.toUInt16.toUInt32.toInt32.toInt8.toInt32.toInt8.toInt32, .int x3.toUInt32.toUInt16.toUInt32.toInt32.toInt8.toInt32.toInt8.toInt32, .int x4.toUInt32.toUInt16.toUInt32.toInt32.toInt8.toInt32.toInt8.toInt32, .int x5.toUInt32.toUInt16.toUInt32.toInt32.toInt8.toInt32.toInt8.toInt32, .int x6.toUInt32.toUInt16.toUInt32.toInt32.toInt8.toInt32.toInt8.toInt32])], 1, 7)
        refine EW.run 4 (cf' := ((45, [.val (.ref 9), .val (.ref 10), .val (.int (0 : Int32)), .val (.int (7 : Int32)), .val (.null), .val (.ref 11)], [.int (7 : Int32), .ref 11, .ref 9]), [B0, B1, B2, B3, B4, B5, B6, .inl (.char, v8), .inl (.char, [.int x0, .int x1, .int x2, .int x3, .int x4, .int x5, .int x6]), .inr (0, [(0, .null), (1, .int (0 : Int32))]), .inl (.char, [.int x0.toUInt32.toUInt16.toUInt32.toInt32, .int x1.toUInt32.toUInt16.toUInt32.toInt32, .int x2.toUInt32.toUInt16.toUInt32.toInt32, .int x3.toUInt32.toUInt16.toUInt32.toInt32, .int x4.toUInt32.toUInt16.toUInt32.toInt32, .int x5.toUInt32.toUInt16.toUInt32.toInt32, .int x6.toUInt32.toUInt16.toUInt32.toInt32]), .inl (.byte, [.int x0.toUInt32.toUInt16.toUInt32.toInt32.toInt8.toInt32.toInt8.toInt32, .int x1.toUInt32.toUInt16.toUInt32.toInt32.toInt8.toInt32.toInt8.toInt32, .int x2.toUInt32.toUInt16.toUInt32.toInt32.toInt8.toInt32.toInt8.toInt32, .int x3.toUInt32.toUInt16.toUInt32.toInt32.toInt8.toInt32.toInt8.toInt32, .int x4.toUInt32.toUInt16.toUInt32.toInt32.toInt8.toInt32.toInt8.toInt32, .int x5.toUInt32.toUInt16.toUInt32.toInt32.toInt8.toInt32.toInt8.toInt32, .int x6.toUInt32.toUInt16.toUInt32.toInt32.toInt8.toInt32.toInt8.toInt32])], 1, 7)) rfl ?_
        refine EW.call (Qc := fun r => r = (some (.int 0), [B0, B1, B2, B3, B4, B5, B6, .inl (.char, v8), .inl (.char, [.int x0, .int x1, .int x2, .int x3, .int x4, .int x5, .int x6]), .inr (0, [(0, .null), (1, .int (0 : Int32))]), .inl (.char, [.int x0.toUInt32.toUInt16.toUInt32.toInt32, .int x1.toUInt32.toUInt16.toUInt32.toInt32, .int x2.toUInt32.toUInt16.toUInt32.toInt32, .int x3.toUInt32.toUInt16.toUInt32.toInt32, .int x4.toUInt32.toUInt16.toUInt32.toInt32, .int x5.toUInt32.toUInt16.toUInt32.toInt32, .int x6.toUInt32.toUInt16.toUInt32.toInt32]), .inl (.byte, [.int x0.toUInt32.toUInt16.toUInt32.toInt32.toInt8.toInt32.toInt8.toInt32, .int x1.toUInt32.toUInt16.toUInt32.toInt32.toInt8.toInt32.toInt8.toInt32, .int x2.toUInt32.toUInt16.toUInt32.toInt32.toInt8.toInt32.toInt8.toInt32, .int x3.toUInt32.toUInt16.toUInt32.toInt32.toInt8.toInt32.toInt8.toInt32, .int x4.toUInt32.toUInt16.toUInt32.toInt32.toInt8.toInt32.toInt8.toInt32, .int x5.toUInt32.toUInt16.toUInt32.toInt32.toInt8.toInt32.toInt8.toInt32, .int x6.toUInt32.toUInt16.toUInt32.toInt32.toInt8.toInt32.toInt8.toInt32])], 0, 0)) rfl ?_ ?_
        · exact cod (p := 11) (n := (7 : Int32)) rfl (by show nar .byte ((XT.ushr ((7 : Int32) - (7 : Int32)) ((Int8.ofInt 31).toInt32)).toInt8.toInt32) = 0; decide)
        rintro _ _ _ _ ⟨⟩
        show EW _ _ _ _ _ ((48, [.val (.ref 9), .val (.ref 10), .val (.int (0 : Int32)), .val (.int (7 : Int32)), .val (.null), .val (.ref 11)], [.int (0 : Int32), .ref 9]), [B0, B1, B2, B3, B4, B5, B6, .inl (.char, v8), .inl (.char, [.int x0, .int x1, .int x2, .int x3, .int x4, .int x5, .int x6]), .inr (0, [(0, .null), (1, .int (0 : Int32))]), .inl (.char, [.int x0.toUInt32.toUInt16.toUInt32.toInt32, .int x1.toUInt32.toUInt16.toUInt32.toInt32, .int x2.toUInt32.toUInt16.toUInt32.toInt32, .int x3.toUInt32.toUInt16.toUInt32.toInt32, .int x4.toUInt32.toUInt16.toUInt32.toInt32, .int x5.toUInt32.toUInt16.toUInt32.toInt32, .int x6.toUInt32.toUInt16.toUInt32.toInt32]), .inl (.byte, [.int x0.toUInt32.toUInt16.toUInt32.toInt32.toInt8.toInt32.toInt8.toInt32, .int x1.toUInt32.toUInt16.toUInt32.toInt32.toInt8.toInt32.toInt8.toInt32, .int x2.toUInt32.toUInt16.toUInt32.toInt32.toInt8.toInt32.toInt8.toInt32, .int x3.toUInt32.toUInt16.toUInt32.toInt32.toInt8.toInt32.toInt8.toInt32, .int x4.toUInt32.toUInt16.toUInt32.toInt32.toInt8.toInt32.toInt8.toInt32, .int x5.toUInt32.toUInt16.toUInt32.toInt32.toInt8.toInt32.toInt8.toInt32, .int x6.toUInt32.toUInt16.toUInt32.toInt32.toInt8.toInt32.toInt8.toInt32])], 1, 7)
        refine EW.run 4 (cf' := ((57, [.val (.ref 9), .val (.ref 10), .val (.int (0 : Int32)), .val (.int (7 : Int32)), .val (.null), .val (.ref 11)], []), [B0, B1, B2, B3, B4, B5, B6, .inl (.char, v8), .inl (.char, [.int x0, .int x1, .int x2, .int x3, .int x4, .int x5, .int x6]), .inr (0, [(0, .ref 11), (1, .int (0 : Int32))]), .inl (.char, [.int x0.toUInt32.toUInt16.toUInt32.toInt32, .int x1.toUInt32.toUInt16.toUInt32.toInt32, .int x2.toUInt32.toUInt16.toUInt32.toInt32, .int x3.toUInt32.toUInt16.toUInt32.toInt32, .int x4.toUInt32.toUInt16.toUInt32.toInt32, .int x5.toUInt32.toUInt16.toUInt32.toInt32, .int x6.toUInt32.toUInt16.toUInt32.toInt32]), .inl (.byte, [.int x0.toUInt32.toUInt16.toUInt32.toInt32.toInt8.toInt32.toInt8.toInt32, .int x1.toUInt32.toUInt16.toUInt32.toInt32.toInt8.toInt32.toInt8.toInt32, .int x2.toUInt32.toUInt16.toUInt32.toInt32.toInt8.toInt32.toInt8.toInt32, .int x3.toUInt32.toUInt16.toUInt32.toInt32.toInt8.toInt32.toInt8.toInt32, .int x4.toUInt32.toUInt16.toUInt32.toInt32.toInt8.toInt32.toInt8.toInt32, .int x5.toUInt32.toUInt16.toUInt32.toInt32.toInt8.toInt32.toInt8.toInt32, .int x6.toUInt32.toUInt16.toUInt32.toInt32.toInt8.toInt32.toInt8.toInt32])], 1, 7)) rfl ?_
        exact EW.ret rfl rfl
    rintro _ _ _ _ ⟨⟩
    show EW _ _ _ _ _ ((9, [.val (.ref 9), .val (.ref 10)], []), [B0, B1, B2, B3, B4, B5, B6, .inl (.char, v8), .inl (.char, [.int x0, .int x1, .int x2, .int x3, .int x4, .int x5, .int x6]), .inr (0, [(0, .ref 11), (1, .int (0 : Int32))]), .inl (.char, [.int x0.toUInt32.toUInt16.toUInt32.toInt32, .int x1.toUInt32.toUInt16.toUInt32.toInt32, .int x2.toUInt32.toUInt16.toUInt32.toInt32, .int x3.toUInt32.toUInt16.toUInt32.toInt32, .int x4.toUInt32.toUInt16.toUInt32.toInt32, .int x5.toUInt32.toUInt16.toUInt32.toInt32, .int x6.toUInt32.toUInt16.toUInt32.toInt32]), .inl (.byte, [.int x0.toUInt32.toUInt16.toUInt32.toInt32.toInt8.toInt32.toInt8.toInt32, .int x1.toUInt32.toUInt16.toUInt32.toInt32.toInt8.toInt32.toInt8.toInt32, .int x2.toUInt32.toUInt16.toUInt32.toInt32.toInt8.toInt32.toInt8.toInt32, .int x3.toUInt32.toUInt16.toUInt32.toInt32.toInt8.toInt32.toInt8.toInt32, .int x4.toUInt32.toUInt16.toUInt32.toInt32.toInt8.toInt32.toInt8.toInt32, .int x5.toUInt32.toUInt16.toUInt32.toInt32.toInt8.toInt32.toInt8.toInt32, .int x6.toUInt32.toUInt16.toUInt32.toInt32.toInt8.toInt32.toInt8.toInt32])], 1, 7)
    exact EW.ret rfl rfl
  rintro _ _ _ _ ⟨⟩
  show EW _ _ _ _ _ ((294, [.val (.ref 8), .val (.int (7 : Int32))], [.ref 9]), [B0, B1, B2, B3, B4, B5, B6, .inl (.char, v8), .inl (.char, [.int x0, .int x1, .int x2, .int x3, .int x4, .int x5, .int x6]), .inr (0, [(0, .ref 11), (1, .int (0 : Int32))]), .inl (.char, [.int x0.toUInt32.toUInt16.toUInt32.toInt32, .int x1.toUInt32.toUInt16.toUInt32.toInt32, .int x2.toUInt32.toUInt16.toUInt32.toInt32, .int x3.toUInt32.toUInt16.toUInt32.toInt32, .int x4.toUInt32.toUInt16.toUInt32.toInt32, .int x5.toUInt32.toUInt16.toUInt32.toInt32, .int x6.toUInt32.toUInt16.toUInt32.toInt32]), .inl (.byte, [.int x0.toUInt32.toUInt16.toUInt32.toInt32.toInt8.toInt32.toInt8.toInt32, .int x1.toUInt32.toUInt16.toUInt32.toInt32.toInt8.toInt32.toInt8.toInt32, .int x2.toUInt32.toUInt16.toUInt32.toInt32.toInt8.toInt32.toInt8.toInt32, .int x3.toUInt32.toUInt16.toUInt32.toInt32.toInt8.toInt32.toInt8.toInt32, .int x4.toUInt32.toUInt16.toUInt32.toInt32.toInt8.toInt32.toInt8.toInt32, .int x5.toUInt32.toUInt16.toUInt32.toInt32.toInt8.toInt32.toInt8.toInt32, .int x6.toUInt32.toUInt16.toUInt32.toInt32.toInt8.toInt32.toInt8.toInt32])], 3, 18)
  exact EW.ret rfl rfl
def own_QA (a b c : Int32) (d : Int64) (r : Cfg) : Prop := ∃ (md : Int32) (v8 : List Value) (x0 x1 x2 x3 x4 x5 x6 : Int32) (l8 : Slot) (sl : Nat), r = ((208, [.val (.int a), .val (.int b), .val (.int c), .val (.long d), .second, .val (.int md), .val (.ref 7), .val (.ref 8), l8, .unset, .unset], []), [B0, B1, B2, B3, B4, B5, B6, .inl (.char, v8), .inl (.char, [.int x0, .int x1, .int x2, .int x3, .int x4, .int x5, .int x6])], 2, sl) ∧ sl ≤ 20 ∧ (l8 = .unset ∨ ∃ j : Int32, l8 = .val (.int j)) ∧ okc x0 ∧ okc x1 ∧ okc x2 ∧ okc x3 ∧ okc x4 ∧ okc x5 ∧ okc x6
set_option maxHeartbeats 16000000 in
theorem lawA (cs a b c : Int32) (d : Int64) : ES (gG cs 7 N0) true 8 192 mL (own_QA a b c d) ((0, entL [.int a, .int b, .int c, .long d] 11, []), [B0, B1, B2, B3, B4, B5, B6], 0, 0) := by
  show ES _ _ _ _ _ _ ((0, [.val (.int a), .val (.int b), .val (.int c), .val (.long d), .second, .unset, .unset, .unset, .unset, .unset, .unset], []), [B0, B1, B2, B3, B4, B5, B6], 0, 0)
  refine ES.run 6 (cf' := ((8, [.val (.int a), .val (.int b), .val (.int c), .val (.long d), .second, .val (.int (b &&& (3 : Int32))), .unset, .unset, .unset, .unset, .unset], [.int (1 : Int32), .int (b &&& (3 : Int32))]), [B0, B1, B2, B3, B4, B5, B6], 0, 0)) rfl ?_
  refine ES.icmp rfl (by decide) (fun h => ?_) (fun h => ?_)
  · show ES _ _ _ _ _ _ ((44, [.val (.int a), .val (.int b), .val (.int c), .val (.long d), .second, .val (.int (b &&& (3 : Int32))), .unset, .unset, .unset, .unset, .unset], []), [B0, B1, B2, B3, B4, B5, B6], 0, 0)
    refine ES.run 2 (cf' := ((47, [.val (.int a), .val (.int b), .val (.int c), .val (.long d), .second, .val (.int (b &&& (3 : Int32))), .unset, .unset, .unset, .unset, .unset], [.int (2 : Int32), .int (b &&& (3 : Int32))]), [B0, B1, B2, B3, B4, B5, B6], 0, 0)) rfl ?_
    refine ES.icmp rfl (by decide) (fun h => ?_) (fun h => ?_)
    · show ES _ _ _ _ _ _ ((89, [.val (.int a), .val (.int b), .val (.int c), .val (.long d), .second, .val (.int (b &&& (3 : Int32))), .unset, .unset, .unset, .unset, .unset], []), [B0, B1, B2, B3, B4, B5, B6], 0, 0)
      refine ES.run 8 (cf' := ((103, [.val (.int a), .val (.int b), .val (.int c), .val (.long d), .second, .val (.int (b &&& (3 : Int32))), .val (.ref 7), .val (.ref 8), .unset, .unset, .unset], [.int (0 : Int32), .ref 8]), [B0, B1, B2, B3, B4, B5, B6, .inl (.char, []), .inl (.char, [.int (0 : Int32), .int (0 : Int32), .int (0 : Int32), .int (0 : Int32), .int (0 : Int32), .int (0 : Int32), .int (0 : Int32)])], 2, 7)) rfl ?_
      refine ES.run 3 (cf' := ((107, [.val (.int a), .val (.int b), .val (.int c), .val (.long d), .second, .val (.int (b &&& (3 : Int32))), .val (.ref 7), .val (.ref 8), .unset, .unset, .unset], [.long d, .ref 7, .int (0 : Int32), .int (0 : Int32), .ref 8]), [B0, B1, B2, B3, B4, B5, B6, .inl (.char, []), .inl (.char, [.int (0 : Int32), .int (0 : Int32), .int (0 : Int32), .int (0 : Int32), .int (0 : Int32), .int (0 : Int32), .int (0 : Int32)])], 2, 7)) rfl ?_
      refine ES.call (Qc := fun r => r = (some (.int ((XT.ushrL d (0 : Int32)) &&& (255 : Int64)).toInt32.toUInt32.toUInt16.toUInt32.toInt32.toUInt32.toUInt16.toUInt32.toInt32), [B0, B1, B2, B3, B4, B5, B6, .inl (.char, []), .inl (.char, [.int (0 : Int32), .int (0 : Int32), .int (0 : Int32), .int (0 : Int32), .int (0 : Int32), .int (0 : Int32), .int (0 : Int32)])], 0, 0)) rfl (EW.all 14 (r := (some (.int ((XT.ushrL d (0 : Int32)) &&& (255 : Int64)).toInt32.toUInt32.toUInt16.toUInt32.toInt32.toUInt32.toUInt16.toUInt32.toInt32), [B0, B1, B2, B3, B4, B5, B6, .inl (.char, []), .inl (.char, [.int (0 : Int32), .int (0 : Int32), .int (0 : Int32), .int (0 : Int32), .int (0 : Int32), .int (0 : Int32), .int (0 : Int32)])], 0, 0)) rfl rfl) ?_
      rintro _ _ _ _ ⟨⟩
      show ES _ _ _ _ _ _ ((110, [.val (.int a), .val (.int b), .val (.int c), .val (.long d), .second, .val (.int (b &&& (3 : Int32))), .val (.ref 7), .val (.ref 8), .unset, .unset, .unset], [.int ((XT.ushrL d (0 : Int32)) &&& (255 : Int64)).toInt32.toUInt32.toUInt16.toUInt32.toInt32.toUInt32.toUInt16.toUInt32.toInt32, .int (0 : Int32), .ref 8]), [B0, B1, B2, B3, B4, B5, B6, .inl (.char, []), .inl (.char, [.int (0 : Int32), .int (0 : Int32), .int (0 : Int32), .int (0 : Int32), .int (0 : Int32), .int (0 : Int32), .int (0 : Int32)])], 2, 7)
      refine ES.run 6 (cf' := ((118, [.val (.int a), .val (.int b), .val (.int c), .val (.long d), .second, .val (.int (b &&& (3 : Int32))), .val (.ref 7), .val (.ref 8), .unset, .unset, .unset], [.long d, .ref 7, .int (1 : Int32), .int (1 : Int32), .ref 8]), [B0, B1, B2, B3, B4, B5, B6, .inl (.char, []), .inl (.char, [.int ((XT.ushrL d (0 : Int32)) &&& (255 : Int64)).toInt32.toUInt32.toUInt16.toUInt32.toInt32.toUInt32.toUInt16.toUInt32.toInt32.toUInt32.toUInt16.toUInt32.toInt32, .int (0 : Int32), .int (0 : Int32), .int (0 : Int32), .int (0 : Int32), .int (0 : Int32), .int (0 : Int32)])], 2, 7)) rfl ?_
      refine ES.call (Qc := fun r => r = (some (.int ((XT.ushrL d (8 : Int32)) &&& (255 : Int64)).toInt32.toUInt32.toUInt16.toUInt32.toInt32.toUInt32.toUInt16.toUInt32.toInt32), [B0, B1, B2, B3, B4, B5, B6, .inl (.char, []), .inl (.char, [.int ((XT.ushrL d (0 : Int32)) &&& (255 : Int64)).toInt32.toUInt32.toUInt16.toUInt32.toInt32.toUInt32.toUInt16.toUInt32.toInt32.toUInt32.toUInt16.toUInt32.toInt32, .int (0 : Int32), .int (0 : Int32), .int (0 : Int32), .int (0 : Int32), .int (0 : Int32), .int (0 : Int32)])], 0, 0)) rfl (EW.all 14 (r := (some (.int ((XT.ushrL d (8 : Int32)) &&& (255 : Int64)).toInt32.toUInt32.toUInt16.toUInt32.toInt32.toUInt32.toUInt16.toUInt32.toInt32), [B0, B1, B2, B3, B4, B5, B6, .inl (.char, []), .inl (.char, [.int ((XT.ushrL d (0 : Int32)) &&& (255 : Int64)).toInt32.toUInt32.toUInt16.toUInt32.toInt32.toUInt32.toUInt16.toUInt32.toInt32.toUInt32.toUInt16.toUInt32.toInt32, .int (0 : Int32), .int (0 : Int32), .int (0 : Int32), .int (0 : Int32), .int (0 : Int32), .int (0 : Int32)])], 0, 0)) rfl rfl) ?_
      rintro _ _ _ _ ⟨⟩
      show ES _ _ _ _ _ _ ((121, [.val (.int a), .val (.int b), .val (.int c), .val (.long d), .second, .val (.int (b &&& (3 : Int32))), .val (.ref 7), .val (.ref 8), .unset, .unset, .unset], [.int ((XT.ushrL d (8 : Int32)) &&& (255 : Int64)).toInt32.toUInt32.toUInt16.toUInt32.toInt32.toUInt32.toUInt16.toUInt32.toInt32, .int (1 : Int32), .ref 8]), [B0, B1, B2, B3, B4, B5, B6, .inl (.char, []), .inl (.char, [.int ((XT.ushrL d (0 : Int32)) &&& (255 : Int64)).toInt32.toUInt32.toUInt16.toUInt32.toInt32.toUInt32.toUInt16.toUInt32.toInt32.toUInt32.toUInt16.toUInt32.toInt32, .int (0 : Int32), .int (0 : Int32), .int (0 : Int32), .int (0 : Int32), .int (0 : Int32), .int (0 : Int32)])], 2, 7)
      refine ES.run 6 (cf' := ((129, [.val (.int a), .val (.int b), .val (.int c), .val (.long d), .second, .val (.int (b &&& (3 : Int32))), .val (.ref 7), .val (.ref 8), .unset, .unset, .unset], [.long d, .ref 7, .int (2 : Int32), .int (2 : Int32), .ref 8]), [B0, B1, B2, B3, B4, B5, B6, .inl (.char, []), .inl (.char, [.int ((XT.ushrL d (0 : Int32)) &&& (255 : Int64)).toInt32.toUInt32.toUInt16.toUInt32.toInt32.toUInt32.toUInt16.toUInt32.toInt32.toUInt32.toUInt16.toUInt32.toInt32, .int ((XT.ushrL d (8 : Int32)) &&& (255 : Int64)).toInt32.toUInt32.toUInt16.toUInt32.toInt32.toUInt32.toUInt16.toUInt32.toInt32.toUInt32.toUInt16.toUInt32.toInt32, .int (0 : Int32), .int (0 : Int32), .int (0 : Int32), .int (0 : Int32), .int (0 : Int32)])], 2, 7)) rfl ?_
      refine ES.call (Qc := fun r => r = (some (.int ((XT.ushrL d (16 : Int32)) &&& (255 : Int64)).toInt32.toUInt32.toUInt16.toUInt32.toInt32.toUInt32.toUInt16.toUInt32.toInt32), [B0, B1, B2, B3, B4, B5, B6, .inl (.char, []), .inl (.char, [.int ((XT.ushrL d (0 : Int32)) &&& (255 : Int64)).toInt32.toUInt32.toUInt16.toUInt32.toInt32.toUInt32.toUInt16.toUInt32.toInt32.toUInt32.toUInt16.toUInt32.toInt32, .int ((XT.ushrL d (8 : Int32)) &&& (255 : Int64)).toInt32.toUInt32.toUInt16.toUInt32.toInt32.toUInt32.toUInt16.toUInt32.toInt32.toUInt32.toUInt16.toUInt32.toInt32, .int (0 : Int32), .int (0 : Int32), .int (0 : Int32), .int (0 : Int32), .int (0 : Int32)])], 0, 0)) rfl (EW.all 14 (r := (some (.int ((XT.ushrL d (16 : Int32)) &&& (255 : Int64)).toInt32.toUInt32.toUInt16.toUInt32.toInt32.toUInt32.toUInt16.toUInt32.toInt32), [B0, B1, B2, B3, B4, B5, B6, .inl (.char, []), .inl (.char, [.int ((XT.ushrL d (0 : Int32)) &&& (255 : Int64)).toInt32.toUInt32.toUInt16.toUInt32.toInt32.toUInt32.toUInt16.toUInt32.toInt32.toUInt32.toUInt16.toUInt32.toInt32, .int ((XT.ushrL d (8 : Int32)) &&& (255 : Int64)).toInt32.toUInt32.toUInt16.toUInt32.toInt32.toUInt32.toUInt16.toUInt32.toInt32.toUInt32.toUInt16.toUInt32.toInt32, .int (0 : Int32), .int (0 : Int32), .int (0 : Int32), .int (0 : Int32), .int (0 : Int32)])], 0, 0)) rfl rfl) ?_
      rintro _ _ _ _ ⟨⟩
      show ES _ _ _ _ _ _ ((132, [.val (.int a), .val (.int b), .val (.int c), .val (.long d), .second, .val (.int (b &&& (3 : Int32))), .val (.ref 7), .val (.ref 8), .unset, .unset, .unset], [.int ((XT.ushrL d (16 : Int32)) &&& (255 : Int64)).toInt32.toUInt32.toUInt16.toUInt32.toInt32.toUInt32.toUInt16.toUInt32.toInt32, .int (2 : Int32), .ref 8]), [B0, B1, B2, B3, B4, B5, B6, .inl (.char, []), .inl (.char, [.int ((XT.ushrL d (0 : Int32)) &&& (255 : Int64)).toInt32.toUInt32.toUInt16.toUInt32.toInt32.toUInt32.toUInt16.toUInt32.toInt32.toUInt32.toUInt16.toUInt32.toInt32, .int ((XT.ushrL d (8 : Int32)) &&& (255 : Int64)).toInt32.toUInt32.toUInt16.toUInt32.toInt32.toUInt32.toUInt16.toUInt32.toInt32.toUInt32.toUInt16.toUInt32.toInt32, .int (0 : Int32), .int (0 : Int32), .int (0 : Int32), .int (0 : Int32), .int (0 : Int32)])], 2, 7)
      refine ES.run 6 (cf' := ((140, [.val (.int a), .val (.int b), .val (.int c), .val (.long d), .second, .val (.int (b &&& (3 : Int32))), .val (.ref 7), .val (.ref 8), .unset, .unset, .unset], [.long d, .ref 7, .int (3 : Int32), .int (3 : Int32), .ref 8]), [B0, B1, B2, B3, B4, B5, B6, .inl (.char, []), .inl (.char, [.int ((XT.ushrL d (0 : Int32)) &&& (255 : Int64)).toInt32.toUInt32.toUInt16.toUInt32.toInt32.toUInt32.toUInt16.toUInt32.toInt32.toUInt32.toUInt16.toUInt32.toInt32, .int ((XT.ushrL d (8 : Int32)) &&& (255 : Int64)).toInt32.toUInt32.toUInt16.toUInt32.toInt32.toUInt32.toUInt16.toUInt32.toInt32.toUInt32.toUInt16.toUInt32.toInt32, .int ((XT.ushrL d (16 : Int32)) &&& (255 : Int64)).toInt32.toUInt32.toUInt16.toUInt32.toInt32.toUInt32.toUInt16.toUInt32.toInt32.toUInt32.toUInt16.toUInt32.toInt32, .int (0 : Int32), .int (0 : Int32), .int (0 : Int32), .int (0 : Int32)])], 2, 7)) rfl ?_
      refine ES.call (Qc := fun r => r = (some (.int ((XT.ushrL d (24 : Int32)) &&& (255 : Int64)).toInt32.toUInt32.toUInt16.toUInt32.toInt32.toUInt32.toUInt16.toUInt32.toInt32), [B0, B1, B2, B3, B4, B5, B6, .inl (.char, []), .inl (.char, [.int ((XT.ushrL d (0 : Int32)) &&& (255 : Int64)).toInt32.toUInt32.toUInt16.toUInt32.toInt32.toUInt32.toUInt16.toUInt32.toInt32.toUInt32.toUInt16.toUInt32.toInt32, .int ((XT.ushrL d (8 : Int32)) &&& (255 : Int64)).toInt32.toUInt32.toUInt16.toUInt32.toInt32.toUInt32.toUInt16.toUInt32.toInt32.toUInt32.toUInt16.toUInt32.toInt32, .int ((XT.ushrL d (16 : Int32)) &&& (255 : Int64)).toInt32.toUInt32.toUInt16.toUInt32.toInt32.toUInt32.toUInt16.toUInt32.toInt32.toUInt32.toUInt16.toUInt32.toInt32, .int (0 : Int32), .int (0 : Int32), .int (0 : Int32), .int (0 : Int32)])], 0, 0)) rfl (EW.all 14 (r := (some (.int ((XT.ushrL d (24 : Int32)) &&& (255 : Int64)).toInt32.toUInt32.toUInt16.toUInt32.toInt32.toUInt32.toUInt16.toUInt32.toInt32), [B0, B1, B2, B3, B4, B5, B6, .inl (.char, []), .inl (.char, [.int ((XT.ushrL d (0 : Int32)) &&& (255 : Int64)).toInt32.toUInt32.toUInt16.toUInt32.toInt32.toUInt32.toUInt16.toUInt32.toInt32.toUInt32.toUInt16.toUInt32.toInt32, .int ((XT.ushrL d (8 : Int32)) &&& (255 : Int64)).toInt32.toUInt32.toUInt16.toUInt32.toInt32.toUInt32.toUInt16.toUInt32.toInt32.toUInt32.toUInt16.toUInt32.toInt32, .int ((XT.ushrL d (16 : Int32)) &&& (255 : Int64)).toInt32.toUInt32.toUInt16.toUInt32.toInt32.toUInt32.toUInt16.toUInt32.toInt32.toUInt32.toUInt16.toUInt32.toInt32, .int (0 : Int32), .int (0 : Int32), .int (0 : Int32), .int (0 : Int32)])], 0, 0)) rfl rfl) ?_
      rintro _ _ _ _ ⟨⟩
      show ES _ _ _ _ _ _ ((143, [.val (.int a), .val (.int b), .val (.int c), .val (.long d), .second, .val (.int (b &&& (3 : Int32))), .val (.ref 7), .val (.ref 8), .unset, .unset, .unset], [.int ((XT.ushrL d (24 : Int32)) &&& (255 : Int64)).toInt32.toUInt32.toUInt16.toUInt32.toInt32.toUInt32.toUInt16.toUInt32.toInt32, .int (3 : Int32), .ref 8]), [B0, B1, B2, B3, B4, B5, B6, .inl (.char, []), .inl (.char, [.int ((XT.ushrL d (0 : Int32)) &&& (255 : Int64)).toInt32.toUInt32.toUInt16.toUInt32.toInt32.toUInt32.toUInt16.toUInt32.toInt32.toUInt32.toUInt16.toUInt32.toInt32, .int ((XT.ushrL d (8 : Int32)) &&& (255 : Int64)).toInt32.toUInt32.toUInt16.toUInt32.toInt32.toUInt32.toUInt16.toUInt32.toInt32.toUInt32.toUInt16.toUInt32.toInt32, .int ((XT.ushrL d (16 : Int32)) &&& (255 : Int64)).toInt32.toUInt32.toUInt16.toUInt32.toInt32.toUInt32.toUInt16.toUInt32.toInt32.toUInt32.toUInt16.toUInt32.toInt32, .int (0 : Int32), .int (0 : Int32), .int (0 : Int32), .int (0 : Int32)])], 2, 7)
      refine ES.run 6 (cf' := ((151, [.val (.int a), .val (.int b), .val (.int c), .val (.long d), .second, .val (.int (b &&& (3 : Int32))), .val (.ref 7), .val (.ref 8), .unset, .unset, .unset], [.long d, .ref 7, .int (4 : Int32), .int (4 : Int32), .ref 8]), [B0, B1, B2, B3, B4, B5, B6, .inl (.char, []), .inl (.char, [.int ((XT.ushrL d (0 : Int32)) &&& (255 : Int64)).toInt32.toUInt32.toUInt16.toUInt32.toInt32.toUInt32.toUInt16.toUInt32.toInt32.toUInt32.toUInt16.toUInt32.toInt32, .int ((XT.ushrL d (8 : Int32)) &&& (255 : Int64)).toInt32.toUInt32.toUInt16.toUInt32.toInt32.toUInt32.toUInt16.toUInt32.toInt32.toUInt32.toUInt16.toUInt32.toInt32, .int ((XT.ushrL d (16 : Int32)) &&& (255 : Int64)).toInt32.toUInt32.toUInt16.toUInt32.toInt32.toUInt32.toUInt16.toUInt32.toInt32.toUInt32.toUInt16.toUInt32.toInt32, .int ((XT.ushrL d (24 : Int32)) &&& (255 : Int64)).toInt32.toUInt32.toUInt16.toUInt32.toInt32.toUInt32.toUInt16.toUInt32.toInt32.toUInt32.toUInt16.toUInt32.toInt32, .int (0 : Int32), .int (0 : Int32), .int (0 : Int32)])], 2, 7)) rfl ?_
      refine ES.call (Qc := fun r => r = (some (.int ((XT.ushrL d (32 : Int32)) &&& (255 : Int64)).toInt32.toUInt32.toUInt16.toUInt32.toInt32.toUInt32.toUInt16.toUInt32.toInt32), [B0, B1, B2, B3, B4, B5, B6, .inl (.char, []), .inl (.char, [.int ((XT.ushrL d (0 : Int32)) &&& (255 : Int64)).toInt32.toUInt32.toUInt16.toUInt32.toInt32.toUInt32.toUInt16.toUInt32.toInt32.toUInt32.toUInt16.toUInt32.toInt32, .int ((XT.ushrL d (8 : Int32)) &&& (255 : Int64)).toInt32.toUInt32.toUInt16.toUInt32.toInt32.toUInt32.toUInt16.toUInt32.toInt32.toUInt32.toUInt16.toUInt32.toInt32, .int ((XT.ushrL d (16 : Int32)) &&& (255 : Int64)).toInt32.toUInt32.toUInt16.toUInt32.toInt32.toUInt32.toUInt16.toUInt32.toInt32.toUInt32.toUInt16.toUInt32.toInt32, .int ((XT.ushrL d (24 : Int32)) &&& (255 : Int64)).toInt32.toUInt32.toUInt16.toUInt32.toInt32.toUInt32.toUInt16.toUInt32.toInt32.toUInt32.toUInt16.toUInt32.toInt32, .int (0 : Int32), .int (0 : Int32), .int (0 : Int32)])], 0, 0)) rfl (EW.all 14 (r := (some (.int ((XT.ushrL d (32 : Int32)) &&& (255 : Int64)).toInt32.toUInt32.toUInt16.toUInt32.toInt32.toUInt32.toUInt16.toUInt32.toInt32), [B0, B1, B2, B3, B4, B5, B6, .inl (.char, []), .inl (.char, [.int ((XT.ushrL d (0 : Int32)) &&& (255 : Int64)).toInt32.toUInt32.toUInt16.toUInt32.toInt32.toUInt32.toUInt16.toUInt32.toInt32.toUInt32.toUInt16.toUInt32.toInt32, .int ((XT.ushrL d (8 : Int32)) &&& (255 : Int64)).toInt32.toUInt32.toUInt16.toUInt32.toInt32.toUInt32.toUInt16.toUInt32.toInt32.toUInt32.toUInt16.toUInt32.toInt32, .int ((XT.ushrL d (16 : Int32)) &&& (255 : Int64)).toInt32.toUInt32.toUInt16.toUInt32.toInt32.toUInt32.toUInt16.toUInt32.toInt32.toUInt32.toUInt16.toUInt32.toInt32, .int ((XT.ushrL d (24 : Int32)) &&& (255 : Int64)).toInt32.toUInt32.toUInt16.toUInt32.toInt32.toUInt32.toUInt16.toUInt32.toInt32.toUInt32.toUInt16.toUInt32.toInt32, .int (0 : Int32), .int (0 : Int32), .int (0 : Int32)])], 0, 0)) rfl rfl) ?_
      rintro _ _ _ _ ⟨⟩
      show ES _ _ _ _ _ _ ((154, [.val (.int a), .val (.int b), .val (.int c), .val (.long d), .second, .val (.int (b &&& (3 : Int32))), .val (.ref 7), .val (.ref 8), .unset, .unset, .unset], [.int ((XT.ushrL d (32 : Int32)) &&& (255 : Int64)).toInt32.toUInt32.toUInt16.toUInt32.toInt32.toUInt32.toUInt16.toUInt32.toInt32, .int (4 : Int32), .ref 8]), [B0, B1, B2, B3, B4, B5, B6, .inl (.char, []), .inl (.char, [.int ((XT.ushrL d (0 : Int32)) &&& (255 : Int64)).toInt32.toUInt32.toUInt16.toUInt32.toInt32.toUInt32.toUInt16.toUInt32.toInt32.toUInt32.toUInt16.toUInt32.toInt32, .int ((XT.ushrL d (8 : Int32)) &&& (255 : Int64)).toInt32.toUInt32.toUInt16.toUInt32.toInt32.toUInt32.toUInt16.toUInt32.toInt32.toUInt32.toUInt16.toUInt32.toInt32, .int ((XT.ushrL d (16 : Int32)) &&& (255 : Int64)).toInt32.toUInt32.toUInt16.toUInt32.toInt32.toUInt32.toUInt16.toUInt32.toInt32.toUInt32.toUInt16.toUInt32.toInt32, .int ((XT.ushrL d (24 : Int32)) &&& (255 : Int64)).toInt32.toUInt32.toUInt16.toUInt32.toInt32.toUInt32.toUInt16.toUInt32.toInt32.toUInt32.toUInt16.toUInt32.toInt32, .int (0 : Int32), .int (0 : Int32), .int (0 : Int32)])], 2, 7)
      refine ES.run 6 (cf' := ((162, [.val (.int a), .val (.int b), .val (.int c), .val (.long d), .second, .val (.int (b &&& (3 : Int32))), .val (.ref 7), .val (.ref 8), .unset, .unset, .unset], [.long d, .ref 7, .int (5 : Int32), .int (5 : Int32), .ref 8]), [B0, B1, B2, B3, B4, B5, B6, .inl (.char, []), .inl (.char, [.int ((XT.ushrL d (0 : Int32)) &&& (255 : Int64)).toInt32.toUInt32.toUInt16.toUInt32.toInt32.toUInt32.toUInt16.toUInt32.toInt32.toUInt32.toUInt16.toUInt32.toInt32, .int ((XT.ushrL d (8 : Int32)) &&& (255 : Int64)).toInt32.toUInt32.toUInt16.toUInt32.toInt32.toUInt32.toUInt16.toUInt32.toInt32.toUInt32.toUInt16.toUInt32.toInt32, .int ((XT.ushrL d (16 : Int32)) &&& (255 : Int64)).toInt32.toUInt32.toUInt16.toUInt32.toInt32.toUInt32.toUInt16.toUInt32.toInt32.toUInt32.toUInt16.toUInt32.toInt32, .int ((XT.ushrL d (24 : Int32)) &&& (255 : Int64)).toInt32.toUInt32.toUInt16.toUInt32.toInt32.toUInt32.toUInt16.toUInt32.toInt32.toUInt32.toUInt16.toUInt32.toInt32, .int ((XT.ushrL d (32 : Int32)) &&& (255 : Int64)).toInt32.toUInt32.toUInt16.toUInt32.toInt32.toUInt32.toUInt16.toUInt32.toInt32.toUInt32.toUInt16.toUInt32.toInt32, .int (0 : Int32), .int (0 : Int32)])], 2, 7)) rfl ?_
      refine ES.call (Qc := fun r => r = (some (.int ((XT.ushrL d (40 : Int32)) &&& (255 : Int64)).toInt32.toUInt32.toUInt16.toUInt32.toInt32.toUInt32.toUInt16.toUInt32.toInt32), [B0, B1, B2, B3, B4, B5, B6, .inl (.char, []), .inl (.char, [.int ((XT.ushrL d (0 : Int32)) &&& (255 : Int64)).toInt32.toUInt32.toUInt16.toUInt32.toInt32.toUInt32.toUInt16.toUInt32.toInt32.toUInt32.toUInt16.toUInt32.toInt32, .int ((XT.ushrL d (8 : Int32)) &&& (255 : Int64)).toInt32.toUInt32.toUInt16.toUInt32.toInt32.toUInt32.toUInt16.toUInt32.toInt32.toUInt32.toUInt16.toUInt32.toInt32, .int ((XT.ushrL d (16 : Int32)) &&& (255 : Int64)).toInt32.toUInt32.toUInt16.toUInt32.toInt32.toUInt32.toUInt16.toUInt32.toInt32.toUInt32.toUInt16.toUInt32.toInt32, .int ((XT.ushrL d (24 : Int32)) &&& (255 : Int64)).toInt32.toUInt32.toUInt16.toUInt32.toInt32.toUInt32.toUInt16.toUInt32.toInt32.toUInt32.toUInt16.toUInt32.toInt32, .int ((XT.ushrL d (32 : Int32)) &&& (255 : Int64)).toInt32.toUInt32.toUInt16.toUInt32.toInt32.toUInt32.toUInt16.toUInt32.toInt32.toUInt32.toUInt16.toUInt32.toInt32, .int (0 : Int32), .int (0 : Int32)])], 0, 0)) rfl (EW.all 14 (r := (some (.int ((XT.ushrL d (40 : Int32)) &&& (255 : Int64)).toInt32.toUInt32.toUInt16.toUInt32.toInt32.toUInt32.toUInt16.toUInt32.toInt32), [B0, B1, B2, B3, B4, B5, B6, .inl (.char, []), .inl (.char, [.int ((XT.ushrL d (0 : Int32)) &&& (255 : Int64)).toInt32.toUInt32.toUInt16.toUInt32.toInt32.toUInt32.toUInt16.toUInt32.toInt32.toUInt32.toUInt16.toUInt32.toInt32, .int ((XT.ushrL d (8 : Int32)) &&& (255 : Int64)).toInt32.toUInt32.toUInt16.toUInt32.toInt32.toUInt32.toUInt16.toUInt32.toInt32.toUInt32.toUInt16.toUInt32.toInt32, .int ((XT.ushrL d (16 : Int32)) &&& (255 : Int64)).toInt32.toUInt32.toUInt16.toUInt32.toInt32.toUInt32.toUInt16.toUInt32.toInt32.toUInt32.toUInt16.toUInt32.toInt32, .int ((XT.ushrL d (24 : Int32)) &&& (255 : Int64)).toInt32.toUInt32.toUInt16.toUInt32.toInt32.toUInt32.toUInt16.toUInt32.toInt32.toUInt32.toUInt16.toUInt32.toInt32, .int ((XT.ushrL d (32 : Int32)) &&& (255 : Int64)).toInt32.toUInt32.toUInt16.toUInt32.toInt32.toUInt32.toUInt16.toUInt32.toInt32.toUInt32.toUInt16.toUInt32.toInt32, .int (0 : Int32), .int (0 : Int32)])], 0, 0)) rfl rfl) ?_
      rintro _ _ _ _ ⟨⟩
      show ES _ _ _ _ _ _ ((165, [.val (.int a), .val (.int b), .val (.int c), .val (.long d), .second, .val (.int (b &&& (3 : Int32))), .val (.ref 7), .val (.ref 8), .unset, .unset, .unset], [.int ((XT.ushrL d (40 : Int32)) &&& (255 : Int64)).toInt32.toUInt32.toUInt16.toUInt32.toInt32.toUInt32.toUInt16.toUInt32.toInt32, .int (5 : Int32), .ref 8]), [B0, B1, B2, B3, B4, B5, B6, .inl (.char, []), .inl (.char, [.int ((XT.ushrL d (0 : Int32)) &&& (255 : Int64)).toInt32.toUInt32.toUInt16.toUInt32.toInt32.toUInt32.toUInt16.toUInt32.toInt32.toUInt32.toUInt16.toUInt32.toInt32, .int ((XT.ushrL d (8 : Int32)) &&& (255 : Int64)).toInt32.toUInt32.toUInt16.toUInt32.toInt32.toUInt32.toUInt16.toUInt32.toInt32.toUInt32.toUInt16.toUInt32.toInt32, .int ((XT.ushrL d (16 : Int32)) &&& (255 : Int64)).toInt32.toUInt32.toUInt16.toUInt32.toInt32.toUInt32.toUInt16.toUInt32.toInt32.toUInt32.toUInt16.toUInt32.toInt32, .int ((XT.ushrL d (24 : Int32)) &&& (255 : Int64)).toInt32.toUInt32.toUInt16.toUInt32.toInt32.toUInt32.toUInt16.toUInt32.toInt32.toUInt32.toUInt16.toUInt32.toInt32, .int ((XT.ushrL d (32 : Int32)) &&& (255 : Int64)).toInt32.toUInt32.toUInt16.toUInt32.toInt32.toUInt32.toUInt16.toUInt32.toInt32.toUInt32.toUInt16.toUInt32.toInt32, .int (0 : Int32), .int (0 : Int32)])], 2, 7)
      refine ES.run 6 (cf' := ((175, [.val (.int a), .val (.int b), .val (.int c), .val (.long d), .second, .val (.int (b &&& (3 : Int32))), .val (.ref 7), .val (.ref 8), .unset, .unset, .unset], [.long d, .ref 7, .int (6 : Int32), .int (6 : Int32), .ref 8]), [B0, B1, B2, B3, B4, B5, B6, .inl (.char, []), .inl (.char, [.int ((XT.ushrL d (0 : Int32)) &&& (255 : Int64)).toInt32.toUInt32.toUInt16.toUInt32.toInt32.toUInt32.toUInt16.toUInt32.toInt32.toUInt32.toUInt16.toUInt32.toInt32, .int ((XT.ushrL d (8 : Int32)) &&& (255 : Int64)).toInt32.toUInt32.toUInt16.toUInt32.toInt32.toUInt32.toUInt16.toUInt32.toInt32.toUInt32.toUInt16.toUInt32.toInt32, .int ((XT.ushrL d (16 : Int32)) &&& (255 : Int64)).toInt32.toUInt32.toUInt16.toUInt32.toInt32.toUInt32.toUInt16.toUInt32.toInt32.toUInt32.toUInt16.toUInt32.toInt32, .int ((XT.ushrL d (24 : Int32)) &&& (255 : Int64)).toInt32.toUInt32.toUInt16.toUInt32.toInt32.toUInt32.toUInt16.toUInt32.toInt32.toUInt32.toUInt16.toUInt32.toInt32, .int ((XT.ushrL d (32 : Int32)) &&& (255 : Int64)).toInt32.toUInt32.toUInt16.toUInt32.toInt32.toUInt32.toUInt16.toUInt32.toInt32.toUInt32.toUInt16.toUInt32.toInt32, .int ((XT.ushrL d (40 : Int32)) &&& (255 : Int64)).toInt32.toUInt32.toUInt16.toUInt32.toInt32.toUInt32.toUInt16.toUInt32.toInt32.toUInt32.toUInt16.toUInt32.toInt32, .int (0 : Int32)])], 2, 7)) rfl ?_
      refine ES.call (Qc := fun r => r = (some (.int ((XT.ushrL d (48 : Int32)) &&& (255 : Int64)).toInt32.toUInt32.toUInt16.toUInt32.toInt32.toUInt32.toUInt16.toUInt32.toInt32), [B0, B1, B2, B3, B4, B5, B6, .inl (.char, []), .inl (.char, [.int ((XT.ushrL d (0 : Int32)) &&& (255 : Int64)).toInt32.toUInt32.toUInt16.toUInt32.toInt32.toUInt32.toUInt16.toUInt32.toInt32.toUInt32.toUInt16.toUInt32.toInt32, .int ((XT.ushrL d (8 : Int32)) &&& (255 : Int64)).toInt32.toUInt32.toUInt16.toUInt32.toInt32.toUInt32.toUInt16.toUInt32.toInt32.toUInt32.toUInt16.toUInt32.toInt32, .int ((XT.ushrL d (16 : Int32)) &&& (255 : Int64)).toInt32.toUInt32.toUInt16.toUInt32.toInt32.toUInt32.toUInt16.toUInt32.toInt32.toUInt32.toUInt16.toUInt32.toInt32, .int ((XT.ushrL d (24 : Int32)) &&& (255 : Int64)).toInt32.toUInt32.toUInt16.toUInt32.toInt32.toUInt32.toUInt16.toUInt32.toInt32.toUInt32.toUInt16.toUInt32.toInt32, .int ((XT.ushrL d (32 : Int32)) &&& (255 : Int64)).toInt32.toUInt32.toUInt16.toUInt32.toInt32.toUInt32.toUInt16.toUInt32.toInt32.toUInt32.toUInt16.toUInt32.toInt32, .int ((XT.ushrL d (40 : Int32)) &&& (255 : Int64)).toInt32.toUInt32.toUInt16.toUInt32.toInt32.toUInt32.toUInt16.toUInt32.toInt32.toUInt32.toUInt16.toUInt32.toInt32, .int (0 : Int32)])], 0, 0)) rfl (EW.all 14 (r := (some (.int ((XT.ushrL d (48 : Int32)) &&& (255 : Int64)).toInt32.toUInt32.toUInt16.toUInt32.toInt32.toUInt32.toUInt16.toUInt32.toInt32), [B0, B1, B2, B3, B4, B5, B6, .inl (.char, []), .inl (.char, [.int ((XT.ushrL d (0 : Int32)) &&& (255 : Int64)).toInt32.toUInt32.toUInt16.toUInt32.toInt32.toUInt32.toUInt16.toUInt32.toInt32.toUInt32.toUInt16.toUInt32.toInt32, .int ((XT.ushrL d (8 : Int32)) &&& (255 : Int64)).toInt32.toUInt32.toUInt16.toUInt32.toInt32.toUInt32.toUInt16.toUInt32.toInt32.toUInt32.toUInt16.toUInt32.toInt32, .int ((XT.ushrL d (16 : Int32)) &&& (255 : Int64)).toInt32.toUInt32.toUInt16.toUInt32.toInt32.toUInt32.toUInt16.toUInt32.toInt32.toUInt32.toUInt16.toUInt32.toInt32, .int ((XT.ushrL d (24 : Int32)) &&& (255 : Int64)).toInt32.toUInt32.toUInt16.toUInt32.toInt32.toUInt32.toUInt16.toUInt32.toInt32.toUInt32.toUInt16.toUInt32.toInt32, .int ((XT.ushrL d (32 : Int32)) &&& (255 : Int64)).toInt32.toUInt32.toUInt16.toUInt32.toInt32.toUInt32.toUInt16.toUInt32.toInt32.toUInt32.toUInt16.toUInt32.toInt32, .int ((XT.ushrL d (40 : Int32)) &&& (255 : Int64)).toInt32.toUInt32.toUInt16.toUInt32.toInt32.toUInt32.toUInt16.toUInt32.toInt32.toUInt32.toUInt16.toUInt32.toInt32, .int (0 : Int32)])], 0, 0)) rfl rfl) ?_
      rintro _ _ _ _ ⟨⟩
      show ES _ _ _ _ _ _ ((178, [.val (.int a), .val (.int b), .val (.int c), .val (.long d), .second, .val (.int (b &&& (3 : Int32))), .val (.ref 7), .val (.ref 8), .unset, .unset, .unset], [.int ((XT.ushrL d (48 : Int32)) &&& (255 : Int64)).toInt32.toUInt32.toUInt16.toUInt32.toInt32.toUInt32.toUInt16.toUInt32.toInt32, .int (6 : Int32), .ref 8]), [B0, B1, B2, B3, B4, B5, B6, .inl (.char, []), .inl (.char, [.int ((XT.ushrL d (0 : Int32)) &&& (255 : Int64)).toInt32.toUInt32.toUInt16.toUInt32.toInt32.toUInt32.toUInt16.toUInt32.toInt32.toUInt32.toUInt16.toUInt32.toInt32, .int ((XT.ushrL d (8 : Int32)) &&& (255 : Int64)).toInt32.toUInt32.toUInt16.toUInt32.toInt32.toUInt32.toUInt16.toUInt32.toInt32.toUInt32.toUInt16.toUInt32.toInt32, .int ((XT.ushrL d (16 : Int32)) &&& (255 : Int64)).toInt32.toUInt32.toUInt16.toUInt32.toInt32.toUInt32.toUInt16.toUInt32.toInt32.toUInt32.toUInt16.toUInt32.toInt32, .int ((XT.ushrL d (24 : Int32)) &&& (255 : Int64)).toInt32.toUInt32.toUInt16.toUInt32.toInt32.toUInt32.toUInt16.toUInt32.toInt32.toUInt32.toUInt16.toUInt32.toInt32, .int ((XT.ushrL d (32 : Int32)) &&& (255 : Int64)).toInt32.toUInt32.toUInt16.toUInt32.toInt32.toUInt32.toUInt16.toUInt32.toInt32.toUInt32.toUInt16.toUInt32.toInt32, .int ((XT.ushrL d (40 : Int32)) &&& (255 : Int64)).toInt32.toUInt32.toUInt16.toUInt32.toInt32.toUInt32.toUInt16.toUInt32.toInt32.toUInt32.toUInt16.toUInt32.toInt32, .int (0 : Int32)])], 2, 7)
      refine ES.run 4 (cf' := ((182, [.val (.int a), .val (.int b), .val (.int c), .val (.long d), .second, .val (.int (b &&& (3 : Int32))), .val (.ref 7), .val (.ref 8), .unset, .unset, .unset], [.int (b &&& (4 : Int32))]), [B0, B1, B2, B3, B4, B5, B6, .inl (.char, []), .inl (.char, [.int ((XT.ushrL d (0 : Int32)) &&& (255 : Int64)).toInt32.toUInt32.toUInt16.toUInt32.toInt32.toUInt32.toUInt16.toUInt32.toInt32.toUInt32.toUInt16.toUInt32.toInt32, .int ((XT.ushrL d (8 : Int32)) &&& (255 : Int64)).toInt32.toUInt32.toUInt16.toUInt32.toInt32.toUInt32.toUInt16.toUInt32.toInt32.toUInt32.toUInt16.toUInt32.toInt32, .int ((XT.ushrL d (16 : Int32)) &&& (255 : Int64)).toInt32.toUInt32.toUInt16.toUInt32.toInt32.toUInt32.toUInt16.toUInt32.toInt32.toUInt32.toUInt16.toUInt32.toInt32, .int ((XT.ushrL d (24 : Int32)) &&& (255 : Int64)).toInt32.toUInt32.toUInt16.toUInt32.toInt32.toUInt32.toUInt16.toUInt32.toInt32.toUInt32.toUInt16.toUInt32.toInt32, .int ((XT.ushrL d (32 : Int32)) &&& (255 : Int64)).toInt32.toUInt32.toUInt16.toUInt32.toInt32.toUInt32.toUInt16.toUInt32.toInt32.toUInt32.toUInt16.toUInt32.toInt32, .int ((XT.ushrL d (40 : Int32)) &&& (255 : Int64)).toInt32.toUInt32.toUInt16.toUInt32.toInt32.toUInt32.toUInt16.toUInt32.toInt32.toUInt32.toUInt16.toUInt32.toInt32, .int ((XT.ushrL d (48 : Int32)) &&& (255 : Int64)).toInt32.toUInt32.toUInt16.toUInt32.toInt32.toUInt32.toUInt16.toUInt32.toInt32.toUInt32.toUInt16.toUInt32.toInt32])], 2, 7)) rfl ?_
      refine ES.ifc rfl (by decide) (fun h => ?_) (fun h => ?_)
      · show ES _ _ _ _ _ _ ((208, [.val (.int a), .val (.int b), .val (.int c), .val (.long d), .second, .val (.int (b &&& (3 : Int32))), .val (.ref 7), .val (.ref 8), .unset, .unset, .unset], []), [B0, B1, B2, B3, B4, B5, B6, .inl (.char, []), .inl (.char, [.int ((XT.ushrL d (0 : Int32)) &&& (255 : Int64)).toInt32.toUInt32.toUInt16.toUInt32.toInt32.toUInt32.toUInt16.toUInt32.toInt32.toUInt32.toUInt16.toUInt32.toInt32, .int ((XT.ushrL d (8 : Int32)) &&& (255 : Int64)).toInt32.toUInt32.toUInt16.toUInt32.toInt32.toUInt32.toUInt16.toUInt32.toInt32.toUInt32.toUInt16.toUInt32.toInt32, .int ((XT.ushrL d (16 : Int32)) &&& (255 : Int64)).toInt32.toUInt32.toUInt16.toUInt32.toInt32.toUInt32.toUInt16.toUInt32.toInt32.toUInt32.toUInt16.toUInt32.toInt32, .int ((XT.ushrL d (24 : Int32)) &&& (255 : Int64)).toInt32.toUInt32.toUInt16.toUInt32.toInt32.toUInt32.toUInt16.toUInt32.toInt32.toUInt32.toUInt16.toUInt32.toInt32, .int ((XT.ushrL d (32 : Int32)) &&& (255 : Int64)).toInt32.toUInt32.toUInt16.toUInt32.toInt32.toUInt32.toUInt16.toUInt32.toInt32.toUInt32.toUInt16.toUInt32.toInt32, .int ((XT.ushrL d (40 : Int32)) &&& (255 : Int64)).toInt32.toUInt32.toUInt16.toUInt32.toInt32.toUInt32.toUInt16.toUInt32.toInt32.toUInt32.toUInt16.toUInt32.toInt32, .int ((XT.ushrL d (48 : Int32)) &&& (255 : Int64)).toInt32.toUInt32.toUInt16.toUInt32.toInt32.toUInt32.toUInt16.toUInt32.toInt32.toUInt32.toUInt16.toUInt32.toInt32])], 2, 7)
        exact ES.stop ⟨_, _, _, _, _, _, _, _, _, _, _, rfl, by decide, Or.inl rfl, (own_d3 _), (own_d3 _), (own_d3 _), (own_d3 _), (own_d3 _), (own_d3 _), (own_d3 _)⟩
      · show ES _ _ _ _ _ _ ((185, [.val (.int a), .val (.int b), .val (.int c), .val (.long d), .second, .val (.int (b &&& (3 : Int32))), .val (.ref 7), .val (.ref 8), .unset, .unset, .unset], []), [B0, B1, B2, B3, B4, B5, B6, .inl (.char, []), .inl (.char, [.int ((XT.ushrL d (0 : Int32)) &&& (255 : Int64)).toInt32.toUInt32.toUInt16.toUInt32.toInt32.toUInt32.toUInt16.toUInt32.toInt32.toUInt32.toUInt16.toUInt32.toInt32, .int ((XT.ushrL d (8 : Int32)) &&& (255 : Int64)).toInt32.toUInt32.toUInt16.toUInt32.toInt32.toUInt32.toUInt16.toUInt32.toInt32.toUInt32.toUInt16.toUInt32.toInt32, .int ((XT.ushrL d (16 : Int32)) &&& (255 : Int64)).toInt32.toUInt32.toUInt16.toUInt32.toInt32.toUInt32.toUInt16.toUInt32.toInt32.toUInt32.toUInt16.toUInt32.toInt32, .int ((XT.ushrL d (24 : Int32)) &&& (255 : Int64)).toInt32.toUInt32.toUInt16.toUInt32.toInt32.toUInt32.toUInt16.toUInt32.toInt32.toUInt32.toUInt16.toUInt32.toInt32, .int ((XT.ushrL d (32 : Int32)) &&& (255 : Int64)).toInt32.toUInt32.toUInt16.toUInt32.toInt32.toUInt32.toUInt16.toUInt32.toInt32.toUInt32.toUInt16.toUInt32.toInt32, .int ((XT.ushrL d (40 : Int32)) &&& (255 : Int64)).toInt32.toUInt32.toUInt16.toUInt32.toInt32.toUInt32.toUInt16.toUInt32.toInt32.toUInt32.toUInt16.toUInt32.toInt32, .int ((XT.ushrL d (48 : Int32)) &&& (255 : Int64)).toInt32.toUInt32.toUInt16.toUInt32.toInt32.toUInt32.toUInt16.toUInt32.toInt32.toUInt32.toUInt16.toUInt32.toInt32])], 2, 7)
        refine ES.run 5 (cf' := ((192, [.val (.int a), .val (.int b), .val (.int c), .val (.long d), .second, .val (.int (b &&& (3 : Int32))), .val (.ref 7), .val (.ref 8), .unset, .unset, .unset], [.int ((c &&& (2147483647 : Int32)) % (7 : Int32))]), [B0, B1, B2, B3, B4, B5, B6, .inl (.char, []), .inl (.char, [.int ((XT.ushrL d (0 : Int32)) &&& (255 : Int64)).toInt32.toUInt32.toUInt16.toUInt32.toInt32.toUInt32.toUInt16.toUInt32.toInt32.toUInt32.toUInt16.toUInt32.toInt32, .int ((XT.ushrL d (8 : Int32)) &&& (255 : Int64)).toInt32.toUInt32.toUInt16.toUInt32.toInt32.toUInt32.toUInt16.toUInt32.toInt32.toUInt32.toUInt16.toUInt32.toInt32, .int ((XT.ushrL d (16 : Int32)) &&& (255 : Int64)).toInt32.toUInt32.toUInt16.toUInt32.toInt32.toUInt32.toUInt16.toUInt32.toInt32.toUInt32.toUInt16.toUInt32.toInt32, .int ((XT.ushrL d (24 : Int32)) &&& (255 : Int64)).toInt32.toUInt32.toUInt16.toUInt32.toInt32.toUInt32.toUInt16.toUInt32.toInt32.toUInt32.toUInt16.toUInt32.toInt32, .int ((XT.ushrL d (32 : Int32)) &&& (255 : Int64)).toInt32.toUInt32.toUInt16.toUInt32.toInt32.toUInt32.toUInt16.toUInt32.toInt32.toUInt32.toUInt16.toUInt32.toInt32, .int ((XT.ushrL d (40 : Int32)) &&& (255 : Int64)).toInt32.toUInt32.toUInt16.toUInt32.toInt32.toUInt32.toUInt16.toUInt32.toInt32.toUInt32.toUInt16.toUInt32.toInt32, .int ((XT.ushrL d (48 : Int32)) &&& (255 : Int64)).toInt32.toUInt32.toUInt16.toUInt32.toInt32.toUInt32.toUInt16.toUInt32.toInt32.toUInt32.toUInt16.toUInt32.toInt32])], 2, 7)) rfl ?_
        obtain ⟨j, hj, ej⟩ := own_r7 c
        rw [ej]
        match j, hj with
        | 0, _ =>
          show ES _ _ _ _ _ _ ((192, [.val (.int a), .val (.int b), .val (.int c), .val (.long d), .second, .val (.int (b &&& (3 : Int32))), .val (.ref 7), .val (.ref 8), .unset, .unset, .unset], [.int (0 : Int32)]), [B0, B1, B2, B3, B4, B5, B6, .inl (.char, []), .inl (.char, [.int ((XT.ushrL d (0 : Int32)) &&& (255 : Int64)).toInt32.toUInt32.toUInt16.toUInt32.toInt32.toUInt32.toUInt16.toUInt32.toInt32.toUInt32.toUInt16.toUInt32.toInt32, .int ((XT.ushrL d (8 : Int32)) &&& (255 : Int64)).toInt32.toUInt32.toUInt16.toUInt32.toInt32.toUInt32.toUInt16.toUInt32.toInt32.toUInt32.toUInt16.toUInt32.toInt32, .int ((XT.ushrL d (16 : Int32)) &&& (255 : Int64)).toInt32.toUInt32.toUInt16.toUInt32.toInt32.toUInt32.toUInt16.toUInt32.toInt32.toUInt32.toUInt16.toUInt32.toInt32, .int ((XT.ushrL d (24 : Int32)) &&& (255 : Int64)).toInt32.toUInt32.toUInt16.toUInt32.toInt32.toUInt32.toUInt16.toUInt32.toInt32.toUInt32.toUInt16.toUInt32.toInt32, .int ((XT.ushrL d (32 : Int32)) &&& (255 : Int64)).toInt32.toUInt32.toUInt16.toUInt32.toInt32.toUInt32.toUInt16.toUInt32.toInt32.toUInt32.toUInt16.toUInt32.toInt32, .int ((XT.ushrL d (40 : Int32)) &&& (255 : Int64)).toInt32.toUInt32.toUInt16.toUInt32.toInt32.toUInt32.toUInt16.toUInt32.toInt32.toUInt32.toUInt16.toUInt32.toInt32, .int ((XT.ushrL d (48 : Int32)) &&& (255 : Int64)).toInt32.toUInt32.toUInt16.toUInt32.toInt32.toUInt32.toUInt16.toUInt32.toInt32.toUInt32.toUInt16.toUInt32.toInt32])], 2, 7)
          refine ES.run 10 (cf' := ((208, [.val (.int a), .val (.int b), .val (.int c), .val (.long d), .second, .val (.int (b &&& (3 : Int32))), .val (.ref 7), .val (.ref 8), .val (.int (0 : Int32)), .unset, .unset], []), [B0, B1, B2, B3, B4, B5, B6, .inl (.char, []), .inl (.char, [.int ((XT.ushr c (8 : Int32)) &&& (255 : Int32)).toUInt32.toUInt16.toUInt32.toInt32.toUInt32.toUInt16.toUInt32.toInt32, .int ((XT.ushrL d (8 : Int32)) &&& (255 : Int64)).toInt32.toUInt32.toUInt16.toUInt32.toInt32.toUInt32.toUInt16.toUInt32.toInt32.toUInt32.toUInt16.toUInt32.toInt32, .int ((XT.ushrL d (16 : Int32)) &&& (255 : Int64)).toInt32.toUInt32.toUInt16.toUInt32.toInt32.toUInt32.toUInt16.toUInt32.toInt32.toUInt32.toUInt16.toUInt32.toInt32, .int ((XT.ushrL d (24 : Int32)) &&& (255 : Int64)).toInt32.toUInt32.toUInt16.toUInt32.toInt32.toUInt32.toUInt16.toUInt32.toInt32.toUInt32.toUInt16.toUInt32.toInt32, .int ((XT.ushrL d (32 : Int32)) &&& (255 : Int64)).toInt32.toUInt32.toUInt16.toUInt32.toInt32.toUInt32.toUInt16.toUInt32.toInt32.toUInt32.toUInt16.toUInt32.toInt32, .int ((XT.ushrL d (40 : Int32)) &&& (255 : Int64)).toInt32.toUInt32.toUInt16.toUInt32.toInt32.toUInt32.toUInt16.toUInt32.toInt32.toUInt32.toUInt16.toUInt32.toInt32, .int ((XT.ushrL d (48 : Int32)) &&& (255 : Int64)).toInt32.toUInt32.toUInt16.toUInt32.toInt32.toUInt32.toUInt16.toUInt32.toInt32.toUInt32.toUInt16.toUInt32.toInt32])], 2, 7)) rfl ?_
          exact ES.stop ⟨_, _, _, _, _, _, _, _, _, _, _, rfl, by decide, Or.inr ⟨_, rfl⟩, (own_c2 _), (own_d3 _), (own_d3 _), (own_d3 _), (own_d3 _), (own_d3 _), (own_d3 _)⟩
        | 1, _ =>
          show ES _ _ _ _ _ _ ((192, [.val (.int a), .val (.int b), .val (.int c), .val (.long d), .second, .val (.int (b &&& (3 : Int32))), .val (.ref 7), .val (.ref 8), .unset, .unset, .unset], [.int (1 : Int32)]), [B0, B1, B2, B3, B4, B5, B6, .inl (.char, []), .inl (.char, [.int ((XT.ushrL d (0 : Int32)) &&& (255 : Int64)).toInt32.toUInt32.toUInt16.toUInt32.toInt32.toUInt32.toUInt16.toUInt32.toInt32.toUInt32.toUInt16.toUInt32.toInt32, .int ((XT.ushrL d (8 : Int32)) &&& (255 : Int64)).toInt32.toUInt32.toUInt16.toUInt32.toInt32.toUInt32.toUInt16.toUInt32.toInt32.toUInt32.toUInt16.toUInt32.toInt32, .int ((XT.ushrL d (16 : Int32)) &&& (255 : Int64)).toInt32.toUInt32.toUInt16.toUInt32.toInt32.toUInt32.toUInt16.toUInt32.toInt32.toUInt32.toUInt16.toUInt32.toInt32, .int ((XT.ushrL d (24 : Int32)) &&& (255 : Int64)).toInt32.toUInt32.toUInt16.toUInt32.toInt32.toUInt32.toUInt16.toUInt32.toInt32.toUInt32.toUInt16.toUInt32.toInt32, .int ((XT.ushrL d (32 : Int32)) &&& (255 : Int64)).toInt32.toUInt32.toUInt16.toUInt32.toInt32.toUInt32.toUInt16.toUInt32.toInt32.toUInt32.toUInt16.toUInt32.toInt32, .int ((XT.ushrL d (40 : Int32)) &&& (255 : Int64)).toInt32.toUInt32.toUInt16.toUInt32.toInt32.toUInt32.toUInt16.toUInt32.toInt32.toUInt32.toUInt16.toUInt32.toInt32, .int ((XT.ushrL d (48 : Int32)) &&& (255 : Int64)).toInt32.toUInt32.toUInt16.toUInt32.toInt32.toUInt32.toUInt16.toUInt32.toInt32.toUInt32.toUInt16.toUInt32.toInt32])], 2, 7)
          refine ES.run 10 (cf' := ((208, [.val (.int a), .val (.int b), .val (.int c), .val (.long d), .second, .val (.int (b &&& (3 : Int32))), .val (.ref 7), .val (.ref 8), .val (.int (1 : Int32)), .unset, .unset], []), [B0, B1, B2, B3, B4, B5, B6, .inl (.char, []), .inl (.char, [.int ((XT.ushrL d (0 : Int32)) &&& (255 : Int64)).toInt32.toUInt32.toUInt16.toUInt32.toInt32.toUInt32.toUInt16.toUInt32.toInt32.toUInt32.toUInt16.toUInt32.toInt32, .int ((XT.ushr c (8 : Int32)) &&& (255 : Int32)).toUInt32.toUInt16.toUInt32.toInt32.toUInt32.toUInt16.toUInt32.toInt32, .int ((XT.ushrL d (16 : Int32)) &&& (255 : Int64)).toInt32.toUInt32.toUInt16.toUInt32.toInt32.toUInt32.toUInt16.toUInt32.toInt32.toUInt32.toUInt16.toUInt32.toInt32, .int ((XT.ushrL d (24 : Int32)) &&& (255 : Int64)).toInt32.toUInt32.toUInt16.toUInt32.toInt32.toUInt32.toUInt16.toUInt32.toInt32.toUInt32.toUInt16.toUInt32.toInt32, .int ((XT.ushrL d (32 : Int32)) &&& (255 : Int64)).toInt32.toUInt32.toUInt16.toUInt32.toInt32.toUInt32.toUInt16.toUInt32.toInt32.toUInt32.toUInt16.toUInt32.toInt32, .int ((XT.ushrL d (40 : Int32)) &&& (255 : Int64)).toInt32.toUInt32.toUInt16.toUInt32.toInt32.toUInt32.toUInt16.toUInt32.toInt32.toUInt32.toUInt16.toUInt32.toInt32, .int ((XT.ushrL d (48 : Int32)) &&& (255 : Int64)).toInt32.toUInt32.toUInt16.toUInt32.toInt32.toUInt32.toUInt16.toUInt32.toInt32.toUInt32.toUInt16.toUInt32.toInt32])], 2, 7)) rfl ?_
          exact ES.stop ⟨_, _, _, _, _, _, _, _, _, _, _, rfl, by decide, Or.inr ⟨_, rfl⟩, (own_d3 _), (own_c2 _), (own_d3 _), (own_d3 _), (own_d3 _), (own_d3 _), (own_d3 _)⟩
        | 2, _ =>
          show ES _ _ _ _ _ _ ((192, [.val (.int a), .val (.int b), .val (.int c), .val (.long d), .second, .val (.int (b &&& (3 : Int32))), .val (.ref 7), .val (.ref 8), .unset, .unset, .unset], [.int (2 : Int32)]), [B0, B1, B2, B3, B4, B5, B6, .inl (.char, []), .inl (.char, [.int ((XT.ushrL d (0 : Int32)) &&& (255 : Int64)).toInt32.toUInt32.toUInt16.toUInt32.toInt32.toUInt32.toUInt16.toUInt32.toInt32.toUInt32.toUInt16.toUInt32.toInt32, .int ((XT.ushrL d (8 : Int32)) &&& (255 : Int64)).toInt32.toUInt32.toUInt16.toUInt32.toInt32.toUInt32.toUInt16.toUInt32.toInt32.toUInt32.toUInt16.toUInt32.toInt32, .int ((XT.ushrL d (16 : Int32)) &&& (255 : Int64)).toInt32.toUInt32.toUInt16.toUInt32.toInt32.toUInt32.toUInt16.toUInt32.toInt32.toUInt32.toUInt16.toUInt32.toInt32, .int ((XT.ushrL d (24 : Int32)) &&& (255 : Int64)).toInt32.toUInt32.toUInt16.toUInt32.toInt32.toUInt32.toUInt16.toUInt32.toInt32.toUInt32.toUInt16.toUInt32.toInt32, .int ((XT.ushrL d (32 : Int32)) &&& (255 : Int64)).toInt32.toUInt32.toUInt16.toUInt32.toInt32.toUInt32.toUInt16.toUInt32.toInt32.toUInt32.toUInt16.toUInt32.toInt32, .int ((XT.ushrL d (40 : Int32)) &&& (255 : Int64)).toInt32.toUInt32.toUInt16.toUInt32.toInt32.toUInt32.toUInt16.toUInt32.toInt32.toUInt32.toUInt16.toUInt32.toInt32, .int ((XT.ushrL d (48 : Int32)) &&& (255 : Int64)).toInt32.toUInt32.toUInt16.toUInt32.toInt32.toUInt32.toUInt16.toUInt32.toInt32.toUInt32.toUInt16.toUInt32.toInt32])], 2, 7)
          refine ES.run 10 (cf' := ((208, [.val (.int a), .val (.int b), .val (.int c), .val (.long d), .second, .val (.int (b &&& (3 : Int32))), .val (.ref 7), .val (.ref 8), .val (.int (2 : Int32)), .unset, .unset], []), [B0, B1, B2, B3, B4, B5, B6, .inl (.char, []), .inl (.char, [.int ((XT.ushrL d (0 : Int32)) &&& (255 : Int64)).toInt32.toUInt32.toUInt16.toUInt32.toInt32.toUInt32.toUInt16.toUInt32.toInt32.toUInt32.toUInt16.toUInt32.toInt32, .int ((XT.ushrL d (8 : Int32)) &&& (255 : Int64)).toInt32.toUInt32.toUInt16.toUInt32.toInt32.toUInt32.toUInt16.toUInt32.toInt32.toUInt32.toUInt16.toUInt32.toInt32, .int ((XT.ushr c (8 : Int32)) &&& (255 : Int32)).toUInt32.toUInt16.toUInt32.toInt32.toUInt32.toUInt16.toUInt32.toInt32, .int ((XT.ushrL d (24 : Int32)) &&& (255 : Int64)).toInt32.toUInt32.toUInt16.toUInt32.toInt32.toUInt32.toUInt16.toUInt32.toInt32.toUInt32.toUInt16.toUInt32.toInt32, .int ((XT.ushrL d (32 : Int32)) &&& (255 : Int64)).toInt32.toUInt32.toUInt16.toUInt32.toInt32.toUInt32.toUInt16.toUInt32.toInt32.toUInt32.toUInt16.toUInt32.toInt32, .int ((XT.ushrL d (40 : Int32)) &&& (255 : Int64)).toInt32.toUInt32.toUInt16.toUInt32.toInt32.toUInt32.toUInt16.toUInt32.toInt32.toUInt32.toUInt16.toUInt32.toInt32, .int ((XT.ushrL d (48 : Int32)) &&& (255 : Int64)).toInt32.toUInt32.toUInt16.toUInt32.toInt32.toUInt32.toUInt16.toUInt32.toInt32.toUInt32.toUInt16.toUInt32.toInt32])], 2, 7)) rfl ?_
          exact ES.stop ⟨_, _, _, _, _, _, _, _, _, _, _, rfl, by decide, Or.inr ⟨_, rfl⟩, (own_d3 _), (own_d3 _), (own_c2 _), (own_d3 _), (own_d3 _), (own_d3 _), (own_d3 _)⟩
        | 3, _ =>
          show ES _ _ _ _ _ _ ((192, [.val (.int a), .val (.int b), .val (.int c), .val (.long d), .second, .val (.int (b &&& (3 : Int32))), .val (.ref 7), .val (.ref 8), .unset, .unset, .unset], [.int (3 : Int32)]), [B0, B1, B2, B3, B4, B5, B6, .inl (.char, []), .inl (.char, [.int ((XT.ushrL d (0 : Int32)) &&& (255 : Int64)).toInt32.toUInt32.toUInt16.toUInt32.toInt32.toUInt32.toUInt16.toUInt32.toInt32.toUInt32.toUInt16.toUInt32.toInt32, .int ((XT.ushrL d (8 : Int32)) &&& (255 : Int64)).toInt32.toUInt32.toUInt16.toUInt32.toInt32.toUInt32.toUInt16.toUInt32.toInt32.toUInt32.toUInt16.toUInt32.toInt32, .int ((XT.ushrL d (16 : Int32)) &&& (255 : Int64)).toInt32.toUInt32.toUInt16.toUInt32.toInt32.toUInt32.toUInt16.toUInt32.toInt32.toUInt32.toUInt16.toUInt32.toInt32, .int ((XT.ushrL d (24 : Int32)) &&& (255 : Int64)).toInt32.toUInt32.toUInt16.toUInt32.toInt32.toUInt32.toUInt16.toUInt32.toInt32.toUInt32.toUInt16.toUInt32.toInt32, .int ((XT.ushrL d (32 : Int32)) &&& (255 : Int64)).toInt32.toUInt32.toUInt16.toUInt32.toInt32.toUInt32.toUInt16.toUInt32.toInt32.toUInt32.toUInt16.toUInt32.toInt32, .int ((XT.ushrL d (40 : Int32)) &&& (255 : Int64)).toInt32.toUInt32.toUInt16.toUInt32.toInt32.toUInt32.toUInt16.toUInt32.toInt32.toUInt32.toUInt16.toUInt32.toInt32, .int ((XT.ushrL d (48 : Int32)) &&& (255 : Int64)).toInt32.toUInt32.toUInt16.toUInt32.toInt32.toUInt32.toUInt16.toUInt32.toInt32.toUInt32.toUInt16.toUInt32.toInt32])], 2, 7)
          refine ES.run 10 (cf' := ((208, [.val (.int a), .val (.int b), .val (.int c), .val (.long d), .second, .val (.int (b &&& (3 : Int32))), .val (.ref 7), .val (.ref 8), .val (.int (3 : Int32)), .unset, .unset], []), [B0, B1, B2, B3, B4, B5, B6, .inl (.char, []), .inl (.char, [.int ((XT.ushrL d (0 : Int32)) &&& (255 : Int64)).toInt32.toUInt32.toUInt16.toUInt32.toInt32.toUInt32.toUInt16.toUInt32.toInt32.toUInt32.toUInt16.toUInt32.toInt32, .int ((XT.ushrL d (8 : Int32)) &&& (255 : Int64)).toInt32.toUInt32.toUInt16.toUInt32.toInt32.toUInt32.toUInt16.toUInt32.toInt32.toUInt32.toUInt16.toUInt32.toInt32, .int ((XT.ushrL d (16 : Int32)) &&& (255 : Int64)).toInt32.toUInt32.toUInt16.toUInt32.toInt32.toUInt32.toUInt16.toUInt32.toInt32.toUInt32.toUInt16.toUInt32.toInt32, .int ((XT.ushr c (8 : Int32)) &&& (255 : Int32)).toUInt32.toUInt16.toUInt32.toInt32.toUInt32.toUInt16.toUInt32.toInt32, .int ((XT.ushrL d (32 : Int32)) &&& (255 : Int64)).toInt32.toUInt32.toUInt16.toUInt32.toInt32.toUInt32.toUInt16.toUInt32.toInt32.toUInt32.toUInt16.toUInt32.toInt32, .int ((XT.ushrL d (40 : Int32)) &&& (255 : Int64)).toInt32.toUInt32.toUInt16.toUInt32.toInt32.toUInt32.toUInt16.toUInt32.toInt32.toUInt32.toUInt16.toUInt32.toInt32, .int ((XT.ushrL d (48 : Int32)) &&& (255 : Int64)).toInt32.toUInt32.toUInt16.toUInt32.toInt32.toUInt32.toUInt16.toUInt32.toInt32.toUInt32.toUInt16.toUInt32.toInt32])], 2, 7)) rfl ?_
          exact ES.stop ⟨_, _, _, _, _, _, _, _, _, _, _, rfl, by decide, Or.inr ⟨_, rfl⟩, (own_d3 _), (own_d3 _), (own_d3 _), (own_c2 _), (own_d3 _), (own_d3 _), (own_d3 _)⟩
        | 4, _ =>
          show ES _ _ _ _ _ _ ((192, [.val (.int a), .val (.int b), .val (.int c), .val (.long d), .second, .val (.int (b &&& (3 : Int32))), .val (.ref 7), .val (.ref 8), .unset, .unset, .unset], [.int (4 : Int32)]), [B0, B1, B2, B3, B4, B5, B6, .inl (.char, []), .inl (.char, [.int ((XT.ushrL d (0 : Int32)) &&& (255 : Int64)).toInt32.toUInt32.toUInt16.toUInt32.toInt32.toUInt32.toUInt16.toUInt32.toInt32.toUInt32.toUInt16.toUInt32.toInt32, .int ((XT.ushrL d (8 : Int32)) &&& (255 : Int64)).toInt32.toUInt32.toUInt16.toUInt32.toInt32.toUInt32.toUInt16.toUInt32.toInt32.toUInt32.toUInt16.toUInt32.toInt32, .int ((XT.ushrL d (16 : Int32)) &&& (255 : Int64)).toInt32.toUInt32.toUInt16.toUInt32.toInt32.toUInt32.toUInt16.toUInt32.toInt32.toUInt32.toUInt16.toUInt32.toInt32, .int ((XT.ushrL d (24 : Int32)) &&& (255 : Int64)).toInt32.toUInt32.toUInt16.toUInt32.toInt32.toUInt32.toUInt16.toUInt32.toInt32.toUInt32.toUInt16.toUInt32.toInt32, .int ((XT.ushrL d (32 : Int32)) &&& (255 : Int64)).toInt32.toUInt32.toUInt16.toUInt32.toInt32.toUInt32.toUInt16.toUInt32.toInt32.toUInt32.toUInt16.toUInt32.toInt32, .int ((XT.ushrL d (40 : Int32)) &&& (255 : Int64)).toInt32.toUInt32.toUInt16.toUInt32.toInt32.toUInt32.toUInt16.toUInt32.toInt32.toUInt32.toUInt16.toUInt32.toInt32, .int ((XT.ushrL d (48 : Int32)) &&& (255 : Int64)).toInt32.toUInt32.toUInt16.toUInt32.toInt32.toUInt32.toUInt16.toUInt32.toInt32.toUInt32.toUInt16.toUInt32.toInt32])], 2, 7)
          refine ES.run 10 (cf' := ((208, [.val (.int a), .val (.int b), .val (.int c), .val (.long d), .second, .val (.int (b &&& (3 : Int32))), .val (.ref 7), .val (.ref 8), .val (.int (4 : Int32)), .unset, .unset], []), [B0, B1, B2, B3, B4, B5, B6, .inl (.char, []), .inl (.char, [.int ((XT.ushrL d (0 : Int32)) &&& (255 : Int64)).toInt32.toUInt32.toUInt16.toUInt32.toInt32.toUInt32.toUInt16.toUInt32.toInt32.toUInt32.toUInt16.toUInt32.toInt32, .int ((XT.ushrL d (8 : Int32)) &&& (255 : Int64)).toInt32.toUInt32.toUInt16.toUInt32.toInt32.toUInt32.toUInt16.toUInt32.toInt32.toUInt32.toUInt16.toUInt32.toInt32, .int ((XT.ushrL d (16 : Int32)) &&& (255 : Int64)).toInt32.toUInt32.toUInt16.toUInt32.toInt32.toUInt32.toUInt16.toUInt32.toInt32.toUInt32.toUInt16.toUInt32.toInt32, .int ((XT.ushrL d (24 : Int32)) &&& (255 : Int64)).toInt32.toUInt32.toUInt16.toUInt32.toInt32.toUInt32.toUInt16.toUInt32.toInt32.toUInt32.toUInt16.toUInt32.toInt32, .int ((XT.ushr c (8 : Int32)) &&& (255 : Int32)).toUInt32.toUInt16.toUInt32.toInt32.toUInt32.toUInt16.toUInt32.toInt32, .int ((XT.ushrL d (40 : Int32)) &&& (255 : Int64)).toInt32.toUInt32.toUInt16.toUInt32.toInt32.toUInt32.toUInt16.toUInt32.toInt32.toUInt32.toUInt16.toUInt32.toInt32, .int ((XT.ushrL d (48 : Int32)) &&& (255 : Int64)).toInt32.toUInt32.toUInt16.toUInt32.toInt32.toUInt32.toUInt16.toUInt32.toInt32.toUInt32.toUInt16.toUInt32.toInt32])], 2, 7)) rfl ?_
          exact ES.stop ⟨_, _, _, _, _, _, _, _, _, _, _, rfl, by decide, Or.inr ⟨_, rfl⟩, (own_d3 _), (own_d3 _), (own_d3 _), (own_d3 _), (own_c2 _), (own_d3 _), (own_d3 _)⟩
        | 5, _ =>
          show ES _ _ _ _ _ _ ((192, [.val (.int a), .val (.int b), .val (.int c), .val (.long d), .second, .val (.int (b &&& (3 : Int32))), .val (.ref 7), .val (.ref 8), .unset, .unset, .unset], [.int (5 : Int32)]), [B0, B1, B2, B3, B4, B5, B6, .inl (.char, []), .inl (.char, [.int ((XT.ushrL d (0 : Int32)) &&& (255 : Int64)).toInt32.toUInt32.toUInt16.toUInt32.toInt32.toUInt32.toUInt16.toUInt32.toInt32.toUInt32.toUInt16.toUInt32.toInt32, .int ((XT.ushrL d (8 : Int32)) &&& (255 : Int64)).toInt32.toUInt32.toUInt16.toUInt32.toInt32.toUInt32.toUInt16.toUInt32.toInt32.toUInt32.toUInt16.toUInt32.toInt32, .int ((XT.ushrL d (16 : Int32)) &&& (255 : Int64)).toInt32.toUInt32.toUInt16.toUInt32.toInt32.toUInt32.toUInt16.toUInt32.toInt32.toUInt32.toUInt16.toUInt32.toInt32, .int ((XT.ushrL d (24 : Int32)) &&& (255 : Int64)).toInt32.toUInt32.toUInt16.toUInt32.toInt32.toUInt32.toUInt16.toUInt32.toInt32.toUInt32.toUInt16.toUInt32.toInt32, .int ((XT.ushrL d (32 : Int32)) &&& (255 : Int64)).toInt32.toUInt32.toUInt16.toUInt32.toInt32.toUInt32.toUInt16.toUInt32.toInt32.toUInt32.toUInt16.toUInt32.toInt32, .int ((XT.ushrL d (40 : Int32)) &&& (255 : Int64)).toInt32.toUInt32.toUInt16.toUInt32.toInt32.toUInt32.toUInt16.toUInt32.toInt32.toUInt32.toUInt16.toUInt32.toInt32, .int ((XT.ushrL d (48 : Int32)) &&& (255 : Int64)).toInt32.toUInt32.toUInt16.toUInt32.toInt32.toUInt32.toUInt16.toUInt32.toInt32.toUInt32.toUInt16.toUInt32.toInt32])], 2, 7)
          refine ES.run 10 (cf' := ((208, [.val (.int a), .val (.int b), .val (.int c), .val (.long d), .second, .val (.int (b &&& (3 : Int32))), .val (.ref 7), .val (.ref 8), .val (.int (5 : Int32)), .unset, .unset], []), [B0, B1, B2, B3, B4, B5, B6, .inl (.char, []), .inl (.char, [.int ((XT.ushrL d (0 : Int32)) &&& (255 : Int64)).toInt32.toUInt32.toUInt16.toUInt32.toInt32.toUInt32.toUInt16.toUInt32.toInt32.toUInt32.toUInt16.toUInt32.toInt32, .int ((XT.ushrL d (8 : Int32)) &&& (255 : Int64)).toInt32.toUInt32.toUInt16.toUInt32.toInt32.toUInt32.toUInt16.toUInt32.toInt32.toUInt32.toUInt16.toUInt32.toInt32, .int ((XT.ushrL d (16 : Int32)) &&& (255 : Int64)).toInt32.toUInt32.toUInt16.toUInt32.toInt32.toUInt32.toUInt16.toUInt32.toInt32.toUInt32.toUInt16.toUInt32.toInt32, .int ((XT.ushrL d (24 : Int32)) &&& (255 : Int64)).toInt32.toUInt32.toUInt16.toUInt32.toInt32.toUInt32.toUInt16.toUInt32.toInt32.toUInt32.toUInt16.toUInt32.toInt32, .int ((XT.ushrL d (32 : Int32)) &&& (255 : Int64)).toInt32.toUInt32.toUInt16.toUInt32.toInt32.toUInt32.toUInt16.toUInt32.toInt32.toUInt32.toUInt16.toUInt32.toInt32, .int ((XT.ushr c (8 : Int32)) &&& (255 : Int32)).toUInt32.toUInt16.toUInt32.toInt32.toUInt32.toUInt16.toUInt32.toInt32, .int ((XT.ushrL d (48 : Int32)) &&& (255 : Int64)).toInt32.toUInt32.toUInt16.toUInt32.toInt32.toUInt32.toUInt16.toUInt32.toInt32.toUInt32.toUInt16.toUInt32.toInt32])], 2, 7)) rfl ?_
          exact ES.stop ⟨_, _, _, _, _, _, _, _, _, _, _, rfl, by decide, Or.inr ⟨_, rfl⟩, (own_d3 _), (own_d3 _), (own_d3 _), (own_d3 _), (own_d3 _), (own_c2 _), (own_d3 _)⟩
        | 6, _ =>
          show ES _ _ _ _ _ _ ((192, [.val (.int a), .val (.int b), .val (.int c), .val (.long d), .second, .val (.int (b &&& (3 : Int32))), .val (.ref 7), .val (.ref 8), .unset, .unset, .unset], [.int (6 : Int32)]), [B0, B1, B2, B3, B4, B5, B6, .inl (.char, []), .inl (.char, [.int ((XT.ushrL d (0 : Int32)) &&& (255 : Int64)).toInt32.toUInt32.toUInt16.toUInt32.toInt32.toUInt32.toUInt16.toUInt32.toInt32.toUInt32.toUInt16.toUInt32.toInt32, .int ((XT.ushrL d (8 : Int32)) &&& (255 : Int64)).toInt32.toUInt32.toUInt16.toUInt32.toInt32.toUInt32.toUInt16.toUInt32.toInt32.toUInt32.toUInt16.toUInt32.toInt32, .int ((XT.ushrL d (16 : Int32)) &&& (255 : Int64)).toInt32.toUInt32.toUInt16.toUInt32.toInt32.toUInt32.toUInt16.toUInt32.toInt32.toUInt32.toUInt16.toUInt32.toInt32, .int ((XT.ushrL d (24 : Int32)) &&& (255 : Int64)).toInt32.toUInt32.toUInt16.toUInt32.toInt32.toUInt32.toUInt16.toUInt32.toInt32.toUInt32.toUInt16.toUInt32.toInt32, .int ((XT.ushrL d (32 : Int32)) &&& (255 : Int64)).toInt32.toUInt32.toUInt16.toUInt32.toInt32.toUInt32.toUInt16.toUInt32.toInt32.toUInt32.toUInt16.toUInt32.toInt32, .int ((XT.ushrL d (40 : Int32)) &&& (255 : Int64)).toInt32.toUInt32.toUInt16.toUInt32.toInt32.toUInt32.toUInt16.toUInt32.toInt32.toUInt32.toUInt16.toUInt32.toInt32, .int ((XT.ushrL d (48 : Int32)) &&& (255 : Int64)).toInt32.toUInt32.toUInt16.toUInt32.toInt32.toUInt32.toUInt16.toUInt32.toInt32.toUInt32.toUInt16.toUInt32.toInt32])], 2, 7)
          refine ES.run 10 (cf' := ((208, [.val (.int a), .val (.int b), .val (.int c), .val (.long d), .second, .val (.int (b &&& (3 : Int32))), .val (.ref 7), .val (.ref 8), .val (.int (6 : Int32)), .unset, .unset], []), [B0, B1, B2, B3, B4, B5, B6, .inl (.char, []), .inl (.char, [.int ((XT.ushrL d (0 : Int32)) &&& (255 : Int64)).toInt32.toUInt32.toUInt16.toUInt32.toInt32.toUInt32.toUInt16.toUInt32.toInt32.toUInt32.toUInt16.toUInt32.toInt32, .int ((XT.ushrL d (8 : Int32)) &&& (255 : Int64)).toInt32.toUInt32.toUInt16.toUInt32.toInt32.toUInt32.toUInt16.toUInt32.toInt32.toUInt32.toUInt16.toUInt32.toInt32, .int ((XT.ushrL d (16 : Int32)) &&& (255 : Int64)).toInt32.toUInt32.toUInt16.toUInt32.toInt32.toUInt32.toUInt16.toUInt32.toInt32.toUInt32.toUInt16.toUInt32.toInt32, .int ((XT.ushrL d (24 : Int32)) &&& (255 : Int64)).toInt32.toUInt32.toUInt16.toUInt32.toInt32.toUInt32.toUInt16.toUInt32.toInt32.toUInt32.toUInt16.toUInt32.toInt32, .int ((XT.ushrL d (32 : Int32)) &&& (255 : Int64)).toInt32.toUInt32.toUInt16.toUInt32.toInt32.toUInt32.toUInt16.toUInt32.toInt32.toUInt32.toUInt16.toUInt32.toInt32, .int ((XT.ushrL d (40 : Int32)) &&& (255 : Int64)).toInt32.toUInt32.toUInt16.toUInt32.toInt32.toUInt32.toUInt16.toUInt32.toInt32.toUInt32.toUInt16.toUInt32.toInt32, .int ((XT.ushr c (8 : Int32)) &&& (255 : Int32)).toUInt32.toUInt16.toUInt32.toInt32.toUInt32.toUInt16.toUInt32.toInt32])], 2, 7)) rfl ?_
          exact ES.stop ⟨_, _, _, _, _, _, _, _, _, _, _, rfl, by decide, Or.inr ⟨_, rfl⟩, (own_d3 _), (own_d3 _), (own_d3 _), (own_d3 _), (own_d3 _), (own_d3 _), (own_c2 _)⟩
        | j + 7, hj => exact absurd hj (by omega)
    · show ES _ _ _ _ _ _ ((50, [.val (.int a), .val (.int b), .val (.int c), .val (.long d), .second, .val (.int (b &&& (3 : Int32))), .unset, .unset, .unset, .unset, .unset], []), [B0, B1, B2, B3, B4, B5, B6], 0, 0)
      refine ES.run 8 (cf' := ((61, [.val (.int a), .val (.int b), .val (.int c), .val (.long d), .second, .val (.int (b &&& (3 : Int32))), .unset, .unset, .unset, .unset, .unset], [.int (1 : Int32), .ref 7, .ref 7]), [B0, B1, B2, B3, B4, B5, B6, .inl (.char, [.int (99 : Int32), .int (0 : Int32), .int (0 : Int32), .int (0 : Int32), .int (0 : Int32), .int (0 : Int32)])], 1, 6)) rfl ?_
      refine ES.run 8 (cf' := ((71, [.val (.int a), .val (.int b), .val (.int c), .val (.long d), .second, .val (.int (b &&& (3 : Int32))), .unset, .unset, .unset, .unset, .unset], [.int (3 : Int32), .ref 7, .ref 7]), [B0, B1, B2, B3, B4, B5, B6, .inl (.char, [.int (99 : Int32), .int (97 : Int32), .int (117 : Int32), .int (0 : Int32), .int (0 : Int32), .int (0 : Int32)])], 1, 6)) rfl ?_
      refine ES.run 8 (cf' := ((81, [.val (.int a), .val (.int b), .val (.int c), .val (.long d), .second, .val (.int (b &&& (3 : Int32))), .unset, .unset, .unset, .unset, .unset], [.int (5 : Int32), .ref 7, .ref 7]), [B0, B1, B2, B3, B4, B5, B6, .inl (.char, [.int (99 : Int32), .int (97 : Int32), .int (117 : Int32), .int (115 : Int32), .int (97 : Int32), .int (0 : Int32)])], 1, 6)) rfl ?_
      refine ES.run 8 (cf' := ((102, [.val (.int a), .val (.int b), .val (.int c), .val (.long d), .second, .val (.int (b &&& (3 : Int32))), .val (.ref 7), .val (.ref 8), .unset, .unset, .unset], [.ref 8]), [B0, B1, B2, B3, B4, B5, B6, .inl (.char, [.int (99 : Int32), .int (97 : Int32), .int (117 : Int32), .int (115 : Int32), .int (97 : Int32), .int (108 : Int32)]), .inl (.char, [.int (0 : Int32), .int (0 : Int32), .int (0 : Int32), .int (0 : Int32), .int (0 : Int32), .int (0 : Int32), .int (0 : Int32)])], 2, 13)) rfl ?_
      refine ES.run 4 (cf' := ((107, [.val (.int a), .val (.int b), .val (.int c), .val (.long d), .second, .val (.int (b &&& (3 : Int32))), .val (.ref 7), .val (.ref 8), .unset, .unset, .unset], [.long d, .ref 7, .int (0 : Int32), .int (0 : Int32), .ref 8]), [B0, B1, B2, B3, B4, B5, B6, .inl (.char, [.int (99 : Int32), .int (97 : Int32), .int (117 : Int32), .int (115 : Int32), .int (97 : Int32), .int (108 : Int32)]), .inl (.char, [.int (0 : Int32), .int (0 : Int32), .int (0 : Int32), .int (0 : Int32), .int (0 : Int32), .int (0 : Int32), .int (0 : Int32)])], 2, 13)) rfl ?_
      refine ES.call (Qc := fun r => r = (some (.int (99 : Int32)), [B0, B1, B2, B3, B4, B5, B6, .inl (.char, [.int (99 : Int32), .int (97 : Int32), .int (117 : Int32), .int (115 : Int32), .int (97 : Int32), .int (108 : Int32)]), .inl (.char, [.int (0 : Int32), .int (0 : Int32), .int (0 : Int32), .int (0 : Int32), .int (0 : Int32), .int (0 : Int32), .int (0 : Int32)])], 0, 0)) rfl (EW.all 8 (r := (some (.int (99 : Int32)), [B0, B1, B2, B3, B4, B5, B6, .inl (.char, [.int (99 : Int32), .int (97 : Int32), .int (117 : Int32), .int (115 : Int32), .int (97 : Int32), .int (108 : Int32)]), .inl (.char, [.int (0 : Int32), .int (0 : Int32), .int (0 : Int32), .int (0 : Int32), .int (0 : Int32), .int (0 : Int32), .int (0 : Int32)])], 0, 0)) rfl rfl) ?_
      rintro _ _ _ _ ⟨⟩
      show ES _ _ _ _ _ _ ((110, [.val (.int a), .val (.int b), .val (.int c), .val (.long d), .second, .val (.int (b &&& (3 : Int32))), .val (.ref 7), .val (.ref 8), .unset, .unset, .unset], [.int (99 : Int32), .int (0 : Int32), .ref 8]), [B0, B1, B2, B3, B4, B5, B6, .inl (.char, [.int (99 : Int32), .int (97 : Int32), .int (117 : Int32), .int (115 : Int32), .int (97 : Int32), .int (108 : Int32)]), .inl (.char, [.int (0 : Int32), .int (0 : Int32), .int (0 : Int32), .int (0 : Int32), .int (0 : Int32), .int (0 : Int32), .int (0 : Int32)])], 2, 13)
      refine ES.run 6 (cf' := ((118, [.val (.int a), .val (.int b), .val (.int c), .val (.long d), .second, .val (.int (b &&& (3 : Int32))), .val (.ref 7), .val (.ref 8), .unset, .unset, .unset], [.long d, .ref 7, .int (1 : Int32), .int (1 : Int32), .ref 8]), [B0, B1, B2, B3, B4, B5, B6, .inl (.char, [.int (99 : Int32), .int (97 : Int32), .int (117 : Int32), .int (115 : Int32), .int (97 : Int32), .int (108 : Int32)]), .inl (.char, [.int (99 : Int32), .int (0 : Int32), .int (0 : Int32), .int (0 : Int32), .int (0 : Int32), .int (0 : Int32), .int (0 : Int32)])], 2, 13)) rfl ?_
      refine ES.call (Qc := fun r => r = (some (.int (97 : Int32)), [B0, B1, B2, B3, B4, B5, B6, .inl (.char, [.int (99 : Int32), .int (97 : Int32), .int (117 : Int32), .int (115 : Int32), .int (97 : Int32), .int (108 : Int32)]), .inl (.char, [.int (99 : Int32), .int (0 : Int32), .int (0 : Int32), .int (0 : Int32), .int (0 : Int32), .int (0 : Int32), .int (0 : Int32)])], 0, 0)) rfl (EW.all 8 (r := (some (.int (97 : Int32)), [B0, B1, B2, B3, B4, B5, B6, .inl (.char, [.int (99 : Int32), .int (97 : Int32), .int (117 : Int32), .int (115 : Int32), .int (97 : Int32), .int (108 : Int32)]), .inl (.char, [.int (99 : Int32), .int (0 : Int32), .int (0 : Int32), .int (0 : Int32), .int (0 : Int32), .int (0 : Int32), .int (0 : Int32)])], 0, 0)) rfl rfl) ?_
      rintro _ _ _ _ ⟨⟩
      show ES _ _ _ _ _ _ ((121, [.val (.int a), .val (.int b), .val (.int c), .val (.long d), .second, .val (.int (b &&& (3 : Int32))), .val (.ref 7), .val (.ref 8), .unset, .unset, .unset], [.int (97 : Int32), .int (1 : Int32), .ref 8]), [B0, B1, B2, B3, B4, B5, B6, .inl (.char, [.int (99 : Int32), .int (97 : Int32), .int (117 : Int32), .int (115 : Int32), .int (97 : Int32), .int (108 : Int32)]), .inl (.char, [.int (99 : Int32), .int (0 : Int32), .int (0 : Int32), .int (0 : Int32), .int (0 : Int32), .int (0 : Int32), .int (0 : Int32)])], 2, 13)
      refine ES.run 6 (cf' := ((129, [.val (.int a), .val (.int b), .val (.int c), .val (.long d), .second, .val (.int (b &&& (3 : Int32))), .val (.ref 7), .val (.ref 8), .unset, .unset, .unset], [.long d, .ref 7, .int (2 : Int32), .int (2 : Int32), .ref 8]), [B0, B1, B2, B3, B4, B5, B6, .inl (.char, [.int (99 : Int32), .int (97 : Int32), .int (117 : Int32), .int (115 : Int32), .int (97 : Int32), .int (108 : Int32)]), .inl (.char, [.int (99 : Int32), .int (97 : Int32), .int (0 : Int32), .int (0 : Int32), .int (0 : Int32), .int (0 : Int32), .int (0 : Int32)])], 2, 13)) rfl ?_
      refine ES.call (Qc := fun r => r = (some (.int (117 : Int32)), [B0, B1, B2, B3, B4, B5, B6, .inl (.char, [.int (99 : Int32), .int (97 : Int32), .int (117 : Int32), .int (115 : Int32), .int (97 : Int32), .int (108 : Int32)]), .inl (.char, [.int (99 : Int32), .int (97 : Int32), .int (0 : Int32), .int (0 : Int32), .int (0 : Int32), .int (0 : Int32), .int (0 : Int32)])], 0, 0)) rfl (EW.all 8 (r := (some (.int (117 : Int32)), [B0, B1, B2, B3, B4, B5, B6, .inl (.char, [.int (99 : Int32), .int (97 : Int32), .int (117 : Int32), .int (115 : Int32), .int (97 : Int32), .int (108 : Int32)]), .inl (.char, [.int (99 : Int32), .int (97 : Int32), .int (0 : Int32), .int (0 : Int32), .int (0 : Int32), .int (0 : Int32), .int (0 : Int32)])], 0, 0)) rfl rfl) ?_
      rintro _ _ _ _ ⟨⟩
      show ES _ _ _ _ _ _ ((132, [.val (.int a), .val (.int b), .val (.int c), .val (.long d), .second, .val (.int (b &&& (3 : Int32))), .val (.ref 7), .val (.ref 8), .unset, .unset, .unset], [.int (117 : Int32), .int (2 : Int32), .ref 8]), [B0, B1, B2, B3, B4, B5, B6, .inl (.char, [.int (99 : Int32), .int (97 : Int32), .int (117 : Int32), .int (115 : Int32), .int (97 : Int32), .int (108 : Int32)]), .inl (.char, [.int (99 : Int32), .int (97 : Int32), .int (0 : Int32), .int (0 : Int32), .int (0 : Int32), .int (0 : Int32), .int (0 : Int32)])], 2, 13)
      refine ES.run 6 (cf' := ((140, [.val (.int a), .val (.int b), .val (.int c), .val (.long d), .second, .val (.int (b &&& (3 : Int32))), .val (.ref 7), .val (.ref 8), .unset, .unset, .unset], [.long d, .ref 7, .int (3 : Int32), .int (3 : Int32), .ref 8]), [B0, B1, B2, B3, B4, B5, B6, .inl (.char, [.int (99 : Int32), .int (97 : Int32), .int (117 : Int32), .int (115 : Int32), .int (97 : Int32), .int (108 : Int32)]), .inl (.char, [.int (99 : Int32), .int (97 : Int32), .int (117 : Int32), .int (0 : Int32), .int (0 : Int32), .int (0 : Int32), .int (0 : Int32)])], 2, 13)) rfl ?_
      refine ES.call (Qc := fun r => r = (some (.int (115 : Int32)), [B0, B1, B2, B3, B4, B5, B6, .inl (.char, [.int (99 : Int32), .int (97 : Int32), .int (117 : Int32), .int (115 : Int32), .int (97 : Int32), .int (108 : Int32)]), .inl (.char, [.int (99 : Int32), .int (97 : Int32), .int (117 : Int32), .int (0 : Int32), .int (0 : Int32), .int (0 : Int32), .int (0 : Int32)])], 0, 0)) rfl (EW.all 8 (r := (some (.int (115 : Int32)), [B0, B1, B2, B3, B4, B5, B6, .inl (.char, [.int (99 : Int32), .int (97 : Int32), .int (117 : Int32), .int (115 : Int32), .int (97 : Int32), .int (108 : Int32)]), .inl (.char, [.int (99 : Int32), .int (97 : Int32), .int (117 : Int32), .int (0 : Int32), .int (0 : Int32), .int (0 : Int32), .int (0 : Int32)])], 0, 0)) rfl rfl) ?_
      rintro _ _ _ _ ⟨⟩
      show ES _ _ _ _ _ _ ((143, [.val (.int a), .val (.int b), .val (.int c), .val (.long d), .second, .val (.int (b &&& (3 : Int32))), .val (.ref 7), .val (.ref 8), .unset, .unset, .unset], [.int (115 : Int32), .int (3 : Int32), .ref 8]), [B0, B1, B2, B3, B4, B5, B6, .inl (.char, [.int (99 : Int32), .int (97 : Int32), .int (117 : Int32), .int (115 : Int32), .int (97 : Int32), .int (108 : Int32)]), .inl (.char, [.int (99 : Int32), .int (97 : Int32), .int (117 : Int32), .int (0 : Int32), .int (0 : Int32), .int (0 : Int32), .int (0 : Int32)])], 2, 13)
      refine ES.run 6 (cf' := ((151, [.val (.int a), .val (.int b), .val (.int c), .val (.long d), .second, .val (.int (b &&& (3 : Int32))), .val (.ref 7), .val (.ref 8), .unset, .unset, .unset], [.long d, .ref 7, .int (4 : Int32), .int (4 : Int32), .ref 8]), [B0, B1, B2, B3, B4, B5, B6, .inl (.char, [.int (99 : Int32), .int (97 : Int32), .int (117 : Int32), .int (115 : Int32), .int (97 : Int32), .int (108 : Int32)]), .inl (.char, [.int (99 : Int32), .int (97 : Int32), .int (117 : Int32), .int (115 : Int32), .int (0 : Int32), .int (0 : Int32), .int (0 : Int32)])], 2, 13)) rfl ?_
      refine ES.call (Qc := fun r => r = (some (.int (97 : Int32)), [B0, B1, B2, B3, B4, B5, B6, .inl (.char, [.int (99 : Int32), .int (97 : Int32), .int (117 : Int32), .int (115 : Int32), .int (97 : Int32), .int (108 : Int32)]), .inl (.char, [.int (99 : Int32), .int (97 : Int32), .int (117 : Int32), .int (115 : Int32), .int (0 : Int32), .int (0 : Int32), .int (0 : Int32)])], 0, 0)) rfl (EW.all 8 (r := (some (.int (97 : Int32)), [B0, B1, B2, B3, B4, B5, B6, .inl (.char, [.int (99 : Int32), .int (97 : Int32), .int (117 : Int32), .int (115 : Int32), .int (97 : Int32), .int (108 : Int32)]), .inl (.char, [.int (99 : Int32), .int (97 : Int32), .int (117 : Int32), .int (115 : Int32), .int (0 : Int32), .int (0 : Int32), .int (0 : Int32)])], 0, 0)) rfl rfl) ?_
      rintro _ _ _ _ ⟨⟩
      show ES _ _ _ _ _ _ ((154, [.val (.int a), .val (.int b), .val (.int c), .val (.long d), .second, .val (.int (b &&& (3 : Int32))), .val (.ref 7), .val (.ref 8), .unset, .unset, .unset], [.int (97 : Int32), .int (4 : Int32), .ref 8]), [B0, B1, B2, B3, B4, B5, B6, .inl (.char, [.int (99 : Int32), .int (97 : Int32), .int (117 : Int32), .int (115 : Int32), .int (97 : Int32), .int (108 : Int32)]), .inl (.char, [.int (99 : Int32), .int (97 : Int32), .int (117 : Int32), .int (115 : Int32), .int (0 : Int32), .int (0 : Int32), .int (0 : Int32)])], 2, 13)
      refine ES.run 6 (cf' := ((162, [.val (.int a), .val (.int b), .val (.int c), .val (.long d), .second, .val (.int (b &&& (3 : Int32))), .val (.ref 7), .val (.ref 8), .unset, .unset, .unset], [.long d, .ref 7, .int (5 : Int32), .int (5 : Int32), .ref 8]), [B0, B1, B2, B3, B4, B5, B6, .inl (.char, [.int (99 : Int32), .int (97 : Int32), .int (117 : Int32), .int (115 : Int32), .int (97 : Int32), .int (108 : Int32)]), .inl (.char, [.int (99 : Int32), .int (97 : Int32), .int (117 : Int32), .int (115 : Int32), .int (97 : Int32), .int (0 : Int32), .int (0 : Int32)])], 2, 13)) rfl ?_
      refine ES.call (Qc := fun r => r = (some (.int (108 : Int32)), [B0, B1, B2, B3, B4, B5, B6, .inl (.char, [.int (99 : Int32), .int (97 : Int32), .int (117 : Int32), .int (115 : Int32), .int (97 : Int32), .int (108 : Int32)]), .inl (.char, [.int (99 : Int32), .int (97 : Int32), .int (117 : Int32), .int (115 : Int32), .int (97 : Int32), .int (0 : Int32), .int (0 : Int32)])], 0, 0)) rfl (EW.all 8 (r := (some (.int (108 : Int32)), [B0, B1, B2, B3, B4, B5, B6, .inl (.char, [.int (99 : Int32), .int (97 : Int32), .int (117 : Int32), .int (115 : Int32), .int (97 : Int32), .int (108 : Int32)]), .inl (.char, [.int (99 : Int32), .int (97 : Int32), .int (117 : Int32), .int (115 : Int32), .int (97 : Int32), .int (0 : Int32), .int (0 : Int32)])], 0, 0)) rfl rfl) ?_
      rintro _ _ _ _ ⟨⟩
      show ES _ _ _ _ _ _ ((165, [.val (.int a), .val (.int b), .val (.int c), .val (.long d), .second, .val (.int (b &&& (3 : Int32))), .val (.ref 7), .val (.ref 8), .unset, .unset, .unset], [.int (108 : Int32), .int (5 : Int32), .ref 8]), [B0, B1, B2, B3, B4, B5, B6, .inl (.char, [.int (99 : Int32), .int (97 : Int32), .int (117 : Int32), .int (115 : Int32), .int (97 : Int32), .int (108 : Int32)]), .inl (.char, [.int (99 : Int32), .int (97 : Int32), .int (117 : Int32), .int (115 : Int32), .int (97 : Int32), .int (0 : Int32), .int (0 : Int32)])], 2, 13)
      refine ES.run 6 (cf' := ((175, [.val (.int a), .val (.int b), .val (.int c), .val (.long d), .second, .val (.int (b &&& (3 : Int32))), .val (.ref 7), .val (.ref 8), .unset, .unset, .unset], [.long d, .ref 7, .int (6 : Int32), .int (6 : Int32), .ref 8]), [B0, B1, B2, B3, B4, B5, B6, .inl (.char, [.int (99 : Int32), .int (97 : Int32), .int (117 : Int32), .int (115 : Int32), .int (97 : Int32), .int (108 : Int32)]), .inl (.char, [.int (99 : Int32), .int (97 : Int32), .int (117 : Int32), .int (115 : Int32), .int (97 : Int32), .int (108 : Int32), .int (0 : Int32)])], 2, 13)) rfl ?_
      refine ES.call (Qc := fun r => r = (some (.int ((XT.ushrL d (48 : Int32)) &&& (255 : Int64)).toInt32.toUInt32.toUInt16.toUInt32.toInt32.toUInt32.toUInt16.toUInt32.toInt32), [B0, B1, B2, B3, B4, B5, B6, .inl (.char, [.int (99 : Int32), .int (97 : Int32), .int (117 : Int32), .int (115 : Int32), .int (97 : Int32), .int (108 : Int32)]), .inl (.char, [.int (99 : Int32), .int (97 : Int32), .int (117 : Int32), .int (115 : Int32), .int (97 : Int32), .int (108 : Int32), .int (0 : Int32)])], 0, 0)) rfl (EW.all 14 (r := (some (.int ((XT.ushrL d (48 : Int32)) &&& (255 : Int64)).toInt32.toUInt32.toUInt16.toUInt32.toInt32.toUInt32.toUInt16.toUInt32.toInt32), [B0, B1, B2, B3, B4, B5, B6, .inl (.char, [.int (99 : Int32), .int (97 : Int32), .int (117 : Int32), .int (115 : Int32), .int (97 : Int32), .int (108 : Int32)]), .inl (.char, [.int (99 : Int32), .int (97 : Int32), .int (117 : Int32), .int (115 : Int32), .int (97 : Int32), .int (108 : Int32), .int (0 : Int32)])], 0, 0)) rfl rfl) ?_
      rintro _ _ _ _ ⟨⟩
      show ES _ _ _ _ _ _ ((178, [.val (.int a), .val (.int b), .val (.int c), .val (.long d), .second, .val (.int (b &&& (3 : Int32))), .val (.ref 7), .val (.ref 8), .unset, .unset, .unset], [.int ((XT.ushrL d (48 : Int32)) &&& (255 : Int64)).toInt32.toUInt32.toUInt16.toUInt32.toInt32.toUInt32.toUInt16.toUInt32.toInt32, .int (6 : Int32), .ref 8]), [B0, B1, B2, B3, B4, B5, B6, .inl (.char, [.int (99 : Int32), .int (97 : Int32), .int (117 : Int32), .int (115 : Int32), .int (97 : Int32), .int (108 : Int32)]), .inl (.char, [.int (99 : Int32), .int (97 : Int32), .int (117 : Int32), .int (115 : Int32), .int (97 : Int32), .int (108 : Int32), .int (0 : Int32)])], 2, 13)
      refine ES.run 4 (cf' := ((182, [.val (.int a), .val (.int b), .val (.int c), .val (.long d), .second, .val (.int (b &&& (3 : Int32))), .val (.ref 7), .val (.ref 8), .unset, .unset, .unset], [.int (b &&& (4 : Int32))]), [B0, B1, B2, B3, B4, B5, B6, .inl (.char, [.int (99 : Int32), .int (97 : Int32), .int (117 : Int32), .int (115 : Int32), .int (97 : Int32), .int (108 : Int32)]), .inl (.char, [.int (99 : Int32), .int (97 : Int32), .int (117 : Int32), .int (115 : Int32), .int (97 : Int32), .int (108 : Int32), .int ((XT.ushrL d (48 : Int32)) &&& (255 : Int64)).toInt32.toUInt32.toUInt16.toUInt32.toInt32.toUInt32.toUInt16.toUInt32.toInt32.toUInt32.toUInt16.toUInt32.toInt32])], 2, 13)) rfl ?_
      refine ES.ifc rfl (by decide) (fun h => ?_) (fun h => ?_)
      · show ES _ _ _ _ _ _ ((208, [.val (.int a), .val (.int b), .val (.int c), .val (.long d), .second, .val (.int (b &&& (3 : Int32))), .val (.ref 7), .val (.ref 8), .unset, .unset, .unset], []), [B0, B1, B2, B3, B4, B5, B6, .inl (.char, [.int (99 : Int32), .int (97 : Int32), .int (117 : Int32), .int (115 : Int32), .int (97 : Int32), .int (108 : Int32)]), .inl (.char, [.int (99 : Int32), .int (97 : Int32), .int (117 : Int32), .int (115 : Int32), .int (97 : Int32), .int (108 : Int32), .int ((XT.ushrL d (48 : Int32)) &&& (255 : Int64)).toInt32.toUInt32.toUInt16.toUInt32.toInt32.toUInt32.toUInt16.toUInt32.toInt32.toUInt32.toUInt16.toUInt32.toInt32])], 2, 13)
        exact ES.stop ⟨_, _, _, _, _, _, _, _, _, _, _, rfl, by decide, Or.inl rfl, (own_k _ (by decide) (by decide)), (own_k _ (by decide) (by decide)), (own_k _ (by decide) (by decide)), (own_k _ (by decide) (by decide)), (own_k _ (by decide) (by decide)), (own_k _ (by decide) (by decide)), (own_d3 _)⟩
      · show ES _ _ _ _ _ _ ((185, [.val (.int a), .val (.int b), .val (.int c), .val (.long d), .second, .val (.int (b &&& (3 : Int32))), .val (.ref 7), .val (.ref 8), .unset, .unset, .unset], []), [B0, B1, B2, B3, B4, B5, B6, .inl (.char, [.int (99 : Int32), .int (97 : Int32), .int (117 : Int32), .int (115 : Int32), .int (97 : Int32), .int (108 : Int32)]), .inl (.char, [.int (99 : Int32), .int (97 : Int32), .int (117 : Int32), .int (115 : Int32), .int (97 : Int32), .int (108 : Int32), .int ((XT.ushrL d (48 : Int32)) &&& (255 : Int64)).toInt32.toUInt32.toUInt16.toUInt32.toInt32.toUInt32.toUInt16.toUInt32.toInt32.toUInt32.toUInt16.toUInt32.toInt32])], 2, 13)
        refine ES.run 5 (cf' := ((192, [.val (.int a), .val (.int b), .val (.int c), .val (.long d), .second, .val (.int (b &&& (3 : Int32))), .val (.ref 7), .val (.ref 8), .unset, .unset, .unset], [.int ((c &&& (2147483647 : Int32)) % (7 : Int32))]), [B0, B1, B2, B3, B4, B5, B6, .inl (.char, [.int (99 : Int32), .int (97 : Int32), .int (117 : Int32), .int (115 : Int32), .int (97 : Int32), .int (108 : Int32)]), .inl (.char, [.int (99 : Int32), .int (97 : Int32), .int (117 : Int32), .int (115 : Int32), .int (97 : Int32), .int (108 : Int32), .int ((XT.ushrL d (48 : Int32)) &&& (255 : Int64)).toInt32.toUInt32.toUInt16.toUInt32.toInt32.toUInt32.toUInt16.toUInt32.toInt32.toUInt32.toUInt16.toUInt32.toInt32])], 2, 13)) rfl ?_
        obtain ⟨j, hj, ej⟩ := own_r7 c
        rw [ej]
        match j, hj with
        | 0, _ =>
          show ES _ _ _ _ _ _ ((192, [.val (.int a), .val (.int b), .val (.int c), .val (.long d), .second, .val (.int (b &&& (3 : Int32))), .val (.ref 7), .val (.ref 8), .unset, .unset, .unset], [.int (0 : Int32)]), [B0, B1, B2, B3, B4, B5, B6, .inl (.char, [.int (99 : Int32), .int (97 : Int32), .int (117 : Int32), .int (115 : Int32), .int (97 : Int32), .int (108 : Int32)]), .inl (.char, [.int (99 : Int32), .int (97 : Int32), .int (117 : Int32), .int (115 : Int32), .int (97 : Int32), .int (108 : Int32), .int ((XT.ushrL d (48 : Int32)) &&& (255 : Int64)).toInt32.toUInt32.toUInt16.toUInt32.toInt32.toUInt32.toUInt16.toUInt32.toInt32.toUInt32.toUInt16.toUInt32.toInt32])], 2, 13)
          refine ES.run 10 (cf' := ((208, [.val (.int a), .val (.int b), .val (.int c), .val (.long d), .second, .val (.int (b &&& (3 : Int32))), .val (.ref 7), .val (.ref 8), .val (.int (0 : Int32)), .unset, .unset], []), [B0, B1, B2, B3, B4, B5, B6, .inl (.char, [.int (99 : Int32), .int (97 : Int32), .int (117 : Int32), .int (115 : Int32), .int (97 : Int32), .int (108 : Int32)]), .inl (.char, [.int ((XT.ushr c (8 : Int32)) &&& (255 : Int32)).toUInt32.toUInt16.toUInt32.toInt32.toUInt32.toUInt16.toUInt32.toInt32, .int (97 : Int32), .int (117 : Int32), .int (115 : Int32), .int (97 : Int32), .int (108 : Int32), .int ((XT.ushrL d (48 : Int32)) &&& (255 : Int64)).toInt32.toUInt32.toUInt16.toUInt32.toInt32.toUInt32.toUInt16.toUInt32.toInt32.toUInt32.toUInt16.toUInt32.toInt32])], 2, 13)) rfl ?_
          exact ES.stop ⟨_, _, _, _, _, _, _, _, _, _, _, rfl, by decide, Or.inr ⟨_, rfl⟩, (own_c2 _), (own_k _ (by decide) (by decide)), (own_k _ (by decide) (by decide)), (own_k _ (by decide) (by decide)), (own_k _ (by decide) (by decide)), (own_k _ (by decide) (by decide)), (own_d3 _)⟩
        | 1, _ =>
          show ES _ _ _ _ _ _ ((192, [.val (.int a), .val (.int b), .val (.int c), .val (.long d), .second, .val (.int (b &&& (3 : Int32))), .val (.ref 7), .val (.ref 8), .unset, .unset, .unset], [.int (1 : Int32)]), [B0, B1, B2, B3, B4, B5, B6, .inl (.char, [.int (99 : Int32), .int (97 : Int32), .int (117 : Int32), .int (115 : Int32), .int (97 : Int32), .int (108 : Int32)]), .inl (.char, [.int (99 : Int32), .int (97 : Int32), .int (117 : Int32), .int (115 : Int32), .int (97 : Int32), .int (108 : Int32), .int ((XT.ushrL d (48 : Int32)) &&& (255 : Int64)).toInt32.toUInt32.toUInt16.toUInt32.toInt32.toUInt32.toUInt16.toUInt32.toInt32.toUInt32.toUInt16.toUInt32.toInt32])], 2, 13)
          refine ES.run 10 (cf' := ((208, [.val (.int a), .val (.int b), .val (.int c), .val (.long d), .second, .val (.int (b &&& (3 : Int32))), .val (.ref 7), .val (.ref 8), .val (.int (1 : Int32)), .unset, .unset], []), [B0, B1, B2, B3, B4, B5, B6, .inl (.char, [.int (99 : Int32), .int (97 : Int32), .int (117 : Int32), .int (115 : Int32), .int (97 : Int32), .int (108 : Int32)]), .inl (.char, [.int (99 : Int32), .int ((XT.ushr c (8 : Int32)) &&& (255 : Int32)).toUInt32.toUInt16.toUInt32.toInt32.toUInt32.toUInt16.toUInt32.toInt32, .int (117 : Int32), .int (115 : Int32), .int (97 : Int32), .int (108 : Int32), .int ((XT.ushrL d (48 : Int32)) &&& (255 : Int64)).toInt32.toUInt32.toUInt16.toUInt32.toInt32.toUInt32.toUInt16.toUInt32.toInt32.toUInt32.toUInt16.toUInt32.toInt32])], 2, 13)) rfl ?_
          exact ES.stop ⟨_, _, _, _, _, _, _, _, _, _, _, rfl, by decide, Or.inr ⟨_, rfl⟩, (own_k _ (by decide) (by decide)), (own_c2 _), (own_k _ (by decide) (by decide)), (own_k _ (by decide) (by decide)), (own_k _ (by decide) (by decide)), (own_k _ (by decide) (by decide)), (own_d3 _)⟩
        | 2, _ =>
          show ES _ _ _ _ _ _ ((192, [.val (.int a), .val (.int b), .val (.int c), .val (.long d), .second, .val (.int (b &&& (3 : Int32))), .val (.ref 7), .val (.ref 8), .unset, .unset, .unset], [.int (2 : Int32)]), [B0, B1, B2, B3, B4, B5, B6, .inl (.char, [.int (99 : Int32), .int (97 : Int32), .int (117 : Int32), .int (115 : Int32), .int (97 : Int32), .int (108 : Int32)]), .inl (.char, [.int (99 : Int32), .int (97 : Int32), .int (117 : Int32), .int (115 : Int32), .int (97 : Int32), .int (108 : Int32), .int ((XT.ushrL d (48 : Int32)) &&& (255 : Int64)).toInt32.toUInt32.toUInt16.toUInt32.toInt32.toUInt32.toUInt16.toUInt32.toInt32.toUInt32.toUInt16.toUInt32.toInt32])], 2, 13)
          refine ES.run 10 (cf' := ((208, [.val (.int a), .val (.int b), .val (.int c), .val (.long d), .second, .val (.int (b &&& (3 : Int32))), .val (.ref 7), .val (.ref 8), .val (.int (2 : Int32)), .unset, .unset], []), [B0, B1, B2, B3, B4, B5, B6, .inl (.char, [.int (99 : Int32), .int (97 : Int32), .int (117 : Int32), .int (115 : Int32), .int (97 : Int32), .int (108 : Int32)]), .inl (.char, [.int (99 : Int32), .int (97 : Int32), .int ((XT.ushr c (8 : Int32)) &&& (255 : Int32)).toUInt32.toUInt16.toUInt32.toInt32.toUInt32.toUInt16.toUInt32.toInt32, .int (115 : Int32), .int (97 : Int32), .int (108 : Int32), .int ((XT.ushrL d (48 : Int32)) &&& (255 : Int64)).toInt32.toUInt32.toUInt16.toUInt32.toInt32.toUInt32.toUInt16.toUInt32.toInt32.toUInt32.toUInt16.toUInt32.toInt32])], 2, 13)) rfl ?_
          exact ES.stop ⟨_, _, _, _, _, _, _, _, _, _, _, rfl, by decide, Or.inr ⟨_, rfl⟩, (own_k _ (by decide) (by decide)), (own_k _ (by decide) (by decide)), (own_c2 _), (own_k _ (by decide) (by decide)), (own_k _ (by decide) (by decide)), (own_k _ (by decide) (by decide)), (own_d3 _)⟩
        | 3, _ =>
          show ES _ _ _ _ _ _ ((192, [.val (.int a), .val (.int b), .val (.int c), .val (.long d), .second, .val (.int (b &&& (3 : Int32))), .val (.ref 7), .val (.ref 8), .unset, .unset, .unset], [.int (3 : Int32)]), [B0, B1, B2, B3, B4, B5, B6, .inl (.char, [.int (99 : Int32), .int (97 : Int32), .int (117 : Int32), .int (115 : Int32), .int (97 : Int32), .int (108 : Int32)]), .inl (.char, [.int (99 : Int32), .int (97 : Int32), .int (117 : Int32), .int (115 : Int32), .int (97 : Int32), .int (108 : Int32), .int ((XT.ushrL d (48 : Int32)) &&& (255 : Int64)).toInt32.toUInt32.toUInt16.toUInt32.toInt32.toUInt32.toUInt16.toUInt32.toInt32.toUInt32.toUInt16.toUInt32.toInt32])], 2, 13)
          refine ES.run 10 (cf' := ((208, [.val (.int a), .val (.int b), .val (.int c), .val (.long d), .second, .val (.int (b &&& (3 : Int32))), .val (.ref 7), .val (.ref 8), .val (.int (3 : Int32)), .unset, .unset], []), [B0, B1, B2, B3, B4, B5, B6, .inl (.char, [.int (99 : Int32), .int (97 : Int32), .int (117 : Int32), .int (115 : Int32), .int (97 : Int32), .int (108 : Int32)]), .inl (.char, [.int (99 : Int32), .int (97 : Int32), .int (117 : Int32), .int ((XT.ushr c (8 : Int32)) &&& (255 : Int32)).toUInt32.toUInt16.toUInt32.toInt32.toUInt32.toUInt16.toUInt32.toInt32, .int (97 : Int32), .int (108 : Int32), .int ((XT.ushrL d (48 : Int32)) &&& (255 : Int64)).toInt32.toUInt32.toUInt16.toUInt32.toInt32.toUInt32.toUInt16.toUInt32.toInt32.toUInt32.toUInt16.toUInt32.toInt32])], 2, 13)) rfl ?_
          exact ES.stop ⟨_, _, _, _, _, _, _, _, _, _, _, rfl, by decide, Or.inr ⟨_, rfl⟩, (own_k _ (by decide) (by decide)), (own_k _ (by decide) (by decide)), (own_k _ (by decide) (by decide)), (own_c2 _), (own_k _ (by decide) (by decide)), (own_k _ (by decide) (by decide)), (own_d3 _)⟩
        | 4, _ =>
          show ES _ _ _ _ _ _ ((192, [.val (.int a), .val (.int b), .val (.int c), .val (.long d), .second, .val (.int (b &&& (3 : Int32))), .val (.ref 7), .val (.ref 8), .unset, .unset, .unset], [.int (4 : Int32)]), [B0, B1, B2, B3, B4, B5, B6, .inl (.char, [.int (99 : Int32), .int (97 : Int32), .int (117 : Int32), .int (115 : Int32), .int (97 : Int32), .int (108 : Int32)]), .inl (.char, [.int (99 : Int32), .int (97 : Int32), .int (117 : Int32), .int (115 : Int32), .int (97 : Int32), .int (108 : Int32), .int ((XT.ushrL d (48 : Int32)) &&& (255 : Int64)).toInt32.toUInt32.toUInt16.toUInt32.toInt32.toUInt32.toUInt16.toUInt32.toInt32.toUInt32.toUInt16.toUInt32.toInt32])], 2, 13)
          refine ES.run 10 (cf' := ((208, [.val (.int a), .val (.int b), .val (.int c), .val (.long d), .second, .val (.int (b &&& (3 : Int32))), .val (.ref 7), .val (.ref 8), .val (.int (4 : Int32)), .unset, .unset], []), [B0, B1, B2, B3, B4, B5, B6, .inl (.char, [.int (99 : Int32), .int (97 : Int32), .int (117 : Int32), .int (115 : Int32), .int (97 : Int32), .int (108 : Int32)]), .inl (.char, [.int (99 : Int32), .int (97 : Int32), .int (117 : Int32), .int (115 : Int32), .int ((XT.ushr c (8 : Int32)) &&& (255 : Int32)).toUInt32.toUInt16.toUInt32.toInt32.toUInt32.toUInt16.toUInt32.toInt32, .int (108 : Int32), .int ((XT.ushrL d (48 : Int32)) &&& (255 : Int64)).toInt32.toUInt32.toUInt16.toUInt32.toInt32.toUInt32.toUInt16.toUInt32.toInt32.toUInt32.toUInt16.toUInt32.toInt32])], 2, 13)) rfl ?_
          exact ES.stop ⟨_, _, _, _, _, _, _, _, _, _, _, rfl, by decide, Or.inr ⟨_, rfl⟩, (own_k _ (by decide) (by decide)), (own_k _ (by decide) (by decide)), (own_k _ (by decide) (by decide)), (own_k _ (by decide) (by decide)), (own_c2 _), (own_k _ (by decide) (by decide)), (own_d3 _)⟩
        | 5, _ =>
          show ES _ _ _ _ _ _ ((192, [.val (.int a), .val (.int b), .val (.int c), .val (.long d), .second, .val (.int (b &&& (3 : Int32))), .val (.ref 7), .val (.ref 8), .unset, .unset, .unset], [.int (5 : Int32)]), [B0, B1, B2, B3, B4, B5, B6, .inl (.char, [.int (99 : Int32), .int (97 : Int32), .int (117 : Int32), .int (115 : Int32), .int (97 : Int32), .int (108 : Int32)]), .inl (.char, [.int (99 : Int32), .int (97 : Int32), .int (117 : Int32), .int (115 : Int32), .int (97 : Int32), .int (108 : Int32), .int ((XT.ushrL d (48 : Int32)) &&& (255 : Int64)).toInt32.toUInt32.toUInt16.toUInt32.toInt32.toUInt32.toUInt16.toUInt32.toInt32.toUInt32.toUInt16.toUInt32.toInt32])], 2, 13)
          refine ES.run 10 (cf' := ((208, [.val (.int a), .val (.int b), .val (.int c), .val (.long d), .second, .val (.int (b &&& (3 : Int32))), .val (.ref 7), .val (.ref 8), .val (.int (5 : Int32)), .unset, .unset], []), [B0, B1, B2, B3, B4, B5, B6, .inl (.char, [.int (99 : Int32), .int (97 : Int32), .int (117 : Int32), .int (115 : Int32), .int (97 : Int32), .int (108 : Int32)]), .inl (.char, [.int (99 : Int32), .int (97 : Int32), .int (117 : Int32), .int (115 : Int32), .int (97 : Int32), .int ((XT.ushr c (8 : Int32)) &&& (255 : Int32)).toUInt32.toUInt16.toUInt32.toInt32.toUInt32.toUInt16.toUInt32.toInt32, .int ((XT.ushrL d (48 : Int32)) &&& (255 : Int64)).toInt32.toUInt32.toUInt16.toUInt32.toInt32.toUInt32.toUInt16.toUInt32.toInt32.toUInt32.toUInt16.toUInt32.toInt32])], 2, 13)) rfl ?_
          exact ES.stop ⟨_, _, _, _, _, _, _, _, _, _, _, rfl, by decide, Or.inr ⟨_, rfl⟩, (own_k _ (by decide) (by decide)), (own_k _ (by decide) (by decide)), (own_k _ (by decide) (by decide)), (own_k _ (by decide) (by decide)), (own_k _ (by decide) (by decide)), (own_c2 _), (own_d3 _)⟩
        | 6, _ =>
          show ES _ _ _ _ _ _ ((192, [.val (.int a), .val (.int b), .val (.int c), .val (.long d), .second, .val (.int (b &&& (3 : Int32))), .val (.ref 7), .val (.ref 8), .unset, .unset, .unset], [.int (6 : Int32)]), [B0, B1, B2, B3, B4, B5, B6, .inl (.char, [.int (99 : Int32), .int (97 : Int32), .int (117 : Int32), .int (115 : Int32), .int (97 : Int32), .int (108 : Int32)]), .inl (.char, [.int (99 : Int32), .int (97 : Int32), .int (117 : Int32), .int (115 : Int32), .int (97 : Int32), .int (108 : Int32), .int ((XT.ushrL d (48 : Int32)) &&& (255 : Int64)).toInt32.toUInt32.toUInt16.toUInt32.toInt32.toUInt32.toUInt16.toUInt32.toInt32.toUInt32.toUInt16.toUInt32.toInt32])], 2, 13)
          refine ES.run 10 (cf' := ((208, [.val (.int a), .val (.int b), .val (.int c), .val (.long d), .second, .val (.int (b &&& (3 : Int32))), .val (.ref 7), .val (.ref 8), .val (.int (6 : Int32)), .unset, .unset], []), [B0, B1, B2, B3, B4, B5, B6, .inl (.char, [.int (99 : Int32), .int (97 : Int32), .int (117 : Int32), .int (115 : Int32), .int (97 : Int32), .int (108 : Int32)]), .inl (.char, [.int (99 : Int32), .int (97 : Int32), .int (117 : Int32), .int (115 : Int32), .int (97 : Int32), .int (108 : Int32), .int ((XT.ushr c (8 : Int32)) &&& (255 : Int32)).toUInt32.toUInt16.toUInt32.toInt32.toUInt32.toUInt16.toUInt32.toInt32])], 2, 13)) rfl ?_
          exact ES.stop ⟨_, _, _, _, _, _, _, _, _, _, _, rfl, by decide, Or.inr ⟨_, rfl⟩, (own_k _ (by decide) (by decide)), (own_k _ (by decide) (by decide)), (own_k _ (by decide) (by decide)), (own_k _ (by decide) (by decide)), (own_k _ (by decide) (by decide)), (own_k _ (by decide) (by decide)), (own_c2 _)⟩
        | j + 7, hj => exact absurd hj (by omega)
  · show ES _ _ _ _ _ _ ((11, [.val (.int a), .val (.int b), .val (.int c), .val (.long d), .second, .val (.int (b &&& (3 : Int32))), .unset, .unset, .unset, .unset, .unset], []), [B0, B1, B2, B3, B4, B5, B6], 0, 0)
    refine ES.run 8 (cf' := ((21, [.val (.int a), .val (.int b), .val (.int c), .val (.long d), .second, .val (.int (b &&& (3 : Int32))), .unset, .unset, .unset, .unset, .unset], [.int (1 : Int32), .ref 7, .ref 7]), [B0, B1, B2, B3, B4, B5, B6, .inl (.char, [.int (115 : Int32), .int (0 : Int32), .int (0 : Int32), .int (0 : Int32), .int (0 : Int32)])], 1, 5)) rfl ?_
    refine ES.run 8 (cf' := ((31, [.val (.int a), .val (.int b), .val (.int c), .val (.long d), .second, .val (.int (b &&& (3 : Int32))), .unset, .unset, .unset, .unset, .unset], [.int (3 : Int32), .ref 7, .ref 7]), [B0, B1, B2, B3, B4, B5, B6, .inl (.char, [.int (115 : Int32), .int (116 : Int32), .int (101 : Int32), .int (0 : Int32), .int (0 : Int32)])], 1, 5)) rfl ?_
    refine ES.run 8 (cf' := ((94, [.val (.int a), .val (.int b), .val (.int c), .val (.long d), .second, .val (.int (b &&& (3 : Int32))), .val (.ref 7), .unset, .unset, .unset, .unset], []), [B0, B1, B2, B3, B4, B5, B6, .inl (.char, [.int (115 : Int32), .int (116 : Int32), .int (101 : Int32), .int (112 : Int32), .int (115 : Int32)])], 1, 5)) rfl ?_
    refine ES.run 8 (cf' := ((107, [.val (.int a), .val (.int b), .val (.int c), .val (.long d), .second, .val (.int (b &&& (3 : Int32))), .val (.ref 7), .val (.ref 8), .unset, .unset, .unset], [.long d, .ref 7, .int (0 : Int32), .int (0 : Int32), .ref 8]), [B0, B1, B2, B3, B4, B5, B6, .inl (.char, [.int (115 : Int32), .int (116 : Int32), .int (101 : Int32), .int (112 : Int32), .int (115 : Int32)]), .inl (.char, [.int (0 : Int32), .int (0 : Int32), .int (0 : Int32), .int (0 : Int32), .int (0 : Int32), .int (0 : Int32), .int (0 : Int32)])], 2, 12)) rfl ?_
    refine ES.call (Qc := fun r => r = (some (.int (115 : Int32)), [B0, B1, B2, B3, B4, B5, B6, .inl (.char, [.int (115 : Int32), .int (116 : Int32), .int (101 : Int32), .int (112 : Int32), .int (115 : Int32)]), .inl (.char, [.int (0 : Int32), .int (0 : Int32), .int (0 : Int32), .int (0 : Int32), .int (0 : Int32), .int (0 : Int32), .int (0 : Int32)])], 0, 0)) rfl (EW.all 8 (r := (some (.int (115 : Int32)), [B0, B1, B2, B3, B4, B5, B6, .inl (.char, [.int (115 : Int32), .int (116 : Int32), .int (101 : Int32), .int (112 : Int32), .int (115 : Int32)]), .inl (.char, [.int (0 : Int32), .int (0 : Int32), .int (0 : Int32), .int (0 : Int32), .int (0 : Int32), .int (0 : Int32), .int (0 : Int32)])], 0, 0)) rfl rfl) ?_
    rintro _ _ _ _ ⟨⟩
    show ES _ _ _ _ _ _ ((110, [.val (.int a), .val (.int b), .val (.int c), .val (.long d), .second, .val (.int (b &&& (3 : Int32))), .val (.ref 7), .val (.ref 8), .unset, .unset, .unset], [.int (115 : Int32), .int (0 : Int32), .ref 8]), [B0, B1, B2, B3, B4, B5, B6, .inl (.char, [.int (115 : Int32), .int (116 : Int32), .int (101 : Int32), .int (112 : Int32), .int (115 : Int32)]), .inl (.char, [.int (0 : Int32), .int (0 : Int32), .int (0 : Int32), .int (0 : Int32), .int (0 : Int32), .int (0 : Int32), .int (0 : Int32)])], 2, 12)
    refine ES.run 6 (cf' := ((118, [.val (.int a), .val (.int b), .val (.int c), .val (.long d), .second, .val (.int (b &&& (3 : Int32))), .val (.ref 7), .val (.ref 8), .unset, .unset, .unset], [.long d, .ref 7, .int (1 : Int32), .int (1 : Int32), .ref 8]), [B0, B1, B2, B3, B4, B5, B6, .inl (.char, [.int (115 : Int32), .int (116 : Int32), .int (101 : Int32), .int (112 : Int32), .int (115 : Int32)]), .inl (.char, [.int (115 : Int32), .int (0 : Int32), .int (0 : Int32), .int (0 : Int32), .int (0 : Int32), .int (0 : Int32), .int (0 : Int32)])], 2, 12)) rfl ?_
    refine ES.call (Qc := fun r => r = (some (.int (116 : Int32)), [B0, B1, B2, B3, B4, B5, B6, .inl (.char, [.int (115 : Int32), .int (116 : Int32), .int (101 : Int32), .int (112 : Int32), .int (115 : Int32)]), .inl (.char, [.int (115 : Int32), .int (0 : Int32), .int (0 : Int32), .int (0 : Int32), .int (0 : Int32), .int (0 : Int32), .int (0 : Int32)])], 0, 0)) rfl (EW.all 8 (r := (some (.int (116 : Int32)), [B0, B1, B2, B3, B4, B5, B6, .inl (.char, [.int (115 : Int32), .int (116 : Int32), .int (101 : Int32), .int (112 : Int32), .int (115 : Int32)]), .inl (.char, [.int (115 : Int32), .int (0 : Int32), .int (0 : Int32), .int (0 : Int32), .int (0 : Int32), .int (0 : Int32), .int (0 : Int32)])], 0, 0)) rfl rfl) ?_
    rintro _ _ _ _ ⟨⟩
    show ES _ _ _ _ _ _ ((121, [.val (.int a), .val (.int b), .val (.int c), .val (.long d), .second, .val (.int (b &&& (3 : Int32))), .val (.ref 7), .val (.ref 8), .unset, .unset, .unset], [.int (116 : Int32), .int (1 : Int32), .ref 8]), [B0, B1, B2, B3, B4, B5, B6, .inl (.char, [.int (115 : Int32), .int (116 : Int32), .int (101 : Int32), .int (112 : Int32), .int (115 : Int32)]), .inl (.char, [.int (115 : Int32), .int (0 : Int32), .int (0 : Int32), .int (0 : Int32), .int (0 : Int32), .int (0 : Int32), .int (0 : Int32)])], 2, 12)
    refine ES.run 6 (cf' := ((129, [.val (.int a), .val (.int b), .val (.int c), .val (.long d), .second, .val (.int (b &&& (3 : Int32))), .val (.ref 7), .val (.ref 8), .unset, .unset, .unset], [.long d, .ref 7, .int (2 : Int32), .int (2 : Int32), .ref 8]), [B0, B1, B2, B3, B4, B5, B6, .inl (.char, [.int (115 : Int32), .int (116 : Int32), .int (101 : Int32), .int (112 : Int32), .int (115 : Int32)]), .inl (.char, [.int (115 : Int32), .int (116 : Int32), .int (0 : Int32), .int (0 : Int32), .int (0 : Int32), .int (0 : Int32), .int (0 : Int32)])], 2, 12)) rfl ?_
    refine ES.call (Qc := fun r => r = (some (.int (101 : Int32)), [B0, B1, B2, B3, B4, B5, B6, .inl (.char, [.int (115 : Int32), .int (116 : Int32), .int (101 : Int32), .int (112 : Int32), .int (115 : Int32)]), .inl (.char, [.int (115 : Int32), .int (116 : Int32), .int (0 : Int32), .int (0 : Int32), .int (0 : Int32), .int (0 : Int32), .int (0 : Int32)])], 0, 0)) rfl (EW.all 8 (r := (some (.int (101 : Int32)), [B0, B1, B2, B3, B4, B5, B6, .inl (.char, [.int (115 : Int32), .int (116 : Int32), .int (101 : Int32), .int (112 : Int32), .int (115 : Int32)]), .inl (.char, [.int (115 : Int32), .int (116 : Int32), .int (0 : Int32), .int (0 : Int32), .int (0 : Int32), .int (0 : Int32), .int (0 : Int32)])], 0, 0)) rfl rfl) ?_
    rintro _ _ _ _ ⟨⟩
    show ES _ _ _ _ _ _ ((132, [.val (.int a), .val (.int b), .val (.int c), .val (.long d), .second, .val (.int (b &&& (3 : Int32))), .val (.ref 7), .val (.ref 8), .unset, .unset, .unset], [.int (101 : Int32), .int (2 : Int32), .ref 8]), [B0, B1, B2, B3, B4, B5, B6, .inl (.char, [.int (115 : Int32), .int (116 : Int32), .int (101 : Int32), .int (112 : Int32), .int (115 : Int32)]), .inl (.char, [.int (115 : Int32), .int (116 : Int32), .int (0 : Int32), .int (0 : Int32), .int (0 : Int32), .int (0 : Int32), .int (0 : Int32)])], 2, 12)
    refine ES.run 6 (cf' := ((140, [.val (.int a), .val (.int b), .val (.int c), .val (.long d), .second, .val (.int (b &&& (3 : Int32))), .val (.ref 7), .val (.ref 8), .unset, .unset, .unset], [.long d, .ref 7, .int (3 : Int32), .int (3 : Int32), .ref 8]), [B0, B1, B2, B3, B4, B5, B6, .inl (.char, [.int (115 : Int32), .int (116 : Int32), .int (101 : Int32), .int (112 : Int32), .int (115 : Int32)]), .inl (.char, [.int (115 : Int32), .int (116 : Int32), .int (101 : Int32), .int (0 : Int32), .int (0 : Int32), .int (0 : Int32), .int (0 : Int32)])], 2, 12)) rfl ?_
    refine ES.call (Qc := fun r => r = (some (.int (112 : Int32)), [B0, B1, B2, B3, B4, B5, B6, .inl (.char, [.int (115 : Int32), .int (116 : Int32), .int (101 : Int32), .int (112 : Int32), .int (115 : Int32)]), .inl (.char, [.int (115 : Int32), .int (116 : Int32), .int (101 : Int32), .int (0 : Int32), .int (0 : Int32), .int (0 : Int32), .int (0 : Int32)])], 0, 0)) rfl (EW.all 8 (r := (some (.int (112 : Int32)), [B0, B1, B2, B3, B4, B5, B6, .inl (.char, [.int (115 : Int32), .int (116 : Int32), .int (101 : Int32), .int (112 : Int32), .int (115 : Int32)]), .inl (.char, [.int (115 : Int32), .int (116 : Int32), .int (101 : Int32), .int (0 : Int32), .int (0 : Int32), .int (0 : Int32), .int (0 : Int32)])], 0, 0)) rfl rfl) ?_
    rintro _ _ _ _ ⟨⟩
    show ES _ _ _ _ _ _ ((143, [.val (.int a), .val (.int b), .val (.int c), .val (.long d), .second, .val (.int (b &&& (3 : Int32))), .val (.ref 7), .val (.ref 8), .unset, .unset, .unset], [.int (112 : Int32), .int (3 : Int32), .ref 8]), [B0, B1, B2, B3, B4, B5, B6, .inl (.char, [.int (115 : Int32), .int (116 : Int32), .int (101 : Int32), .int (112 : Int32), .int (115 : Int32)]), .inl (.char, [.int (115 : Int32), .int (116 : Int32), .int (101 : Int32), .int (0 : Int32), .int (0 : Int32), .int (0 : Int32), .int (0 : Int32)])], 2, 12)
    refine ES.run 6 (cf' := ((151, [.val (.int a), .val (.int b), .val (.int c), .val (.long d), .second, .val (.int (b &&& (3 : Int32))), .val (.ref 7), .val (.ref 8), .unset, .unset, .unset], [.long d, .ref 7, .int (4 : Int32), .int (4 : Int32), .ref 8]), [B0, B1, B2, B3, B4, B5, B6, .inl (.char, [.int (115 : Int32), .int (116 : Int32), .int (101 : Int32), .int (112 : Int32), .int (115 : Int32)]), .inl (.char, [.int (115 : Int32), .int (116 : Int32), .int (101 : Int32), .int (112 : Int32), .int (0 : Int32), .int (0 : Int32), .int (0 : Int32)])], 2, 12)) rfl ?_
    refine ES.call (Qc := fun r => r = (some (.int (115 : Int32)), [B0, B1, B2, B3, B4, B5, B6, .inl (.char, [.int (115 : Int32), .int (116 : Int32), .int (101 : Int32), .int (112 : Int32), .int (115 : Int32)]), .inl (.char, [.int (115 : Int32), .int (116 : Int32), .int (101 : Int32), .int (112 : Int32), .int (0 : Int32), .int (0 : Int32), .int (0 : Int32)])], 0, 0)) rfl (EW.all 8 (r := (some (.int (115 : Int32)), [B0, B1, B2, B3, B4, B5, B6, .inl (.char, [.int (115 : Int32), .int (116 : Int32), .int (101 : Int32), .int (112 : Int32), .int (115 : Int32)]), .inl (.char, [.int (115 : Int32), .int (116 : Int32), .int (101 : Int32), .int (112 : Int32), .int (0 : Int32), .int (0 : Int32), .int (0 : Int32)])], 0, 0)) rfl rfl) ?_
    rintro _ _ _ _ ⟨⟩
    show ES _ _ _ _ _ _ ((154, [.val (.int a), .val (.int b), .val (.int c), .val (.long d), .second, .val (.int (b &&& (3 : Int32))), .val (.ref 7), .val (.ref 8), .unset, .unset, .unset], [.int (115 : Int32), .int (4 : Int32), .ref 8]), [B0, B1, B2, B3, B4, B5, B6, .inl (.char, [.int (115 : Int32), .int (116 : Int32), .int (101 : Int32), .int (112 : Int32), .int (115 : Int32)]), .inl (.char, [.int (115 : Int32), .int (116 : Int32), .int (101 : Int32), .int (112 : Int32), .int (0 : Int32), .int (0 : Int32), .int (0 : Int32)])], 2, 12)
    refine ES.run 6 (cf' := ((162, [.val (.int a), .val (.int b), .val (.int c), .val (.long d), .second, .val (.int (b &&& (3 : Int32))), .val (.ref 7), .val (.ref 8), .unset, .unset, .unset], [.long d, .ref 7, .int (5 : Int32), .int (5 : Int32), .ref 8]), [B0, B1, B2, B3, B4, B5, B6, .inl (.char, [.int (115 : Int32), .int (116 : Int32), .int (101 : Int32), .int (112 : Int32), .int (115 : Int32)]), .inl (.char, [.int (115 : Int32), .int (116 : Int32), .int (101 : Int32), .int (112 : Int32), .int (115 : Int32), .int (0 : Int32), .int (0 : Int32)])], 2, 12)) rfl ?_
    refine ES.call (Qc := fun r => r = (some (.int ((XT.ushrL d (40 : Int32)) &&& (255 : Int64)).toInt32.toUInt32.toUInt16.toUInt32.toInt32.toUInt32.toUInt16.toUInt32.toInt32), [B0, B1, B2, B3, B4, B5, B6, .inl (.char, [.int (115 : Int32), .int (116 : Int32), .int (101 : Int32), .int (112 : Int32), .int (115 : Int32)]), .inl (.char, [.int (115 : Int32), .int (116 : Int32), .int (101 : Int32), .int (112 : Int32), .int (115 : Int32), .int (0 : Int32), .int (0 : Int32)])], 0, 0)) rfl (EW.all 14 (r := (some (.int ((XT.ushrL d (40 : Int32)) &&& (255 : Int64)).toInt32.toUInt32.toUInt16.toUInt32.toInt32.toUInt32.toUInt16.toUInt32.toInt32), [B0, B1, B2, B3, B4, B5, B6, .inl (.char, [.int (115 : Int32), .int (116 : Int32), .int (101 : Int32), .int (112 : Int32), .int (115 : Int32)]), .inl (.char, [.int (115 : Int32), .int (116 : Int32), .int (101 : Int32), .int (112 : Int32), .int (115 : Int32), .int (0 : Int32), .int (0 : Int32)])], 0, 0)) rfl rfl) ?_
    rintro _ _ _ _ ⟨⟩
    show ES _ _ _ _ _ _ ((165, [.val (.int a), .val (.int b), .val (.int c), .val (.long d), .second, .val (.int (b &&& (3 : Int32))), .val (.ref 7), .val (.ref 8), .unset, .unset, .unset], [.int ((XT.ushrL d (40 : Int32)) &&& (255 : Int64)).toInt32.toUInt32.toUInt16.toUInt32.toInt32.toUInt32.toUInt16.toUInt32.toInt32, .int (5 : Int32), .ref 8]), [B0, B1, B2, B3, B4, B5, B6, .inl (.char, [.int (115 : Int32), .int (116 : Int32), .int (101 : Int32), .int (112 : Int32), .int (115 : Int32)]), .inl (.char, [.int (115 : Int32), .int (116 : Int32), .int (101 : Int32), .int (112 : Int32), .int (115 : Int32), .int (0 : Int32), .int (0 : Int32)])], 2, 12)
    refine ES.run 6 (cf' := ((175, [.val (.int a), .val (.int b), .val (.int c), .val (.long d), .second, .val (.int (b &&& (3 : Int32))), .val (.ref 7), .val (.ref 8), .unset, .unset, .unset], [.long d, .ref 7, .int (6 : Int32), .int (6 : Int32), .ref 8]), [B0, B1, B2, B3, B4, B5, B6, .inl (.char, [.int (115 : Int32), .int (116 : Int32), .int (101 : Int32), .int (112 : Int32), .int (115 : Int32)]), .inl (.char, [.int (115 : Int32), .int (116 : Int32), .int (101 : Int32), .int (112 : Int32), .int (115 : Int32), .int ((XT.ushrL d (40 : Int32)) &&& (255 : Int64)).toInt32.toUInt32.toUInt16.toUInt32.toInt32.toUInt32.toUInt16.toUInt32.toInt32.toUInt32.toUInt16.toUInt32.toInt32, .int (0 : Int32)])], 2, 12)) rfl ?_
    refine ES.call (Qc := fun r => r = (some (.int ((XT.ushrL d (48 : Int32)) &&& (255 : Int64)).toInt32.toUInt32.toUInt16.toUInt32.toInt32.toUInt32.toUInt16.toUInt32.toInt32), [B0, B1, B2, B3, B4, B5, B6, .inl (.char, [.int (115 : Int32), .int (116 : Int32), .int (101 : Int32), .int (112 : Int32), .int (115 : Int32)]), .inl (.char, [.int (115 : Int32), .int (116 : Int32), .int (101 : Int32), .int (112 : Int32), .int (115 : Int32), .int ((XT.ushrL d (40 : Int32)) &&& (255 : Int64)).toInt32.toUInt32.toUInt16.toUInt32.toInt32.toUInt32.toUInt16.toUInt32.toInt32.toUInt32.toUInt16.toUInt32.toInt32, .int (0 : Int32)])], 0, 0)) rfl (EW.all 14 (r := (some (.int ((XT.ushrL d (48 : Int32)) &&& (255 : Int64)).toInt32.toUInt32.toUInt16.toUInt32.toInt32.toUInt32.toUInt16.toUInt32.toInt32), [B0, B1, B2, B3, B4, B5, B6, .inl (.char, [.int (115 : Int32), .int (116 : Int32), .int (101 : Int32), .int (112 : Int32), .int (115 : Int32)]), .inl (.char, [.int (115 : Int32), .int (116 : Int32), .int (101 : Int32), .int (112 : Int32), .int (115 : Int32), .int ((XT.ushrL d (40 : Int32)) &&& (255 : Int64)).toInt32.toUInt32.toUInt16.toUInt32.toInt32.toUInt32.toUInt16.toUInt32.toInt32.toUInt32.toUInt16.toUInt32.toInt32, .int (0 : Int32)])], 0, 0)) rfl rfl) ?_
    rintro _ _ _ _ ⟨⟩
    show ES _ _ _ _ _ _ ((178, [.val (.int a), .val (.int b), .val (.int c), .val (.long d), .second, .val (.int (b &&& (3 : Int32))), .val (.ref 7), .val (.ref 8), .unset, .unset, .unset], [.int ((XT.ushrL d (48 : Int32)) &&& (255 : Int64)).toInt32.toUInt32.toUInt16.toUInt32.toInt32.toUInt32.toUInt16.toUInt32.toInt32, .int (6 : Int32), .ref 8]), [B0, B1, B2, B3, B4, B5, B6, .inl (.char, [.int (115 : Int32), .int (116 : Int32), .int (101 : Int32), .int (112 : Int32), .int (115 : Int32)]), .inl (.char, [.int (115 : Int32), .int (116 : Int32), .int (101 : Int32), .int (112 : Int32), .int (115 : Int32), .int ((XT.ushrL d (40 : Int32)) &&& (255 : Int64)).toInt32.toUInt32.toUInt16.toUInt32.toInt32.toUInt32.toUInt16.toUInt32.toInt32.toUInt32.toUInt16.toUInt32.toInt32, .int (0 : Int32)])], 2, 12)
    refine ES.run 4 (cf' := ((182, [.val (.int a), .val (.int b), .val (.int c), .val (.long d), .second, .val (.int (b &&& (3 : Int32))), .val (.ref 7), .val (.ref 8), .unset, .unset, .unset], [.int (b &&& (4 : Int32))]), [B0, B1, B2, B3, B4, B5, B6, .inl (.char, [.int (115 : Int32), .int (116 : Int32), .int (101 : Int32), .int (112 : Int32), .int (115 : Int32)]), .inl (.char, [.int (115 : Int32), .int (116 : Int32), .int (101 : Int32), .int (112 : Int32), .int (115 : Int32), .int ((XT.ushrL d (40 : Int32)) &&& (255 : Int64)).toInt32.toUInt32.toUInt16.toUInt32.toInt32.toUInt32.toUInt16.toUInt32.toInt32.toUInt32.toUInt16.toUInt32.toInt32, .int ((XT.ushrL d (48 : Int32)) &&& (255 : Int64)).toInt32.toUInt32.toUInt16.toUInt32.toInt32.toUInt32.toUInt16.toUInt32.toInt32.toUInt32.toUInt16.toUInt32.toInt32])], 2, 12)) rfl ?_
    refine ES.ifc rfl (by decide) (fun h => ?_) (fun h => ?_)
    · show ES _ _ _ _ _ _ ((208, [.val (.int a), .val (.int b), .val (.int c), .val (.long d), .second, .val (.int (b &&& (3 : Int32))), .val (.ref 7), .val (.ref 8), .unset, .unset, .unset], []), [B0, B1, B2, B3, B4, B5, B6, .inl (.char, [.int (115 : Int32), .int (116 : Int32), .int (101 : Int32), .int (112 : Int32), .int (115 : Int32)]), .inl (.char, [.int (115 : Int32), .int (116 : Int32), .int (101 : Int32), .int (112 : Int32), .int (115 : Int32), .int ((XT.ushrL d (40 : Int32)) &&& (255 : Int64)).toInt32.toUInt32.toUInt16.toUInt32.toInt32.toUInt32.toUInt16.toUInt32.toInt32.toUInt32.toUInt16.toUInt32.toInt32, .int ((XT.ushrL d (48 : Int32)) &&& (255 : Int64)).toInt32.toUInt32.toUInt16.toUInt32.toInt32.toUInt32.toUInt16.toUInt32.toInt32.toUInt32.toUInt16.toUInt32.toInt32])], 2, 12)
      exact ES.stop ⟨_, _, _, _, _, _, _, _, _, _, _, rfl, by decide, Or.inl rfl, (own_k _ (by decide) (by decide)), (own_k _ (by decide) (by decide)), (own_k _ (by decide) (by decide)), (own_k _ (by decide) (by decide)), (own_k _ (by decide) (by decide)), (own_d3 _), (own_d3 _)⟩
    · show ES _ _ _ _ _ _ ((185, [.val (.int a), .val (.int b), .val (.int c), .val (.long d), .second, .val (.int (b &&& (3 : Int32))), .val (.ref 7), .val (.ref 8), .unset, .unset, .unset], []), [B0, B1, B2, B3, B4, B5, B6, .inl (.char, [.int (115 : Int32), .int (116 : Int32), .int (101 : Int32), .int (112 : Int32), .int (115 : Int32)]), .inl (.char, [.int (115 : Int32), .int (116 : Int32), .int (101 : Int32), .int (112 : Int32), .int (115 : Int32), .int ((XT.ushrL d (40 : Int32)) &&& (255 : Int64)).toInt32.toUInt32.toUInt16.toUInt32.toInt32.toUInt32.toUInt16.toUInt32.toInt32.toUInt32.toUInt16.toUInt32.toInt32, .int ((XT.ushrL d (48 : Int32)) &&& (255 : Int64)).toInt32.toUInt32.toUInt16.toUInt32.toInt32.toUInt32.toUInt16.toUInt32.toInt32.toUInt32.toUInt16.toUInt32.toInt32])], 2, 12)
      refine ES.run 5 (cf' := ((192, [.val (.int a), .val (.int b), .val (.int c), .val (.long d), .second, .val (.int (b &&& (3 : Int32))), .val (.ref 7), .val (.ref 8), .unset, .unset, .unset], [.int ((c &&& (2147483647 : Int32)) % (7 : Int32))]), [B0, B1, B2, B3, B4, B5, B6, .inl (.char, [.int (115 : Int32), .int (116 : Int32), .int (101 : Int32), .int (112 : Int32), .int (115 : Int32)]), .inl (.char, [.int (115 : Int32), .int (116 : Int32), .int (101 : Int32), .int (112 : Int32), .int (115 : Int32), .int ((XT.ushrL d (40 : Int32)) &&& (255 : Int64)).toInt32.toUInt32.toUInt16.toUInt32.toInt32.toUInt32.toUInt16.toUInt32.toInt32.toUInt32.toUInt16.toUInt32.toInt32, .int ((XT.ushrL d (48 : Int32)) &&& (255 : Int64)).toInt32.toUInt32.toUInt16.toUInt32.toInt32.toUInt32.toUInt16.toUInt32.toInt32.toUInt32.toUInt16.toUInt32.toInt32])], 2, 12)) rfl ?_
      obtain ⟨j, hj, ej⟩ := own_r7 c
      rw [ej]
      match j, hj with
      | 0, _ =>
        show ES _ _ _ _ _ _ ((192, [.val (.int a), .val (.int b), .val (.int c), .val (.long d), .second, .val (.int (b &&& (3 : Int32))), .val (.ref 7), .val (.ref 8), .unset, .unset, .unset], [.int (0 : Int32)]), [B0, B1, B2, B3, B4, B5, B6, .inl (.char, [.int (115 : Int32), .int (116 : Int32), .int (101 : Int32), .int (112 : Int32), .int (115 : Int32)]), .inl (.char, [.int (115 : Int32), .int (116 : Int32), .int (101 : Int32), .int (112 : Int32), .int (115 : Int32), .int ((XT.ushrL d (40 : Int32)) &&& (255 : Int64)).toInt32.toUInt32.toUInt16.toUInt32.toInt32.toUInt32.toUInt16.toUInt32.toInt32.toUInt32.toUInt16.toUInt32.toInt32, .int ((XT.ushrL d (48 : Int32)) &&& (255 : Int64)).toInt32.toUInt32.toUInt16.toUInt32.toInt32.toUInt32.toUInt16.toUInt32.toInt32.toUInt32.toUInt16.toUInt32.toInt32])], 2, 12)
        refine ES.run 10 (cf' := ((208, [.val (.int a), .val (.int b), .val (.int c), .val (.long d), .second, .val (.int (b &&& (3 : Int32))), .val (.ref 7), .val (.ref 8), .val (.int (0 : Int32)), .unset, .unset], []), [B0, B1, B2, B3, B4, B5, B6, .inl (.char, [.int (115 : Int32), .int (116 : Int32), .int (101 : Int32), .int (112 : Int32), .int (115 : Int32)]), .inl (.char, [.int ((XT.ushr c (8 : Int32)) &&& (255 : Int32)).toUInt32.toUInt16.toUInt32.toInt32.toUInt32.toUInt16.toUInt32.toInt32, .int (116 : Int32), .int (101 : Int32), .int (112 : Int32), .int (115 : Int32), .int ((XT.ushrL d (40 : Int32)) &&& (255 : Int64)).toInt32.toUInt32.toUInt16.toUInt32.toInt32.toUInt32.toUInt16.toUInt32.toInt32.toUInt32.toUInt16.toUInt32.toInt32, .int ((XT.ushrL d (48 : Int32)) &&& (255 : Int64)).toInt32.toUInt32.toUInt16.toUInt32.toInt32.toUInt32.toUInt16.toUInt32.toInt32.toUInt32.toUInt16.toUInt32.toInt32])], 2, 12)) rfl ?_
        exact ES.stop ⟨_, _, _, _, _, _, _, _, _, _, _, rfl, by decide, Or.inr ⟨_, rfl⟩, (own_c2 _), (own_k _ (by decide) (by decide)), (own_k _ (by decide) (by decide)), (own_k _ (by decide) (by decide)), (own_k _ (by decide) (by decide)), (own_d3 _), (own_d3 _)⟩
      | 1, _ =>
        show ES _ _ _ _ _ _ ((192, [.val (.int a), .val (.int b), .val (.int c), .val (.long d), .second, .val (.int (b &&& (3 : Int32))), .val (.ref 7), .val (.ref 8), .unset, .unset, .unset], [.int (1 : Int32)]), [B0, B1, B2, B3, B4, B5, B6, .inl (.char, [.int (115 : Int32), .int (116 : Int32), .int (101 : Int32), .int (112 : Int32), .int (115 : Int32)]), .inl (.char, [.int (115 : Int32), .int (116 : Int32), .int (101 : Int32), .int (112 : Int32), .int (115 : Int32), .int ((XT.ushrL d (40 : Int32)) &&& (255 : Int64)).toInt32.toUInt32.toUInt16.toUInt32.toInt32.toUInt32.toUInt16.toUInt32.toInt32.toUInt32.toUInt16.toUInt32.toInt32, .int ((XT.ushrL d (48 : Int32)) &&& (255 : Int64)).toInt32.toUInt32.toUInt16.toUInt32.toInt32.toUInt32.toUInt16.toUInt32.toInt32.toUInt32.toUInt16.toUInt32.toInt32])], 2, 12)
        refine ES.run 10 (cf' := ((208, [.val (.int a), .val (.int b), .val (.int c), .val (.long d), .second, .val (.int (b &&& (3 : Int32))), .val (.ref 7), .val (.ref 8), .val (.int (1 : Int32)), .unset, .unset], []), [B0, B1, B2, B3, B4, B5, B6, .inl (.char, [.int (115 : Int32), .int (116 : Int32), .int (101 : Int32), .int (112 : Int32), .int (115 : Int32)]), .inl (.char, [.int (115 : Int32), .int ((XT.ushr c (8 : Int32)) &&& (255 : Int32)).toUInt32.toUInt16.toUInt32.toInt32.toUInt32.toUInt16.toUInt32.toInt32, .int (101 : Int32), .int (112 : Int32), .int (115 : Int32), .int ((XT.ushrL d (40 : Int32)) &&& (255 : Int64)).toInt32.toUInt32.toUInt16.toUInt32.toInt32.toUInt32.toUInt16.toUInt32.toInt32.toUInt32.toUInt16.toUInt32.toInt32, .int ((XT.ushrL d (48 : Int32)) &&& (255 : Int64)).toInt32.toUInt32.toUInt16.toUInt32.toInt32.toUInt32.toUInt16.toUInt32.toInt32.toUInt32.toUInt16.toUInt32.toInt32])], 2, 12)) rfl ?_
        exact ES.stop ⟨_, _, _, _, _, _, _, _, _, _, _, rfl, by decide, Or.inr ⟨_, rfl⟩, (own_k _ (by decide) (by decide)), (own_c2 _), (own_k _ (by decide) (by decide)), (own_k _ (by decide) (by decide)), (own_k _ (by decide) (by decide)), (own_d3 _), (own_d3 _)⟩
      | 2, _ =>
        show ES _ _ _ _ _ _ ((192, [.val (.int a), .val (.int b), .val (.int c), .val (.long d), .second, .val (.int (b &&& (3 : Int32))), .val (.ref 7), .val (.ref 8), .unset, .unset, .unset], [.int (2 : Int32)]), [B0, B1, B2, B3, B4, B5, B6, .inl (.char, [.int (115 : Int32), .int (116 : Int32), .int (101 : Int32), .int (112 : Int32), .int (115 : Int32)]), .inl (.char, [.int (115 : Int32), .int (116 : Int32), .int (101 : Int32), .int (112 : Int32), .int (115 : Int32), .int ((XT.ushrL d (40 : Int32)) &&& (255 : Int64)).toInt32.toUInt32.toUInt16.toUInt32.toInt32.toUInt32.toUInt16.toUInt32.toInt32.toUInt32.toUInt16.toUInt32.toInt32, .int ((XT.ushrL d (48 : Int32)) &&& (255 : Int64)).toInt32.toUInt32.toUInt16.toUInt32.toInt32.toUInt32.toUInt16.toUInt32.toInt32.toUInt32.toUInt16.toUInt32.toInt32])], 2, 12)
        refine ES.run 10 (cf' := ((208, [.val (.int a), .val (.int b), .val (.int c), .val (.long d), .second, .val (.int (b &&& (3 : Int32))), .val (.ref 7), .val (.ref 8), .val (.int (2 : Int32)), .unset, .unset], []), [B0, B1, B2, B3, B4, B5, B6, .inl (.char, [.int (115 : Int32), .int (116 : Int32), .int (101 : Int32), .int (112 : Int32), .int (115 : Int32)]), .inl (.char, [.int (115 : Int32), .int (116 : Int32), .int ((XT.ushr c (8 : Int32)) &&& (255 : Int32)).toUInt32.toUInt16.toUInt32.toInt32.toUInt32.toUInt16.toUInt32.toInt32, .int (112 : Int32), .int (115 : Int32), .int ((XT.ushrL d (40 : Int32)) &&& (255 : Int64)).toInt32.toUInt32.toUInt16.toUInt32.toInt32.toUInt32.toUInt16.toUInt32.toInt32.toUInt32.toUInt16.toUInt32.toInt32, .int ((XT.ushrL d (48 : Int32)) &&& (255 : Int64)).toInt32.toUInt32.toUInt16.toUInt32.toInt32.toUInt32.toUInt16.toUInt32.toInt32.toUInt32.toUInt16.toUInt32.toInt32])], 2, 12)) rfl ?_
        exact ES.stop ⟨_, _, _, _, _, _, _, _, _, _, _, rfl, by decide, Or.inr ⟨_, rfl⟩, (own_k _ (by decide) (by decide)), (own_k _ (by decide) (by decide)), (own_c2 _), (own_k _ (by decide) (by decide)), (own_k _ (by decide) (by decide)), (own_d3 _), (own_d3 _)⟩
      | 3, _ =>
        show ES _ _ _ _ _ _ ((192, [.val (.int a), .val (.int b), .val (.int c), .val (.long d), .second, .val (.int (b &&& (3 : Int32))), .val (.ref 7), .val (.ref 8), .unset, .unset, .unset], [.int (3 : Int32)]), [B0, B1, B2, B3, B4, B5, B6, .inl (.char, [.int (115 : Int32), .int (116 : Int32), .int (101 : Int32), .int (112 : Int32), .int (115 : Int32)]), .inl (.char, [.int (115 : Int32), .int (116 : Int32), .int (101 : Int32), .int (112 : Int32), .int (115 : Int32), .int ((XT.ushrL d (40 : Int32)) &&& (255 : Int64)).toInt32.toUInt32.toUInt16.toUInt32.toInt32.toUInt32.toUInt16.toUInt32.toInt32.toUInt32.toUInt16.toUInt32.toInt32, .int ((XT.ushrL d (48 : Int32)) &&& (255 : Int64)).toInt32.toUInt32.toUInt16.toUInt32.toInt32.toUInt32.toUInt16.toUInt32.toInt32.toUInt32.toUInt16.toUInt32.toInt32])], 2, 12)
        refine ES.run 10 (cf' := ((208, [.val (.int a), .val (.int b), .val (.int c), .val (.long d), .second, .val (.int (b &&& (3 : Int32))), .val (.ref 7), .val (.ref 8), .val (.int (3 : Int32)), .unset, .unset], []), [B0, B1, B2, B3, B4, B5, B6, .inl (.char, [.int (115 : Int32), .int (116 : Int32), .int (101 : Int32), .int (112 : Int32), .int (115 : Int32)]), .inl (.char, [.int (115 : Int32), .int (116 : Int32), .int (101 : Int32), .int ((XT.ushr c (8 : Int32)) &&& (255 : Int32)).toUInt32.toUInt16.toUInt32.toInt32.toUInt32.toUInt16.toUInt32.toInt32, .int (115 : Int32), .int ((XT.ushrL d (40 : Int32)) &&& (255 : Int64)).toInt32.toUInt32.toUInt16.toUInt32.toInt32.toUInt32.toUInt16.toUInt32.toInt32.toUInt32.toUInt16.toUInt32.toInt32, .int ((XT.ushrL d (48 : Int32)) &&& (255 : Int64)).toInt32.toUInt32.toUInt16.toUInt32.toInt32.toUInt32.toUInt16.toUInt32.toInt32.toUInt32.toUInt16.toUInt32.toInt32])], 2, 12)) rfl ?_
        exact ES.stop ⟨_, _, _, _, _, _, _, _, _, _, _, rfl, by decide, Or.inr ⟨_, rfl⟩, (own_k _ (by decide) (by decide)), (own_k _ (by decide) (by decide)), (own_k _ (by decide) (by decide)), (own_c2 _), (own_k _ (by decide) (by decide)), (own_d3 _), (own_d3 _)⟩
      | 4, _ =>
        show ES _ _ _ _ _ _ ((192, [.val (.int a), .val (.int b), .val (.int c), .val (.long d), .second, .val (.int (b &&& (3 : Int32))), .val (.ref 7), .val (.ref 8), .unset, .unset, .unset], [.int (4 : Int32)]), [B0, B1, B2, B3, B4, B5, B6, .inl (.char, [.int (115 : Int32), .int (116 : Int32), .int (101 : Int32), .int (112 : Int32), .int (115 : Int32)]), .inl (.char, [.int (115 : Int32), .int (116 : Int32), .int (101 : Int32), .int (112 : Int32), .int (115 : Int32), .int ((XT.ushrL d (40 : Int32)) &&& (255 : Int64)).toInt32.toUInt32.toUInt16.toUInt32.toInt32.toUInt32.toUInt16.toUInt32.toInt32.toUInt32.toUInt16.toUInt32.toInt32, .int ((XT.ushrL d (48 : Int32)) &&& (255 : Int64)).toInt32.toUInt32.toUInt16.toUInt32.toInt32.toUInt32.toUInt16.toUInt32.toInt32.toUInt32.toUInt16.toUInt32.toInt32])], 2, 12)
        refine ES.run 10 (cf' := ((208, [.val (.int a), .val (.int b), .val (.int c), .val (.long d), .second, .val (.int (b &&& (3 : Int32))), .val (.ref 7), .val (.ref 8), .val (.int (4 : Int32)), .unset, .unset], []), [B0, B1, B2, B3, B4, B5, B6, .inl (.char, [.int (115 : Int32), .int (116 : Int32), .int (101 : Int32), .int (112 : Int32), .int (115 : Int32)]), .inl (.char, [.int (115 : Int32), .int (116 : Int32), .int (101 : Int32), .int (112 : Int32), .int ((XT.ushr c (8 : Int32)) &&& (255 : Int32)).toUInt32.toUInt16.toUInt32.toInt32.toUInt32.toUInt16.toUInt32.toInt32, .int ((XT.ushrL d (40 : Int32)) &&& (255 : Int64)).toInt32.toUInt32.toUInt16.toUInt32.toInt32.toUInt32.toUInt16.toUInt32.toInt32.toUInt32.toUInt16.toUInt32.toInt32, .int ((XT.ushrL d (48 : Int32)) &&& (255 : Int64)).toInt32.toUInt32.toUInt16.toUInt32.toInt32.toUInt32.toUInt16.toUInt32.toInt32.toUInt32.toUInt16.toUInt32.toInt32])], 2, 12)) rfl ?_
        exact ES.stop ⟨_, _, _, _, _, _, _, _, _, _, _, rfl, by decide, Or.inr ⟨_, rfl⟩, (own_k _ (by decide) (by decide)), (own_k _ (by decide) (by decide)), (own_k _ (by decide) (by decide)), (own_k _ (by decide) (by decide)), (own_c2 _), (own_d3 _), (own_d3 _)⟩
      | 5, _ =>
        show ES _ _ _ _ _ _ ((192, [.val (.int a), .val (.int b), .val (.int c), .val (.long d), .second, .val (.int (b &&& (3 : Int32))), .val (.ref 7), .val (.ref 8), .unset, .unset, .unset], [.int (5 : Int32)]), [B0, B1, B2, B3, B4, B5, B6, .inl (.char, [.int (115 : Int32), .int (116 : Int32), .int (101 : Int32), .int (112 : Int32), .int (115 : Int32)]), .inl (.char, [.int (115 : Int32), .int (116 : Int32), .int (101 : Int32), .int (112 : Int32), .int (115 : Int32), .int ((XT.ushrL d (40 : Int32)) &&& (255 : Int64)).toInt32.toUInt32.toUInt16.toUInt32.toInt32.toUInt32.toUInt16.toUInt32.toInt32.toUInt32.toUInt16.toUInt32.toInt32, .int ((XT.ushrL d (48 : Int32)) &&& (255 : Int64)).toInt32.toUInt32.toUInt16.toUInt32.toInt32.toUInt32.toUInt16.toUInt32.toInt32.toUInt32.toUInt16.toUInt32.toInt32])], 2, 12)
        refine ES.run 10 (cf' := ((208, [.val (.int a), .val (.int b), .val (.int c), .val (.long d), .second, .val (.int (b &&& (3 : Int32))), .val (.ref 7), .val (.ref 8), .val (.int (5 : Int32)), .unset, .unset], []), [B0, B1, B2, B3, B4, B5, B6, .inl (.char, [.int (115 : Int32), .int (116 : Int32), .int (101 : Int32), .int (112 : Int32), .int (115 : Int32)]), .inl (.char, [.int (115 : Int32), .int (116 : Int32), .int (101 : Int32), .int (112 : Int32), .int (115 : Int32), .int ((XT.ushr c (8 : Int32)) &&& (255 : Int32)).toUInt32.toUInt16.toUInt32.toInt32.toUInt32.toUInt16.toUInt32.toInt32, .int ((XT.ushrL d (48 : Int32)) &&& (255 : Int64)).toInt32.toUInt32.toUInt16.toUInt32.toInt32.toUInt32.toUInt16.toUInt32.toInt32.toUInt32.toUInt16.toUInt32.toInt32])], 2, 12)) rfl ?_
        exact ES.stop ⟨_, _, _, _, _, _, _, _, _, _, _, rfl, by decide, Or.inr ⟨_, rfl⟩, (own_k _ (by decide) (by decide)), (own_k _ (by decide) (by decide)), (own_k _ (by decide) (by decide)), (own_k _ (by decide) (by decide)), (own_k _ (by decide) (by decide)), (own_c2 _), (own_d3 _)⟩
      | 6, _ =>
        show ES _ _ _ _ _ _ ((192, [.val (.int a), .val (.int b), .val (.int c), .val (.long d), .second, .val (.int (b &&& (3 : Int32))), .val (.ref 7), .val (.ref 8), .unset, .unset, .unset], [.int (6 : Int32)]), [B0, B1, B2, B3, B4, B5, B6, .inl (.char, [.int (115 : Int32), .int (116 : Int32), .int (101 : Int32), .int (112 : Int32), .int (115 : Int32)]), .inl (.char, [.int (115 : Int32), .int (116 : Int32), .int (101 : Int32), .int (112 : Int32), .int (115 : Int32), .int ((XT.ushrL d (40 : Int32)) &&& (255 : Int64)).toInt32.toUInt32.toUInt16.toUInt32.toInt32.toUInt32.toUInt16.toUInt32.toInt32.toUInt32.toUInt16.toUInt32.toInt32, .int ((XT.ushrL d (48 : Int32)) &&& (255 : Int64)).toInt32.toUInt32.toUInt16.toUInt32.toInt32.toUInt32.toUInt16.toUInt32.toInt32.toUInt32.toUInt16.toUInt32.toInt32])], 2, 12)
        refine ES.run 10 (cf' := ((208, [.val (.int a), .val (.int b), .val (.int c), .val (.long d), .second, .val (.int (b &&& (3 : Int32))), .val (.ref 7), .val (.ref 8), .val (.int (6 : Int32)), .unset, .unset], []), [B0, B1, B2, B3, B4, B5, B6, .inl (.char, [.int (115 : Int32), .int (116 : Int32), .int (101 : Int32), .int (112 : Int32), .int (115 : Int32)]), .inl (.char, [.int (115 : Int32), .int (116 : Int32), .int (101 : Int32), .int (112 : Int32), .int (115 : Int32), .int ((XT.ushrL d (40 : Int32)) &&& (255 : Int64)).toInt32.toUInt32.toUInt16.toUInt32.toInt32.toUInt32.toUInt16.toUInt32.toInt32.toUInt32.toUInt16.toUInt32.toInt32, .int ((XT.ushr c (8 : Int32)) &&& (255 : Int32)).toUInt32.toUInt16.toUInt32.toInt32.toUInt32.toUInt16.toUInt32.toInt32])], 2, 12)) rfl ?_
        exact ES.stop ⟨_, _, _, _, _, _, _, _, _, _, _, rfl, by decide, Or.inr ⟨_, rfl⟩, (own_k _ (by decide) (by decide)), (own_k _ (by decide) (by decide)), (own_k _ (by decide) (by decide)), (own_k _ (by decide) (by decide)), (own_k _ (by decide) (by decide)), (own_d3 _), (own_c2 _)⟩
      | j + 7, hj => exact absurd hj (by omega)
set_option maxHeartbeats 4000000 in
theorem lawC_0 {cs : Int32} (hcs : cs.toInt ≠ 0) (a b c md : Int32) (d : Int64) (v8 : List Value) (x0 x1 x2 x3 x4 x5 x6 : Int32) (l8 : Slot) (sl : Nat) (hl8 : l8 = .unset ∨ ∃ j : Int32, l8 = .val (.int j)) (h0x : okc x0) (h1x : okc x1) (h2x : okc x2) (h3x : okc x3) (h4x : okc x4) (h5x : okc x5) (h6x : okc x6) (hn : (a &&& (7 : Int32)) = Int32.ofNat 0) : ES (gG cs 7 N0) true 8 192 mL (fun r => r = ((218, [.val (.int a), .val (.int b), .val (.int c), .val (.long d), .second, .val (.int md), .val (.ref 7), .val (.ref 8), .val (.int (0 : Int32)), .unset, .unset], [.int (0 : Int32), .ref 8]), [B0, B1, B2, B3, B4, B5, B6, .inl (.char, v8), .inl (.char, [.int x0, .int x1, .int x2, .int x3, .int x4, .int x5, .int x6])], 2, sl)) ((208, [.val (.int a), .val (.int b), .val (.int c), .val (.long d), .second, .val (.int md), .val (.ref 7), .val (.ref 8), l8, .unset, .unset], []), [B0, B1, B2, B3, B4, B5, B6, .inl (.char, v8), .inl (.char, [.int x0, .int x1, .int x2, .int x3, .int x4, .int x5, .int x6])], 2, sl) := by
  refine ES.run 3 (cf' := ((212, [.val (.int a), .val (.int b), .val (.int c), .val (.long d), .second, .val (.int md), .val (.ref 7), .val (.ref 8), l8, .unset, .unset], [.int (a &&& (7 : Int32))]), [B0, B1, B2, B3, B4, B5, B6, .inl (.char, v8), .inl (.char, [.int x0, .int x1, .int x2, .int x3, .int x4, .int x5, .int x6])], 2, sl)) rfl ?_
  rw [hn]
  have key : ES (gG cs 7 N0) true 8 192 mL (fun r => r = ((218, [.val (.int a), .val (.int b), .val (.int c), .val (.long d), .second, .val (.int md), .val (.ref 7), .val (.ref 8), .val (.int (0 : Int32)), .unset, .unset], [.int (0 : Int32), .ref 8]), [B0, B1, B2, B3, B4, B5, B6, .inl (.char, v8), .inl (.char, [.int x0, .int x1, .int x2, .int x3, .int x4, .int x5, .int x6])], 2, sl)) ((214, [.val (.int a), .val (.int b), .val (.int c), .val (.long d), .second, .val (.int md), .val (.ref 7), .val (.ref 8), .val (.int (0 : Int32)), .unset, .unset], []), [B0, B1, B2, B3, B4, B5, B6, .inl (.char, v8), .inl (.char, [.int x0, .int x1, .int x2, .int x3, .int x4, .int x5, .int x6])], 2, sl) := by
    refine ES.run 2 (cf' := ((218, [.val (.int a), .val (.int b), .val (.int c), .val (.long d), .second, .val (.int md), .val (.ref 7), .val (.ref 8), .val (.int (0 : Int32)), .unset, .unset], [.int (0 : Int32), .ref 8]), [B0, B1, B2, B3, B4, B5, B6, .inl (.char, v8), .inl (.char, [.int x0, .int x1, .int x2, .int x3, .int x4, .int x5, .int x6])], 2, sl)) rfl ?_
    exact ES.stop rfl
  rcases hl8 with rfl | ⟨j, rfl⟩
  · exact ES.run 1 rfl key
  · exact ES.run 1 rfl key
set_option maxHeartbeats 4000000 in
theorem lawC_1 {cs : Int32} (hcs : cs.toInt ≠ 0) (a b c md : Int32) (d : Int64) (v8 : List Value) (x0 x1 x2 x3 x4 x5 x6 : Int32) (l8 : Slot) (sl : Nat) (hl8 : l8 = .unset ∨ ∃ j : Int32, l8 = .val (.int j)) (h0x : okc x0) (h1x : okc x1) (h2x : okc x2) (h3x : okc x3) (h4x : okc x4) (h5x : okc x5) (h6x : okc x6) (hn : (a &&& (7 : Int32)) = Int32.ofNat 1) : ES (gG cs 7 N0) true 8 192 mL (fun r => r = ((225, [.val (.int a), .val (.int b), .val (.int c), .val (.long d), .second, .val (.int md), .val (.ref 7), .val (.ref 8), .val (.int (1 : Int32)), .val (.ref 9), .unset], [.ref 9]), [B0, B1, B2, B3, B4, B5, B6, .inl (.char, v8), .inl (.char, [.int x0, .int x1, .int x2, .int x3, .int x4, .int x5, .int x6]), .inr (0, [(0, .ref 11), (1, .int (0 : Int32))]), .inl (.char, [.int x0.toUInt32.toUInt16.toUInt32.toInt32]), .inl (.byte, [.int x0.toUInt32.toUInt16.toUInt32.toInt32.toInt8.toInt32.toInt8.toInt32])], 5, sl + 6)) ((208, [.val (.int a), .val (.int b), .val (.int c), .val (.long d), .second, .val (.int md), .val (.ref 7), .val (.ref 8), l8, .unset, .unset], []), [B0, B1, B2, B3, B4, B5, B6, .inl (.char, v8), .inl (.char, [.int x0, .int x1, .int x2, .int x3, .int x4, .int x5, .int x6])], 2, sl) := by
  refine ES.run 3 (cf' := ((212, [.val (.int a), .val (.int b), .val (.int c), .val (.long d), .second, .val (.int md), .val (.ref 7), .val (.ref 8), l8, .unset, .unset], [.int (a &&& (7 : Int32))]), [B0, B1, B2, B3, B4, B5, B6, .inl (.char, v8), .inl (.char, [.int x0, .int x1, .int x2, .int x3, .int x4, .int x5, .int x6])], 2, sl)) rfl ?_
  rw [hn]
  have key : ES (gG cs 7 N0) true 8 192 mL (fun r => r = ((225, [.val (.int a), .val (.int b), .val (.int c), .val (.long d), .second, .val (.int md), .val (.ref 7), .val (.ref 8), .val (.int (1 : Int32)), .val (.ref 9), .unset], [.ref 9]), [B0, B1, B2, B3, B4, B5, B6, .inl (.char, v8), .inl (.char, [.int x0, .int x1, .int x2, .int x3, .int x4, .int x5, .int x6]), .inr (0, [(0, .ref 11), (1, .int (0 : Int32))]), .inl (.char, [.int x0.toUInt32.toUInt16.toUInt32.toInt32]), .inl (.byte, [.int x0.toUInt32.toUInt16.toUInt32.toInt32.toInt8.toInt32.toInt8.toInt32])], 5, sl + 6)) ((214, [.val (.int a), .val (.int b), .val (.int c), .val (.long d), .second, .val (.int md), .val (.ref 7), .val (.ref 8), .val (.int (1 : Int32)), .unset, .unset], []), [B0, B1, B2, B3, B4, B5, B6, .inl (.char, v8), .inl (.char, [.int x0, .int x1, .int x2, .int x3, .int x4, .int x5, .int x6])], 2, sl) := by
    refine ES.run 2 (cf' := ((218, [.val (.int a), .val (.int b), .val (.int c), .val (.long d), .second, .val (.int md), .val (.ref 7), .val (.ref 8), .val (.int (1 : Int32)), .unset, .unset], [.int (1 : Int32), .ref 8]), [B0, B1, B2, B3, B4, B5, B6, .inl (.char, v8), .inl (.char, [.int x0, .int x1, .int x2, .int x3, .int x4, .int x5, .int x6])], 2, sl)) rfl ?_
    refine ES.call (Qc := fun r => r = (some (.ref 9), [B0, B1, B2, B3, B4, B5, B6, .inl (.char, v8), .inl (.char, [.int x0, .int x1, .int x2, .int x3, .int x4, .int x5, .int x6]), .inr (0, [(0, .ref 11), (1, .int (0 : Int32))]), .inl (.char, [.int x0.toUInt32.toUInt16.toUInt32.toInt32]), .inl (.byte, [.int x0.toUInt32.toUInt16.toUInt32.toInt32.toInt8.toInt32.toInt8.toInt32])], 3, 6)) rfl (cut_1 hcs v8 x0 x1 x2 x3 x4 x5 x6 h0x h1x h2x h3x h4x h5x h6x) ?_
    rintro _ _ _ _ ⟨⟩
    show ES _ _ _ _ _ _ ((221, [.val (.int a), .val (.int b), .val (.int c), .val (.long d), .second, .val (.int md), .val (.ref 7), .val (.ref 8), .val (.int (1 : Int32)), .unset, .unset], [.ref 9]), [B0, B1, B2, B3, B4, B5, B6, .inl (.char, v8), .inl (.char, [.int x0, .int x1, .int x2, .int x3, .int x4, .int x5, .int x6]), .inr (0, [(0, .ref 11), (1, .int (0 : Int32))]), .inl (.char, [.int x0.toUInt32.toUInt16.toUInt32.toInt32]), .inl (.byte, [.int x0.toUInt32.toUInt16.toUInt32.toInt32.toInt8.toInt32.toInt8.toInt32])], 5, sl + 6)
    refine ES.run 2 (cf' := ((225, [.val (.int a), .val (.int b), .val (.int c), .val (.long d), .second, .val (.int md), .val (.ref 7), .val (.ref 8), .val (.int (1 : Int32)), .val (.ref 9), .unset], [.ref 9]), [B0, B1, B2, B3, B4, B5, B6, .inl (.char, v8), .inl (.char, [.int x0, .int x1, .int x2, .int x3, .int x4, .int x5, .int x6]), .inr (0, [(0, .ref 11), (1, .int (0 : Int32))]), .inl (.char, [.int x0.toUInt32.toUInt16.toUInt32.toInt32]), .inl (.byte, [.int x0.toUInt32.toUInt16.toUInt32.toInt32.toInt8.toInt32.toInt8.toInt32])], 5, sl + 6)) rfl ?_
    exact ES.stop rfl
  rcases hl8 with rfl | ⟨j, rfl⟩
  · exact ES.run 1 rfl key
  · exact ES.run 1 rfl key
set_option maxHeartbeats 4000000 in
theorem lawC_2 {cs : Int32} (hcs : cs.toInt ≠ 0) (a b c md : Int32) (d : Int64) (v8 : List Value) (x0 x1 x2 x3 x4 x5 x6 : Int32) (l8 : Slot) (sl : Nat) (hl8 : l8 = .unset ∨ ∃ j : Int32, l8 = .val (.int j)) (h0x : okc x0) (h1x : okc x1) (h2x : okc x2) (h3x : okc x3) (h4x : okc x4) (h5x : okc x5) (h6x : okc x6) (hn : (a &&& (7 : Int32)) = Int32.ofNat 2) : ES (gG cs 7 N0) true 8 192 mL (fun r => r = ((225, [.val (.int a), .val (.int b), .val (.int c), .val (.long d), .second, .val (.int md), .val (.ref 7), .val (.ref 8), .val (.int (2 : Int32)), .val (.ref 9), .unset], [.ref 9]), [B0, B1, B2, B3, B4, B5, B6, .inl (.char, v8), .inl (.char, [.int x0, .int x1, .int x2, .int x3, .int x4, .int x5, .int x6]), .inr (0, [(0, .ref 11), (1, .int (0 : Int32))]), .inl (.char, [.int x0.toUInt32.toUInt16.toUInt32.toInt32, .int x1.toUInt32.toUInt16.toUInt32.toInt32]), .inl (.byte, [.int x0.toUInt32.toUInt16.toUInt32.toInt32.toInt8.toInt32.toInt8.toInt32, .int x1.toUInt32.toUInt16.toUInt32.toInt32.toInt8.toInt32.toInt8.toInt32])], 5, sl + 8)) ((208, [.val (.int a), .val (.int b), .val (.int c), .val (.long d), .second, .val (.int md), .val (.ref 7), .val (.ref 8), l8, .unset, .unset], []), [B0, B1, B2, B3, B4, B5, B6, .inl (.char, v8), .inl (.char, [.int x0, .int x1, .int x2, .int x3, .int x4, .int x5, .int x6])], 2, sl) := by
  refine ES.run 3 (cf' := ((212, [.val (.int a), .val (.int b), .val (.int c), .val (.long d), .second, .val (.int md), .val (.ref 7), .val (.ref 8), l8, .unset, .unset], [.int (a &&& (7 : Int32))]), [B0, B1, B2, B3, B4, B5, B6, .inl (.char, v8), .inl (.char, [.int x0, .int x1, .int x2, .int x3, .int x4, .int x5, .int x6])], 2, sl)) rfl ?_
  rw [hn]
  have key : ES (gG cs 7 N0) true 8 192 mL (fun r => r = ((225, [.val (.int a), .val (.int b), .val (.int c), .val (.long d), .second, .val (.int md), .val (.ref 7), .val (.ref 8), .val (.int (2 : Int32)), .val (.ref 9), .unset], [.ref 9]), [B0, B1, B2, B3, B4, B5, B6, .inl (.char, v8), .inl (.char, [.int x0, .int x1, .int x2, .int x3, .int x4, .int x5, .int x6]), .inr (0, [(0, .ref 11), (1, .int (0 : Int32))]), .inl (.char, [.int x0.toUInt32.toUInt16.toUInt32.toInt32, .int x1.toUInt32.toUInt16.toUInt32.toInt32]), .inl (.byte, [.int x0.toUInt32.toUInt16.toUInt32.toInt32.toInt8.toInt32.toInt8.toInt32, .int x1.toUInt32.toUInt16.toUInt32.toInt32.toInt8.toInt32.toInt8.toInt32])], 5, sl + 8)) ((214, [.val (.int a), .val (.int b), .val (.int c), .val (.long d), .second, .val (.int md), .val (.ref 7), .val (.ref 8), .val (.int (2 : Int32)), .unset, .unset], []), [B0, B1, B2, B3, B4, B5, B6, .inl (.char, v8), .inl (.char, [.int x0, .int x1, .int x2, .int x3, .int x4, .int x5, .int x6])], 2, sl) := by
    refine ES.run 2 (cf' := ((218, [.val (.int a), .val (.int b), .val (.int c), .val (.long d), .second, .val (.int md), .val (.ref 7), .val (.ref 8), .val (.int (2 : Int32)), .unset, .unset], [.int (2 : Int32), .ref 8]), [B0, B1, B2, B3, B4, B5, B6, .inl (.char, v8), .inl (.char, [.int x0, .int x1, .int x2, .int x3, .int x4, .int x5, .int x6])], 2, sl)) rfl ?_
    refine ES.call (Qc := fun r => r = (some (.ref 9), [B0, B1, B2, B3, B4, B5, B6, .inl (.char, v8), .inl (.char, [.int x0, .int x1, .int x2, .int x3, .int x4, .int x5, .int x6]), .inr (0, [(0, .ref 11), (1, .int (0 : Int32))]), .inl (.char, [.int x0.toUInt32.toUInt16.toUInt32.toInt32, .int x1.toUInt32.toUInt16.toUInt32.toInt32]), .inl (.byte, [.int x0.toUInt32.toUInt16.toUInt32.toInt32.toInt8.toInt32.toInt8.toInt32, .int x1.toUInt32.toUInt16.toUInt32.toInt32.toInt8.toInt32.toInt8.toInt32])], 3, 8)) rfl (cut_2 hcs v8 x0 x1 x2 x3 x4 x5 x6 h0x h1x h2x h3x h4x h5x h6x) ?_
    rintro _ _ _ _ ⟨⟩
    show ES _ _ _ _ _ _ ((221, [.val (.int a), .val (.int b), .val (.int c), .val (.long d), .second, .val (.int md), .val (.ref 7), .val (.ref 8), .val (.int (2 : Int32)), .unset, .unset], [.ref 9]), [B0, B1, B2, B3, B4, B5, B6, .inl (.char, v8), .inl (.char, [.int x0, .int x1, .int x2, .int x3, .int x4, .int x5, .int x6]), .inr (0, [(0, .ref 11), (1, .int (0 : Int32))]), .inl (.char, [.int x0.toUInt32.toUInt16.toUInt32.toInt32, .int x1.toUInt32.toUInt16.toUInt32.toInt32]), .inl (.byte, [.int x0.toUInt32.toUInt16.toUInt32.toInt32.toInt8.toInt32.toInt8.toInt32, .int x1.toUInt32.toUInt16.toUInt32.toInt32.toInt8.toInt32.toInt8.toInt32])], 5, sl + 8)
    refine ES.run 2 (cf' := ((225, [.val (.int a), .val (.int b), .val (.int c), .val (.long d), .second, .val (.int md), .val (.ref 7), .val (.ref 8), .val (.int (2 : Int32)), .val (.ref 9), .unset], [.ref 9]), [B0, B1, B2, B3, B4, B5, B6, .inl (.char, v8), .inl (.char, [.int x0, .int x1, .int x2, .int x3, .int x4, .int x5, .int x6]), .inr (0, [(0, .ref 11), (1, .int (0 : Int32))]), .inl (.char, [.int x0.toUInt32.toUInt16.toUInt32.toInt32, .int x1.toUInt32.toUInt16.toUInt32.toInt32]), .inl (.byte, [.int x0.toUInt32.toUInt16.toUInt32.toInt32.toInt8.toInt32.toInt8.toInt32, .int x1.toUInt32.toUInt16.toUInt32.toInt32.toInt8.toInt32.toInt8.toInt32])], 5, sl + 8)) rfl ?_
    exact ES.stop rfl
  rcases hl8 with rfl | ⟨j, rfl⟩
  · exact ES.run 1 rfl key
  · exact ES.run 1 rfl key
set_option maxHeartbeats 4000000 in
theorem lawC_3 {cs : Int32} (hcs : cs.toInt ≠ 0) (a b c md : Int32) (d : Int64) (v8 : List Value) (x0 x1 x2 x3 x4 x5 x6 : Int32) (l8 : Slot) (sl : Nat) (hl8 : l8 = .unset ∨ ∃ j : Int32, l8 = .val (.int j)) (h0x : okc x0) (h1x : okc x1) (h2x : okc x2) (h3x : okc x3) (h4x : okc x4) (h5x : okc x5) (h6x : okc x6) (hn : (a &&& (7 : Int32)) = Int32.ofNat 3) : ES (gG cs 7 N0) true 8 192 mL (fun r => r = ((225, [.val (.int a), .val (.int b), .val (.int c), .val (.long d), .second, .val (.int md), .val (.ref 7), .val (.ref 8), .val (.int (3 : Int32)), .val (.ref 9), .unset], [.ref 9]), [B0, B1, B2, B3, B4, B5, B6, .inl (.char, v8), .inl (.char, [.int x0, .int x1, .int x2, .int x3, .int x4, .int x5, .int x6]), .inr (0, [(0, .ref 11), (1, .int (0 : Int32))]), .inl (.char, [.int x0.toUInt32.toUInt16.toUInt32.toInt32, .int x1.toUInt32.toUInt16.toUInt32.toInt32, .int x2.toUInt32.toUInt16.toUInt32.toInt32]), .inl (.byte, [.int x0.toUInt32.toUInt16.toUInt32.toInt32.toInt8.toInt32.toInt8.toInt32, .int x1.toUInt32.toUInt16.toUInt32.toInt32.toInt8.toInt32.toInt8.toInt32, .int x2.toUInt32.toUInt16.toUInt32.toInt32.toInt8.toInt32.toInt8.toInt32])], 5, sl + 10)) ((208, [.val (.int a), .val (.int b), .val (.int c), .val (.long d), .second, .val (.int md), .val (.ref 7), .val (.ref 8), l8, .unset, .unset], []), [B0, B1, B2, B3, B4, B5, B6, .inl (.char, v8), .inl (.char, [.int x0, .int x1, .int x2, .int x3, .int x4, .int x5, .int x6])], 2, sl) := by
  refine ES.run 3 (cf' := ((212, [.val (.int a), .val (.int b), .val (.int c), .val (.long d), .second, .val (.int md), .val (.ref 7), .val (.ref 8), l8, .unset, .unset], [.int (a &&& (7 : Int32))]), [B0, B1, B2, B3, B4, B5, B6, .inl (.char, v8), .inl (.char, [.int x0, .int x1, .int x2, .int x3, .int x4, .int x5, .int x6])], 2, sl)) rfl ?_
  rw [hn]
  have key : ES (gG cs 7 N0) true 8 192 mL (fun r => r = ((225, [.val (.int a), .val (.int b), .val (.int c), .val (.long d), .second, .val (.int md), .val (.ref 7), .val (.ref 8), .val (.int (3 : Int32)), .val (.ref 9), .unset], [.ref 9]), [B0, B1, B2, B3, B4, B5, B6, .inl (.char, v8), .inl (.char, [.int x0, .int x1, .int x2, .int x3, .int x4, .int x5, .int x6]), .inr (0, [(0, .ref 11), (1, .int (0 : Int32))]), .inl (.char, [.int x0.toUInt32.toUInt16.toUInt32.toInt32, .int x1.toUInt32.toUInt16.toUInt32.toInt32, .int x2.toUInt32.toUInt16.toUInt32.toInt32]), .inl (.byte, [.int x0.toUInt32.toUInt16.toUInt32.toInt32.toInt8.toInt32.toInt8.toInt32, .int x1.toUInt32.toUInt16.toUInt32.toInt32.toInt8.toInt32.toInt8.toInt32, .int x2.toUInt32.toUInt16.toUInt32.toInt32.toInt8.toInt32.toInt8.toInt32])], 5, sl + 10)) ((214, [.val (.int a), .val (.int b), .val (.int c), .val (.long d), .second, .val (.int md), .val (.ref 7), .val (.ref 8), .val (.int (3 : Int32)), .unset, .unset], []), [B0, B1, B2, B3, B4, B5, B6, .inl (.char, v8), .inl (.char, [.int x0, .int x1, .int x2, .int x3, .int x4, .int x5, .int x6])], 2, sl) := by
    refine ES.run 2 (cf' := ((218, [.val (.int a), .val (.int b), .val (.int c), .val (.long d), .second, .val (.int md), .val (.ref 7), .val (.ref 8), .val (.int (3 : Int32)), .unset, .unset], [.int (3 : Int32), .ref 8]), [B0, B1, B2, B3, B4, B5, B6, .inl (.char, v8), .inl (.char, [.int x0, .int x1, .int x2, .int x3, .int x4, .int x5, .int x6])], 2, sl)) rfl ?_
    refine ES.call (Qc := fun r => r = (some (.ref 9), [B0, B1, B2, B3, B4, B5, B6, .inl (.char, v8), .inl (.char, [.int x0, .int x1, .int x2, .int x3, .int x4, .int x5, .int x6]), .inr (0, [(0, .ref 11), (1, .int (0 : Int32))]), .inl (.char, [.int x0.toUInt32.toUInt16.toUInt32.toInt32, .int x1.toUInt32.toUInt16.toUInt32.toInt32, .int x2.toUInt32.toUInt16.toUInt32.toInt32]), .inl (.byte, [.int x0.toUInt32.toUInt16.toUInt32.toInt32.toInt8.toInt32.toInt8.toInt32, .int x1.toUInt32.toUInt16.toUInt32.toInt32.toInt8.toInt32.toInt8.toInt32, .int x2.toUInt32.toUInt16.toUInt32.toInt32.toInt8.toInt32.toInt8.toInt32])], 3, 10)) rfl (cut_3 hcs v8 x0 x1 x2 x3 x4 x5 x6 h0x h1x h2x h3x h4x h5x h6x) ?_
    rintro _ _ _ _ ⟨⟩
    show ES _ _ _ _ _ _ ((221, [.val (.int a), .val (.int b), .val (.int c), .val (.long d), .second, .val (.int md), .val (.ref 7), .val (.ref 8), .val (.int (3 : Int32)), .unset, .unset], [.ref 9]), [B0, B1, B2, B3, B4, B5, B6, .inl (.char, v8), .inl (.char, [.int x0, .int x1, .int x2, .int x3, .int x4, .int x5, .int x6]), .inr (0, [(0, .ref 11), (1, .int (0 : Int32))]), .inl (.char, [.int x0.toUInt32.toUInt16.toUInt32.toInt32, .int x1.toUInt32.toUInt16.toUInt32.toInt32, .int x2.toUInt32.toUInt16.toUInt32.toInt32]), .inl (.byte, [.int x0.toUInt32.toUInt16.toUInt32.toInt32.toInt8.toInt32.toInt8.toInt32, .int x1.toUInt32.toUInt16.toUInt32.toInt32.toInt8.toInt32.toInt8.toInt32, .int x2.toUInt32.toUInt16.toUInt32.toInt32.toInt8.toInt32.toInt8.toInt32])], 5, sl + 10)
    refine ES.run 2 (cf' := ((225, [.val (.int a), .val (.int b), .val (.int c), .val (.long d), .second, .val (.int md), .val (.ref 7), .val (.ref 8), .val (.int (3 : Int32)), .val (.ref 9), .unset], [.ref 9]), [B0, B1, B2, B3, B4, B5, B6, .inl (.char, v8), .inl (.char, [.int x0, .int x1, .int x2, .int x3, .int x4, .int x5, .int x6]), .inr (0, [(0, .ref 11), (1, .int (0 : Int32))]), .inl (.char, [.int x0.toUInt32.toUInt16.toUInt32.toInt32, .int x1.toUInt32.toUInt16.toUInt32.toInt32, .int x2.toUInt32.toUInt16.toUInt32.toInt32]), .inl (.byte, [.int x0.toUInt32.toUInt16.toUInt32.toInt32.toInt8.toInt32.toInt8.toInt32, .int x1.toUInt32.toUInt16.toUInt32.toInt32.toInt8.toInt32.toInt8.toInt32, .int x2.toUInt32.toUInt16.toUInt32.toInt32.toInt8.toInt32.toInt8.toInt32])], 5, sl + 10)) rfl ?_
    exact ES.stop rfl
  rcases hl8 with rfl | ⟨j, rfl⟩
  · exact ES.run 1 rfl key
  · exact ES.run 1 rfl key
set_option maxHeartbeats 4000000 in
theorem lawC_4 {cs : Int32} (hcs : cs.toInt ≠ 0) (a b c md : Int32) (d : Int64) (v8 : List Value) (x0 x1 x2 x3 x4 x5 x6 : Int32) (l8 : Slot) (sl : Nat) (hl8 : l8 = .unset ∨ ∃ j : Int32, l8 = .val (.int j)) (h0x : okc x0) (h1x : okc x1) (h2x : okc x2) (h3x : okc x3) (h4x : okc x4) (h5x : okc x5) (h6x : okc x6) (hn : (a &&& (7 : Int32)) = Int32.ofNat 4) : ES (gG cs 7 N0) true 8 192 mL (fun r => r = ((225, [.val (.int a), .val (.int b), .val (.int c), .val (.long d), .second, .val (.int md), .val (.ref 7), .val (.ref 8), .val (.int (4 : Int32)), .val (.ref 9), .unset], [.ref 9]), [B0, B1, B2, B3, B4, B5, B6, .inl (.char, v8), .inl (.char, [.int x0, .int x1, .int x2, .int x3, .int x4, .int x5, .int x6]), .inr (0, [(0, .ref 11), (1, .int (0 : Int32))]), .inl (.char, [.int x0.toUInt32.toUInt16.toUInt32.toInt32, .int x1.toUInt32.toUInt16.toUInt32.toInt32, .int x2.toUInt32.toUInt16.toUInt32.toInt32, .int x3.toUInt32.toUInt16.toUInt32.toInt32]), .inl (.byte, [.int x0.toUInt32.toUInt16.toUInt32.toInt32.toInt8.toInt32.toInt8.toInt32, .int x1.toUInt32.toUInt16.toUInt32.toInt32.toInt8.toInt32.toInt8.toInt32, .int x2.toUInt32.toUInt16.toUInt32.toInt32.toInt8.toInt32.toInt8.toInt32, .int x3.toUInt32.toUInt16.toUInt32.toInt32.toInt8.toInt32.toInt8.toInt32])], 5, sl + 12)) ((208, [.val (.int a), .val (.int b), .val (.int c), .val (.long d), .second, .val (.int md), .val (.ref 7), .val (.ref 8), l8, .unset, .unset], []), [B0, B1, B2, B3, B4, B5, B6, .inl (.char, v8), .inl (.char, [.int x0, .int x1, .int x2, .int x3, .int x4, .int x5, .int x6])], 2, sl) := by
  refine ES.run 3 (cf' := ((212, [.val (.int a), .val (.int b), .val (.int c), .val (.long d), .second, .val (.int md), .val (.ref 7), .val (.ref 8), l8, .unset, .unset], [.int (a &&& (7 : Int32))]), [B0, B1, B2, B3, B4, B5, B6, .inl (.char, v8), .inl (.char, [.int x0, .int x1, .int x2, .int x3, .int x4, .int x5, .int x6])], 2, sl)) rfl ?_
  rw [hn]
  have key : ES (gG cs 7 N0) true 8 192 mL (fun r => r = ((225, [.val (.int a), .val (.int b), .val (.int c), .val (.long d), .second, .val (.int md), .val (.ref 7), .val (.ref 8), .val (.int (4 : Int32)), .val (.ref 9), .unset], [.ref 9]), [B0, B1, B2, B3, B4, B5, B6, .inl (.char, v8), .inl (.char, [.int x0, .int x1, .int x2, .int x3, .int x4, .int x5, .int x6]), .inr (0, [(0, .ref 11), (1, .int (0 : Int32))]), .inl (.char, [.int x0.toUInt32.toUInt16.toUInt32.toInt32, .int x1.toUInt32.toUInt16.toUInt32.toInt32, .int x2.toUInt32.toUInt16.toUInt32.toInt32, .int x3.toUInt32.toUInt16.toUInt32.toInt32]), .inl (.byte, [.int x0.toUInt32.toUInt16.toUInt32.toInt32.toInt8.toInt32.toInt8.toInt32, .int x1.toUInt32.toUInt16.toUInt32.toInt32.toInt8.toInt32.toInt8.toInt32, .int x2.toUInt32.toUInt16.toUInt32.toInt32.toInt8.toInt32.toInt8.toInt32, .int x3.toUInt32.toUInt16.toUInt32.toInt32.toInt8.toInt32.toInt8.toInt32])], 5, sl + 12)) ((214, [.val (.int a), .val (.int b), .val (.int c), .val (.long d), .second, .val (.int md), .val (.ref 7), .val (.ref 8), .val (.int (4 : Int32)), .unset, .unset], []), [B0, B1, B2, B3, B4, B5, B6, .inl (.char, v8), .inl (.char, [.int x0, .int x1, .int x2, .int x3, .int x4, .int x5, .int x6])], 2, sl) := by
    refine ES.run 2 (cf' := ((218, [.val (.int a), .val (.int b), .val (.int c), .val (.long d), .second, .val (.int md), .val (.ref 7), .val (.ref 8), .val (.int (4 : Int32)), .unset, .unset], [.int (4 : Int32), .ref 8]), [B0, B1, B2, B3, B4, B5, B6, .inl (.char, v8), .inl (.char, [.int x0, .int x1, .int x2, .int x3, .int x4, .int x5, .int x6])], 2, sl)) rfl ?_
    refine ES.call (Qc := fun r => r = (some (.ref 9), [B0, B1, B2, B3, B4, B5, B6, .inl (.char, v8), .inl (.char, [.int x0, .int x1, .int x2, .int x3, .int x4, .int x5, .int x6]), .inr (0, [(0, .ref 11), (1, .int (0 : Int32))]), .inl (.char, [.int x0.toUInt32.toUInt16.toUInt32.toInt32, .int x1.toUInt32.toUInt16.toUInt32.toInt32, .int x2.toUInt32.toUInt16.toUInt32.toInt32, .int x3.toUInt32.toUInt16.toUInt32.toInt32]), .inl (.byte, [.int x0.toUInt32.toUInt16.toUInt32.toInt32.toInt8.toInt32.toInt8.toInt32, .int x1.toUInt32.toUInt16.toUInt32.toInt32.toInt8.toInt32.toInt8.toInt32, .int x2.toUInt32.toUInt16.toUInt32.toInt32.toInt8.toInt32.toInt8.toInt32, .int x3.toUInt32.toUInt16.toUInt32.toInt32.toInt8.toInt32.toInt8.toInt32])], 3, 12)) rfl (cut_4 hcs v8 x0 x1 x2 x3 x4 x5 x6 h0x h1x h2x h3x h4x h5x h6x) ?_
    rintro _ _ _ _ ⟨⟩
    show ES _ _ _ _ _ _ ((221, [.val (.int a), .val (.int b), .val (.int c), .val (.long d), .second, .val (.int md), .val (.ref 7), .val (.ref 8), .val (.int (4 : Int32)), .unset, .unset], [.ref 9]), [B0, B1, B2, B3, B4, B5, B6, .inl (.char, v8), .inl (.char, [.int x0, .int x1, .int x2, .int x3, .int x4, .int x5, .int x6]), .inr (0, [(0, .ref 11), (1, .int (0 : Int32))]), .inl (.char, [.int x0.toUInt32.toUInt16.toUInt32.toInt32, .int x1.toUInt32.toUInt16.toUInt32.toInt32, .int x2.toUInt32.toUInt16.toUInt32.toInt32, .int x3.toUInt32.toUInt16.toUInt32.toInt32]), .inl (.byte, [.int x0.toUInt32.toUInt16.toUInt32.toInt32.toInt8.toInt32.toInt8.toInt32, .int x1.toUInt32.toUInt16.toUInt32.toInt32.toInt8.toInt32.toInt8.toInt32, .int x2.toUInt32.toUInt16.toUInt32.toInt32.toInt8.toInt32.toInt8.toInt32, .int x3.toUInt32.toUInt16.toUInt32.toInt32.toInt8.toInt32.toInt8.toInt32])], 5, sl + 12)
    refine ES.run 2 (cf' := ((225, [.val (.int a), .val (.int b), .val (.int c), .val (.long d), .second, .val (.int md), .val (.ref 7), .val (.ref 8), .val (.int (4 : Int32)), .val (.ref 9), .unset], [.ref 9]), [B0, B1, B2, B3, B4, B5, B6, .inl (.char, v8), .inl (.char, [.int x0, .int x1, .int x2, .int x3, .int x4, .int x5, .int x6]), .inr (0, [(0, .ref 11), (1, .int (0 : Int32))]), .inl (.char, [.int x0.toUInt32.toUInt16.toUInt32.toInt32, .int x1.toUInt32.toUInt16.toUInt32.toInt32, .int x2.toUInt32.toUInt16.toUInt32.toInt32, .int x3.toUInt32.toUInt16.toUInt32.toInt32]), .inl (.byte, [.int x0.toUInt32.toUInt16.toUInt32.toInt32.toInt8.toInt32.toInt8.toInt32, .int x1.toUInt32.toUInt16.toUInt32.toInt32.toInt8.toInt32.toInt8.toInt32, .int x2.toUInt32.toUInt16.toUInt32.toInt32.toInt8.toInt32.toInt8.toInt32, .int x3.toUInt32.toUInt16.toUInt32.toInt32.toInt8.toInt32.toInt8.toInt32])], 5, sl + 12)) rfl ?_
    exact ES.stop rfl
  rcases hl8 with rfl | ⟨j, rfl⟩
  · exact ES.run 1 rfl key
  · exact ES.run 1 rfl key
set_option maxHeartbeats 4000000 in
theorem lawC_5 {cs : Int32} (hcs : cs.toInt ≠ 0) (a b c md : Int32) (d : Int64) (v8 : List Value) (x0 x1 x2 x3 x4 x5 x6 : Int32) (l8 : Slot) (sl : Nat) (hl8 : l8 = .unset ∨ ∃ j : Int32, l8 = .val (.int j)) (h0x : okc x0) (h1x : okc x1) (h2x : okc x2) (h3x : okc x3) (h4x : okc x4) (h5x : okc x5) (h6x : okc x6) (hn : (a &&& (7 : Int32)) = Int32.ofNat 5) : ES (gG cs 7 N0) true 8 192 mL (fun r => r = ((225, [.val (.int a), .val (.int b), .val (.int c), .val (.long d), .second, .val (.int md), .val (.ref 7), .val (.ref 8), .val (.int (5 : Int32)), .val (.ref 9), .unset], [.ref 9]), [B0, B1, B2, B3, B4, B5, B6, .inl (.char, v8), .inl (.char, [.int x0, .int x1, .int x2, .int x3, .int x4, .int x5, .int x6]), .inr (0, [(0, .ref 11), (1, .int (0 : Int32))]), .inl (.char, [.int x0.toUInt32.toUInt16.toUInt32.toInt32, .int x1.toUInt32.toUInt16.toUInt32.toInt32, .int x2.toUInt32.toUInt16.toUInt32.toInt32, .int x3.toUInt32.toUInt16.toUInt32.toInt32, .int x4.toUInt32.toUInt16.toUInt32.toInt32]), .inl (.byte, [.int x0.toUInt32.toUInt16.toUInt32.toInt32.toInt8.toInt32.toInt8.toInt32, .int x1.toUInt32.toUInt16.toUInt32.toInt32.toInt8.toInt32.toInt8.toInt32, .int x2.toUInt32.toUInt16.toUInt32.toInt32.toInt8.toInt32.toInt8.toInt32, .int x3.toUInt32.toUInt16.toUInt32.toInt32.toInt8.toInt32.toInt8.toInt32, .int x4.toUInt32.toUInt16.toUInt32.toInt32.toInt8.toInt32.toInt8.toInt32])], 5, sl + 14)) ((208, [.val (.int a), .val (.int b), .val (.int c), .val (.long d), .second, .val (.int md), .val (.ref 7), .val (.ref 8), l8, .unset, .unset], []), [B0, B1, B2, B3, B4, B5, B6, .inl (.char, v8), .inl (.char, [.int x0, .int x1, .int x2, .int x3, .int x4, .int x5, .int x6])], 2, sl) := by
  refine ES.run 3 (cf' := ((212, [.val (.int a), .val (.int b), .val (.int c), .val (.long d), .second, .val (.int md), .val (.ref 7), .val (.ref 8), l8, .unset, .unset], [.int (a &&& (7 : Int32))]), [B0, B1, B2, B3, B4, B5, B6, .inl (.char, v8), .inl (.char, [.int x0, .int x1, .int x2, .int x3, .int x4, .int x5, .int x6])], 2, sl)) rfl ?_
  rw [hn]
  have key : ES (gG cs 7 N0) true 8 192 mL (fun r => r = ((225, [.val (.int a), .val (.int b), .val (.int c), .val (.long d), .second, .val (.int md), .val (.ref 7), .val (.ref 8), .val (.int (5 : Int32)), .val (.ref 9), .unset], [.ref 9]), [B0, B1, B2, B3, B4, B5, B6, .inl (.char, v8), .inl (.char, [.int x0, .int x1, .int x2, .int x3, .int x4, .int x5, .int x6]), .inr (0, [(0, .ref 11), (1, .int (0 : Int32))]), .inl (.char, [.int x0.toUInt32.toUInt16.toUInt32.toInt32, .int x1.toUInt32.toUInt16.toUInt32.toInt32, .int x2.toUInt32.toUInt16.toUInt32.toInt32, .int x3.toUInt32.toUInt16.toUInt32.toInt32, .int x4.toUInt32.toUInt16.toUInt32.toInt32]), .inl (.byte, [.int x0.toUInt32.toUInt16.toUInt32.toInt32.toInt8.toInt32.toInt8.toInt32, .int x1.toUInt32.toUInt16.toUInt32.toInt32.toInt8.toInt32.toInt8.toInt32, .int x2.toUInt32.toUInt16.toUInt32.toInt32.toInt8.toInt32.toInt8.toInt32, .int x3.toUInt32.toUInt16.toUInt32.toInt32.toInt8.toInt32.toInt8.toInt32, .int x4.toUInt32.toUInt16.toUInt32.toInt32.toInt8.toInt32.toInt8.toInt32])], 5, sl + 14)) ((214, [.val (.int a), .val (.int b), .val (.int c), .val (.long d), .second, .val (.int md), .val (.ref 7), .val (.ref 8), .val (.int (5 : Int32)), .unset, .unset], []), [B0, B1, B2, B3, B4, B5, B6, .inl (.char, v8), .inl (.char, [.int x0, .int x1, .int x2, .int x3, .int x4, .int x5, .int x6])], 2, sl) := by
    refine ES.run 2 (cf' := ((218, [.val (.int a), .val (.int b), .val (.int c), .val (.long d), .second, .val (.int md), .val (.ref 7), .val (.ref 8), .val (.int (5 : Int32)), .unset, .unset], [.int (5 : Int32), .ref 8]), [B0, B1, B2, B3, B4, B5, B6, .inl (.char, v8), .inl (.char, [.int x0, .int x1, .int x2, .int x3, .int x4, .int x5, .int x6])], 2, sl)) rfl ?_
    refine ES.call (Qc := fun r => r = (some (.ref 9), [B0, B1, B2, B3, B4, B5, B6, .inl (.char, v8), .inl (.char, [.int x0, .int x1, .int x2, .int x3, .int x4, .int x5, .int x6]), .inr (0, [(0, .ref 11), (1, .int (0 : Int32))]), .inl (.char, [.int x0.toUInt32.toUInt16.toUInt32.toInt32, .int x1.toUInt32.toUInt16.toUInt32.toInt32, .int x2.toUInt32.toUInt16.toUInt32.toInt32, .int x3.toUInt32.toUInt16.toUInt32.toInt32, .int x4.toUInt32.toUInt16.toUInt32.toInt32]), .inl (.byte, [.int x0.toUInt32.toUInt16.toUInt32.toInt32.toInt8.toInt32.toInt8.toInt32, .int x1.toUInt32.toUInt16.toUInt32.toInt32.toInt8.toInt32.toInt8.toInt32, .int x2.toUInt32.toUInt16.toUInt32.toInt32.toInt8.toInt32.toInt8.toInt32, .int x3.toUInt32.toUInt16.toUInt32.toInt32.toInt8.toInt32.toInt8.toInt32, .int x4.toUInt32.toUInt16.toUInt32.toInt32.toInt8.toInt32.toInt8.toInt32])], 3, 14)) rfl (cut_5 hcs v8 x0 x1 x2 x3 x4 x5 x6 h0x h1x h2x h3x h4x h5x h6x) ?_
    rintro _ _ _ _ ⟨⟩
    show ES _ _ _ _ _ _ ((221, [.val (.int a), .val (.int b), .val (.int c), .val (.long d), .second, .val (.int md), .val (.ref 7), .val (.ref 8), .val (.int (5 : Int32)), .unset, .unset], [.ref 9]), [B0, B1, B2, B3, B4, B5, B6, .inl (.char, v8), .inl (.char, [.int x0, .int x1, .int x2, .int x3, .int x4, .int x5, .int x6]), .inr (0, [(0, .ref 11), (1, .int (0 : Int32))]), .inl (.char, [.int x0.toUInt32.toUInt16.toUInt32.toInt32, .int x1.toUInt32.toUInt16.toUInt32.toInt32, .int x2.toUInt32.toUInt16.toUInt32.toInt32, .int x3.toUInt32.toUInt16.toUInt32.toInt32, .int x4.toUInt32.toUInt16.toUInt32.toInt32]), .inl (.byte, [.int x0.toUInt32.toUInt16.toUInt32.toInt32.toInt8.toInt32.toInt8.toInt32, .int x1.toUInt32.toUInt16.toUInt32.toInt32.toInt8.toInt32.toInt8.toInt32, .int x2.toUInt32.toUInt16.toUInt32.toInt32.toInt8.toInt32.toInt8.toInt32, .int x3.toUInt32.toUInt16.toUInt32.toInt32.toInt8.toInt32.toInt8.toInt32, .int x4.toUInt32.toUInt16.toUInt32.toInt32.toInt8.toInt32.toInt8.toInt32])], 5, sl + 14)
    refine ES.run 2 (cf' := ((225, [.val (.int a), .val (.int b), .val (.int c), .val (.long d), .second, .val (.int md), .val (.ref 7), .val (.ref 8), .val (.int (5 : Int32)), .val (.ref 9), .unset], [.ref 9]), [B0, B1, B2, B3, B4, B5, B6, .inl (.char, v8), .inl (.char, [.int x0, .int x1, .int x2, .int x3, .int x4, .int x5, .int x6]), .inr (0, [(0, .ref 11), (1, .int (0 : Int32))]), .inl (.char, [.int x0.toUInt32.toUInt16.toUInt32.toInt32, .int x1.toUInt32.toUInt16.toUInt32.toInt32, .int x2.toUInt32.toUInt16.toUInt32.toInt32, .int x3.toUInt32.toUInt16.toUInt32.toInt32, .int x4.toUInt32.toUInt16.toUInt32.toInt32]), .inl (.byte, [.int x0.toUInt32.toUInt16.toUInt32.toInt32.toInt8.toInt32.toInt8.toInt32, .int x1.toUInt32.toUInt16.toUInt32.toInt32.toInt8.toInt32.toInt8.toInt32, .int x2.toUInt32.toUInt16.toUInt32.toInt32.toInt8.toInt32.toInt8.toInt32, .int x3.toUInt32.toUInt16.toUInt32.toInt32.toInt8.toInt32.toInt8.toInt32, .int x4.toUInt32.toUInt16.toUInt32.toInt32.toInt8.toInt32.toInt8.toInt32])], 5, sl + 14)) rfl ?_
    exact ES.stop rfl
  rcases hl8 with rfl | ⟨j, rfl⟩
  · exact ES.run 1 rfl key
  · exact ES.run 1 rfl key
set_option maxHeartbeats 4000000 in
theorem lawC_6 {cs : Int32} (hcs : cs.toInt ≠ 0) (a b c md : Int32) (d : Int64) (v8 : List Value) (x0 x1 x2 x3 x4 x5 x6 : Int32) (l8 : Slot) (sl : Nat) (hl8 : l8 = .unset ∨ ∃ j : Int32, l8 = .val (.int j)) (h0x : okc x0) (h1x : okc x1) (h2x : okc x2) (h3x : okc x3) (h4x : okc x4) (h5x : okc x5) (h6x : okc x6) (hn : (a &&& (7 : Int32)) = Int32.ofNat 6) : ES (gG cs 7 N0) true 8 192 mL (fun r => r = ((225, [.val (.int a), .val (.int b), .val (.int c), .val (.long d), .second, .val (.int md), .val (.ref 7), .val (.ref 8), .val (.int (6 : Int32)), .val (.ref 9), .unset], [.ref 9]), [B0, B1, B2, B3, B4, B5, B6, .inl (.char, v8), .inl (.char, [.int x0, .int x1, .int x2, .int x3, .int x4, .int x5, .int x6]), .inr (0, [(0, .ref 11), (1, .int (0 : Int32))]), .inl (.char, [.int x0.toUInt32.toUInt16.toUInt32.toInt32, .int x1.toUInt32.toUInt16.toUInt32.toInt32, .int x2.toUInt32.toUInt16.toUInt32.toInt32, .int x3.toUInt32.toUInt16.toUInt32.toInt32, .int x4.toUInt32.toUInt16.toUInt32.toInt32, .int x5.toUInt32.toUInt16.toUInt32.toInt32]), .inl (.byte, [.int x0.toUInt32.toUInt16.toUInt32.toInt32.toInt8.toInt32.toInt8.toInt32, .int x1.toUInt32.toUInt16.toUInt32.toInt32.toInt8.toInt32.toInt8.toInt32, .int x2.toUInt32.toUInt16.toUInt32.toInt32.toInt8.toInt32.toInt8.toInt32, .int x3.toUInt32.toUInt16.toUInt32.toInt32.toInt8.toInt32.toInt8.toInt32, .int x4.toUInt32.toUInt16.toUInt32.toInt32.toInt8.toInt32.toInt8.toInt32, .int x5.toUInt32.toUInt16.toUInt32.toInt32.toInt8.toInt32.toInt8.toInt32])], 5, sl + 16)) ((208, [.val (.int a), .val (.int b), .val (.int c), .val (.long d), .second, .val (.int md), .val (.ref 7), .val (.ref 8), l8, .unset, .unset], []), [B0, B1, B2, B3, B4, B5, B6, .inl (.char, v8), .inl (.char, [.int x0, .int x1, .int x2, .int x3, .int x4, .int x5, .int x6])], 2, sl) := by
  refine ES.run 3 (cf' := ((212, [.val (.int a), .val (.int b), .val (.int c), .val (.long d), .second, .val (.int md), .val (.ref 7), .val (.ref 8), l8, .unset, .unset], [.int (a &&& (7 : Int32))]), [B0, B1, B2, B3, B4, B5, B6, .inl (.char, v8), .inl (.char, [.int x0, .int x1, .int x2, .int x3, .int x4, .int x5, .int x6])], 2, sl)) rfl ?_
  rw [hn]
  have key : ES (gG cs 7 N0) true 8 192 mL (fun r => r = ((225, [.val (.int a), .val (.int b), .val (.int c), .val (.long d), .second, .val (.int md), .val (.ref 7), .val (.ref 8), .val (.int (6 : Int32)), .val (.ref 9), .unset], [.ref 9]), [B0, B1, B2, B3, B4, B5, B6, .inl (.char, v8), .inl (.char, [.int x0, .int x1, .int x2, .int x3, .int x4, .int x5, .int x6]), .inr (0, [(0, .ref 11), (1, .int (0 : Int32))]), .inl (.char, [.int x0.toUInt32.toUInt16.toUInt32.toInt32, .int x1.toUInt32.toUInt16.toUInt32.toInt32, .int x2.toUInt32.toUInt16.toUInt32.toInt32, .int x3.toUInt32.toUInt16.toUInt32.toInt32, .int x4.toUInt32.toUInt16.toUInt32.toInt32, .int x5.toUInt32.toUInt16.toUInt32.toInt32]), .inl (.byte, [.int x0.toUInt32.toUInt16.toUInt32.toInt32.toInt8.toInt32.toInt8.toInt32, .int x1.toUInt32.toUInt16.toUInt32.toInt32.toInt8.toInt32.toInt8.toInt32, .int x2.toUInt32.toUInt16.toUInt32.toInt32.toInt8.toInt32.toInt8.toInt32, .int x3.toUInt32.toUInt16.toUInt32.toInt32.toInt8.toInt32.toInt8.toInt32, .int x4.toUInt32.toUInt16.toUInt32.toInt32.toInt8.toInt32.toInt8.toInt32, .int x5.toUInt32.toUInt16.toUInt32.toInt32.toInt8.toInt32.toInt8.toInt32])], 5, sl + 16)) ((214, [.val (.int a), .val (.int b), .val (.int c), .val (.long d), .second, .val (.int md), .val (.ref 7), .val (.ref 8), .val (.int (6 : Int32)), .unset, .unset], []), [B0, B1, B2, B3, B4, B5, B6, .inl (.char, v8), .inl (.char, [.int x0, .int x1, .int x2, .int x3, .int x4, .int x5, .int x6])], 2, sl) := by
    refine ES.run 2 (cf' := ((218, [.val (.int a), .val (.int b), .val (.int c), .val (.long d), .second, .val (.int md), .val (.ref 7), .val (.ref 8), .val (.int (6 : Int32)), .unset, .unset], [.int (6 : Int32), .ref 8]), [B0, B1, B2, B3, B4, B5, B6, .inl (.char, v8), .inl (.char, [.int x0, .int x1, .int x2, .int x3, .int x4, .int x5, .int x6])], 2, sl)) rfl ?_
    refine ES.call (Qc := fun r => r = (some (.ref 9), [B0, B1, B2, B3, B4, B5, B6, .inl (.char, v8), .inl (.char, [.int x0, .int x1, .int x2, .int x3, .int x4, .int x5, .int x6]), .inr (0, [(0, .ref 11), (1, .int (0 : Int32))]), .inl (.char, [.int x0.toUInt32.toUInt16.toUInt32.toInt32, .int x1.toUInt32.toUInt16.toUInt32.toInt32, .int x2.toUInt32.toUInt16.toUInt32.toInt32, .int x3.toUInt32.toUInt16.toUInt32.toInt32, .int x4.toUInt32.toUInt16.toUInt32.toInt32, .int x5.toUInt32.toUInt16.toUInt32.toInt32]), .inl (.byte, [.int x0.toUInt32.toUInt16.toUInt32.toInt32.toInt8.toInt32.toInt8.toInt32, .int x1.toUInt32.toUInt16.toUInt32.toInt32.toInt8.toInt32.toInt8.toInt32, .int x2.toUInt32.toUInt16.toUInt32.toInt32.toInt8.toInt32.toInt8.toInt32, .int x3.toUInt32.toUInt16.toUInt32.toInt32.toInt8.toInt32.toInt8.toInt32, .int x4.toUInt32.toUInt16.toUInt32.toInt32.toInt8.toInt32.toInt8.toInt32, .int x5.toUInt32.toUInt16.toUInt32.toInt32.toInt8.toInt32.toInt8.toInt32])], 3, 16)) rfl (cut_6 hcs v8 x0 x1 x2 x3 x4 x5 x6 h0x h1x h2x h3x h4x h5x h6x) ?_
    rintro _ _ _ _ ⟨⟩
    show ES _ _ _ _ _ _ ((221, [.val (.int a), .val (.int b), .val (.int c), .val (.long d), .second, .val (.int md), .val (.ref 7), .val (.ref 8), .val (.int (6 : Int32)), .unset, .unset], [.ref 9]), [B0, B1, B2, B3, B4, B5, B6, .inl (.char, v8), .inl (.char, [.int x0, .int x1, .int x2, .int x3, .int x4, .int x5, .int x6]), .inr (0, [(0, .ref 11), (1, .int (0 : Int32))]), .inl (.char, [.int x0.toUInt32.toUInt16.toUInt32.toInt32, .int x1.toUInt32.toUInt16.toUInt32.toInt32, .int x2.toUInt32.toUInt16.toUInt32.toInt32, .int x3.toUInt32.toUInt16.toUInt32.toInt32, .int x4.toUInt32.toUInt16.toUInt32.toInt32, .int x5.toUInt32.toUInt16.toUInt32.toInt32]), .inl (.byte, [.int x0.toUInt32.toUInt16.toUInt32.toInt32.toInt8.toInt32.toInt8.toInt32, .int x1.toUInt32.toUInt16.toUInt32.toInt32.toInt8.toInt32.toInt8.toInt32, .int x2.toUInt32.toUInt16.toUInt32.toInt32.toInt8.toInt32.toInt8.toInt32, .int x3.toUInt32.toUInt16.toUInt32.toInt32.toInt8.toInt32.toInt8.toInt32, .int x4.toUInt32.toUInt16.toUInt32.toInt32.toInt8.toInt32.toInt8.toInt32, .int x5.toUInt32.toUInt16.toUInt32.toInt32.toInt8.toInt32.toInt8.toInt32])], 5, sl + 16)
    refine ES.run 2 (cf' := ((225, [.val (.int a), .val (.int b), .val (.int c), .val (.long d), .second, .val (.int md), .val (.ref 7), .val (.ref 8), .val (.int (6 : Int32)), .val (.ref 9), .unset], [.ref 9]), [B0, B1, B2, B3, B4, B5, B6, .inl (.char, v8), .inl (.char, [.int x0, .int x1, .int x2, .int x3, .int x4, .int x5, .int x6]), .inr (0, [(0, .ref 11), (1, .int (0 : Int32))]), .inl (.char, [.int x0.toUInt32.toUInt16.toUInt32.toInt32, .int x1.toUInt32.toUInt16.toUInt32.toInt32, .int x2.toUInt32.toUInt16.toUInt32.toInt32, .int x3.toUInt32.toUInt16.toUInt32.toInt32, .int x4.toUInt32.toUInt16.toUInt32.toInt32, .int x5.toUInt32.toUInt16.toUInt32.toInt32]), .inl (.byte, [.int x0.toUInt32.toUInt16.toUInt32.toInt32.toInt8.toInt32.toInt8.toInt32, .int x1.toUInt32.toUInt16.toUInt32.toInt32.toInt8.toInt32.toInt8.toInt32, .int x2.toUInt32.toUInt16.toUInt32.toInt32.toInt8.toInt32.toInt8.toInt32, .int x3.toUInt32.toUInt16.toUInt32.toInt32.toInt8.toInt32.toInt8.toInt32, .int x4.toUInt32.toUInt16.toUInt32.toInt32.toInt8.toInt32.toInt8.toInt32, .int x5.toUInt32.toUInt16.toUInt32.toInt32.toInt8.toInt32.toInt8.toInt32])], 5, sl + 16)) rfl ?_
    exact ES.stop rfl
  rcases hl8 with rfl | ⟨j, rfl⟩
  · exact ES.run 1 rfl key
  · exact ES.run 1 rfl key
set_option maxHeartbeats 4000000 in
theorem lawC_7 {cs : Int32} (hcs : cs.toInt ≠ 0) (a b c md : Int32) (d : Int64) (v8 : List Value) (x0 x1 x2 x3 x4 x5 x6 : Int32) (l8 : Slot) (sl : Nat) (hl8 : l8 = .unset ∨ ∃ j : Int32, l8 = .val (.int j)) (h0x : okc x0) (h1x : okc x1) (h2x : okc x2) (h3x : okc x3) (h4x : okc x4) (h5x : okc x5) (h6x : okc x6) (hn : (a &&& (7 : Int32)) = Int32.ofNat 7) : ES (gG cs 7 N0) true 8 192 mL (fun r => r = ((225, [.val (.int a), .val (.int b), .val (.int c), .val (.long d), .second, .val (.int md), .val (.ref 7), .val (.ref 8), .val (.int (7 : Int32)), .val (.ref 9), .unset], [.ref 9]), [B0, B1, B2, B3, B4, B5, B6, .inl (.char, v8), .inl (.char, [.int x0, .int x1, .int x2, .int x3, .int x4, .int x5, .int x6]), .inr (0, [(0, .ref 11), (1, .int (0 : Int32))]), .inl (.char, [.int x0.toUInt32.toUInt16.toUInt32.toInt32, .int x1.toUInt32.toUInt16.toUInt32.toInt32, .int x2.toUInt32.toUInt16.toUInt32.toInt32, .int x3.toUInt32.toUInt16.toUInt32.toInt32, .int x4.toUInt32.toUInt16.toUInt32.toInt32, .int x5.toUInt32.toUInt16.toUInt32.toInt32, .int x6.toUInt32.toUInt16.toUInt32.toInt32]), .inl (.byte, [.int x0.toUInt32.toUInt16.toUInt32.toInt32.toInt8.toInt32.toInt8.toInt32, .int x1.toUInt32.toUInt16.toUInt32.toInt32.toInt8.toInt32.toInt8.toInt32, .int x2.toUInt32.toUInt16.toUInt32.toInt32.toInt8.toInt32.toInt8.toInt32, .int x3.toUInt32.toUInt16.toUInt32.toInt32.toInt8.toInt32.toInt8.toInt32, .int x4.toUInt32.toUInt16.toUInt32.toInt32.toInt8.toInt32.toInt8.toInt32, .int x5.toUInt32.toUInt16.toUInt32.toInt32.toInt8.toInt32.toInt8.toInt32, .int x6.toUInt32.toUInt16.toUInt32.toInt32.toInt8.toInt32.toInt8.toInt32])], 5, sl + 18)) ((208, [.val (.int a), .val (.int b), .val (.int c), .val (.long d), .second, .val (.int md), .val (.ref 7), .val (.ref 8), l8, .unset, .unset], []), [B0, B1, B2, B3, B4, B5, B6, .inl (.char, v8), .inl (.char, [.int x0, .int x1, .int x2, .int x3, .int x4, .int x5, .int x6])], 2, sl) := by
  refine ES.run 3 (cf' := ((212, [.val (.int a), .val (.int b), .val (.int c), .val (.long d), .second, .val (.int md), .val (.ref 7), .val (.ref 8), l8, .unset, .unset], [.int (a &&& (7 : Int32))]), [B0, B1, B2, B3, B4, B5, B6, .inl (.char, v8), .inl (.char, [.int x0, .int x1, .int x2, .int x3, .int x4, .int x5, .int x6])], 2, sl)) rfl ?_
  rw [hn]
  have key : ES (gG cs 7 N0) true 8 192 mL (fun r => r = ((225, [.val (.int a), .val (.int b), .val (.int c), .val (.long d), .second, .val (.int md), .val (.ref 7), .val (.ref 8), .val (.int (7 : Int32)), .val (.ref 9), .unset], [.ref 9]), [B0, B1, B2, B3, B4, B5, B6, .inl (.char, v8), .inl (.char, [.int x0, .int x1, .int x2, .int x3, .int x4, .int x5, .int x6]), .inr (0, [(0, .ref 11), (1, .int (0 : Int32))]), .inl (.char, [.int x0.toUInt32.toUInt16.toUInt32.toInt32, .int x1.toUInt32.toUInt16.toUInt32.toInt32, .int x2.toUInt32.toUInt16.toUInt32.toInt32, .int x3.toUInt32.toUInt16.toUInt32.toInt32, .int x4.toUInt32.toUInt16.toUInt32.toInt32, .int x5.toUInt32.toUInt16.toUInt32.toInt32, .int x6.toUInt32.toUInt16.toUInt32.toInt32]), .inl (.byte, [.int x0.toUInt32.toUInt16.toUInt32.toInt32.toInt8.toInt32.toInt8.toInt32, .int x1.toUInt32.toUInt16.toUInt32.toInt32.toInt8.toInt32.toInt8.toInt32, .int x2.toUInt32.toUInt16.toUInt32.toInt32.toInt8.toInt32.toInt8.toInt32, .int x3.toUInt32.toUInt16.toUInt32.toInt32.toInt8.toInt32.toInt8.toInt32, .int x4.toUInt32.toUInt16.toUInt32.toInt32.toInt8.toInt32.toInt8.toInt32, .int x5.toUInt32.toUInt16.toUInt32.toInt32.toInt8.toInt32.toInt8.toInt32, .int x6.toUInt32.toUInt16.toUInt32.toInt32.toInt8.toInt32.toInt8.toInt32])], 5, sl + 18)) ((214, [.val (.int a), .val (.int b), .val (.int c), .val (.long d), .second, .val (.int md), .val (.ref 7), .val (.ref 8), .val (.int (7 : Int32)), .unset, .unset], []), [B0, B1, B2, B3, B4, B5, B6, .inl (.char, v8), .inl (.char, [.int x0, .int x1, .int x2, .int x3, .int x4, .int x5, .int x6])], 2, sl) := by
    refine ES.run 2 (cf' := ((218, [.val (.int a), .val (.int b), .val (.int c), .val (.long d), .second, .val (.int md), .val (.ref 7), .val (.ref 8), .val (.int (7 : Int32)), .unset, .unset], [.int (7 : Int32), .ref 8]), [B0, B1, B2, B3, B4, B5, B6, .inl (.char, v8), .inl (.char, [.int x0, .int x1, .int x2, .int x3, .int x4, .int x5, .int x6])], 2, sl)) rfl ?_
    refine ES.call (Qc := fun r => r = (some (.ref 9), [B0, B1, B2, B3, B4, B5, B6, .inl (.char, v8), .inl (.char, [.int x0, .int x1, .int x2, .int x3, .int x4, .int x5, .int x6]), .inr (0, [(0, .ref 11), (1, .int (0 : Int32))]), .inl (.char, [.int x0.toUInt32.toUInt16.toUInt32.toInt32, .int x1.toUInt32.toUInt16.toUInt32.toInt32, .int x2.toUInt32.toUInt16.toUInt32.toInt32, .int x3.toUInt32.toUInt16.toUInt32.toInt32, .int x4.toUInt32.toUInt16.toUInt32.toInt32, .int x5.toUInt32.toUInt16.toUInt32.toInt32, .int x6.toUInt32.toUInt16.toUInt32.toInt32]), .inl (.byte, [.int x0.toUInt32.toUInt16.toUInt32.toInt32.toInt8.toInt32.toInt8.toInt32, .int x1.toUInt32.toUInt16.toUInt32.toInt32.toInt8.toInt32.toInt8.toInt32, .int x2.toUInt32.toUInt16.toUInt32.toInt32.toInt8.toInt32.toInt8.toInt32, .int x3.toUInt32.toUInt16.toUInt32.toInt32.toInt8.toInt32.toInt8.toInt32, .int x4.toUInt32.toUInt16.toUInt32.toInt32.toInt8.toInt32.toInt8.toInt32, .int x5.toUInt32.toUInt16.toUInt32.toInt32.toInt8.toInt32.toInt8.toInt32, .int x6.toUInt32.toUInt16.toUInt32.toInt32.toInt8.toInt32.toInt8.toInt32])], 3, 18)) rfl (cut_7 hcs v8 x0 x1 x2 x3 x4 x5 x6 h0x h1x h2x h3x h4x h5x h6x) ?_
    rintro _ _ _ _ ⟨⟩
    show ES _ _ _ _ _ _ ((221, [.val (.int a), .val (.int b), .val (.int c), .val (.long d), .second, .val (.int md), .val (.ref 7), .val (.ref 8), .val (.int (7 : Int32)), .unset, .unset], [.ref 9]), [B0, B1, B2, B3, B4, B5, B6, .inl (.char, v8), .inl (.char, [.int x0, .int x1, .int x2, .int x3, .int x4, .int x5, .int x6]), .inr (0, [(0, .ref 11), (1, .int (0 : Int32))]), .inl (.char, [.int x0.toUInt32.toUInt16.toUInt32.toInt32, .int x1.toUInt32.toUInt16.toUInt32.toInt32, .int x2.toUInt32.toUInt16.toUInt32.toInt32, .int x3.toUInt32.toUInt16.toUInt32.toInt32, .int x4.toUInt32.toUInt16.toUInt32.toInt32, .int x5.toUInt32.toUInt16.toUInt32.toInt32, .int x6.toUInt32.toUInt16.toUInt32.toInt32]), .inl (.byte, [.int x0.toUInt32.toUInt16.toUInt32.toInt32.toInt8.toInt32.toInt8.toInt32, .int x1.toUInt32.toUInt16.toUInt32.toInt32.toInt8.toInt32.toInt8.toInt32, .int x2.toUInt32.toUInt16.toUInt32.toInt32.toInt8.toInt32.toInt8.toInt32, .int x3.toUInt32.toUInt16.toUInt32.toInt32.toInt8.toInt32.toInt8.toInt32, .int x4.toUInt32.toUInt16.toUInt32.toInt32.toInt8.toInt32.toInt8.toInt32, .int x5.toUInt32.toUInt16.toUInt32.toInt32.toInt8.toInt32.toInt8.toInt32, .int x6.toUInt32.toUInt16.toUInt32.toInt32.toInt8.toInt32.toInt8.toInt32])], 5, sl + 18)
    refine ES.run 2 (cf' := ((225, [.val (.int a), .val (.int b), .val (.int c), .val (.long d), .second, .val (.int md), .val (.ref 7), .val (.ref 8), .val (.int (7 : Int32)), .val (.ref 9), .unset], [.ref 9]), [B0, B1, B2, B3, B4, B5, B6, .inl (.char, v8), .inl (.char, [.int x0, .int x1, .int x2, .int x3, .int x4, .int x5, .int x6]), .inr (0, [(0, .ref 11), (1, .int (0 : Int32))]), .inl (.char, [.int x0.toUInt32.toUInt16.toUInt32.toInt32, .int x1.toUInt32.toUInt16.toUInt32.toInt32, .int x2.toUInt32.toUInt16.toUInt32.toInt32, .int x3.toUInt32.toUInt16.toUInt32.toInt32, .int x4.toUInt32.toUInt16.toUInt32.toInt32, .int x5.toUInt32.toUInt16.toUInt32.toInt32, .int x6.toUInt32.toUInt16.toUInt32.toInt32]), .inl (.byte, [.int x0.toUInt32.toUInt16.toUInt32.toInt32.toInt8.toInt32.toInt8.toInt32, .int x1.toUInt32.toUInt16.toUInt32.toInt32.toInt8.toInt32.toInt8.toInt32, .int x2.toUInt32.toUInt16.toUInt32.toInt32.toInt8.toInt32.toInt8.toInt32, .int x3.toUInt32.toUInt16.toUInt32.toInt32.toInt8.toInt32.toInt8.toInt32, .int x4.toUInt32.toUInt16.toUInt32.toInt32.toInt8.toInt32.toInt8.toInt32, .int x5.toUInt32.toUInt16.toUInt32.toInt32.toInt8.toInt32.toInt8.toInt32, .int x6.toUInt32.toUInt16.toUInt32.toInt32.toInt8.toInt32.toInt8.toInt32])], 5, sl + 18)) rfl ?_
    exact ES.stop rfl
  rcases hl8 with rfl | ⟨j, rfl⟩
  · exact ES.run 1 rfl key
  · exact ES.run 1 rfl key
theorem own_slots {ρ : Rho} {cl : Cell} {ys : List Int32} (e1 : cl.slots.size = (ys.map Value.int).length) (e2 : ∀ (i : Nat) (v : Value), (ys.map Value.int)[i]? = some v → kn v = true → cl.slots[i]? = some (rl ρ v)) : cl.slots = (ys.map Value.int).toArray := by
  apply Array.ext (by simpa using e1)
  intro i h1 h2
  have h3 : i < ys.length := by simpa using h2
  have q := e2 i (.int ys[i]) (by simp [h3]) rfl
  rw [Array.getElem?_eq_getElem h1] at q
  simpa [rl] using Option.some.inj q
section Law
variable {p : Program} {l : Launch} {e : Env} {s : State} {m : MethodId} {args : Array Value} {below : List Frame} {meth : Method} {cd : Code} {Z : State} {a0 : Array Value}
/-- behind a new String of at least one char -/
theorem own_n225 (hw : ∀ d ∈ tables_1, d.before a0 Z = true) (hCT : ∀ C F, gT C = some F → ClsOk Z a0 gK gC C F) (hEL : Jvm.RoadKit.EW Z a0 consts_1) {cs : Int32} (hcs : cs.toInt ≠ 0) {A : Nat → Addr} (F : StF Z A cs Z.heap) {s₁ : State}
    (X1 : Stand p l e room_1 (s.setVm s₁.vm) m args below meth cd s₁ [] 0 0) (hx : p.tables.exec = Jvm.exec) (hZ : Z.Warmed39 s.vm) (hZ1 : Z.Warmed39 s₁.vm) (hown : s₁.vm.findClass x.cls = some m.cls) (hnm : meth.name = x.name) (hby : cd.code = code) (hml : cd.maxLocals = maxLocals) (hret : meth.sig.returnType = ret)
    (hh : s.heap = Z.heap) (A0 : CHr Z consts_1 s.vm Z.heap s₁.vm Z.heap) (hSi0 : s.Since s₁.vm s₁.heap.size) (e0 : s₁.heap = Z.heap) (es : s₁.heap = s.heap)
    {a b c md nn : Int32} {d : Int64} {v8 : List Value} {fl : List Value} {cf1 : Cfg} {sl : Nat} {o10 : Obj} {ys : List Int32} (hg1 : Go (gG cs 7 N0) true 8 192 mL ((0, entL [.int a, .int b, .int c, .long d] 11, []), gB [], 0, 0) cf1)
    (hgo : ES (gG cs 7 N0) true 8 192 mL (fun r => r = ((225, [.val (.int a), .val (.int b), .val (.int c), .val (.long d), .second, .val (.int md), .val (.ref 7), .val (.ref 8), .val (.int nn), .val (.ref 9), .unset], [.ref 9]), gB [.inl (.char, v8), .inl (.char, fl), .inr (0, [(0, .ref 11), (1, .int 0)]), o10, .inl (.byte, ys.map Value.int)], 5, sl)) cf1)
    (hlen : ys.length < 2147483648) (hsl : sl ≤ 200) : Ends p l e s m args below meth cd s₁ (fm (rhoL (asB A []) Z.heap.size) m (0, entL [.int a, .int b, .int c, .long d] 11, [])) := by
  obtain ⟨cf2, hg2, rfl⟩ := hgo
  have hsz0 : s.heap.size = Z.heap.size := by rw [hh]
  have hS : Sim Z (rhoL (asB A []) Z.heap.size) gK gC 7 (Z.heap, s.heap.size) (gS cs) (gB []) Z.heap := simL (as := asB A []) rfl (by rw [hsz0]; exact Nat.le_refl _) (own_objs F (fun j o h => by cases h)) (own_sta F _ _)
  have hSI : Sim Z (rhoL (asB A []) Z.heap.size) gK gC 7 (Z.heap, s.heap.size) (gS cs) (gB []) s₁.heap := by rw [e0]; exact hS
  have hsI : s₁.heap.size = s.heap.size + 0 := by rw [es]; rfl
  have hsl' : sl ≤ 3264 := by omega
  obtain ⟨T, L, X, N, hS2, hgr, hsz, st⟩ := go_ok (l := l) (R := room_1) (s := s.setVm s₁.vm) (n0 := (Z.heap, s.heap.size)) (ρ := rhoL (asB A []) Z.heap.size) (b := 7) (P := gP) (S := gS cs) (CT := gT) (D := N0) (NI := N0) (TB := T0) (V := gV) (K := gK) (CN := gC) (MN := gM) (M := mL) (rhoL_hi (as := asB A [])) (rhoL_lo (as := asB A []) (own_ltB F (fun a h => by cases h))) (fun i j h => by cases h) hCT (fun C k h => by cases h) (hP hw) (own_T0 _) (gV_ok (A := A) hw (rhoL_hi (as := asB A [])) F rfl) (good_of hw cL rfl) hx hZ1 hown hnm hby hml rfl rfl (hg1.trans hg2) (Nat.le_of_ble_eq_true rfl) hsl' X1 (Fr.nil _) hSI (fun _ => hsI)
  have E2 : Ext Z.heap T.heap := hS2.2.2.2.2.1
  dsimp only at X st
  have r7 : (rhoL (asB A []) Z.heap.size).1 7 = Z.heap.size := rfl
  have r8 : (rhoL (asB A []) Z.heap.size).1 8 = Z.heap.size + 1 := rfl
  have r9 : (rhoL (asB A []) Z.heap.size).1 9 = Z.heap.size + 2 := rfl
  have r11 : (rhoL (asB A []) Z.heap.size).1 11 = Z.heap.size + 4 := rfl
  have O7 := hS2.2.2.1 7 _ rfl
  have O8 := hS2.2.2.1 8 _ rfl
  have O9 := hS2.2.2.1 9 _ rfl
  have O11 := hS2.2.2.1 11 _ rfl
  rw [r7] at O7
  rw [r8] at O8
  rw [r9] at O9
  rw [r11] at O11
  have C1 : CA Z T.heap Z.heap.size v8.length := by obtain ⟨cl, q1, q2, -⟩ := O7; exact ⟨cl, q1, q2⟩
  have C2 : CA Z T.heap (Z.heap.size + 1) fl.length := by obtain ⟨cl, q1, q2, -⟩ := O8; exact ⟨cl, q1, q2⟩
  have SS : Strg Z T.heap (Z.heap.size + 2) (Z.heap.size + 4) ys := by
    refine ⟨O9.1, O9.2 (1, .int 0) (by simp), O9.2 (0, .ref 11) (by simp), ?_⟩
    obtain ⟨cl, q1, q2, q3⟩ := O11
    exact ⟨cl, q1, own_slots q2 q3⟩
  exact Ends.of st (own_tail hw hCT hEL hcs (X.mono (by decide) hsl) hSi0 hgr hx hZ1 hown hnm hby hml hret N (Nat.le_trans (by rw [es]; exact Nat.le_refl _) hgr) (F.ext E2) (by rw [hsz0]; exact F.s3.1.lt) (by rw [hsz0]; exact F.s5.1.lt) (A0.1.ext E2) SS (by omega) C1 C2 hlen a b c md nn d)
/-- behind the empty one -/
theorem own_n218 (hw : ∀ d ∈ tables_1, d.before a0 Z = true) (hCT : ∀ C F, gT C = some F → ClsOk Z a0 gK gC C F) (hEL : Jvm.RoadKit.EW Z a0 consts_1) {cs : Int32} (hcs : cs.toInt ≠ 0) {A : Nat → Addr} (F : StF Z A cs Z.heap) {s₁ : State}
    (X1 : Stand p l e room_1 (s.setVm s₁.vm) m args below meth cd s₁ [] 0 0) (hx : p.tables.exec = Jvm.exec) (hZ : Z.Warmed39 s.vm) (hZ1 : Z.Warmed39 s₁.vm) (hown : s₁.vm.findClass x.cls = some m.cls) (hnm : meth.name = x.name) (hby : cd.code = code) (hml : cd.maxLocals = maxLocals) (hret : meth.sig.returnType = ret)
    (hh : s.heap = Z.heap) (A0 : CHr Z consts_1 s.vm Z.heap s₁.vm Z.heap) (hSi0 : s.Since s₁.vm s₁.heap.size) (e0 : s₁.heap = Z.heap) (es : s₁.heap = s.heap)
    {a b c md : Int32} {d : Int64} {v8 fl : List Value} {cf1 : Cfg} {sl : Nat} (hg1 : Go (gG cs 7 N0) true 8 192 mL ((0, entL [.int a, .int b, .int c, .long d] 11, []), gB [], 0, 0) cf1)
    (hgo : ES (gG cs 7 N0) true 8 192 mL (fun r => r = ((218, [.val (.int a), .val (.int b), .val (.int c), .val (.long d), .second, .val (.int md), .val (.ref 7), .val (.ref 8), .val (.int 0), .unset, .unset], [.int 0, .ref 8]), gB [.inl (.char, v8), .inl (.char, fl)], 2, sl)) cf1)
    (hsl : sl ≤ 100) : Ends p l e s m args below meth cd s₁ (fm (rhoL (asB A []) Z.heap.size) m (0, entL [.int a, .int b, .int c, .long d] 11, [])) := by
  obtain ⟨cf2, hg2, rfl⟩ := hgo
  have hsz0 : s.heap.size = Z.heap.size := by rw [hh]
  have hS : Sim Z (rhoL (asB A []) Z.heap.size) gK gC 7 (Z.heap, s.heap.size) (gS cs) (gB []) Z.heap := simL (as := asB A []) rfl (by rw [hsz0]; exact Nat.le_refl _) (own_objs F (fun j o h => by cases h)) (own_sta F _ _)
  have hSI : Sim Z (rhoL (asB A []) Z.heap.size) gK gC 7 (Z.heap, s.heap.size) (gS cs) (gB []) s₁.heap := by rw [e0]; exact hS
  have hsI : s₁.heap.size = s.heap.size + 0 := by rw [es]; rfl
  have hsl' : sl ≤ 3264 := by omega
  obtain ⟨T, L, X, N, hS2, hgr, hsz, st⟩ := go_ok (l := l) (R := room_1) (s := s.setVm s₁.vm) (n0 := (Z.heap, s.heap.size)) (ρ := rhoL (asB A []) Z.heap.size) (b := 7) (P := gP) (S := gS cs) (CT := gT) (D := N0) (NI := N0) (TB := T0) (V := gV) (K := gK) (CN := gC) (MN := gM) (M := mL) (rhoL_hi (as := asB A [])) (rhoL_lo (as := asB A []) (own_ltB F (fun a h => by cases h))) (fun i j h => by cases h) hCT (fun C k h => by cases h) (hP hw) (own_T0 _) (gV_ok (A := A) hw (rhoL_hi (as := asB A [])) F rfl) (good_of hw cL rfl) hx hZ1 hown hnm hby hml rfl rfl (hg1.trans hg2) (Nat.le_of_ble_eq_true rfl) hsl' X1 (Fr.nil _) hSI (fun _ => hsI)
  have E2 : Ext Z.heap T.heap := hS2.2.2.2.2.1
  dsimp only at X st
  have r7 : (rhoL (asB A []) Z.heap.size).1 7 = Z.heap.size := rfl
  have r8 : (rhoL (asB A []) Z.heap.size).1 8 = Z.heap.size + 1 := rfl
  have O7 := hS2.2.2.1 7 _ rfl
  have O8 := hS2.2.2.1 8 _ rfl
  rw [r7] at O7
  rw [r8] at O8
  have C1 : CA Z T.heap Z.heap.size v8.length := by obtain ⟨cl, q1, q2, -⟩ := O7; exact ⟨cl, q1, q2⟩
  have C2 : CA Z T.heap (Z.heap.size + 1) fl.length := by obtain ⟨cl, q1, q2, -⟩ := O8; exact ⟨cl, q1, q2⟩
  have d218 : decode cd.code 218 = .ok (.invokestatic 14, 3) := by rw [hby]; decide +kernel
  have d221 : decode cd.code 221 = .ok (.astore 9, 2) := by rw [hby]; decide +kernel
  have d223 : decode cd.code 223 = .ok (.aload 9, 2) := by rw [hby]; decide +kernel
  obtain ⟨-, hpl, hcode, hini⟩ := hP hw 1 m1 rfl
  have hM := cutMet (l := l) hw hCT hEL C2
  have hKc := backOfSH (p := p) (e := e) (below := below) (s := s) (args := args) (R := room_1) (len := 3) (W := 0) (rm := rmC) hM hZ1 hcode hini (by decide) (by decide) hEL (A0.1.ext E2)
  obtain ⟨v, vm₁, ⟨T3, L3, k3, n3⟩, -, X3, hSi3, hgr3, ⟨L4, ⟨hv, NL, ⟨bb, hSt⟩, E3⟩, g1, g2, g3, C3⟩, st3⟩ := callSS X hx (y := m1.1) hown (mvT hZ1 (hw (Cond.methodLink x.cls 14 m1.1) (by decide +kernel))) (mvT hZ1 (hw (Cond.static m1.1) (by decide +kernel))) (mvT hZ1 hini) (mvT hZ1 hcode) ⟨by decide, by decide⟩ hKc (g := mkF m 218 #[.val (.int a), .val (.int b), .val (.int c), .val (.long d), .second, .val (.int md), .val (.ref Z.heap.size), .val (.ref (Z.heap.size + 1)), .val (.int 0), .unset, .unset] [.int 0, .ref (Z.heap.size + 1)]) rfl (by rw [hml]; rfl) (argsL := [.ref (Z.heap.size + 1), .int 0]) (rest := []) (fun sig h => by have q : parseMethodDescriptor m1.1.desc = some ⟨[.array .char, .int], some (.object "java/lang/String")⟩ := (by decide +kernel); cases q.symm.trans h; rfl) rfl (Nat.le_refl 0) d218 (fun _ _ => ⟨rfl, rfl, by show 2 + 6 ≤ 32; decide, by show sl + 12 ≤ 3264; omega⟩)
  dsimp only [Pt.U, Pt.locs, Pt.cells, Pt.slots] at X3 hSi3 hgr3 g1 g2 g3 st3 hSt E3 C3
  subst g1 g2 g3 hv
  have hSi3' : s.Since T3.vm T3.heap.size := hSi0.trans hSi3 (Nat.le_trans hgr hgr3)
  have X3' : Stand p l e room_1 (s.setVm T3.vm) m args below meth cd T3 (L ++ L4) (2 + 6) (sl + 12) := X3
  have hW3 : (s.setVm s₁.vm).Warmed39 T3.vm := hSi3.1
  have hZ3 : Z.Warmed39 T3.vm := State.Warmed39.trans (t := s.setVm s₁.vm) hZ1 hW3
  have hown3 : T3.vm.findClass x.cls = some m.cls := by rw [hW3.alike.findClass]; exact hown
  have hT0 : s.heap.size ≤ T.heap.size := Nat.le_trans (by rw [es]; exact Nat.le_refl _) hgr
  have NL' : Fr s.heap.size L4 := fun y hy => Nat.le_trans hT0 (NL y hy)
  have E3' : Ext Z.heap T3.heap := ⟨Nat.le_trans E2.1 E3.1, fun y cl q => E3.2 _ _ (E2.2 _ _ q)⟩
  have fin := own_tail hw hCT hEL hcs (X3'.mono (cells' := 10) (slots' := 200) (by decide) (by omega)) hSi3' (Nat.le_refl _) hx hZ3 hown3 hnm hby hml hret (Fr.app N NL') (Nat.le_trans hT0 hgr3) (F.ext E3') (by rw [hsz0]; exact F.s3.1.lt) (by rw [hsz0]; exact F.s5.1.lt) C3.1 hSt hT0 (C1.ext E3) (C2.ext E3) (by decide) a b c md 0 d
  refine Ends.of st (Ends.of (fun target hr => st3.trans ?_) fin)
  have p1 : Steps p.tables e below (T3.setTop (fm (rhoL [Z.heap.size, Z.heap.size + 1, T.heap.size] 0) m (223, [.val (.int a), .val (.int b), .val (.int c), .val (.long d), .second, .val (.int md), .val (.ref 0), .val (.ref 1), .val (.int 0), .val (.ref 2), .unset], []))) target := pstep_ok (D := N0) (i := .aload 9) (v := .null) X3' hx hown3 (fun i j h => by cases h) d223 (fun k z h => by cases h) (fun k z h => by cases h) (f' := (225, [.val (.int a), .val (.int b), .val (.int c), .val (.long d), .second, .val (.int md), .val (.ref 0), .val (.ref 1), .val (.int 0), .val (.ref 2), .unset], [.ref 2])) rfl target hr
  exact pstep_ok (ρ := rhoL [Z.heap.size, Z.heap.size + 1, T.heap.size] 0) (D := N0) (i := .astore 9) (v := .null) (pc := 221) (ls := [.val (.int a), .val (.int b), .val (.int c), .val (.long d), .second, .val (.int md), .val (.ref 0), .val (.ref 1), .val (.int 0), .unset, .unset]) (st := [.ref 2]) X3' hx hown3 (fun i j h => by cases h) d221 (fun k z h => by cases h) (fun k z h => by cases h) rfl target p1
end Law
theorem pnL : plainFor x = true := plainFor_of_name (by first | (simp [plainName, overriddenIn, x]; done) | decide +kernel)
theorem lawMet {l : Launch} {Z : State} {a0 : Array Value} (hw : ∀ d ∈ tables_1, d.before a0 Z = true) (hCT : ∀ C F, gT C = some F → ClsOk Z a0 gK gC C F) (hEL : Jvm.RoadKit.EW Z a0 consts_1) {cs : Int32} (hcs : cs.toInt ≠ 0) {A : Nat → Addr} (F : StF Z A cs Z.heap) (a b c : Int32) (d : Int64) :
    MetFree l x (head1 (Cond.code x code maxLocals ret :: tables_1) room_1) (fun ar U => ar = #[.int a, .int b, .int c, .long d] ∧ Z.Warmed39 U.vm ∧ U.heap = Z.heap ∧ CHv Z consts_1 U.vm Z.heap) (fun _ _ _ _ _ => True)
      (fun _ U o U' => ∃ L, o = .returned (some (.int 1)) ∧ Fr U.heap.size L ∧ ReturnedEndW U o U' L 32 3264) := by
  refine MetFree.of_bodySF pnL hisR ?_
  intro p e s m args below meth cd s₁ Bd hml0 hP0 hK
  obtain ⟨rfl, hZ, hh, hH⟩ := hP0
  have hx := Bd.exec
  have hby : cd.code = code := Bd.bytes
  have hown0 : s.vm.findClass x.cls = some m.cls := findClass_of_methodNamed Bd.named
  have hnm : meth.name = x.name := (name_of_methodNamed Bd.named Bd.method).1
  have hret : meth.sig.returnType = ret := Bd.returns
  have X0 : Stand p l e room_1 s m #[.int a, .int b, .int c, .long d] below meth cd s₁ [] 0 0 := Stand.of_body Bd
  have e0 : s₁.heap = Z.heap := by rw [← hh, Bd.state]; rfl
  have es : s₁.heap = s.heap := by rw [Bd.state]; rfl
  have X1 : Stand p l e room_1 (s.setVm s₁.vm) m #[.int a, .int b, .int c, .long d] below meth cd s₁ [] 0 0 := X0.retabled X0.warmed.wide
  have hZ1 : Z.Warmed39 s₁.vm := State.Warmed39.trans (t := s) hZ X0.warmed.wide
  have hown : s₁.vm.findClass x.cls = some m.cls := by rw [X0.warmed.wide.alike.findClass]; exact hown0
  have A0 : CHr Z consts_1 s.vm Z.heap s₁.vm Z.heap := CHv.at (vm0 := s.vm) (show Stand p l e room_1 (s.setVm s.vm) m #[.int a, .int b, .int c, .long d] below meth cd s₁ [] 0 0 from X0) hZ hEL hH
  have hSi0 : s.Since s₁.vm s₁.heap.size := X0.warmed.since _
  obtain ⟨cf1, hgo, md, v8, x0, x1, x2, x3, x4, x5, x6, l8, sl, rfl, hsl, hl8, h0x, h1x, h2x, h3x, h4x, h5x, h6x⟩ := lawA cs a b c d
  have hg1 : Go (gG cs 7 N0) true 8 192 mL ((0, entL [.int a, .int b, .int c, .long d] 11, []), gB [], 0, 0) _ := hgo
  obtain ⟨n, hn, en⟩ := own_m7 a
  have fin : Ends p l e s m #[.int a, .int b, .int c, .long d] below meth cd s₁ (fm (rhoL (asB A []) Z.heap.size) m (0, entL [.int a, .int b, .int c, .long d] 11, [])) := by
    match n, hn with
    | 0, _ => exact own_n218 hw hCT hEL hcs F X1 hx hZ hZ1 hown hnm hby hml0 hret hh A0 hSi0 e0 es hg1 (lawC_0 hcs a b c md d v8 x0 x1 x2 x3 x4 x5 x6 l8 sl hl8 h0x h1x h2x h3x h4x h5x h6x en) (by omega)
    | 1, _ => exact own_n225 hw hCT hEL hcs F X1 hx hZ hZ1 hown hnm hby hml0 hret hh A0 hSi0 e0 es hg1 (lawC_1 hcs a b c md d v8 x0 x1 x2 x3 x4 x5 x6 l8 sl hl8 h0x h1x h2x h3x h4x h5x h6x en) (ys := [x0.toUInt32.toUInt16.toUInt32.toInt32.toInt8.toInt32.toInt8.toInt32]) (by show 1 < 2147483648; decide) (by show sl + 6 ≤ 200; omega)
    | 2, _ => exact own_n225 hw hCT hEL hcs F X1 hx hZ hZ1 hown hnm hby hml0 hret hh A0 hSi0 e0 es hg1 (lawC_2 hcs a b c md d v8 x0 x1 x2 x3 x4 x5 x6 l8 sl hl8 h0x h1x h2x h3x h4x h5x h6x en) (ys := [x0.toUInt32.toUInt16.toUInt32.toInt32.toInt8.toInt32.toInt8.toInt32, x1.toUInt32.toUInt16.toUInt32.toInt32.toInt8.toInt32.toInt8.toInt32]) (by show 2 < 2147483648; decide) (by show sl + 8 ≤ 200; omega)
    | 3, _ => exact own_n225 hw hCT hEL hcs F X1 hx hZ hZ1 hown hnm hby hml0 hret hh A0 hSi0 e0 es hg1 (lawC_3 hcs a b c md d v8 x0 x1 x2 x3 x4 x5 x6 l8 sl hl8 h0x h1x h2x h3x h4x h5x h6x en) (ys := [x0.toUInt32.toUInt16.toUInt32.toInt32.toInt8.toInt32.toInt8.toInt32, x1.toUInt32.toUInt16.toUInt32.toInt32.toInt8.toInt32.toInt8.toInt32, x2.toUInt32.toUInt16.toUInt32.toInt32.toInt8.toInt32.toInt8.toInt32]) (by show 3 < 2147483648; decide) (by show sl + 10 ≤ 200; omega)
    | 4, _ => exact own_n225 hw hCT hEL hcs F X1 hx hZ hZ1 hown hnm hby hml0 hret hh A0 hSi0 e0 es hg1 (lawC_4 hcs a b c md d v8 x0 x1 x2 x3 x4 x5 x6 l8 sl hl8 h0x h1x h2x h3x h4x h5x h6x en) (ys := [x0.toUInt32.toUInt16.toUInt32.toInt32.toInt8.toInt32.toInt8.toInt32, x1.toUInt32.toUInt16.toUInt32.toInt32.toInt8.toInt32.toInt8.toInt32, x2.toUInt32.toUInt16.toUInt32.toInt32.toInt8.toInt32.toInt8.toInt32, x3.toUInt32.toUInt16.toUInt32.toInt32.toInt8.toInt32.toInt8.toInt32]) (by show 4 < 2147483648; decide) (by show sl + 12 ≤ 200; omega)
    | 5, _ => exact own_n225 hw hCT hEL hcs F X1 hx hZ hZ1 hown hnm hby hml0 hret hh A0 hSi0 e0 es hg1 (lawC_5 hcs a b c md d v8 x0 x1 x2 x3 x4 x5 x6 l8 sl hl8 h0x h1x h2x h3x h4x h5x h6x en) (ys := [x0.toUInt32.toUInt16.toUInt32.toInt32.toInt8.toInt32.toInt8.toInt32, x1.toUInt32.toUInt16.toUInt32.toInt32.toInt8.toInt32.toInt8.toInt32, x2.toUInt32.toUInt16.toUInt32.toInt32.toInt8.toInt32.toInt8.toInt32, x3.toUInt32.toUInt16.toUInt32.toInt32.toInt8.toInt32.toInt8.toInt32, x4.toUInt32.toUInt16.toUInt32.toInt32.toInt8.toInt32.toInt8.toInt32]) (by show 5 < 2147483648; decide) (by show sl + 14 ≤ 200; omega)
    | 6, _ => exact own_n225 hw hCT hEL hcs F X1 hx hZ hZ1 hown hnm hby hml0 hret hh A0 hSi0 e0 es hg1 (lawC_6 hcs a b c md d v8 x0 x1 x2 x3 x4 x5 x6 l8 sl hl8 h0x h1x h2x h3x h4x h5x h6x en) (ys := [x0.toUInt32.toUInt16.toUInt32.toInt32.toInt8.toInt32.toInt8.toInt32, x1.toUInt32.toUInt16.toUInt32.toInt32.toInt8.toInt32.toInt8.toInt32, x2.toUInt32.toUInt16.toUInt32.toInt32.toInt8.toInt32.toInt8.toInt32, x3.toUInt32.toUInt16.toUInt32.toInt32.toInt8.toInt32.toInt8.toInt32, x4.toUInt32.toUInt16.toUInt32.toInt32.toInt8.toInt32.toInt8.toInt32, x5.toUInt32.toUInt16.toUInt32.toInt32.toInt8.toInt32.toInt8.toInt32]) (by show 6 < 2147483648; decide) (by show sl + 16 ≤ 200; omega)
    | 7, _ => exact own_n225 hw hCT hEL hcs F X1 hx hZ hZ1 hown hnm hby hml0 hret hh A0 hSi0 e0 es hg1 (lawC_7 hcs a b c md d v8 x0 x1 x2 x3 x4 x5 x6 l8 sl hl8 h0x h1x h2x h3x h4x h5x h6x en) (ys := [x0.toUInt32.toUInt16.toUInt32.toInt32.toInt8.toInt32.toInt8.toInt32, x1.toUInt32.toUInt16.toUInt32.toInt32.toInt8.toInt32.toInt8.toInt32, x2.toUInt32.toUInt16.toUInt32.toInt32.toInt8.toInt32.toInt8.toInt32, x3.toUInt32.toUInt16.toUInt32.toInt32.toInt8.toInt32.toInt8.toInt32, x4.toUInt32.toUInt16.toUInt32.toInt32.toInt8.toInt32.toInt8.toInt32, x5.toUInt32.toUInt16.toUInt32.toInt32.toInt8.toInt32.toInt8.toInt32, x6.toUInt32.toUInt16.toUInt32.toInt32.toInt8.toInt32.toInt8.toInt32]) (by show 7 < 2147483648; decide) (by show sl + 18 ≤ 200; omega)
    | n + 8, hn => exact absurd hn (by omega)
  obtain ⟨vm1, k1, T', L', X', hSi', hk', N', st⟩ := fin
  obtain ⟨fs, hr, hrun, hended, hW⟩ := X'.leaveW hSi' hk' (v := some (.int 1)) (fun q => by rw [hret] at q; cases q)
  exact ⟨_, _, castTop (ent_ok (rhoL (asB A []) Z.heap.size) m [.int a, .int b, .int c, .long d] 11) (st fs hr), hrun, hended, _, rfl, N', hW⟩

theorem hT {Z : State} {a0 : Array Value} (hw : ∀ d ∈ tables_1, d.before a0 Z = true) : ∀ C F, gT C = some F → ClsOk Z a0 gK gC C F := by
  intro C F h
  match C, h with
  | 0, h => exact cls_of hw (by obtain rfl := Option.some.inj h; decide +kernel)
  | _ + 1, h => cases h
def own_A (q0 q1 q2 q3 q4 q5 q6 : Addr) : Nat → Addr
  | 0 => q0 | 1 => q1 | 2 => q2 | 3 => q3 | 4 => q4 | 5 => q5 | _ => q6
set_option maxRecDepth 65536 in
set_option maxHeartbeats 40000000 in
theorem comes_1 {Post : Tables → Env → Array Value → State → Outcome → State → Prop} (hpost : ∀ tb e args s v u, (limb_1_1.after args s (.returned v) u = true ∧ limb_1_2.after args s (.returned v) u = true ∧ True) → FramedW s (.returned v) u (Jvm.fieldLocs frame_1_writes args s ++ Jvm.arrayLocs frame_1_arrays args s ++ Jvm.staticLocs frame_1_statics s) 32 3264 → Post tb e args s (.returned v) u) :
    ArmFor flags0 classFile x code maxLocals ret World_1 tables_1 room_1 Calls_1 rest_1 Pre_1 Post := by
  intro l hfl _ _ p e ha hc hk s m args below hf hA hF happ hP0
  obtain ⟨hcalls, hrest, hpre⟩ := hP0
  obtain ⟨-, -, -, hnamed, -, -, -, hat⟩ := (Spec.applies_iff hf).mp happ
  obtain ⟨hg, hn⟩ := and_e (Cond.before_iff.mp (show (Jvm.Cond.and given_1 narrow_1).before args s = true from hpre))
  obtain ⟨gc, g0⟩ := and_e hg
  obtain ⟨k0, g1⟩ := and_e g0
  obtain ⟨k1, g2⟩ := and_e g1
  obtain ⟨k2, g3⟩ := and_e g2
  obtain ⟨w0, w1, w2, w3, rfl⟩ : ∃ w0 w1 w2 w3 : Value, args = #[w0, w1, w2, w3] := by
    have hs : args.size = 4 := by simpa [Cond.value, given_1] using gc
    obtain ⟨L⟩ := args
    match L, hs with
    | [w0, w1, w2, w3], _ => exact ⟨w0, w1, w2, w3, rfl⟩
  have hw := fun d (hd : d ∈ tables_1) => atoms_spec (ws := Jvm.Cond.code x code maxLocals ret :: tables_1) hat d (List.mem_cons_of_mem _ hd)
  obtain ⟨i0, e0⟩ := is_v k0
  obtain rfl : w0 = (.int i0) := Option.some.inj e0
  obtain ⟨i1, e1⟩ := is_v k1
  obtain rfl : w1 = (.int i1) := Option.some.inj e1
  obtain ⟨i2, e2⟩ := is_v k2
  obtain rfl : w2 = (.int i2) := Option.some.inj e2
  obtain ⟨i3, e3⟩ := isL_v g3
  obtain rfl : w3 = (.long i3) := Option.some.inj e3
  obtain ⟨hsets, -⟩ := atoms_of _ (rest_1_c_eq ▸ (show rest_1_c.before _ s = true from hrest))
  have hfit : Fit s := fun {y c} hc i hi => by
    obtain ⟨ha, rfl⟩ := Array.getElem?_eq_some_iff.mp hc
    have q := List.all_eq_true.mp ((Array.all_eq_true_iff_forall_mem.mp hF) _ (Array.getElem_mem ha)) i (List.mem_range.mpr hi)
    simpa [Array.getElem?_eq_getElem hi] using q
  obtain ⟨n0, r0⟩ := and_e hn
  obtain ⟨n1, r1⟩ := and_e r0
  obtain ⟨n2, r2⟩ := and_e r1
  obtain ⟨n3, r3⟩ := and_e r2
  obtain ⟨n4, r4⟩ := and_e r3
  obtain ⟨n5, r5⟩ := and_e r4
  obtain ⟨n6, r6⟩ := and_e r5
  obtain ⟨n7, r7⟩ := and_e r6
  obtain ⟨n8, r8⟩ := and_e r7
  obtain ⟨n9, r9⟩ := and_e r8
  obtain ⟨n10, r10⟩ := and_e r9
  obtain ⟨n11, r11⟩ := and_e r10
  obtain ⟨n12, r12⟩ := and_e r11
  obtain ⟨n13, r13⟩ := and_e r12
  obtain ⟨n14, r14⟩ := and_e r13
  obtain ⟨n15, r15⟩ := and_e r14
  obtain ⟨n16, r16⟩ := and_e r15
  obtain ⟨n17, r17⟩ := and_e r16
  obtain ⟨n18, r18⟩ := and_e r17
  obtain ⟨n19, r19⟩ := and_e r18
  obtain ⟨n20, r20⟩ := and_e r19
  obtain ⟨n21, r21⟩ := and_e r20
  obtain ⟨n22, r22⟩ := and_e r21
  obtain ⟨n23, r23⟩ := and_e r22
  obtain ⟨n24, r24⟩ := and_e r23
  have n25 := r24
  obtain ⟨q0, ea0⟩ := arr_v n0
  obtain ⟨c0, A0⟩ := Arr.start ea0 n0
  have X0 := Exa.start ea0 n1
  obtain ⟨q1, ea1⟩ := exa_v n3
  have X1 := Exa.start ea1 n3
  obtain ⟨q2, ea2⟩ := exa_v n4
  have X2 := Exa.start ea2 n4
  obtain ⟨q3, ea3⟩ := exa_v n5
  have X3 := Exa.start ea3 n5
  obtain ⟨q4, ea4⟩ := arr_v n7
  obtain ⟨c4, A4⟩ := Arr.start ea4 n7
  obtain ⟨q5, ea5⟩ := exa_v n9
  have X5 := Exa.start ea5 n9
  obtain ⟨q6, ea6⟩ := arr_v n11
  obtain ⟨c6, A6⟩ := Arr.start ea6 n11
  have F1 := Fld.start ((fld_at ea1).symm.trans ea3)
  have F2 := Fld.start ((fld_at ea2).symm.trans ea5)
  have C3 := Fld.start ((fld_at ea3).symm.trans (eq_out n6 (Term.int_eval _)))
  have V3 := Fld.start ((fld_at ea3).symm.trans ea4)
  have C5 := Fld.start ((fld_at ea5).symm.trans (eq_out n10 (Term.int_eval _)))
  have V5 := Fld.start ((fld_at ea5).symm.trans ea6)
  have L0 : c0.slots = [.ref q1, .ref q2].toArray := arr_out ea0 A0 (eq_out n2 (Term.int_eval _)) _ rfl (fun j v h => by
    match j, h with
    | 0, h => obtain rfl := Option.some.inj h; exact ea1
    | 1, h => obtain rfl := Option.some.inj h; exact ea2
    | j + 2, h => cases h)
  have L4 : c4.slots = [.int 115, .int 116, .int 101, .int 112, .int 115].toArray := arr_out ea4 A4 (eq_out n8 (Term.int_eval _)) _ rfl (fun j v h => by
    match j, h with
    | 0, h => obtain rfl := Option.some.inj h; exact eq_out n15 (Term.int_eval _)
    | 1, h => obtain rfl := Option.some.inj h; exact eq_out n16 (Term.int_eval _)
    | 2, h => obtain rfl := Option.some.inj h; exact eq_out n17 (Term.int_eval _)
    | 3, h => obtain rfl := Option.some.inj h; exact eq_out n18 (Term.int_eval _)
    | 4, h => obtain rfl := Option.some.inj h; exact eq_out n19 (Term.int_eval _)
    | j + 5, h => cases h)
  have L6 : c6.slots = [.int 99, .int 97, .int 117, .int 115, .int 97, .int 108].toArray := arr_out ea6 A6 (eq_out n12 (Term.int_eval _)) _ rfl (fun j v h => by
    match j, h with
    | 0, h => obtain rfl := Option.some.inj h; exact eq_out n20 (Term.int_eval _)
    | 1, h => obtain rfl := Option.some.inj h; exact eq_out n21 (Term.int_eval _)
    | 2, h => obtain rfl := Option.some.inj h; exact eq_out n22 (Term.int_eval _)
    | 3, h => obtain rfl := Option.some.inj h; exact eq_out n23 (Term.int_eval _)
    | 4, h => obtain rfl := Option.some.inj h; exact eq_out n24 (Term.int_eval _)
    | 5, h => obtain rfl := Option.some.inj h; exact eq_out n25 (Term.int_eval _)
    | j + 6, h => cases h)
  obtain ⟨cs, ecs⟩ := is_v (Cond.before_iff.mp (hsets _ (List.mem_of_getElem? (i := 1) rfl)))
  have ncs : ¬ (cs = (0 : Int32)) := gotF (Cond.eq_ints ecs (Term.int_eval (0))) (not_v (Cond.before_iff.mp (hsets _ (List.mem_of_getElem? (i := 2) rfl))))
  have hcs : cs.toInt ≠ 0 := fun z => ncs (Int32.toInt_inj.mp z)
  have F : StF s (own_A q0 q1 q2 q3 q4 q5 q6) cs s.heap :=
    ⟨⟨c0, A0, L0, FitC.start hfit A0⟩,
      X0,
      X1,
      F1,
      X2,
      F2,
      ⟨X3, C3, V3, c4, A4, L4⟩,
      ⟨X5, C5, V5, c6, A6, L6⟩,
      Sta.start ecs (Or.inl (hsets _ (List.mem_of_getElem? (i := 0) rfl))),
      Sta.start ea0 (Or.inr ⟨hw (Jvm.Cond.initialized "com/example/ourthe/ourthe/cli/TraceSemantics") (by decide +kernel), hw (Jvm.Cond.laysStatic "com/example/ourthe/ourthe/cli/TraceSemantics" "$VALUES" "[Lcom/example/ourthe/ourthe/cli/TraceSemantics;") (by decide +kernel)⟩),
      Sta.start (eq_out n13 ea1) (Or.inr ⟨hw (Jvm.Cond.initialized "com/example/ourthe/ourthe/cli/TraceSemantics") (by decide +kernel), hw (Jvm.Cond.laysStatic "com/example/ourthe/ourthe/cli/TraceSemantics" "STEPS" "Lcom/example/ourthe/ourthe/cli/TraceSemantics;") (by decide +kernel)⟩),
      Sta.start (eq_out n14 ea2) (Or.inr ⟨hw (Jvm.Cond.initialized "com/example/ourthe/ourthe/cli/TraceSemantics") (by decide +kernel), hw (Jvm.Cond.laysStatic "com/example/ourthe/ourthe/cli/TraceSemantics" "CAUSAL" "Lcom/example/ourthe/ourthe/cli/TraceSemantics;") (by decide +kernel)⟩)⟩
  have hEL : Jvm.RoadKit.EW s #[.int i0, .int i1, .int i2, .long i3] consts_1 := Jvm.RoadKit.EW.cons (text := "steps") (hw _ (by decide +kernel)) (by decide +kernel) (Jvm.RoadKit.EW.cons (text := "causal") (hw _ (by decide +kernel)) (by decide +kernel) (Jvm.RoadKit.EW.cons (text := "") (hw _ (by decide +kernel)) (by decide +kernel) Jvm.RoadKit.EW.nil))
  have hheld : ∀ q ∈ consts_1, Jvm.Lit.constHeld s q.1 q.2 := fun q hq => hcalls.1 q hq
  have hH : CHv s consts_1 s.vm s.heap := CHv.start hEL hheld (hsets _ (List.mem_of_getElem? (i := 2) rfl)) (hw (Jvm.Cond.arrayClass .byte) (by decide +kernel)) (hw (Jvm.Cond.instantiable "java/lang/String" 4) (by decide +kernel))
  obtain ⟨n, o, h1, h2, h3, L, rfl, Nf, hq⟩ := lawMet (l := l) hw (hT hw) hEL hcs F i0 i1 i2 i3 p e ha hc hk s m _ below hf ((Spec.applies_iff_loose hf).mp happ).1 ⟨rfl, State.Warmed39.refl s, rfl, hH⟩ trivial
  refine ⟨n, _, h1, h2, h3, hpost _ _ _ _ _ _ ⟨Cond.after_iff.mpr rfl, Cond.after_iff.mpr (eq_i res_at (Term.int_eval (1)) rfl), trivial⟩ ⟨hq.1, hq.2.1, hq.2.2.1, hq.2.2.2.sift fun y hy => Or.inr (Nf y hy)⟩⟩
theorem main_1_1 : Claimed_1_1 := comes_1 fun _ _ _ _ _ _ h hF => ⟨h.1, hF⟩
theorem main_1_2 : Claimed_1_2 := comes_1 fun _ _ _ _ _ _ h hF => ⟨h.2.1, hF⟩
end Jvm.Pilot.@@N@@
namespace Jvm.Pilot.@@N@@
open Jvm Jvm.ClassFile Sem Op Lib Jvm.Free Jvm.Stand Jvm.Pilot.@@N@@.Jvm.D
/-! MADE BY PROGRAM (witnessworld.py) out of the Statement's table words and the real class files: 24 classes; the members and pool entries that the words name. The judged class is class 1, her method 1. -/
namespace start1
open Jvm.ClassFile
def u (s : String) : CpInfo := .utf8 (stringToUtf16 s)
/-- a pool by its gaps: so many unusable entries, then the entry; so many at the end -/
def gap : Nat → List CpInfo → List CpInfo
  | 0, r => r
  | n + 1, r => .unusable :: gap n r
def poolList (es : List (Nat × CpInfo)) (last : Nat) : List CpInfo := es.foldr (fun e r => gap e.1 (e.2 :: r)) (gap last [])
def pool (es : List (Nat × CpInfo)) (last : Nat) : Array CpInfo := ⟨poolList es last⟩
def fileOf (pool : Array CpInfo) (this : Nat) (attrs : Array Attribute := #[]) (ms : Array MethodInfo := #[]) (fl : Nat := 33) (sup : Nat := 0) (ifs : Array Nat := #[]) (fds : Array FieldInfo := #[]) : ClassFile where
  minorVersion := 0
  majorVersion := 65
  constantPool := pool
  accessFlags := fl
  thisClass := this
  superClass := sup
  interfaces := ifs
  fields := fds
  methods := ms
  attributes := attrs
def plain (name : String) (sup : Option ClassId) : Class where
  name := name
  kind := .ordinary
  loader := none
  accessFlags := 33
  super := sup
  interfaces := #[]
  cf := none
  fields := #[]
  methods := #[]
  instanceTypes := #[]
  staticTypes := #[]
  resolved := #[]
  callSites := []
  init := .initialized
  statics := none
  mirror := none

def pool0 : Array CpInfo := pool [(5, u "<init>"), (0, u "()V"), (1, .class_ 10), (1, u "java/lang/Object"), (85, u "clone"), (0, u "()Ljava/lang/Object;")] 26

def k0c0 : Code := { maxStack := 0, maxLocals := 1, code := object_method_1_code, exceptionTable := #[], attributes := #[] }
def k0m0 : Method := { name := "<init>", desc := "()V", sig := { parameters := [], returnType := none }, accessFlags := 1, code := some k0c0 }
def k0m1 : Method := { name := "clone", desc := "()Ljava/lang/Object;", sig := { parameters := [], returnType := some (.object "java/lang/Object") }, accessFlags := 260, code := none }
/-- java/lang/Object -/
def k0 : Class := { plain "java/lang/Object" none with
  accessFlags := 33
  interfaces := #[]
  cf := some (fileOf pool0 8 #[] #[{ accessFlags := 1, nameIndex := 5, descriptorIndex := 6, attributes := #[] }, { accessFlags := 260, nameIndex := 96, descriptorIndex := 97, attributes := #[] }] 33 0 #[] #[])
  fields := #[]
  methods := #[k0m0, k0m1]
  instanceTypes := #[]
  staticTypes := #[]
  resolved := Array.replicate 124 none
  statics := none }

def pool1 : Array CpInfo := pool [(2, .class_ 4), (1, u "java/lang/Object"), (0, u "<init>"), (0, u "()V"), (0, .methodref 8 9), (0, .class_ 10), (0, .nameAndType 11 12), (0, u "com/example/ourthe/ourthe/cli/TraceSemanticsNamedPinLaw"), (0, u "pick"), (0, u "(I[CJ)C"), (0, .integer 2147483647), (0, .methodref 8 15), (0, .nameAndType 16 17), (0, u "cut"), (0, u "([CI)Ljava/lang/String;"), (0, .string 19), (0, u "steps"), (0, .methodref 21 22), (0, .class_ 23), (0, .nameAndType 24 25), (0, u "java/lang/String"), (0, u "equals"), (0, u "(Ljava/lang/Object;)Z"), (0, .fieldref 27 28), (0, .class_ 29), (0, .nameAndType 30 31), (0, u "com/example/ourthe/ourthe/cli/TraceSemantics"), (0, u "STEPS"), (0, u "Lcom/example/ourthe/ourthe/cli/TraceSemantics;"), (0, .string 33), (0, u "causal"), (0, .fieldref 27 35), (0, .nameAndType 36 31), (0, u "CAUSAL"), (0, .methodref 27 38), (0, .nameAndType 39 40), (0, u "named"), (0, u "(Ljava/lang/String;)Lcom/example/ourthe/ourthe/cli/TraceSemantics;"), (0, .long 255), (1, .methodref 21 44), (0, .nameAndType 5 45), (0, u "([C)V"), (2, u "law"), (0, u "(IIIJ)Z")] 5

def k1m0 : Method := { name := "<init>", desc := "()V", sig := { parameters := [], returnType := none }, accessFlags := 2, code := none }
def k1c1 : Code := { maxStack := 6, maxLocals := 11, code := code, exceptionTable := #[], attributes := #[] }
def k1m1 : Method := { name := "law", desc := "(IIIJ)Z", sig := { parameters := [.int, .int, .int, .long], returnType := some .boolean }, accessFlags := 9, code := some k1c1 }
def k1c2 : Code := { maxStack := 4, maxLocals := 4, code := method_3_code, exceptionTable := #[], attributes := #[] }
def k1m2 : Method := { name := "pick", desc := "(I[CJ)C", sig := { parameters := [.int, (.array .char), .long], returnType := some .char }, accessFlags := 10, code := some k1c2 }
def k1c3 : Code := { maxStack := 7, maxLocals := 2, code := method_4_code, exceptionTable := #[], attributes := #[] }
def k1m3 : Method := { name := "cut", desc := "([CI)Ljava/lang/String;", sig := { parameters := [(.array .char), .int], returnType := some (.object "java/lang/String") }, accessFlags := 10, code := some k1c3 }
/-- com/example/ourthe/ourthe/cli/TraceSemanticsNamedPinLaw -/
def k1 : Class := { plain "com/example/ourthe/ourthe/cli/TraceSemanticsNamedPinLaw" (some 0) with
  accessFlags := 49
  interfaces := #[]
  cf := some (fileOf pool1 8 #[] #[{ accessFlags := 2, nameIndex := 5, descriptorIndex := 6, attributes := #[] }, { accessFlags := 9, nameIndex := 48, descriptorIndex := 49, attributes := #[] }, { accessFlags := 10, nameIndex := 11, descriptorIndex := 12, attributes := #[] }, { accessFlags := 10, nameIndex := 16, descriptorIndex := 17, attributes := #[] }] 49 2 #[] #[])
  fields := #[]
  methods := #[k1m0, k1m1, k1m2, k1m3]
  instanceTypes := #[]
  staticTypes := #[]
  resolved := Array.replicate 55 none
  statics := none }

def pool2 : Array CpInfo := pool [(1, .class_ 2), (0, u "java/io/Serializable"), (0, .class_ 4), (0, u "java/lang/Object")] 2

/-- java/io/Serializable -/
def k2 : Class := { plain "java/io/Serializable" (some 0) with
  accessFlags := 1537
  interfaces := #[]
  cf := some (fileOf pool2 1 #[] #[] 1537 3 #[] #[])
  fields := #[]
  methods := #[]
  instanceTypes := #[]
  staticTypes := #[]
  resolved := Array.replicate 7 none
  statics := none }

def pool3 : Array CpInfo := pool [(1, .class_ 2), (0, u "java/lang/Comparable"), (0, .class_ 4), (0, u "java/lang/Object")] 7

/-- java/lang/Comparable -/
def k3 : Class := { plain "java/lang/Comparable" (some 0) with
  accessFlags := 1537
  interfaces := #[]
  cf := some (fileOf pool3 1 #[] #[] 1537 3 #[] #[])
  fields := #[]
  methods := #[]
  instanceTypes := #[]
  staticTypes := #[]
  resolved := Array.replicate 12 none
  statics := none }

def pool4 : Array CpInfo := pool [(2, .class_ 4), (1, u "java/lang/CharSequence"), (42, .class_ 48), (0, u "java/lang/CharSequence$1CodePointIterator"), (10, .class_ 60), (0, u "java/lang/CharSequence$1CharIterator"), (5, .class_ 67), (0, u "java/lang/Object")] 63

/-- java/lang/CharSequence -/
def k4 : Class := { plain "java/lang/CharSequence" (some 0) with
  accessFlags := 1537
  interfaces := #[]
  cf := some (fileOf pool4 2 #[.nestMembers #[47, 59]] #[] 1537 66 #[] #[])
  fields := #[]
  methods := #[]
  instanceTypes := #[]
  staticTypes := #[]
  resolved := Array.replicate 131 none
  statics := none }

def pool5 : Array CpInfo := pool [(1, .class_ 2), (0, u "java/lang/constant/Constable"), (0, .class_ 4), (0, u "java/lang/Object")] 6

/-- java/lang/constant/Constable -/
def k5 : Class := { plain "java/lang/constant/Constable" (some 0) with
  accessFlags := 1537
  interfaces := #[]
  cf := some (fileOf pool5 1 #[] #[] 1537 3 #[] #[])
  fields := #[]
  methods := #[]
  instanceTypes := #[]
  staticTypes := #[]
  resolved := Array.replicate 11 none
  statics := none }

def pool6 : Array CpInfo := pool [(1, .class_ 2), (0, u "java/lang/constant/ConstantDesc"), (0, .class_ 4), (0, u "java/lang/Object")] 32

/-- java/lang/constant/ConstantDesc -/
def k6 : Class := { plain "java/lang/constant/ConstantDesc" (some 0) with
  accessFlags := 1537
  interfaces := #[]
  cf := some (fileOf pool6 1 #[] #[] 1537 3 #[] #[])
  fields := #[]
  methods := #[]
  instanceTypes := #[]
  staticTypes := #[]
  resolved := Array.replicate 37 none
  statics := none }

def pool7 : Array CpInfo := pool [(1, .methodref 2 3), (0, .class_ 4), (0, .nameAndType 5 6), (0, u "java/lang/Object"), (0, u "<init>"), (0, u "()V"), (0, .string 8), (0, u ""), (0, .fieldref 10 11), (0, .class_ 12), (0, .nameAndType 13 14), (0, u "java/lang/String"), (0, u "value"), (0, u "[B"), (0, .fieldref 10 16), (0, .nameAndType 17 18), (0, u "coder"), (0, u "B"), (2, u "hash"), (0, u "I"), (2, u "hashIsZero"), (0, u "Z"), (0, .methodref 10 28), (0, .nameAndType 5 29), (0, u "([CIILjava/lang/Void;)V"), (8, .fieldref 10 39), (0, .nameAndType 40 26), (0, u "COMPACT_STRINGS"), (1, .class_ 44), (1, u "java/lang/StringUTF16"), (0, u "compress"), (1, .methodref 42 48), (0, .nameAndType 49 50), (0, u "coderFromArrayLen"), (0, u "([BI)B"), (56, .class_ 109), (1, u "java/lang/StringLatin1"), (67, .methodref 42 178), (0, .nameAndType 45 179), (0, u "([CII)[B"), (361, .methodref 107 542), (0, .nameAndType 543 544), (0, u "equals"), (0, u "([B[B)Z"), (28, u "(Ljava/lang/Object;)Z"), (1, .class_ 576), (0, u "java/lang/CharSequence"), (22, u "CASE_INSENSITIVE_ORDER"), (0, u "Ljava/util/Comparator;"), (409, u "([C)V"), (90, u "serialPersistentFields"), (0, u "[Ljava/io/ObjectStreamField;"), (0, .class_ 1104), (0, u "java/lang/String$CaseInsensitiveComparator"), (1, .class_ 1107), (0, u "java/io/Serializable"), (0, .class_ 1109), (0, u "java/lang/Comparable"), (0, .class_ 1111), (0, u "java/lang/constant/Constable"), (0, .class_ 1113), (0, u "java/lang/constant/ConstantDesc"), (2, u "serialVersionUID"), (0, u "J"), (3, u "REPL"), (0, u "C"), (2, u "LATIN1"), (1, u "UTF16")] 323

def k7m0 : Method := { name := "<init>", desc := "()V", sig := { parameters := [], returnType := none }, accessFlags := 1, code := none }
def k7c1 : Code := { maxStack := 5, maxLocals := 2, code := jdk_42_method_3_code, exceptionTable := #[], attributes := #[] }
def k7m1 : Method := { name := "<init>", desc := "([C)V", sig := { parameters := [(.array .char)], returnType := none }, accessFlags := 1, code := some k7c1 }
def k7c2 : Code := { maxStack := 2, maxLocals := 3, code := jdk_42_method_66_code, exceptionTable := #[], attributes := #[] }
def k7m2 : Method := { name := "equals", desc := "(Ljava/lang/Object;)Z", sig := { parameters := [(.object "java/lang/Object")], returnType := some .boolean }, accessFlags := 1, code := some k7c2 }
def k7c3 : Code := { maxStack := 4, maxLocals := 6, code := jdk_42_method_149_code, exceptionTable := #[], attributes := #[] }
def k7m3 : Method := { name := "<init>", desc := "([CIILjava/lang/Void;)V", sig := { parameters := [(.array .char), .int, .int, (.object "java/lang/Void")], returnType := none }, accessFlags := 2, code := some k7c3 }
/-- java/lang/String -/
def k7 : Class := { plain "java/lang/String" (some 0) with
  accessFlags := 49
  interfaces := #[2, 3, 4, 5, 6]
  cf := some (fileOf pool7 10 #[.nestMembers #[1103]] #[{ accessFlags := 1, nameIndex := 5, descriptorIndex := 6, attributes := #[] }, { accessFlags := 1, nameIndex := 5, descriptorIndex := 1010, attributes := #[] }, { accessFlags := 1, nameIndex := 543, descriptorIndex := 573, attributes := #[] }, { accessFlags := 2, nameIndex := 5, descriptorIndex := 29, attributes := #[] }] 49 2 #[1106, 1108, 575, 1110, 1112] #[{ accessFlags := 18, nameIndex := 13, descriptorIndex := 14, attributes := #[] }, { accessFlags := 18, nameIndex := 17, descriptorIndex := 18, attributes := #[] }, { accessFlags := 2, nameIndex := 21, descriptorIndex := 22, attributes := #[] }, { accessFlags := 2, nameIndex := 25, descriptorIndex := 26, attributes := #[] }, { accessFlags := 26, nameIndex := 1116, descriptorIndex := 1117, attributes := #[] }, { accessFlags := 24, nameIndex := 40, descriptorIndex := 26, attributes := #[] }, { accessFlags := 26, nameIndex := 1101, descriptorIndex := 1102, attributes := #[] }, { accessFlags := 26, nameIndex := 1121, descriptorIndex := 1122, attributes := #[] }, { accessFlags := 25, nameIndex := 599, descriptorIndex := 600, attributes := #[] }, { accessFlags := 24, nameIndex := 1125, descriptorIndex := 18, attributes := #[] }, { accessFlags := 24, nameIndex := 1127, descriptorIndex := 18, attributes := #[] }])
  fields := #[{ name := "value", type := (.array .byte), accessFlags := 18, slot := 0, constantValue := 0 }, { name := "coder", type := .byte, accessFlags := 18, slot := 1, constantValue := 0 }, { name := "hash", type := .int, accessFlags := 2, slot := 2, constantValue := 0 }, { name := "hashIsZero", type := .boolean, accessFlags := 2, slot := 3, constantValue := 0 }, { name := "serialVersionUID", type := .long, accessFlags := 26, slot := 0, constantValue := 0 }, { name := "COMPACT_STRINGS", type := .boolean, accessFlags := 24, slot := 1, constantValue := 0 }, { name := "serialPersistentFields", type := (.array (.object "java/io/ObjectStreamField")), accessFlags := 26, slot := 2, constantValue := 0 }, { name := "REPL", type := .char, accessFlags := 26, slot := 3, constantValue := 0 }, { name := "CASE_INSENSITIVE_ORDER", type := (.object "java/util/Comparator"), accessFlags := 25, slot := 4, constantValue := 0 }, { name := "LATIN1", type := .byte, accessFlags := 24, slot := 5, constantValue := 0 }, { name := "UTF16", type := .byte, accessFlags := 24, slot := 6, constantValue := 0 }]
  methods := #[k7m0, k7m1, k7m2, k7m3]
  instanceTypes := #[(.array .byte), .byte, .int, .boolean]
  staticTypes := #[.long, .boolean, (.array (.object "java/io/ObjectStreamField")), .char, (.object "java/util/Comparator"), .byte, .byte]
  resolved := Array.replicate 1451 none
  statics := some 0 }

def pool8 : Array CpInfo := pool [(4, .class_ 6), (1, u "java/lang/Object"), (0, u "<init>"), (0, u "()V"), (5, .class_ 16), (1, u "java/lang/StringLatin1"), (104, u "$assertionsDisabled"), (0, u "Z"), (98, .class_ 223), (1, u "java/lang/StringLatin1$LinesSpliterator"), (57, u "equals"), (0, u "([B[B)Z"), (107, .class_ 391), (0, u "java/lang/StringLatin1$CharsSpliterator")] 3

def k8m0 : Method := { name := "<init>", desc := "()V", sig := { parameters := [], returnType := none }, accessFlags := 0, code := none }
def k8c1 : Code := { maxStack := 3, maxLocals := 3, code := jdk_43_method_13_code, exceptionTable := #[], attributes := #[] }
def k8m1 : Method := { name := "equals", desc := "([B[B)Z", sig := { parameters := [(.array .byte), (.array .byte)], returnType := some .boolean }, accessFlags := 9, code := some k8c1 }
/-- java/lang/StringLatin1 -/
def k8 : Class := { plain "java/lang/StringLatin1" (some 0) with
  accessFlags := 48
  interfaces := #[]
  cf := some (fileOf pool8 14 #[.nestMembers #[390, 221]] #[{ accessFlags := 0, nameIndex := 7, descriptorIndex := 8, attributes := #[] }, { accessFlags := 9, nameIndex := 281, descriptorIndex := 282, attributes := #[] }] 48 4 #[] #[{ accessFlags := 4120, nameIndex := 121, descriptorIndex := 122, attributes := #[] }])
  fields := #[{ name := "$assertionsDisabled", type := .boolean, accessFlags := 4120, slot := 0, constantValue := 0 }]
  methods := #[k8m0, k8m1]
  instanceTypes := #[]
  staticTypes := #[.boolean]
  resolved := Array.replicate 395 none
  statics := none }

def pool9 : Array CpInfo := pool [(2, .class_ 4), (1, u "java/lang/Enum"), (0, u "name"), (0, u "Ljava/lang/String;"), (2, u "ordinal"), (0, u "I"), (1, .class_ 14), (1, u "java/lang/Object"), (4, u "hash"), (86, .class_ 108), (1, u "java/lang/Enum$EnumDesc"), (2, .class_ 112), (0, u "java/lang/constant/Constable"), (0, .class_ 114), (0, u "java/lang/Comparable"), (0, .class_ 116), (0, u "java/io/Serializable")] 87

/-- java/lang/Enum -/
def k9 : Class := { plain "java/lang/Enum" (some 0) with
  accessFlags := 1057
  interfaces := #[5, 3, 2]
  cf := some (fileOf pool9 2 #[.nestMembers #[106]] #[] 1057 12 #[111, 113, 115] #[{ accessFlags := 18, nameIndex := 5, descriptorIndex := 6, attributes := #[] }, { accessFlags := 18, nameIndex := 9, descriptorIndex := 10, attributes := #[] }, { accessFlags := 2, nameIndex := 19, descriptorIndex := 10, attributes := #[] }])
  fields := #[{ name := "name", type := (.object "java/lang/String"), accessFlags := 18, slot := 0, constantValue := 0 }, { name := "ordinal", type := .int, accessFlags := 18, slot := 1, constantValue := 0 }, { name := "hash", type := .int, accessFlags := 2, slot := 2, constantValue := 0 }]
  methods := #[]
  instanceTypes := #[(.object "java/lang/String"), .int, .int]
  staticTypes := #[]
  resolved := Array.replicate 204 none
  statics := none }

def pool10 : Array CpInfo := pool [(1, .class_ 2), (0, u "com/example/ourthe/ourthe/cli/TraceSemantics"), (2, u "STEPS"), (0, u "Lcom/example/ourthe/ourthe/cli/TraceSemantics;"), (2, u "CAUSAL"), (0, .fieldref 1 11), (0, .nameAndType 12 13), (0, u "$VALUES"), (0, u "[Lcom/example/ourthe/ourthe/cli/TraceSemantics;"), (0, .methodref 15 16), (0, .class_ 13), (0, .nameAndType 17 18), (0, u "clone"), (0, u "()Ljava/lang/Object;"), (1, .class_ 22), (1, u "java/lang/Enum"), (6, .fieldref 1 30), (0, .nameAndType 31 32), (0, u "name"), (0, u "Ljava/lang/String;"), (0, .methodref 1 34), (0, .nameAndType 35 36), (0, u "values"), (0, u "()[Lcom/example/ourthe/ourthe/cli/TraceSemantics;"), (0, .methodref 38 39), (0, .class_ 40), (0, .nameAndType 41 42), (0, u "java/lang/String"), (0, u "equals"), (0, u "(Ljava/lang/Object;)Z"), (0, .class_ 44), (0, u "com/example/ourthe/ourthe/cli/TraceSemantics$1"), (6, .class_ 52), (0, u "com/example/ourthe/ourthe/cli/TraceSemantics$2"), (9, u "(Ljava/lang/String;)Lcom/example/ourthe/ourthe/cli/TraceSemantics;"), (9, u "named")] 11

def k10c0 : Code := { maxStack := 1, maxLocals := 0, code := prog_50_method_1_code, exceptionTable := #[], attributes := #[] }
def k10m0 : Method := { name := "values", desc := "()[Lcom/example/ourthe/ourthe/cli/TraceSemantics;", sig := { parameters := [], returnType := some (.array (.object "com/example/ourthe/ourthe/cli/TraceSemantics")) }, accessFlags := 9, code := some k10c0 }
def k10c1 : Code := { maxStack := 2, maxLocals := 6, code := prog_50_method_5_code, exceptionTable := #[], attributes := #[] }
def k10m1 : Method := { name := "named", desc := "(Ljava/lang/String;)Lcom/example/ourthe/ourthe/cli/TraceSemantics;", sig := { parameters := [(.object "java/lang/String")], returnType := some (.object "com/example/ourthe/ourthe/cli/TraceSemantics") }, accessFlags := 8, code := some k10c1 }
/-- com/example/ourthe/ourthe/cli/TraceSemantics -/
def k10 : Class := { plain "com/example/ourthe/ourthe/cli/TraceSemantics" (some 9) with
  accessFlags := 17440
  interfaces := #[]
  cf := some (fileOf pool10 1 #[.nestMembers #[51, 43]] #[{ accessFlags := 9, nameIndex := 35, descriptorIndex := 36, attributes := #[] }, { accessFlags := 8, nameIndex := 72, descriptorIndex := 62, attributes := #[] }] 17440 20 #[] #[{ accessFlags := 16409, nameIndex := 5, descriptorIndex := 6, attributes := #[] }, { accessFlags := 16409, nameIndex := 9, descriptorIndex := 6, attributes := #[] }, { accessFlags := 18, nameIndex := 31, descriptorIndex := 32, attributes := #[] }, { accessFlags := 4122, nameIndex := 12, descriptorIndex := 13, attributes := #[] }])
  fields := #[{ name := "STEPS", type := (.object "com/example/ourthe/ourthe/cli/TraceSemantics"), accessFlags := 16409, slot := 0, constantValue := 0 }, { name := "CAUSAL", type := (.object "com/example/ourthe/ourthe/cli/TraceSemantics"), accessFlags := 16409, slot := 1, constantValue := 0 }, { name := "name", type := (.object "java/lang/String"), accessFlags := 18, slot := 3, constantValue := 0 }, { name := "$VALUES", type := (.array (.object "com/example/ourthe/ourthe/cli/TraceSemantics")), accessFlags := 4122, slot := 2, constantValue := 0 }]
  methods := #[k10m0, k10m1]
  instanceTypes := #[(.object "java/lang/String"), .int, .int, (.object "java/lang/String")]
  staticTypes := #[(.object "com/example/ourthe/ourthe/cli/TraceSemantics"), (.object "com/example/ourthe/ourthe/cli/TraceSemantics"), (.array (.object "com/example/ourthe/ourthe/cli/TraceSemantics"))]
  resolved := Array.replicate 84 none
  statics := some 1 }

def pool11 : Array CpInfo := pool [(1, .class_ 2), (0, u "java/lang/Cloneable"), (0, .class_ 4), (0, u "java/lang/Object")] 2

/-- java/lang/Cloneable -/
def k11 : Class := { plain "java/lang/Cloneable" (some 0) with
  accessFlags := 1537
  interfaces := #[]
  cf := some (fileOf pool11 1 #[] #[] 1537 3 #[] #[])
  fields := #[]
  methods := #[]
  instanceTypes := #[]
  staticTypes := #[]
  resolved := Array.replicate 7 none
  statics := none }

def pool12 : Array CpInfo := pool [(2, .class_ 4), (1, u "com/example/ourthe/ourthe/cli/TraceSemantics"), (8, .class_ 14), (0, u "com/example/ourthe/ourthe/cli/TraceSemantics$1")] 14

/-- com/example/ourthe/ourthe/cli/TraceSemantics$1 -/
def k12 : Class := { plain "com/example/ourthe/ourthe/cli/TraceSemantics$1" (some 10) with
  accessFlags := 16432
  interfaces := #[]
  cf := some (fileOf pool12 13 #[.nestHost 2] #[] 16432 2 #[] #[])
  fields := #[]
  methods := #[]
  instanceTypes := #[(.object "java/lang/String"), .int, .int, (.object "java/lang/String")]
  staticTypes := #[]
  resolved := Array.replicate 29 none
  statics := none }

def pool13 : Array CpInfo := pool [(2, .class_ 4), (1, u "com/example/ourthe/ourthe/cli/TraceSemantics"), (8, .class_ 14), (0, u "com/example/ourthe/ourthe/cli/TraceSemantics$2")] 15

/-- com/example/ourthe/ourthe/cli/TraceSemantics$2 -/
def k13 : Class := { plain "com/example/ourthe/ourthe/cli/TraceSemantics$2" (some 10) with
  accessFlags := 16432
  interfaces := #[]
  cf := some (fileOf pool13 13 #[.nestHost 2] #[] 16432 2 #[] #[])
  fields := #[]
  methods := #[]
  instanceTypes := #[(.object "java/lang/String"), .int, .int, (.object "java/lang/String")]
  staticTypes := #[]
  resolved := Array.replicate 30 none
  statics := none }

def pool14 : Array CpInfo := pool [(6, .class_ 8), (1, u "java/lang/Object"), (0, u "<init>"), (0, u "()V"), (1, .class_ 14), (1, u "java/lang/StringUTF16"), (31, u "$assertionsDisabled"), (0, u "Z"), (13, u "HI_BYTE_SHIFT"), (0, u "I"), (2, u "LO_BYTE_SHIFT"), (49, .methodref 12 116), (0, .nameAndType 117 118), (0, u "compress"), (0, u "([CI[BII)I"), (3, u "([CII)[B"), (138, u "coderFromArrayLen"), (0, u "([BI)B"), (106, .class_ 371), (1, u "java/lang/StringUTF16$LinesSpliterator"), (58, u "MAX_LENGTH"), (196, .class_ 628), (0, u "java/lang/StringUTF16$CodePointsSpliterator"), (0, .class_ 630), (0, u "java/lang/StringUTF16$CharsSpliterator")] 4

def k14m0 : Method := { name := "<init>", desc := "()V", sig := { parameters := [], returnType := none }, accessFlags := 0, code := none }
def k14c1 : Code := { maxStack := 2, maxLocals := 2, code := jdk_52_method_15_code, exceptionTable := #[], attributes := #[] }
def k14m1 : Method := { name := "coderFromArrayLen", desc := "([BI)B", sig := { parameters := [(.array .byte), .int], returnType := some .byte }, accessFlags := 8, code := some k14c1 }
def k14c2 : Code := { maxStack := 5, maxLocals := 6, code := jdk_52_method_16_code, exceptionTable := #[], attributes := #[] }
def k14m2 : Method := { name := "compress", desc := "([CII)[B", sig := { parameters := [(.array .char), .int, .int], returnType := some (.array .byte) }, accessFlags := 9, code := some k14c2 }
def k14c3 : Code := { maxStack := 3, maxLocals := 7, code := jdk_52_method_21_code, exceptionTable := #[], attributes := #[] }
def k14m3 : Method := { name := "compress", desc := "([CI[BII)I", sig := { parameters := [(.array .char), .int, (.array .byte), .int, .int], returnType := some .int }, accessFlags := 9, code := some k14c3 }
/-- java/lang/StringUTF16 -/
def k14 : Class := { plain "java/lang/StringUTF16" (some 0) with
  accessFlags := 48
  interfaces := #[]
  cf := some (fileOf pool14 12 #[.nestMembers #[627, 629, 369]] #[{ accessFlags := 0, nameIndex := 9, descriptorIndex := 10, attributes := #[] }, { accessFlags := 8, nameIndex := 261, descriptorIndex := 262, attributes := #[] }, { accessFlags := 9, nameIndex := 117, descriptorIndex := 122, attributes := #[] }, { accessFlags := 9, nameIndex := 117, descriptorIndex := 118, attributes := #[] }] 48 6 #[] #[{ accessFlags := 26, nameIndex := 61, descriptorIndex := 62, attributes := #[] }, { accessFlags := 26, nameIndex := 65, descriptorIndex := 62, attributes := #[] }, { accessFlags := 24, nameIndex := 430, descriptorIndex := 62, attributes := #[] }, { accessFlags := 4120, nameIndex := 46, descriptorIndex := 47, attributes := #[] }])
  fields := #[{ name := "HI_BYTE_SHIFT", type := .int, accessFlags := 26, slot := 0, constantValue := 0 }, { name := "LO_BYTE_SHIFT", type := .int, accessFlags := 26, slot := 1, constantValue := 0 }, { name := "MAX_LENGTH", type := .int, accessFlags := 24, slot := 2, constantValue := 0 }, { name := "$assertionsDisabled", type := .boolean, accessFlags := 4120, slot := 3, constantValue := 0 }]
  methods := #[k14m0, k14m1, k14m2, k14m3]
  instanceTypes := #[]
  staticTypes := #[.int, .int, .int, .boolean]
  resolved := Array.replicate 635 none
  statics := none }

def pool15 : Array CpInfo := pool [(2, .class_ 4), (1, u "java/lang/Object"), (0, u "<init>"), (0, u "()V"), (17, .class_ 26), (1, u "jdk/internal/util/Preconditions"), (28, .class_ 56), (0, u "jdk/internal/util/Preconditions$4"), (57, .class_ 115), (0, u "jdk/internal/util/Preconditions$1"), (7, u "SIOOBE_FORMATTER"), (0, u "Ljava/util/function/BiFunction;"), (0, .class_ 126), (0, u "jdk/internal/util/Preconditions$2"), (3, u "AIOOBE_FORMATTER"), (0, .class_ 132), (0, u "jdk/internal/util/Preconditions$3"), (3, u "IOOBE_FORMATTER")] 57

def k15m0 : Method := { name := "<init>", desc := "()V", sig := { parameters := [], returnType := none }, accessFlags := 1, code := none }
/-- jdk/internal/util/Preconditions -/
def k15 : Class := { plain "jdk/internal/util/Preconditions" (some 0) with
  accessFlags := 33
  interfaces := #[]
  cf := some (fileOf pool15 24 #[.nestMembers #[55, 131, 125, 114]] #[{ accessFlags := 1, nameIndex := 5, descriptorIndex := 6, attributes := #[] }] 33 2 #[] #[{ accessFlags := 25, nameIndex := 123, descriptorIndex := 124, attributes := #[] }, { accessFlags := 25, nameIndex := 130, descriptorIndex := 124, attributes := #[] }, { accessFlags := 25, nameIndex := 136, descriptorIndex := 124, attributes := #[] }])
  fields := #[{ name := "SIOOBE_FORMATTER", type := (.object "java/util/function/BiFunction"), accessFlags := 25, slot := 0, constantValue := 0 }, { name := "AIOOBE_FORMATTER", type := (.object "java/util/function/BiFunction"), accessFlags := 25, slot := 1, constantValue := 0 }, { name := "IOOBE_FORMATTER", type := (.object "java/util/function/BiFunction"), accessFlags := 25, slot := 2, constantValue := 0 }]
  methods := #[k15m0]
  instanceTypes := #[]
  staticTypes := #[(.object "java/util/function/BiFunction"), (.object "java/util/function/BiFunction"), (.object "java/util/function/BiFunction")]
  resolved := Array.replicate 194 none
  statics := some 2 }

def pool16 : Array CpInfo := pool [(9, u "<init>"), (6, .class_ 18), (1, u "java/lang/Object"), (0, u "()V"), (1, .class_ 23), (1, u "jdk/internal/util/ArraysSupport"), (0, u "LOG2_ARRAY_LONG_INDEX_SCALE"), (0, u "I"), (2, u "U"), (0, u "Ljdk/internal/misc/Unsafe;"), (8, u "BIG_ENDIAN"), (0, u "Z"), (8, u "LOG2_BYTE_BIT_SIZE"), (4, u "LOG2_ARRAY_INT_INDEX_SCALE"), (54, u "JLA"), (0, u "Ljdk/internal/access/JavaLangAccess;"), (11, u "LOG2_ARRAY_BOOLEAN_INDEX_SCALE"), (9, u "LOG2_ARRAY_BYTE_INDEX_SCALE"), (5, u "LOG2_ARRAY_CHAR_INDEX_SCALE"), (5, u "LOG2_ARRAY_SHORT_INDEX_SCALE"), (18, u "LOG2_ARRAY_FLOAT_INDEX_SCALE"), (24, u "LOG2_ARRAY_DOUBLE_INDEX_SCALE"), (89, u "T_BOOLEAN"), (2, u "T_CHAR"), (1, u "T_FLOAT"), (1, u "T_DOUBLE"), (1, u "T_BYTE"), (1, u "T_SHORT"), (1, u "T_INT"), (1, u "T_LONG"), (1, u "SOFT_MAX_ARRAY_LENGTH")] 83

def k16m0 : Method := { name := "<init>", desc := "()V", sig := { parameters := [], returnType := none }, accessFlags := 2, code := none }
/-- jdk/internal/util/ArraysSupport -/
def k16 : Class := { plain "jdk/internal/util/ArraysSupport" (some 0) with
  accessFlags := 33
  interfaces := #[]
  cf := some (fileOf pool16 21 #[] #[{ accessFlags := 2, nameIndex := 9, descriptorIndex := 19, attributes := #[] }] 33 16 #[] #[{ accessFlags := 24, nameIndex := 28, descriptorIndex := 29, attributes := #[] }, { accessFlags := 26, nameIndex := 38, descriptorIndex := 39, attributes := #[] }, { accessFlags := 25, nameIndex := 121, descriptorIndex := 25, attributes := #[] }, { accessFlags := 25, nameIndex := 131, descriptorIndex := 25, attributes := #[] }, { accessFlags := 25, nameIndex := 137, descriptorIndex := 25, attributes := #[] }, { accessFlags := 25, nameIndex := 143, descriptorIndex := 25, attributes := #[] }, { accessFlags := 25, nameIndex := 53, descriptorIndex := 25, attributes := #[] }, { accessFlags := 25, nameIndex := 24, descriptorIndex := 25, attributes := #[] }, { accessFlags := 25, nameIndex := 162, descriptorIndex := 25, attributes := #[] }, { accessFlags := 25, nameIndex := 187, descriptorIndex := 25, attributes := #[] }, { accessFlags := 26, nameIndex := 48, descriptorIndex := 25, attributes := #[] }, { accessFlags := 25, nameIndex := 277, descriptorIndex := 25, attributes := #[] }, { accessFlags := 25, nameIndex := 280, descriptorIndex := 25, attributes := #[] }, { accessFlags := 25, nameIndex := 282, descriptorIndex := 25, attributes := #[] }, { accessFlags := 25, nameIndex := 284, descriptorIndex := 25, attributes := #[] }, { accessFlags := 25, nameIndex := 286, descriptorIndex := 25, attributes := #[] }, { accessFlags := 25, nameIndex := 288, descriptorIndex := 25, attributes := #[] }, { accessFlags := 25, nameIndex := 290, descriptorIndex := 25, attributes := #[] }, { accessFlags := 25, nameIndex := 292, descriptorIndex := 25, attributes := #[] }, { accessFlags := 26, nameIndex := 108, descriptorIndex := 109, attributes := #[] }, { accessFlags := 25, nameIndex := 294, descriptorIndex := 25, attributes := #[] }])
  fields := #[{ name := "U", type := (.object "jdk/internal/misc/Unsafe"), accessFlags := 24, slot := 0, constantValue := 0 }, { name := "BIG_ENDIAN", type := .boolean, accessFlags := 26, slot := 1, constantValue := 0 }, { name := "LOG2_ARRAY_BOOLEAN_INDEX_SCALE", type := .int, accessFlags := 25, slot := 2, constantValue := 0 }, { name := "LOG2_ARRAY_BYTE_INDEX_SCALE", type := .int, accessFlags := 25, slot := 3, constantValue := 0 }, { name := "LOG2_ARRAY_CHAR_INDEX_SCALE", type := .int, accessFlags := 25, slot := 4, constantValue := 0 }, { name := "LOG2_ARRAY_SHORT_INDEX_SCALE", type := .int, accessFlags := 25, slot := 5, constantValue := 0 }, { name := "LOG2_ARRAY_INT_INDEX_SCALE", type := .int, accessFlags := 25, slot := 6, constantValue := 0 }, { name := "LOG2_ARRAY_LONG_INDEX_SCALE", type := .int, accessFlags := 25, slot := 7, constantValue := 0 }, { name := "LOG2_ARRAY_FLOAT_INDEX_SCALE", type := .int, accessFlags := 25, slot := 8, constantValue := 0 }, { name := "LOG2_ARRAY_DOUBLE_INDEX_SCALE", type := .int, accessFlags := 25, slot := 9, constantValue := 0 }, { name := "LOG2_BYTE_BIT_SIZE", type := .int, accessFlags := 26, slot := 10, constantValue := 0 }, { name := "T_BOOLEAN", type := .int, accessFlags := 25, slot := 11, constantValue := 0 }, { name := "T_CHAR", type := .int, accessFlags := 25, slot := 12, constantValue := 0 }, { name := "T_FLOAT", type := .int, accessFlags := 25, slot := 13, constantValue := 0 }, { name := "T_DOUBLE", type := .int, accessFlags := 25, slot := 14, constantValue := 0 }, { name := "T_BYTE", type := .int, accessFlags := 25, slot := 15, constantValue := 0 }, { name := "T_SHORT", type := .int, accessFlags := 25, slot := 16, constantValue := 0 }, { name := "T_INT", type := .int, accessFlags := 25, slot := 17, constantValue := 0 }, { name := "T_LONG", type := .int, accessFlags := 25, slot := 18, constantValue := 0 }, { name := "JLA", type := (.object "jdk/internal/access/JavaLangAccess"), accessFlags := 26, slot := 19, constantValue := 0 }, { name := "SOFT_MAX_ARRAY_LENGTH", type := .int, accessFlags := 25, slot := 20, constantValue := 0 }]
  methods := #[k16m0]
  instanceTypes := #[]
  staticTypes := #[(.object "jdk/internal/misc/Unsafe"), .boolean, .int, .int, .int, .int, .int, .int, .int, .int, .int, .int, .int, .int, .int, .int, .int, .int, .int, (.object "jdk/internal/access/JavaLangAccess"), .int]
  resolved := Array.replicate 378 none
  statics := none }

/-- the primitive byte -/
def k17 : Class := { plain "byte" none with kind := .primitive 'B', accessFlags := 0x411 }
/-- [B -/
def k18 : Class := { plain "[B" (some 0) with kind := .array 17 .byte, interfaces := #[11, 2], accessFlags := 1041 }

/-- the primitive char -/
def k19 : Class := { plain "char" none with kind := .primitive 'C', accessFlags := 0x411 }
/-- [C -/
def k20 : Class := { plain "[C" (some 0) with kind := .array 19 .char, interfaces := #[11, 2], accessFlags := 1041 }

/-- the primitive int -/
def k21 : Class := { plain "int" none with kind := .primitive 'I', accessFlags := 0x411 }
/-- [I -/
def k22 : Class := { plain "[I" (some 0) with kind := .array 21 .int, interfaces := #[11, 2], accessFlags := 1041 }

/-- [Lcom/example/ourthe/ourthe/cli/TraceSemantics; -/
def k23 : Class := { plain "[Lcom/example/ourthe/ourthe/cli/TraceSemantics;" (some 0) with kind := .array 10 (.object "com/example/ourthe/ourthe/cli/TraceSemantics"), interfaces := #[11, 2], accessFlags := 1041 }

def heap : Heap := #[{ cls := 7, slots := #[.long 0, .int 1, .null, .int 0, .null, .int 0, .int 0], vm := .statics 7 },
  { cls := 10, slots := #[.ref 4, .ref 5, .ref 3], vm := .statics 10 },
  { cls := 15, slots := #[.null, .null, .null], vm := .statics 15 },
  { cls := 23, slots := #[.ref 4, .ref 5], vm := .none },
  { cls := 12, slots := #[.null, .int 0, .int 0, .ref 6], vm := .none },
  { cls := 13, slots := #[.null, .int 1, .int 0, .ref 8], vm := .none },
  { cls := 7, slots := #[.ref 7, .int 0, .int 0, .int 0], vm := .none },
  { cls := 18, slots := #[.int 115, .int 116, .int 101, .int 112, .int 115], vm := .none },
  { cls := 7, slots := #[.ref 9, .int 0, .int 0, .int 0], vm := .none },
  { cls := 18, slots := #[.int 99, .int 97, .int 117, .int 115, .int 97, .int 108], vm := .none }]
def classes : Array Class := #[k0, k1, k2, k3, k4, k5, k6, k7, k8, k9, k10, k11, k12, k13, k14, k15, k16, k17, k18, k19, k20, k21, k22, k23]
def interned : List (Array UInt16 × Addr) := []
def slotsUsed : Nat := 42
def theMethod : MethodId := ⟨1, 1⟩
def args0 : Array Value := #[.int 5, .int 1, .int 0, .long 0]
def aboutOver (below : List Frame) : State where
  vm := { classes := classes, interned := interned.toArray }
  heap := heap
  slotsUsed := slotsUsed
  threads := #[{ frames := .invoking theMethod args0 :: below }]
def below0 : List Frame := [.native { method := ⟨0, 0⟩, args := #[] }]
def about1 : State := aboutOver below0
def p0 : Program := .bare "" "" ""
def e0 : Env := launch0.env 0 0 0
theorem w_frames : about1.frames = Frame.invoking theMethod args0 :: below0 := rfl
set_option maxRecDepth 65536 in
theorem w_args : argsFit about1.vm theMethod args0 = true := by decide +kernel
set_option maxRecDepth 65536 in
theorem w_heap : heapFits about1 = true := by decide +kernel
set_option maxRecDepth 65536 in
theorem w_runnable : about1.curStatus? = some .runnable := by decide +kernel
set_option maxRecDepth 65536 in
theorem w_alone : about1.alone = true := by decide +kernel
set_option maxRecDepth 65536 in
theorem w_named : about1.methodNamed? x = some theMethod := by decide +kernel
set_option maxRecDepth 65536 in
theorem w_hears : about1.hears theMethod below0 = true := by decide +kernel
set_option maxRecDepth 65536 in
theorem w_ripe : about1.ripe theMethod args0 below0 = true := by decide +kernel
theorem w_running : about1.status = .running := rfl
set_option maxRecDepth 65536 in
theorem w_room : about1.hasRoom e0.platform room_1 = true :=
  launch0.hasRoom_least _ room_1 (by decide +kernel) (by decide +kernel) (by decide +kernel) (by decide +kernel) (by decide +kernel) (by decide +kernel)
theorem allAtoms_all (ts : List Jvm.Cond) (a : Array Jvm.Value) (st : Jvm.State) : (allAtoms ts).before a st = ts.all (fun c => c.before a st) := by
  induction ts with
  | nil => rfl
  | cons c t ih =>
    show (Jvm.Cond.and c (allAtoms t)).before a st = _
    rw [Jvm.Cond.before_and, ih, List.all_cons]
def words1 : List Jvm.Cond := Jvm.Cond.code x code maxLocals ret :: tables_1
/-- a 'code' word, met by the world's own term for the bytes: nothing is compared byte by byte -/
theorem code_word {y : MethodName} {bytes : ByteArray} {mx : Nat} {rt : Option FieldType} {a : Array Value} {s : State} {m : MethodId} {meth : Method} {c : Code} (h1 : s.methodNamed? y = some m) (h2 : s.vm.method? m = some meth) (h3 : meth.code = some c) (h4 : c.code = bytes)
    (h5 : (c.maxLocals == mx && c.exceptionTable.isEmpty && decide (c.maxStack ≤ mostOperands) && decide (meth.sig.returnType = rt) && !meth.locks && decide (parseMethodDescriptor y.desc = some meth.sig)) = true) : (Jvm.Cond.code y bytes mx rt).before a s = true := by
  simp only [Bool.and_eq_true, beq_iff_eq, Bool.not_eq_true', decide_eq_true_eq] at h5
  obtain ⟨⟨⟨⟨⟨g1, g2⟩, g3⟩, g4⟩, g5⟩, g6⟩ := h5
  simp [Cond.before, Cond.holds, Cond.value, h1, h2, h3, h4, g1, g2, g3, g4, g5, g6]
def isCode : Jvm.Cond → Bool
  | .code _ _ _ _ => true
  | _ => false
theorem all_split {L : List Jvm.Cond} {P : Jvm.Cond → Bool} (h1 : L.all (fun c => isCode c || P c) = true) (h2 : ∀ c ∈ L.filter isCode, P c = true) : L.all P = true := by
  refine List.all_eq_true.mpr fun c hc => ?_
  have h := List.all_eq_true.mp h1 c hc
  rcases Bool.eq_false_or_eq_true (isCode c) with hi | hi
  · exact h2 c (List.mem_filter.mpr ⟨hc, hi⟩)
  · simpa [hi] using h
set_option maxRecDepth 65536 in
theorem w_c0 : (Jvm.Cond.code x code maxLocals ret).before args0 about1 = true := code_word (m := ⟨1, 1⟩) (meth := k1m1) (c := k1c1) (by decide +kernel) rfl rfl rfl (by decide +kernel)
set_option maxRecDepth 65536 in
theorem w_c1 : (Jvm.Cond.code ({ cls := "com/example/ourthe/ourthe/cli/TraceSemanticsNamedPinLaw", name := "pick", desc := "(I[CJ)C" } : Jvm.MethodName) method_3_code (4 : Nat) (Option.some Jvm.ClassFile.FieldType.char)).before args0 about1 = true := code_word (m := ⟨1, 2⟩) (meth := k1m2) (c := k1c2) (by decide +kernel) rfl rfl rfl (by decide +kernel)
set_option maxRecDepth 65536 in
theorem w_c2 : (Jvm.Cond.code ({ cls := "com/example/ourthe/ourthe/cli/TraceSemanticsNamedPinLaw", name := "cut", desc := "([CI)Ljava/lang/String;" } : Jvm.MethodName) method_4_code (2 : Nat) (Option.some (Jvm.ClassFile.FieldType.object "java/lang/String"))).before args0 about1 = true := code_word (m := ⟨1, 3⟩) (meth := k1m3) (c := k1c3) (by decide +kernel) rfl rfl rfl (by decide +kernel)
set_option maxRecDepth 65536 in
theorem w_c3 : (Jvm.Cond.code ({ cls := "java/lang/String", name := "<init>", desc := "([C)V" } : Jvm.MethodName) jdk_42_method_3_code (2 : Nat) (Option.none : Option Jvm.ClassFile.FieldType)).before args0 about1 = true := code_word (m := ⟨7, 1⟩) (meth := k7m1) (c := k7c1) (by decide +kernel) rfl rfl rfl (by decide +kernel)
set_option maxRecDepth 65536 in
theorem w_c4 : (Jvm.Cond.code ({ cls := "java/lang/String", name := "<init>", desc := "([CIILjava/lang/Void;)V" } : Jvm.MethodName) jdk_42_method_149_code (6 : Nat) (Option.none : Option Jvm.ClassFile.FieldType)).before args0 about1 = true := code_word (m := ⟨7, 3⟩) (meth := k7m3) (c := k7c3) (by decide +kernel) rfl rfl rfl (by decide +kernel)
set_option maxRecDepth 65536 in
theorem w_c5 : (Jvm.Cond.code ({ cls := "java/lang/Object", name := "<init>", desc := "()V" } : Jvm.MethodName) object_method_1_code (1 : Nat) (Option.none : Option Jvm.ClassFile.FieldType)).before args0 about1 = true := code_word (m := ⟨0, 0⟩) (meth := k0m0) (c := k0c0) (by decide +kernel) rfl rfl rfl (by decide +kernel)
set_option maxRecDepth 65536 in
theorem w_c6 : (Jvm.Cond.code ({ cls := "java/lang/String", name := "equals", desc := "(Ljava/lang/Object;)Z" } : Jvm.MethodName) jdk_42_method_66_code (3 : Nat) (Option.some Jvm.ClassFile.FieldType.boolean)).before args0 about1 = true := code_word (m := ⟨7, 2⟩) (meth := k7m2) (c := k7c2) (by decide +kernel) rfl rfl rfl (by decide +kernel)
set_option maxRecDepth 65536 in
theorem w_c7 : (Jvm.Cond.code ({ cls := "java/lang/StringLatin1", name := "equals", desc := "([B[B)Z" } : Jvm.MethodName) jdk_43_method_13_code (3 : Nat) (Option.some Jvm.ClassFile.FieldType.boolean)).before args0 about1 = true := code_word (m := ⟨8, 1⟩) (meth := k8m1) (c := k8c1) (by decide +kernel) rfl rfl rfl (by decide +kernel)
set_option maxRecDepth 65536 in
theorem w_c8 : (Jvm.Cond.code ({ cls := "com/example/ourthe/ourthe/cli/TraceSemantics", name := "named", desc := "(Ljava/lang/String;)Lcom/example/ourthe/ourthe/cli/TraceSemantics;" } : Jvm.MethodName) prog_50_method_5_code (6 : Nat) (Option.some (Jvm.ClassFile.FieldType.object "com/example/ourthe/ourthe/cli/TraceSemantics"))).before args0 about1 = true := code_word (m := ⟨10, 1⟩) (meth := k10m1) (c := k10c1) (by decide +kernel) rfl rfl rfl (by decide +kernel)
set_option maxRecDepth 65536 in
theorem w_c9 : (Jvm.Cond.code ({ cls := "com/example/ourthe/ourthe/cli/TraceSemantics", name := "values", desc := "()[Lcom/example/ourthe/ourthe/cli/TraceSemantics;" } : Jvm.MethodName) prog_50_method_1_code (0 : Nat) (Option.some (Jvm.ClassFile.FieldType.array (Jvm.ClassFile.FieldType.object "com/example/ourthe/ourthe/cli/TraceSemantics")))).before args0 about1 = true := code_word (m := ⟨10, 0⟩) (meth := k10m0) (c := k10c0) (by decide +kernel) rfl rfl rfl (by decide +kernel)
set_option maxRecDepth 65536 in
theorem w_c10 : (Jvm.Cond.code ({ cls := "java/lang/StringUTF16", name := "compress", desc := "([CII)[B" } : Jvm.MethodName) jdk_52_method_16_code (6 : Nat) (Option.some (Jvm.ClassFile.FieldType.array Jvm.ClassFile.FieldType.byte))).before args0 about1 = true := code_word (m := ⟨14, 2⟩) (meth := k14m2) (c := k14c2) (by decide +kernel) rfl rfl rfl (by decide +kernel)
set_option maxRecDepth 65536 in
theorem w_c11 : (Jvm.Cond.code ({ cls := "java/lang/StringUTF16", name := "compress", desc := "([CI[BII)I" } : Jvm.MethodName) jdk_52_method_21_code (7 : Nat) (Option.some Jvm.ClassFile.FieldType.int)).before args0 about1 = true := code_word (m := ⟨14, 3⟩) (meth := k14m3) (c := k14c3) (by decide +kernel) rfl rfl rfl (by decide +kernel)
set_option maxRecDepth 65536 in
theorem w_c12 : (Jvm.Cond.code ({ cls := "java/lang/StringUTF16", name := "coderFromArrayLen", desc := "([BI)B" } : Jvm.MethodName) jdk_52_method_15_code (2 : Nat) (Option.some Jvm.ClassFile.FieldType.byte)).before args0 about1 = true := code_word (m := ⟨14, 1⟩) (meth := k14m1) (c := k14c1) (by decide +kernel) rfl rfl rfl (by decide +kernel)
def codes1 : List Jvm.Cond := [Jvm.Cond.code x code maxLocals ret, Jvm.Cond.code ({ cls := "com/example/ourthe/ourthe/cli/TraceSemanticsNamedPinLaw", name := "pick", desc := "(I[CJ)C" } : Jvm.MethodName) method_3_code (4 : Nat) (Option.some Jvm.ClassFile.FieldType.char), Jvm.Cond.code ({ cls := "com/example/ourthe/ourthe/cli/TraceSemanticsNamedPinLaw", name := "cut", desc := "([CI)Ljava/lang/String;" } : Jvm.MethodName) method_4_code (2 : Nat) (Option.some (Jvm.ClassFile.FieldType.object "java/lang/String")), Jvm.Cond.code ({ cls := "java/lang/String", name := "<init>", desc := "([C)V" } : Jvm.MethodName) jdk_42_method_3_code (2 : Nat) (Option.none : Option Jvm.ClassFile.FieldType), Jvm.Cond.code ({ cls := "java/lang/String", name := "<init>", desc := "([CIILjava/lang/Void;)V" } : Jvm.MethodName) jdk_42_method_149_code (6 : Nat) (Option.none : Option Jvm.ClassFile.FieldType), Jvm.Cond.code ({ cls := "java/lang/Object", name := "<init>", desc := "()V" } : Jvm.MethodName) object_method_1_code (1 : Nat) (Option.none : Option Jvm.ClassFile.FieldType), Jvm.Cond.code ({ cls := "java/lang/String", name := "equals", desc := "(Ljava/lang/Object;)Z" } : Jvm.MethodName) jdk_42_method_66_code (3 : Nat) (Option.some Jvm.ClassFile.FieldType.boolean), Jvm.Cond.code ({ cls := "java/lang/StringLatin1", name := "equals", desc := "([B[B)Z" } : Jvm.MethodName) jdk_43_method_13_code (3 : Nat) (Option.some Jvm.ClassFile.FieldType.boolean), Jvm.Cond.code ({ cls := "com/example/ourthe/ourthe/cli/TraceSemantics", name := "named", desc := "(Ljava/lang/String;)Lcom/example/ourthe/ourthe/cli/TraceSemantics;" } : Jvm.MethodName) prog_50_method_5_code (6 : Nat) (Option.some (Jvm.ClassFile.FieldType.object "com/example/ourthe/ourthe/cli/TraceSemantics")), Jvm.Cond.code ({ cls := "com/example/ourthe/ourthe/cli/TraceSemantics", name := "values", desc := "()[Lcom/example/ourthe/ourthe/cli/TraceSemantics;" } : Jvm.MethodName) prog_50_method_1_code (0 : Nat) (Option.some (Jvm.ClassFile.FieldType.array (Jvm.ClassFile.FieldType.object "com/example/ourthe/ourthe/cli/TraceSemantics"))), Jvm.Cond.code ({ cls := "java/lang/StringUTF16", name := "compress", desc := "([CII)[B" } : Jvm.MethodName) jdk_52_method_16_code (6 : Nat) (Option.some (Jvm.ClassFile.FieldType.array Jvm.ClassFile.FieldType.byte)), Jvm.Cond.code ({ cls := "java/lang/StringUTF16", name := "compress", desc := "([CI[BII)I" } : Jvm.MethodName) jdk_52_method_21_code (7 : Nat) (Option.some Jvm.ClassFile.FieldType.int), Jvm.Cond.code ({ cls := "java/lang/StringUTF16", name := "coderFromArrayLen", desc := "([BI)B" } : Jvm.MethodName) jdk_52_method_15_code (2 : Nat) (Option.some Jvm.ClassFile.FieldType.byte)]
set_option maxRecDepth 65536 in
theorem codes_eq : words1.filter isCode = codes1 := rfl
theorem w_codes : ∀ c ∈ words1.filter isCode, c.before args0 about1 = true := by
  rw [codes_eq]
  intro c hc
  simp only [codes1, List.mem_cons, List.not_mem_nil, or_false] at hc
  rcases hc with rfl | rfl | rfl | rfl | rfl | rfl | rfl | rfl | rfl | rfl | rfl | rfl | rfl
  · exact w_c0
  · exact w_c1
  · exact w_c2
  · exact w_c3
  · exact w_c4
  · exact w_c5
  · exact w_c6
  · exact w_c7
  · exact w_c8
  · exact w_c9
  · exact w_c10
  · exact w_c11
  · exact w_c12
set_option maxRecDepth 65536 in
theorem w_t1 : (words1.take 24).all (fun c => isCode c || c.before args0 about1) = true := by decide +kernel
set_option maxRecDepth 65536 in
theorem w_t2 : ((words1.drop 24).take 24).all (fun c => isCode c || c.before args0 about1) = true := by decide +kernel
set_option maxRecDepth 65536 in
theorem w_t3 : (((words1.drop 24).drop 24).take 24).all (fun c => isCode c || c.before args0 about1) = true := by decide +kernel
set_option maxRecDepth 65536 in
theorem w_t4 : (((words1.drop 24).drop 24).drop 24).all (fun c => isCode c || c.before args0 about1) = true := by decide +kernel
theorem w_tables : (allAtoms (Jvm.Cond.code x code maxLocals ret :: tables_1)).before args0 about1 = true := by
  rw [allAtoms_all]
  show words1.all (fun c => c.before args0 about1) = true
  refine all_split ?_ w_codes
  rw [← List.take_append_drop 24 words1, List.all_append, w_t1, ← List.take_append_drop 24 (words1.drop 24), List.all_append, w_t2, ← List.take_append_drop 24 ((words1.drop 24).drop 24), List.all_append, w_t3, w_t4]
  rfl
set_option maxRecDepth 65536 in
theorem w_rest : rest_1_c.before args0 about1 = true := by decide +kernel
set_option maxRecDepth 65536 in
theorem w_case : (Jvm.Cond.and given_1 narrow_1).before args0 about1 = true := by decide +kernel
set_option maxRecDepth 65536 in
theorem w_consts : constsHeld consts_1 about1 := Jvm.Lit.constsHeldB_iff.mp (by decide +kernel)
theorem w_applies : (headSpec (Jvm.Cond.code x code maxLocals ret :: tables_1) room_1).applies x e0.platform about1 = true :=
  (Spec.applies_iff w_frames).mpr ⟨w_running, w_runnable, w_alone, w_named, w_hears, w_ripe, w_room, w_tables⟩
theorem atStart : AtStart classFile x code maxLocals ret World_1 tables_1 room_1 Calls_1 rest_1 Pre_1 launch0 p0 e0 about1 theMethod args0 below0 :=
  ⟨lists_1, trivial, launch0.admits_env _ _ _, launch0.least_env, fairChoices_fair.cas, fairChoices_fair.clock, w_frames, w_args, w_heap, w_applies, ⟨w_consts, trivial⟩, w_rest, w_case⟩
end start1
theorem witness_1 : WitnessClaimed_1 := ⟨start1.p0, start1.e0, start1.about1, start1.theMethod, start1.args0, start1.below0, start1.atStart⟩
end Jvm.Pilot.@@N@@
