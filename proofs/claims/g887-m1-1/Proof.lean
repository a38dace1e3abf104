import JvmDerived
import JvmDerived.Pilot.@@N@@Statement
import JvmDerived.Pilot.@@N@@Code
set_option linter.unusedVariables false
set_option linter.unusedSimpArgs false
namespace Jvm.Own
open Jvm Jvm.ClassFile Sem Op Lib Jvm.Free Jvm.Stand Jvm.LawKit Jvm.RoadKit Bundle
/-! the abstract machine: values with the objects named by their place in a list -/
abbrev Obj : Type := Nat × List Value
abbrev AH : Type := List Obj
abbrev Orc : Type := Option (List Bool × List Int32)
abbrev Ent : Type := Instr × Option Bool × List Nat × Value
abbrev PR : Type := List Prop × Orc × Nat × List Slot × List Value
def gv (g : Nat → Addr) : Value → Value
  | .ref i => .ref (g i)
  | .int x => .int x
  | .long x => .long x
  | .float x => .float x
  | .double x => .double x
  | .null => .null
  | .retAddr p => .retAddr p
def gs (g : Nat → Addr) : Slot → Slot
  | .val v => .val (gv g v)
  | .unset => .unset
  | .second => .second
abbrev gL (g : Nat → Addr) (L : List Slot) : Array Slot := (L.map (gs g)).toArray
abbrev gS (g : Nat → Addr) (S : List Value) : List Value := S.map (gv g)
theorem gv_cat (g : Nat → Addr) (v : Value) : (gv g v).category = v.category := by cases v <;> rfl
theorem gv_isRef (g : Nat → Addr) (v : Value) : (gv g v).isRef = v.isRef := by cases v <;> rfl
theorem gS_cat (g : Nat → Addr) (S : List Value) : ((gS g S).map fun v => v.category).sum = (S.map fun v => v.category).sum := by
  induction S with
  | nil => rfl
  | cons v r ih => simp only [List.map_cons, List.sum_cons, gv_cat] at ih ⊢; rw [ih]
theorem gL_get {g : Nat → Addr} {L : List Slot} {k : Nat} {s : Slot} (h : L[k]? = some s) : (gL g L)[k]? = some (gs g s) := by simp [gL, h]
theorem gL_len (g : Nat → Addr) (L : List Slot) : (gL g L).size = L.length := by simp [gL]
def ask (o : Orc) (b : Bool) : Option (Bool × Orc × List Prop) :=
  match o with
  | none => some (b, none, [])
  | some ([], _) => none
  | some (x :: r, q) => some (x, some (r, q), [b = x])
def need (o : Orc) (P : Prop) [Decidable P] : Option (List Prop) :=
  match o with
  | none => if P then some [] else none
  | some _ => some [P]
theorem ask_ok {o o' : Orc} {b x : Bool} {cs : List Prop} (h : ask o b = some (x, o', cs)) (hc : ∀ P ∈ cs, P) : b = x := by
  unfold ask at h
  split at h
  · cases h; rfl
  · cases h
  · cases h; exact hc _ (List.mem_singleton.mpr rfl)
theorem need_ok {o : Orc} {P : Prop} [Decidable P] {cs : List Prop} (h : need o P = some cs) (hc : ∀ P ∈ cs, P) : P := by
  unfold need at h
  split at h
  · split at h
    · assumption
    · cases h
  · cases h; exact hc _ (List.mem_singleton.mpr rfl)
/-- an instruction's length -/
def ilen : Instr → Nat
  | .bipush _ | .iload _ | .lload _ | .dload _ | .aload _ | .istore _ | .lstore _ | .dstore _ | .astore _ | .newarray _ | .ldc _ => 2
  | .sipush _ | .iinc _ _ | .goto _ | .ifCond _ _ | .if_icmp _ _ | .if_acmp _ _ | .ifnull _ | .ifnonnull _ | .ldc_w _ | .ldc2_w _ => 3
  | .getfield _ | .putfield _ | .getstatic _ | .new _ | .anewarray _ | .checkcast _ | .instanceof _ | .invokestatic _ | .invokespecial _ | .invokevirtual _ => 3
  | .invokeinterface _ _ => 5
  | _ => 1
/-! constants -/
def cst : Instr → Option Value
  | .iconst i => some (.int (Int32.ofInt i))
  | .bipush i => some (.int (Int8.ofInt i).toInt32)
  | .sipush i => some (.int (Int16.ofInt i).toInt32)
  | .lconst 0 => some (.long 0)
  | .lconst 1 => some (.long 1)
  | .dconst 0 => some (.double 0)
  | .dconst 1 => some (.double 4607182418800017408)
  | .aconst_null => some .null
  | _ => none
/-! loads -/
def ldi : Instr → Nat
  | .iload k => k | .lload k => k | .dload k => k | .aload k => k
  | .iload_n k => k.val | .lload_n k => k.val | .dload_n k => k.val | .aload_n k => k.val
  | _ => 0
/-! stores -/
def sti : Instr → Nat
  | .istore k => k | .lstore k => k | .dstore k => k | .astore k => k
  | .istore_n k => k.val | .lstore_n k => k.val | .dstore_n k => k.val | .astore_n k => k.val
  | _ => 0
def stok : Instr → Value → Bool
  | .istore _, .int _ => true
  | .istore_n _, .int _ => true
  | .lstore _, .long _ => true
  | .lstore_n _, .long _ => true
  | .dstore _, .double _ => true
  | .dstore_n _, .double _ => true
  | .astore _, .ref _ => true
  | .astore _, .null => true
  | .astore_n _, .ref _ => true
  | .astore_n _, .null => true
  | _, _ => false
def ldok : Instr → Value → Bool
  | .iload _, .int _ => true
  | .iload_n _, .int _ => true
  | .lload _, .long _ => true
  | .lload_n _, .long _ => true
  | .dload _, .double _ => true
  | .dload_n _, .double _ => true
  | .aload _, .ref _ => true
  | .aload _, .null => true
  | .aload_n _, .ref _ => true
  | .aload_n _, .null => true
  | _, _ => false
def setL (L : List Slot) (i : Nat) (x : Slot) : Option (List Slot) := if i < L.length then some (L.set i x) else none
def stSelf (L : List Slot) (i : Nat) (v : Value) : Option (List Slot) :=
  (setL L i (.val v)).bind fun L =>
  if v.category = 2 then
    match L[i + 1]? with
    | none => none
    | some (.val old) => if old.category = 2 then (setL L (i + 2) .unset).bind fun L => setL L (i + 1) .second else setL L (i + 1) .second
    | some _ => setL L (i + 1) .second
  else some L
def stL (L : List Slot) (i : Nat) (v : Value) : Option (List Slot) :=
  match L[i]? with
  | none => none
  | some .second => (setL L (i - 1) .unset).bind fun L => stSelf L i v
  | some (.val old) => if old.category = 2 then (setL L (i + 1) .unset).bind fun L => stSelf L i v else stSelf L i v
  | some .unset => stSelf L i v
theorem setL_ok {g : Nat → Addr} {L L' : List Slot} {i : Nat} {x : Slot} (h : setL L i x = some L') : setAt (gL g L) i (gs g x) = some (gL g L') := by
  unfold setL at h
  split at h
  · rename_i q
    cases h
    unfold setAt
    rw [if_pos (by simpa using q)]
    simp [List.map_set]
  · cases h
theorem stSelf_ok {g : Nat → Addr} {L L' : List Slot} {i : Nat} {v : Value} (h : stSelf L i v = some L') : storeSelf (gL g L) i (gv g v) = some (gL g L') := by
  unfold stSelf at h
  obtain ⟨L1, h1, h2⟩ := Option.bind_eq_some_iff.mp h
  have e1 := setL_ok (g := g) h1
  unfold storeSelf
  rw [show (Slot.val (gv g v)) = gs g (.val v) from rfl, e1]
  simp only [Option.bind_eq_bind, Option.bind_some, gv_cat]
  split at h2
  · rename_i hc
    rw [if_pos hc]
    cases hq : L1[i + 1]? with
    | none => rw [hq] at h2; cases h2
    | some y =>
      rw [hq] at h2
      rw [gL_get hq]
      cases y with
      | val old =>
        simp only [gs, Option.bind_some, gv_cat] at h2 ⊢
        split at h2
        · rename_i ho
          rw [if_pos ho]
          obtain ⟨L2, a1, a2⟩ := Option.bind_eq_some_iff.mp h2
          have e2 := setL_ok (g := g) a1
          have e3 := setL_ok (g := g) a2
          simp only [gs] at e2 e3
          rw [e2]; simpa using e3
        · rename_i ho
          rw [if_neg ho]
          exact setL_ok (g := g) h2
      | unset => exact setL_ok (g := g) h2
      | second => exact setL_ok (g := g) h2
  · rename_i hc
    rw [if_neg hc]
    cases h2; rfl
theorem stL_ok {g : Nat → Addr} {L L' : List Slot} {i : Nat} {v : Value} (h : stL L i v = some L') : storeLocals (gL g L) i (gv g v) = some (gL g L') := by
  unfold stL at h
  unfold storeLocals
  cases hq : L[i]? with
  | none => rw [hq] at h; cases h
  | some y =>
    rw [hq] at h
    rw [gL_get hq]
    cases y with
    | second =>
      simp only [gs, Option.bind_eq_bind, Option.bind_some] at h ⊢
      obtain ⟨L1, a1, a2⟩ := Option.bind_eq_some_iff.mp h
      have e2 := setL_ok (g := g) a1
      simp only [gs] at e2
      rw [e2]; exact stSelf_ok a2
    | val old =>
      simp only [gs, Option.bind_eq_bind, Option.bind_some, gv_cat] at h ⊢
      split at h
      · rename_i ho
        rw [if_pos ho]
        obtain ⟨L1, a1, a2⟩ := Option.bind_eq_some_iff.mp h
        have e2 := setL_ok (g := g) a1
        simp only [gs] at e2
        rw [e2]; exact stSelf_ok a2
      · rename_i ho
        rw [if_neg ho]; exact stSelf_ok h
    | unset => exact stSelf_ok h
theorem setL_len {L L' : List Slot} {i : Nat} {x : Slot} (h : setL L i x = some L') : L'.length = L.length := by
  unfold setL at h; split at h
  · cases h; simp
  · cases h
theorem stSelf_len {L L' : List Slot} {i : Nat} {v : Value} (h : stSelf L i v = some L') : L'.length = L.length := by
  unfold stSelf at h
  obtain ⟨L1, h1, h2⟩ := Option.bind_eq_some_iff.mp h
  have e1 := setL_len h1
  split at h2
  · split at h2
    · cases h2
    · split at h2
      · obtain ⟨L2, a1, a2⟩ := Option.bind_eq_some_iff.mp h2
        rw [setL_len a2, setL_len a1, e1]
      · rw [setL_len h2, e1]
    · rw [setL_len h2, e1]
  · cases h2; exact e1
theorem stL_len {L L' : List Slot} {i : Nat} {v : Value} (h : stL L i v = some L') : L'.length = L.length := by
  unfold stL at h
  split at h
  · cases h
  · obtain ⟨L1, a1, a2⟩ := Option.bind_eq_some_iff.mp h
    rw [stSelf_len a2, setL_len a1]
  · split at h
    · obtain ⟨L1, a1, a2⟩ := Option.bind_eq_some_iff.mp h
      rw [stSelf_len a2, setL_len a1]
    · exact stSelf_len h
  · exact stSelf_len h
/-! arithmetic -/
def bin : Instr → Value → Value → Option Value
  | .iadd, .int x, .int y => some (.int (x + y))
  | .isub, .int x, .int y => some (.int (x - y))
  | .imul, .int x, .int y => some (.int (x * y))
  | .iand, .int x, .int y => some (.int (x &&& y))
  | .ior, .int x, .int y => some (.int (x ||| y))
  | .ixor, .int x, .int y => some (.int (x ^^^ y))
  | .ishl, .int x, .int y => some (.int (x <<< (y &&& 31)))
  | .ishr, .int x, .int y => some (.int (x >>> (y &&& 31)))
  | .iushr, .int x, .int y => some (.int (XT.ushr x y))
  | .ladd, .long x, .long y => some (.long (x + y))
  | .lsub, .long x, .long y => some (.long (x - y))
  | .lmul, .long x, .long y => some (.long (x * y))
  | .land, .long x, .long y => some (.long (x &&& y))
  | .lor, .long x, .long y => some (.long (x ||| y))
  | .lxor, .long x, .long y => some (.long (x ^^^ y))
  | .lshl, .long x, .int y => some (.long (x <<< (y.toInt64 &&& 63)))
  | .lshr, .long x, .int y => some (.long (x >>> (y.toInt64 &&& 63)))
  | .lushr, .long x, .int y => some (.long (XT.ushrL x y))
  | .lcmp, .long x, .long y => some (.int (XT.cmpL x y))
  | .dcmp o, .double x, .double y => some (.int (cmpValue (FP.dcmp x y) o))
  | _, _, _ => none
def un : Instr → Value → Option Value
  | .ineg, .int x => some (.int (-x))
  | .lneg, .long x => some (.long (-x))
  | .dneg, .double x => some (.double (FP.dneg x))
  | .i2l, .int x => some (.long x.toInt64)
  | .l2i, .long x => some (.int x.toInt32)
  | .i2b, .int x => some (.int x.toInt8.toInt32)
  | .i2c, .int x => some (.int x.toUInt32.toUInt16.toUInt32.toInt32)
  | .i2s, .int x => some (.int x.toInt16.toInt32)
  | .i2d, .int x => some (.double (FP.i2d x))
  | .l2d, .long x => some (.double (FP.l2d x))
  | .d2i, .double x => some (.int (FP.d2i x))
  | .d2l, .double x => some (.long (FP.d2l x))
  | _, _ => none
def dbin : Instr → UInt64 → UInt64 → Option UInt64
  | .dadd, x, y => some (FP.dadd x y)
  | .dsub, x, y => some (FP.dsub x y)
  | .dmul, x, y => some (FP.dmul x y)
  | .ddiv, x, y => some (FP.ddiv x y)
  | _, _, _ => none
/-! the pure steps; forceL, forceN: nothing but their argument, laid out before it is handed on -/
def forceL {α β : Type} : List α → (List α → β) → β
  | [], k => k []
  | a :: r, k => forceL r fun r' => k (a :: r')
def forceN {β : Type} (n : Nat) (k : Nat → β) : β :=
  match n with
  | 0 => k 0
  | n + 1 => k (n + 1)
theorem forceL_eq {α β : Type} (L : List α) (k : List α → β) : forceL L k = k L := by
  induction L generalizing k with
  | nil => rfl
  | cons a r ih => unfold forceL; rw [ih]
theorem forceN_eq {β : Type} (n : Nat) (k : Nat → β) : forceN n k = k n := by cases n <;> rfl
def pC (i : Instr) (o : Orc) (pc : Nat) (L : List Slot) (S : List Value) : Option PR :=
  match cst i with
  | some v => some ([], o, pc + ilen i, L, v :: S)
  | none => none
def pL (i : Instr) (o : Orc) (pc : Nat) (L : List Slot) (S : List Value) : Option PR :=
  match L[ldi i]? with
  | some (.val v) => if ldok i v then some ([], o, pc + ilen i, L, v :: S) else none
  | _ => none
def pS (i : Instr) (o : Orc) (pc : Nat) (L : List Slot) (S : List Value) : Option PR :=
  match S with
  | v :: r => if stok i v then (match stL L (sti i) v with
    | some L' => forceL L' fun L' => some ([], o, pc + ilen i, L', r)
    | none => none) else none
  | _ => none
def pB (i : Instr) (o : Orc) (pc : Nat) (L : List Slot) (S : List Value) : Option PR :=
  match S with
  | y :: x :: r => (match bin i x y with
    | some v => some ([], o, pc + 1, L, v :: r)
    | none => none)
  | _ => none
def pU (i : Instr) (o : Orc) (pc : Nat) (L : List Slot) (S : List Value) : Option PR :=
  match S with
  | x :: r => (match un i x with
    | some v => some ([], o, pc + 1, L, v :: r)
    | none => none)
  | _ => none
def pD (i : Instr) (o : Orc) (pc : Nat) (L : List Slot) (S : List Value) : Option PR :=
  match S with
  | .double y :: .double x :: r => (match dbin i x y with
    | some v => (match need o (FP.dIsNaN v = false) with
      | some cs => some (cs, o, pc + 1, L, .double v :: r)
      | none => none)
    | none => none)
  | _ => none
def pZ (i : Instr) (o : Orc) (pc : Nat) (L : List Slot) (S : List Value) : Option PR :=
  match i, S with
  | .idiv, .int y :: .int x :: r => (match need o (y ≠ 0) with
    | some cs => some (cs, o, pc + 1, L, .int (x / y) :: r)
    | none => none)
  | .irem, .int y :: .int x :: r => (match need o (y ≠ 0) with
    | some cs => some (cs, o, pc + 1, L, .int (x % y) :: r)
    | none => none)
  | .ldiv, .long y :: .long x :: r => (match need o (y ≠ 0) with
    | some cs => some (cs, o, pc + 1, L, .long (x / y) :: r)
    | none => none)
  | .lrem, .long y :: .long x :: r => (match need o (y ≠ 0) with
    | some cs => some (cs, o, pc + 1, L, .long (x - (x / y) * y) :: r)
    | none => none)
  | _, _ => none
def pT (i : Instr) (o : Orc) (pc : Nat) (L : List Slot) (S : List Value) : Option PR :=
  match i, S with
  | .dup, x :: r => if x.category = 1 then some ([], o, pc + 1, L, x :: x :: r) else none
  | .pop, x :: r => if x.category = 1 then some ([], o, pc + 1, L, r) else none
  | .dup2, .long x :: r => some ([], o, pc + 1, L, .long x :: .long x :: r)
  | .dup2, .double x :: r => some ([], o, pc + 1, L, .double x :: .double x :: r)
  | .dup2, x :: y :: r => if x.category = 1 ∧ y.category = 1 then some ([], o, pc + 1, L, x :: y :: x :: y :: r) else none
  | .pop2, x :: r => if x.category = 2 then some ([], o, pc + 1, L, r) else none
  | .dup_x1, x :: y :: r => if x.category = 1 ∧ y.category = 1 then some ([], o, pc + 1, L, x :: y :: x :: r) else none
  | .dup_x2, x :: y :: z :: r => if x.category = 1 ∧ y.category = 1 ∧ z.category = 1 then some ([], o, pc + 1, L, x :: y :: z :: x :: r) else none
  | _, _ => none
def pI (o : Orc) (pc : Nat) (L : List Slot) (S : List Value) (k : Nat) (cst : Int) : Option PR :=
  match L[k]? with
  | some (.val (.int x)) => (match stL L k (.int (x + Int32.ofInt cst)) with
    | some L' => forceL L' fun L' => some ([], o, pc + 3, L', S)
    | none => none)
  | _ => none
/-- to there, if the offset allows it -/
def jmp (cs : List Prop) (o : Orc) (pc : Nat) (L : List Slot) (r : List Value) (off : Int) : Option PR :=
  if 0 ≤ (pc : Int) + off then some (cs, o, ((pc : Int) + off).toNat, L, r) else none
def pJ (o : Orc) (pc : Nat) (L : List Slot) (r : List Value) (b : Bool) (off : Int) : Option PR :=
  match ask o b with
  | some (true, o', cs) => jmp cs o' pc L r off
  | some (false, o', cs) => some (cs, o', pc + 3, L, r)
  | none => none
def pG (i : Instr) (o : Orc) (pc : Nat) (L : List Slot) (S : List Value) : Option PR :=
  match i, S with
  | .goto off, S => jmp [] o pc L S off
  | .ifCond c off, .int x :: r => pJ o pc L r (ifCond.holds c x) off
  | .if_icmp c off, .int y :: .int x :: r => pJ o pc L r (if_icmp.holds c x y) off
  | .ifnull off, .null :: r => jmp [] o pc L r off
  | .ifnull off, .ref _ :: r => some ([], o, pc + 3, L, r)
  | .ifnonnull off, .ref _ :: r => jmp [] o pc L r off
  | .ifnonnull off, .null :: r => some ([], o, pc + 3, L, r)
  | _, _ => none
def pstep (i : Instr) (o : Orc) (pc : Nat) (L : List Slot) (S : List Value) : Option PR :=
  match i with
  | .iconst _ | .bipush _ | .sipush _ | .lconst _ | .dconst _ | .aconst_null => pC i o pc L S
  | .iload _ | .lload _ | .dload _ | .aload _ | .iload_n _ | .lload_n _ | .dload_n _ | .aload_n _ => pL i o pc L S
  | .istore _ | .lstore _ | .dstore _ | .astore _ | .istore_n _ | .lstore_n _ | .dstore_n _ | .astore_n _ => pS i o pc L S
  | .iinc k cst => pI o pc L S k cst
  | .iadd | .isub | .imul | .iand | .ior | .ixor | .ishl | .ishr | .iushr | .ladd | .lsub | .lmul | .land | .lor | .lxor | .lshl | .lshr | .lushr | .lcmp | .dcmp _ => pB i o pc L S
  | .ineg | .lneg | .dneg | .i2l | .l2i | .i2b | .i2c | .i2s | .i2d | .l2d | .d2i | .d2l => pU i o pc L S
  | .dadd | .dsub | .dmul | .ddiv => pD i o pc L S
  | .idiv | .irem | .ldiv | .lrem => pZ i o pc L S
  | .dup | .pop | .dup2 | .pop2 | .dup_x1 | .dup_x2 => pT i o pc L S
  | .goto _ | .ifCond _ _ | .if_icmp _ _ | .ifnull _ | .ifnonnull _ => pG i o pc L S
  | _ => none
/-- which of them -/
def psort (i : Instr) : Nat :=
  match i with
  | .iconst _ | .bipush _ | .sipush _ | .lconst _ | .dconst _ | .aconst_null => 0
  | .iload _ | .lload _ | .dload _ | .aload _ | .iload_n _ | .lload_n _ | .dload_n _ | .aload_n _ => 1
  | .istore _ | .lstore _ | .dstore _ | .astore _ | .istore_n _ | .lstore_n _ | .dstore_n _ | .astore_n _ => 2
  | .iadd | .isub | .imul | .iand | .ior | .ixor | .ishl | .ishr | .iushr | .ladd | .lsub | .lmul | .land | .lor | .lxor | .lshl | .lshr | .lushr | .lcmp | .dcmp _ => 3
  | .ineg | .lneg | .dneg | .i2l | .l2i | .i2b | .i2c | .i2s | .i2d | .l2d | .d2i | .d2l => 4
  | .dadd | .dsub | .dmul | .ddiv => 5
  | .idiv | .irem | .ldiv | .lrem => 6
  | .dup | .pop | .dup2 | .pop2 | .dup_x1 | .dup_x2 => 7
  | .goto _ | .ifCond _ _ | .if_icmp _ _ | .ifnull _ | .ifnonnull _ => 8
  | .iinc _ _ => 9
  | _ => 10
theorem pstep_sort {i : Instr} {o : Orc} {pc : Nat} {L : List Slot} {S : List Value} {r : PR} (h : pstep i o pc L S = some r) :
    (pC i o pc L S = some r) ∨ (pL i o pc L S = some r) ∨ (pS i o pc L S = some r) ∨ ((∃ k c, i = .iinc k c ∧ pI o pc L S k c = some r)) ∨ (ilen i = 1 ∧ pB i o pc L S = some r) ∨ (ilen i = 1 ∧ pU i o pc L S = some r) ∨ (ilen i = 1 ∧ pD i o pc L S = some r) ∨ (ilen i = 1 ∧ pZ i o pc L S = some r) ∨ (ilen i = 1 ∧ pT i o pc L S = some r) ∨ (ilen i = 3 ∧ pG i o pc L S = some r) := by
  cases i <;> first
    | (cases h; done)
    | exact Or.inl h
    | exact Or.inr (Or.inl h)
    | exact Or.inr (Or.inr (Or.inl h))
    | exact Or.inr (Or.inr (Or.inr (Or.inl ⟨_, _, rfl, h⟩)))
    | exact Or.inr (Or.inr (Or.inr (Or.inr (Or.inl ⟨rfl, h⟩))))
    | exact Or.inr (Or.inr (Or.inr (Or.inr (Or.inr (Or.inl ⟨rfl, h⟩)))))
    | exact Or.inr (Or.inr (Or.inr (Or.inr (Or.inr (Or.inr (Or.inl ⟨rfl, h⟩))))))
    | exact Or.inr (Or.inr (Or.inr (Or.inr (Or.inr (Or.inr (Or.inr (Or.inl ⟨rfl, h⟩)))))))
    | exact Or.inr (Or.inr (Or.inr (Or.inr (Or.inr (Or.inr (Or.inr (Or.inr (Or.inl ⟨rfl, h⟩))))))))
    | exact Or.inr (Or.inr (Or.inr (Or.inr (Or.inr (Or.inr (Or.inr (Or.inr (Or.inr ⟨rfl, h⟩))))))))
section Pure
variable {tb : Tables} [Ours tb] {e : Env} {below : List Frame} {T target : State} {m : MethodId} {c : Code}
theorem bin_ok (h : At T m c below) (hx : tb.exec = Jvm.exec) {i : Instr} {x y v : Value} (hb : bin i x y = some v) {pc : Nat} {Ls : Array Slot} {rest : List Value} (hd : decode c.code pc = .ok (i, 1))
    (hr : Steps tb e below (T.setTop (mkF m (pc + 1) Ls (v :: rest))) target) : Steps tb e below (T.setTop (mkF m pc Ls (y :: x :: rest))) target := by
  unfold bin at hb
  split at hb
  · cases hb; exact XS.iadd h hx rfl hd rfl hr
  · cases hb; exact XS.isub h hx rfl hd rfl hr
  · cases hb; exact XS.imul h hx rfl hd rfl hr
  · cases hb; exact XS.iand h hx rfl hd rfl hr
  · cases hb; exact XT.ior h hx rfl hd rfl hr
  · cases hb; exact XT.ixor h hx rfl hd rfl hr
  · cases hb; exact XT.ishl h hx rfl hd rfl hr
  · cases hb; exact XT.ishr h hx rfl hd rfl hr
  · cases hb; exact XT.iushr h hx rfl hd rfl hr
  · cases hb; exact XT.ladd h hx rfl hd rfl hr
  · cases hb; exact XT.lsub h hx rfl hd rfl hr
  · cases hb; exact XT.lmul h hx rfl hd rfl hr
  · cases hb; exact XT.land h hx rfl hd rfl hr
  · cases hb; exact XT.lor h hx rfl hd rfl hr
  · cases hb; exact XT.lxor h hx rfl hd rfl hr
  · cases hb; exact XT.lshl h hx rfl hd rfl hr
  · cases hb; exact XT.lshr h hx rfl hd rfl hr
  · cases hb; exact XT.lushr h hx rfl hd rfl hr
  · cases hb; exact XT.lcmp h hx rfl hd rfl hr
  · cases hb; exact XS.dcmpS h hx rfl hd rfl rfl hr
  · cases hb
theorem bin_plain {i : Instr} {x y v : Value} (hb : bin i x y = some v) (g : Nat → Addr) : gv g x = x ∧ gv g y = y ∧ gv g v = v := by
  unfold bin at hb
  split at hb <;> first | (cases hb; exact ⟨rfl, rfl, rfl⟩) | cases hb
theorem un_ok (h : At T m c below) (hx : tb.exec = Jvm.exec) {i : Instr} {x v : Value} (hb : un i x = some v) {pc : Nat} {Ls : Array Slot} {rest : List Value} (hd : decode c.code pc = .ok (i, 1))
    (hr : Steps tb e below (T.setTop (mkF m (pc + 1) Ls (v :: rest))) target) : Steps tb e below (T.setTop (mkF m pc Ls (x :: rest))) target := by
  unfold un at hb
  split at hb
  · cases hb; exact XS.ineg h hx rfl hd rfl hr
  · cases hb; exact XT.lneg h hx rfl hd rfl hr
  · cases hb; exact XS.dnegS h hx rfl hd rfl rfl hr
  · cases hb; exact XT.i2l h hx rfl hd rfl hr
  · cases hb; exact XT.l2i h hx rfl hd rfl hr
  · cases hb; exact XT.i2b h hx rfl hd rfl hr
  · cases hb; exact XT.i2c h hx rfl hd rfl hr
  · cases hb; exact XT.i2s h hx rfl hd rfl hr
  · cases hb; exact XS.i2dS h hx rfl hd rfl rfl hr
  · cases hb; exact XS.l2dS h hx rfl hd rfl rfl hr
  · cases hb; exact XS.d2iS h hx rfl hd rfl rfl hr
  · cases hb; exact XS.d2lS h hx rfl hd rfl rfl hr
  · cases hb
theorem un_plain {i : Instr} {x v : Value} (hb : un i x = some v) (g : Nat → Addr) : gv g x = x ∧ gv g v = v := by
  unfold un at hb
  split at hb <;> first | (cases hb; exact ⟨rfl, rfl⟩) | cases hb
theorem dbin_ok (h : At T m c below) (hx : tb.exec = Jvm.exec) {i : Instr} {x y v : UInt64} (hb : dbin i x y = some v) (hn : FP.dIsNaN v = false) {pc : Nat} {Ls : Array Slot} {rest : List Value} (hd : decode c.code pc = .ok (i, 1))
    (hr : Steps tb e below (T.setTop (mkF m (pc + 1) Ls (.double v :: rest))) target) : Steps tb e below (T.setTop (mkF m pc Ls (.double y :: .double x :: rest))) target := by
  unfold dbin at hb
  have hn' := Jvm.Free.Fl.noNaN64_no.mpr hn
  split at hb
  · cases hb; exact XS.daddS h hx rfl hd rfl hn' rfl hr
  · cases hb; exact XS.dsubS h hx rfl hd rfl hn' rfl hr
  · cases hb; exact XS.dmulS h hx rfl hd rfl hn' rfl hr
  · cases hb; exact XS.ddivS h hx rfl hd rfl hn' rfl hr
  · cases hb
theorem cst_ok (h : At T m c below) (hx : tb.exec = Jvm.exec) {i : Instr} {v : Value} (hb : cst i = some v) {pc : Nat} {Ls : Array Slot} {st : List Value} (hd : decode c.code pc = .ok (i, ilen i))
    (hr : Steps tb e below (T.setTop (mkF m (pc + ilen i) Ls (v :: st))) target) : Steps tb e below (T.setTop (mkF m pc Ls st)) target := by
  unfold cst at hb
  split at hb
  · cases hb; exact XS.iconst h hx rfl hd hr
  · cases hb; exact XS.bipush h hx rfl hd hr
  · cases hb; exact XS.sipush h hx rfl hd hr
  · cases hb; exact XT.lconst h hx rfl hd hr
  · cases hb; exact XT.lconst h hx rfl hd hr
  · cases hb; exact XS.dconst0 h hx rfl hd rfl hr
  · cases hb; exact XS.dconst1 h hx rfl hd rfl hr
  · cases hb; exact XS.aconstNull h hx rfl hd hr
  · cases hb
theorem cst_plain {i : Instr} {v : Value} (hb : cst i = some v) (g : Nat → Addr) : gv g v = v := by
  unfold cst at hb
  split at hb <;> first | (cases hb; rfl) | cases hb
theorem ld_ok (h : At T m c below) (hx : tb.exec = Jvm.exec) (g : Nat → Addr) {i : Instr} {v : Value} {L : List Slot} (hl : L[ldi i]? = some (.val v)) (ho : ldok i v = true) {pc : Nat} {st : List Value} (hd : decode c.code pc = .ok (i, ilen i))
    (hr : Steps tb e below (T.setTop (mkF m (pc + ilen i) (gL g L) (gv g v :: st))) target) : Steps tb e below (T.setTop (mkF m pc (gL g L) st)) target := by
  have hl' := gL_get (g := g) hl
  unfold ldok at ho
  split at ho
  · exact XS.iload h hx rfl hd hl' hr
  · exact XS.iloadN h hx rfl hd hl' hr
  · exact XT.lload h hx rfl hd hl' hr
  · exact XT.lloadN h hx rfl hd hl' hr
  · exact XS.dload h hx rfl hd hl' hr
  · exact XS.dloadN h hx rfl hd hl' hr
  · exact XS.aload h hx rfl hd hl' rfl hr
  · exact XS.aload h hx rfl hd hl' rfl hr
  · exact XS.aloadN h hx rfl hd hl' rfl hr
  · exact XS.aloadN h hx rfl hd hl' rfl hr
  · cases ho
theorem st_ok (h : At T m c below) (hx : tb.exec = Jvm.exec) (g : Nat → Addr) {i : Instr} {v : Value} {L L' : List Slot} (hl : stL L (sti i) v = some L') (ho : stok i v = true) {pc : Nat} {st : List Value} (hd : decode c.code pc = .ok (i, ilen i))
    (hr : Steps tb e below (T.setTop (mkF m (pc + ilen i) (gL g L') st)) target) : Steps tb e below (T.setTop (mkF m pc (gL g L) (gv g v :: st))) target := by
  have hl' := stL_ok (g := g) hl
  unfold stok at ho
  split at ho
  · exact XS.istore h hx rfl hd rfl hl' hr
  · exact XS.istoreN h hx rfl hd rfl hl' hr
  · exact XT.lstore h hx rfl hd rfl hl' hr
  · exact XT.lstoreN h hx rfl hd rfl hl' hr
  · exact XS.dstore h hx rfl hd rfl hl' hr
  · exact XS.dstoreN h hx rfl hd rfl hl' hr
  · exact XS.astore h hx rfl hd rfl rfl hl' hr
  · exact XS.astore h hx rfl hd rfl rfl hl' hr
  · exact XS.astoreN h hx rfl hd rfl rfl hl' hr
  · exact XS.astoreN h hx rfl hd rfl rfl hl' hr
  · cases ho
theorem dup2D (h : At T m c below) (hx : tb.exec = Jvm.exec) {pc : Nat} {Ls : Array Slot} {x : UInt64} {rest : List Value} (hd : decode c.code pc = .ok (.dup2, 1))
    (hr : Steps tb e below (T.setTop (mkF m (pc + 1) Ls (.double x :: .double x :: rest))) target) : Steps tb e below (T.setTop (mkF m pc Ls (.double x :: rest))) target := by
  jvm_step h [h.top, hx, hd, Value.category]
  exact hr
theorem pop2C (h : At T m c below) (hx : tb.exec = Jvm.exec) {pc : Nat} {Ls : Array Slot} {x : Value} {rest : List Value} (hd : decode c.code pc = .ok (.pop2, 1)) (hc : x.category = 2)
    (hr : Steps tb e below (T.setTop (mkF m (pc + 1) Ls rest)) target) : Steps tb e below (T.setTop (mkF m pc Ls (x :: rest))) target := by
  jvm_step h [h.top, hx, hd, hc]
  exact hr
theorem dupX2C (h : At T m c below) (hx : tb.exec = Jvm.exec) {pc : Nat} {Ls : Array Slot} {x y z : Value} {rest : List Value} (hd : decode c.code pc = .ok (.dup_x2, 1)) (hc : x.category = 1) (hc' : y.category = 1) (hc'' : z.category = 1)
    (hr : Steps tb e below (T.setTop (mkF m (pc + 1) Ls (x :: y :: z :: x :: rest))) target) : Steps tb e below (T.setTop (mkF m pc Ls (x :: y :: z :: rest))) target := by
  jvm_step h [h.top, hx, hd, hc, hc', hc'']
  exact hr
theorem irem_mod (x y : Int32) : x - x / y * y = x % y := irem_eq_mod x y
theorem jmp_ok (h : At T m c below) {g : Nat → Addr} {cs cs' : List Prop} {o o' : Orc} {pc pc' : Nat} {L L' : List Slot} {r S' : List Value} {off : Int} (hp : jmp cs o pc L r off = some (cs', o', pc', L', S')) : cs' = cs ∧ o' = o ∧ 0 ≤ (pc : Int) + off ∧ ((pc : Int) + off).toNat = pc' ∧ L' = L ∧ S' = r := by
  unfold jmp at hp
  split at hp
  · rename_i q; cases hp; exact ⟨rfl, rfl, q, rfl, rfl, rfl⟩
  · cases hp
theorem pJ_ok (h : At T m c below) {g : Nat → Addr} {cs : List Prop} {o o' : Orc} {pc pc' : Nat} {L L' : List Slot} {r S' : List Value} {b : Bool} {off : Int} (hp : pJ o pc L r b off = some (cs, o', pc', L', S')) (hc : ∀ P ∈ cs, P) : L' = L ∧ S' = r ∧ ((b = true ∧ 0 ≤ (pc : Int) + off ∧ ((pc : Int) + off).toNat = pc') ∨ (b = false ∧ pc' = pc + 3)) := by
  unfold pJ at hp
  split at hp
  · rename_i ha
    obtain ⟨rfl, rfl, h3, h4, rfl, rfl⟩ := jmp_ok (g := g) h hp
    exact ⟨rfl, rfl, Or.inl ⟨ask_ok ha hc, h3, h4⟩⟩
  · rename_i ha
    cases hp
    exact ⟨rfl, rfl, Or.inr ⟨ask_ok ha hc, rfl⟩⟩
  · cases hp
theorem pstep_ok (h : At T m c below) (hx : tb.exec = Jvm.exec) (g : Nat → Addr) {i : Instr} {o o' : Orc} {pc pc' : Nat} {L L' : List Slot} {S S' : List Value} {cs : List Prop}
    (hp : pstep i o pc L S = some (cs, o', pc', L', S')) (hd : decode c.code pc = .ok (i, ilen i)) (hc : ∀ P ∈ cs, P)
    (hr : Steps tb e below (T.setTop (mkF m pc' (gL g L') (gS g S'))) target) : Steps tb e below (T.setTop (mkF m pc (gL g L) (gS g S))) target := by
  rcases pstep_sort hp with hp | hp | hp | ⟨k, cc, rfl, hq⟩ | ⟨hl, hp⟩ | ⟨hl, hp⟩ | ⟨hl, hp⟩ | ⟨hl, hp⟩ | ⟨hl, hp⟩ | ⟨hl, hp⟩
  · unfold pC at hp
    split at hp
    · rename_i v hv
      cases hp
      refine cst_ok h hx hv hd ?_
      have := cst_plain hv g
      simpa [gS, this] using hr
    · cases hp
  · unfold pL at hp
    split at hp
    · rename_i v hv
      split at hp
      · rename_i ho
        cases hp
        exact ld_ok h hx g hv ho hd hr
      · cases hp
    · cases hp
  · unfold pS at hp
    split at hp
    · split at hp
      · rename_i ho
        split at hp
        · rename_i L1 hl
          rw [forceL_eq] at hp
          cases hp
          exact st_ok h hx g hl ho hd hr
        · cases hp
      · cases hp
    · cases hp
  · clear hp
    unfold pI at hq
    split at hq
    · rename_i x hl
      split at hq
      · rename_i L1 hs
        rw [forceL_eq] at hq
        cases hq
        exact XS.iinc h hx rfl hd (gL_get (g := g) hl) (stL_ok (g := g) hs) hr
      · cases hq
    · cases hq
  · rw [hl] at hd
    unfold pB at hp
    split at hp
    · split at hp
      · rename_i v hv
        cases hp
        obtain ⟨e1, e2, e3⟩ := bin_plain hv g
        simp only [gS, List.map_cons, e1, e2, e3] at hr ⊢
        exact bin_ok h hx hv hd hr
      · cases hp
    · cases hp
  · rw [hl] at hd
    unfold pU at hp
    split at hp
    · split at hp
      · rename_i v hv
        cases hp
        obtain ⟨e1, e3⟩ := un_plain hv g
        simp only [gS, List.map_cons, e1, e3] at hr ⊢
        exact un_ok h hx hv hd hr
      · cases hp
    · cases hp
  · rw [hl] at hd
    unfold pD at hp
    split at hp
    · split at hp
      · rename_i v hv
        split at hp
        · rename_i cs1 hn
          cases hp
          exact dbin_ok h hx hv (need_ok hn hc) hd hr
        · cases hp
      · cases hp
    · cases hp
  · rw [hl] at hd
    unfold pZ at hp
    split at hp
    · split at hp
      · rename_i hn
        cases hp
        exact XS.idiv h hx rfl hd rfl (need_ok hn hc) hr
      · cases hp
    · split at hp
      · rename_i hn
        cases hp
        refine XS.irem h hx rfl hd rfl (need_ok hn hc) ?_
        rw [irem_mod]; exact hr
      · cases hp
    · split at hp
      · rename_i hn
        cases hp
        exact XT.ldiv h hx rfl hd rfl (need_ok hn hc) hr
      · cases hp
    · split at hp
      · rename_i hn
        cases hp
        exact XT.lrem h hx rfl hd rfl (need_ok hn hc) hr
      · cases hp
    · cases hp
  · rw [hl] at hd
    unfold pT at hp
    split at hp
    · split at hp
      · rename_i hk
        cases hp
        exact XS.dup h hx rfl hd rfl (by rw [gv_cat]; exact hk) hr
      · cases hp
    · split at hp
      · rename_i hk
        cases hp
        exact XT.pop h hx rfl hd rfl (by rw [gv_cat]; exact hk) hr
      · cases hp
    · cases hp; exact XT.dup2L h hx rfl hd rfl hr
    · cases hp; exact dup2D h hx hd hr
    · split at hp
      · rename_i hk
        cases hp
        exact XT.dup2 h hx rfl hd rfl (by rw [gv_cat]; exact hk.1) (by rw [gv_cat]; exact hk.2) hr
      · cases hp
    · split at hp
      · rename_i hk
        cases hp
        exact pop2C h hx hd (by rw [gv_cat]; exact hk) hr
      · cases hp
    · split at hp
      · rename_i hk
        cases hp
        exact XT.dupX1 h hx rfl hd rfl (by rw [gv_cat]; exact hk.1) (by rw [gv_cat]; exact hk.2) hr
      · cases hp
    · split at hp
      · rename_i hk
        cases hp
        exact dupX2C h hx hd (by rw [gv_cat]; exact hk.1) (by rw [gv_cat]; exact hk.2.1) (by rw [gv_cat]; exact hk.2.2) hr
      · cases hp
    · cases hp
  · rw [hl] at hd
    unfold pG at hp
    split at hp
    · obtain ⟨rfl, rfl, h3, h4, rfl, rfl⟩ := jmp_ok (g := g) h hp
      exact XS.goto h hx rfl rfl hd h3 h4 hr
    · obtain ⟨rfl, rfl, ⟨h1, h2, h3⟩ | ⟨h1, rfl⟩⟩ := pJ_ok (g := g) h hp hc
      · exact XS.ifYes h hx rfl rfl hd rfl h1 h2 h3 hr
      · exact XS.ifNo h hx rfl hd rfl h1 hr
    · obtain ⟨rfl, rfl, ⟨h1, h2, h3⟩ | ⟨h1, rfl⟩⟩ := pJ_ok (g := g) h hp hc
      · exact XS.icmpYes h hx rfl rfl hd rfl h1 h2 h3 hr
      · exact XS.icmpNo h hx rfl hd rfl h1 hr
    · obtain ⟨rfl, rfl, h3, h4, rfl, rfl⟩ := jmp_ok (g := g) h hp
      exact XS.ifnullYes h hx rfl rfl hd rfl h3 h4 hr
    · cases hp
      exact XS.ifnullNo h hx rfl hd rfl hr
    · obtain ⟨rfl, rfl, h3, h4, rfl, rfl⟩ := jmp_ok (g := g) h hp
      exact XT.ifnonnullYes h hx rfl rfl hd rfl h3 h4 hr
    · cases hp
      exact XT.ifnonnullNo h hx rfl hd rfl hr
    · cases hp
end Pure
/-! well-formed: every object named lies in the list -/
def wv (n : Nat) : Value → Prop
  | .ref i => i < n
  | _ => True
def wsl (n : Nat) : Slot → Prop
  | .val v => wv n v
  | _ => True
abbrev wL (n : Nat) (L : List Slot) : Prop := ∀ s ∈ L, wsl n s
abbrev wS (n : Nat) (S : List Value) : Prop := ∀ v ∈ S, wv n v
theorem wv_mono {n n' : Nat} (h : n ≤ n') {v : Value} (w : wv n v) : wv n' v := by
  cases v <;> first | exact trivial | exact Nat.lt_of_lt_of_le w h
theorem wsl_mono {n n' : Nat} (h : n ≤ n') {v : Slot} (w : wsl n v) : wsl n' v := by
  cases v <;> first | exact trivial | exact wv_mono h w
theorem gv_cong {g g' : Nat → Addr} {n : Nat} (h : ∀ i, i < n → g' i = g i) {v : Value} (w : wv n v) : gv g' v = gv g v := by
  cases v <;> first | rfl | exact congrArg Value.ref (h _ w)
theorem gS_cong {g g' : Nat → Addr} {n : Nat} (h : ∀ i, i < n → g' i = g i) {S : List Value} (w : wS n S) : gS g' S = gS g S := by
  refine List.map_congr_left fun v hv => gv_cong h (w v hv)
theorem gs_cong {g g' : Nat → Addr} {n : Nat} (h : ∀ i, i < n → g' i = g i) {v : Slot} (w : wsl n v) : gs g' v = gs g v := by
  cases v <;> first | rfl | exact congrArg Slot.val (gv_cong h w)
theorem gL_cong {g g' : Nat → Addr} {n : Nat} (h : ∀ i, i < n → g' i = g i) {L : List Slot} (w : wL n L) : gL g' L = gL g L := by
  unfold gL
  rw [List.map_congr_left fun v hv => gs_cong h (w v hv)]
theorem setL_wf {n : Nat} {L L' : List Slot} {i : Nat} {x : Slot} (h : setL L i x = some L') (w : wL n L) (wx : wsl n x) : wL n L' := by
  unfold setL at h; split at h
  · cases h
    intro s hs
    rcases List.mem_or_eq_of_mem_set hs with q | q
    · exact w s q
    · subst q; exact wx
  · cases h
theorem stSelf_wf {n : Nat} {L L' : List Slot} {i : Nat} {v : Value} (h : stSelf L i v = some L') (w : wL n L) (wx : wv n v) : wL n L' := by
  unfold stSelf at h
  obtain ⟨L1, h1, h2⟩ := Option.bind_eq_some_iff.mp h
  have e1 : wL n L1 := setL_wf h1 w wx
  split at h2
  · split at h2
    · cases h2
    · split at h2
      · obtain ⟨L2, a1, a2⟩ := Option.bind_eq_some_iff.mp h2
        exact setL_wf a2 (setL_wf a1 e1 trivial) trivial
      · exact setL_wf h2 e1 trivial
    · exact setL_wf h2 e1 trivial
  · cases h2; exact e1
theorem stL_wf {n : Nat} {L L' : List Slot} {i : Nat} {v : Value} (h : stL L i v = some L') (w : wL n L) (wx : wv n v) : wL n L' := by
  unfold stL at h
  split at h
  · cases h
  · obtain ⟨L1, a1, a2⟩ := Option.bind_eq_some_iff.mp h
    exact stSelf_wf a2 (setL_wf a1 w trivial) wx
  · split at h
    · obtain ⟨L1, a1, a2⟩ := Option.bind_eq_some_iff.mp h
      exact stSelf_wf a2 (setL_wf a1 w trivial) wx
    · exact stSelf_wf h w wx
  · exact stSelf_wf h w wx
theorem cst_wf {n : Nat} {i : Instr} {v : Value} (hb : cst i = some v) : wv n v := by
  unfold cst at hb
  split at hb <;> first | (cases hb; exact trivial) | cases hb
theorem bin_wf {n : Nat} {i : Instr} {x y v : Value} (hb : bin i x y = some v) : wv n v := by
  unfold bin at hb
  split at hb <;> first | (cases hb; exact trivial) | cases hb
theorem un_wf {n : Nat} {i : Instr} {x v : Value} (hb : un i x = some v) : wv n v := by
  unfold un at hb
  split at hb <;> first | (cases hb; exact trivial) | cases hb
theorem wS_cons {n : Nat} {v : Value} {S : List Value} : wS n (v :: S) ↔ wv n v ∧ wS n S := by
  constructor
  · exact fun h => ⟨h v (List.mem_cons_self ..), fun x hx => h x (List.mem_cons_of_mem _ hx)⟩
  · rintro ⟨h1, h2⟩ x hx
    rcases List.mem_cons.mp hx with q | q
    · subst q; exact h1
    · exact h2 x q
theorem wL_get {n : Nat} {L : List Slot} (w : wL n L) {k : Nat} {v : Value} (h : L[k]? = some (.val v)) : wv n v := w (.val v) (List.mem_of_getElem? h)
theorem pstep_wf {n : Nat} {i : Instr} {o o' : Orc} {pc pc' : Nat} {L L' : List Slot} {S S' : List Value} {cs : List Prop}
    (hp : pstep i o pc L S = some (cs, o', pc', L', S')) (w1 : wL n L) (w2 : wS n S) : wL n L' ∧ wS n S' ∧ L'.length = L.length := by
  have jw : ∀ {cs cs' : List Prop} {o o' : Orc} {pc' : Nat} {L' : List Slot} {r S' : List Value} {off : Int}, jmp cs o pc L r off = some (cs', o', pc', L', S') → wS n r → wL n L' ∧ wS n S' ∧ L'.length = L.length := by
    intro cs cs' o o' pc' L' r S' off hp w
    unfold jmp at hp
    split at hp
    · cases hp; exact ⟨w1, w, rfl⟩
    · cases hp
  have Jw : ∀ {b : Bool} {r : List Value} {off : Int}, pJ o pc L r b off = some (cs, o', pc', L', S') → wS n r → wL n L' ∧ wS n S' ∧ L'.length = L.length := by
    intro b r off hp w
    unfold pJ at hp
    split at hp
    · exact jw hp w
    · cases hp; exact ⟨w1, w, rfl⟩
    · cases hp
  rcases pstep_sort hp with hp | hp | hp | ⟨k, cc, rfl, hq⟩ | ⟨hl, hp⟩ | ⟨hl, hp⟩ | ⟨hl, hp⟩ | ⟨hl, hp⟩ | ⟨hl, hp⟩ | ⟨hl, hp⟩
  · unfold pC at hp
    split at hp
    · rename_i v hv
      cases hp
      exact ⟨w1, wS_cons.mpr ⟨cst_wf hv, w2⟩, rfl⟩
    · cases hp
  · unfold pL at hp
    split at hp
    · rename_i v hv
      split at hp
      · cases hp
        exact ⟨w1, wS_cons.mpr ⟨wL_get w1 hv, w2⟩, rfl⟩
      · cases hp
    · cases hp
  · unfold pS at hp
    split at hp
    · have w3 := wS_cons.mp w2
      split at hp
      · split at hp
        · rename_i L1 hl
          rw [forceL_eq] at hp
          cases hp
          exact ⟨stL_wf hl w1 w3.1, w3.2, stL_len hl⟩
        · cases hp
      · cases hp
    · cases hp
  · clear hp
    unfold pI at hq
    split at hq
    · split at hq
      · rename_i L1 hs
        rw [forceL_eq] at hq
        cases hq
        exact ⟨stL_wf hs w1 trivial, w2, stL_len hs⟩
      · cases hq
    · cases hq
  · unfold pB at hp
    split at hp
    · have w3 := wS_cons.mp (wS_cons.mp w2).2
      split at hp
      · rename_i v hv
        cases hp
        exact ⟨w1, wS_cons.mpr ⟨bin_wf hv, w3.2⟩, rfl⟩
      · cases hp
    · cases hp
  · unfold pU at hp
    split at hp
    · have w3 := wS_cons.mp w2
      split at hp
      · rename_i v hv
        cases hp
        exact ⟨w1, wS_cons.mpr ⟨un_wf hv, w3.2⟩, rfl⟩
      · cases hp
    · cases hp
  · unfold pD at hp
    split at hp
    · have w3 := wS_cons.mp (wS_cons.mp w2).2
      split at hp
      · split at hp
        · cases hp
          exact ⟨w1, wS_cons.mpr ⟨trivial, w3.2⟩, rfl⟩
        · cases hp
      · cases hp
    · cases hp
  · unfold pZ at hp
    split at hp
    all_goals first | cases hp; done | skip
    all_goals
      split at hp
      · cases hp; exact ⟨w1, wS_cons.mpr ⟨trivial, (wS_cons.mp (wS_cons.mp w2).2).2⟩, rfl⟩
      · cases hp
  · unfold pT at hp
    split at hp
    · split at hp
      · cases hp; exact ⟨w1, wS_cons.mpr ⟨(wS_cons.mp w2).1, w2⟩, rfl⟩
      · cases hp
    · split at hp
      · cases hp; exact ⟨w1, (wS_cons.mp w2).2, rfl⟩
      · cases hp
    · cases hp; exact ⟨w1, wS_cons.mpr ⟨trivial, w2⟩, rfl⟩
    · cases hp; exact ⟨w1, wS_cons.mpr ⟨trivial, w2⟩, rfl⟩
    · split at hp
      · cases hp
        have w3 := wS_cons.mp w2
        exact ⟨w1, wS_cons.mpr ⟨w3.1, wS_cons.mpr ⟨(wS_cons.mp w3.2).1, w2⟩⟩, rfl⟩
      · cases hp
    · split at hp
      · cases hp; exact ⟨w1, (wS_cons.mp w2).2, rfl⟩
      · cases hp
    · split at hp
      · cases hp
        have w3 := wS_cons.mp w2
        have w4 := wS_cons.mp w3.2
        exact ⟨w1, wS_cons.mpr ⟨w3.1, wS_cons.mpr ⟨w4.1, wS_cons.mpr ⟨w3.1, w4.2⟩⟩⟩, rfl⟩
      · cases hp
    · split at hp
      · cases hp
        have w3 := wS_cons.mp w2
        have w4 := wS_cons.mp w3.2
        have w5 := wS_cons.mp w4.2
        exact ⟨w1, wS_cons.mpr ⟨w3.1, wS_cons.mpr ⟨w4.1, wS_cons.mpr ⟨w5.1, wS_cons.mpr ⟨w3.1, w5.2⟩⟩⟩⟩, rfl⟩
      · cases hp
    · cases hp
  · unfold pG at hp
    split at hp
    · exact jw hp w2
    · exact Jw hp (wS_cons.mp w2).2
    · exact Jw hp (wS_cons.mp (wS_cons.mp w2).2).2
    · exact jw hp (wS_cons.mp w2).2
    · cases hp; exact ⟨w1, (wS_cons.mp w2).2, rfl⟩
    · exact jw hp (wS_cons.mp w2).2
    · cases hp; exact ⟨w1, (wS_cons.mp w2).2, rfl⟩
    · cases hp
/-! the heap: class objects with their fields, arrays with their components -/
abbrev Fd : Type := String × String × String × FieldType
abbrev KTy : Type := Nat → Option (String × List Fd)
def arT : Nat → Option (FieldType × String)
  | 0 => some (.int, "[I")
  | 1 => some (.long, "[J")
  | 2 => some (.double, "[D")
  | 3 => some (.boolean, "[Z")
  | 4 => some (.byte, "[B")
  | _ => none
section Heaps
variable {Z : State} {a0 : Array Value} {kc : KTy} {n0 k0 : Nat} {h h' : Heap} {g g' : Nat → Addr} {A : AH}
def OC (Z : State) (kc : KTy) (h : Heap) (g : Nat → Addr) (a : Addr) (ob : Obj) : Prop :=
  ∀ C fs, kc ob.1 = some (C, fs) → Exa Z h a C ∧ ob.2.length = fs.length ∧ ∀ (j : Nat) (f : Fd) (v : Value), fs[j]? = some f → ob.2[j]? = some v → Fld Z h a f.1 f.2.1 f.2.2.1 (gv g v)
def OA (Z : State) (h : Heap) (g : Nat → Addr) (a : Addr) (ob : Obj) : Prop :=
  ∀ ty nm, arT ob.1 = some (ty, nm) → ∃ c : Cell, Arr Z h a c ty ∧ c.slots.toList = gS g ob.2 ∧ ob.2.length < 2 ^ 31 ∧ Z.vm.findClass nm = some c.cls ∧ c.vm = .none ∧ ∀ v ∈ ob.2, fits ty v = true
def OR (Z : State) (kc : KTy) (h : Heap) (g : Nat → Addr) (a : Addr) (ob : Obj) : Prop := OC Z kc h g a ob ∧ OA Z h g a ob
theorem OR.ext {a : Addr} {ob : Obj} (F : OR Z kc h g a ob) (E : Ext h h') : OR Z kc h' g a ob := by
  refine ⟨fun C fs hk => ?_, fun ty nm hk => ?_⟩
  · obtain ⟨q1, q2, q3⟩ := F.1 C fs hk
    exact ⟨q1.ext E, q2, fun j f v a b => (q3 j f v a b).ext E⟩
  · obtain ⟨c, q1, q2⟩ := F.2 ty nm hk
    exact ⟨c, q1.ext E, q2⟩
theorem OR.cong {a : Addr} {ob : Obj} (F : OR Z kc h g a ob) {n : Nat} (e : ∀ i, i < n → g' i = g i) (w : wS n ob.2) : OR Z kc h g' a ob := by
  refine ⟨fun C fs hk => ?_, fun ty nm hk => ?_⟩
  · obtain ⟨q1, q2, q3⟩ := F.1 C fs hk
    exact ⟨q1, q2, fun j f v a b => by rw [gv_cong e (w v (List.mem_of_getElem? b))]; exact q3 j f v a b⟩
  · obtain ⟨c, q1, q2, q3⟩ := F.2 ty nm hk
    exact ⟨c, q1, by rw [gS_cong e w]; exact q2, q3⟩
theorem OR.other {a b : Addr} {sl : Nat} {v : Value} {ob : Obj} (F : OR Z kc h g b ob) (W : Wr h h' a sl v) (ne : b ≠ a) : OR Z kc h' g b ob := by
  refine ⟨fun C fs hk => ?_, fun ty nm hk => ?_⟩
  · obtain ⟨q1, q2, q3⟩ := F.1 C fs hk
    exact ⟨q1.wr W, q2, fun j f v a b => (q3 j f v a b).other W (Or.inl ne)⟩
  · obtain ⟨c, q1, q2⟩ := F.2 ty nm hk
    exact ⟨c, q1.other W ne, q2⟩
/-- what the kinds' table must be: each field laid in its class, no two of one name -/
def KOk (Z : State) (a0 : Array Value) (kc : KTy) : Prop := ∀ k C fs, kc k = some (C, fs) → arT k = none ∧ (∀ f ∈ fs, Laid Z a0 C f.1 f.2.1 f.2.2.1 ∧ parseFieldDescriptor f.2.2.1 = some f.2.2.2) ∧ ∀ (i j : Nat) (f f' : Fd), fs[i]? = some f → fs[j]? = some f' → i ≠ j → f.2.1 ≠ f'.2.1
theorem OR.put {a : Addr} {k : Nat} {vs : List Value} {C : String} {fs : List Fd} {j : Nat} {f : Fd} {v : Value} (K : KOk Z a0 kc) (hk : kc k = some (C, fs)) (hj : fs[j]? = some f)
    (F : OR Z kc h g a (k, vs)) (W : Wr h h' a (RoadKit.slotOf Z f.1 f.2.1 f.2.2.1) (gv g v)) : OR Z kc h' g a (k, vs.set j v) := by
  obtain ⟨k1, k2, k3⟩ := K k C fs hk
  obtain ⟨q1, q2, q3⟩ := F.1 C fs hk
  refine ⟨fun C' fs' hk' => ?_, fun ty nm hk' => (by rw [k1] at hk'; cases hk')⟩
  cases hk.symm.trans hk'
  refine ⟨q1.wr W, by simpa using q2, fun i f' v' hf hv => ?_⟩
  by_cases e : j = i
  · subst e
    cases hj.symm.trans hf
    have hlt : j < vs.length := by
      have := (List.getElem?_eq_some_iff.mp hj).1
      have q2' : vs.length = fs.length := q2
      omega
    rw [List.getElem?_set_self hlt] at hv
    cases hv
    have hv0 : vs[j]? = some vs[j] := List.getElem?_eq_getElem hlt
    exact (q3 j f _ hj hv0).same W
  · rw [List.getElem?_set_ne e] at hv
    refine (q3 i f' v' hf hv).other W (Or.inr ?_)
    have m1 := k2 f (List.mem_of_getElem? hj)
    have m2 := k2 f' (List.mem_of_getElem? hf)
    exact slot_ne m2.1 m1.1 (k3 i j f' f hf hj (Ne.symm e)) m2.2 m1.2
theorem OR.store {a : Addr} {k : Nat} {vs : List Value} {ty : FieldType} {nm : String} {j : Nat} {v : Value} (hk : arT k = some (ty, nm)) (hkc : kc k = none) (hj : j < vs.length) (hf : fits ty v = true)
    (F : OR Z kc h g a (k, vs)) (W : Wr h h' a j (gv g v)) : OR Z kc h' g a (k, vs.set j v) := by
  refine ⟨fun C fs hk' => (by rw [hkc] at hk'; cases hk'), fun ty' nm' hk' => ?_⟩
  cases hk.symm.trans hk'
  obtain ⟨c, q1, q2, q3, q4, q5, q6⟩ := F.2 ty nm hk
  refine ⟨_, q1.same W, ?_, by simpa using q3, q4, q5, fun x hx => ?_⟩
  · have hs : j < c.slots.size := by
      have := congrArg List.length q2
      simp only [Array.length_toList, gS, List.length_map] at this
      omega
    simp only [Cell.setSlot, Array.toList_setIfInBounds, q2, gS, List.map_set]
  · rcases List.mem_or_eq_of_mem_set hx with q | q
    · exact q6 x q
    · subst q; exact hf
abbrev SL : Type := List ((String × String × String) × Value)
def Rep (Z : State) (kc : KTy) (sl : SL) (n0 k0 : Nat) (h : Heap) (g : Nat → Addr) (A : AH) : Prop :=
  (∀ i, i < A.length → g i < h.size ∧ (k0 ≤ i → n0 ≤ g i)) ∧ (∀ i j, i < A.length → j < A.length → g i = g j → i = j) ∧ (∀ i ob, A[i]? = some ob → OR Z kc h g (g i) ob ∧ wS A.length ob.2) ∧ n0 ≤ h.size ∧ k0 ≤ A.length ∧ ∀ x ∈ sl, Sta Z h x.1.1 x.1.2.1 x.1.2.2 (gv g x.2) ∧ wv k0 x.2
variable {sl : SL}
theorem Rep.ob {i : Nat} {ob : Obj} (Rp : Rep Z kc sl n0 k0 h g A) (hi : A[i]? = some ob) : OR Z kc h g (g i) ob := (Rp.2.2.1 i ob hi).1
theorem Rep.wf {i : Nat} {ob : Obj} (Rp : Rep Z kc sl n0 k0 h g A) (hi : A[i]? = some ob) : wS A.length ob.2 := (Rp.2.2.1 i ob hi).2
theorem Rep.lt {i : Nat} {ob : Obj} (hi : A[i]? = some ob) : i < A.length := (List.getElem?_eq_some_iff.mp hi).1
/-- a new object at the heap's end -/
def gnew (g : Nat → Addr) (n : Nat) (a : Addr) : Nat → Addr := fun i => if i = n then a else g i
theorem gnew_old (g : Nat → Addr) (n : Nat) (a : Addr) : ∀ i, i < n → gnew g n a i = g i := fun i hi => if_neg (by omega)
theorem gnew_new (g : Nat → Addr) (n : Nat) (a : Addr) : gnew g n a n = a := if_pos rfl
theorem Rep.new {ob : Obj} (Rp : Rep Z kc sl n0 k0 h g A) (E : Ext h h') (hlt : h.size < h'.size) (hob : OR Z kc h' (gnew g A.length h.size) h.size ob) (w : wS A.length ob.2) : Rep Z kc sl n0 k0 h' (gnew g A.length h.size) (A ++ [ob]) := by
  obtain ⟨r1, r2, r3, r4, r5, r6⟩ := Rp
  have old := gnew_old g A.length h.size
  refine ⟨fun i hi => ?_, fun i j hi hj e => ?_, fun i x hi => ?_, by omega, by simp; omega, fun x hx => ?_⟩
  · simp only [List.length_append, List.length_cons, List.length_nil] at hi
    by_cases q : i = A.length
    · subst q; rw [gnew_new]; exact ⟨hlt, fun _ => r4⟩
    · rw [old i (by omega)]; exact ⟨Nat.lt_trans (r1 i (by omega)).1 hlt, (r1 i (by omega)).2⟩
  · simp only [List.length_append, List.length_cons, List.length_nil] at hi hj
    by_cases q : i = A.length
    · by_cases q' : j = A.length
      · omega
      · subst q; rw [gnew_new, old j (by omega)] at e; exact absurd e.symm (Nat.ne_of_lt (r1 j (by omega)).1)
    · by_cases q' : j = A.length
      · subst q'; rw [gnew_new, old i (by omega)] at e; exact absurd e (Nat.ne_of_lt (r1 i (by omega)).1)
      · rw [old i (by omega), old j (by omega)] at e; exact r2 i j (by omega) (by omega) e
  · by_cases q : i < A.length
    · rw [List.getElem?_append_left q] at hi
      obtain ⟨o1, o2⟩ := r3 i x hi
      rw [old i q]
      exact ⟨(o1.ext E).cong old o2, fun v hv => wv_mono (by simp) (o2 v hv)⟩
    · rw [List.getElem?_append_right (by omega)] at hi
      have hz : i - A.length = 0 := by
        by_cases z : i - A.length = 0
        · exact z
        · rw [List.getElem?_eq_none (by simp; omega)] at hi; cases hi
      rw [hz] at hi
      cases hi
      have : i = A.length := by omega
      subst this
      rw [gnew_new]
      exact ⟨hob, fun v hv => wv_mono (by simp) (w v hv)⟩
  · obtain ⟨s1, s2⟩ := r6 x hx
    exact ⟨by rw [gv_cong old (wv_mono r5 s2)]; exact s1.ext E, s2⟩
theorem Rep.upd {i : Nat} {ob ob' : Obj} {s : Nat} {v : Value} (Rp : Rep Z kc sl n0 k0 h g A) (hi : A[i]? = some ob) (W : Wr h h' (g i) s v) (hob : OR Z kc h' g (g i) ob') (w : wS A.length ob'.2) : Rep Z kc sl n0 k0 h' g (A.set i ob') := by
  obtain ⟨r1, r2, r3, r4, r5, r6⟩ := Rp
  have hlt := Rep.lt hi
  refine ⟨fun j hj => ?_, fun j j' hj hj' e => ?_, fun j x hj => ?_, by rw [W.size]; exact r4, by simpa using r5, fun x hx => ?_⟩
  · rw [W.size]; exact r1 j (by simpa using hj)
  · exact r2 j j' (by simpa using hj) (by simpa using hj') e
  · rw [List.length_set]
    by_cases e : i = j
    · subst e
      rw [List.getElem?_set_self hlt] at hj
      cases hj
      exact ⟨hob, w⟩
    · rw [List.getElem?_set_ne e] at hj
      obtain ⟨o1, o2⟩ := r3 j x hj
      exact ⟨o1.other W (fun q => e (r2 j i (Rep.lt hj) hlt q).symm), o2⟩
  · obtain ⟨s1, s2⟩ := r6 x hx
    exact ⟨s1.wr W, s2⟩
theorem Rep.exa {i k : Nat} {vs : List Value} {C : String} {fs : List Fd} (Rp : Rep Z kc sl n0 k0 h g A) (hi : A[i]? = some (k, vs)) (hk : kc k = some (C, fs)) : Exa Z h (g i) C := ((Rp.ob hi).1 C fs hk).1
theorem Rep.exaA {i k : Nat} {vs : List Value} {ty : FieldType} {nm : String} (Rp : Rep Z kc sl n0 k0 h g A) (hi : A[i]? = some (k, vs)) (hk : arT k = some (ty, nm)) : Exa Z h (g i) nm := by
  obtain ⟨c, q1, q2, q3, q4, q5, q6⟩ := (Rp.ob hi).2 ty nm hk
  exact exa_arr q1 q4 q5
theorem setIf_self {α : Type} {h : Array α} {i : Nat} {c : α} (e : h[i]? = some c) : h.setIfInBounds i c = h := by
  apply Array.toList_inj.mp
  rw [Array.toList_setIfInBounds]
  have e' : h.toList[i]? = some c := by rw [Array.getElem?_toList]; exact e
  apply List.ext_getElem?
  intro j
  by_cases q : i = j
  · subst q
    rw [List.getElem?_set_self (List.getElem?_eq_some_iff.mp e').1, e']
  · rw [List.getElem?_set_ne q]
theorem setL_self {α : Type} {l : List α} {i : Nat} {c : α} (e : l[i]? = some c) : l.set i c = l := by
  apply List.ext_getElem?
  intro j
  by_cases q : i = j
  · subst q
    rw [List.getElem?_set_self (List.getElem?_eq_some_iff.mp e).1, e]
  · rw [List.getElem?_set_ne q]
/-- a stretch of an array written -/
def setRun : List Value → Nat → List Value → List Value
  | ws, _, [] => ws
  | ws, p, u :: r => setRun (ws.set p u) (p + 1) r
theorem setRun_len (us : List Value) : ∀ (ws : List Value) (p : Nat), (setRun ws p us).length = ws.length := by
  induction us with
  | nil => intro ws p; rfl
  | cons u r ih => intro ws p; show (setRun (ws.set p u) (p + 1) r).length = _; rw [ih]; simp
theorem Rep.run {i k : Nat} {ty : FieldType} {nm : String} (hk : arT k = some (ty, nm)) (hkc : kc k = none) (at_ : Nat) (us : List Value) : ∀ (j : Nat) (ws : List Value) (h : Heap) (A : AH) (cell : Cell), Rep Z kc sl n0 k0 h g A → A[i]? = some (k, ws) → h[g i]? = some cell → (∀ u ∈ us, fits ty u = true) → (∀ u ∈ us, wv A.length u) → at_ + j + us.length ≤ ws.length →
    Rep Z kc sl n0 k0 (h.setIfInBounds (g i) (cell.storePairs at_ ((gS g us).zipIdx j))) g (A.set i (k, setRun ws (at_ + j) us)) := by
  induction us with
  | nil =>
    intro j ws h A cell Rp hi hc _ _ _
    have e1 : h.setIfInBounds (g i) (cell.storePairs at_ ((gS g ([] : List Value)).zipIdx j)) = h := setIf_self hc
    have e2 : A.set i (k, setRun ws (at_ + j) []) = A := setL_self hi
    rw [e1, e2]; exact Rp
  | cons u r ih =>
    intro j ws h A cell Rp hi hc hf hwf hl
    obtain ⟨c0, q1, q2, q3, q4, q5, q6⟩ := (Rp.ob hi).2 ty nm hk
    cases hc.symm.trans q1.1
    have q2 : cell.slots.toList = gS g ws := q2
    have hsz : cell.slots.size = ws.length := by have := congrArg List.length q2; simpa using this
    simp only [List.length_cons] at hl
    have W : Wr h (h.setIfInBounds (g i) (cell.setSlot (at_ + j) (gv g u))) (g i) (at_ + j) (gv g u) := ⟨cell, hc, by rw [q5]; rfl, by omega, rfl⟩
    have Rp1 := Rp.upd hi W ((Rp.ob hi).store hk hkc (j := at_ + j) (v := u) (by omega) (hf u (List.mem_cons_self ..)) W) (fun x hx => by
      rcases List.mem_or_eq_of_mem_set hx with q | q
      · exact Rp.wf hi x q
      · subst q; exact hwf _ (List.mem_cons_self ..))
    have hlt := Rep.lt hi
    have hg : g i < h.size := (Array.getElem?_eq_some_iff.mp hc).1
    have := ih (j + 1) (ws.set (at_ + j) u) _ _ (cell.setSlot (at_ + j) (gv g u)) Rp1 (List.getElem?_set_self hlt) (by rw [Array.getElem?_setIfInBounds_self_of_lt hg]) (fun x hx => hf x (List.mem_cons_of_mem _ hx)) (fun x hx => by rw [List.length_set]; exact hwf x (List.mem_cons_of_mem _ hx)) (by rw [List.length_set]; omega)
    rw [Array.setIfInBounds_setIfInBounds, List.set_set] at this
    exact this
end Heaps
/-! the steps that read the tables or the heap -/
abbrev HR : Type := List Prop × Orc × Nat × List Slot × List Value × AH × Nat × Nat × Nat × Nat
abbrev csum (S : List Value) : Nat := (S.map fun v => v.category).sum
def fitT (o : Orc) : Nat → Value → Option (List Prop)
  | 0, .int _ => some []
  | 1, .long _ => some []
  | 2, .double _ => some []
  | 3, .ref _ => some []
  | 3, .null => some []
  | 4, .int x => need o (x = 0 ∨ x = 1)
  | _, _ => none
def tOk : Nat → FieldType → Bool
  | 0, .int => true
  | 1, .long => true
  | 2, .double => true
  | 3, .object _ => true
  | 3, .array _ => true
  | 4, .boolean => true
  | 4, .byte => true
  | _, _ => false
theorem fitT_ok {o : Orc} {t : Nat} {v : Value} {cs : List Prop} {ty : FieldType} (h : fitT o t v = some cs) (hc : ∀ P ∈ cs, P) (ht : tOk t ty = true) (g : Nat → Addr) : narrow ty (gv g v) = gv g v ∧ fits ty (gv g v) = true := by
  unfold fitT at h
  split at h
  case h_7 => cases h
  case h_6 x =>
    have q := need_ok h hc
    unfold tOk at ht
    split at ht <;> first | contradiction | (rcases q with rfl | rfl <;> exact ⟨rfl, rfl⟩)
  all_goals
    cases h
    unfold tOk at ht
    split at ht <;> first | contradiction | exact ⟨rfl, rfl⟩
def dvK : Nat → Value
  | 0 => .int 0
  | 1 => .long 0
  | 2 => .double 0
  | 3 => .int 0
  | 4 => .int 0
  | _ => .null
def alK : Instr → Nat → Bool
  | .iaload, 0 => true
  | .laload, 1 => true
  | .daload, 2 => true
  | .baload, 3 => true
  | .baload, 4 => true
  | _, _ => false
def asV : Instr → Nat → Value → Option Value
  | .iastore, 0, .int x => some (.int x)
  | .lastore, 1, .long x => some (.long x)
  | .dastore, 2, .double x => some (.double x)
  | .bastore, 3, .int x => some (.int (x &&& 1))
  | .bastore, 4, .int x => some (.int x.toInt8.toInt32)
  | _, _, _ => none
def naK : ArrayType → Nat → Bool
  | .int, 0 => true
  | .long, 1 => true
  | .double, 2 => true
  | .boolean, 3 => true
  | .byte, 4 => true
  | _, _ => false
def hAl (i : Instr) (o : Orc) (pc : Nat) (L : List Slot) (S : List Value) (A : AH) : Option HR :=
  match S with
  | .int j :: .ref a :: r => (match A[a]? with
    | some (k, vs) => if alK i k then (match need o (¬ j < 0) with
      | some cs => (match vs[j.toNatClampNeg]? with
        | some v => some (cs, o, pc + 1, L, v :: r, A, 0, 0, 0, 0)
        | none => none)
      | none => none) else none
    | none => none)
  | _ => none
def hAs (k0 : Nat) (i : Instr) (o : Orc) (pc : Nat) (L : List Slot) (S : List Value) (A : AH) : Option HR :=
  match S with
  | v :: .int j :: .ref a :: r => (match A[a]? with
    | some (k, vs) => (match asV i k v with
      | some v' => if k0 ≤ a ∧ j.toNatClampNeg < vs.length then (match need o (¬ j < 0) with
        | some cs => forceL (vs.set j.toNatClampNeg v') fun vs' => forceL (A.set a (k, vs')) fun A' => some (cs, o, pc + 1, L, r, A', 0, 0, 0, 0)
        | none => none) else none
      | none => none)
    | none => none)
  | _ => none
/-- System.arraycopy of one array of numbers into another -/
def hCp (k0 : Nat) (o : Orc) (pc : Nat) (L : List Slot) (S : List Value) (A : AH) : Option HR :=
  match S with
  | .int n :: .int dp :: .ref d :: .int sp :: .ref a :: r => (match A[a]?, A[d]? with
    | some (k, vs), some (k', ws) => if k = k' ∧ k ≤ 2 ∧ k0 ≤ d then (match need o (¬ sp < 0 ∧ ¬ dp < 0 ∧ ¬ n < 0 ∧ sp.toNatClampNeg + n.toNatClampNeg ≤ vs.length ∧ dp.toNatClampNeg + n.toNatClampNeg ≤ ws.length) with
      | some cs => forceL (setRun ws dp.toNatClampNeg ((vs.drop sp.toNatClampNeg).take n.toNatClampNeg)) fun ws' => forceL (A.set d (k, ws')) fun A' => some (cs, o, pc + 3, L, r, A', 0, 0, 1, csum r + 18)
      | none => none) else none
    | _, _ => none)
  | _ => none
def hstep (k0 : Nat) (kd : Nat → List Value × Nat) (ext : Nat → List Value → Option (Bool × Value)) (exw : Nat → Nat × Nat) (i : Instr) (nums : List Nat) (val : Value) (o : Orc) (pc : Nat) (L : List Slot) (S : List Value) (A : AH) : Option HR :=
  match i with
  | .ldc _ =>
    match val with
    | .int x => some ([], o, pc + 2, L, .int x :: S, A, 0, 0, 0, 0)
    | _ => none
  | .ldc_w _ =>
    match val with
    | .int x => some ([], o, pc + 3, L, .int x :: S, A, 0, 0, 0, 0)
    | _ => none
  | .ldc2_w _ =>
    match val with
    | .long x => some ([], o, pc + 3, L, .long x :: S, A, 0, 0, 0, 0)
    | .double x => some ([], o, pc + 3, L, .double x :: S, A, 0, 0, 0, 0)
    | _ => none
  | .getstatic _ => some ([], o, pc + 3, L, val :: S, A, 0, 0, 0, 0)
  | .getfield _ =>
    match nums, S with
    | [k, j], .ref a :: r => (match A[a]? with
      | some (k', vs) => if k' = k then (match vs[j]? with
        | some v => some ([], o, pc + 3, L, v :: r, A, 0, 0, 0, 0)
        | none => none) else none
      | none => none)
    | _, _ => none
  | .putfield _ =>
    match nums, S with
    | [k, j, t], v :: .ref a :: r => (match A[a]? with
      | some (k', vs) => if k' = k ∧ k0 ≤ a then (match fitT o t v with
        | some cs => forceL (vs.set j v) fun vs' => forceL (A.set a (k, vs')) fun A' => some (cs, o, pc + 3, L, r, A', 0, 0, 0, 0)
        | none => none) else none
      | none => none)
    | _, _ => none
  | .new _ =>
    match nums with
    | [k] => forceL (A ++ [(k, (kd k).1)]) fun A' => forceN A.length fun n => some ([], o, pc + 3, L, .ref n :: S, A', 1, (kd k).2, 0, 0)
    | _ => none
  | .newarray t =>
    match nums, S with
    | [k], .int n :: r => if naK t k then (match need o (¬ n < 0 ∧ n.toNatClampNeg ≤ 67108864) with
      | some cs => forceL (List.replicate n.toNatClampNeg (dvK k)) fun vs' => forceL (A ++ [(k, vs')]) fun A' => forceN A.length fun m => some (cs, o, pc + 2, L, .ref m :: r, A', 1, n.toNatClampNeg, 0, 0)
      | none => none) else none
    | _, _ => none
  | .arraylength =>
    match S with
    | .ref a :: r => (match A[a]? with
      | some (k, vs) => if (arT k).isSome then some ([], o, pc + 1, L, .int vs.length.toInt32 :: r, A, 0, 0, 0, 0) else none
      | none => none)
    | _ => none
  | .iaload | .laload | .daload | .baload => hAl i o pc L S A
  | .iastore | .lastore | .dastore | .bastore => hAs k0 i o pc L S A
  | .if_acmp c off =>
    match S with
    | y :: x :: r => if x.isRef = true ∧ y.isRef = true then
        (if XT.acmp c x y = true then (if 0 ≤ (pc : Int) + off then some ([], o, ((pc : Int) + off).toNat, L, r, A, 0, 0, 0, 0) else none) else some ([], o, pc + 3, L, r, A, 0, 0, 0, 0))
      else none
    | _ => none
  | .checkcast _ =>
    match S with
    | .ref a :: r => (match A[a]? with
      | some (k, _) => if nums.contains k then some ([], o, pc + 3, L, .ref a :: r, A, 0, 0, 0, 0) else none
      | none => none)
    | _ => none
  | .invokespecial _ =>
    match nums, S with
    | [0], .ref a :: r => some ([], o, pc + 3, L, r, A, 0, 0, 1, csum r + 12)
    | _, _ => none
  | .invokestatic _ =>
    match nums with
    | [0, x, na] => if na ≤ S.length then (match ext x (S.take na).reverse with
      | some (b, v) => (match need o (b = true) with
        | some cs => some (cs, o, pc + 3, L, v :: S.drop na, A, 0, 0, (exw x).1, csum (S.drop na) + (exw x).2)
        | none => none)
      | none => none) else none
    | [2] => hCp k0 o pc L S A
    | _ => none
  | .invokevirtual _ =>
    match nums, S with
    | [0, kk], .ref a :: r => (match A[a]? with
      | some (k, vs) => if k = kk then forceL (A ++ [(k, vs)]) fun A' => forceN A.length fun m => some ([], o, pc + 3, L, .ref m :: r, A', 1, vs.length, 1, csum r + 14) else none
      | none => none)
    | _, _ => none
  | _ => none
/-- a name of a kind -/
def kNm (kc : KTy) (k : Nat) : Option String :=
  match arT k with
  | some (_, nm) => some nm
  | none => (kc k).map (·.1)
def cloneN (ad : String) : MethodName := ⟨ad, "clone", "()Ljava/lang/Object;"⟩
def notMH (y : MethodName) : Prop := y.cls ≠ "java/lang/invoke/MethodHandle" ∧ y.cls ≠ "java/lang/invoke/VarHandle"
def nArgs (y : MethodName) (n : Nat) : Prop := ∃ ps r, parseMethodDescriptor y.desc = some ⟨ps, r⟩ ∧ n = ps.length
def CN (y : MethodName) (d : Cond) : Prop := (∃ b ml rt, d = Cond.code y b ml rt) ∨ d = Cond.native y
/-- what the sheet's words must say of an instruction -/
def VI (Z : State) (a0 : Array Value) (kc : KTy) (sl : SL) (kd : Nat → List Value × Nat) (ext : Nat → List Value → Option (Bool × Value)) (exw : Nat → Nat × Nat) (own mname : String) : Instr → List Nat → Value → Prop
  | .ldc idx, _, .int x => (Cond.constant own idx x).before a0 Z = true
  | .ldc_w idx, _, .int x => (Cond.constant own idx x).before a0 Z = true
  | .ldc2_w idx, _, .long x => (Cond.constantLong own idx x).before a0 Z = true
  | .ldc2_w idx, _, .double x => (Cond.constantDouble own idx x).before a0 Z = true
  | .getstatic idx, _, v => ∃ R0 C n d, (Cond.fieldLink own idx R0 n d).before a0 Z = true ∧ Via Z R0 C n d ∧ ((C, n, d), v) ∈ sl
  | .getfield idx, [k, j], _ => ∃ C fs f R0, kc k = some (C, fs) ∧ fs[j]? = some f ∧ (Cond.fieldLink own idx R0 f.2.1 f.2.2.1).before a0 Z = true ∧ Via Z R0 f.1 f.2.1 f.2.2.1
  | .putfield idx, [k, j, t], _ => ∃ C fs f R0 kk, kc k = some (C, fs) ∧ fs[j]? = some f ∧ (Cond.fieldLink own idx R0 f.2.1 f.2.2.1).before a0 Z = true ∧ Via Z R0 f.1 f.2.1 f.2.2.1 ∧ ((Cond.lays C f.1 f.2.1 f.2.2.1).before a0 Z = true ∨ ((Cond.laysFinal C f.1 f.2.1 f.2.2.1).before a0 Z = true ∧ own = f.1 ∧ mname = "<init>")) ∧ (Cond.instantiable C kk).before a0 Z = true ∧ tOk t f.2.2.2 = true
  | .new idx, [k], _ => ∃ C fs, kc k = some (C, fs) ∧ (Cond.classLink own idx C).before a0 Z = true ∧ (Cond.instantiable C (kd k).2).before a0 Z = true ∧ (Cond.initialized C).before a0 Z = true ∧ (kd k).1 = fs.map (fun f => defaultValue f.2.2.2)
  | .newarray t, [k], _ => (Cond.arrayClass (newarray.typeOf t)).before a0 Z = true ∧ kc k = none
  | .checkcast idx, ks, _ => ∃ K, (Cond.classLink own idx K).before a0 Z = true ∧ ∀ k ∈ ks, ∃ C, kNm kc k = some C ∧ (Cond.castable C K).before a0 Z = true
  | .invokespecial idx, [0], _ => (Cond.methodLink own idx Lib.objectInit).before a0 Z = true ∧ (Cond.instanceMethod Lib.objectInit).before a0 Z = true ∧ (Cond.code Lib.objectInit ⟨#[0xb1]⟩ 1 none).before a0 Z = true
  | .invokestatic idx, [0, x, na], _ => ∃ (y : MethodName) (ds : List Cond) (d0 : Cond), (Cond.methodLink own idx y).before a0 Z = true ∧ (Cond.static y).before a0 Z = true ∧ (Cond.initialized y.cls).before a0 Z = true ∧ (∀ d ∈ ds, (d.onTables && d.keepsFace) = true ∧ d.before a0 Z = true) ∧ d0 ∈ ds ∧ CN y d0 ∧ notMH y ∧ nArgs y na ∧
      ∀ (as : List Value) (v : Value), ext x as = some (true, v) → (∀ g, gS g as = as) ∧ (∀ g, gv g v = v) ∧ ∀ (l : Launch) (R : Room) (p : Program) (e : Env) (below : List Frame) (s : State) (sargs : Array Value) (W : Nat), (∀ d ∈ ds, d.before sargs s = true) → (exw x).1 ≤ R.frames → W + (exw x).2 ≤ R.locals →
        Back l R p e below s sargs y 3 W (fun A a' => A.cells ≤ R.cells ∧ A.slots ≤ R.slots ∧ a' = as.toArray) (fun A _ v' B => v' = some v ∧ B = A)
  | .invokestatic idx, [2], _ => (∀ k, k ≤ 2 → kc k = none) ∧ (Cond.methodLink own idx Jvm.Stand.acN).before a0 Z = true ∧ (Cond.native Jvm.Stand.acN).before a0 Z = true ∧ (Cond.static Jvm.Stand.acN).before a0 Z = true ∧ (Cond.initialized "java/lang/System").before a0 Z = true
  | .invokevirtual idx, [0, k], _ => ∃ ty ad, arT k = some (ty, ad) ∧ kc k = none ∧ (Cond.methodLink own idx (cloneN ad)).before a0 Z = true ∧ (Cond.sameMethod ad "java/lang/Object" "clone" "()Ljava/lang/Object;").before a0 Z = true ∧ (Cond.native (cloneN "java/lang/Object")).before a0 Z = true ∧ (Cond.instanceMethod (cloneN "java/lang/Object")).before a0 Z = true ∧ (Cond.selects ad (cloneN ad) (cloneN "java/lang/Object")).before a0 Z = true ∧ (Cond.castable ad "java/lang/Cloneable").before a0 Z = true
  | _, _, _ => True
section HeapSteps
variable {p : Program} {l : Launch} {e : Env} {R : Room} {s : State} {m : MethodId} {args : Array Value} {below : List Frame} {meth : Method} {c : Code} {T : State} {locs : List Loc} {cells slots : Nat}
variable {Z : State} {a0 : Array Value} {kc : KTy} {sl : SL} {n0 k0 : Nat} {g : Nat → Addr} {A : AH}
theorem natG (X : Stand p l e R s m args below meth c T locs cells slots) (hx : p.tables.exec = Jvm.exec) (hZ : Z.Warmed39 s.vm) {own : String} {index : Nat} {y : MethodName} (hown : s.vm.findClass own = some m.cls)
    (w1 : (Cond.methodLink own index y).before a0 Z = true) (w2 : (Cond.static y).before a0 Z = true) (w3 : (Cond.initialized y.cls).before a0 Z = true) {d0 : Cond} (c4 : d0.before args s = true) (hcn : CN y d0) (hy : notMH y)
    {h : Heap} (eT : T.heap = h) {W : Nat} {F : Array Value → Prop} {val : Value} (hK : Back l R p e below s args y 3 W (fun A a' => A.cells ≤ R.cells ∧ A.slots ≤ R.slots ∧ F a') (fun A _ v B => v = some val ∧ B = A))
    {g : JFrame} (hg : g.method = m) (hsize : g.locals.size = c.maxLocals) {argsL rest : List Value} (hlen : ∀ sig, parseMethodDescriptor y.desc = some sig → argsL.length = sig.parameters.length) (hst : g.stack = argsL.reverse ++ rest) (hW : 2 * g.monitorRoom + (rest.map fun v => v.category).sum ≤ W)
    (hd : decode c.code g.pc = .ok (.invokestatic index, 3)) (hc : cells ≤ R.cells) (hs : slots ≤ R.slots) (hF : F argsL.toArray) :
    ∃ T', Stand p l e R s m args below meth c T' locs cells slots ∧ T'.heap = h ∧ ∀ target, Steps p.tables e below (T'.setTop { g with pc := g.pc + 3, stack := val :: rest }) target → Steps p.tables e below (T.setTop g) target := by
  obtain ⟨mk, methM, hnamed, hmethM, hsigM⟩ : ∃ mk methM, s.methodNamed? y = some mk ∧ s.vm.method? mk = some methM ∧ parseMethodDescriptor y.desc = some methM.sig := by
    rcases hcn with ⟨b, ml, rt, rfl⟩ | rfl
    · obtain ⟨mk, hnamed⟩ := Cond.code_named c4
      obtain ⟨methM, cM, hmethM, -, -, -, -, -, -, hsigM⟩ := Cond.code_spec hnamed c4
      exact ⟨mk, methM, hnamed, hmethM, hsigM⟩
    · obtain ⟨mk, methM, h1, h2, -, -, -, h3⟩ := Cond.native_spec c4
      exact ⟨mk, methM, h1, h2, h3⟩
  obtain ⟨v, vm1, B, hW1, X', ⟨hv1, hB⟩, st⟩ := Stand.staticBack (args := args) X hx hown (mvT hZ w1) (mvT hZ w2) (mvT hZ w3) hnamed hmethM hsigM hy hK hg hsize (Steps.refl _) hlen hst hW hd (fun vm1 _ => ⟨hc, hs, hF⟩)
  subst hv1 hB
  exact ⟨_, X', eT, fun target k => st.trans k⟩
theorem arr_size {cl : Cell} {vs : List Value} (q : cl.slots.toList = gS g vs) : cl.slots.size = vs.length := by
  have := congrArg List.length q
  simpa using this
theorem arr_get {cl : Cell} {vs : List Value} (q : cl.slots.toList = gS g vs) {j : Nat} {v : Value} (hv : vs[j]? = some v) : cl.slots[j]? = some (gv g v) := by
  rw [← Array.getElem?_toList, q]; simp [hv]
theorem dv_plain (g : Nat → Addr) (t : FieldType) : gv g (defaultValue t) = defaultValue t := by cases t <;> rfl
theorem dv_wf (n : Nat) (t : FieldType) : wv n (defaultValue t) := by cases t <;> exact trivial
/-- an array of primitives made: with her class's name -/
theorem newP2 (X : Stand p l e R s m args below meth c T locs cells slots) (hx : p.tables.exec = Jvm.exec) (hZ : Z.Warmed39 s.vm) {aty : ArrayType} (w : (Cond.arrayClass (newarray.typeOf aty)).before a0 Z = true) {f : JFrame} (hg : f.method = m) (hd : decode c.code f.pc = .ok (.newarray aty, 2)) {n : Int32} {rest : List Value} (hs : f.stack = .int n :: rest)
    (hn : ¬ n < 0) (hb : n.toNatClampNeg ≤ 67108864) (hc : cells + 1 ≤ R.cells) (hl : slots + n.toNatClampNeg ≤ R.slots) :
    ∃ T' cA, Stand p l e R s m args below meth c T' locs (cells + 1) (slots + n.toNatClampNeg) ∧ Ext T.heap T'.heap ∧ Arr Z T'.heap T.heap.size (newA cA (newarray.typeOf aty) n) (newarray.typeOf aty) ∧ Z.vm.findClass ("[" ++ (newarray.typeOf aty).toString) = some cA ∧
      ∀ target, Steps p.tables e below (T'.setTop { f with pc := f.pc + 2, stack := .ref T.heap.size :: rest }) target → Steps p.tables e below (T.setTop f) target := by
  have hcb : componentBytes (newarray.typeOf aty) ≤ 8 := by cases aty <;> decide
  have hb2 : n.toNatClampNeg * componentBytes (newarray.typeOf aty) ≤ 536870912 := Nat.le_trans (Nat.mul_le_mul hb hcb) (by decide)
  obtain ⟨cA, kA, comp, h1, h2, h3, X', st⟩ := X.newarrayPrim hx (mvA hZ w) hg hd hs hn hb2 hc hl
  rw [hZ.alike.findClass] at h1
  obtain ⟨kZ, z1, -⟩ := Vm.findClass_spec h1
  obtain ⟨k', z2, z3⟩ := hZ.alike.2.2 _ _ z1
  cases h2.symm.trans z2
  refine ⟨_, cA, X', ext_of fun a q => ?_, ⟨?_, ⟨fun _ z => by simp [newA] at z, kZ, z1, comp, ?_⟩, fun z => by simp [newA] at z⟩, h1, st⟩
  · exact (Array.getElem?_push_lt q).trans (Array.getElem?_eq_getElem q).symm
  · show (T.heap.push _)[T.heap.size]? = _
    simp [newA]
  · rw [← h3, z3]
theorem naK_ok {t : ArrayType} {k : Nat} (h : naK t k = true) : arT k = some (newarray.typeOf t, "[" ++ (newarray.typeOf t).toString) ∧ dvK k = defaultValue (newarray.typeOf t) ∧ fits (newarray.typeOf t) (dvK k) = true := by
  unfold naK at h
  split at h <;> first | contradiction | exact ⟨by decide, rfl, rfl⟩
theorem alK_ok {i : Instr} {k : Nat} (h : alK i k = true) : ∃ ty nm, arT k = some (ty, nm) ∧ ((i = .iaload ∧ ty = .int) ∨ (i = .laload ∧ ty = .long) ∨ (i = .daload ∧ ty = .double) ∨ (i = .baload ∧ ty = .boolean) ∨ (i = .baload ∧ ty = .byte)) := by
  unfold alK at h
  split at h
  · exact ⟨_, _, rfl, Or.inl ⟨rfl, rfl⟩⟩
  · exact ⟨_, _, rfl, Or.inr (Or.inl ⟨rfl, rfl⟩)⟩
  · exact ⟨_, _, rfl, Or.inr (Or.inr (Or.inl ⟨rfl, rfl⟩))⟩
  · exact ⟨_, _, rfl, Or.inr (Or.inr (Or.inr (Or.inl ⟨rfl, rfl⟩)))⟩
  · exact ⟨_, _, rfl, Or.inr (Or.inr (Or.inr (Or.inr ⟨rfl, rfl⟩)))⟩
  · cases h
/-- a load out of an array -/
theorem al_ok (X : Stand p l e R s m args below meth c T locs cells slots) (hx : p.tables.exec = Jvm.exec) (hZ : Z.Warmed39 s.vm) {i : Instr} {k a : Nat} {vs : List Value} (hk : alK i k = true) (Rp : Rep Z kc sl n0 k0 T.heap g A) (ha : A[a]? = some (k, vs)) {j : Int32} {v : Value} (hj : ¬ j < 0) (hv : vs[j.toNatClampNeg]? = some v)
    {pc : Nat} {Ls : Array Slot} {rest : List Value} (hd : decode c.code pc = .ok (i, 1)) (target : State) (hr : Steps p.tables e below (T.setTop (mkF m (pc + 1) Ls (gv g v :: rest))) target) : Steps p.tables e below (T.setTop (mkF m pc Ls (.int j :: .ref (g a) :: rest))) target := by
  obtain ⟨ty, nm, h1, h2⟩ := alK_ok hk
  obtain ⟨cl, q1, q2, q3, q4, q5, q6⟩ := (Rp.ob ha).2 ty nm h1
  have q2 : cl.slots.toList = gS g vs := q2
  have hin : ¬ (j < 0 ∨ cl.slots.size ≤ j.toNatClampNeg) := by
    have := (List.getElem?_eq_some_iff.mp hv).1
    rw [arr_size q2]
    rintro (q | q)
    · exact hj q
    · omega
  have hv' := arr_get q2 hv
  have harr := State.isArrayOf_alike (T := s) hZ.alike q1.2.1
  rcases h2 with ⟨rfl, rfl⟩ | ⟨rfl, rfl⟩ | ⟨rfl, rfl⟩ | ⟨rfl, rfl⟩ | ⟨rfl, rfl⟩
  · exact X.iaload hx q1.1 harr q1.2.2 hin hv' (g := mkF m pc Ls (.int j :: .ref (g a) :: rest)) rfl rfl hd target hr
  · exact X.laload hx q1.1 harr q1.2.2 hin hv' (g := mkF m pc Ls (.int j :: .ref (g a) :: rest)) rfl rfl hd target hr
  · exact X.daload hx q1.1 harr q1.2.2 hin hv' (g := mkF m pc Ls (.int j :: .ref (g a) :: rest)) rfl rfl hd target hr
  · exact X.baloadBooleans hx q1.1 harr q1.2.2 hin hv' (g := mkF m pc Ls (.int j :: .ref (g a) :: rest)) rfl rfl hd target hr
  · exact X.baloadBytes hx q1.1 harr q1.2.2 hin hv' (g := mkF m pc Ls (.int j :: .ref (g a) :: rest)) rfl rfl hd target hr
/-- a store into an array -/
theorem as_ok (X : Stand p l e R s m args below meth c T locs cells slots) (hx : p.tables.exec = Jvm.exec) (hZ : Z.Warmed39 s.vm) {i : Instr} {k a : Nat} {vs : List Value} {v v' : Value} (hk : asV i k v = some v') (Rp : Rep Z kc sl n0 k0 T.heap g A) (ha : A[a]? = some (k, vs)) {j : Int32} (hj : ¬ j < 0) (hv : j.toNatClampNeg < vs.length)
    {pc : Nat} {Ls : Array Slot} {rest : List Value} (hd : decode c.code pc = .ok (i, 1)) :
    ∃ ty nm, arT k = some (ty, nm) ∧ fits ty v' = true ∧ gv g v' = v' ∧ (∀ n, wv n v') ∧ ∃ T' h', Stand p l e R s m args below meth c T' (locs ++ [⟨g a, j.toNatClampNeg⟩]) cells slots ∧ T'.heap = h' ∧ Wr T.heap h' (g a) j.toNatClampNeg v' ∧ ∀ target, Steps p.tables e below (T'.setTop (mkF m (pc + 1) Ls rest)) target → Steps p.tables e below (T.setTop (mkF m pc Ls (gv g v :: .int j :: .ref (g a) :: rest))) target := by
  unfold asV at hk
  split at hk
  case h_6 => cases hk
  all_goals
    cases hk
    obtain ⟨cl, q1, q2, q3, q4, q5, q6⟩ := (Rp.ob ha).2 _ _ rfl
    have q2 : cl.slots.toList = gS g vs := q2
    have hin : ¬ (j < 0 ∨ cl.slots.size ≤ j.toNatClampNeg) := by
      rw [arr_size q2]
      rintro (q | q)
      · exact hj q
      · omega
  · obtain ⟨T', h', X', e', W', st⟩ := stI X hx hZ rfl q1 hin (g := mkF m pc Ls (_ :: .int j :: .ref (g a) :: rest)) rfl rfl hd
    exact ⟨_, _, rfl, rfl, rfl, fun _ => trivial, T', h', X', e', W', st⟩
  · obtain ⟨T', h', X', e', W', st⟩ := stJ X hx hZ rfl q1 hin (g := mkF m pc Ls (_ :: .int j :: .ref (g a) :: rest)) rfl rfl hd
    exact ⟨_, _, rfl, rfl, rfl, fun _ => trivial, T', h', X', e', W', st⟩
  · obtain ⟨T', h', X', e', W', st⟩ := stD X hx hZ rfl q1 hin (g := mkF m pc Ls (_ :: .int j :: .ref (g a) :: rest)) rfl rfl hd
    exact ⟨_, _, rfl, rfl, rfl, fun _ => trivial, T', h', X', e', W', st⟩
  · obtain ⟨T', h', X', e', W', st⟩ := stZ X hx hZ rfl q1 hin (g := mkF m pc Ls (_ :: .int j :: .ref (g a) :: rest)) rfl rfl hd
    exact ⟨_, _, rfl, fits_nar_bool _, rfl, fun _ => trivial, T', h', X', e', W', st⟩
  · obtain ⟨T', h', X', e', W', st⟩ := stB X hx hZ rfl q1 hin (g := mkF m pc Ls (_ :: .int j :: .ref (g a) :: rest)) rfl rfl hd
    exact ⟨_, _, rfl, fits_nar_byte _, rfl, fun _ => trivial, T', h', X', e', W', st⟩
theorem acmp_g {cd : ACond} {x y : Value} (Rp : Rep Z kc sl n0 k0 T.heap g A) (wx : wv A.length x) (wy : wv A.length y) (hx : x.isRef = true) (hy : y.isRef = true) : XT.acmp cd (gv g x) (gv g y) = XT.acmp cd x y := by
  have key : gv g x = gv g y ↔ x = y := by
    rcases ref_cases hx with rfl | ⟨a, rfl⟩ <;> rcases ref_cases hy with rfl | ⟨b, rfl⟩
    · exact Iff.rfl
    · simp [gv]
    · simp [gv]
    · simp only [gv, Value.ref.injEq]
      exact ⟨fun q => Rp.2.1 a b wx wy q, fun q => by rw [q]⟩
  cases cd <;> simp [XT.acmp, key]
end HeapSteps
section HeapStep
variable {p : Program} {l : Launch} {e : Env} {R : Room} {s : State} {m : MethodId} {args : Array Value} {below : List Frame} {meth : Method} {c : Code} {T : State} {locs : List Loc} {cells slots : Nat}
variable {Z : State} {a0 : Array Value} {kc : KTy} {sl : SL} {n0 k0 : Nat} {g : Nat → Addr} {A : AH} {kd : Nat → List Value × Nat} {ext : Nat → List Value → Option (Bool × Value)} {exw : Nat → Nat × Nat} {own mname : String}
/-- the walk goes on from T's frame at a state that the abstract one tells -/
def Lands (p : Program) (l : Launch) (e : Env) (R : Room) (s : State) (m : MethodId) (args : Array Value) (below : List Frame) (meth : Method) (c : Code) (Z : State) (kc : KTy) (sl : SL) (n0 k0 : Nat) (T : State) (f0 : JFrame) (g : Nat → Addr) (A : AH) (cells slots pc : Nat) (L : List Slot) (S : List Value) (A' : AH) : Prop :=
  ∃ (T' : State) (locs' : List Loc) (g' : Nat → Addr), Stand p l e R s m args below meth c T' locs' cells slots ∧ Rep Z kc sl n0 k0 T'.heap g' A' ∧ Fr n0 locs' ∧ (∀ i, i < A.length → g' i = g i) ∧ A.length ≤ A'.length ∧ wL A'.length L ∧ wS A'.length S ∧
    ∀ target, Steps p.tables e below (T'.setTop (mkF m pc (gL g' L) (gS g' S))) target → Steps p.tables e below (T.setTop f0) target
theorem Lands.same {f0 : JFrame} {pc : Nat} {L : List Slot} {S : List Value} {T' : State} (X : Stand p l e R s m args below meth c T' locs cells slots) (eT : T'.heap = T.heap) (Rp : Rep Z kc sl n0 k0 T.heap g A) (N : Fr n0 locs) (w1 : wL A.length L) (w2 : wS A.length S)
    (st : ∀ target, Steps p.tables e below (T'.setTop (mkF m pc (gL g L) (gS g S))) target → Steps p.tables e below (T.setTop f0) target) : Lands p l e R s m args below meth c Z kc sl n0 k0 T f0 g A (cells + 0) (slots + 0) pc L S A :=
  ⟨T', locs, g, X, by rw [eT]; exact Rp, N, fun _ _ => rfl, Nat.le_refl _, w1, w2, st⟩
theorem hAl_ok (X : Stand p l e R s m args below meth c T locs cells slots) (hx : p.tables.exec = Jvm.exec) (hZ : Z.Warmed39 s.vm) (Rp : Rep Z kc sl n0 k0 T.heap g A) (N : Fr n0 locs)
    {i : Instr} {o o' : Orc} {pc pc' k n f w : Nat} {L L' : List Slot} {S S' : List Value} {A' : AH} {cs : List Prop} (w1 : wL A.length L) (w2 : wS A.length S) (hd : decode c.code pc = .ok (i, 1))
    (hp : hAl i o pc L S A = some (cs, o', pc', L', S', A', k, n, f, w)) (hc : ∀ P ∈ cs, P) :
    Lands p l e R s m args below meth c Z kc sl n0 k0 T (mkF m pc (gL g L) (gS g S)) g A (cells + k) (slots + n) pc' L' S' A' ∧ L'.length = L.length := by
  unfold hAl at hp
  split at hp
  · rename_i j a r
    have w3 := wS_cons.mp (wS_cons.mp w2).2
    split at hp
    · rename_i k1 vs ha
      split at hp
      · rename_i hal
        split at hp
        · rename_i cs1 hq
          split at hp
          · rename_i v hv
            cases hp
            exact ⟨Lands.same X rfl Rp N w1 (wS_cons.mpr ⟨Rp.wf ha v (List.mem_of_getElem? hv), w3.2⟩) fun target hr => al_ok X hx hZ hal Rp ha (need_ok hq hc) hv hd target hr, rfl⟩
          · cases hp
        · cases hp
      · cases hp
    · cases hp
  · cases hp
theorem hAs_ok (X : Stand p l e R s m args below meth c T locs cells slots) (hx : p.tables.exec = Jvm.exec) (hZ : Z.Warmed39 s.vm) (K : KOk Z a0 kc) (Rp : Rep Z kc sl n0 k0 T.heap g A) (N : Fr n0 locs)
    {i : Instr} {o o' : Orc} {pc pc' k n f w : Nat} {L L' : List Slot} {S S' : List Value} {A' : AH} {cs : List Prop} (w1 : wL A.length L) (w2 : wS A.length S) (hd : decode c.code pc = .ok (i, 1))
    (hp : hAs k0 i o pc L S A = some (cs, o', pc', L', S', A', k, n, f, w)) (hc : ∀ P ∈ cs, P) :
    Lands p l e R s m args below meth c Z kc sl n0 k0 T (mkF m pc (gL g L) (gS g S)) g A (cells + k) (slots + n) pc' L' S' A' ∧ L'.length = L.length := by
  unfold hAs at hp
  split at hp
  · rename_i v j a r
    have w3 := wS_cons.mp (wS_cons.mp (wS_cons.mp w2).2).2
    split at hp
    · rename_i k1 vs ha
      split at hp
      · rename_i v' hv
        split at hp
        · rename_i hb
          split at hp
          · rename_i cs1 hq
            simp only [forceL_eq] at hp
            cases hp
            obtain ⟨ty, nm, b1, b2, b3, b4, T', h', X', e', W', st⟩ := as_ok X hx hZ hv Rp ha (need_ok hq hc) hb.2 (Ls := gL g _) (rest := gS g _) hd
            subst e'
            have hkc : kc k1 = none := by
              cases hq2 : kc k1 with
              | none => rfl
              | some z => obtain ⟨C, fs⟩ := z; have := (K k1 C fs hq2).1; rw [b1] at this; cases this
            rw [← b3] at W'
            refine ⟨⟨T', _, g, X', Rp.upd ha W' ((Rp.ob ha).store b1 hkc hb.2 b2 W') ?_, Fr.snoc X' N ((Rp.1 a (Rep.lt ha)).2 hb.1), fun _ _ => rfl, by simp, ?_, ?_, st⟩, rfl⟩
            · intro x hx'
              rcases List.mem_or_eq_of_mem_set hx' with q | q
              · exact Rp.wf ha x q
              · subst q; exact b4 _
            · rw [List.length_set]; exact w1
            · rw [List.length_set]; exact w3.2
          · cases hp
        · cases hp
      · cases hp
    · cases hp
  · cases hp
theorem arT_prim {k : Nat} (h : k ≤ 2) : ∃ ty nm, arT k = some (ty, nm) ∧ refKind ty = false := by
  have : k = 0 ∨ k = 1 ∨ k = 2 := by omega
  rcases this with rfl | rfl | rfl <;> exact ⟨_, _, rfl, rfl⟩
theorem stretch_eq {cl : Cell} {vs : List Value} (q : cl.slots.toList = gS g vs) {sp n : Nat} (h : sp + n ≤ vs.length) : cl.stretch sp n = gS g ((vs.drop sp).take n) := by
  unfold Cell.stretch
  apply List.ext_getElem?
  intro i
  by_cases hi : i < n
  · have h1 : vs[sp + i]? = some vs[sp + i] := List.getElem?_eq_getElem (by omega)
    have h2 := arr_get q h1
    rw [List.getElem?_map, List.getElem?_range hi]
    simp only [Option.map_some, gS, List.getElem?_map, List.getElem?_take, hi, if_true, List.getElem?_drop, h1]
    rw [Array.getD_eq_getD_getElem?, h2]; rfl
  · rw [List.getElem?_eq_none (by simp; omega), List.getElem?_eq_none (by simp [gS]; omega)]
theorem hCp_ok (X : Stand p l e R s m args below meth c T locs cells slots) (hx : p.tables.exec = Jvm.exec) (hZ : Z.Warmed39 s.vm) (hown : s.vm.findClass own = some m.cls) (Rp : Rep Z kc sl n0 k0 T.heap g A) (N : Fr n0 locs)
    {idx : Nat} {o o' : Orc} {pc pc' k n f w : Nat} {L L' : List Slot} {S S' : List Value} {A' : AH} {cs : List Prop} (w1 : wL A.length L) (w2 : wS A.length S) (hd : decode c.code pc = .ok (.invokestatic idx, 3))
    (V : (∀ k, k ≤ 2 → kc k = none) ∧ (Cond.methodLink own idx Jvm.Stand.acN).before a0 Z = true ∧ (Cond.native Jvm.Stand.acN).before a0 Z = true ∧ (Cond.static Jvm.Stand.acN).before a0 Z = true ∧ (Cond.initialized "java/lang/System").before a0 Z = true) (hsz : L.length = c.maxLocals)
    (hp : hCp k0 o pc L S A = some (cs, o', pc', L', S', A', k, n, f, w)) (hc : ∀ P ∈ cs, P) (hf : f ≤ R.frames) (hw : w ≤ R.locals) :
    Lands p l e R s m args below meth c Z kc sl n0 k0 T (mkF m pc (gL g L) (gS g S)) g A (cells + k) (slots + n) pc' L' S' A' ∧ L'.length = L.length := by
  unfold hCp at hp
  split at hp
  · rename_i nn dp d sp a r
    split at hp
    · rename_i k1 vs k2 ws ha hdd
      split at hp
      · rename_i hb
        obtain ⟨rfl, hb1, hb2⟩ := hb
        split at hp
        · rename_i cs1 hq
          simp only [forceL_eq] at hp
          cases hp
          obtain ⟨n1, n2, n3, n4, n5⟩ := need_ok hq hc
          obtain ⟨v0, v1, v2, v3, v4⟩ := V
          obtain ⟨ty, nm, ht, hr⟩ := arT_prim hb1
          obtain ⟨ca, q1, q2, q3, q4, q5, q6⟩ := (Rp.ob ha).2 ty nm ht
          obtain ⟨cd, u1, u2, u3, u4, u5, u6⟩ := (Rp.ob hdd).2 ty nm ht
          have q2 : ca.slots.toList = gS g vs := q2
          have u2 : cd.slots.toList = gS g ws := u2
          obtain ⟨os, ks, hks, sc, hsk⟩ := State.isArrayOf_alike (T := s) hZ.alike q1.2.1
          obtain ⟨od, kd, hkd, dc, hdk⟩ := State.isArrayOf_alike (T := s) hZ.alike u1.2.1
          have nat : ∀ {x : Int32}, ¬ x < 0 → x.toInt = x.toNatClampNeg := fun {x} q => by
            rw [Int32.lt_iff_toInt_lt] at q; have : (0 : Int32).toInt = 0 := rfl
            simp only [Int32.toNatClampNeg]; omega
          have w3 := wS_cons.mp (wS_cons.mp (wS_cons.mp (wS_cons.mp (wS_cons.mp w2).2).2).2).2
          have hnf : nativeFrameWords "java/lang/System" "arraycopy" 5 + 11 = 18 := by rw [nativeFrameWords_plain 5 (by decide)]
          have hus : ∀ u ∈ (vs.drop sp.toNatClampNeg).take nn.toNatClampNeg, u ∈ vs := fun u hu => List.mem_of_mem_drop (List.mem_of_mem_take hu)
          obtain ⟨vm₁, hW₁, X', st⟩ := X.arraycopyK hx hown (mvT hZ v1) (mvT hZ v2) (mvT hZ v3) (mvT hZ v4) q1.1 u1.1 os od q1.2.2 u1.2.2 hks hkd hsk hdk
            (by simp [hr]) n1 n2 n3 (by rw [nat n1, nat n3, arr_size q2]; omega) (by rw [nat n2, nat n3, arr_size u2]; omega) (fun vm₁ hw' i hi => by
              have h1 : vs[sp.toNatClampNeg + i]? = some vs[sp.toNatClampNeg + i] := List.getElem?_eq_getElem (by omega)
              have h2 := arr_get q2 h1
              rw [Array.getD_eq_getD_getElem?, h2]
              have hm := q6 _ (List.mem_of_getElem? h1)
              generalize vs[sp.toNatClampNeg + i] = u at hm
              simp only [Option.getD_some]
              cases u <;> first | exact ⟨hm, trivial⟩ | exact (prim_no_ref hr hm).elim)
            (g := mkF m pc (gL g L) (gS g (.int nn :: .int dp :: .ref d :: .int sp :: .ref a :: S'))) rfl (by rw [gL_len]; exact hsz) (rest := gS g S') rfl hd hf (by show 2 * 0 + csum (gS g S') + _ ≤ _; rw [hnf, show csum (gS g S') = csum S' from gS_cat g S']; omega)
          have es : copied ca cd sp dp nn = cd.storePairs dp.toNatClampNeg ((gS g ((vs.drop sp.toNatClampNeg).take nn.toNatClampNeg)).zipIdx 0) := by
            rw [← stretch_eq q2 n4]; rfl
          have hl : ((vs.drop sp.toNatClampNeg).take nn.toNatClampNeg).length = nn.toNatClampNeg := by rw [List.length_take, List.length_drop]; omega
          have Rp' := Rep.run ht (v0 _ hb1) dp.toNatClampNeg ((vs.drop sp.toNatClampNeg).take nn.toNatClampNeg) 0 ws T.heap A cd Rp hdd u1.1 (fun u hu => q6 u (hus u hu)) (fun u hu => Rp.wf ha u (hus u hu)) (by rw [hl]; omega)
          rw [← es] at Rp'
          refine ⟨⟨_, _, g, X', Rp', Fr.app N fun y hy => by rw [Jvm.Stand.copyLocs_base hy]; exact (Rp.1 d (Rep.lt hdd)).2 hb2, fun _ _ => rfl, by simp, ?_, ?_, st⟩, rfl⟩
          · rw [List.length_set]; exact w1
          · rw [List.length_set]; exact w3.2
        · cases hp
      · cases hp
    · cases hp
  · cases hp
set_option maxHeartbeats 1000000 in
theorem hstep_ok (X : Stand p l e R s m args below meth c T locs cells slots) (hx : p.tables.exec = Jvm.exec) (hZ : Z.Warmed39 s.vm) (hown : s.vm.findClass own = some m.cls) (hnm : meth.name = mname) (K : KOk Z a0 kc) (Rp : Rep Z kc sl n0 k0 T.heap g A) (N : Fr n0 locs)
    {i : Instr} {nums : List Nat} {val : Value} {o o' : Orc} {pc pc' k n f w : Nat} {L L' : List Slot} {S S' : List Value} {A' : AH} {cs : List Prop} (w1 : wL A.length L) (w2 : wS A.length S) (hd : decode c.code pc = .ok (i, ilen i)) (V : VI Z a0 kc sl kd ext exw own mname i nums val) (hsz : L.length = c.maxLocals)
    (hp : hstep k0 kd ext exw i nums val o pc L S A = some (cs, o', pc', L', S', A', k, n, f, w)) (hc : ∀ P ∈ cs, P) (hk : cells + k ≤ R.cells) (hn : slots + n ≤ R.slots) (hf : f ≤ R.frames) (hw : w ≤ R.locals) :
    Lands p l e R s m args below meth c Z kc sl n0 k0 T (mkF m pc (gL g L) (gS g S)) g A (cells + k) (slots + n) pc' L' S' A' ∧ L'.length = L.length := by
  cases i
  case ldc idx =>
    dsimp only [hstep] at hp
    split at hp
    · cases hp
      refine ⟨Lands.same X rfl Rp N w1 (wS_cons.mpr ⟨trivial, w2⟩) ?_, rfl⟩
      exact X.ldcInt hx hown (mv hZ V) (g := mkF m pc (gL g _) (gS g _)) rfl hd
    · cases hp
  case ldc_w idx =>
    dsimp only [hstep] at hp
    split at hp
    · cases hp
      refine ⟨Lands.same X rfl Rp N w1 (wS_cons.mpr ⟨trivial, w2⟩) ?_, rfl⟩
      exact fun target hr => X.ldcWInt hx hown (mv hZ V) (g := mkF m pc (gL g _) (gS g _)) rfl hd target hr
    · cases hp
  case ldc2_w idx =>
    dsimp only [hstep] at hp
    split at hp
    · cases hp
      refine ⟨Lands.same X rfl Rp N w1 (wS_cons.mpr ⟨trivial, w2⟩) ?_, rfl⟩
      exact X.ldc2Long hx hown (mv hZ V) (g := mkF m pc (gL g _) (gS g _)) rfl hd
    · cases hp
      refine ⟨Lands.same X rfl Rp N w1 (wS_cons.mpr ⟨trivial, w2⟩) ?_, rfl⟩
      exact X.ldc2DoubleC hx hown (mv hZ V) (g := mkF m pc (gL g _) (gS g _)) rfl hd
    · cases hp
  case getstatic idx =>
    dsimp only [hstep] at hp
    cases hp
    obtain ⟨R0, C, nn, d, v1, v2, v3⟩ := V
    obtain ⟨q1, q2⟩ := Rp.2.2.2.2.2 _ v3
    obtain ⟨T', X', e', st⟩ := getS (host := "") X hx hZ hown v1 v2 rfl q1 (g := mkF m pc (gL g L) (gS g S)) rfl hd
    exact ⟨Lands.same X' e' Rp N w1 (wS_cons.mpr ⟨wv_mono Rp.2.2.2.2.1 q2, w2⟩) st, rfl⟩
  case getfield idx =>
    dsimp only [hstep] at hp
    split at hp
    · rename_i k1 j a r
      split at hp
      · rename_i k' vs ha
        split at hp
        · rename_i ek
          subst ek
          split at hp
          · rename_i v hv
            cases hp
            obtain ⟨C, fs, fd, R0, h1, h2, h3, h4⟩ := V
            have F := ((Rp.ob ha).1 C fs h1).2.2 j fd v h2 hv
            obtain ⟨T', X', e', st⟩ := getF X hx hZ hown (host := "") (Or.inl h3) h4 rfl F (g := mkF m pc (gL g L) (gS g (.ref a :: r))) rfl rfl hd
            exact ⟨Lands.same X' e' Rp N w1 (wS_cons.mpr ⟨Rp.wf ha v (List.mem_of_getElem? hv), (wS_cons.mp w2).2⟩) st, rfl⟩
          · cases hp
        · cases hp
      · cases hp
    · cases hp
  case putfield idx =>
    dsimp only [hstep] at hp
    split at hp
    · rename_i k1 j t v a r
      split at hp
      · rename_i k' vs ha
        split at hp
        · rename_i ek
          obtain ⟨ek, e0⟩ := ek
          subst ek
          split at hp
          · rename_i cs1 ht
            simp only [forceL_eq] at hp
            cases hp
            obtain ⟨C, fs, fd, R0, kk, h1, h2, h3, h4, h5, h6, h7⟩ := V
            obtain ⟨o1, o2, o3⟩ := (Rp.ob ha).1 C fs h1
            have hlt : j < vs.length := by
              have := (List.getElem?_eq_some_iff.mp h2).1
              have o2' : vs.length = fs.length := o2
              omega
            have F := o3 j fd _ h2 (List.getElem?_eq_getElem hlt)
            obtain ⟨f1, f2⟩ := fitT_ok ht hc h7 g
            obtain ⟨T', h', X', e', W', st⟩ := putF X hx hZ hown (host := "") (Or.inl h3) h4 rfl F o1 (h5.imp id fun ⟨a, b, d⟩ => ⟨a, b, hnm.trans d⟩) h6 ((K k' C fs h1).2.1 fd (List.mem_of_getElem? h2)).2 f1 f2 (g := mkF m pc (gL g L) (gS g (v :: .ref a :: S'))) rfl rfl hd
            subst e'
            have w3 := wS_cons.mp w2
            refine ⟨⟨T', _, g, X', Rp.upd ha W' ((Rp.ob ha).put K h1 h2 W') ?_, Fr.snoc X' N ((Rp.1 a (Rep.lt ha)).2 e0), fun _ _ => rfl, by simp, ?_, ?_, st⟩, rfl⟩
            · intro x hx'
              rcases List.mem_or_eq_of_mem_set hx' with q | q
              · exact Rp.wf ha x q
              · subst q; exact w3.1
            · rw [List.length_set]; exact w1
            · rw [List.length_set]; exact (wS_cons.mp w3.2).2
          · cases hp
        · cases hp
      · cases hp
    · cases hp
  case new idx =>
    dsimp only [hstep] at hp
    split at hp
    · rename_i k1
      simp only [forceL_eq, forceN_eq] at hp
      cases hp
      obtain ⟨C, fs, h1, h2, h3, h4, h5⟩ := V
      obtain ⟨T', h', X', e', E', Ex, D, -, st⟩ := newO X hx hZ hown h2 h3 h4 rfl (g := mkF m pc (gL g L) (gS g S)) rfl hd hk hn
      subst e'
      obtain ⟨q1, q2, q3⟩ := K k1 C fs h1
      have old := gnew_old g A.length T.heap.size
      refine ⟨⟨T', _, gnew g A.length T.heap.size, X', Rp.new E' Ex.lt ⟨fun C' fs' hk' => ?_, fun ty nm hk' => by rw [q1] at hk'; cases hk'⟩ ?_, N, old, by simp, ?_, ?_, ?_⟩, rfl⟩
      · cases h1.symm.trans hk'
        refine ⟨Ex, by rw [h5]; simp, fun j fd v hj hv => ?_⟩
        simp only [h5, List.getElem?_map, hj, Option.map_some, Option.some.injEq] at hv
        subst hv
        rw [dv_plain]
        have m1 := q2 fd (List.mem_of_getElem? hj)
        exact D m1.1 m1.2
      · intro v hv
        simp only [h5, List.mem_map] at hv
        obtain ⟨fd, -, rfl⟩ := hv
        exact dv_wf _ _
      · intro x hx'; exact wsl_mono (by simp) (w1 x hx')
      · refine wS_cons.mpr ⟨by show A.length < (A ++ _).length; simp, fun x hx' => wv_mono (by simp) (w2 x hx')⟩
      · intro target hr
        refine st target ?_
        have e1 : gL (gnew g A.length T.heap.size) L = gL g L := gL_cong old w1
        have e2 : gS (gnew g A.length T.heap.size) S = gS g S := gS_cong old w2
        simp only [gS, List.map_cons] at hr e2
        rw [e1, e2] at hr
        simp only [gv, gnew_new] at hr
        exact hr
    · cases hp
  case newarray t =>
    dsimp only [hstep] at hp
    split at hp
    · rename_i k1 nn r
      split at hp
      · rename_i hna
        split at hp
        · rename_i cs1 hq
          simp only [forceL_eq, forceN_eq] at hp
          cases hp
          obtain ⟨q1, q2⟩ := need_ok hq hc
          obtain ⟨a1, a2, a3⟩ := naK_ok hna
          obtain ⟨v1, v2⟩ := V
          obtain ⟨T', cA, X', E', Ar, fc, st⟩ := newP2 X hx hZ v1 (f := mkF m pc (gL g L) (gS g (.int nn :: r))) rfl hd rfl q1 q2 hk hn
          have old := gnew_old g A.length T.heap.size
          refine ⟨⟨T', _, gnew g A.length T.heap.size, X', Rp.new E' Ar.lt ⟨fun C' fs' hk' => ?_, fun ty nm hk' => ?_⟩ ?_, N, old, by simp, ?_, ?_, ?_⟩, rfl⟩
          · rw [v2] at hk'; cases hk'
          · cases a1.symm.trans hk'
            refine ⟨_, Ar, ?_, by simp; omega, fc, rfl, fun v hv => ?_⟩
            · simp only [newA, gS, List.map_replicate, Array.toList_replicate, a2, dv_plain]
            · rw [List.eq_of_mem_replicate hv]; exact a3
          · intro v hv
            rw [List.eq_of_mem_replicate hv, a2]; exact dv_wf _ _
          · intro x hx'; exact wsl_mono (by simp) (w1 x hx')
          · refine wS_cons.mpr ⟨by show A.length < (A ++ _).length; simp, fun x hx' => wv_mono (by simp) ((wS_cons.mp w2).2 x hx')⟩
          · intro target hr
            refine st target ?_
            have e1 : gL (gnew g A.length T.heap.size) L = gL g L := gL_cong old w1
            have e2 : gS (gnew g A.length T.heap.size) r = gS g r := gS_cong old (wS_cons.mp w2).2
            simp only [gS, List.map_cons] at hr e2
            rw [e1, e2] at hr
            simp only [gv, gnew_new] at hr
            exact hr
        · cases hp
      · cases hp
    · cases hp
  case arraylength =>
    dsimp only [hstep] at hp
    split at hp
    · rename_i a r
      split at hp
      · rename_i k1 vs ha
        split at hp
        · rename_i hs
          cases hp
          obtain ⟨⟨ty, nm⟩, ht⟩ := Option.isSome_iff_exists.mp hs
          obtain ⟨cl, q1, q2, -⟩ := (Rp.ob ha).2 ty nm ht
          refine ⟨Lands.same X rfl Rp N w1 (wS_cons.mpr ⟨trivial, (wS_cons.mp w2).2⟩) fun target hr => ?_, rfl⟩
          have harr := State.isArrayOf_alike (T := s) hZ.alike q1.2.1
          refine X.arraylength hx q1.1 harr (g := mkF m pc (gL g L) (gS g (.ref a :: r))) rfl rfl hd target ?_
          rw [arr_size q2]
          exact hr
        · cases hp
      · cases hp
    · cases hp
  case if_acmp cd off =>
    dsimp only [hstep] at hp
    split at hp
    · rename_i y x r
      have w3 := wS_cons.mp w2
      have w4 := wS_cons.mp w3.2
      split at hp
      · rename_i hr
        have key := acmp_g (cd := cd) Rp w4.1 w3.1 hr.1 hr.2
        split at hp
        · rename_i ha
          split at hp
          · rename_i ho
            cases hp
            refine ⟨Lands.same X rfl Rp N w1 w4.2 fun target hr' => ?_, rfl⟩
            exact XT.acmpYes X.here hx rfl rfl hd rfl (by rw [gv_isRef]; exact hr.1) (by rw [gv_isRef]; exact hr.2) (key.trans ha) ho rfl hr'
          · cases hp
        · rename_i ha
          cases hp
          refine ⟨Lands.same X rfl Rp N w1 w4.2 fun target hr' => ?_, rfl⟩
          exact XT.acmpNo X.here hx rfl hd rfl (by rw [gv_isRef]; exact hr.1) (by rw [gv_isRef]; exact hr.2) (key.trans (by simpa using ha)) hr'
      · cases hp
    · cases hp
  case checkcast idx =>
    dsimp only [hstep] at hp
    split at hp
    · rename_i a r
      split at hp
      · rename_i k1 vs ha
        split at hp
        · rename_i hs
          cases hp
          obtain ⟨KK, v1, v2⟩ := V
          obtain ⟨C, c1, c2⟩ := v2 k1 (by simpa using hs)
          have E : Exa Z T.heap (g a) C := by
            unfold kNm at c1
            split at c1
            · rename_i hq
              cases c1
              exact Rp.exaA ha hq
            · obtain ⟨⟨C', fs⟩, h1, h2⟩ := Option.map_eq_some_iff.mp c1
              cases h2
              exact Rp.exa ha h1
          obtain ⟨T', X', e', st⟩ := castY X hx hZ hown v1 rfl (Ins.of_exa E c2) (g := mkF m pc (gL g L) (gS g (.ref a :: r))) rfl rfl hd
          exact ⟨Lands.same X' e' Rp N w1 w2 st, rfl⟩
        · cases hp
      · cases hp
    · cases hp
  case invokespecial idx =>
    dsimp only [hstep] at hp
    split at hp
    · rename_i a r
      cases hp
      obtain ⟨v1, v2, v3⟩ := V
      obtain ⟨T', X', e', st⟩ := initO X hx hZ hown v1 v2 v3 rfl (g := mkF m pc (gL g L) (gS g (.ref a :: S'))) rfl (by rw [gL_len]; exact hsz) rfl hd hf (W := csum S') (by show 2 * 0 + csum (gS g S') ≤ _; rw [show csum (gS g S') = csum S' from gS_cat g S']; omega) hw
      exact ⟨Lands.same X' e' Rp N w1 (wS_cons.mp w2).2 st, rfl⟩
    · cases hp
  case invokestatic idx =>
    dsimp only [hstep] at hp
    split at hp
    · rename_i x na
      split at hp
      · rename_i hna
        split at hp
        · rename_i bb v hv
          split at hp
          case h_2 => cases hp
          rename_i cs1 hq
          cases hp
          obtain rfl : bb = true := need_ok hq hc
          obtain ⟨y, ds, d0, v1, v2, v3, v4, v40, v41, v5, ⟨ps, rr, v6, v7⟩, v8⟩ := V
          have v4s : ∀ d ∈ ds, d.before args s = true := fun d hd => mv hZ (v4 d hd).2 (v4 d hd).1
          obtain ⟨b1, b2, b3⟩ := v8 _ v hv
          have es : gS g S = (S.take na).reverse.reverse ++ gS g (S.drop na) := by
            have h1 := b1 g
            conv => lhs; rw [← List.take_append_drop na S]
            rw [List.reverse_reverse]
            simp only [gS, List.map_append]
            have h2 : (S.take na).map (gv g) = S.take na := by
              have := congrArg List.reverse h1
              simpa [gS] using this
            rw [h2]
          obtain ⟨T', X', e', st⟩ := natG X hx hZ hown v1 v2 v3 (v4s d0 v40) v41 v5 rfl (W := csum (S.drop na)) (F := fun a' => a' = (S.take na).reverse.toArray) (val := v) (b3 l R p e below s args _ v4s hf hw) (g := mkF m pc (gL g L) (gS g S)) rfl (by rw [gL_len]; exact hsz) (argsL := (S.take na).reverse) (rest := gS g (S.drop na)) (lenOf v6 (by simp; omega)) es (by show 2 * 0 + csum (gS g (S.drop na)) ≤ _; rw [show csum (gS g (S.drop na)) = csum (S.drop na) from gS_cat g _]; omega) hd hk hn rfl
          refine ⟨Lands.same X' e' Rp N w1 (wS_cons.mpr ⟨?_, fun z hz => w2 z (List.mem_of_mem_drop hz)⟩) fun target hr => st target ?_, rfl⟩
          · have := b2 (fun i => i + 1)
            cases v <;> first | trivial | (simp [gv] at this)
          · simp only [gS, List.map_cons, b2 g] at hr
            exact hr
        · cases hp
      · cases hp
    · exact hCp_ok X hx hZ hown Rp N w1 w2 hd V hsz hp hc hf hw
    · cases hp
  case invokevirtual idx =>
    dsimp only [hstep] at hp
    split at hp
    · rename_i kk a r
      split at hp
      · rename_i k1 vs ha
        split at hp
        · rename_i ek
          subst ek
          simp only [forceL_eq, forceN_eq] at hp
          cases hp
          obtain ⟨ty, ad, h0, h00, v1, v2, v3, v4, v5, v6⟩ := V
          obtain ⟨cl, q1, q2, q3, q4, q5, q6⟩ := (Rp.ob ha).2 ty ad h0
          have fc : FitC Z cl := fun i v hv => by
            obtain ⟨hs, kz, hk1, comp, hkind⟩ := q1.2.1
            have hv2 : v ∈ gS g vs := by
              rw [← q2]; exact Array.mem_toList_iff.mpr (Array.mem_of_getElem? hv)
            obtain ⟨u, hu, rfl⟩ := List.mem_map.mp hv2
            have hfu := q6 u hu
            have hfu' : fits ty (gv g u) = true := by cases u <;> first | exact hfu | (cases ty <;> simp_all [fits, gv])
            simp [State.fitsSlot, State.slotType?, hk1, hkind, hfu']
          obtain ⟨T', h', X', e', E', Ar, Ex, st⟩ := cloneA X hx hZ hown v1 v2 v3 v4 v5 v6 rfl q1 (exa_arr q1 q4 q5) fc (g := mkF m pc (gL g L) (gS g (.ref a :: r))) rfl (by rw [gL_len]; exact hsz) rfl hd hf (W := csum r) (cap := vs.length) (by show 2 * 0 + csum (gS g r) ≤ _; rw [show csum (gS g r) = csum r from gS_cat g r]; omega) hw (Nat.le_of_eq (arr_size q2)) hk hn
          subst e'
          have old := gnew_old g A.length T.heap.size
          refine ⟨⟨T', _, gnew g A.length T.heap.size, X', Rp.new E' Ar.lt ⟨fun C' fs' hk' => ?_, fun ty' nm hk' => ?_⟩ (Rp.wf ha), N, old, by simp, ?_, ?_, ?_⟩, rfl⟩
          · rw [h00] at hk'; cases hk'
          · cases h0.symm.trans hk'
            exact ⟨_, Ar, by rw [gS_cong old (Rp.wf ha)]; exact q2, q3, q4, rfl, q6⟩
          · intro x hx'; exact wsl_mono (by simp) (w1 x hx')
          · refine wS_cons.mpr ⟨by show A.length < (A ++ _).length; simp, fun x hx' => wv_mono (by simp) ((wS_cons.mp w2).2 x hx')⟩
          · intro target hr
            refine st target ?_
            have e1 : gL (gnew g A.length T.heap.size) L = gL g L := gL_cong old w1
            have e2 : gS (gnew g A.length T.heap.size) r = gS g r := gS_cong old (wS_cons.mp w2).2
            simp only [gS, List.map_cons] at hr e2
            rw [e1, e2] at hr
            simp only [gv, gnew_new] at hr
            exact hr
        · cases hp
      · cases hp
    · cases hp
  case iaload => exact hAl_ok X hx hZ Rp N w1 w2 hd hp hc
  case laload => exact hAl_ok X hx hZ Rp N w1 w2 hd hp hc
  case daload => exact hAl_ok X hx hZ Rp N w1 w2 hd hp hc
  case baload => exact hAl_ok X hx hZ Rp N w1 w2 hd hp hc
  case iastore => exact hAs_ok X hx hZ K Rp N w1 w2 hd hp hc
  case lastore => exact hAs_ok X hx hZ K Rp N w1 w2 hd hp hc
  case dastore => exact hAs_ok X hx hZ K Rp N w1 w2 hd hp hc
  case bastore => exact hAs_ok X hx hZ K Rp N w1 w2 hd hp hc
  all_goals (cases hp)
end HeapStep
/-! the run of a method -/
abbrev RR : Type := List Prop × Orc × Option Value × AH × Nat × Nat × Nat × Nat
/-- code, max locals, returned type, fields at first and slots, payers and their room, how many objects stood -/
abbrev EV : Type := (Nat → Nat → Option Ent) × (Nat → Nat) × (Nat → Option FieldType) × (Nat → List Value × Nat) × (Nat → List Value → Option (Bool × Value)) × (Nat → Nat × Nat) × Nat
def pinS (b : Option Bool) (o : Orc) (S : List Value) : Option (List Prop × Orc × List Value) :=
  match b with
  | some true => (match o, S with
    | none, S => some ([], none, S)
    | some (bs, x :: r), .int y :: S => some ([y = x], some (bs, r), .int x :: S)
    | _, _ => none)
  | _ => some ([], o, S)
theorem pinS_ok {b : Option Bool} {o o' : Orc} {S S' : List Value} {cs : List Prop} (h : pinS b o S = some (cs, o', S')) (hc : ∀ P ∈ cs, P) : S' = S := by
  unfold pinS at h
  split at h
  · split at h
    · cases h; rfl
    · cases h
      rw [hc _ (List.mem_singleton.mpr rfl)]
    · cases h
  · cases h; rfl
def isPure : Instr → Bool
  | .ldc _ | .ldc_w _ | .ldc2_w _ | .getstatic _ | .getfield _ | .putfield _ | .new _ | .newarray _ | .arraylength | .iaload | .laload | .daload | .baload | .iastore | .lastore | .dastore | .bastore | .if_acmp _ _ | .checkcast _ | .invokespecial _ | .invokestatic _ | .invokevirtual _ => false
  | _ => true
def step (E : EV) (i : Instr) (nums : List Nat) (val : Value) (o : Orc) (pc : Nat) (L : List Slot) (S : List Value) (A : AH) : Option HR :=
  match isPure i with
  | true => (match pstep i o pc L S with
    | some (cs, o', pc', L', S') => some (cs, o', pc', L', S', A, 0, 0, 0, 0)
    | none => none)
  | false => hstep E.2.2.2.2.2.2 E.2.2.2.1 E.2.2.2.2.1 E.2.2.2.2.2.1 i nums val o pc L S A
/-- a step whose numbers are known needs no oracle -/
def stepC (E : EV) (b : Option Bool) (i : Instr) (nums : List Nat) (val : Value) (o : Orc) (pc : Nat) (L : List Slot) (S : List Value) (A : AH) : Option HR :=
  match b with
  | some false => (match step E i nums val none pc L S A with
    | some (cs, _, pc', L', S', A', k, n, f, w) => some (cs, o, pc', L', S', A', k, n, f, w)
    | none => none)
  | _ => step E i nums val o pc L S A
theorem stepC_ok {E : EV} {b : Option Bool} {i : Instr} {nums : List Nat} {val : Value} {o o' : Orc} {pc : Nat} {L : List Slot} {S : List Value} {A : AH} {cs : List Prop} {r : Nat × List Slot × List Value × AH × Nat × Nat × Nat × Nat} (h : stepC E b i nums val o pc L S A = some (cs, o', r)) : ∃ o1 o2, step E i nums val o1 pc L S A = some (cs, o2, r) := by
  unfold stepC at h
  split at h
  · split at h
    · rename_i q; cases h; exact ⟨_, _, q⟩
    · cases h
  · exact ⟨_, _, h⟩
def look : List Nat → Nat → Option Nat
  | k :: m :: r, x => if k = x then some m else look r x
  | _, _ => none
/-- what is called: the body, its arguments, what lies under -/
def callee (i : Instr) (nums : List Nat) (S : List Value) (A : AH) : Option (Nat × List Value × List Value) :=
  match i with
  | .invokestatic _ =>
    match nums with
    | [1, b, na] => if na ≤ S.length then some (b, (S.take na).reverse, S.drop na) else none
    | _ => none
  | .invokespecial _ =>
    match nums with
    | [1, b, na] => (match S.drop na with
      | .ref a :: rest => some (b, .ref a :: (S.take na).reverse, rest)
      | _ => none)
    | _ => none
  | .invokevirtual _ =>
    match nums with
    | 1 :: na :: tb => (match S.drop na with
      | .ref a :: rest => (match A[a]? with
        | some (k, _) => (match look tb k with
          | some b => some (b, .ref a :: (S.take na).reverse, rest)
          | none => none)
        | none => none)
      | _ => none)
    | _ => none
  | _ => none
/-- what is returned -/
def retV (i : Instr) (t : Option FieldType) (S : List Value) : Option (Option Value) :=
  match i, t, S with
  | .ireturn, some .int, .int x :: _ => some (some (.int x))
  | .ireturn, some .boolean, .int x :: _ => some (some (.int (x &&& 1)))
  | .ireturn, some .byte, .int x :: _ => some (some (.int x.toInt8.toInt32))
  | .ireturn, some .char, .int x :: _ => some (some (.int x.toUInt32.toUInt16.toUInt32.toInt32))
  | .lreturn, some .long, .long x :: _ => some (some (.long x))
  | .dreturn, some .double, .double x :: _ => some (some (.double x))
  | .areturn, some (.object _), .ref a :: _ => some (some (.ref a))
  | .areturn, some (.object _), .null :: _ => some (some .null)
  | .areturn, some (.array _), .ref a :: _ => some (some (.ref a))
  | .areturn, some (.array _), .null :: _ => some (some .null)
  | .return_, none, [] => some none
  | _, _, _ => none
def aFill : List Value → List Slot
  | [] => []
  | v :: r => if v.category = 2 then .val v :: .second :: aFill r else .val v :: aFill r
def aL (as : List Value) (n : Nat) : List Slot := aFill as ++ List.replicate (n - (aFill as).length) .unset
/-- a choice of two constants: what is asked -/
def selB (i : Instr) (S : List Value) : Option (Bool × List Value) :=
  match i, S with
  | .ifCond c _, .int x :: r => some (ifCond.holds c x, r)
  | .if_icmp c _, .int y :: .int x :: r => some (if_icmp.holds c x y, r)
  | _, _ => none
/-- and which two: if it is so, if not -/
def selV (i : Instr) (L : List Slot) : Option Int32 :=
  match i with
  | .iconst y => some (Int32.ofInt y)
  | .iload_n k => (match L[k.val]? with
    | some (.val (.int x)) => some x
    | _ => none)
  | _ => none
def selX (E : EV) (M pc : Nat) (L : List Slot) (i : Instr) : Option (Int32 × Int32) :=
  match i, E.1 M (pc + 3), E.1 M (pc + 4), E.1 M (pc + 7) with
  | .ifCond _ 7, some (a, _), some (.goto 4, _), some (b, _) => (match selV a L, selV b L with
    | some y, some x => some (x, y)
    | _, _ => none)
  | .if_icmp _ 7, some (a, _), some (.goto 4, _), some (b, _) => (match selV a L, selV b L with
    | some y, some x => some (x, y)
    | _, _ => none)
  | _, _, _, _ => none
def sort (i : Instr) (nums : List Nat) : Nat :=
  match i with
  | .ifCond _ _ | .if_icmp _ _ => (match nums with
    | 7 :: _ => 3
    | _ => 2)
  | .ireturn | .lreturn | .dreturn | .areturn | .return_ => 0
  | .invokestatic _ | .invokespecial _ | .invokevirtual _ => (match nums with
    | 1 :: _ => 1
    | _ => 2)
  | _ => 2
def run (E : EV) : Nat → Nat → Nat → List Slot → List Value → AH → Orc → Option RR
  | 0, _, _, _, _, _, _ => none
  | fuel + 1, M, pc, L, S, A, o =>
    match E.1 M pc with
    | none => none
    | some (i, pin, nums, val) =>
      match pinS pin o S with
      | none => none
      | some (c0, o, S) =>
        match sort i nums with
        | 0 => (match retV i (E.2.2.1 M) S with
          | some v => some (c0, o, v, A, 0, 0, 0, 0)
          | none => none)
        | 1 => (match callee i nums S A with
          | none => none
          | some (b, as, rest) => if (aFill as).length ≤ E.2.1 b then (match forceL (aL as (E.2.1 b)) (fun L0 => run E fuel b 0 L0 [] A o) with
            | none => none
            | some (c1, o1, v1, A1, k1, n1, f1, w1) => (match forceN (pc + 3) (fun q => forceL (v1.toList ++ rest) (fun S0 => run E fuel M q L S0 A1 o1)) with
              | none => none
              | some (c2, o2, v2, A2, k2, n2, f2, w2) => forceN (k1 + k2) fun k => forceN (n1 + n2) fun n => forceN (max (f1 + 1) f2) fun f => forceN (max (csum rest + (E.2.1 b + 11) + w1) w2) fun w => some (c0 ++ (c1 ++ c2), o2, v2, A2, k, n, f, w))) else none)
        | 3 => (match selX E M pc L i, selB i S with
          | some (x, y), some (b, r) => (match forceN (pc + 8) (fun q => run E fuel M q L (.int (bif b then x else y) :: r) A o) with
            | none => none
            | some (c2, o2, v2, A2, k2, n2, f2, w2) => some (c0 ++ c2, o2, v2, A2, k2, n2, f2, w2))
          | _, _ => none)
        | _ => (match stepC E pin i nums val o pc L S A with
          | none => none
          | some (c1, o1, pc1, L1, S1, A1, k1, n1, f1, w1) => (match forceN pc1 (fun q => run E fuel M q L1 S1 A1 o1) with
            | none => none
            | some (c2, o2, v2, A2, k2, n2, f2, w2) => forceN (k1 + k2) fun k => forceN (n1 + n2) fun n => forceN (max f1 f2) fun f => forceN (max w1 w2) fun w => some (c0 ++ (c1 ++ c2), o2, v2, A2, k, n, f, w)))
section Run
variable {Z : State} {a0 : Array Value} {kc : KTy} {sl : SL} {n0 : Nat} {E : EV} {nm : Nat → MethodName} {by_ : Nat → ByteArray}
def VirtW (Z : State) (a0 : Array Value) (kc : KTy) (E : EV) (nm : Nat → MethodName) (by_ : Nat → ByteArray) (own : String) (idx na : Nat) (tb : List Nat) : Prop := ∃ y : MethodName, (Cond.methodLink own idx y).before a0 Z = true ∧ (Cond.declares y).before a0 Z = true ∧ (∀ s : State, Z.Warmed39 s.vm → NotFace s y) ∧ notMH y ∧ nArgs y na ∧ ∀ k b, look tb k = some b → ∃ C fs, kc k = some (C, fs) ∧ (Cond.selects C y (nm b)).before a0 Z = true ∧ (Cond.instanceMethod (nm b)).before a0 Z = true ∧ (Cond.code (nm b) (by_ b) (E.2.1 b) (E.2.2.1 b)).before a0 Z = true ∧ (Cond.initialized (nm b).cls).before a0 Z = true ∧ plainFor (nm b) = true
/-- of a private method, called on an object of its own class -/
def PrivW (Z : State) (a0 : Array Value) (kc : KTy) (E : EV) (nm : Nat → MethodName) (by_ : Nat → ByteArray) (own : String) (idx na k b : Nat) : Prop :=
  ∃ (fs : List Fd) (kk : Nat), kc k = some ((nm b).cls, fs) ∧ (Cond.methodLink own idx (nm b)).before a0 Z = true ∧ (Cond.instanceMethod (nm b)).before a0 Z = true ∧ (Cond.privateMethod (nm b)).before a0 Z = true ∧ (Cond.instantiable (nm b).cls kk).before a0 Z = true ∧ (Cond.code (nm b) (by_ b) (E.2.1 b) (E.2.2.1 b)).before a0 Z = true ∧ (Cond.initialized (nm b).cls).before a0 Z = true ∧ notMH (nm b) ∧ nArgs (nm b) na ∧ plainFor (nm b) = true
def VC (Z : State) (a0 : Array Value) (kc : KTy) (E : EV) (nm : Nat → MethodName) (by_ : Nat → ByteArray) (own : String) : Instr → List Nat → Prop
  | .invokestatic idx, [1, b, na] => (Cond.methodLink own idx (nm b)).before a0 Z = true ∧ (Cond.static (nm b)).before a0 Z = true ∧ (Cond.initialized (nm b).cls).before a0 Z = true ∧ (Cond.code (nm b) (by_ b) (E.2.1 b) (E.2.2.1 b)).before a0 Z = true ∧ notMH (nm b) ∧ nArgs (nm b) na ∧ plainFor (nm b) = true
  | .invokespecial idx, [1, b, na] => (nm b).name = "<init>" ∧ (Cond.methodLink own idx (nm b)).before a0 Z = true ∧ (Cond.instanceMethod (nm b)).before a0 Z = true ∧ (Cond.initialized (nm b).cls).before a0 Z = true ∧ (Cond.code (nm b) (by_ b) (E.2.1 b) none).before a0 Z = true ∧ E.2.2.1 b = none ∧ notMH (nm b) ∧ nArgs (nm b) na ∧ plainFor (nm b) = true
  | .invokevirtual idx, [1, na, k, b, 7] => PrivW Z a0 kc E nm by_ own idx na k b
  | .invokevirtual idx, 1 :: na :: tb => VirtW Z a0 kc E nm by_ own idx na tb
  | _, _ => True
theorem VC_virt {own : String} {idx na : Nat} {tb : List Nat} (h : VC Z a0 kc E nm by_ own (.invokevirtual idx) (1 :: na :: tb)) : (∃ k b, tb = [k, b, 7] ∧ PrivW Z a0 kc E nm by_ own idx na k b) ∨ VirtW Z a0 kc E nm by_ own idx na tb := by
  unfold VC at h
  split at h
  all_goals first | (rename_i e1 e2; cases e1; done) | skip
  · rename_i e1 e2
    cases e1
    cases e2
    exact Or.inl ⟨_, _, rfl, h⟩
  · rename_i e1 e2
    cases e1
    cases e2
    exact Or.inr h
  · rename_i h3 h4
    exact absurd rfl (h4 idx na tb rfl)
/-- each entry of the code is what the bytes and the sheet's words say -/
def MOk (Z : State) (a0 : Array Value) (kc : KTy) (sl : SL) (E : EV) (nm : Nat → MethodName) (by_ : Nat → ByteArray) : Prop :=
  ∀ M pc i pin nums val, E.1 M pc = some (i, pin, nums, val) → decode (by_ M) pc = .ok (i, ilen i) ∧ VI Z a0 kc sl E.2.2.2.1 E.2.2.2.2.1 E.2.2.2.2.2.1 (nm M).cls (nm M).name i nums val ∧ VC Z a0 kc E nm by_ (nm M).cls i nums
theorem step_ok {p : Program} {l : Launch} {e : Env} {R : Room} {s : State} {m : MethodId} {args : Array Value} {below : List Frame} {meth : Method} {c : Code} {T : State} {locs : List Loc} {cells slots : Nat} {g : Nat → Addr} {A : AH} {own mname : String}
    (X : Stand p l e R s m args below meth c T locs cells slots) (hx : p.tables.exec = Jvm.exec) (hZ : Z.Warmed39 s.vm) (hown : s.vm.findClass own = some m.cls) (hnm : meth.name = mname) (K : KOk Z a0 kc) (Rp : Rep Z kc sl n0 E.2.2.2.2.2.2 T.heap g A) (N : Fr n0 locs)
    {i : Instr} {nums : List Nat} {val : Value} {o o' : Orc} {pc pc' k n f w : Nat} {L L' : List Slot} {S S' : List Value} {A' : AH} {cs : List Prop} (w1 : wL A.length L) (w2 : wS A.length S) (hd : decode c.code pc = .ok (i, ilen i)) (V : VI Z a0 kc sl E.2.2.2.1 E.2.2.2.2.1 E.2.2.2.2.2.1 own mname i nums val) (hsz : L.length = c.maxLocals)
    (hp : step E i nums val o pc L S A = some (cs, o', pc', L', S', A', k, n, f, w)) (hc : ∀ P ∈ cs, P) (hk : cells + k ≤ R.cells) (hn : slots + n ≤ R.slots) (hf : f ≤ R.frames) (hw : w ≤ R.locals) :
    Lands p l e R s m args below meth c Z kc sl n0 E.2.2.2.2.2.2 T (mkF m pc (gL g L) (gS g S)) g A (cells + k) (slots + n) pc' L' S' A' ∧ L'.length = L.length := by
  unfold step at hp
  split at hp
  · split at hp
    · rename_i hq
      cases hp
      obtain ⟨q1, q2, q3⟩ := pstep_wf hq w1 w2
      exact ⟨Lands.same X rfl Rp N q1 q2 fun target hr => pstep_ok X.here hx g hq hd hc hr, q3⟩
    · cases hp
  · exact hstep_ok X hx hZ hown hnm K Rp N w1 w2 hd V hsz hp hc hk hn hf hw
/-- the walk ends: returned -/
def Ends (p : Program) (e : Env) (s : State) (below : List Frame) (Z : State) (kc : KTy) (sl : SL) (n0 k0 : Nat) (T : State) (f0 : JFrame) (g : Nat → Addr) (A : AH) (cells slots : Nat) (v : Option Value) (A' : AH) : Prop :=
  ∃ (V : State) (locs' : List Loc) (g' : Nat → Addr), Steps p.tables e below (T.setTop f0) V ∧ V.status = .running ∧ Ended V below (.returned (v.map (gv g'))) ∧ s.WarmedH V.vm ∧ s.sameButNew ({ V with vm := s.vm } : State) locs' cells slots ∧ Rep Z kc sl n0 k0 V.heap g' A' ∧ Fr n0 locs' ∧ (∀ i, i < A.length → g' i = g i) ∧ A.length ≤ A'.length ∧ ∀ u, v = some u → wv A'.length u
theorem ret_ok {p : Program} {l : Launch} {e : Env} {R : Room} {s : State} {m : MethodId} {args : Array Value} {below : List Frame} {meth : Method} {c : Code} {T : State} {locs : List Loc} {cells slots k0 : Nat} {g : Nat → Addr} {A : AH}
    (X : Stand p l e R s m args below meth c T locs cells slots) (hx : p.tables.exec = Jvm.exec) (hlk : meth.locks = false) (Rp : Rep Z kc sl n0 k0 T.heap g A) (N : Fr n0 locs) {i : Instr} {t : Option FieldType} {S : List Value} {v : Option Value} (w2 : wS A.length S) (hrt : meth.sig.returnType = t) (hv : retV i t S = some v) {pc : Nat} {Ls : Array Slot} (hd : decode c.code pc = .ok (i, ilen i)) :
    Ends p e s below Z kc sl n0 k0 T (mkF m pc Ls (gS g S)) g A cells slots v A := by
  have key : ∀ (hq : meth.sig.returnType = none → v.map (gv g) = none), (∀ fs, (∀ (f : JFrame) (acts : List Action), f.method = m → f.locked = none → f.entered = [] → (doReturn e (T.setTop f) acts (v.map (gv g))).1 = T.setFrames fs) → Steps p.tables e below (T.setTop (mkF m pc Ls (gS g S))) (T.setFrames fs)) → (∀ u, v = some u → wv A.length u) → Ends p e s below Z kc sl n0 k0 T (mkF m pc Ls (gS g S)) g A cells slots v A := by
    intro hq hst hw
    obtain ⟨fs, hr, hrun, hended, hW, hsame⟩ := X.leave (v := v.map (gv g)) hq hlk
    exact ⟨_, locs, g, hst fs hr, hrun, hended, hW, hsame, Rp, N, fun _ _ => rfl, Nat.le_refl _, hw⟩
  unfold retV at hv
  split at hv
  · cases hv
    exact key (fun h => by rw [hrt] at h; cases h) (fun fs hr => retOut X hx hrt rfl (Or.inl ⟨rfl, Or.inl rfl, _, rfl⟩) hd hr) (fun u hu => by cases hu; trivial)
  · cases hv
    exact key (fun h => by rw [hrt] at h; cases h) (fun fs hr => retN X hx (t := .boolean) hrt (by simp) hd hr) (fun u hu => by cases hu; trivial)
  · cases hv
    exact key (fun h => by rw [hrt] at h; cases h) (fun fs hr => retN X hx (t := .byte) hrt (by simp) hd hr) (fun u hu => by cases hu; trivial)
  · cases hv
    exact key (fun h => by rw [hrt] at h; cases h) (fun fs hr => retN X hx (t := .char) hrt (by simp) hd hr) (fun u hu => by cases hu; trivial)
  · cases hv
    exact key (fun h => by rw [hrt] at h; cases h) (fun fs hr => retOut X hx hrt rfl (Or.inr (Or.inl ⟨rfl, rfl, _, rfl⟩)) hd hr) (fun u hu => by cases hu; trivial)
  · cases hv
    exact key (fun h => by rw [hrt] at h; cases h) (fun fs hr => retOut X hx hrt rfl (Or.inr (Or.inr (Or.inl ⟨rfl, rfl, _, rfl⟩))) hd hr) (fun u hu => by cases hu; trivial)
  · cases hv
    exact key (fun h => by rw [hrt] at h; cases h) (fun fs hr => retOut X hx hrt rfl (Or.inr (Or.inr (Or.inr (Or.inr ⟨rfl, rfl, rfl⟩)))) hd hr) (fun u hu => by cases hu; exact (wS_cons.mp w2).1)
  · cases hv
    exact key (fun h => by rw [hrt] at h; cases h) (fun fs hr => retOut X hx hrt rfl (Or.inr (Or.inr (Or.inr (Or.inr ⟨rfl, rfl, rfl⟩)))) hd hr) (fun u hu => by cases hu; trivial)
  · cases hv
    exact key (fun h => by rw [hrt] at h; cases h) (fun fs hr => retOut X hx hrt rfl (Or.inr (Or.inr (Or.inr (Or.inr ⟨rfl, rfl, rfl⟩)))) hd hr) (fun u hu => by cases hu; exact (wS_cons.mp w2).1)
  · cases hv
    exact key (fun h => by rw [hrt] at h; cases h) (fun fs hr => retOut X hx hrt rfl (Or.inr (Or.inr (Or.inr (Or.inr ⟨rfl, rfl, rfl⟩)))) hd hr) (fun u hu => by cases hu; trivial)
  · cases hv
    exact key (fun _ => rfl) (fun fs hr => X.returnOut hx hrt hd hr) (fun u hu => by cases hu)
  · cases hv
theorem aFill_gs (g : Nat → Addr) (as : List Value) : (aFill as).map (gs g) = aFill (gS g as) := by
  induction as with
  | nil => rfl
  | cons v r ih =>
    simp only [aFill, gS, List.map_cons, gv_cat] at ih ⊢
    split <;> simp [gs, ih]
theorem foldl_fill (as : List Value) (acc : Array Slot) : as.foldl (fun acc v => if v.category = 2 then (acc.push (.val v)).push .second else acc.push (.val v)) acc = acc ++ (aFill as).toArray := by
  induction as generalizing acc with
  | nil => simp [aFill]
  | cons v r ih =>
    simp only [List.foldl_cons, aFill]
    rw [ih]
    split <;> simp
theorem entry_gL (m : MethodId) (g : Nat → Addr) (as : List Value) (n : Nat) : entryFrame m (gS g as).toArray n = mkF m 0 (gL g (aL as n)) [] := by
  have h1 : argsToLocals (gS g as).toArray n = gL g (aL as n) := by
    unfold argsToLocals
    simp only [List.foldl_toArray', foldl_fill]
    simp only [gL, aL, List.map_append, aFill_gs, List.map_replicate, gs]
    have : (aFill (gS g as)).length = (aFill as).length := by rw [← aFill_gs]; simp
    simp [this]
  simp [entryFrame, mkF, h1]
theorem aFill_wf {n : Nat} {as : List Value} (w : wS n as) : wL n (aFill as) := by
  induction as with
  | nil => intro s hs; cases hs
  | cons v r ih =>
    have w3 := wS_cons.mp w
    have ih := ih w3.2
    simp only [aFill]
    split
    · intro s hs
      rcases List.mem_cons.mp hs with rfl | hs
      · exact w3.1
      · rcases List.mem_cons.mp hs with rfl | hs
        · trivial
        · exact ih s hs
    · intro s hs
      rcases List.mem_cons.mp hs with rfl | hs
      · exact w3.1
      · exact ih s hs
theorem aL_wf {n k : Nat} {as : List Value} (w : wS n as) : wL n (aL as k) := by
  intro s hs
  rcases List.mem_append.mp hs with q | q
  · exact aFill_wf w s q
  · rw [List.eq_of_mem_replicate q]; trivial
theorem aL_len {k : Nat} {as : List Value} (h : (aFill as).length ≤ k) : (aL as k).length = k := by
  simp [aL]; omega
/-- what a body leaves -/
def Leaves (Z : State) (kc : KTy) (sl : SL) (n0 k0 : Nat) (g : Nat → Addr) (A A' : AH) (v' : Option Value) (v : Option Value) (h : Heap) (L : List Loc) : Prop :=
  ∃ g' : Nat → Addr, v = v'.map (gv g') ∧ Rep Z kc sl n0 k0 h g' A' ∧ Fr n0 L ∧ (∀ i, i < A.length → g' i = g i) ∧ A.length ≤ A'.length ∧ ∀ u, v' = some u → wv A'.length u
/-- that the fuel's runs are sound -/
def Sound (Z : State) (kc : KTy) (sl : SL) (n0 : Nat) (E : EV) (nm : Nat → MethodName) (by_ : Nat → ByteArray) (fuel : Nat) : Prop :=
  ∀ (M pc : Nat) (L : List Slot) (S : List Value) (A : AH) (o o' : Orc) (cs : List Prop) (v : Option Value) (A' : AH) (k n f w : Nat), run E fuel M pc L S A o = some (cs, o', v, A', k, n, f, w) → (∀ P ∈ cs, P) →
    ∀ (p : Program) (l : Launch) (e : Env) (R : Room) (s : State) (m : MethodId) (args : Array Value) (below : List Frame) (meth : Method) (c : Code) (T : State) (locs : List Loc) (cells slots : Nat) (g : Nat → Addr),
      Stand p l e R s m args below meth c T locs cells slots → p.tables.exec = Jvm.exec → Z.Warmed39 s.vm → s.vm.findClass (nm M).cls = some m.cls → c.code = by_ M → c.maxLocals = E.2.1 M → meth.sig.returnType = E.2.2.1 M → meth.name = (nm M).name → meth.locks = false →
      Rep Z kc sl n0 E.2.2.2.2.2.2 T.heap g A → Fr n0 locs → wL A.length L → wS A.length S → L.length = E.2.1 M → cells + k ≤ R.cells → slots + n ≤ R.slots → f ≤ R.frames → w ≤ R.locals →
      Ends p e s below Z kc sl n0 E.2.2.2.2.2.2 T (mkF m pc (gL g L) (gS g S)) g A (cells + k) (slots + n) v A'
/-- a body's contract, of its run -/
theorem Sound.met {fuel : Nat} (H : Sound Z kc sl n0 E nm by_ fuel) {M : Nat} {as : List Value} {A A' : AH} {o o' : Orc} {cs : List Prop} {v : Option Value} {k n f w : Nat} (hrun : run E fuel M 0 (aL as (E.2.1 M)) [] A o = some (cs, o', v, A', k, n, f, w)) (hc : ∀ P ∈ cs, P)
    (hfit : (aFill as).length ≤ E.2.1 M) (hpl : plainFor (nm M) = true) {h0 : Heap} {g : Nat → Addr} (Rp : Rep Z kc sl n0 E.2.2.2.2.2.2 h0 g A) (wf : wS A.length as) (l : Launch) (ws : List Jvm.Cond) (R : Room) (hk : k ≤ R.cells) (hn : n ≤ R.slots) (hf : f ≤ R.frames) (hw : w ≤ R.locals) :
    MetFree l (nm M) (head1 (Jvm.Cond.code (nm M) (by_ M) (E.2.1 M) (E.2.2.1 M) :: ws) R) (fun a U => a = (gS g as).toArray ∧ Z.Warmed39 U.vm ∧ U.heap = h0) (fun _ _ _ _ _ => True) (fun _ U o U' => ∃ v' L, o = .returned v' ∧ Leaves Z kc sl n0 E.2.2.2.2.2.2 g A A' v v' U'.heap L ∧ FrameEnd U o U' L k n) := by
  refine MetFree.of_bodySF hpl hisR ?_
  intro p e s m args below meth c s₁ Bd hml0 hP hK
  obtain ⟨rfl, hZ, hh⟩ := hP
  have hown : s.vm.findClass (nm M).cls = some m.cls := findClass_of_methodNamed Bd.named
  have hnm := (name_of_methodNamed Bd.named Bd.method).1
  have X0 : Stand p l e R s m (gS g as).toArray below meth c s₁ [] 0 0 := Stand.of_body Bd
  have e0 : s₁.heap = h0 := by rw [← hh, Bd.state]; rfl
  obtain ⟨V, locs', g', q1, q2, q3, q4, q5, q6, q7, q8, q9, q10⟩ := H M 0 _ [] A o o' cs v A' k n f w hrun hc p l e R s m _ below meth c s₁ [] 0 0 g X0 Bd.exec hZ hown Bd.bytes hml0 Bd.returns hnm Bd.notSynchronized (by rw [e0]; exact Rp) (Fr.nil n0) (aL_wf wf) (fun _ h => nomatch h) (aL_len hfit) (by omega) (by omega) hf hw
  rw [Nat.zero_add, Nat.zero_add] at q5
  exact ⟨V, _, castTop (entry_gL m g as _) q1, q2, q3, _, _, rfl, ⟨g', rfl, q6, q7, q8, q9, q10⟩, ⟨_, rfl⟩, q4, q5⟩
end Run
section RunSound
variable {Z : State} {a0 : Array Value} {kc : KTy} {sl : SL} {n0 : Nat} {E : EV} {nm : Nat → MethodName} {by_ : Nat → ByteArray}
theorem mem_app {P Q : List Prop} (h : ∀ x ∈ P ++ Q, x) : (∀ x ∈ P, x) ∧ ∀ x ∈ Q, x := ⟨fun x hx => h x (List.mem_append_left _ hx), fun x hx => h x (List.mem_append_right _ hx)⟩
theorem selV_ok {tb : Tables} [Ours tb] {e : Env} {below : List Frame} {T target : State} {m : MethodId} {c : Code} (h : At T m c below) (hx : tb.exec = Jvm.exec) (g : Nat → Addr) {i : Instr} {L : List Slot} {x : Int32} {pc : Nat} {st : List Value} (hv : selV i L = some x) (hd : decode c.code pc = .ok (i, ilen i))
    (hr : Steps tb e below (T.setTop (mkF m (pc + 1) (gL g L) (.int x :: st))) target) : Steps tb e below (T.setTop (mkF m pc (gL g L) st)) target := by
  unfold selV at hv
  split at hv
  · cases hv; exact XS.iconst h hx rfl hd hr
  · split at hv
    · rename_i hl; cases hv; exact XS.iloadN h hx rfl hd (gL_get (g := g) hl) hr
    · cases hv
  · cases hv
theorem sel_ok {tb : Tables} [Ours tb] {e : Env} {below : List Frame} {T target : State} {m : MethodId} {c : Code} (h : At T m c below) (hx : tb.exec = Jvm.exec) (g : Nat → Addr) (MK : MOk Z a0 kc sl E nm by_) {M pc : Nat} {i : Instr} {x y : Int32} {b : Bool} {S r : List Value} {L : List Slot}
    (hby : c.code = by_ M) (hX : selX E M pc L i = some (x, y)) (hB : selB i S = some (b, r)) (hd : decode c.code pc = .ok (i, ilen i))
    (hr : Steps tb e below (T.setTop (mkF m (pc + 8) (gL g L) (.int (bif b then x else y) :: gS g r))) target) : Steps tb e below (T.setTop (mkF m pc (gL g L) (gS g S))) target := by
  have fin : ∀ {y x : Int32} {i3 i7 : Instr} {p3 p4 p7 : Option Bool × List Nat × Value}, E.1 M (pc + 3) = some (i3, p3) → E.1 M (pc + 4) = some (.goto 4, p4) → E.1 M (pc + 7) = some (i7, p7) → selV i3 L = some y → selV i7 L = some x →
      (Steps tb e below (T.setTop (mkF m (pc + 8) (gL g L) (.int x :: gS g r))) target → Steps tb e below (T.setTop (mkF m (pc + 7) (gL g L) (gS g r))) target) ∧ (Steps tb e below (T.setTop (mkF m (pc + 8) (gL g L) (.int y :: gS g r))) target → Steps tb e below (T.setTop (mkF m (pc + 3) (gL g L) (gS g r))) target) := by
    intro y x i3 i7 p3 p4 p7 e3 e4 e7 s3 s7
    obtain ⟨q3, v3, w3⟩ := p3
    obtain ⟨q4, v4, w4⟩ := p4
    obtain ⟨q7, v7, w7⟩ := p7
    have d3 := (MK _ _ _ _ _ _ e3).1
    have d4 := (MK _ _ _ _ _ _ e4).1
    have d7 := (MK _ _ _ _ _ _ e7).1
    rw [← hby] at d3 d4 d7
    refine ⟨fun k => selV_ok h hx g s7 d7 k, fun k => selV_ok h hx g s3 d3 ?_⟩
    exact XS.goto h hx rfl (pc0 := pc + 4) (pc' := pc + 8) rfl d4 (by omega) (by omega) k
  unfold selX at hX
  split at hX
  · rename_i cd i3 p3 p4 i7 p7 e3 e4 e7
    split at hX
    · rename_i y' x' s3 s7
      cases hX
      obtain ⟨f1, f2⟩ := fin e3 e4 e7 s3 s7
      unfold selB at hB
      split at hB
      · rename_i i' S' cd' off xx rr hi
        cases hi
        cases hB
        cases hb : ifCond.holds cd xx with
        | true =>
          rw [hb] at hr
          exact XS.ifYes h hx rfl (pc0 := pc) (pc' := pc + 7) rfl hd rfl hb (by omega) (by omega) (f1 hr)
        | false =>
          rw [hb] at hr
          exact XS.ifNo h hx rfl hd rfl hb (f2 hr)
      · rename_i hi; cases hi
      · cases hB
    · cases hX
  · rename_i cd i3 p3 p4 i7 p7 e3 e4 e7
    split at hX
    · rename_i y' x' s3 s7
      cases hX
      obtain ⟨f1, f2⟩ := fin e3 e4 e7 s3 s7
      unfold selB at hB
      split at hB
      · rename_i hi; cases hi
      · rename_i i' S' cd' off yy xx rr hi
        cases hi
        cases hB
        cases hb : if_icmp.holds cd xx yy with
        | true =>
          rw [hb] at hr
          exact XS.icmpYes h hx rfl (pc0 := pc) (pc' := pc + 7) rfl hd rfl hb (by omega) (by omega) (f1 hr)
        | false =>
          rw [hb] at hr
          exact XS.icmpNo h hx rfl hd rfl hb (f2 hr)
      · cases hB
    · cases hX
  · cases hX
theorem selB_wf {n : Nat} {i : Instr} {S r : List Value} {b : Bool} (hB : selB i S = some (b, r)) (w : wS n S) : wS n r := by
  unfold selB at hB
  split at hB
  · cases hB; exact (wS_cons.mp w).2
  · cases hB; exact (wS_cons.mp (wS_cons.mp w).2).2
  · cases hB
set_option maxHeartbeats 4000000 in
theorem run_sound (K : KOk Z a0 kc) (MK : MOk Z a0 kc sl E nm by_) : ∀ fuel, Sound Z kc sl n0 E nm by_ fuel
  | 0 => fun M pc L S A o o' cs v A' k n f w hrun => by
    rw [run] at hrun; cases hrun
  | fuel + 1 => by
    have IH := run_sound K MK fuel
    intro M pc L S A o o' cs v A' k n f w hrun hc p l e R s m args below meth c T locs cells slots g X hx hZ hown hby hml hrt hnm hlk Rp N w1 w2 hsz hk hn hf hw
    rw [run] at hrun
    simp only [forceL_eq, forceN_eq] at hrun
    split at hrun
    · cases hrun
    rename_i i pin nums val hcode
    obtain ⟨d1, d2, d3⟩ := MK M pc i pin nums val hcode
    have hd : decode c.code pc = .ok (i, ilen i) := by rw [hby]; exact d1
    split at hrun
    · cases hrun
    rename_i c0 o1 S1 hpin
    split at hrun
    · -- a return
      split at hrun
      · rename_i v1 hv
        cases hrun
        have := pinS_ok hpin hc
        subst this
        exact ret_ok X hx hlk Rp N w2 hrt hv hd
      · cases hrun
    · -- a call
      split at hrun
      · cases hrun
      rename_i b as rest hcal
      split at hrun
      · rename_i hfit
        split at hrun
        · cases hrun
        rename_i c1 o2 v1 A1 k1 n1 f1 w1' hr1
        split at hrun
        · cases hrun
        rename_i c2 o3 v2 A2 k2 n2 f2 w2' hr2
        cases hrun
        obtain ⟨hc0, hc12⟩ := mem_app hc
        obtain ⟨hc1, hc2⟩ := mem_app hc12
        have := pinS_ok hpin hc0
        subst this
        have fin : ∀ {T2 : State} {Lc : List Loc} {v' : Option Value}, Stand p l e R s m args below meth c T2 (locs ++ Lc) (cells + k1) (slots + n1) → Leaves Z kc sl n0 E.2.2.2.2.2.2 g A A1 v1 v' T2.heap Lc → wS A.length rest →
            (∀ target, Steps p.tables e below (T2.setTop (mkF m (pc + 3) (gL g L) (v'.toList ++ gS g rest))) target → Steps p.tables e below (T.setTop (mkF m pc (gL g L) (gS g S1))) target) →
            Ends p e s below Z kc sl n0 E.2.2.2.2.2.2 T (mkF m pc (gL g L) (gS g S1)) g A (cells + (k1 + k2)) (slots + (n1 + n2)) v A' := by
          intro T2 Lc v' X2 hQ wr st
          obtain ⟨g1, rfl, r1, r2, r3, r4, r5⟩ := hQ
          have e1 : gL g1 L = gL g L := gL_cong r3 w1
          have e2 : gS g1 rest = gS g rest := gS_cong r3 wr
          have e3 : (v1.map (gv g1)).toList ++ gS g rest = gS g1 (v1.toList ++ rest) := by
            rw [← e2]
            cases v1 <;> simp [gS]
          have wS2 : wS A1.length (v1.toList ++ rest) := by
            intro x hx'
            rcases List.mem_append.mp hx' with q | q
            · cases v1 with
              | none => cases q
              | some u => rw [Option.toList_some, List.mem_singleton] at q; subst q; exact r5 x rfl
            · exact wv_mono r4 (wr x q)
          obtain ⟨V, locs', g', q1, q2, q3, q4, q5, q6, q7, q8, q9, q10⟩ := IH M (pc + 3) L (v1.toList ++ rest) A1 o2 o' c2 v A' k2 n2 f2 w2' hr2 hc2 p l e R s m args below meth c T2 (locs ++ Lc) (cells + k1) (slots + n1) g1 X2 hx hZ hown hby hml hrt hnm hlk r1 (Fr.app N r2) (fun x hx' => wsl_mono r4 (w1 x hx')) wS2 hsz (by omega) (by omega) (by omega) (by omega)
          refine ⟨V, locs', g', st V ?_, q2, q3, q4, ?_, q6, q7, fun j hj => (q8 j (by omega)).trans (r3 j hj), by omega, q10⟩
          · rw [e3, ← e1]; exact q1
          · rw [show cells + (k1 + k2) = cells + k1 + k2 by omega, show slots + (n1 + n2) = slots + n1 + n2 by omega]; exact q5
        have hszc : (gL g L).size = c.maxLocals := by rw [gL_len, hml]; exact hsz
        have hWr : 2 * 0 + csum (gS g rest) ≤ csum rest := by rw [show csum (gS g rest) = csum rest from gS_cat g rest]; omega
        unfold callee at hcal
        split at hcal
        · -- static
          rename_i idx
          split at hcal
          · rename_i b' na
            split at hcal
            · rename_i hna
              cases hcal
              obtain ⟨u1, u2, u3, u4, u5, ⟨ps, rr, u6, u7⟩, u8⟩ := d3
              have was : wS A.length (S1.take na).reverse := fun x hx' => w2 x (List.mem_of_mem_take (List.mem_reverse.mp hx'))
              have wre : wS A.length (S1.drop na) := fun x hx' => w2 x (List.mem_of_mem_drop hx')
              have met := IH.met hr1 hc1 hfit u8 Rp was l [] ({ frames := f1, cells := k1, slots := n1, locals := w1' } : Room) (Nat.le_refl _) (Nat.le_refl _) (Nat.le_refl _) (Nat.le_refl _)
              have hst : gS g S1 = (gS g (S1.take na).reverse).reverse ++ gS g (S1.drop na) := by
                conv => lhs; rw [← List.take_append_drop na S1]
                simp [gS]
              obtain ⟨_, _, ⟨T2, L2, kk2, nn2⟩, -, X2, ⟨Lc, hQ, y1, y2, y3⟩, st⟩ := Jvm.LawKit.callS X hx (y := nm b) hown (mvT hZ u1) (mvT hZ u2) (mvT hZ u3) (mvT hZ u4) u5 (backOf (W := csum (S1.drop na)) met hZ u4 u3 (by show f1 + 1 ≤ _; omega) (by show csum _ + (E.2.1 b + 11) + w1' ≤ _; omega)) (g := mkF m pc (gL g L) (gS g S1)) rfl hszc (argsL := gS g (S1.take na).reverse) (rest := gS g (S1.drop na)) (lenOf u6 (by simp [gS]; omega)) hst hWr hd (fun _ _ => ⟨rfl, rfl, by show cells + k1 ≤ _; omega, by show slots + n1 ≤ _; omega⟩)
              dsimp only [Pt.U, Pt.locs, Pt.cells, Pt.slots] at X2 y1 y2 y3 st hQ
              subst y1 y2 y3
              exact fin X2 hQ wre st
            · cases hcal
          · cases hcal
        · -- a constructor
          rename_i idx
          split at hcal
          · rename_i b' na
            split at hcal
            · rename_i a rest' hdr
              cases hcal
              obtain ⟨u0, u1, u2, u3, u4, u4', u5, ⟨ps, rr, u6, u7⟩, u8⟩ := d3
              have hmem : ∀ x ∈ (.ref a :: rest), x ∈ S1 := fun x hx' => by rw [← hdr] at hx'; exact List.mem_of_mem_drop hx'
              have was : wS A.length (.ref a :: (S1.take na).reverse) := wS_cons.mpr ⟨w2 _ (hmem _ (List.mem_cons_self ..)), fun x hx' => w2 x (List.mem_of_mem_take (List.mem_reverse.mp hx'))⟩
              have wre : wS A.length rest := fun x hx' => w2 x (hmem x (List.mem_cons_of_mem _ hx'))
              have met := IH.met hr1 hc1 hfit u8 Rp was l [] ({ frames := f1, cells := k1, slots := n1, locals := w1' } : Room) (Nat.le_refl _) (Nat.le_refl _) (Nat.le_refl _) (Nat.le_refl _)
              rw [u4'] at met
              have hst : gS g S1 = (gS g (S1.take na).reverse).reverse ++ .ref (g a) :: gS g rest := by
                conv => lhs; rw [← List.take_append_drop na S1, hdr]
                simp [gS, gv]
              have hlen : na ≤ S1.length := by
                have := congrArg List.length hdr
                simp at this
                omega
              obtain ⟨_, _, ⟨T2, L2, kk2, nn2⟩, -, X2, ⟨Lc, hQ, y1, y2, y3⟩, st⟩ := X.specialBack hx (y := nm b) u0 hown (mvT hZ u1) (mvT hZ u2) (mvT hZ u4) u5 (backOf (W := csum rest) met hZ u4 u3 (by show f1 + 1 ≤ _; omega) (by show csum _ + (E.2.1 b + 11) + w1' ≤ _; omega)) (g := mkF m pc (gL g L) (gS g S1)) rfl hszc (Steps.refl _) (a := g a) (argsL := gS g (S1.take na).reverse) (rest := gS g rest) (lenOf u6 (by simp [gS]; omega)) hst hWr hd (fun _ _ => ⟨rfl, rfl, by show cells + k1 ≤ _; omega, by show slots + n1 ≤ _; omega⟩)
              dsimp only [Pt.U, Pt.locs, Pt.cells, Pt.slots] at X2 y1 y2 y3 st hQ
              subst y1 y2 y3
              exact fin X2 hQ wre fun target hr => st.trans hr
            · cases hcal
          · cases hcal
        · -- an instance method
          rename_i idx
          split at hcal
          · rename_i na tb
            split at hcal
            · rename_i a rest' hdr
              split at hcal
              · rename_i kk vs ha
                split at hcal
                · rename_i b' hlook
                  cases hcal
                  have hmem : ∀ x ∈ (.ref a :: rest), x ∈ S1 := fun x hx' => by rw [← hdr] at hx'; exact List.mem_of_mem_drop hx'
                  have was : wS A.length (.ref a :: (S1.take na).reverse) := wS_cons.mpr ⟨w2 _ (hmem _ (List.mem_cons_self ..)), fun x hx' => w2 x (List.mem_of_mem_take (List.mem_reverse.mp hx'))⟩
                  have wre : wS A.length rest := fun x hx' => w2 x (hmem x (List.mem_cons_of_mem _ hx'))
                  have hst : gS g S1 = (gS g (S1.take na).reverse).reverse ++ .ref (g a) :: gS g rest := by
                    conv => lhs; rw [← List.take_append_drop na S1, hdr]
                    simp [gS, gv]
                  have hlen : na ≤ S1.length := by
                    have := congrArg List.length hdr
                    simp at this
                    omega
                  rcases VC_virt d3 with ⟨k0', b0, rfl, d4⟩ | d4
                  · obtain ⟨fs, ki, v1', u1, u2, u3, u4', v4', v5', u5', ⟨ps, rr, u4, u5⟩, v6'⟩ := d4
                    obtain ⟨rfl, rfl⟩ : kk = k0' ∧ b = b0 := by
                      unfold look at hlook
                      split at hlook
                      · rename_i e; cases hlook; exact ⟨e.symm, rfl⟩
                      · cases hlook
                    have met := IH.met hr1 hc1 hfit v6' Rp was l [] ({ frames := f1, cells := k1, slots := n1, locals := w1' } : Room) (Nat.le_refl _) (Nat.le_refl _) (Nat.le_refl _) (Nat.le_refl _)
                    obtain ⟨cq, kq, qa, qb, cell, qc, qd, qe⟩ := isOf (T := T) hZ rfl (Rp.exa ha v1')
                    obtain ⟨c3, k3, i1, i2, i3, i4, -⟩ := Cond.instantiable_spec (mvT (args := args) hZ u4')
                    cases i1.symm.trans qa
                    cases i2.symm.trans qb
                    have hpr := Cond.privateMethod_at (mvP (args := #[]) hZ u3)
                    have hsel := selects_self_of_private (args := args) qa qb (Bool.or_eq_false_iff.mp i4).1 hpr (mvT hZ u2) u5'
                    obtain ⟨_, _, ⟨T2, L2, kk2, nn2⟩, -, X2, ⟨Lc, hQ, y1, y2, y3⟩, st⟩ := X.privateBack hx (y := nm b) hown (mvT hZ u1) (mvT hZ u2) hsel hpr (mvT hZ v4') u5' (backOf (W := csum rest) met hZ v4' v5' (by show f1 + 1 ≤ _; omega) (by show csum _ + (E.2.1 b + 11) + w1' ≤ _; omega)) (g := mkF m pc (gL g L) (gS g S1)) rfl hszc (Steps.refl _) (a := g a) qc (fun q z => by rw [z] at qe; cases qe) (argsL := gS g (S1.take na).reverse) (rest := gS g rest) (lenOf u4 (by simp [gS]; omega)) hst hWr hd (fun _ _ => ⟨rfl, rfl, by show cells + k1 ≤ _; omega, by show slots + n1 ≤ _; omega⟩)
                    dsimp only [Pt.U, Pt.locs, Pt.cells, Pt.slots] at X2 y1 y2 y3 st hQ
                    subst y1 y2 y3
                    exact fin X2 hQ wre fun target hr => st.trans hr
                  · obtain ⟨y, u1, u2, u2', u3, ⟨ps, rr, u4, u5⟩, u6⟩ := d4
                    obtain ⟨C, fs, v1', v2', v3', v4', v5', v6'⟩ := u6 kk b hlook
                    have met := IH.met hr1 hc1 hfit v6' Rp was l [] ({ frames := f1, cells := k1, slots := n1, locals := w1' } : Room) (Nat.le_refl _) (Nat.le_refl _) (Nat.le_refl _) (Nat.le_refl _)
                    obtain ⟨cq, kq, qa, qb, qc⟩ := isOf (T := T) hZ rfl (Rp.exa ha v1')
                    obtain ⟨_, _, ⟨T2, L2, kk2, nn2⟩, -, X2, ⟨Lc, hQ, y1, y2, y3⟩, st⟩ := X.virtualBack hx (y := y) (z := nm b) hown (mvT hZ u1) (mvT hZ u2) (u2' s hZ) (mvT hZ v2') (mvT hZ v3') u3 (backOf (W := csum rest) met hZ v4' v5' (by show f1 + 1 ≤ _; omega) (by show csum _ + (E.2.1 b + 11) + w1' ≤ _; omega)) qa qc (g := mkF m pc (gL g L) (gS g S1)) rfl hszc (Steps.refl _) (argsL := gS g (S1.take na).reverse) (rest := gS g rest) (lenOf u4 (by simp [gS]; omega)) hst hWr hd (fun _ _ => ⟨rfl, rfl, by show cells + k1 ≤ _; omega, by show slots + n1 ≤ _; omega⟩)
                    dsimp only [Pt.U, Pt.locs, Pt.cells, Pt.slots] at X2 y1 y2 y3 st hQ
                    subst y1 y2 y3
                    exact fin X2 hQ wre fun target hr => st.trans hr
                · cases hcal
              · cases hcal
            · cases hcal
          · cases hcal
        · cases hcal
      · cases hrun
    · -- a choice of two constants
      split at hrun
      · rename_i x y b r hX hB
        split at hrun
        · cases hrun
        rename_i c2 o2 v2 A2 k2 n2 f2 w2' hr2
        cases hrun
        obtain ⟨hc0, hc2⟩ := mem_app hc
        have := pinS_ok hpin hc0
        subst this
        obtain ⟨V, locs2, g2, q1, q2, q3, q4, q5, q6, q7, q8, q9, q10⟩ := IH M (pc + 8) L _ A o1 o' c2 v A' k n f w hr2 hc2 p l e R s m args below meth c T locs cells slots g X hx hZ hown hby hml hrt hnm hlk Rp N w1 (wS_cons.mpr ⟨trivial, selB_wf hB w2⟩) hsz hk hn hf hw
        exact ⟨V, locs2, g2, sel_ok X.here hx g MK hby hX hB hd q1, q2, q3, q4, q5, q6, q7, q8, q9, q10⟩
      · cases hrun
    · -- a step
      split at hrun
      · cases hrun
      rename_i c1 o2 pc1 L1 S2 A1 k1 n1 f1 w1' hst
      split at hrun
      · cases hrun
      rename_i c2 o3 v2 A2 k2 n2 f2 w2' hr2
      cases hrun
      obtain ⟨hc0, hc12⟩ := mem_app hc
      obtain ⟨hc1, hc2⟩ := mem_app hc12
      have := pinS_ok hpin hc0
      subst this
      obtain ⟨oa, ob, hst'⟩ := stepC_ok hst
      obtain ⟨⟨T', locs', g', X', Rp', N', e1, e2, e3, e4, st⟩, hL⟩ := step_ok X hx hZ hown hnm K Rp N w1 w2 hd d2 (hsz.trans hml.symm) hst' hc1 (by omega) (by omega) (by omega) (by omega)
      obtain ⟨V, locs2, g2, q1, q2, q3, q4, q5, q6, q7, q8, q9, q10⟩ := IH M pc1 L1 S2 A1 o2 o' c2 v A' k2 n2 f2 w2' hr2 hc2 p l e R s m args below meth c T' locs' (cells + k1) (slots + n1) g' X' hx hZ hown hby hml hrt hnm hlk Rp' N' e3 e4 (hL.trans hsz) (by omega) (by omega) (by omega) (by omega)
      refine ⟨V, locs2, g2, st V q1, q2, q3, q4, ?_, q6, q7, fun j hj => (q8 j (by omega)).trans (e1 j hj), by omega, q10⟩
      rw [show cells + (k1 + k2) = cells + k1 + k2 by omega, show slots + (n1 + n2) = slots + n1 + n2 by omega]; exact q5
end RunSound
/-! tables of entries -/
def fetch : List (Nat × Ent) → Nat → Option Ent
  | [], _ => none
  | (q, e) :: r, pc => bif Nat.beq q pc then some e else fetch r pc
def fetch2 : List (Nat × List (Nat × Ent)) → Nat → Option Ent
  | [], _ => none
  | (b, l) :: r, pc => bif Nat.blt pc b then fetch l pc else fetch2 r pc
theorem fetch_mem {c : List (Nat × Ent)} {pc : Nat} {e : Ent} (h : fetch c pc = some e) : (pc, e) ∈ c := by
  induction c with
  | nil => cases h
  | cons a r ih =>
    obtain ⟨q, e'⟩ := a
    unfold fetch at h
    cases hq : Nat.beq q pc with
    | true =>
      rw [hq] at h
      cases h
      have := Nat.eq_of_beq_eq_true hq
      subst this
      exact List.mem_cons_self ..
    | false =>
      rw [hq] at h
      exact List.mem_cons_of_mem _ (ih h)
theorem fetch2_mem {c : List (Nat × List (Nat × Ent))} {pc : Nat} {e : Ent} (h : fetch2 c pc = some e) : ∃ ch ∈ c, (pc, e) ∈ ch.2 := by
  induction c with
  | nil => cases h
  | cons a r ih =>
    obtain ⟨b, l⟩ := a
    unfold fetch2 at h
    cases hq : Nat.blt pc b with
    | true =>
      rw [hq] at h
      exact ⟨_, List.mem_cons_self .., fetch_mem h⟩
    | false =>
      rw [hq] at h
      obtain ⟨ch, h1, h2⟩ := ih h
      exact ⟨ch, List.mem_cons_of_mem _ h1, h2⟩
theorem fn {α : Type} {P : α → Prop} : ∀ x ∈ ([] : List α), P x := fun _ h => nomatch h
theorem fc {α : Type} {P : α → Prop} {a : α} {l : List α} (h : P a) (r : ∀ x ∈ l, P x) : ∀ x ∈ a :: l, P x := fun x hx => (List.mem_cons.mp hx).elim (fun e => e ▸ h) (r x)
theorem look1 {k' b' k b : Nat} (h : look [k', b'] k = some b) : k = k' ∧ b = b' := by
  unfold look at h
  split at h
  · rename_i e; cases h; exact ⟨e.symm, rfl⟩
  · cases h
theorem look2 {k' b' k2 b2 k b : Nat} (h : look [k', b', k2, b2] k = some b) : (k = k' ∧ b = b') ∨ (k = k2 ∧ b = b2) := by
  unfold look at h
  split at h
  · rename_i e; cases h; exact Or.inl ⟨e.symm, rfl⟩
  · exact Or.inr (look1 h)
theorem nodup_ne {fs : List Fd} (h : ∀ i : Fin fs.length, ∀ j : Fin fs.length, i.val ≠ j.val → fs[i].2.1 ≠ fs[j].2.1) : ∀ (i j : Nat) (f f' : Fd), fs[i]? = some f → fs[j]? = some f' → i ≠ j → f.2.1 ≠ f'.2.1 := by
  intro i j f f' hi hj hne
  obtain ⟨a1, b1⟩ := List.getElem?_eq_some_iff.mp hi
  obtain ⟨a2, b2⟩ := List.getElem?_eq_some_iff.mp hj
  have := h ⟨i, a1⟩ ⟨j, a2⟩ hne
  simp only [Fin.getElem_fin, b1, b2] at this
  exact this
theorem Rep.start {Z : State} {kc : KTy} {h : Heap} {n0 : Nat} (hn : n0 ≤ h.size) (g : Nat → Addr) : Rep Z kc [] n0 0 h g [] :=
  ⟨fun _ hi => absurd hi (Nat.not_lt_zero _), fun _ _ hi => absurd hi (Nat.not_lt_zero _), fun _ _ hi => by simp at hi, hn, Nat.le_refl _, fun _ hx => nomatch hx⟩
/-- the run of the law returns 1, whatever the road's conditions ask being true, and within its room -/
def Good (E : EV) (fuel : Nat) (as : List Value) (A0 : AH) (K N F W : Nat) : Prop :=
  ∃ (o o' : Orc) (cs : List Prop) (A' : AH) (k n f w : Nat), run E fuel 0 0 (aL as (E.2.1 0)) [] A0 o = some (cs, o', some (.int 1), A', k, n, f, w) ∧ (∀ P ∈ cs, P) ∧ k ≤ K ∧ n ≤ N ∧ f ≤ F ∧ w ≤ W
def okR (r : Option RR) (K N F W : Nat) : Option (List Prop) :=
  match r with
  | some (cs, _, some (.int x), _, k, n, f, w) => bif (x == 1) && (Nat.ble k K && (Nat.ble n N && (Nat.ble f F && Nat.ble w W))) then some cs else none
  | _ => none
theorem Good.of {E : EV} {fuel : Nat} {as : List Value} {A0 : AH} {K N F W : Nat} (o : Orc) {cs : List Prop} (h : okR (run E fuel 0 0 (aL as (E.2.1 0)) [] A0 o) K N F W = some cs) (hc : ∀ P ∈ cs, P) : Good E fuel as A0 K N F W := by
  unfold okR at h
  split at h
  · rename_i cs' o' x A' k n f w hr
    cases hb : ((x == 1) && (Nat.ble k K && (Nat.ble n N && (Nat.ble f F && Nat.ble w W)))) with
    | false => rw [hb] at h; cases h
    | true =>
      rw [hb] at h
      cases h
      simp only [Bool.and_eq_true, beq_iff_eq, Nat.ble_eq] at hb
      obtain ⟨rfl, h1, h2, h3, h4⟩ := hb
      exact ⟨o, _, _, _, _, _, _, _, hr, hc, h1, h2, h3, h4⟩
  · cases h
theorem fnP : ∀ P ∈ ([] : List Prop), P := fun _ h => nomatch h
theorem fcP {a : Prop} {l : List Prop} (h : a) (r : ∀ P ∈ l, P) : ∀ P ∈ a :: l, P := fun x hx => (List.mem_cons.mp hx).elim (fun e => by subst e; exact h) (r x)
/-- a road without conditions -/
def okB (r : Option RR) (K N F W : Nat) : Bool :=
  match okR r K N F W with
  | some [] => true
  | _ => false
theorem Good.ofB {E : EV} {fuel : Nat} {as : List Value} {A0 : AH} {K N F W : Nat} (o : Orc) (h : okB (run E fuel 0 0 (aL as (E.2.1 0)) [] A0 o) K N F W = true) : Good E fuel as A0 K N F W := by
  unfold okB at h
  split at h
  · rename_i q; exact Good.of o q fnP
  · cases h
/-! numbers: what the branches ask, in whole numbers -/
section Numbers
open Jvm.FP
theorem i32_0 : (0 : Int32).toInt = 0 := rfl
theorem h_eq (x : Int32) : ifCond.holds .eq x = decide (x.toInt = 0) := by
  have : (x == 0) = decide (x = 0) := rfl
  simp only [ifCond.holds, this, ← Int32.toInt_inj, i32_0]
theorem h_ne (x : Int32) : ifCond.holds .ne x = decide (x.toInt ≠ 0) := by
  have : (x != 0) = !decide (x = 0) := rfl
  simp only [ifCond.holds, this, ← Int32.toInt_inj, i32_0]
  by_cases h : x.toInt = 0 <;> simp [h]
theorem h_lt (x : Int32) : ifCond.holds .lt x = decide (x.toInt < 0) := by
  simp only [ifCond.holds, Int32.lt_iff_toInt_lt, i32_0]
theorem h_ge (x : Int32) : ifCond.holds .ge x = decide (0 ≤ x.toInt) := by
  simp only [ifCond.holds, ge_iff_le, Int32.le_iff_toInt_le, i32_0]
theorem h_gt (x : Int32) : ifCond.holds .gt x = decide (0 < x.toInt) := by
  simp only [ifCond.holds, gt_iff_lt, Int32.lt_iff_toInt_lt, i32_0]
theorem h_le (x : Int32) : ifCond.holds .le x = decide (x.toInt ≤ 0) := by
  simp only [ifCond.holds, Int32.le_iff_toInt_le, i32_0]
theorem k_eq (x y : Int32) : if_icmp.holds .eq x y = decide (x.toInt = y.toInt) := by
  have : (x == y) = decide (x = y) := rfl
  simp only [if_icmp.holds, this, ← Int32.toInt_inj]
theorem k_ne (x y : Int32) : if_icmp.holds .ne x y = decide (x.toInt ≠ y.toInt) := by
  have : (x != y) = !decide (x = y) := rfl
  simp only [if_icmp.holds, this, ← Int32.toInt_inj]
  by_cases h : x.toInt = y.toInt <;> simp [h]
theorem k_lt (x y : Int32) : if_icmp.holds .lt x y = decide (x.toInt < y.toInt) := by
  simp only [if_icmp.holds, Int32.lt_iff_toInt_lt]
theorem k_ge (x y : Int32) : if_icmp.holds .ge x y = decide (y.toInt ≤ x.toInt) := by
  simp only [if_icmp.holds, ge_iff_le, Int32.le_iff_toInt_le]
theorem k_gt (x y : Int32) : if_icmp.holds .gt x y = decide (y.toInt < x.toInt) := by
  simp only [if_icmp.holds, gt_iff_lt, Int32.lt_iff_toInt_lt]
theorem k_le (x y : Int32) : if_icmp.holds .le x y = decide (x.toInt ≤ y.toInt) := by
  simp only [if_icmp.holds, Int32.le_iff_toInt_le]
/-- less, equal, greater -/
def cI (i j : Int) : Int32 := if i < j then -1 else if i = j then 0 else 1
theorem cI_lt {i j : Int} : (cI i j).toInt < 0 ↔ i < j := by
  unfold cI; split
  · rename_i h; simp [h]
  · split <;> rename_i h1 h2 <;> simp <;> omega
theorem cI_eq {i j : Int} : (cI i j).toInt = 0 ↔ i = j := by
  unfold cI; split
  · rename_i h; simp; omega
  · split <;> rename_i h1 h2 <;> simp <;> omega
theorem cI_gt {i j : Int} : 0 < (cI i j).toInt ↔ j < i := by
  unfold cI; split
  · rename_i h; simp; omega
  · split <;> rename_i h1 h2 <;> simp <;> omega
theorem cI_le {i j : Int} : (cI i j).toInt ≤ 0 ↔ i ≤ j := by
  have := @cI_gt i j; omega
theorem cI_ge {i j : Int} : 0 ≤ (cI i j).toInt ↔ j ≤ i := by
  have := @cI_lt i j; omega
theorem cmpL_cI (x y : Int64) : XT.cmpL x y = cI x.toInt y.toInt := by
  unfold XT.cmpL cI
  simp only [Int64.lt_iff_toInt_lt, ← Int64.toInt_inj]
  by_cases h1 : x.toInt < y.toInt
  · simp [h1, show ¬ y.toInt < x.toInt by omega, show ¬ x.toInt = y.toInt by omega]
  · by_cases h2 : x.toInt = y.toInt
    · simp [h2]
    · simp [h1, h2, show y.toInt < x.toInt by omega]
abbrev DI (i : Int) (a : UInt64) : Prop := Core.DInt i a
theorem DI.noNaN {i : Int} {a : UInt64} (h : DI i a) : FP.dIsNaN a = false := (Core.notNaN_iff a).mpr (Core.Whole.ne_nan h)
theorem DI.cmp {i j : Int} {a b : UInt64} (ha : DI i a) (hb : DI j b) (o : CmpOp) : cmpValue (FP.dcmp a b) o = cI i j := by
  rw [show FP.dcmp a b = some (compare i j) from Core.dcmp_int ha hb, Core.compare_ite]
  unfold cI
  by_cases h1 : i < j
  · simp [h1]; cases o <;> rfl
  · by_cases h2 : i = j
    · simp [h2]; cases o <;> rfl
    · simp [h1, h2]; cases o <;> rfl
theorem DI.i2d (x : Int32) : DI x.toInt (FP.i2d x) := Core.i2d_int x
theorem DI.l2d {x : Int64} (h : x.toInt.natAbs ≤ 2 ^ 53) : DI x.toInt (FP.l2d x) := Core.l2d_int h
theorem DI.add {i j : Int} {a b : UInt64} (ha : DI i a) (hb : DI j b) (h : (i + j).natAbs ≤ 2 ^ 53) : DI (i + j) (FP.dadd a b) := Core.dadd_int ha hb h
theorem DI.sub {i j : Int} {a b : UInt64} (ha : DI i a) (hb : DI j b) (h : (i - j).natAbs ≤ 2 ^ 53) : DI (i - j) (FP.dsub a b) := Core.dsub_int ha hb h
theorem DI.mul {i j : Int} {a b : UInt64} (ha : DI i a) (hb : DI j b) (h : (i * j).natAbs ≤ 2 ^ 53) : DI (i * j) (FP.dmul a b) := Core.dmul_int ha hb h
theorem DI.zero : DI 0 0 := by
  have h := DI.i2d 0
  rw [show FP.i2d 0 = 0 by decide +kernel] at h
  exact h
theorem DI.one : DI 1 4607182418800017408 := by
  have h := DI.i2d 1
  rw [show FP.i2d 1 = 4607182418800017408 by decide +kernel] at h
  exact h
theorem ask_lt {i j : Int} {a b : UInt64} (ha : DI i a) (hb : DI j b) (o : CmpOp) : ifCond.holds .lt (cmpValue (FP.dcmp a b) o) = decide (i < j) := by
  rw [DI.cmp ha hb, h_lt]; exact decide_eq_decide.mpr cI_lt
theorem askL_lt (x y : Int64) : ifCond.holds .lt (XT.cmpL x y) = decide (x.toInt < y.toInt) := by
  rw [cmpL_cI, h_lt]; exact decide_eq_decide.mpr cI_lt
theorem ask_ge {i j : Int} {a b : UInt64} (ha : DI i a) (hb : DI j b) (o : CmpOp) : ifCond.holds .ge (cmpValue (FP.dcmp a b) o) = decide (j ≤ i) := by
  rw [DI.cmp ha hb, h_ge]; exact decide_eq_decide.mpr cI_ge
theorem askL_ge (x y : Int64) : ifCond.holds .ge (XT.cmpL x y) = decide (y.toInt ≤ x.toInt) := by
  rw [cmpL_cI, h_ge]; exact decide_eq_decide.mpr cI_ge
theorem ask_gt {i j : Int} {a b : UInt64} (ha : DI i a) (hb : DI j b) (o : CmpOp) : ifCond.holds .gt (cmpValue (FP.dcmp a b) o) = decide (j < i) := by
  rw [DI.cmp ha hb, h_gt]; exact decide_eq_decide.mpr cI_gt
theorem askL_gt (x y : Int64) : ifCond.holds .gt (XT.cmpL x y) = decide (y.toInt < x.toInt) := by
  rw [cmpL_cI, h_gt]; exact decide_eq_decide.mpr cI_gt
theorem ask_le {i j : Int} {a b : UInt64} (ha : DI i a) (hb : DI j b) (o : CmpOp) : ifCond.holds .le (cmpValue (FP.dcmp a b) o) = decide (i ≤ j) := by
  rw [DI.cmp ha hb, h_le]; exact decide_eq_decide.mpr cI_le
theorem askL_le (x y : Int64) : ifCond.holds .le (XT.cmpL x y) = decide (x.toInt ≤ y.toInt) := by
  rw [cmpL_cI, h_le]; exact decide_eq_decide.mpr cI_le
theorem ask_eq {i j : Int} {a b : UInt64} (ha : DI i a) (hb : DI j b) (o : CmpOp) : ifCond.holds .eq (cmpValue (FP.dcmp a b) o) = decide (i = j) := by
  rw [DI.cmp ha hb, h_eq]; exact decide_eq_decide.mpr cI_eq
theorem askL_eq (x y : Int64) : ifCond.holds .eq (XT.cmpL x y) = decide (x.toInt = y.toInt) := by
  rw [cmpL_cI, h_eq]; exact decide_eq_decide.mpr cI_eq
theorem ask_ne {i j : Int} {a b : UInt64} (ha : DI i a) (hb : DI j b) (o : CmpOp) : ifCond.holds .ne (cmpValue (FP.dcmp a b) o) = decide (i ≠ j) := by
  rw [DI.cmp ha hb, h_ne]; exact decide_eq_decide.mpr (not_congr cI_eq)
theorem askL_ne (x y : Int64) : ifCond.holds .ne (XT.cmpL x y) = decide (x.toInt ≠ y.toInt) := by
  rw [cmpL_cI, h_ne]; exact decide_eq_decide.mpr (not_congr cI_eq)
theorem mulb {a b : Int} {A B : Nat} (ha : a.natAbs ≤ A) (hb : b.natAbs ≤ B) : (a * b).natAbs ≤ A * B := by
  rw [Int.natAbs_mul]; exact Nat.mul_le_mul ha hb
theorem tr {b : Bool} {P : Prop} [Decidable P] (h : b = decide P) (hp : P) : b = true := h.trans (decide_eq_true hp)
theorem fl {b : Bool} {P : Prop} [Decidable P] (h : b = decide P) (hp : ¬ P) : b = false := h.trans (decide_eq_false hp)
end Numbers
/-! numbers i * 2^k among the doubles -/
section Dyadic
open Jvm.FP Jvm.FP.Core
def sh (k : Int) : Datum → Datum
  | .fin s c q => .fin s c (q - k)
  | d => d
def Dy (k i : Int) (d : Datum) : Prop := Whole i (sh k d)
abbrev DY (k i : Int) (a : UInt64) : Prop := Dy k i (val64 a)
theorem Dy.fin {k i : Int} {d : Datum} (h : Dy k i d) : ∃ s c q, d = .fin s c q := by
  cases d with
  | nan => exact h.elim
  | inf s => exact h.elim
  | fin s c q => exact ⟨s, c, q, rfl⟩
theorem DY.of_DI {i : Int} {a : UInt64} (h : DI i a) : DY 0 i a := by
  have h' : Whole i (val64 a) := h
  show Whole i (sh 0 (val64 a))
  cases hv : val64 a with
  | nan => rw [hv] at h'; exact h'
  | inf s => rw [hv] at h'; exact h'
  | fin s c q => rw [hv] at h'; simpa [sh] using h'
theorem DY.to_DI {i : Int} {a : UInt64} (h : DY 0 i a) : DI i a := by
  have h' : Whole i (sh 0 (val64 a)) := h
  show Whole i (val64 a)
  cases hv : val64 a with
  | nan => rw [hv] at h'; exact h'
  | inf s => rw [hv] at h'; exact h'
  | fin s c q => rw [hv] at h'; simpa [sh] using h'
theorem DY.noNaN {k i : Int} {a : UInt64} (h : DY k i a) : FP.dIsNaN a = false := by
  refine (notNaN_iff a).mpr fun q => ?_
  obtain ⟨s, c, r, e⟩ := Dy.fin h
  rw [e] at q; cases q
theorem DY.fin64 {k i : Int} {a : UInt64} (h : DY k i a) : Jvm.Free.Fl.Fin64 a := Jvm.Free.Fl.fin64_core.mpr (Dy.fin h)
theorem order_sh (k : Int) (x y : Datum) : order (sh k x) (sh k y) = order x y := by
  cases x <;> cases y <;> try rfl
  rename_i s c q t d r
  simp only [sh, order, inUnits]
  rw [show q - k - min (q - k) (r - k) = q - min q r by omega, show r - k - min (q - k) (r - k) = r - min q r by omega]
theorem DY.cmp {k i j : Int} {a b : UInt64} (ha : DY k i a) (hb : DY k j b) (o : CmpOp) : cmpValue (FP.dcmp a b) o = cI i j := by
  have h : FP.dcmp a b = some (compare i j) := by
    show order (val64 a) (val64 b) = _
    rw [← order_sh k]
    exact order_whole ha hb
  rw [h, compare_ite]
  unfold cI
  by_cases h1 : i < j
  · simp [h1]; cases o <;> rfl
  · by_cases h2 : i = j
    · simp [h2]; cases o <;> rfl
    · simp [h1, h2]; cases o <;> rfl
theorem whole_scale {i : Int} {s : Bool} {c : Nat} {q : Int} (n : Nat) (h : Whole i (.fin s c q)) : Whole (i * ((2 ^ n : Nat) : Int)) (.fin s c (q + n)) := by
  have h1 : signed s (c * 2 ^ q.toNat) = i * ((2 ^ (-q).toNat : Nat) : Int) := h
  show signed s (c * 2 ^ (q + n).toNat) = i * ((2 ^ n : Nat) : Int) * ((2 ^ (-(q + n)).toNat : Nat) : Int)
  by_cases hq : 0 ≤ q
  · rw [show (-q).toNat = 0 by omega] at h1
    rw [show (q + n).toNat = q.toNat + n by omega, show (-(q + n)).toNat = 0 by omega, Nat.pow_add, ← Nat.mul_assoc, signed_mul, h1]
    simp
  · rw [show q.toNat = 0 by omega, Nat.pow_zero, Nat.mul_one] at h1
    by_cases hn : 0 ≤ q + n
    · rw [show (-(q + n)).toNat = 0 by omega, signed_mul, h1, Nat.pow_zero]
      have e : n = (-q).toNat + (q + n).toNat := by omega
      have e2 : ((2 ^ n : Nat) : Int) = ((2 ^ (-q).toNat : Nat) : Int) * ((2 ^ (q + n).toNat : Nat) : Int) := by
        conv => lhs; rw [e]
        rw [Nat.pow_add, Int.natCast_mul]
      rw [e2]
      simp [Int.mul_assoc]
    · rw [show (q + n).toNat = 0 by omega, Nat.pow_zero, Nat.mul_one, h1]
      have e : (-q).toNat = n + (-(q + n)).toNat := by omega
      rw [e, Nat.pow_add, Int.natCast_mul, Int.mul_assoc]
theorem Dy.scale {k i : Int} {d : Datum} (h : Dy k i d) (n : Nat) : Dy (k - n) (i * ((2 ^ n : Nat) : Int)) d := by
  obtain ⟨s, c, q, rfl⟩ := h.fin
  have := whole_scale n (show Whole i (.fin s c (q - k)) from h)
  show Whole _ (.fin s c (q - (k - n)))
  rw [show q - (k - n) = q - k + n by omega]
  exact this
theorem sh_sum (k : Int) (x y : Datum) : sh k (exactSum x y) = exactSum (sh k x) (sh k y) := by
  cases x <;> cases y <;> try rfl
  · rename_i s t
    cases s <;> cases t <;> rfl
  · rename_i s c q t d r
    have e1 : q - k - min (q - k) (r - k) = q - min q r := by omega
    have e2 : r - k - min (q - k) (r - k) = r - min q r := by omega
    have e3 : min (q - k) (r - k) = min q r - k := by omega
    simp only [exactSum, sh, sumUnits, inUnits, e1, e2]
    rw [e3]
theorem sh_product (k l : Int) {s t : Bool} {c d : Nat} {q r : Int} : sh (k + l) (exactProduct (.fin s c q) (.fin t d r)) = exactProduct (sh k (.fin s c q)) (sh l (.fin t d r)) := by
  simp only [exactProduct, sh]
  rw [show q + r - (k + l) = q - k + (r - l) by omega]
theorem sh_negate (k : Int) (x : Datum) : sh k (negate x) = negate (sh k x) := by cases x <;> rfl
theorem Dy.round {k i : Int} {d : Datum} (h : Dy k i d) (hi : i.natAbs ≤ 2 ^ 53) (h1 : -1000 ≤ k) (h2 : k ≤ 900) : Dy k i (round b64 d) := by
  obtain ⟨s, c, q, rfl⟩ := h.fin
  have hw : Whole i (.fin s c (q - k)) := h
  have hn := whole_natAbs hw
  have hr : Core.round b64 (.fin s c q) = roundRatio b64 s i.natAbs 1 k := by
    refine roundRatio_congr (by decide) (by decide) ?_
    rw [show (-(q - k)).toNat = (k - q).toNat by omega] at hn
    simpa using hn
  have T : b64.tails = 2 ^ 52 := by decide
  have Q1 : b64.qmin = -1074 := by decide
  have Q2 : b64.qmax = 971 := by decide
  have P : (2 : Nat) ^ b64.p = 2 ^ 53 := rfl
  by_cases h0 : i = 0
  · subst h0
    rw [hr]
    show Whole 0 (sh k (roundRatio b64 s 0 1 k))
    unfold roundRatio
    rw [if_pos rfl]
    show signed s (0 * _) = 0 * _
    rw [Nat.zero_mul, Int.zero_mul]; exact signed_zero s
  · have hs := whole_sign hw h0
    have hsg : signed s i.natAbs = i := by
      rw [hs]; unfold signed
      by_cases h : i < 0 <;> simp [h] <;> omega
    generalize hN : i.natAbs = N at *
    have hN0 : N ≠ 0 := by omega
    by_cases hp : N = 2 ^ 53
    · have hfit : Core.fits b64 (.fin s (2 ^ 52) (k + 1)) := ⟨by rw [P]; decide, by rw [Q1]; omega, by rw [Q2]; omega, .inr (Nat.le_of_eq T)⟩
      rw [hr, roundRatio_exact good_b64 (by decide) hfit (by rw [hp, show (k - (k + 1)).toNat = 0 by omega, show (k + 1 - k).toNat = 1 by omega])]
      show signed s (2 ^ 52 * 2 ^ (k + 1 - k).toNat) = i * _
      rw [show (k + 1 - k).toNat = 1 by omega, show (-(k + 1 - k)).toNat = 0 by omega, show (2 : Nat) ^ 52 * 2 ^ 1 = N by rw [hp], hsg]
      simp
    · have l1 : 2 ^ N.log2 ≤ N := Nat.log2_self_le hN0
      have l2 : N < 2 ^ (N.log2 + 1) := Nat.lt_log2_self
      have l3 : N.log2 < 53 := (Nat.pow_lt_pow_iff_right (by decide : 1 < 2)).mp (Nat.lt_of_le_of_lt l1 (by omega))
      generalize N.log2 = G at l1 l2 l3
      have hfit : Core.fits b64 (.fin s (N * 2 ^ (52 - G)) (k + G - 52)) := by
        refine ⟨?_, by rw [Q1]; omega, by rw [Q2]; omega, .inr ?_⟩
        · rw [P]
          calc N * 2 ^ (52 - G) < 2 ^ (G + 1) * 2 ^ (52 - G) := Nat.mul_lt_mul_of_pos_right l2 (Nat.two_pow_pos _)
            _ = 2 ^ 53 := by rw [← Nat.pow_add]; congr 1; omega
        · rw [T]
          calc 2 ^ 52 = 2 ^ G * 2 ^ (52 - G) := by rw [← Nat.pow_add]; congr 1; omega
            _ ≤ N * 2 ^ (52 - G) := Nat.mul_le_mul_right _ l1
      rw [hr, roundRatio_exact good_b64 (by decide) hfit (by rw [show (k - (k + G - 52)).toNat = 52 - G by omega, show (k + G - 52 - k).toNat = 0 by omega]; simp)]
      show signed s (N * 2 ^ (52 - G) * 2 ^ (k + G - 52 - k).toNat) = i * ((2 ^ (-(k + G - 52 - k)).toNat : Nat) : Int)
      rw [show (k + G - 52 - k).toNat = 0 by omega, show (-(k + (G : Int) - 52 - k)).toNat = 52 - G by omega, Nat.pow_zero, Nat.mul_one, signed_mul, hsg]
theorem DY.add {k i j : Int} {a b : UInt64} (ha : DY k i a) (hb : DY k j b) (h : (i + j).natAbs ≤ 2 ^ 53) (h1 : -1000 ≤ k) (h2 : k ≤ 900) : DY k (i + j) (FP.dadd a b) := by
  show Dy k (i + j) (val64 (Core.dadd a b))
  rw [val64_dadd]
  refine Dy.round ?_ h h1 h2
  show Whole (i + j) (sh k _)
  rw [sh_sum]
  exact whole_sum ha hb
theorem DY.sub {k i j : Int} {a b : UInt64} (ha : DY k i a) (hb : DY k j b) (h : (i - j).natAbs ≤ 2 ^ 53) (h1 : -1000 ≤ k) (h2 : k ≤ 900) : DY k (i - j) (FP.dsub a b) := by
  show Dy k (i - j) (val64 (Core.dsub a b))
  rw [val64_dsub]
  refine Dy.round ?_ h h1 h2
  show Whole (i - j) (sh k _)
  rw [sh_sum, sh_negate, show i - j = i + -j by omega]
  exact whole_sum ha (whole_negate hb)
theorem DY.mul {k l i j : Int} {a b : UInt64} (ha : DY k i a) (hb : DY l j b) (h : (i * j).natAbs ≤ 2 ^ 53) (h1 : -1000 ≤ k + l) (h2 : k + l ≤ 900) : DY (k + l) (i * j) (FP.dmul a b) := by
  show Dy (k + l) (i * j) (val64 (Core.dmul a b))
  rw [val64_dmul]
  refine Dy.round ?_ h h1 h2
  obtain ⟨s, c, q, e1⟩ := Dy.fin ha
  obtain ⟨t, d, r, e2⟩ := Dy.fin hb
  show Whole (i * j) (sh (k + l) _)
  have ha' : Whole i (sh k (val64 a)) := ha
  have hb' : Whole j (sh l (val64 b)) := hb
  rw [e1] at ha' ⊢
  rw [e2] at hb' ⊢
  rw [sh_product]
  exact whole_product ha' hb'
/-- the quotient by a power of two -/
theorem DY.div2 {k i m : Int} {a b : UInt64} (ha : DY k i a) (hb : val64 b = .fin false (2 ^ 52) (m - 52)) (h : i.natAbs ≤ 2 ^ 53) (h1 : -1000 ≤ k - m) (h2 : k - m ≤ 900) : DY (k - m) i (FP.ddiv a b) := by
  show Dy (k - m) i (val64 (Core.ddiv a b))
  rw [val64_ddiv, hb]
  obtain ⟨s, c, q, e1⟩ := Dy.fin ha
  have ha' : Whole i (sh k (val64 a)) := ha
  rw [e1] at ha' ⊢
  have e : quotient b64 (.fin s c q) (.fin false (2 ^ 52) (m - 52)) = Core.round b64 (.fin s c (q - m)) := by
    show (if (2 : Nat) ^ 52 = 0 then (if c = 0 then Datum.nan else .inf (s != false)) else roundRatio b64 (s != false) c (2 ^ 52) (q - (m - 52))) = roundRatio b64 s c 1 (q - m)
    rw [if_neg (by decide), show (s != false) = s by cases s <;> rfl]
    refine roundRatio_congr (by decide) (by decide) ?_
    rw [show (q - (m - 52) - (q - m)).toNat = 52 by omega, show (q - m - (q - (m - 52))).toNat = 0 by omega]
    simp
  rw [e]
  refine Dy.round ?_ h h1 h2
  show Whole i (.fin s c (q - m - (k - m)))
  rw [show q - m - (k - m) = q - k by omega]
  exact ha'
theorem askY_lt {k i j : Int} {a b : UInt64} (ha : DY k i a) (hb : DY k j b) (o : CmpOp) : ifCond.holds .lt (cmpValue (FP.dcmp a b) o) = decide (i < j) := by
  rw [DY.cmp ha hb, h_lt]; exact decide_eq_decide.mpr cI_lt
theorem askY_ge {k i j : Int} {a b : UInt64} (ha : DY k i a) (hb : DY k j b) (o : CmpOp) : ifCond.holds .ge (cmpValue (FP.dcmp a b) o) = decide (j ≤ i) := by
  rw [DY.cmp ha hb, h_ge]; exact decide_eq_decide.mpr cI_ge
theorem askY_gt {k i j : Int} {a b : UInt64} (ha : DY k i a) (hb : DY k j b) (o : CmpOp) : ifCond.holds .gt (cmpValue (FP.dcmp a b) o) = decide (j < i) := by
  rw [DY.cmp ha hb, h_gt]; exact decide_eq_decide.mpr cI_gt
theorem askY_le {k i j : Int} {a b : UInt64} (ha : DY k i a) (hb : DY k j b) (o : CmpOp) : ifCond.holds .le (cmpValue (FP.dcmp a b) o) = decide (i ≤ j) := by
  rw [DY.cmp ha hb, h_le]; exact decide_eq_decide.mpr cI_le
theorem askY_eq {k i j : Int} {a b : UInt64} (ha : DY k i a) (hb : DY k j b) (o : CmpOp) : ifCond.holds .eq (cmpValue (FP.dcmp a b) o) = decide (i = j) := by
  rw [DY.cmp ha hb, h_eq]; exact decide_eq_decide.mpr cI_eq
theorem askY_ne {k i j : Int} {a b : UInt64} (ha : DY k i a) (hb : DY k j b) (o : CmpOp) : ifCond.holds .ne (cmpValue (FP.dcmp a b) o) = decide (i ≠ j) := by
  rw [DY.cmp ha hb, h_ne]; exact decide_eq_decide.mpr (not_congr cI_eq)
theorem DY.zero (k : Int) : DY k 0 0 := by
  show Whole 0 (sh k (val64 0))
  rw [show val64 0 = .fin false 0 (-1074) by decide +kernel]
  show signed false (0 * _) = 0 * _
  rw [Nat.zero_mul, Int.zero_mul]; rfl
theorem DI.fin64 {i : Int} {a : UInt64} (h : DI i a) : Jvm.Free.Fl.Fin64 a := (DY.of_DI h).fin64
/-- what isFinite asks -/
theorem ask_fin {a : UInt64} (h : Jvm.Free.Fl.Fin64 a) : ifCond.holds .gt (cmpValue (FP.dcmp (a &&& 0x7fffffffffffffff) 9218868437227405311) .g) = false := by
  have q := (Jvm.Free.Fl.le_max_iff h.noNaN).mpr h
  have q' : Jvm.Free.Fl.relLe (FP.dcmp (a &&& 0x7fffffffffffffff) 9218868437227405311) = true := q
  revert q'
  generalize FP.dcmp (a &&& 0x7fffffffffffffff) 9218868437227405311 = r
  intro q'
  rcases r with _ | (_ | _ | _)
  · exact absurd q' (by decide)
  · decide
  · decide
  · exact absurd q' (by decide)
theorem notNaN_fin {a : UInt64} (h : Jvm.Free.Fl.Fin64 a) : (!FP.dIsNaN a) = true := by
  rw [show FP.dIsNaN a = false from Jvm.Free.Fl.noNaN64_no.mp h.noNaN]; rfl
/-- the half of an int -/
theorem DY.half (x : Int32) : DY (-1) x.toInt (FP.ddiv (FP.i2d x) 4611686018427387904) := by
  have h1 := Int32.toInt_lt x
  have h2 := Int32.le_toInt x
  exact (DY.of_DI (DI.i2d x)).div2 (m := 1) (by decide +kernel) (by omega) (by decide) (by decide)
theorem leading1 {n : Nat} (h : 0 < n) : leading n 1 = (n.log2 : Int) := by
  unfold leading
  have h1 : Nat.log2 1 = 0 := by decide
  have h2 : 2 ^ n.log2 ≤ n := Nat.log2_self_le (by omega)
  simp only [h1]
  rw [if_pos]
  · omega
  · rw [show ((n.log2 : Int) - ((0 : Nat) : Int)).toNat = n.log2 by omega, show (-((n.log2 : Int) - ((0 : Nat) : Int))).toNat = 0 by omega]
    omega
/-- the rounding of n * 2^k is that of n, shifted -/
theorem round_sh (s : Bool) {n : Nat} (h : 0 < n) (hn : n < 2 ^ 64) {k : Int} (h1 : -900 ≤ k) (h2 : k ≤ 900) : ∃ c q, c < 2 ^ 53 ∧ -60 ≤ q ∧ q ≤ 20 ∧ roundRatio b64 s n 1 k = .fin s c (q + k) ∧ roundRatio b64 s n 1 0 = .fin s c q := by
  have l3 : n.log2 < 64 := (Nat.log2_lt (by omega)).mpr hn
  have Q1 : b64.qmin = -1074 := by decide
  have Q2 : b64.qmax = 971 := by decide
  have P : (b64.p : Int) = 53 := by decide
  have P2 : (2 : Nat) ^ b64.p = 2 ^ 53 := rfl
  have T : b64.tails = 2 ^ 52 := by decide
  have qu : ∀ j : Int, -900 ≤ j → j ≤ 900 → quantum b64 n 1 j = (n.log2 : Int) - 52 + j := by
    intro j _ _
    unfold quantum
    rw [leading1 h, Q1, P]
    omega
  have key : ∀ j : Int, -900 ≤ j → j ≤ 900 → roundRatio b64 s n 1 j = settle b64 s (nearest (unitsNum n 0 ((n.log2 : Int) - 52)) (unitsDen 1 0 ((n.log2 : Int) - 52))) ((n.log2 : Int) - 52 + j) := by
    intro j a b
    unfold roundRatio
    rw [if_neg (by omega), qu j a b]
    unfold roundAt unitsNum unitsDen
    rw [show j - ((n.log2 : Int) - 52 + j) = 0 - ((n.log2 : Int) - 52) by omega, show (n.log2 : Int) - 52 + j - j = (n.log2 : Int) - 52 - 0 by omega]
  rw [key k h1 h2, key 0 (by decide) (by decide)]
  generalize nearest (unitsNum n 0 ((n.log2 : Int) - 52)) (unitsDen 1 0 ((n.log2 : Int) - 52)) = c
  unfold settle
  rw [P2]
  by_cases hc : c < 2 ^ 53
  · refine ⟨c, (n.log2 : Int) - 52, hc, by omega, by omega, ?_, ?_⟩
    · rw [if_pos hc]; unfold bound; rw [if_pos (by rw [Q2]; omega)]
    · rw [if_pos hc]; unfold bound; rw [if_pos (by rw [Q2]; omega), Int.add_zero]
  · refine ⟨2 ^ 52, (n.log2 : Int) - 51, by decide, by omega, by omega, ?_, ?_⟩
    · rw [if_neg hc]; unfold bound; rw [if_pos (by rw [Q2]; omega), T, show (n.log2 : Int) - 52 + k + 1 = (n.log2 : Int) - 51 + k by omega]
    · rw [if_neg hc]; unfold bound; rw [if_pos (by rw [Q2]; omega), T, show (n.log2 : Int) - 52 + 0 + 1 = (n.log2 : Int) - 51 by omega]
theorem Dy.round_val {k i : Int} {d : Datum} (h : Dy k i d) (h0 : i ≠ 0) : Core.round b64 d = roundRatio b64 (decide (i < 0)) i.natAbs 1 k := by
  obtain ⟨s, c, q, rfl⟩ := h.fin
  have hw : Whole i (.fin s c (q - k)) := h
  have hn := whole_natAbs hw
  have hs := whole_sign hw h0
  rw [← hs]
  refine roundRatio_congr (by decide) (by decide) ?_
  rw [show (-(q - k)).toNat = (k - q).toNat by omega] at hn
  simpa using hn
theorem dy_self (s : Bool) (c : Nat) (q : Int) : Dy q (signed s c) (.fin s c q) := by
  show signed s (c * 2 ^ (q - q).toNat) = signed s c * ((2 ^ (-(q - q)).toNat : Nat) : Int)
  rw [show (q - q).toNat = 0 by omega, show (-(q - q)).toNat = 0 by omega]
  simp
/-- a long, rounded, then divided by a power of two: as if the sum of i * 2^-m were rounded -/
theorem DY.two_ways {x : Int64} {m p' q' : Int} {a b p : UInt64} (ha : DY (-m) p' a) (hb : DY (-m) q' b) (hs : p' + q' = x.toInt) (hp : val64 p = .fin false (2 ^ 52) (m - 52)) (h1 : 0 ≤ m) (h2 : m ≤ 800) : ∃ k j, DY k j (FP.dadd a b) ∧ DY k j (FP.ddiv (FP.l2d x) p) := by
  have b1 := Int64.toInt_lt x
  have b2 := Int64.le_toInt x
  by_cases h53 : x.toInt.natAbs ≤ 2 ^ 53
  · refine ⟨-m, x.toInt, ?_, ?_⟩
    · rw [← hs]; exact ha.add hb (by rw [hs]; exact h53) (by omega) (by omega)
    · have := (DY.of_DI (Core.l2d_int h53)).div2 hp h53 (by omega) (by omega)
      rw [show (0 : Int) - m = -m by omega] at this
      exact this
  · have h0 : x.toInt ≠ 0 := by intro q; rw [q] at h53; exact h53 (by decide)
    obtain ⟨c, q, hc, q1, q2, e1, e2⟩ := round_sh (decide (x.toInt < 0)) (n := x.toInt.natAbs) (by omega) (by omega) (k := -m) (by omega) (by omega)
    refine ⟨q - m, signed (decide (x.toInt < 0)) c, ?_, ?_⟩
    · show Dy (q - m) _ (val64 (Core.dadd a b))
      rw [val64_dadd]
      have hd : Dy (-m) x.toInt (exactSum (val64 a) (val64 b)) := by
        show Whole _ (sh _ _)
        rw [sh_sum, ← hs]
        exact whole_sum ha hb
      rw [hd.round_val h0, e1, show q + -m = q - m by omega]
      exact dy_self _ _ _
    · have hl : DY q (signed (decide (x.toInt < 0)) c) (FP.l2d x) := by
        show Dy q _ (val64 (Core.l2d x))
        rw [val64_l2d]
        have hd : Dy 0 x.toInt (ofInt x.toInt) := by
          show Whole _ (.fin _ _ (0 - 0))
          exact whole_ofInt _
        rw [hd.round_val h0, e2]
        exact dy_self _ _ _
      refine hl.div2 hp ?_ (by omega) (by omega)
      rw [natAbs_signed]; omega
end Dyadic
end Jvm.Own
namespace Jvm.Fx
open Jvm Jvm.ClassFile Sem Op Lib Jvm.Free Jvm.Stand Jvm.LawKit Jvm.RoadKit Bundle
/-! numbers -/
theorem ofNat_mod (a : Nat) : Int32.ofNat (a % 4294967296) = Int32.ofNat a := by
  apply Int32.toBitVec_inj.mp
  rw [Int32.toBitVec_ofNat', Int32.toBitVec_ofNat']
  apply BitVec.eq_of_toNat_eq
  simp
theorem ofNat_modL (a : Nat) : Int64.ofNat (a % 18446744073709551616) = Int64.ofNat a := by
  apply Int64.toBitVec_inj.mp
  rw [Int64.toBitVec_ofNat', Int64.toBitVec_ofNat']
  apply BitVec.eq_of_toNat_eq
  simp
theorem b_add (a b : Nat) : Int32.ofNat a + Int32.ofNat b = Int32.ofNat (Nat.mod (Nat.add a b) 4294967296) := by
  rw [show Nat.mod (Nat.add a b) 4294967296 = (a + b) % 4294967296 from rfl, ofNat_mod, Int32.ofNat_add]
theorem b_mul (a b : Nat) : Int32.ofNat a * Int32.ofNat b = Int32.ofNat (Nat.mod (Nat.mul a b) 4294967296) := by
  rw [show Nat.mod (Nat.mul a b) 4294967296 = (a * b) % 4294967296 from rfl, ofNat_mod, Int32.ofNat_mul]
theorem b_sub (a b : Nat) : Int32.ofNat a - Int32.ofNat b = Int32.ofNat (Nat.mod (Nat.add (Nat.sub 4294967296 (Nat.mod b 4294967296)) a) 4294967296) := by
  rw [show Nat.mod (Nat.add (Nat.sub 4294967296 (Nat.mod b 4294967296)) a) 4294967296 = ((4294967296 - b % 4294967296) + a) % 4294967296 from rfl, ofNat_mod]
  apply Int32.toBitVec_inj.mp
  rw [Int32.toBitVec_sub, Int32.toBitVec_ofNat', Int32.toBitVec_ofNat', Int32.toBitVec_ofNat']
  apply BitVec.eq_of_toNat_eq
  simp [BitVec.toNat_sub]
theorem b_and (a b : Nat) : Int32.ofNat a &&& Int32.ofNat b = Int32.ofNat (Nat.land a b) := by
  apply Int32.toBitVec_inj.mp
  rw [Int32.toBitVec_and, Int32.toBitVec_ofNat', Int32.toBitVec_ofNat', Int32.toBitVec_ofNat']
  apply BitVec.eq_of_toNat_eq
  rw [BitVec.toNat_and]
  simp only [BitVec.toNat_ofNat]
  exact (Nat.and_mod_two_pow (a := a) (b := b) (n := 32)).symm
theorem b_or (a b : Nat) : Int32.ofNat a ||| Int32.ofNat b = Int32.ofNat (Nat.lor a b) := by
  apply Int32.toBitVec_inj.mp
  rw [Int32.toBitVec_or, Int32.toBitVec_ofNat', Int32.toBitVec_ofNat', Int32.toBitVec_ofNat']
  apply BitVec.eq_of_toNat_eq
  rw [BitVec.toNat_or]
  simp only [BitVec.toNat_ofNat]
  exact (Nat.or_mod_two_pow (a := a) (b := b) (n := 32)).symm
theorem b_xor (a b : Nat) : Int32.ofNat a ^^^ Int32.ofNat b = Int32.ofNat (Nat.xor a b) := by
  apply Int32.toBitVec_inj.mp
  rw [Int32.toBitVec_xor, Int32.toBitVec_ofNat', Int32.toBitVec_ofNat', Int32.toBitVec_ofNat']
  apply BitVec.eq_of_toNat_eq
  rw [BitVec.toNat_xor]
  simp only [BitVec.toNat_ofNat]
  exact (Nat.xor_mod_two_pow (a := a) (b := b) (n := 32)).symm
theorem bl_add (a b : Nat) : Int64.ofNat a + Int64.ofNat b = Int64.ofNat (Nat.mod (Nat.add a b) 18446744073709551616) := by
  rw [show Nat.mod (Nat.add a b) 18446744073709551616 = (a + b) % 18446744073709551616 from rfl, ofNat_modL, Int64.ofNat_add]
theorem bl_mul (a b : Nat) : Int64.ofNat a * Int64.ofNat b = Int64.ofNat (Nat.mod (Nat.mul a b) 18446744073709551616) := by
  rw [show Nat.mod (Nat.mul a b) 18446744073709551616 = (a * b) % 18446744073709551616 from rfl, ofNat_modL, Int64.ofNat_mul]
theorem bl_sub (a b : Nat) : Int64.ofNat a - Int64.ofNat b = Int64.ofNat (Nat.mod (Nat.add (Nat.sub 18446744073709551616 (Nat.mod b 18446744073709551616)) a) 18446744073709551616) := by
  rw [show Nat.mod (Nat.add (Nat.sub 18446744073709551616 (Nat.mod b 18446744073709551616)) a) 18446744073709551616 = ((18446744073709551616 - b % 18446744073709551616) + a) % 18446744073709551616 from rfl, ofNat_modL]
  apply Int64.toBitVec_inj.mp
  rw [Int64.toBitVec_sub, Int64.toBitVec_ofNat', Int64.toBitVec_ofNat', Int64.toBitVec_ofNat']
  apply BitVec.eq_of_toNat_eq
  simp [BitVec.toNat_sub]
theorem bl_and (a b : Nat) : Int64.ofNat a &&& Int64.ofNat b = Int64.ofNat (Nat.land a b) := by
  apply Int64.toBitVec_inj.mp
  rw [Int64.toBitVec_and, Int64.toBitVec_ofNat', Int64.toBitVec_ofNat', Int64.toBitVec_ofNat']
  apply BitVec.eq_of_toNat_eq
  rw [BitVec.toNat_and]
  simp only [BitVec.toNat_ofNat]
  exact (Nat.and_mod_two_pow (a := a) (b := b) (n := 64)).symm
theorem bl_or (a b : Nat) : Int64.ofNat a ||| Int64.ofNat b = Int64.ofNat (Nat.lor a b) := by
  apply Int64.toBitVec_inj.mp
  rw [Int64.toBitVec_or, Int64.toBitVec_ofNat', Int64.toBitVec_ofNat', Int64.toBitVec_ofNat']
  apply BitVec.eq_of_toNat_eq
  rw [BitVec.toNat_or]
  simp only [BitVec.toNat_ofNat]
  exact (Nat.or_mod_two_pow (a := a) (b := b) (n := 64)).symm
theorem bl_xor (a b : Nat) : Int64.ofNat a ^^^ Int64.ofNat b = Int64.ofNat (Nat.xor a b) := by
  apply Int64.toBitVec_inj.mp
  rw [Int64.toBitVec_xor, Int64.toBitVec_ofNat', Int64.toBitVec_ofNat', Int64.toBitVec_ofNat']
  apply BitVec.eq_of_toNat_eq
  rw [BitVec.toNat_xor]
  simp only [BitVec.toNat_ofNat]
  exact (Nat.xor_mod_two_pow (a := a) (b := b) (n := 64)).symm
theorem toInt_nat (a : Nat) : (Int32.ofNat a).toInt = ((a + 2147483648) % 4294967296 : Nat) - (2147483648 : Int) := by
  rw [Int32.toInt_ofNat', show Int32.size = 4294967296 from rfl, Int.bmod_def]
  split <;> omega
theorem small (a : Nat) (h : a < 2147483648) : (Int32.ofNat a).toInt = a := by
  rw [toInt_nat]; omega
theorem clamp (a : Nat) (h : a < 2147483648) : (Int32.ofNat a).toNatClampNeg = a := by
  rw [Int32.toNatClampNeg, small a h]; rfl
theorem b_div (a b : Nat) (ha : a < 2147483648) (hb : b < 2147483648) : Int32.ofNat a / Int32.ofNat b = Int32.ofNat (Nat.div a b) := by
  apply Int32.toInt_inj.mp
  have h : Nat.div a b < 2147483648 := Nat.lt_of_le_of_lt (Nat.div_le_self a b) ha
  rw [Int32.toInt_div, small a ha, small b hb, small _ h]
  have e : Int.tdiv (a : Int) (b : Int) = ((Nat.div a b : Nat) : Int) := by rw [← Int.ofNat_tdiv]; rfl
  rw [e]
  refine Int.bmod_eq_of_le ?_ ?_ <;> omega
theorem b_rem (a b : Nat) (ha : a < 2147483648) (hb : b < 2147483648) : Int32.ofNat a % Int32.ofNat b = Int32.ofNat (Nat.mod a b) := by
  apply Int32.toInt_inj.mp
  have h : Nat.mod a b < 2147483648 := Nat.lt_of_le_of_lt (Nat.mod_le a b) ha
  rw [Int32.toInt_mod, small a ha, small b hb, small _ h]
  rw [← Int.ofNat_tmod]; rfl
theorem sh_amt (b : Nat) (h : b < 32) : ((Int32.ofNat b &&& 31).toBitVec.smod 32) = BitVec.ofNat 32 b := by
  have h1 : ∀ b : Fin 32, ((Int32.ofNat b.val &&& 31).toBitVec.smod 32) = BitVec.ofNat 32 b.val := by decide +kernel
  exact h1 ⟨b, h⟩
theorem b_shl (a b : Nat) (h : b < 32) : Int32.ofNat a <<< (Int32.ofNat b &&& 31) = Int32.ofNat (Nat.mod (Nat.shiftLeft a b) 4294967296) := by
  rw [show Nat.mod (Nat.shiftLeft a b) 4294967296 = (a <<< b) % 4294967296 from rfl, ofNat_mod]
  apply Int32.toBitVec_inj.mp
  rw [Int32.toBitVec_shiftLeft, sh_amt b h, Int32.toBitVec_ofNat', Int32.toBitVec_ofNat']
  apply BitVec.eq_of_toNat_eq
  have : b % 2 ^ 32 = b := Nat.mod_eq_of_lt (by omega)
  simp [BitVec.toNat_shiftLeft, this, Nat.shiftLeft_eq]
theorem b_shr (a b : Nat) (ha : a < 2147483648) (h : b < 32) : Int32.ofNat a >>> (Int32.ofNat b &&& 31) = Int32.ofNat (Nat.shiftRight a b) := by
  apply Int32.toBitVec_inj.mp
  rw [Int32.toBitVec_shiftRight, sh_amt b h, Int32.toBitVec_ofNat', Int32.toBitVec_ofNat']
  have hm : (BitVec.ofNat 32 a).msb = false := by
    rw [BitVec.msb_eq_decide]
    simp
    omega
  rw [show (BitVec.ofNat 32 a).sshiftRight' (BitVec.ofNat 32 b) = (BitVec.ofNat 32 a).sshiftRight (BitVec.ofNat 32 b).toNat from rfl, BitVec.sshiftRight_eq_of_msb_false hm]
  apply BitVec.eq_of_toNat_eq
  have e1 : b % 2 ^ 32 = b := Nat.mod_eq_of_lt (by omega)
  have e2 : a % 4294967296 = a := Nat.mod_eq_of_lt (by omega)
  have e3 : a >>> b ≤ a := by rw [Nat.shiftRight_eq_div_pow]; exact Nat.div_le_self _ _
  have e4 : (a >>> b) % 4294967296 = a >>> b := Nat.mod_eq_of_lt (by omega)
  show _ = (BitVec.ofNat 32 (a >>> b)).toNat
  simp [e1, e2, e4]
theorem sh_amtU (b : Nat) (h : b < 32) : ((Int32.ofNat b &&& 31).toUInt32.toBitVec % 32) = BitVec.ofNat 32 b := by
  have h1 : ∀ b : Fin 32, ((Int32.ofNat b.val &&& 31).toUInt32.toBitVec % 32) = BitVec.ofNat 32 b.val := by decide +kernel
  exact h1 ⟨b, h⟩
theorem b_ushr (a b : Nat) (ha : a < 2147483648) (h : b < 32) : XT.ushr (Int32.ofNat a) (Int32.ofNat b) = Int32.ofNat (Nat.shiftRight a b) := by
  unfold XT.ushr
  apply Int32.toBitVec_inj.mp
  have : ((Int32.ofNat a).toUInt32 >>> (Int32.ofNat b &&& 31).toUInt32).toInt32.toBitVec = ((Int32.ofNat a).toUInt32 >>> (Int32.ofNat b &&& 31).toUInt32).toBitVec := rfl
  rw [this, UInt32.toBitVec_shiftRight, sh_amtU b h, Int32.toBitVec_ofNat']
  show BitVec.ofNat 32 a >>> _ = _
  apply BitVec.eq_of_toNat_eq
  have e1 : b % 2 ^ 32 = b := Nat.mod_eq_of_lt (by omega)
  have e2 : a % 4294967296 = a := Nat.mod_eq_of_lt (by omega)
  have e3 : a >>> b ≤ a := by rw [Nat.shiftRight_eq_div_pow]; exact Nat.div_le_self _ _
  have e4 : (a >>> b) % 4294967296 = a >>> b := Nat.mod_eq_of_lt (by omega)
  show _ = (BitVec.ofNat 32 (a >>> b)).toNat
  simp [e1, e2, e4]
theorem b_i2l (a : Nat) (ha : a < 2147483648) : (Int32.ofNat a).toInt64 = Int64.ofNat a := by
  apply Int64.toInt_inj.mp
  rw [Int32.toInt_toInt64, small a ha, Int64.toInt_ofNat', show Int64.size = 18446744073709551616 from rfl]
  refine (Int.bmod_eq_of_le ?_ ?_).symm <;> omega
theorem b_l2i (a : Nat) : (Int64.ofNat a).toInt32 = Int32.ofNat (Nat.mod a 4294967296) := by
  rw [show Nat.mod a 4294967296 = a % 4294967296 from rfl, ofNat_mod, Int64.toInt32_ofNat']
theorem len32 (n : Nat) : Nat.toInt32 n = Int32.ofNat n := rfl
theorem mask31 (x : Int32) : 0 ≤ (x &&& Int32.ofNat 2147483647).toInt := by
  have h : (x &&& Int32.ofNat 2147483647).toBitVec.msb = false := by
    rw [Int32.toBitVec_and, BitVec.msb_and, show (Int32.ofNat 2147483647).toBitVec.msb = false from rfl, Bool.and_false]
  show 0 ≤ (x &&& Int32.ofNat 2147483647).toBitVec.toInt
  rw [BitVec.toInt_eq_toNat_of_msb h]
  omega
/-- x mod m, x taken without its sign -/
theorem md (m : Nat) (h0 : 0 < m) (hm : m < 2147483648) (x : Int32) : ∃ z, z < m ∧ (x &&& Int32.ofNat 2147483647) % Int32.ofNat m = Int32.ofNat z := by
  have h := mask31 x
  generalize (x &&& Int32.ofNat 2147483647) = y at *
  have e : (y % Int32.ofNat m).toInt = y.toInt % m := by
    rw [Int32.toInt_mod, small m hm, Int.tmod_eq_emod_of_nonneg h]
  have b1 : 0 ≤ y.toInt % (m : Int) := Int.emod_nonneg _ (by omega)
  have b2 : y.toInt % (m : Int) < m := Int.emod_lt_of_pos _ (by omega)
  refine ⟨(y.toInt % m).toNat, by omega, ?_⟩
  apply Int32.toInt_inj.mp
  rw [e, small _ (by omega)]
  omega
/-- the low bits of x -/
theorem bits (k : Nat) (hk : k ≤ 31) (x : Int32) : ∃ z, z < 2 ^ k ∧ x &&& Int32.ofNat (2 ^ k - 1) = Int32.ofNat z := by
  refine ⟨x.toBitVec.toNat % 2 ^ k, Nat.mod_lt _ (Nat.two_pow_pos k), ?_⟩
  apply Int32.toBitVec_inj.mp
  rw [Int32.toBitVec_and, Int32.toBitVec_ofNat', Int32.toBitVec_ofNat']
  apply BitVec.eq_of_toNat_eq
  have h1 : 2 ^ k ≤ 2 ^ 31 := Nat.pow_le_pow_right (by decide) hk
  have h2 := Nat.two_pow_pos k
  rw [BitVec.toNat_and, BitVec.toNat_ofNat, BitVec.toNat_ofNat, Nat.mod_eq_of_lt (show 2 ^ k - 1 < 2 ^ 32 by omega), Nat.and_two_pow_sub_one_eq_mod]
  have h3 := Nat.mod_lt x.toBitVec.toNat h2
  rw [Nat.mod_eq_of_lt (show x.toBitVec.toNat % 2 ^ k < 2 ^ 32 by omega)]
/-! the fast abstract machine: locals, stack and heap are three naturals of 80-bit digits; a value is tag * 2^69 + number; unknown ones are tokens -/
def Res : Type := Option (Option Nat × Nat × Nat × Nat × Nat × Nat)
def Res.bad : Res := none
def Res.ok (v : Option Nat) (A k n f w : Nat) : Res := some (v, A, k, n, f, w)
abbrev Cont : Type := Nat → Nat → Nat → Res
abbrev Jmp : Type := Nat → Cont
abbrev Cal : Type := Nat → Nat → Nat → Res
/-- 0: no row; else the answer and one -/
abbrev Tab : Type := Nat → Nat → Nat → Nat
def brc (x y : Res) (b : Bool) : Res := Bool.casesOn (motive := fun _ => Res) b x y
def brcC (x y : Cont) (b : Bool) : Cont := Bool.casesOn (motive := fun _ => Cont) b x y
def brcN (x y : Nat) (b : Bool) : Nat := Bool.casesOn (motive := fun _ => Nat) b x y
def nrc (z : Res) (s : Nat → Res) (n : Nat) : Res := Nat.casesOn (motive := fun _ => Res) n z s
def orv (z : Res) (f : Nat → Res) (o : Option Nat) : Res := Option.casesOn (motive := fun _ => Res) o z f
abbrev RT : Type := Option Nat × Nat × Nat × Nat × Nat × Nat
def orc (f : RT → Res) (o : Res) : Res := Option.casesOn (motive := fun _ => Res) o .bad f
def rrc (g : Option Nat → Nat → Nat → Nat → Nat → Nat → Res) (r : Res) : Res := orc (fun p => g (Prod.fst p) (Prod.fst (Prod.snd p)) (Prod.fst (Prod.snd (Prod.snd p))) (Prod.fst (Prod.snd (Prod.snd (Prod.snd p)))) (Prod.fst (Prod.snd (Prod.snd (Prod.snd (Prod.snd p))))) (Prod.snd (Prod.snd (Prod.snd (Prod.snd (Prod.snd p)))))) r
/-- the number itself, reckoned -/
def nf (m : Nat) (k : Nat → Res) : Res := nrc .bad k (Nat.add m 1)
def dg (A i : Nat) : Nat := Nat.land (Nat.shiftRight A (Nat.mul 80 i)) 1208925819614629174706175
/-- digit i > 0 becomes v; digit 0 is salt -/
def setD (A i v : Nat) : Nat := Nat.xor A (Nat.lor (Nat.shiftLeft (Nat.xor (dg A i) v) (Nat.mul 80 i)) (Nat.land (Nat.mul (Nat.xor (dg A i) v) (Nat.succ (Nat.mul 2 i))) 18446744073709551615))
def psh (S v : Nat) : Nat := Nat.lor (Nat.shiftLeft S 80) v
def rsk (n S : Nat) : Nat := Nat.shiftRight S (Nat.mul 80 n)
def mx (a b : Nat) : Nat := Nat.add a (Nat.sub b a)
def c2 (v : Nat) : Nat := Nat.land (Nat.shiftRight v 72) 1
def xc (d : Nat) (S : Nat) : Nat := Nat.rec (motive := fun _ => Nat → Nat) (fun _ => 0) (fun _ ih S => Nat.add (ih (rsk 1 S)) (Nat.succ (c2 (dg S 0)))) d S
def addC (k n f w : Nat) (r : Res) : Res := rrc (fun v A k' n' f' w' => .ok v A (Nat.add k k') (Nat.add n n') (mx f f') (mx w w')) r
/-! the steps -/
def sg (a : Nat) : Nat := Nat.mod (Nat.add a 2147483648) 4294967296
def cstF (v : Nat) (c : Cont) : Cont := fun L S A => nf (psh S v) fun S => c L S A
/-- q 0 int, 1 ref or null, 4 long, 5 double -/
def onq (q v : Nat) : Bool := Nat.beq (Nat.shiftRight v 70) q
def ldF (q i : Nat) (c : Cont) : Cont := fun L S A => brc .bad (nf (psh S (dg L (Nat.succ i))) fun S => c L S A) (onq q (dg L (Nat.succ i)))
/-- 0 one word, 2 unset, 1.. two words: by the tag's upper two bits: 0 one word, 1 unset, 2 two words, 3 a second word -/
def tq (v : Nat) : Nat := Nat.land (Nat.shiftRight v 71) 3
def st1F (ml q i : Nat) (c : Cont) : Cont := fun L S A => brc .bad
  (brc (brc (brc .bad (nf (setD (setD L i 2361183241434822606848) (Nat.succ i) (dg S 0)) fun L => nf (rsk 1 S) fun S => c L S A) (Nat.blt 0 i))
      (brc .bad (nf (setD (setD L (Nat.succ (Nat.succ i)) 2361183241434822606848) (Nat.succ i) (dg S 0)) fun L => nf (rsk 1 S) fun S => c L S A) (Nat.blt (Nat.succ i) ml)) (Nat.beq (tq (dg L (Nat.succ i))) 2))
    (nf (setD L (Nat.succ i) (dg S 0)) fun L => nf (rsk 1 S) fun S => c L S A) (Nat.ble (tq (dg L (Nat.succ i))) 1))
  (onq q (dg S 0))
def st2F (q i : Nat) (c : Cont) : Cont := fun L S A => brc .bad
  (brc (brc (nf (setD (setD L (Nat.succ i) (dg S 0)) (Nat.succ (Nat.succ i)) 7083549724304467820544) fun L => nf (rsk 1 S) fun S => c L S A) .bad (Nat.beq (tq (dg L (Nat.succ (Nat.succ i)))) 2)) .bad (Nat.beq (tq (dg L (Nat.succ i))) 3))
  (onq q (dg S 0))
def incF (i m : Nat) (c : Cont) : Cont := fun L S A => brc .bad (nf (setD L (Nat.succ i) (Nat.mod (Nat.add (dg L (Nat.succ i)) m) 4294967296)) fun L => c L S A) (Nat.beq (Nat.shiftRight (dg L (Nat.succ i)) 69) 0)
section Tabled
variable (T : Tab)
def tabC (o x y : Nat) (k : Nat → Res) : Res := nrc .bad (fun v => brc .bad (k v) (Nat.beq (Nat.shiftRight v 80) 0)) (T o x y)
/-- two ints: h of known ones, the table for others -/
def bI (o : Nat) (h : Nat → Nat → Nat) (c : Cont) : Cont := fun L S A => brc (tabC T o (dg S 1) (dg S 0) fun v => nf (psh (rsk 2 S) v) fun S => c L S A) (nf (psh (rsk 2 S) (h (dg S 1) (dg S 0))) fun S => c L S A) (Nat.beq (Nat.shiftRight (Nat.lor (dg S 1) (dg S 0)) 69) 0)
def bP (o : Nat) (q : Nat → Nat → Bool) (h : Nat → Nat → Nat) (c : Cont) : Cont := fun L S A => brc (tabC T o (dg S 1) (dg S 0) fun v => nf (psh (rsk 2 S) v) fun S => c L S A) (brc .bad (nf (psh (rsk 2 S) (h (dg S 1) (dg S 0))) fun S => c L S A) (q (dg S 1) (dg S 0))) (Nat.beq (Nat.shiftRight (Nat.lor (dg S 1) (dg S 0)) 69) 0)
def bJ (o : Nat) (h : Nat → Nat → Nat) (c : Cont) : Cont := fun L S A => brc (tabC T o (dg S 1) (dg S 0) fun v => nf (psh (rsk 2 S) v) fun S => c L S A) (nf (psh (rsk 2 S) (Nat.add 4722366482869645213696 (h (Nat.sub (dg S 1) 4722366482869645213696) (Nat.sub (dg S 0) 4722366482869645213696)))) fun S => c L S A) (Nat.beq (Nat.add (Nat.xor (Nat.shiftRight (dg S 1) 69) 8) (Nat.xor (Nat.shiftRight (dg S 0) 69) 8)) 0)
def bT (o : Nat) (c : Cont) : Cont := fun L S A => tabC T o (dg S 1) (dg S 0) fun v => nf (psh (rsk 2 S) v) fun S => c L S A
def uT (o : Nat) (c : Cont) : Cont := fun L S A => tabC T o (dg S 0) 1180591620717411303424 fun v => nf (psh (rsk 1 S) v) fun S => c L S A
def i2lF (c : Cont) : Cont := fun L S A => brc (tabC T 33 (dg S 0) 1180591620717411303424 fun v => nf (psh (rsk 1 S) v) fun S => c L S A) (nf (psh (rsk 1 S) (Nat.add 4722366482869645213696 (dg S 0))) fun S => c L S A) (Nat.blt (dg S 0) 2147483648)
end Tabled
def hadd (a b : Nat) : Nat := Nat.mod (Nat.add a b) 4294967296
def hsub (a b : Nat) : Nat := Nat.mod (Nat.add (Nat.sub 4294967296 (Nat.mod b 4294967296)) a) 4294967296
def hmul (a b : Nat) : Nat := Nat.mod (Nat.mul a b) 4294967296
def haddL (a b : Nat) : Nat := Nat.mod (Nat.add a b) 18446744073709551616
def hsubL (a b : Nat) : Nat := Nat.mod (Nat.add (Nat.sub 18446744073709551616 (Nat.mod b 18446744073709551616)) a) 18446744073709551616
def hmulL (a b : Nat) : Nat := Nat.mod (Nat.mul a b) 18446744073709551616
def qdiv (a b : Nat) : Bool := and (Nat.blt a 2147483648) (and (Nat.blt 0 b) (Nat.blt b 2147483648))
def qshl (_ b : Nat) : Bool := Nat.blt b 32
def qshr (a b : Nat) : Bool := and (Nat.blt a 2147483648) (Nat.blt b 32)
def hshl (a b : Nat) : Nat := Nat.mod (Nat.shiftLeft a b) 4294967296
def dupF (c : Cont) : Cont := fun L S A => brc .bad (nf (psh S (dg S 0)) fun S => c L S A) (Nat.beq (c2 (dg S 0)) 0)
def popF (c : Cont) : Cont := fun L S A => brc .bad (nf (rsk 1 S) fun S => c L S A) (Nat.beq (c2 (dg S 0)) 0)
def dup2F (c : Cont) : Cont := fun L S A => brc .bad (nf (psh (psh S (dg S 1)) (dg S 0)) fun S => c L S A) (Nat.beq (Nat.add (c2 (dg S 0)) (c2 (dg S 1))) 0)
def dupX1F (c : Cont) : Cont := fun L S A => brc .bad (nf (psh (psh (psh (rsk 2 S) (dg S 0)) (dg S 1)) (dg S 0)) fun S => c L S A) (Nat.beq (Nat.add (c2 (dg S 0)) (c2 (dg S 1))) 0)
def dupX2F (c : Cont) : Cont := fun L S A => brc .bad (nf (psh (psh (psh (psh (rsk 3 S) (dg S 0)) (dg S 2)) (dg S 1)) (dg S 0)) fun S => c L S A) (Nat.beq (Nat.add (c2 (dg S 0)) (Nat.add (c2 (dg S 1)) (c2 (dg S 2)))) 0)
/-! branches: there, or on -/
section Branch
variable (T : Tab)
def tabB (o x y : Nat) (t f : Res) : Res := nrc .bad (fun v => nrc f (fun u => nrc t (fun _ => .bad) u) v) (T o x y)
def b0 (o : Nat) (h : Nat → Bool) (t c : Cont) : Cont := fun L S A => nf (rsk 1 S) fun S1 => brc (tabB T o (dg S 0) 1180591620717411303424 (t L S1 A) (c L S1 A)) (brc (c L S1 A) (t L S1 A) (h (dg S 0))) (Nat.beq (Nat.shiftRight (dg S 0) 69) 0)
def b2 (o : Nat) (h : Nat → Nat → Bool) (t c : Cont) : Cont := fun L S A => nf (rsk 2 S) fun S1 => brc (tabB T o (dg S 1) (dg S 0) (t L S1 A) (c L S1 A)) (brc (c L S1 A) (t L S1 A) (h (dg S 1) (dg S 0))) (Nat.beq (Nat.shiftRight (Nat.lor (dg S 1) (dg S 0)) 69) 0)
end Branch
def zEq (a : Nat) : Bool := Nat.beq (Nat.mod a 4294967296) 0
def zNe (a : Nat) : Bool := not (zEq a)
def zLt (a : Nat) : Bool := Nat.ble 2147483648 (Nat.mod a 4294967296)
def zGe (a : Nat) : Bool := not (zLt a)
def zGt (a : Nat) : Bool := Nat.blt 2147483648 (sg a)
def zLe (a : Nat) : Bool := not (zGt a)
def cEq (a b : Nat) : Bool := Nat.beq (Nat.mod a 4294967296) (Nat.mod b 4294967296)
def cNe (a b : Nat) : Bool := not (cEq a b)
def cLt (a b : Nat) : Bool := Nat.blt (sg a) (sg b)
def cGe (a b : Nat) : Bool := not (cLt a b)
def cGt (a b : Nat) : Bool := cLt b a
def cLe (a b : Nat) : Bool := not (cLt b a)
def nullF (t c : Cont) : Cont := fun L S A => nf (rsk 1 S) fun S1 => brc .bad (brc (t L S1 A) (c L S1 A) (Nat.beq (Nat.shiftRight (dg S 0) 69) 3)) (onq 1 (dg S 0))
/-- two references: there if they are one -/
def acmpF (t c : Cont) : Cont := fun L S A => nf (rsk 2 S) fun S1 => brc .bad (brc (c L S1 A) (t L S1 A) (Nat.beq (dg S 1) (dg S 0))) (Nat.beq (Nat.add (Nat.xor (Nat.shiftRight (dg S 0) 69) 3) (Nat.xor (Nat.shiftRight (dg S 1) 69) 3)) 0)
def jpF (J : Jmp) (t : Nat) : Cont := fun L _ A => J t L 0 A
/-! the heap: digit 1 the number of objects; of object a < 64 the kind and one at a + 2, the length at a + 66, word j at a + 130 + 64 j -/
def hx (a j : Nat) : Nat := Nat.add (Nat.add a 130) (Nat.mul 64 j)
def rf (v : Nat) : Nat := Nat.sub v 1770887431076116955136
/-- 0: object a is there, of kind kd -/
def isO (A a kd : Nat) : Nat := Nat.add (Nat.xor (dg A (Nat.add a 2)) (Nat.succ kd)) (Nat.add (Nat.sub (Nat.succ a) (dg A 1)) (Nat.shiftRight a 6))
/-- 0: object a is there -/
def isA (A a : Nat) : Nat := Nat.add (Nat.sub (Nat.succ a) (dg A 1)) (Nat.shiftRight a 6)
def isR (v : Nat) : Nat := Nat.xor (Nat.shiftRight v 69) 3
def kdO (A a : Nat) : Nat := Nat.pred (dg A (Nat.add a 2))
def lnO (A a : Nat) : Nat := dg A (Nat.add a 66)
def mkO (A kd n : Nat) : Nat := setD (setD (setD A (Nat.add (dg A 1) 2) (Nat.succ kd)) (Nat.add (dg A 1) 66) n) 1 (Nat.succ (dg A 1))
/-- words p .. p + n - 1 of object a become v -/
def fillC (v a n : Nat) (A : Nat) : Nat := Nat.rec (motive := fun _ => Nat) A (fun j ih => setD ih (hx a j) v) n
def flds (a : Nat) : List Nat → Nat → Nat → Nat
  | [], _, A => A
  | v :: r, j, A => flds a r (Nat.succ j) (setD A (hx a j) v)
/-- words d .. d + n - 1 of object q become words p .. of a, as they stand in A0 -/
def cpC (A0 a p q d n : Nat) (A : Nat) : Nat := Nat.rec (motive := fun _ => Nat) A (fun j ih => setD ih (hx q (Nat.add d j)) (dg A0 (hx a (Nat.add p j)))) n
section Heap
variable (T : Tab)
def idx (y : Nat) (k : Nat → Res) : Res := brc (tabC T 60 y 1180591620717411303424 fun v => brc .bad (k v) (Nat.blt v 2147483648)) (k y) (Nat.blt y 2147483648)
def alF (kd : Nat) (c : Cont) : Cont := fun L S A => idx T (dg S 0) fun n => brc .bad (nf (psh (rsk 2 S) (dg A (hx (rf (dg S 1)) n))) fun S => c L S A) (Nat.beq (Nat.add (isR (dg S 1)) (Nat.add (isO A (rf (dg S 1)) kd) (Nat.sub (Nat.succ n) (lnO A (rf (dg S 1)))))) 0)
def asF (k0 kd q : Nat) (c : Cont) : Cont := fun L S A => idx T (dg S 1) fun n => brc .bad (nf (setD A (hx (rf (dg S 2)) n) (dg S 0)) fun A => nf (rsk 3 S) fun S => c L S A) (Nat.beq (Nat.add (Nat.xor (Nat.shiftRight (dg S 0) 70) q) (Nat.add (Nat.sub k0 (rf (dg S 2))) (Nat.add (isR (dg S 2)) (Nat.add (isO A (rf (dg S 2)) kd) (Nat.sub (Nat.succ n) (lnO A (rf (dg S 2)))))))) 0)
def newaF (kd v : Nat) (c : Cont) : Cont := fun L S A => idx T (dg S 0) fun n => brc .bad (nf (fillC v (dg A 1) n (mkO A kd n)) fun A1 => nf (psh (rsk 1 S) (Nat.add 1770887431076116955136 (dg A 1))) fun S => addC 1 n 0 0 (c L S A1)) (Nat.beq (Nat.add (Nat.sub n 67108864) (Nat.shiftRight (dg A 1) 6)) 0)
def ext1F (o f w d : Nat) (c : Cont) : Cont := fun L S A => tabC T o (dg S 0) 1180591620717411303424 fun v => nf (psh (rsk 1 S) v) fun S1 => addC 0 0 f (Nat.add (xc d (rsk 1 S)) w) (c L S1 A)
def acpF (k0 d : Nat) (c : Cont) : Cont := fun L S A => idx T (dg S 0) fun n => idx T (dg S 1) fun dp => idx T (dg S 3) fun sp => brc .bad (nf (cpC A (rf (dg S 4)) sp (rf (dg S 2)) dp n A) fun A1 => nf (rsk 5 S) fun S1 => addC 0 0 1 (Nat.add (xc d S1) 18) (c L S1 A1))
  (Nat.beq (Nat.add (Nat.add (isR (dg S 4)) (isR (dg S 2))) (Nat.add (Nat.add (isA A (rf (dg S 4))) (isO A (rf (dg S 2)) (kdO A (rf (dg S 4))))) (Nat.add (Nat.add (Nat.sub (kdO A (rf (dg S 4))) 2) (Nat.sub k0 (rf (dg S 2)))) (Nat.add (Nat.sub (Nat.add dp n) (lnO A (rf (dg S 2)))) (Nat.sub (Nat.add sp n) (lnO A (rf (dg S 4)))))))) 0)
end Heap
def alenF (c : Cont) : Cont := fun L S A => brc .bad (nf (psh (rsk 1 S) (lnO A (rf (dg S 0)))) fun S => c L S A) (Nat.beq (Nat.add (isR (dg S 0)) (Nat.add (isA A (rf (dg S 0))) (Nat.add (Nat.sub (kdO A (rf (dg S 0))) 4) (Nat.shiftRight (lnO A (rf (dg S 0))) 31)))) 0)
def getF (kd j : Nat) (c : Cont) : Cont := fun L S A => brc .bad (nf (psh (rsk 1 S) (dg A (hx (rf (dg S 0)) j))) fun S => c L S A) (Nat.beq (Nat.add (isR (dg S 0)) (Nat.add (isO A (rf (dg S 0)) kd) (Nat.sub (Nat.succ j) (lnO A (rf (dg S 0)))))) 0)
def fitB (v : Nat) : Bool := Nat.ble v 1
def putF (k0 kd j : Nat) (fit : Nat → Bool) (c : Cont) : Cont := fun L S A => brc .bad (brc .bad (nf (setD A (hx (rf (dg S 1)) j) (dg S 0)) fun A => nf (rsk 2 S) fun S => c L S A) (Nat.beq (Nat.add (Nat.sub k0 (rf (dg S 1))) (Nat.add (isR (dg S 1)) (Nat.add (isO A (rf (dg S 1)) kd) (Nat.sub (Nat.succ j) (lnO A (rf (dg S 1))))))) 0)) (fit (dg S 0))
def newF (kd sz n : Nat) (vs : List Nat) (c : Cont) : Cont := fun L S A => brc .bad (nf (flds (dg A 1) vs 0 (mkO A kd n)) fun A1 => nf (psh S (Nat.add 1770887431076116955136 (dg A 1))) fun S => addC 1 sz 0 0 (c L S A1)) (Nat.beq (Nat.shiftRight (dg A 1) 6) 0)
def cloneF (kd d : Nat) (c : Cont) : Cont := fun L S A => brc .bad (nf (cpC A (rf (dg S 0)) 0 (dg A 1) 0 (lnO A (rf (dg S 0))) (mkO A kd (lnO A (rf (dg S 0))))) fun A1 => nf (psh (rsk 1 S) (Nat.add 1770887431076116955136 (dg A 1))) fun S1 => addC 1 (lnO A (rf (dg S 0))) 1 (Nat.add (xc d (rsk 1 S)) 14) (c L S1 A1)) (Nat.beq (Nat.add (isR (dg S 0)) (Nat.add (isO A (rf (dg S 0)) kd) (Nat.shiftRight (dg A 1) 6))) 0)
def castF (ks : Nat → Bool) (c : Cont) : Cont := fun L S A => brc .bad (brc .bad (c L S A) (ks (kdO A (rf (dg S 0))))) (Nat.beq (Nat.add (isR (dg S 0)) (isA A (rf (dg S 0)))) 0)
def oinitF (d : Nat) (c : Cont) : Cont := fun L S A => brc .bad (nf (rsk 1 S) fun S1 => addC 0 0 1 (Nat.add (xc d S1) 12) (c L S1 A)) (Nat.beq (isR (dg S 0)) 0)
/-! calls and returns -/
def back (w L S : Nat) (c : Cont) (x : Res) : Res := rrc (fun v A' k n f w' => nf A' fun A' => addC k n (Nat.succ f) (Nat.add w w') (orv (c L S A') (fun u => brc .bad (nf (psh S u) fun S => c L S A') (Nat.beq (Nat.shiftRight u 80) 0)) v)) x
/-- b: the body, ml: its locals, d: what stays on the stack, L': its locals -/
def callF (R : Cal) (b ml d S L A : Nat) (c : Cont) (L' : Nat) : Res := nf L' fun L' => nf S fun S => back (Nat.add (xc d S) (Nat.add ml 11)) L S c (R b L' A)
def retF (fit : Nat → Bool) : Cont := fun _ S A => brc .bad (.ok (some (dg S 0)) A 0 0 0 0) (fit (dg S 0))
def xretV : Cont := fun _ _ A => .ok none A 0 0 0 0
def stop : Cont := fun _ _ _ => .bad
def dbl (X : Jmp → Jmp) (J : Jmp) : Jmp := X (X J)
def dblR (B : Cal → Cal) (R : Cal) : Cal := B (B R)
/-- up to 512 rounds -/
def loop (X : Jmp → Jmp) (L A : Nat) : Res := dbl (dbl (dbl (dbl (dbl (dbl (dbl (dbl (dbl X)))))))) (fun _ => stop) 0 L 0 A
/-- up to 16 calls deep -/
def xrun (B : Cal → Cal) : Cal := dblR (dblR (dblR (dblR B))) (fun _ _ _ => .bad)
def isOk (r : Res) : Bool := Option.casesOn (motive := fun _ => Bool) r false (fun _ => true)
/-- it returns 1, within its room -/
def xok (K N F W : Nat) (r : Res) : Bool := isOk (rrc (fun v A k n f w => orv .bad (fun u => brc .bad (.ok none 0 0 0 0 0) (Nat.beq (Nat.add (Nat.xor u 1) (Nat.add (Nat.add (Nat.sub k K) (Nat.sub n N)) (Nat.add (Nat.sub f F) (Nat.sub w W)))) 0)) v) r)
/-- a row of a table -/
def tb (o x y O X Y v rest : Nat) : Nat := brcN rest (Nat.succ v) (Nat.beq (Nat.add (Nat.xor o O) (Nat.add (Nat.xor x X) (Nat.xor y Y))) 0)
def grp (o O sub rest : Nat) : Nat := brcN rest sub (Nat.beq o O)
def tr (z v rest : Nat) : Nat := brcN rest (Nat.succ v) (Nat.beq z 0)
/-! digits -/
theorem dg_eq (A i : Nat) : dg A i = (A >>> (80 * i)) % 2 ^ 80 := by
  show (A >>> (80 * i)) &&& (2 ^ 80 - 1) = _
  exact Nat.and_two_pow_sub_one_eq_mod _ 80
theorem dg_bit (A i k : Nat) : (dg A i).testBit k = (decide (k < 80) && A.testBit (80 * i + k)) := by
  rw [dg_eq, Nat.testBit_mod_two_pow, Nat.testBit_shiftRight]
theorem dg_lt {A i : Nat} : dg A i < 2 ^ 80 := by rw [dg_eq]; exact Nat.mod_lt _ (Nat.two_pow_pos 80)
theorem dg_ext {a A i : Nat} (ha : a < 2 ^ 80) (h : ∀ k, k < 80 → A.testBit (80 * i + k) = a.testBit k) : dg A i = a := by
  refine Nat.eq_of_testBit_eq fun k => ?_
  rw [dg_bit]
  by_cases hk : k < 80
  · rw [h k hk, decide_eq_true hk, Bool.true_and]
  · rw [decide_eq_false hk, Bool.false_and]
    exact (Nat.testBit_lt_two_pow (Nat.lt_of_lt_of_le ha (Nat.pow_le_pow_right (by decide) (by omega)))).symm
theorem bit_hi {a k : Nat} (ha : a < 2 ^ 80) (hk : 80 ≤ k) : a.testBit k = false := Nat.testBit_lt_two_pow (Nat.lt_of_lt_of_le ha (Nat.pow_le_pow_right (by decide) hk))
theorem psh_bit (S v k : Nat) : (psh S v).testBit k = ((decide (80 ≤ k) && S.testBit (k - 80)) || v.testBit k) := by
  show ((S <<< 80) ||| v).testBit k = _
  rw [Nat.testBit_or, Nat.testBit_shiftLeft]
theorem dg_psh0 {S v : Nat} (h : v < 2 ^ 80) : dg (psh S v) 0 = v := by
  refine dg_ext h fun k hk => ?_
  rw [psh_bit, Nat.mul_zero, Nat.zero_add, decide_eq_false (by omega), Bool.false_and, Bool.false_or]
theorem dg_pshS {S v : Nat} (h : v < 2 ^ 80) (i : Nat) : dg (psh S v) (i + 1) = dg S i := by
  refine dg_ext dg_lt fun k hk => ?_
  rw [psh_bit, dg_bit, bit_hi h (by omega), Bool.or_false, decide_eq_true (by omega), decide_eq_true hk, Bool.true_and, Bool.true_and]
  congr 1; omega
theorem rsk_bit (n S k : Nat) : (rsk n S).testBit k = S.testBit (80 * n + k) := by
  show (S >>> (80 * n)).testBit k = _
  rw [Nat.testBit_shiftRight]
theorem dg_rsk (n S i : Nat) : dg (rsk n S) i = dg S (n + i) := by
  refine dg_ext dg_lt fun k hk => ?_
  rw [rsk_bit, dg_bit, decide_eq_true hk, Bool.true_and]
  congr 1; omega
theorem rsk_rsk (n m S : Nat) : rsk n (rsk m S) = rsk (m + n) S := by
  refine Nat.eq_of_testBit_eq fun k => ?_
  rw [rsk_bit, rsk_bit, rsk_bit]
  congr 1; omega
theorem rsk_psh {S v : Nat} (h : v < 2 ^ 80) : rsk 1 (psh S v) = S := by
  refine Nat.eq_of_testBit_eq fun k => ?_
  rw [rsk_bit, psh_bit, bit_hi h (by omega), Bool.or_false, decide_eq_true (by omega), Bool.true_and]
  congr 1; omega
theorem dg_set {A i v j : Nat} (hv : v < 2 ^ 80) (hi : 0 < i) (hj : 0 < j) : dg (setD A i v) j = if j = i then v else dg A j := by
  have hx : dg A i ^^^ v < 2 ^ 80 := Nat.xor_lt_two_pow dg_lt hv
  have hs : ∀ y k, 80 ≤ k → (y &&& 18446744073709551615).testBit k = false := fun y k hk => by
    rw [Nat.testBit_and, show (18446744073709551615 : Nat) = 2 ^ 64 - 1 from rfl, Nat.testBit_two_pow_sub_one, decide_eq_false (by omega), Bool.and_false]
  have hb : ∀ k, k < 80 → (setD A i v).testBit (80 * j + k) = (A.testBit (80 * j + k) ^^ (decide (80 * i ≤ 80 * j + k) && (dg A i ^^^ v).testBit (80 * j + k - 80 * i))) := fun k hk => by
    show (A ^^^ (((dg A i ^^^ v) <<< (80 * i)) ||| (_ &&& 18446744073709551615))).testBit _ = _
    rw [Nat.testBit_xor, Nat.testBit_or, hs _ _ (by omega), Bool.or_false, Nat.testBit_shiftLeft]
  by_cases e : j = i
  · subst e
    rw [if_pos rfl]
    refine dg_ext hv fun k hk => ?_
    rw [hb k hk, decide_eq_true (by omega), Bool.true_and, Nat.add_sub_cancel_left, Nat.testBit_xor, dg_bit, decide_eq_true hk, Bool.true_and]
    cases A.testBit (80 * j + k) <;> cases v.testBit k <;> rfl
  · rw [if_neg e]
    refine dg_ext dg_lt fun k hk => ?_
    rw [hb k hk, dg_bit, decide_eq_true hk, Bool.true_and]
    by_cases l : 80 * i ≤ 80 * j + k
    · rw [bit_hi hx (by omega), Bool.and_false, Bool.xor_false]
    · rw [decide_eq_false l, Bool.false_and, Bool.xor_false]
theorem dg_set_eq {A i v : Nat} (hv : v < 2 ^ 80) (hi : 0 < i) : dg (setD A i v) i = v := by rw [dg_set hv hi hi, if_pos rfl]
theorem dg_set_ne {A i v j : Nat} (hv : v < 2 ^ 80) (hi : 0 < i) (hj : 0 < j) (e : j ≠ i) : dg (setD A i v) j = dg A j := by rw [dg_set hv hi hj, if_neg e]
/-! tags -/
theorem xor0 {a b : Nat} (h : Nat.xor a b = 0) : a = b := by
  have h : a ^^^ b = 0 := h
  have : a ^^^ b ^^^ b = 0 ^^^ b := by rw [h]
  rwa [Nat.xor_assoc, Nat.xor_self, Nat.xor_zero, Nat.zero_xor] at this
theorem add0 {a b : Nat} (h : Nat.add a b = 0) : a = 0 ∧ b = 0 := by
  have h : a + b = 0 := h
  omega
theorem sub0 {a b : Nat} (h : Nat.sub a b = 0) : a ≤ b := by
  have h : a - b = 0 := h
  omega
theorem beq0 {a b : Nat} (h : Nat.beq a b = true) : a = b := Nat.eq_of_beq_eq_true h
theorem shr_lt {v k : Nat} (h : Nat.shiftRight v k = 0) : v < 2 ^ k := by
  have h : v >>> k = 0 := h
  rw [Nat.shiftRight_eq_div_pow] at h
  exact Nat.lt_of_div_eq_zero (Nat.two_pow_pos k) h
theorem shr_eq (v k : Nat) : Nat.shiftRight v k = v / 2 ^ k := Nat.shiftRight_eq_div_pow v k
def tg (v : Nat) : Nat := v / 2 ^ 69 % 16
theorem tg_of {v t : Nat} (h : Nat.shiftRight v 69 = t) (ht : t < 16) : tg v = t := by
  rw [shr_eq] at h
  unfold tg
  omega
theorem tg_lt (v : Nat) : tg v < 16 := Nat.mod_lt _ (by decide)
theorem on_tg {q v : Nat} (h : onq q v = true) (hq : q < 8) : tg v = 2 * q ∨ tg v = 2 * q + 1 := by
  have h : Nat.shiftRight v 70 = q := beq0 h
  rw [shr_eq] at h
  unfold tg
  omega
theorem c2_eq (v : Nat) : c2 v = tg v / 8 % 2 := by
  show (v >>> 72) &&& (2 ^ 1 - 1) = _
  rw [Nat.and_two_pow_sub_one_eq_mod, Nat.shiftRight_eq_div_pow]
  unfold tg
  omega
theorem tq_eq (v : Nat) : tq v = tg v / 4 % 4 := by
  show (v >>> 71) &&& (2 ^ 2 - 1) = _
  rw [Nat.and_two_pow_sub_one_eq_mod, Nat.shiftRight_eq_div_pow]
  unfold tg
  omega
theorem or69 {a b : Nat} (h : Nat.shiftRight (Nat.lor a b) 69 = 0) : a < 2 ^ 69 ∧ b < 2 ^ 69 := by
  have h := shr_lt h
  have h1 : a ≤ a ||| b := Nat.left_le_or
  have h2 : b ≤ a ||| b := Nat.right_le_or
  have h : a ||| b < 2 ^ 69 := h
  omega
/-! what the numbers stand for -/
abbrev Rho : Type := (Nat → Int32) × (Nat → Int64) × (Nat → UInt64)
def avt (ρ : Rho) (t n : Nat) : Value :=
  match t with
  | 0 => .int (Int32.ofNat n)
  | 1 => .int (ρ.1 n)
  | 3 => .ref n
  | 8 => .long (Int64.ofNat n)
  | 9 => .long (ρ.2.1 n)
  | 10 => .double (UInt64.ofNat n)
  | 11 => .double (ρ.2.2 n)
  | 12 => .double 0
  | 13 => .double 0
  | 14 => .double 0
  | 15 => .double 0
  | _ => .null
def av (ρ : Rho) (v : Nat) : Value := avt ρ (tg v) (v % 2 ^ 69)
def avs (ρ : Rho) (s : Nat) : Slot := if tg s = 4 then .unset else if tq s = 3 then .second else .val (av ρ s)
def avL0 (ρ : Rho) (ml L : Nat) : List Slot := (List.range ml).map fun i => avs ρ (dg L i)
def avL (ρ : Rho) (ml L : Nat) : List Slot := (List.range ml).map fun i => avs ρ (dg L (i + 1))
def avS (ρ : Rho) : Nat → Nat → List Value
  | 0, _ => []
  | d + 1, S => av ρ (dg S 0) :: avS ρ d (rsk 1 S)
def avT (ρ : Rho) (S : Nat) : Nat → Nat → List Value
  | _, 0 => []
  | i, n + 1 => av ρ (dg S i) :: avT ρ S (i + 1) n
def avW (ρ : Rho) (A a n : Nat) : List Value := (List.range n).map fun j => av ρ (dg A (hx a j))
def avO (ρ : Rho) (A a : Nat) : Own.Obj := (kdO A a, avW ρ A a (lnO A a))
def avA (ρ : Rho) (A : Nat) : Own.AH := (List.range (min (dg A 1) 64)).map (avO ρ A)
theorem int_tg {v : Nat} (h : v < 2 ^ 69) : tg v = 0 ∧ v % 2 ^ 69 = v := by unfold tg; omega
theorem av_int {ρ : Rho} {v : Nat} (h : v < 2 ^ 69) : av ρ v = .int (Int32.ofNat v) := by
  unfold av; rw [(int_tg h).1, (int_tg h).2]; rfl
theorem lt31 {v : Nat} (h : v < 2147483648) : v < 2 ^ 69 := by omega
theorem lt32 {v : Nat} (h : v < 4294967296) : v < 2 ^ 69 := by omega
theorem av_of {ρ : Rho} {t n : Nat} (ht : t < 16) (hn : n < 2 ^ 69) : av ρ (t * 2 ^ 69 + n) = avt ρ t n := by
  unfold av tg
  rw [show (t * 2 ^ 69 + n) / 2 ^ 69 % 16 = t by omega, show (t * 2 ^ 69 + n) % 2 ^ 69 = n by omega]
theorem av_long {ρ : Rho} {n : Nat} (hn : n < 2 ^ 69) : av ρ (Nat.add 4722366482869645213696 n) = .long (Int64.ofNat n) := av_of (t := 8) (by decide) hn
theorem av_double {ρ : Rho} {n : Nat} (hn : n < 2 ^ 69) : av ρ (Nat.add 5902958103587056517120 n) = .double (UInt64.ofNat n) := av_of (t := 10) (by decide) hn
theorem av_mk {ρ : Rho} {n : Nat} (hn : n < 2 ^ 69) : av ρ (Nat.add 1770887431076116955136 n) = .ref n := av_of (t := 3) (by decide) hn
theorem av_null {ρ : Rho} : av ρ 1180591620717411303424 = .null := av_of (t := 2) (n := 0) (by decide) (by decide)
theorem av_ref {ρ : Rho} {v : Nat} (h : isR v = 0) : av ρ v = .ref (rf v) := by
  have h := xor0 h
  rw [shr_eq] at h
  unfold av tg rf
  rw [h]
  have e : v % 2 ^ 69 = v - 1770887431076116955136 := by omega
  rw [e]; rfl
theorem long_sub {ρ : Rho} {v : Nat} (h : Nat.xor (Nat.shiftRight v 69) 8 = 0) : av ρ v = .long (Int64.ofNat (Nat.sub v 4722366482869645213696)) ∧ Nat.sub v 4722366482869645213696 < 2 ^ 69 := by
  have h := xor0 h
  rw [shr_eq] at h
  have e : v % 2 ^ 69 = v - 4722366482869645213696 := by omega
  refine ⟨?_, ?_⟩
  · unfold av tg
    rw [h, e]; rfl
  · show v - 4722366482869645213696 < 2 ^ 69
    omega
theorem avt_cat {ρ : Rho} {t n : Nat} (h : t < 16) : (avt ρ t n).category = t / 8 % 2 + 1 := by
  have : t = 0 ∨ t = 1 ∨ t = 2 ∨ t = 3 ∨ t = 4 ∨ t = 5 ∨ t = 6 ∨ t = 7 ∨ t = 8 ∨ t = 9 ∨ t = 10 ∨ t = 11 ∨ t = 12 ∨ t = 13 ∨ t = 14 ∨ t = 15 := by omega
  rcases this with rfl | rfl | rfl | rfl | rfl | rfl | rfl | rfl | rfl | rfl | rfl | rfl | rfl | rfl | rfl | rfl <;> rfl
theorem c2_cat {ρ : Rho} (v : Nat) : (av ρ v).category = c2 v + 1 := by rw [c2_eq]; exact avt_cat (tg_lt v)
theorem cat1 {ρ : Rho} {v : Nat} (h : c2 v = 0) : (av ρ v).category = 1 := by rw [c2_cat, h]
theorem cat2 {ρ : Rho} {v : Nat} (h : c2 v = 1) : (av ρ v).category = 2 := by rw [c2_cat, h]
theorem c2_tg {v t : Nat} (h : tg v = t) : c2 v = t / 8 % 2 := by rw [c2_eq, h]
theorem on_avs {ρ : Rho} {q v : Nat} (h : onq q v = true) (hq : q < 6) (h2 : q ≠ 2) : avs ρ v = .val (av ρ v) := by
  unfold avs
  rcases on_tg h (by omega) with e | e <;> rw [if_neg (by omega), if_neg (by rw [tq_eq]; omega)]
theorem onI_ok {ρ : Rho} {v : Nat} (h : onq 0 v = true) : (∃ x, av ρ v = .int x) ∧ c2 v = 0 ∧ avs ρ v = .val (av ρ v) := by
  refine ⟨?_, ?_, on_avs h (by decide) (by decide)⟩ <;> rcases on_tg h (by decide) with e | e <;> first | exact c2_tg e | (unfold av; exact ⟨_, by rw [e]; rfl⟩)
theorem onA_ok {ρ : Rho} {v : Nat} (h : onq 1 v = true) : ((∃ x, av ρ v = .ref x) ∨ av ρ v = .null) ∧ c2 v = 0 ∧ avs ρ v = .val (av ρ v) := by
  refine ⟨?_, ?_, on_avs h (by decide) (by decide)⟩ <;> rcases on_tg h (by decide) with e | e <;> first | exact c2_tg e | (unfold av; exact Or.inr (by rw [e]; rfl)) | (unfold av; exact Or.inl ⟨_, by rw [e]; rfl⟩)
theorem onJ_ok {ρ : Rho} {v : Nat} (h : onq 4 v = true) : (∃ x, av ρ v = .long x) ∧ c2 v = 1 ∧ avs ρ v = .val (av ρ v) := by
  refine ⟨?_, ?_, on_avs h (by decide) (by decide)⟩ <;> rcases on_tg h (by decide) with e | e <;> first | exact c2_tg e | (unfold av; exact ⟨_, by rw [e]; rfl⟩)
theorem onD_ok {ρ : Rho} {v : Nat} (h : onq 5 v = true) : (∃ x, av ρ v = .double x) ∧ c2 v = 1 ∧ avs ρ v = .val (av ρ v) := by
  refine ⟨?_, ?_, on_avs h (by decide) (by decide)⟩ <;> rcases on_tg h (by decide) with e | e <;> first | exact c2_tg e | (unfold av; exact ⟨_, by rw [e]; rfl⟩)
theorem fitB_ok {v : Nat} (h : fitB v = true) : v = 0 ∨ v = 1 := by have := Nat.le_of_ble_eq_true h; omega
theorem avs_unset {ρ : Rho} : avs ρ 2361183241434822606848 = .unset := if_pos (by decide)
theorem avs_second {ρ : Rho} : avs ρ 7083549724304467820544 = .second := by unfold avs; rw [if_neg (by decide), if_pos (by decide)]
/-- what a slot is, by tq: one word or unset; two words; a second word -/
theorem avs_tq1 {ρ : Rho} {s : Nat} (h : tq s ≤ 1) : avs ρ s = .unset ∨ (avs ρ s = .val (av ρ s) ∧ (av ρ s).category = 1) := by
  by_cases e : tg s = 4
  · exact Or.inl (if_pos e)
  · refine Or.inr ⟨by unfold avs; rw [if_neg e, if_neg (by omega)], ?_⟩
    rw [c2_cat, c2_eq]
    rw [tq_eq] at h
    have := tg_lt s
    omega
theorem avs_tq2 {ρ : Rho} {s : Nat} (h : tq s = 2) : avs ρ s = .val (av ρ s) ∧ (av ρ s).category = 2 := by
  have h' := h
  rw [tq_eq] at h
  have := tg_lt s
  refine ⟨by unfold avs; rw [if_neg (by omega), if_neg (by omega)], ?_⟩
  rw [c2_cat, c2_eq]
  omega
theorem avs_tq3 {ρ : Rho} {s : Nat} (h : tq s = 3) : avs ρ s = .second := by
  have h' := h
  rw [tq_eq] at h
  unfold avs
  rw [if_neg (by omega), if_pos h']
theorem tq_lt (s : Nat) : tq s < 4 := by rw [tq_eq]; exact Nat.mod_lt _ (by decide)
/-! the stack -/
theorem avS_psh {ρ : Rho} {d S v : Nat} (h : v < 2 ^ 80) : avS ρ (d + 1) (psh S v) = av ρ v :: avS ρ d S := by
  show av ρ (dg (psh S v) 0) :: avS ρ d (rsk 1 (psh S v)) = _
  rw [dg_psh0 h, rsk_psh h]
theorem avS1 {ρ : Rho} {d S : Nat} : avS ρ (d + 1) S = av ρ (dg S 0) :: avS ρ d (rsk 1 S) := rfl
theorem avS2 {ρ : Rho} {d S : Nat} : avS ρ (d + 2) S = av ρ (dg S 0) :: av ρ (dg S 1) :: avS ρ d (rsk 2 S) := by
  show av ρ (dg S 0) :: av ρ (dg (rsk 1 S) 0) :: avS ρ d (rsk 1 (rsk 1 S)) = _
  rw [dg_rsk, rsk_rsk]
theorem avS3 {ρ : Rho} {d S : Nat} : avS ρ (d + 3) S = av ρ (dg S 0) :: av ρ (dg S 1) :: av ρ (dg S 2) :: avS ρ d (rsk 3 S) := by
  show av ρ (dg S 0) :: avS ρ (d + 2) (rsk 1 S) = _
  rw [avS2, dg_rsk, dg_rsk, rsk_rsk]
theorem avS5 {ρ : Rho} {d S : Nat} : avS ρ (d + 5) S = av ρ (dg S 0) :: av ρ (dg S 1) :: av ρ (dg S 2) :: av ρ (dg S 3) :: av ρ (dg S 4) :: avS ρ d (rsk 5 S) := by
  show av ρ (dg S 0) :: av ρ (dg (rsk 1 S) 0) :: avS ρ (d + 3) (rsk 1 (rsk 1 S)) = _
  rw [avS3, rsk_rsk, dg_rsk, dg_rsk, dg_rsk, dg_rsk, rsk_rsk]
theorem avS_len {ρ : Rho} (d : Nat) : ∀ S, (avS ρ d S).length = d := by
  induction d with
  | zero => intro S; rfl
  | succ d ih => intro S; show (avS ρ d (rsk 1 S)).length + 1 = d + 1; rw [ih]
theorem avT_len {ρ : Rho} {S : Nat} (n : Nat) : ∀ i, (avT ρ S i n).length = n := by
  induction n with
  | zero => intro i; rfl
  | succ n ih => intro i; show (avT ρ S (i + 1) n).length + 1 = n + 1; rw [ih]
theorem avT_rsk {ρ : Rho} {S : Nat} (n : Nat) : ∀ i, avT ρ (rsk 1 S) i n = avT ρ S (i + 1) n := by
  induction n with
  | zero => intro i; rfl
  | succ n ih =>
    intro i
    show av ρ (dg (rsk 1 S) i) :: avT ρ (rsk 1 S) (i + 1) n = av ρ (dg S (i + 1)) :: avT ρ S (i + 1 + 1) n
    rw [ih, dg_rsk, Nat.add_comm]
theorem avS_split (ρ : Rho) (n d : Nat) : ∀ S, avS ρ (d + n) S = avT ρ S 0 n ++ avS ρ d (rsk n S) := by
  induction n with
  | zero =>
    intro S
    show avS ρ d S = [] ++ avS ρ d (rsk 0 S)
    rw [List.nil_append]
    congr 1
  | succ n ih =>
    intro S
    show av ρ (dg S 0) :: avS ρ (d + n) (rsk 1 S) = av ρ (dg S 0) :: (avT ρ S (0 + 1) n ++ _)
    rw [ih, rsk_rsk, avT_rsk, Nat.add_comm 1 n]
theorem xc_eq {ρ : Rho} (d : Nat) : ∀ S, Own.csum (avS ρ d S) = xc d S := by
  induction d with
  | zero => intro S; rfl
  | succ d ih =>
    intro S
    show (av ρ (dg S 0)).category + Own.csum (avS ρ d (rsk 1 S)) = xc d (rsk 1 S) + (c2 (dg S 0) + 1)
    rw [ih, c2_cat]
    omega
/-! the locals -/
theorem avL_len {ρ : Rho} {ml L : Nat} : (avL ρ ml L).length = ml := by unfold avL; rw [List.length_map, List.length_range]
theorem avL_get {ρ : Rho} {ml i L : Nat} (h : i < ml) : (avL ρ ml L)[i]? = some (avs ρ (dg L (i + 1))) := by
  unfold avL; rw [List.getElem?_map, List.getElem?_range h]; rfl
theorem avL_set {ρ : Rho} {ml i L v : Nat} (hv : v < 2 ^ 80) : avL ρ ml (setD L (i + 1) v) = (avL ρ ml L).set i (avs ρ v) := by
  apply List.ext_getElem?
  intro j
  by_cases hj : j < ml
  · rw [avL_get hj, dg_set hv (by omega) (by omega), List.getElem?_set]
    by_cases e : i = j
    · subst e
      rw [if_pos rfl, if_pos rfl, if_pos (by rw [avL_len]; exact hj)]
    · rw [if_neg (by omega), if_neg e, avL_get hj]
  · rw [List.getElem?_eq_none (by rw [avL_len]; omega), List.getElem?_eq_none (by rw [List.length_set, avL_len]; omega)]
theorem avL_salt {ρ : Rho} {ml X s : Nat} (h : s < 2 ^ 80) : avL ρ ml (psh X s) = avL0 ρ ml X := by
  unfold avL avL0
  refine List.map_congr_left fun i _ => ?_
  rw [dg_pshS h]
theorem avL_psh {ρ : Rho} {ml X v : Nat} (h : v < 2 ^ 80) : avL0 ρ (ml + 1) (psh X v) = avs ρ v :: avL0 ρ ml X := by
  unfold avL0
  rw [List.range_succ_eq_map, List.map_cons, List.map_map, dg_psh0 h]
  congr 1
  refine List.map_congr_left fun i _ => ?_
  show avs ρ (dg (psh X v) (i + 1)) = _
  rw [dg_pshS h]
def unsets : Nat → Nat
  | 0 => 0
  | n + 1 => psh (unsets n) 2361183241434822606848
theorem avL_unsets {ρ : Rho} {n : Nat} : ∀ {U : Nat}, U = unsets n → avL0 ρ n U = List.replicate n .unset := by
  induction n with
  | zero => intro U _; rfl
  | succ n ih =>
    intro U h
    subst h
    rw [List.replicate_succ, ← ih rfl, ← avs_unset (ρ := ρ)]
    exact avL_psh (by decide)
theorem salt_lt (x : Nat) : Nat.land x 18446744073709551615 < 2 ^ 80 := Nat.lt_of_le_of_lt (show x &&& 18446744073709551615 ≤ 18446744073709551615 from Nat.and_le_right) (by decide)
theorem avs_tq0 {ρ : Rho} {s : Nat} (h : tq s = 0) : avs ρ s = .val (av ρ s) ∧ (av ρ s).category = 1 := by
  have h' := h
  rw [tq_eq] at h
  have := tg_lt s
  refine ⟨by unfold avs; rw [if_neg (by omega), if_neg (by omega)], ?_⟩
  rw [c2_cat, c2_eq]
  omega
theorem fill1 {ρ : Rho} {v : Nat} {r : List Value} (h : tq v = 0) : Own.aFill (av ρ v :: r) = avs ρ v :: Own.aFill r := by
  show (if (av ρ v).category = 2 then _ else _) = _
  rw [if_neg (by rw [(avs_tq0 h).2]; decide), (avs_tq0 h).1]
theorem fill2 {ρ : Rho} {v : Nat} {r : List Value} (h : tq v = 2) : Own.aFill (av ρ v :: r) = avs ρ v :: avs ρ 7083549724304467820544 :: Own.aFill r := by
  show (if (av ρ v).category = 2 then _ else _) = _
  rw [if_pos (avs_tq2 h).2, (avs_tq2 h).1, avs_second]
/-! the heap -/
theorem avW_len {ρ : Rho} {A a n : Nat} : (avW ρ A a n).length = n := by unfold avW; rw [List.length_map, List.length_range]
theorem avW_get {ρ : Rho} {A a n j : Nat} (h : j < n) : (avW ρ A a n)[j]? = some (av ρ (dg A (hx a j))) := by
  unfold avW; rw [List.getElem?_map, List.getElem?_range h]; rfl
theorem avA_len {ρ : Rho} {A : Nat} : (avA ρ A).length = min (dg A 1) 64 := by unfold avA; rw [List.length_map, List.length_range]
theorem avA_get {ρ : Rho} {A a : Nat} (h : a < min (dg A 1) 64) : (avA ρ A)[a]? = some (avO ρ A a) := by
  unfold avA; rw [List.getElem?_map, List.getElem?_range h]; rfl
theorem isA_lt {A a : Nat} (h : isA A a = 0) : a < min (dg A 1) 64 := by
  obtain ⟨h1, h2⟩ := add0 h
  have h1 := sub0 h1
  have h2 := shr_lt h2
  omega
theorem isO_A {A a kd : Nat} (h : isO A a kd = 0) : a < min (dg A 1) 64 ∧ kdO A a = kd := by
  obtain ⟨h1, h2⟩ := add0 h
  refine ⟨isA_lt h2, ?_⟩
  show Nat.pred (dg A (Nat.add a 2)) = kd
  rw [xor0 h1]; rfl
theorem isO_get {ρ : Rho} {A a kd : Nat} (h : isO A a kd = 0) : (avA ρ A)[a]? = some (kd, avW ρ A a (lnO A a)) := by
  obtain ⟨h1, h2⟩ := isO_A h
  rw [avA_get h1]
  unfold avO
  rw [h2]
theorem hx_eq (a j : Nat) : hx a j = a + 130 + 64 * j := rfl
theorem hx_pos (a j : Nat) : 0 < hx a j := by rw [hx_eq]; omega
/-- two heaps that agree on an object -/
theorem avO_congr {ρ : Rho} {A B a : Nat} (h1 : dg B (a + 2) = dg A (a + 2)) (h2 : dg B (a + 66) = dg A (a + 66)) (h3 : ∀ j, dg B (hx a j) = dg A (hx a j)) : avO ρ B a = avO ρ A a := by
  unfold avO kdO lnO avW
  rw [show dg B (Nat.add a 2) = dg A (Nat.add a 2) from h1, show dg B (Nat.add a 66) = dg A (Nat.add a 66) from h2]
  congr 1
  exact List.map_congr_left fun j _ => by rw [h3]
/-- words of object a written, else all is as it was -/
def Wr (A B a : Nat) : Prop := ∀ i, 0 < i → (∀ j, i ≠ hx a j) → dg B i = dg A i
theorem Wr.refl (A a : Nat) : Wr A A a := fun _ _ _ => rfl
theorem Wr.set {A B a j v : Nat} (h : Wr A B a) (hv : v < 2 ^ 80) : Wr A (setD B (hx a j) v) a := fun i hi hj => by
  rw [dg_set_ne hv (hx_pos a j) hi (hj j)]; exact h i hi hj
theorem Wr.trans {A B C a : Nat} (h : Wr A B a) (h' : Wr B C a) : Wr A C a := fun i hi hj => by rw [h' i hi hj, h i hi hj]
theorem Wr.avA {ρ : Rho} {A B a : Nat} (h : Wr A B a) (ha : a < 64) : avA ρ B = (avA ρ A).set a (kdO A a, avW ρ B a (lnO A a)) := by
  have e1 : dg B 1 = dg A 1 := h 1 (by decide) fun j => by rw [hx_eq]; omega
  have e2 : ∀ b, b < 64 → dg B (b + 2) = dg A (b + 2) := fun b hb => h _ (by omega) fun j => by rw [hx_eq]; omega
  have e3 : ∀ b, b < 64 → dg B (b + 66) = dg A (b + 66) := fun b hb => h _ (by omega) fun j => by rw [hx_eq]; omega
  apply List.ext_getElem?
  intro b
  rw [List.getElem?_set, avA_len]
  by_cases hb : b < min (dg A 1) 64
  · rw [avA_get (by rw [e1]; exact hb)]
    by_cases e : a = b
    · subst e
      rw [if_pos rfl, if_pos hb]
      show some (Nat.pred (dg B (a + 2)), avW ρ B a (dg B (a + 66))) = some (Nat.pred (dg A (a + 2)), avW ρ B a (dg A (a + 66)))
      rw [e2 a ha, e3 a ha]
    · rw [if_neg e, avA_get hb]
      refine congrArg some ?_
      refine avO_congr (e2 b (by omega)) (e3 b (by omega)) fun j => h _ (hx_pos b j) fun j' => ?_
      rw [hx_eq, hx_eq]
      omega
  · rw [List.getElem?_eq_none (by rw [avA_len, e1]; omega)]
    by_cases e : a = b
    · subst e
      rw [if_pos rfl, if_neg hb]
    · rw [if_neg e, List.getElem?_eq_none (by rw [avA_len]; omega)]
theorem avW_set {ρ : Rho} {A a n j v : Nat} (hv : v < 2 ^ 80) : avW ρ (setD A (hx a j) v) a n = (avW ρ A a n).set j (av ρ v) := by
  apply List.ext_getElem?
  intro i
  by_cases hi : i < n
  · rw [avW_get hi, dg_set hv (hx_pos _ _) (hx_pos _ _), List.getElem?_set]
    by_cases e : j = i
    · subst e
      rw [if_pos rfl, if_pos rfl, if_pos (by rw [avW_len]; exact hi)]
    · rw [if_neg (by rw [hx_eq, hx_eq]; omega), if_neg e, avW_get hi]
  · rw [List.getElem?_eq_none (by rw [avW_len]; omega), List.getElem?_eq_none (by rw [List.length_set, avW_len]; omega)]
theorem avA_set {ρ : Rho} {A a j v : Nat} (hv : v < 2 ^ 80) (ha : a < 64) : avA ρ (setD A (hx a j) v) = (avA ρ A).set a (kdO A a, (avW ρ A a (lnO A a)).set j (av ρ v)) := by
  rw [((Wr.refl A a).set hv).avA ha, avW_set hv]
/-- a new object -/
theorem mkO_avA {ρ : Rho} {A B kd n : Nat} (h : Nat.shiftRight (dg A 1) 6 = 0) (hk : Nat.succ kd < 2 ^ 80) (hn : n < 2 ^ 80) (hB : Wr (mkO A kd n) B (dg A 1)) : avA ρ B = avA ρ A ++ [(kd, avW ρ B (dg A 1) n)] ∧ (avA ρ A).length = dg A 1 ∧ lnO (mkO A kd n) (dg A 1) = n := by
  have h := shr_lt h
  have h : dg A 1 < 64 := h
  have hs : Nat.succ (dg A 1) < 2 ^ 80 := by show dg A 1 + 1 < 2 ^ 80; omega
  have hd : ∀ i, 0 < i → dg (mkO A kd n) i = if i = 1 then dg A 1 + 1 else if i = dg A 1 + 66 then n else if i = dg A 1 + 2 then kd + 1 else dg A i := fun i hi => by
    unfold mkO
    rw [dg_set hs (by decide) hi, dg_set hn (by show 0 < dg A 1 + 66; omega) hi, dg_set hk (by show 0 < dg A 1 + 2; omega) hi]
  have hl : ∀ i, 0 < i → i < 130 → dg B i = dg (mkO A kd n) i := fun i hi h1 => hB i hi fun j => by rw [hx_eq]; omega
  have b1 : dg B 1 = dg A 1 + 1 := by rw [hl 1 (by decide) (by decide), hd 1 (by decide), if_pos rfl]
  refine ⟨?_, by rw [avA_len]; omega, by unfold lnO; rw [hd _ (by show 0 < dg A 1 + 66; omega), if_neg (by show ¬ dg A 1 + 66 = 1; omega), if_pos rfl]⟩
  apply List.ext_getElem?
  intro b
  by_cases hb : b < dg A 1
  · rw [avA_get (by omega), List.getElem?_append_left (by rw [avA_len]; omega), avA_get (by omega)]
    refine congrArg some ?_
    refine avO_congr ?_ ?_ fun j => ?_
    · rw [hl _ (by omega) (by omega), hd _ (by omega), if_neg (by omega), if_neg (by omega), if_neg (by omega)]
    · rw [hl _ (by omega) (by omega), hd _ (by omega), if_neg (by omega), if_neg (by omega), if_neg (by omega)]
    · rw [hB _ (hx_pos _ _) fun j' => (by rw [hx_eq, hx_eq]; omega), hd _ (hx_pos _ _), hx_eq, if_neg (by omega), if_neg (by omega), if_neg (by omega)]
  · by_cases e : b = dg A 1
    · subst e
      rw [avA_get (by omega), List.getElem?_append_right (by rw [avA_len]; omega), avA_len, show dg A 1 - min (dg A 1) 64 = 0 by omega]
      show some (Nat.pred (dg B (dg A 1 + 2)), avW ρ B (dg A 1) (dg B (dg A 1 + 66))) = some (kd, avW ρ B (dg A 1) n)
      rw [hl _ (by omega) (by omega), hl _ (by omega) (by omega), hd _ (by omega), hd _ (by omega), if_neg (by omega), if_neg (by omega), if_pos rfl, if_neg (by omega), if_pos rfl]
      rfl
    · rw [List.getElem?_eq_none (by rw [avA_len]; omega), List.getElem?_eq_none (by rw [List.length_append, avA_len]; show min (dg A 1) 64 + 1 ≤ b; omega)]
theorem fill_Wr {v a : Nat} (hv : v < 2 ^ 80) {A : Nat} : ∀ n, Wr A (fillC v a n A) a
  | 0 => Wr.refl A a
  | n + 1 => (fill_Wr hv n).set hv
theorem fill_get {v a : Nat} (hv : v < 2 ^ 80) {A : Nat} : ∀ n j, j < n → dg (fillC v a n A) (hx a j) = v
  | 0, j, h => by omega
  | n + 1, j, h => by
    show dg (setD (fillC v a n A) (hx a n) v) (hx a j) = v
    rw [dg_set hv (hx_pos _ _) (hx_pos _ _)]
    by_cases e : j = n
    · subst e; rw [if_pos rfl]
    · rw [if_neg (by rw [hx_eq, hx_eq]; omega)]
      exact fill_get hv n j (by omega)
theorem avW_fill {ρ : Rho} {v a n : Nat} (hv : v < 2 ^ 80) {A : Nat} : avW ρ (fillC v a n A) a n = List.replicate n (av ρ v) := by
  apply List.ext_getElem?
  intro i
  by_cases hi : i < n
  · rw [avW_get hi, fill_get hv n i hi, List.getElem?_replicate_of_lt hi]
  · rw [List.getElem?_eq_none (by rw [avW_len]; omega), List.getElem?_eq_none (by rw [List.length_replicate]; omega)]
theorem flds_Wr {a : Nat} : ∀ (vs : List Nat) (j A : Nat), (∀ v ∈ vs, v < 2 ^ 80) → Wr A (flds a vs j A) a
  | [], j, A, _ => Wr.refl A a
  | v :: r, j, A, h => by
    show Wr A (flds a r (Nat.succ j) (setD A (hx a j) v)) a
    exact ((Wr.refl A a).set (h v (by simp))).trans (flds_Wr r _ _ fun u hu => h u (by simp [hu]))
theorem flds_get {a : Nat} : ∀ (vs : List Nat) (j A : Nat), (∀ v ∈ vs, v < 2 ^ 80) → (∀ i, i < j → dg (flds a vs j A) (hx a i) = dg A (hx a i)) ∧ ∀ i v, vs[i]? = some v → dg (flds a vs j A) (hx a (j + i)) = v
  | [], j, A, _ => ⟨fun _ _ => rfl, fun i v h => by simp at h⟩
  | u :: r, j, A, h => by
    have hu := h u (by simp)
    obtain ⟨h1, h2⟩ := flds_get r (Nat.succ j) (setD A (hx a j) u) fun v hv => h v (by simp [hv])
    refine ⟨fun i hi => ?_, fun i v hv => ?_⟩
    · show dg (flds a r (Nat.succ j) (setD A (hx a j) u)) (hx a i) = _
      rw [h1 i (by show i < j + 1; omega), dg_set_ne hu (hx_pos _ _) (hx_pos _ _) (by rw [hx_eq, hx_eq]; omega)]
    · show dg (flds a r (Nat.succ j) (setD A (hx a j) u)) (hx a (j + i)) = v
      cases i with
      | zero =>
        rw [Nat.add_zero, h1 j (by show j < j + 1; omega), dg_set_eq hu (hx_pos _ _)]
        simpa using hv
      | succ i =>
        rw [show j + (i + 1) = Nat.succ j + i by show j + (i + 1) = j + 1 + i; omega]
        exact h2 i v (by simpa using hv)
theorem avW_flds {ρ : Rho} {a A n : Nat} {vs : List Nat} (hv : ∀ v ∈ vs, v < 2 ^ 80) (hn : vs.length = n) : avW ρ (flds a vs 0 A) a n = vs.map (av ρ) := by
  apply List.ext_getElem?
  intro i
  by_cases hi : i < n
  · have e : vs[i]? = some (vs[i]'(by omega)) := List.getElem?_eq_getElem (by omega)
    have := (flds_get (a := a) vs 0 A hv).2 i _ e
    rw [Nat.zero_add] at this
    rw [avW_get hi, this, List.getElem?_map, e]
    rfl
  · rw [List.getElem?_eq_none (by rw [avW_len]; omega), List.getElem?_eq_none (by rw [List.length_map]; omega)]
theorem cp_Wr {A0 a p q d A : Nat} : ∀ n, Wr A (cpC A0 a p q d n A) q
  | 0 => Wr.refl A q
  | n + 1 => (cp_Wr n).set dg_lt
theorem cp_get {A0 a p q d A : Nat} : ∀ n i, dg (cpC A0 a p q d n A) (hx q i) = if d ≤ i ∧ i < d + n then dg A0 (hx a (p + (i - d))) else dg A (hx q i)
  | 0, i => by rw [if_neg (by omega)]; rfl
  | n + 1, i => by
    show dg (setD (cpC A0 a p q d n A) (hx q (d + n)) (dg A0 (hx a (p + n)))) (hx q i) = _
    rw [dg_set dg_lt (hx_pos _ _) (hx_pos _ _), cp_get n i]
    by_cases e : i = d + n
    · subst e
      rw [if_pos rfl, if_pos (by omega), show d + n - d = n by omega]
    · rw [if_neg (by rw [hx_eq, hx_eq]; omega)]
      by_cases e2 : d ≤ i ∧ i < d + n
      · rw [if_pos e2, if_pos (by omega)]
      · rw [if_neg e2, if_neg (by omega)]
theorem setRun_get (us : List Value) : ∀ (ws : List Value) (p i : Nat), p + us.length ≤ ws.length → (Own.setRun ws p us)[i]? = if p ≤ i ∧ i < p + us.length then us[i - p]? else ws[i]? := by
  induction us with
  | nil => intro ws p i _; rw [if_neg (by simp only [List.length_nil]; omega)]; rfl
  | cons u r ih =>
    intro ws p i hl
    simp only [List.length_cons] at hl ⊢
    show (Own.setRun (ws.set p u) (p + 1) r)[i]? = _
    rw [ih _ _ _ (by rw [List.length_set]; omega)]
    by_cases e : i = p
    · subst e
      rw [if_neg (by omega), if_pos (by omega), Nat.sub_self, List.getElem?_set_self (by omega)]
      rfl
    · by_cases e2 : p + 1 ≤ i ∧ i < p + 1 + r.length
      · rw [if_pos e2, if_pos (by omega), show i - p = (i - (p + 1)) + 1 by omega]
        rfl
      · rw [if_neg e2, if_neg (by omega), List.getElem?_set_ne (by omega)]
theorem setRun_length (us : List Value) : ∀ (ws : List Value) (p : Nat), (Own.setRun ws p us).length = ws.length := by
  induction us with
  | nil => intro ws p; rfl
  | cons u r ih => intro ws p; show (Own.setRun (ws.set p u) (p + 1) r).length = _; rw [ih]; simp
theorem avW_cp {ρ : Rho} {A a p q d n l m : Nat} (h1 : d + n ≤ l) (h2 : p + n ≤ m) : avW ρ (cpC A a p q d n A) q l = Own.setRun (avW ρ A q l) d (((avW ρ A a m).drop p).take n) := by
  have hl : (((avW ρ A a m).drop p).take n).length = n := by rw [List.length_take, List.length_drop, avW_len]; omega
  apply List.ext_getElem?
  intro i
  by_cases hi : i < l
  · rw [avW_get hi, cp_get, setRun_get _ _ _ _ (by rw [hl, avW_len]; exact h1), hl]
    by_cases e : d ≤ i ∧ i < d + n
    · rw [if_pos e, if_pos e, List.getElem?_take_of_lt (by omega), List.getElem?_drop, avW_get (by omega)]
    · rw [if_neg e, if_neg e, avW_get hi]
  · rw [List.getElem?_eq_none (by rw [avW_len]; omega), List.getElem?_eq_none (by rw [setRun_length, avW_len]; omega)]
theorem avW_clone {ρ : Rho} {A0 A a q n : Nat} : avW ρ (cpC A0 a 0 q 0 n A) q n = avW ρ A0 a n := by
  unfold avW
  refine List.map_congr_left fun i hi => ?_
  have hi := List.mem_range.mp hi
  rw [cp_get, if_pos (by omega), Nat.zero_add, Nat.sub_zero]
section Sim
variable (ρ : Rho) (E : Own.EV)
/-- the piece, from pc on and with d values on the stack, reckons as the interpreter does -/
def Sim (M pc d : Nat) (c : Cont) : Prop := ∀ L S A v A' k n f w, c L S A = .ok v A' k n f w → v.isSome = (E.2.2.1 M).isSome ∧
  ∃ N, ∀ fuel, N ≤ fuel → Own.run E fuel M pc (avL ρ (E.2.1 M) L) (avS ρ d S) (avA ρ A) none = some ([], none, v.map (av ρ), avA ρ A', k, n, f, w)
def SimM (M : Nat) (x : Nat → Nat → Res) : Prop := ∀ L A v A' k n f w, x L A = .ok v A' k n f w → v.isSome = (E.2.2.1 M).isSome ∧
  ∃ N, ∀ fuel, N ≤ fuel → Own.run E fuel M 0 (avL ρ (E.2.1 M) L) [] (avA ρ A) none = some ([], none, v.map (av ρ), avA ρ A', k, n, f, w)
def SimR (R : Cal) : Prop := ∀ M, SimM ρ E M (R M)
def opI : Nat → Instr
  | 0 => .iadd | 1 => .isub | 2 => .imul | 3 => .iand | 4 => .ior | 5 => .ixor | 6 => .ishl | 7 => .ishr | 8 => .iushr
  | 10 => .ladd | 11 => .lsub | 12 => .lmul | 13 => .land | 14 => .lor | 15 => .lxor | 16 => .lshl | 17 => .lshr | 18 => .lushr | 19 => .lcmp | 20 => .dcmp .l | 21 => .dcmp .g
  | 22 => .idiv | 23 => .irem | 24 => .ldiv | 25 => .lrem | 26 => .dadd | 27 => .dsub | 28 => .dmul | 29 => .ddiv
  | 30 => .ineg | 31 => .lneg | 32 => .dneg | 33 => .i2l | 34 => .l2i | 35 => .i2b | 36 => .i2c | 37 => .i2s | 38 => .i2d | 39 => .l2d | 40 => .d2i | 41 => .d2l
  | _ => .nop
def cdI : Nat → ClassFile.Cond
  | 0 => .eq | 1 => .ne | 2 => .lt | 3 => .ge | 4 => .gt | _ => .le
def dv : Nat → UInt64 → UInt64 → UInt64
  | 26, x, y => FP.dadd x y
  | 27, x, y => FP.dsub x y
  | 28, x, y => FP.dmul x y
  | _, x, y => FP.ddiv x y
/-- what the table's rows must say: of a number the operation, its two operands -/
def sem (o : Nat) (x y : Value) : Option Value :=
  if o < 22 then Own.bin (opI o) x y
  else if o < 26 then (match o, x, y with
    | 22, .int x, .int y => if y ≠ 0 then some (.int (x / y)) else none
    | 23, .int x, .int y => if y ≠ 0 then some (.int (x % y)) else none
    | 24, .long x, .long y => if y ≠ 0 then some (.long (x / y)) else none
    | 25, .long x, .long y => if y ≠ 0 then some (.long (x - (x / y) * y)) else none
    | _, _, _ => none)
  else if o < 30 then (match x, y with
    | .double x, .double y => if FP.dIsNaN (dv o x y) = false then some (.double (dv o x y)) else none
    | _, _ => none)
  else if o < 42 then Own.un (opI o) x
  else if o < 48 then (match x with
    | .int x => some (.int (if ifCond.holds (cdI (o - 42)) x then 1 else 0))
    | _ => none)
  else if o < 54 then (match x, y with
    | .int x, .int y => some (.int (if if_icmp.holds (cdI (o - 48)) x y then 1 else 0))
    | _, _ => none)
  else if o = 60 then some x
  else if 100 ≤ o then (match E.2.2.2.2.1 (o - 100) [x] with
    | some (true, v) => some v
    | _ => none)
  else none
def TOk (T : Tab) : Prop := ∀ o x y v, T o x y = Nat.succ v → sem E o (av ρ x) (av ρ y) = some (av ρ v)
variable {ρ E} {T : Tab} {M pc : Nat} {c t : Cont}
/-! small things -/
theorem nf_eq (m : Nat) (k : Nat → Res) : nf m k = k m := rfl
theorem mx_eq (a b : Nat) : mx a b = max a b := by
  show a + (b - a) = max a b
  omega
theorem Res.dest (x : Res) : x = .bad ∨ ∃ v A k n f w, x = .ok v A k n f w := by
  rcases x with _ | ⟨v, A, k, n, f, w⟩
  · exact Or.inl rfl
  · exact Or.inr ⟨v, A, k, n, f, w, rfl⟩
theorem ok_inj {v v' : Option Nat} {A A' k k' n n' f f' w w' : Nat} (h : Res.ok v A k n f w = Res.ok v' A' k' n' f' w') : v = v' ∧ A = A' ∧ k = k' ∧ n = n' ∧ f = f' ∧ w = w' := by
  have h : (some (v, A, k, n, f, w) : Option (Option Nat × Nat × Nat × Nat × Nat × Nat)) = some (v', A', k', n', f', w') := h
  simpa using h
theorem bad_ne {v : Option Nat} {A' k n f w : Nat} : Res.ok v A' k n f w ≠ .bad := by intro h; cases h
theorem addC_ok {k1 n1 f1 w1 : Nat} {x : Res} {v : Option Nat} {A' k n f w : Nat} (h : addC k1 n1 f1 w1 x = .ok v A' k n f w) : ∃ k2 n2 f2 w2, x = .ok v A' k2 n2 f2 w2 ∧ k = k1 + k2 ∧ n = n1 + n2 ∧ f = max f1 f2 ∧ w = max w1 w2 := by
  rcases x.dest with rfl | ⟨v', A2, k2, n2, f2, w2, rfl⟩
  · cases h
  · have h : Res.ok v' A2 (k1 + k2) (n1 + n2) (mx f1 f2) (mx w1 w2) = _ := h
    rw [mx_eq, mx_eq] at h
    obtain ⟨rfl, rfl, rfl, rfl, rfl, rfl⟩ := ok_inj h
    exact ⟨k2, n2, f2, w2, rfl, rfl, rfl, rfl, rfl⟩
theorem brec_ok {b : Bool} {x y r : Res} (h : brc x y b = r) : (b = false ∧ x = r) ∨ (b = true ∧ y = r) := by
  cases b
  · exact Or.inl ⟨rfl, h⟩
  · exact Or.inr ⟨rfl, h⟩
theorem brec_t {b : Bool} {y r : Res} (h : brc .bad y b = r) (hr : r ≠ .bad) : b = true ∧ y = r := by
  rcases brec_ok h with ⟨-, q⟩ | q
  · exact absurd q.symm hr
  · exact q
theorem brec_f {b : Bool} {x r : Res} (h : brc x .bad b = r) (hr : r ≠ .bad) : b = false ∧ x = r := by
  rcases brec_ok h with q | ⟨-, q⟩
  · exact q
  · exact absurd q.symm hr
theorem nrc_s {k : Nat → Res} {n : Nat} {r : Res} (h : nrc .bad k n = r) (hr : r ≠ .bad) : ∃ m, n = Nat.succ m ∧ k m = r := by
  cases n with
  | zero => exact absurd h.symm hr
  | succ m => exact ⟨m, rfl, h⟩
/-! a step of the interpreter -/
theorem sim_step {i : Instr} {nums : List Nat} {val : Value} {c' : Cont} {d : Nat} (hE : E.1 M pc = some (i, none, nums, val)) (hs : Own.sort i nums = 2)
    (h : ∀ L S A v A' k n f w, c' L S A = .ok v A' k n f w → ∃ pc1 d1 c1 L1 S1 A1 k1 n1 f1 w1 k2 n2 f2 w2, Sim ρ E M pc1 d1 c1 ∧ Own.step E i nums val none pc (avL ρ (E.2.1 M) L) (avS ρ d S) (avA ρ A) = some ([], none, pc1, avL ρ (E.2.1 M) L1, avS ρ d1 S1, avA ρ A1, k1, n1, f1, w1) ∧ c1 L1 S1 A1 = .ok v A' k2 n2 f2 w2 ∧ k = k1 + k2 ∧ n = n1 + n2 ∧ f = max f1 f2 ∧ w = max w1 w2) : Sim ρ E M pc d c' := by
  intro L S A v A' k n f w hc
  obtain ⟨pc1, d1, c1, L1, S1, A1, k1, n1, f1, w1, k2, n2, f2, w2, hS, h1, h2, rfl, rfl, rfl, rfl⟩ := h L S A v A' k n f w hc
  obtain ⟨hv, N, hN⟩ := hS L1 S1 A1 v A' k2 n2 f2 w2 h2
  refine ⟨hv, N + 1, fun fuel hf => ?_⟩
  obtain ⟨m, rfl⟩ : ∃ m, fuel = m + 1 := ⟨fuel - 1, by omega⟩
  have hm := hN m (by omega)
  rw [Own.run]
  simp only [hE, Own.pinS, hs, Own.stepC, h1, Own.forceN_eq, hm, List.nil_append]
theorem sim_p {i : Instr} {c' : Cont} {l d d1 : Nat} (hE : E.1 M pc = some (i, none, [], .null)) (hs : Own.sort i [] = 2) (hp : Own.isPure i = true) (hc : Sim ρ E M (pc + l) d1 c)
    (h : ∀ L S A r, c' L S A = r → r ≠ .bad → ∃ L1 S1, c L1 S1 A = r ∧ Own.pstep i none pc (avL ρ (E.2.1 M) L) (avS ρ d S) = some ([], none, pc + l, avL ρ (E.2.1 M) L1, avS ρ d1 S1)) : Sim ρ E M pc d c' := by
  refine sim_step hE hs fun L S A v A' k n f w hq => ?_
  obtain ⟨L1, S1, h1, h2⟩ := h L S A _ hq bad_ne
  exact ⟨_, d1, c, L1, S1, A, 0, 0, 0, 0, k, n, f, w, hc, by simp only [Own.step, hp, h2], h1, by omega, by omega, by omega, by omega⟩
/-! loads and stores -/
theorem ld_gen {i : Instr} {j p l q d : Nat} (hj : j < E.2.1 M) (hq : q < 6) (hq2 : q ≠ 2) (hok : ∀ v, onq q v = true → Own.ldok i (av ρ v) = true) (hi : Own.ldi i = j) (hl : Own.ilen i = l) (hp : ∀ L S, Own.pstep i none pc L S = Own.pL i none pc L S) (hs : Own.sort i [] = 2) (hu : Own.isPure i = true)
    (hE : E.1 M pc = some (i, none, [], .null)) (hn : pc + l = p) (hc : Sim ρ E M p (d + 1) c) : Sim ρ E M pc d (ldF q j c) := by
  subst hn
  refine sim_p hE hs hu hc fun L S A r h hr => ?_
  obtain ⟨z, h⟩ := brec_t h hr
  have h : c L (psh S (dg L (j + 1))) A = r := h
  refine ⟨L, _, h, ?_⟩
  rw [hp]
  unfold Own.pL
  rw [hi, avL_get hj, on_avs z hq hq2]
  show (if Own.ldok i (av ρ (dg L (j + 1))) = true then _ else _) = _
  rw [if_pos (hok _ z), hl, avS_psh dg_lt]
theorem setL_avL {ml i L s : Nat} (hi : i < ml) (hs : s < 2 ^ 80) : Own.setL (avL ρ ml L) i (avs ρ s) = some (avL ρ ml (setD L (i + 1) s)) := by
  unfold Own.setL
  rw [if_pos (by rw [avL_len]; exact hi), avL_set hs]
theorem stSelf1 {ml i L v : Nat} (hi : i < ml) (hb : v < 2 ^ 80) (hv : (av ρ v).category = 1) (ha : avs ρ v = .val (av ρ v)) : Own.stSelf (avL ρ ml L) i (av ρ v) = some (avL ρ ml (setD L (i + 1) v)) := by
  unfold Own.stSelf
  rw [← ha, setL_avL hi hb, Option.bind_some, if_neg (by rw [hv]; decide)]
theorem st1_gen {i : Instr} {j p l q d ml : Nat} (hj : j < E.2.1 M) (hm : E.2.1 M = ml) (hq : q < 6) (hq2 : q ≠ 2) (hok : ∀ v, onq q v = true → Own.stok i (av ρ v) = true ∧ (av ρ v).category = 1) (hi : Own.sti i = j) (hl : Own.ilen i = l)
    (hp : ∀ L S, Own.pstep i none pc L S = Own.pS i none pc L S) (hs : Own.sort i [] = 2) (hu : Own.isPure i = true) (hE : E.1 M pc = some (i, none, [], .null)) (hn : pc + l = p) (hc : Sim ρ E M p d c) : Sim ρ E M pc (d + 1) (st1F ml q j c) := by
  subst hn hm
  refine sim_p hE hs hu hc fun L S A r h hr => ?_
  obtain ⟨z, h⟩ := brec_t h hr
  obtain ⟨q1, q2⟩ := hok _ z
  have qa := on_avs (ρ := ρ) z hq hq2
  have key : ∀ L', Own.stL (avL ρ (E.2.1 M) L) j (av ρ (dg S 0)) = some (avL ρ (E.2.1 M) L') → Own.pstep i none pc (avL ρ (E.2.1 M) L) (avS ρ (d + 1) S) = some ([], none, pc + l, avL ρ (E.2.1 M) L', avS ρ d (rsk 1 S)) := by
    intro L' e
    rw [hp, avS1]
    unfold Own.pS
    simp only [q1, if_true, hi, e, Own.forceL_eq, hl]
  rcases brec_ok h with ⟨t1, h⟩ | ⟨t1, h⟩
  · rcases brec_ok h with ⟨t2, h⟩ | ⟨t2, h⟩
    · obtain ⟨t3, h⟩ := brec_t h hr
      have h : c (setD (setD L j 2361183241434822606848) (j + 1) (dg S 0)) (rsk 1 S) A = r := h
      refine ⟨_, _, h, key _ ?_⟩
      have t3 : 0 < j := Nat.le_of_ble_eq_true t3
      have e : tq (dg L (j + 1)) = 3 := by
        have h1 : ¬ tq (dg L (j + 1)) ≤ 1 := fun q => by
          have t1 : Nat.ble (tq (dg L (j + 1))) 1 = false := t1
          rw [Nat.ble_eq_true_of_le q] at t1; cases t1
        have h2 : ¬ tq (dg L (j + 1)) = 2 := fun q => by
          have t2 : Nat.beq (tq (dg L (j + 1))) 2 = false := t2
          rw [q] at t2; cases t2
        have h3 := tq_lt (dg L (j + 1))
        omega
      unfold Own.stL
      rw [avL_get hj, avs_tq3 e]
      show (Own.setL (avL ρ (E.2.1 M) L) (j - 1) .unset).bind _ = _
      rw [← avs_unset (ρ := ρ), setL_avL (by omega) (by decide), Option.bind_some, show j - 1 + 1 = j by omega]
      exact stSelf1 hj dg_lt q2 qa
    · obtain ⟨t3, h⟩ := brec_t h hr
      have h : c (setD (setD L (j + 2) 2361183241434822606848) (j + 1) (dg S 0)) (rsk 1 S) A = r := h
      refine ⟨_, _, h, key _ ?_⟩
      have t3 : j + 1 < E.2.1 M := Nat.le_of_ble_eq_true t3
      have e : tq (dg L (j + 1)) = 2 := beq0 t2
      unfold Own.stL
      rw [avL_get hj, (avs_tq2 e).1]
      show (if (av ρ (dg L (j + 1))).category = 2 then _ else _) = _
      rw [if_pos (avs_tq2 e).2, ← avs_unset (ρ := ρ), setL_avL t3 (by decide), Option.bind_some]
      exact stSelf1 hj dg_lt q2 qa
  · have h : c (setD L (j + 1) (dg S 0)) (rsk 1 S) A = r := h
    refine ⟨_, _, h, key _ ?_⟩
    have e : tq (dg L (j + 1)) ≤ 1 := Nat.le_of_ble_eq_true t1
    unfold Own.stL
    rw [avL_get hj]
    rcases avs_tq1 (ρ := ρ) e with e | ⟨e, e2⟩
    · rw [e]
      exact stSelf1 hj dg_lt q2 qa
    · rw [e]
      show (if (av ρ (dg L (j + 1))).category = 2 then _ else _) = _
      rw [if_neg (by rw [e2]; decide)]
      exact stSelf1 hj dg_lt q2 qa
theorem stSelf2 {Ls : List Slot} {j : Nat} {v : Value} (hl : j + 1 < Ls.length) (hv : v.category = 2) (ho : ∀ q, Ls[j + 1]? = some (.val q) → ¬ q.category = 2) : Own.stSelf Ls j v = some ((Ls.set j (.val v)).set (j + 1) .second) := by
  unfold Own.stSelf Own.setL
  rw [if_pos (by omega), Option.bind_some, if_pos hv, List.getElem?_set_ne (by omega)]
  have this : Ls[j + 1]? = some Ls[j + 1] := List.getElem?_eq_getElem hl
  rw [this]
  cases hx : Ls[j + 1] with
  | val q =>
    simp only []
    rw [if_neg (ho q (by rw [this, hx])), if_pos (by rw [List.length_set]; exact hl)]
  | unset => simp only []; rw [if_pos (by rw [List.length_set]; exact hl)]
  | second => simp only []; rw [if_pos (by rw [List.length_set]; exact hl)]
theorem st2_gen {i : Instr} {j p l q d : Nat} (hj : j + 1 < E.2.1 M) (hq : q < 6) (hq2 : q ≠ 2) (hok : ∀ v, onq q v = true → Own.stok i (av ρ v) = true ∧ (av ρ v).category = 2) (hi : Own.sti i = j) (hl : Own.ilen i = l)
    (hp : ∀ L S, Own.pstep i none pc L S = Own.pS i none pc L S) (hs : Own.sort i [] = 2) (hu : Own.isPure i = true) (hE : E.1 M pc = some (i, none, [], .null)) (hn : pc + l = p) (hc : Sim ρ E M p d c) : Sim ρ E M pc (d + 1) (st2F q j c) := by
  subst hn
  refine sim_p hE hs hu hc fun L S A r h hr => ?_
  obtain ⟨z, h⟩ := brec_t h hr
  obtain ⟨q1, q2⟩ := hok _ z
  have qa := on_avs (ρ := ρ) z hq hq2
  obtain ⟨t1, h⟩ := brec_f h hr
  obtain ⟨t2, h⟩ := brec_f h hr
  have h : c (setD (setD L (j + 1) (dg S 0)) (j + 1 + 1) 7083549724304467820544) (rsk 1 S) A = r := h
  refine ⟨_, _, h, ?_⟩
  have t1 : ¬ tq (dg L (j + 1)) = 3 := fun q => by
    have t1 : Nat.beq (tq (dg L (j + 1))) 3 = false := t1
    rw [q] at t1; cases t1
  have t2 : ¬ tq (dg L (j + 1 + 1)) = 2 := fun q => by
    have t2 : Nat.beq (tq (dg L (j + 1 + 1))) 2 = false := t2
    rw [q] at t2; cases t2
  have l1 : j + 1 < (avL ρ (E.2.1 M) L).length := by rw [avL_len]; exact hj
  have ho : ∀ q, (avL ρ (E.2.1 M) L)[j + 1]? = some (.val q) → ¬ q.category = 2 := by
    intro q hq
    rw [avL_get hj] at hq
    have h3 := tq_lt (dg L (j + 1 + 1))
    by_cases e : tq (dg L (j + 1 + 1)) = 3
    · rw [avs_tq3 e] at hq; cases hq
    · rcases avs_tq1 (ρ := ρ) (s := dg L (j + 1 + 1)) (by omega) with e | ⟨e, e2⟩
      · rw [e] at hq; cases hq
      · rw [e] at hq; cases hq; rw [e2]; decide
  have fin : avL ρ (E.2.1 M) (setD (setD L (j + 1) (dg S 0)) (j + 1 + 1) 7083549724304467820544) = ((avL ρ (E.2.1 M) L).set j (.val (av ρ (dg S 0)))).set (j + 1) .second := by
    rw [avL_set (by decide), avL_set dg_lt, avs_second, qa]
  have st : Own.stL (avL ρ (E.2.1 M) L) j (av ρ (dg S 0)) = some (((avL ρ (E.2.1 M) L).set j (.val (av ρ (dg S 0)))).set (j + 1) .second) := by
    unfold Own.stL
    rw [avL_get (by omega)]
    have h3 := tq_lt (dg L (j + 1))
    by_cases e : tq (dg L (j + 1)) = 2
    · rw [(avs_tq2 e).1]
      show (if (av ρ (dg L (j + 1))).category = 2 then _ else _) = _
      rw [if_pos (avs_tq2 e).2]
      unfold Own.setL
      rw [if_pos l1, Option.bind_some, stSelf2 (by rw [List.length_set]; exact l1) q2 (fun q hq => by rw [List.getElem?_set_self l1] at hq; cases hq)]
      congr 1
      rw [List.set_comm _ _ (by omega), List.set_set]
      exact List.set_comm _ _ (by omega)
    · rcases avs_tq1 (ρ := ρ) (s := dg L (j + 1)) (by omega) with e | ⟨e, e2⟩
      · rw [e]
        exact stSelf2 l1 q2 ho
      · rw [e]
        show (if (av ρ (dg L (j + 1))).category = 2 then _ else _) = _
        rw [if_neg (by rw [e2]; decide)]
        exact stSelf2 l1 q2 ho
  rw [hp, avS1, fin]
  unfold Own.pS
  simp only [q1, if_true, hi, st, Own.forceL_eq, hl]
theorem ldI_ok {j : Nat} {p d : Nat} (hj : j < E.2.1 M) (hE : E.1 M pc = some (.iload j, none, [], .null)) (hn : pc + 2 = p) (hc : Sim ρ E M p (d + 1) c) : Sim ρ E M pc d (ldF 0 j c) :=
  ld_gen hj (by decide) (by decide) (fun v h => by obtain ⟨⟨x, e⟩, z, -⟩ := onI_ok (ρ := ρ) h; exact (by rw [e]; rfl)) rfl rfl (fun _ _ => rfl) rfl rfl hE hn hc
theorem stI_ok {j : Nat} {p d ml : Nat} (hj : j < E.2.1 M) (hm : E.2.1 M = ml) (hE : E.1 M pc = some (.istore j, none, [], .null)) (hn : pc + 2 = p) (hc : Sim ρ E M p d c) : Sim ρ E M pc (d + 1) (st1F ml 0 j c) :=
  st1_gen hj hm (by decide) (by decide) (fun v h => by obtain ⟨⟨x, e⟩, z, -⟩ := onI_ok (ρ := ρ) h; exact ⟨by rw [e]; rfl, cat1 z⟩) rfl rfl (fun _ _ => rfl) rfl rfl hE hn hc
theorem ldI_n_ok {j : Fin 4} {p d : Nat} (hj : j.val < E.2.1 M) (hE : E.1 M pc = some (.iload_n j, none, [], .null)) (hn : pc + 1 = p) (hc : Sim ρ E M p (d + 1) c) : Sim ρ E M pc d (ldF 0 j.val c) :=
  ld_gen hj (by decide) (by decide) (fun v h => by obtain ⟨⟨x, e⟩, z, -⟩ := onI_ok (ρ := ρ) h; exact (by rw [e]; rfl)) rfl rfl (fun _ _ => rfl) rfl rfl hE hn hc
theorem stI_n_ok {j : Fin 4} {p d ml : Nat} (hj : j.val < E.2.1 M) (hm : E.2.1 M = ml) (hE : E.1 M pc = some (.istore_n j, none, [], .null)) (hn : pc + 1 = p) (hc : Sim ρ E M p d c) : Sim ρ E M pc (d + 1) (st1F ml 0 j.val c) :=
  st1_gen hj hm (by decide) (by decide) (fun v h => by obtain ⟨⟨x, e⟩, z, -⟩ := onI_ok (ρ := ρ) h; exact ⟨by rw [e]; rfl, cat1 z⟩) rfl rfl (fun _ _ => rfl) rfl rfl hE hn hc
theorem ldA_ok {j : Nat} {p d : Nat} (hj : j < E.2.1 M) (hE : E.1 M pc = some (.aload j, none, [], .null)) (hn : pc + 2 = p) (hc : Sim ρ E M p (d + 1) c) : Sim ρ E M pc d (ldF 1 j c) :=
  ld_gen hj (by decide) (by decide) (fun v h => by obtain ⟨e, z, -⟩ := onA_ok (ρ := ρ) h; rcases e with ⟨x, e⟩ | e <;> exact (by rw [e]; rfl)) rfl rfl (fun _ _ => rfl) rfl rfl hE hn hc
theorem stA_ok {j : Nat} {p d ml : Nat} (hj : j < E.2.1 M) (hm : E.2.1 M = ml) (hE : E.1 M pc = some (.astore j, none, [], .null)) (hn : pc + 2 = p) (hc : Sim ρ E M p d c) : Sim ρ E M pc (d + 1) (st1F ml 1 j c) :=
  st1_gen hj hm (by decide) (by decide) (fun v h => by obtain ⟨e, z, -⟩ := onA_ok (ρ := ρ) h; rcases e with ⟨x, e⟩ | e <;> exact ⟨by rw [e]; rfl, cat1 z⟩) rfl rfl (fun _ _ => rfl) rfl rfl hE hn hc
theorem ldA_n_ok {j : Fin 4} {p d : Nat} (hj : j.val < E.2.1 M) (hE : E.1 M pc = some (.aload_n j, none, [], .null)) (hn : pc + 1 = p) (hc : Sim ρ E M p (d + 1) c) : Sim ρ E M pc d (ldF 1 j.val c) :=
  ld_gen hj (by decide) (by decide) (fun v h => by obtain ⟨e, z, -⟩ := onA_ok (ρ := ρ) h; rcases e with ⟨x, e⟩ | e <;> exact (by rw [e]; rfl)) rfl rfl (fun _ _ => rfl) rfl rfl hE hn hc
theorem stA_n_ok {j : Fin 4} {p d ml : Nat} (hj : j.val < E.2.1 M) (hm : E.2.1 M = ml) (hE : E.1 M pc = some (.astore_n j, none, [], .null)) (hn : pc + 1 = p) (hc : Sim ρ E M p d c) : Sim ρ E M pc (d + 1) (st1F ml 1 j.val c) :=
  st1_gen hj hm (by decide) (by decide) (fun v h => by obtain ⟨e, z, -⟩ := onA_ok (ρ := ρ) h; rcases e with ⟨x, e⟩ | e <;> exact ⟨by rw [e]; rfl, cat1 z⟩) rfl rfl (fun _ _ => rfl) rfl rfl hE hn hc
theorem ldJ_ok {j : Nat} {p d : Nat} (hj : j < E.2.1 M) (hE : E.1 M pc = some (.lload j, none, [], .null)) (hn : pc + 2 = p) (hc : Sim ρ E M p (d + 1) c) : Sim ρ E M pc d (ldF 4 j c) :=
  ld_gen hj (by decide) (by decide) (fun v h => by obtain ⟨⟨x, e⟩, z, -⟩ := onJ_ok (ρ := ρ) h; exact (by rw [e]; rfl)) rfl rfl (fun _ _ => rfl) rfl rfl hE hn hc
theorem stJ_ok {j : Nat} {p d : Nat} (hj : j + 1 < E.2.1 M) (hE : E.1 M pc = some (.lstore j, none, [], .null)) (hn : pc + 2 = p) (hc : Sim ρ E M p d c) : Sim ρ E M pc (d + 1) (st2F 4 j c) :=
  st2_gen hj (by decide) (by decide) (fun v h => by obtain ⟨⟨x, e⟩, z, -⟩ := onJ_ok (ρ := ρ) h; exact ⟨by rw [e]; rfl, cat2 z⟩) rfl rfl (fun _ _ => rfl) rfl rfl hE hn hc
theorem ldJ_n_ok {j : Fin 4} {p d : Nat} (hj : j.val < E.2.1 M) (hE : E.1 M pc = some (.lload_n j, none, [], .null)) (hn : pc + 1 = p) (hc : Sim ρ E M p (d + 1) c) : Sim ρ E M pc d (ldF 4 j.val c) :=
  ld_gen hj (by decide) (by decide) (fun v h => by obtain ⟨⟨x, e⟩, z, -⟩ := onJ_ok (ρ := ρ) h; exact (by rw [e]; rfl)) rfl rfl (fun _ _ => rfl) rfl rfl hE hn hc
theorem stJ_n_ok {j : Fin 4} {p d : Nat} (hj : j.val + 1 < E.2.1 M) (hE : E.1 M pc = some (.lstore_n j, none, [], .null)) (hn : pc + 1 = p) (hc : Sim ρ E M p d c) : Sim ρ E M pc (d + 1) (st2F 4 j.val c) :=
  st2_gen hj (by decide) (by decide) (fun v h => by obtain ⟨⟨x, e⟩, z, -⟩ := onJ_ok (ρ := ρ) h; exact ⟨by rw [e]; rfl, cat2 z⟩) rfl rfl (fun _ _ => rfl) rfl rfl hE hn hc
theorem ldD_ok {j : Nat} {p d : Nat} (hj : j < E.2.1 M) (hE : E.1 M pc = some (.dload j, none, [], .null)) (hn : pc + 2 = p) (hc : Sim ρ E M p (d + 1) c) : Sim ρ E M pc d (ldF 5 j c) :=
  ld_gen hj (by decide) (by decide) (fun v h => by obtain ⟨⟨x, e⟩, z, -⟩ := onD_ok (ρ := ρ) h; exact (by rw [e]; rfl)) rfl rfl (fun _ _ => rfl) rfl rfl hE hn hc
theorem stD_ok {j : Nat} {p d : Nat} (hj : j + 1 < E.2.1 M) (hE : E.1 M pc = some (.dstore j, none, [], .null)) (hn : pc + 2 = p) (hc : Sim ρ E M p d c) : Sim ρ E M pc (d + 1) (st2F 5 j c) :=
  st2_gen hj (by decide) (by decide) (fun v h => by obtain ⟨⟨x, e⟩, z, -⟩ := onD_ok (ρ := ρ) h; exact ⟨by rw [e]; rfl, cat2 z⟩) rfl rfl (fun _ _ => rfl) rfl rfl hE hn hc
theorem ldD_n_ok {j : Fin 4} {p d : Nat} (hj : j.val < E.2.1 M) (hE : E.1 M pc = some (.dload_n j, none, [], .null)) (hn : pc + 1 = p) (hc : Sim ρ E M p (d + 1) c) : Sim ρ E M pc d (ldF 5 j.val c) :=
  ld_gen hj (by decide) (by decide) (fun v h => by obtain ⟨⟨x, e⟩, z, -⟩ := onD_ok (ρ := ρ) h; exact (by rw [e]; rfl)) rfl rfl (fun _ _ => rfl) rfl rfl hE hn hc
theorem stD_n_ok {j : Fin 4} {p d : Nat} (hj : j.val + 1 < E.2.1 M) (hE : E.1 M pc = some (.dstore_n j, none, [], .null)) (hn : pc + 1 = p) (hc : Sim ρ E M p d c) : Sim ρ E M pc (d + 1) (st2F 5 j.val c) :=
  st2_gen hj (by decide) (by decide) (fun v h => by obtain ⟨⟨x, e⟩, z, -⟩ := onD_ok (ρ := ρ) h; exact ⟨by rw [e]; rfl, cat2 z⟩) rfl rfl (fun _ _ => rfl) rfl rfl hE hn hc
/-! constants -/
theorem cst_gen {i : Instr} {v p l d : Nat} (hb : v < 2 ^ 80) (hv : Own.cst i = some (av ρ v)) (hl : Own.ilen i = l) (hp : ∀ L S, Own.pstep i none pc L S = Own.pC i none pc L S) (hs : Own.sort i [] = 2) (hu : Own.isPure i = true) (hE : E.1 M pc = some (i, none, [], .null)) (hn : pc + l = p) (hc : Sim ρ E M p (d + 1) c) : Sim ρ E M pc d (cstF v c) := by
  subst hn
  refine sim_p hE hs hu hc fun L S A r h hr => ⟨L, psh S v, h, ?_⟩
  rw [hp]
  unfold Own.pC
  rw [hv, hl, avS_psh hb]
theorem up80 {n : Nat} (h : n < 2 ^ 69) : n < 2 ^ 80 := by omega
theorem iconst_ok {z : Int} {n p d : Nat} (hz : Int32.ofInt z = Int32.ofNat n) (hb : n < 2 ^ 69) (hE : E.1 M pc = some (.iconst z, none, [], .null)) (hn : pc + 1 = p) (hc : Sim ρ E M p (d + 1) c) : Sim ρ E M pc d (cstF n c) := cst_gen (up80 hb) (by rw [av_int hb]; show some (Value.int _) = some (Value.int _); rw [hz]) rfl (fun _ _ => rfl) rfl rfl hE hn hc
theorem bipush_ok {z : Int} {n p d : Nat} (hz : (Int8.ofInt z).toInt32 = Int32.ofNat n) (hb : n < 2 ^ 69) (hE : E.1 M pc = some (.bipush z, none, [], .null)) (hn : pc + 2 = p) (hc : Sim ρ E M p (d + 1) c) : Sim ρ E M pc d (cstF n c) := cst_gen (up80 hb) (by rw [av_int hb]; show some (Value.int _) = some (Value.int _); rw [hz]) rfl (fun _ _ => rfl) rfl rfl hE hn hc
theorem sipush_ok {z : Int} {n p d : Nat} (hz : (Int16.ofInt z).toInt32 = Int32.ofNat n) (hb : n < 2 ^ 69) (hE : E.1 M pc = some (.sipush z, none, [], .null)) (hn : pc + 3 = p) (hc : Sim ρ E M p (d + 1) c) : Sim ρ E M pc d (cstF n c) := cst_gen (up80 hb) (by rw [av_int hb]; show some (Value.int _) = some (Value.int _); rw [hz]) rfl (fun _ _ => rfl) rfl rfl hE hn hc
theorem lconst0_ok {p d : Nat} (hE : E.1 M pc = some (.lconst 0, none, [], .null)) (hn : pc + 1 = p) (hc : Sim ρ E M p (d + 1) c) : Sim ρ E M pc d (cstF 4722366482869645213696 c) := cst_gen (i := .lconst 0) (by decide) (congrArg some (Eq.symm (av_long (n := 0) (by decide)))) rfl (fun _ _ => rfl) rfl rfl hE hn hc
theorem lconst1_ok {p d : Nat} (hE : E.1 M pc = some (.lconst 1, none, [], .null)) (hn : pc + 1 = p) (hc : Sim ρ E M p (d + 1) c) : Sim ρ E M pc d (cstF 4722366482869645213697 c) := cst_gen (i := .lconst 1) (by decide) (congrArg some (Eq.symm (av_long (n := 1) (by decide)))) rfl (fun _ _ => rfl) rfl rfl hE hn hc
theorem dconst0_ok {p d : Nat} (hE : E.1 M pc = some (.dconst 0, none, [], .null)) (hn : pc + 1 = p) (hc : Sim ρ E M p (d + 1) c) : Sim ρ E M pc d (cstF 5902958103587056517120 c) := cst_gen (i := .dconst 0) (by decide) (congrArg some (Eq.symm (av_double (n := 0) (by decide)))) rfl (fun _ _ => rfl) rfl rfl hE hn hc
theorem dconst1_ok {p d : Nat} (hE : E.1 M pc = some (.dconst 1, none, [], .null)) (hn : pc + 1 = p) (hc : Sim ρ E M p (d + 1) c) : Sim ρ E M pc d (cstF 5907565286005856534528 c) := cst_gen (i := .dconst 1) (by decide) (congrArg some (Eq.symm (av_double (n := 4607182418800017408) (by decide)))) rfl (fun _ _ => rfl) rfl rfl hE hn hc
theorem anull_ok {p d : Nat} (hE : E.1 M pc = some (.aconst_null, none, [], .null)) (hn : pc + 1 = p) (hc : Sim ρ E M p (d + 1) c) : Sim ρ E M pc d (cstF 1180591620717411303424 c) := cst_gen (i := .aconst_null) (by decide) (congrArg some (Eq.symm (av_null))) rfl (fun _ _ => rfl) rfl rfl hE hn hc
theorem avs_int {v : Nat} (h : v < 2 ^ 69) : avs ρ v = .val (av ρ v) := by
  have e := (int_tg h).1
  unfold avs
  rw [if_neg (by omega), if_neg (by rw [tq_eq]; omega)]
theorem mod32 (a : Nat) : Nat.mod a 4294967296 < 2 ^ 69 := lt32 (Nat.mod_lt a (by decide))
theorem iinc_ok {j m p d : Nat} {z : Int} (hj : j < E.2.1 M) (hz : Int32.ofInt z = Int32.ofNat m) (hE : E.1 M pc = some (.iinc j z, none, [], .null)) (hn : pc + 3 = p) (hc : Sim ρ E M p d c) : Sim ρ E M pc d (incF j m c) := by
  subst hn
  refine sim_p (i := .iinc j z) hE rfl rfl hc fun L S A r h hr => ?_
  obtain ⟨t, h⟩ := brec_t h hr
  have h : c (setD L (j + 1) (Nat.mod (Nat.add (dg L (j + 1)) m) 4294967296)) S A = r := h
  refine ⟨_, S, h, ?_⟩
  have t : dg L (j + 1) < 2 ^ 69 := shr_lt (beq0 t)
  have gg : (avL ρ (E.2.1 M) L)[j]? = some (.val (.int (Int32.ofNat (dg L (j + 1))))) := by rw [avL_get hj, avs_int t, av_int t]
  have hm := mod32 (Nat.add (dg L (j + 1)) m)
  show Own.pI none pc _ _ j z = _
  unfold Own.pI
  rw [gg]
  simp only []
  rw [hz, b_add]
  unfold Own.stL
  rw [gg]
  simp only []
  rw [if_neg (by show ¬ (1 : Nat) = 2; decide), ← av_int (ρ := ρ) hm, stSelf1 hj (up80 hm) (by rw [av_int hm]; rfl) (avs_int hm)]
  simp only [Own.forceL_eq]
/-! reckoning -/
theorem tabC_ok {o x y : Nat} {k : Nat → Res} {r : Res} (h : tabC T o x y k = r) (hr : r ≠ .bad) : ∃ v, T o x y = Nat.succ v ∧ v < 2 ^ 80 ∧ k v = r := by
  obtain ⟨v, h1, h2⟩ := nrc_s h hr
  obtain ⟨z, h3⟩ := brec_t h2 hr
  exact ⟨v, h1, shr_lt (beq0 z), h3⟩
theorem sem_bin {o : Nat} (h : o < 22) (x y : Value) : sem E o x y = Own.bin (opI o) x y := by unfold sem; rw [if_pos h]
theorem bin_st {i : Instr} {x y v : Value} {Ls : List Slot} {r : List Value} (hp : ∀ L S, Own.pstep i none pc L S = Own.pB i none pc L S) (h : Own.bin i x y = some v) : Own.pstep i none pc Ls (y :: x :: r) = some ([], none, pc + 1, Ls, v :: r) := by
  rw [hp]; unfold Own.pB; simp only [h]
theorem bin_step {i : Instr} {S v d : Nat} {Ls : List Slot} (hv : v < 2 ^ 80) (h : ∀ r, Own.pstep i none pc Ls (av ρ (dg S 0) :: av ρ (dg S 1) :: r) = some ([], none, pc + 1, Ls, av ρ v :: r)) : Own.pstep i none pc Ls (avS ρ (d + 2) S) = some ([], none, pc + 1, Ls, avS ρ (d + 1) (psh (rsk 2 S) v)) := by
  rw [avS2, avS_psh hv, h]
theorem bI_gen {i : Instr} {o p d : Nat} {h : Nat → Nat → Nat} (hT : TOk ρ E T) (ho : o < 22) (hi : opI o = i) (hh : ∀ a b, Own.bin i (.int (Int32.ofNat a)) (.int (Int32.ofNat b)) = some (.int (Int32.ofNat (h a b)))) (hb : ∀ a b, a < 2 ^ 69 → b < 2 ^ 69 → h a b < 2 ^ 69) (hp : ∀ L S, Own.pstep i none pc L S = Own.pB i none pc L S) (hs : Own.sort i [] = 2) (hu : Own.isPure i = true)
    (hE : E.1 M pc = some (i, none, [], .null)) (hn : pc + 1 = p) (hc : Sim ρ E M p (d + 1) c) : Sim ρ E M pc (d + 2) (bI T o h c) := by
  subst hn
  refine sim_p hE hs hu hc fun L S A r q hr => ?_
  rcases brec_ok q with ⟨z, q⟩ | ⟨z, q⟩
  · obtain ⟨v, q1, q2, q3⟩ := tabC_ok q hr
    have q3 : c L (psh (rsk 2 S) v) A = r := q3
    have := hT _ _ _ _ q1
    rw [sem_bin ho, hi] at this
    exact ⟨L, _, q3, bin_step q2 fun _ => bin_st hp this⟩
  · have q : c L (psh (rsk 2 S) (h (dg S 1) (dg S 0))) A = r := q
    obtain ⟨l1, l2⟩ := or69 (beq0 z)
    have l3 := hb _ _ l1 l2
    refine ⟨L, _, q, bin_step (up80 l3) fun _ => ?_⟩
    rw [av_int l1, av_int l2, av_int l3]
    exact bin_st hp (hh _ _)
theorem bJ_gen {i : Instr} {o p d : Nat} {h : Nat → Nat → Nat} (hT : TOk ρ E T) (ho : o < 22) (hi : opI o = i) (hh : ∀ a b, Own.bin i (.long (Int64.ofNat a)) (.long (Int64.ofNat b)) = some (.long (Int64.ofNat (h a b)))) (hb : ∀ a b, a < 2 ^ 69 → b < 2 ^ 69 → h a b < 2 ^ 69) (hp : ∀ L S, Own.pstep i none pc L S = Own.pB i none pc L S) (hs : Own.sort i [] = 2) (hu : Own.isPure i = true)
    (hE : E.1 M pc = some (i, none, [], .null)) (hn : pc + 1 = p) (hc : Sim ρ E M p (d + 1) c) : Sim ρ E M pc (d + 2) (bJ T o h c) := by
  subst hn
  refine sim_p hE hs hu hc fun L S A r q hr => ?_
  rcases brec_ok q with ⟨z, q⟩ | ⟨z, q⟩
  · obtain ⟨v, q1, q2, q3⟩ := tabC_ok q hr
    have q3 : c L (psh (rsk 2 S) v) A = r := q3
    have := hT _ _ _ _ q1
    rw [sem_bin ho, hi] at this
    exact ⟨L, _, q3, bin_step q2 fun _ => bin_st hp this⟩
  · have q : c L (psh (rsk 2 S) (Nat.add 4722366482869645213696 (h (Nat.sub (dg S 1) 4722366482869645213696) (Nat.sub (dg S 0) 4722366482869645213696)))) A = r := q
    obtain ⟨z1, z2⟩ := add0 (beq0 z)
    obtain ⟨e1, l1⟩ := long_sub (ρ := ρ) z1
    obtain ⟨e2, l2⟩ := long_sub (ρ := ρ) z2
    have l3 := hb _ _ l1 l2
    refine ⟨L, _, q, bin_step (by show 4722366482869645213696 + _ < 2 ^ 80; omega) fun _ => ?_⟩
    rw [e1, e2, av_long l3]
    exact bin_st hp (hh _ _)
theorem mod64 (a : Nat) : Nat.mod a 18446744073709551616 < 2 ^ 69 := Nat.lt_trans (Nat.mod_lt a (by decide)) (by decide)
theorem iadd_ok {p d : Nat} (hT : TOk ρ E T) (hE : E.1 M pc = some (.iadd, none, [], .null)) (hn : pc + 1 = p) (hc : Sim ρ E M p (d + 1) c) : Sim ρ E M pc (d + 2) (bI T 0 hadd c) :=
  bI_gen hT (by decide) rfl (fun a b => by show some (Value.int _) = some (Value.int _); rw [b_add]; try rfl) (fun a b h1 h2 => mod32 _) (fun _ _ => rfl) rfl rfl hE hn hc
theorem isub_ok {p d : Nat} (hT : TOk ρ E T) (hE : E.1 M pc = some (.isub, none, [], .null)) (hn : pc + 1 = p) (hc : Sim ρ E M p (d + 1) c) : Sim ρ E M pc (d + 2) (bI T 1 hsub c) :=
  bI_gen hT (by decide) rfl (fun a b => by show some (Value.int _) = some (Value.int _); rw [b_sub]; try rfl) (fun a b h1 h2 => mod32 _) (fun _ _ => rfl) rfl rfl hE hn hc
theorem imul_ok {p d : Nat} (hT : TOk ρ E T) (hE : E.1 M pc = some (.imul, none, [], .null)) (hn : pc + 1 = p) (hc : Sim ρ E M p (d + 1) c) : Sim ρ E M pc (d + 2) (bI T 2 hmul c) :=
  bI_gen hT (by decide) rfl (fun a b => by show some (Value.int _) = some (Value.int _); rw [b_mul]; try rfl) (fun a b h1 h2 => mod32 _) (fun _ _ => rfl) rfl rfl hE hn hc
theorem iand_ok {p d : Nat} (hT : TOk ρ E T) (hE : E.1 M pc = some (.iand, none, [], .null)) (hn : pc + 1 = p) (hc : Sim ρ E M p (d + 1) c) : Sim ρ E M pc (d + 2) (bI T 3 Nat.land c) :=
  bI_gen hT (by decide) rfl (fun a b => by show some (Value.int _) = some (Value.int _); rw [b_and]; try rfl) (fun a b h1 h2 => Nat.and_lt_two_pow a h2) (fun _ _ => rfl) rfl rfl hE hn hc
theorem ior_ok {p d : Nat} (hT : TOk ρ E T) (hE : E.1 M pc = some (.ior, none, [], .null)) (hn : pc + 1 = p) (hc : Sim ρ E M p (d + 1) c) : Sim ρ E M pc (d + 2) (bI T 4 Nat.lor c) :=
  bI_gen hT (by decide) rfl (fun a b => by show some (Value.int _) = some (Value.int _); rw [b_or]; try rfl) (fun a b h1 h2 => Nat.or_lt_two_pow h1 h2) (fun _ _ => rfl) rfl rfl hE hn hc
theorem ixor_ok {p d : Nat} (hT : TOk ρ E T) (hE : E.1 M pc = some (.ixor, none, [], .null)) (hn : pc + 1 = p) (hc : Sim ρ E M p (d + 1) c) : Sim ρ E M pc (d + 2) (bI T 5 Nat.xor c) :=
  bI_gen hT (by decide) rfl (fun a b => by show some (Value.int _) = some (Value.int _); rw [b_xor]; try rfl) (fun a b h1 h2 => Nat.xor_lt_two_pow h1 h2) (fun _ _ => rfl) rfl rfl hE hn hc
theorem ladd_ok {p d : Nat} (hT : TOk ρ E T) (hE : E.1 M pc = some (.ladd, none, [], .null)) (hn : pc + 1 = p) (hc : Sim ρ E M p (d + 1) c) : Sim ρ E M pc (d + 2) (bJ T 10 haddL c) :=
  bJ_gen hT (by decide) rfl (fun a b => by show some (Value.long _) = some (Value.long _); rw [bl_add]; try rfl) (fun a b h1 h2 => mod64 _) (fun _ _ => rfl) rfl rfl hE hn hc
theorem lsub_ok {p d : Nat} (hT : TOk ρ E T) (hE : E.1 M pc = some (.lsub, none, [], .null)) (hn : pc + 1 = p) (hc : Sim ρ E M p (d + 1) c) : Sim ρ E M pc (d + 2) (bJ T 11 hsubL c) :=
  bJ_gen hT (by decide) rfl (fun a b => by show some (Value.long _) = some (Value.long _); rw [bl_sub]; try rfl) (fun a b h1 h2 => mod64 _) (fun _ _ => rfl) rfl rfl hE hn hc
theorem lmul_ok {p d : Nat} (hT : TOk ρ E T) (hE : E.1 M pc = some (.lmul, none, [], .null)) (hn : pc + 1 = p) (hc : Sim ρ E M p (d + 1) c) : Sim ρ E M pc (d + 2) (bJ T 12 hmulL c) :=
  bJ_gen hT (by decide) rfl (fun a b => by show some (Value.long _) = some (Value.long _); rw [bl_mul]; try rfl) (fun a b h1 h2 => mod64 _) (fun _ _ => rfl) rfl rfl hE hn hc
theorem blt_lt {a b : Nat} (h : Nat.blt a b = true) : a < b := Nat.le_of_ble_eq_true h
theorem and3 {a b d : Bool} (h : and a (and b d) = true) : a = true ∧ b = true ∧ d = true := by cases a <;> cases b <;> cases d <;> first | exact ⟨rfl, rfl, rfl⟩ | cases h
theorem and2 {a b : Bool} (h : and a b = true) : a = true ∧ b = true := by cases a <;> cases b <;> first | exact ⟨rfl, rfl⟩ | cases h
theorem bP_gen {i : Instr} {o p d : Nat} {qf : Nat → Nat → Bool} {h : Nat → Nat → Nat} (hT : TOk ρ E T) (hb : ∀ a b, a < 2 ^ 69 → b < 2 ^ 69 → h a b < 2 ^ 69) (hs : Own.sort i [] = 2) (hu : Own.isPure i = true) (hh : ∀ a b Ls r, qf a b = true → Own.pstep i none pc Ls (.int (Int32.ofNat b) :: .int (Int32.ofNat a) :: r) = some ([], none, pc + 1, Ls, .int (Int32.ofNat (h a b)) :: r))
    (ht : ∀ x y v Ls r, sem E o x y = some v → Own.pstep i none pc Ls (y :: x :: r) = some ([], none, pc + 1, Ls, v :: r)) (hE : E.1 M pc = some (i, none, [], .null)) (hn : pc + 1 = p) (hc : Sim ρ E M p (d + 1) c) : Sim ρ E M pc (d + 2) (bP T o qf h c) := by
  subst hn
  refine sim_p hE hs hu hc fun L S A r q hr => ?_
  rcases brec_ok q with ⟨z, q⟩ | ⟨z, q⟩
  · obtain ⟨v, q1, q2, q3⟩ := tabC_ok q hr
    have q3 : c L (psh (rsk 2 S) v) A = r := q3
    exact ⟨L, _, q3, bin_step q2 fun _ => ht _ _ _ _ _ (hT _ _ _ _ q1)⟩
  · obtain ⟨z2, q⟩ := brec_t q hr
    have q : c L (psh (rsk 2 S) (h (dg S 1) (dg S 0))) A = r := q
    obtain ⟨l1, l2⟩ := or69 (beq0 z)
    have l3 := hb _ _ l1 l2
    refine ⟨L, _, q, bin_step (up80 l3) fun _ => ?_⟩
    rw [av_int l1, av_int l2, av_int l3]
    exact hh _ _ _ _ z2
theorem nz {b : Nat} (h0 : 0 < b) (hb : b < 2147483648) : Int32.ofNat b ≠ 0 := fun e => by
  have := congrArg Int32.toInt e
  rw [small b hb] at this
  simp at this
  omega
theorem sem_div (o : Nat) (ho : o = 22 ∨ o = 23 ∨ o = 24 ∨ o = 25) {x y v : Value} {Ls : List Slot} {r : List Value} (h : sem E o x y = some v) : Own.pstep (opI o) none pc Ls (y :: x :: r) = some ([], none, pc + 1, Ls, v :: r) := by
  rcases ho with rfl | rfl | rfl | rfl <;> (
    unfold sem at h
    simp only [Nat.reduceLT, if_false, if_true] at h
    split at h
    all_goals first | (rename_i e _ _; cases e; done) | (rename_i e; cases e; done) | skip
    all_goals first | (cases h; done) | skip
    all_goals
      split at h
      · rename_i hz
        cases h
        simp only [opI, Own.pstep, Own.pZ, Own.need, hz, if_true, ne_eq, not_false_eq_true]
      · cases h)
theorem idiv_ok {p d : Nat} (hT : TOk ρ E T) (hE : E.1 M pc = some (.idiv, none, [], .null)) (hn : pc + 1 = p) (hc : Sim ρ E M p (d + 1) c) : Sim ρ E M pc (d + 2) (bP T 22 qdiv Nat.div c) :=
  bP_gen (i := .idiv) hT (fun a b h1 _ => Nat.lt_of_le_of_lt (Nat.div_le_self a b) h1) rfl rfl (fun a b Ls r z => by
    obtain ⟨z1, z2, z3⟩ := and3 z
    have hp : ∀ Ls S, Own.pstep .idiv none pc Ls S = Own.pZ .idiv none pc Ls S := fun _ _ => rfl
    rw [hp]
    unfold Own.pZ
    simp only [Own.need, if_pos (nz (blt_lt z2) (blt_lt z3)), b_div a b (blt_lt z1) (blt_lt z3)]) (fun x y v Ls r h => sem_div (pc := pc) 22 (by decide) h) hE hn hc
theorem irem_ok {p d : Nat} (hT : TOk ρ E T) (hE : E.1 M pc = some (.irem, none, [], .null)) (hn : pc + 1 = p) (hc : Sim ρ E M p (d + 1) c) : Sim ρ E M pc (d + 2) (bP T 23 qdiv Nat.mod c) :=
  bP_gen (i := .irem) hT (fun a b h1 _ => Nat.lt_of_le_of_lt (Nat.mod_le a b) h1) rfl rfl (fun a b Ls r z => by
    obtain ⟨z1, z2, z3⟩ := and3 z
    have hp : ∀ Ls S, Own.pstep .irem none pc Ls S = Own.pZ .irem none pc Ls S := fun _ _ => rfl
    rw [hp]
    unfold Own.pZ
    simp only [Own.need, if_pos (nz (blt_lt z2) (blt_lt z3)), b_rem a b (blt_lt z1) (blt_lt z3)]) (fun x y v Ls r h => sem_div (pc := pc) 23 (by decide) h) hE hn hc
theorem shr_le {a b : Nat} (h : a < 2 ^ 69) : Nat.shiftRight a b < 2 ^ 69 := by
  rw [shr_eq]
  exact Nat.lt_of_le_of_lt (Nat.div_le_self _ _) h
theorem ishl_ok {p d : Nat} (hT : TOk ρ E T) (hE : E.1 M pc = some (.ishl, none, [], .null)) (hn : pc + 1 = p) (hc : Sim ρ E M p (d + 1) c) : Sim ρ E M pc (d + 2) (bP T 6 qshl hshl c) :=
  bP_gen hT (fun a b h1 _ => mod32 _) rfl rfl (fun a b Ls r z => bin_st (fun _ _ => rfl) (by show some (Value.int _) = some (Value.int _); rw [b_shl a b (blt_lt z)]; try rfl)) (fun x y v Ls r h => bin_st (fun _ _ => rfl) (by rw [sem_bin (by decide)] at h; exact h)) hE hn hc
theorem ishr_ok {p d : Nat} (hT : TOk ρ E T) (hE : E.1 M pc = some (.ishr, none, [], .null)) (hn : pc + 1 = p) (hc : Sim ρ E M p (d + 1) c) : Sim ρ E M pc (d + 2) (bP T 7 qshr Nat.shiftRight c) :=
  bP_gen hT (fun a b h1 _ => shr_le h1) rfl rfl (fun a b Ls r z => bin_st (fun _ _ => rfl) (by show some (Value.int _) = some (Value.int _); rw [b_shr a b (blt_lt (and2 z).1) (blt_lt (and2 z).2)])) (fun x y v Ls r h => bin_st (fun _ _ => rfl) (by rw [sem_bin (by decide)] at h; exact h)) hE hn hc
theorem iushr_ok {p d : Nat} (hT : TOk ρ E T) (hE : E.1 M pc = some (.iushr, none, [], .null)) (hn : pc + 1 = p) (hc : Sim ρ E M p (d + 1) c) : Sim ρ E M pc (d + 2) (bP T 8 qshr Nat.shiftRight c) :=
  bP_gen hT (fun a b h1 _ => shr_le h1) rfl rfl (fun a b Ls r z => bin_st (fun _ _ => rfl) (by show some (Value.int _) = some (Value.int _); rw [b_ushr a b (blt_lt (and2 z).1) (blt_lt (and2 z).2)])) (fun x y v Ls r h => bin_st (fun _ _ => rfl) (by rw [sem_bin (by decide)] at h; exact h)) hE hn hc
theorem bT_gen {i : Instr} {o p d : Nat} (hT : TOk ρ E T) (hs : Own.sort i [] = 2) (hu : Own.isPure i = true) (ht : ∀ x y v Ls r, sem E o x y = some v → Own.pstep i none pc Ls (y :: x :: r) = some ([], none, pc + 1, Ls, v :: r)) (hE : E.1 M pc = some (i, none, [], .null)) (hn : pc + 1 = p) (hc : Sim ρ E M p (d + 1) c) : Sim ρ E M pc (d + 2) (bT T o c) := by
  subst hn
  refine sim_p hE hs hu hc fun L S A r q hr => ?_
  obtain ⟨v, q1, q2, q3⟩ := tabC_ok q hr
  have q3 : c L (psh (rsk 2 S) v) A = r := q3
  exact ⟨L, _, q3, bin_step q2 fun _ => ht _ _ _ _ _ (hT _ _ _ _ q1)⟩
theorem bT_ok {i : Instr} {o p d : Nat} (hT : TOk ρ E T) (hi : opI o = i) (ho : o < 22) (hp : ∀ L S, Own.pstep i none pc L S = Own.pB i none pc L S) (hs : Own.sort i [] = 2) (hu : Own.isPure i = true) (hE : E.1 M pc = some (i, none, [], .null)) (hn : pc + 1 = p) (hc : Sim ρ E M p (d + 1) c) : Sim ρ E M pc (d + 2) (bT T o c) :=
  bT_gen hT hs hu (fun x y v Ls r h => bin_st hp (by rw [sem_bin ho, hi] at h; exact h)) hE hn hc
theorem bTz_ok {i : Instr} {o p d : Nat} (hT : TOk ρ E T) (hi : opI o = i) (ho : o = 22 ∨ o = 23 ∨ o = 24 ∨ o = 25) (hs : Own.sort i [] = 2) (hu : Own.isPure i = true) (hE : E.1 M pc = some (i, none, [], .null)) (hn : pc + 1 = p) (hc : Sim ρ E M p (d + 1) c) : Sim ρ E M pc (d + 2) (bT T o c) :=
  bT_gen hT hs hu (fun x y v Ls r h => by rw [← hi]; exact sem_div o ho h) hE hn hc
theorem sem_d (o : Nat) (ho : o = 26 ∨ o = 27 ∨ o = 28 ∨ o = 29) {x y v : Value} {Ls : List Slot} {r : List Value} (h : sem E o x y = some v) : Own.pstep (opI o) none pc Ls (y :: x :: r) = some ([], none, pc + 1, Ls, v :: r) := by
  rcases ho with rfl | rfl | rfl | rfl <;> (
    unfold sem at h
    simp only [Nat.reduceLT, if_false, if_true] at h
    split at h
    · split at h
      · rename_i hz
        cases h
        simp only [dv] at hz
        simp only [opI, Own.pstep, Own.pD, Own.dbin, Own.need, hz, if_true, dv]
      · cases h
    · cases h)
theorem bTd_ok {i : Instr} {o p d : Nat} (hT : TOk ρ E T) (hi : opI o = i) (ho : o = 26 ∨ o = 27 ∨ o = 28 ∨ o = 29) (hs : Own.sort i [] = 2) (hu : Own.isPure i = true) (hE : E.1 M pc = some (i, none, [], .null)) (hn : pc + 1 = p) (hc : Sim ρ E M p (d + 1) c) : Sim ρ E M pc (d + 2) (bT T o c) :=
  bT_gen hT hs hu (fun x y v Ls r h => by rw [← hi]; exact sem_d o ho h) hE hn hc
theorem sem_un {o : Nat} (h1 : 30 ≤ o) (h2 : o < 42) (x y : Value) : sem E o x y = Own.un (opI o) x := by
  unfold sem; rw [if_neg (by omega), if_neg (by omega), if_neg (by omega), if_pos h2]
theorem un_st {i : Instr} {x v : Value} {Ls : List Slot} {r : List Value} (hp : ∀ L S, Own.pstep i none pc L S = Own.pU i none pc L S) (h : Own.un i x = some v) : Own.pstep i none pc Ls (x :: r) = some ([], none, pc + 1, Ls, v :: r) := by
  rw [hp]; unfold Own.pU; simp only [h]
theorem un_step {i : Instr} {S v d : Nat} {Ls : List Slot} (hv : v < 2 ^ 80) (h : ∀ r, Own.pstep i none pc Ls (av ρ (dg S 0) :: r) = some ([], none, pc + 1, Ls, av ρ v :: r)) : Own.pstep i none pc Ls (avS ρ (d + 1) S) = some ([], none, pc + 1, Ls, avS ρ (d + 1) (psh (rsk 1 S) v)) := by
  rw [avS1, avS_psh hv, h]
theorem uT_ok {i : Instr} {o p d : Nat} (hT : TOk ρ E T) (hi : opI o = i) (h1 : 30 ≤ o) (h2 : o < 42) (hp : ∀ L S, Own.pstep i none pc L S = Own.pU i none pc L S) (hs : Own.sort i [] = 2) (hu : Own.isPure i = true) (hE : E.1 M pc = some (i, none, [], .null)) (hn : pc + 1 = p) (hc : Sim ρ E M p (d + 1) c) : Sim ρ E M pc (d + 1) (uT T o c) := by
  subst hn
  refine sim_p hE hs hu hc fun L S A r q hr => ?_
  obtain ⟨v, q1, q2, q3⟩ := tabC_ok q hr
  have q3 : c L (psh (rsk 1 S) v) A = r := q3
  have := hT _ _ _ _ q1
  rw [sem_un h1 h2, hi] at this
  exact ⟨L, _, q3, un_step q2 fun _ => un_st hp this⟩
theorem i2l_ok {p d : Nat} (hT : TOk ρ E T) (hE : E.1 M pc = some (.i2l, none, [], .null)) (hn : pc + 1 = p) (hc : Sim ρ E M p (d + 1) c) : Sim ρ E M pc (d + 1) (i2lF T c) := by
  subst hn
  refine sim_p (i := .i2l) hE rfl rfl hc fun L S A r q hr => ?_
  rcases brec_ok q with ⟨z, q⟩ | ⟨z, q⟩
  · obtain ⟨v, q1, q2, q3⟩ := tabC_ok q hr
    have q3 : c L (psh (rsk 1 S) v) A = r := q3
    have := hT _ _ _ _ q1
    rw [sem_un (by decide) (by decide)] at this
    exact ⟨L, _, q3, un_step q2 fun _ => un_st (fun _ _ => rfl) this⟩
  · have q : c L (psh (rsk 1 S) (Nat.add 4722366482869645213696 (dg S 0))) A = r := q
    have z := blt_lt z
    refine ⟨L, _, q, un_step (by show 4722366482869645213696 + _ < 2 ^ 80; omega) fun _ => ?_⟩
    rw [av_long (lt31 z), av_int (lt31 z)]
    exact un_st (fun _ _ => rfl) (by show some (Value.long _) = some (Value.long _); rw [b_i2l _ z])
/-! the stack -/
theorem dupF_ok {p d : Nat} (hE : E.1 M pc = some (.dup, none, [], .null)) (hn : pc + 1 = p) (hc : Sim ρ E M p (d + 2) c) : Sim ρ E M pc (d + 1) (dupF c) := by
  subst hn
  refine sim_p (i := .dup) hE rfl rfl hc fun L S A r q hr => ?_
  obtain ⟨z, q⟩ := brec_t q hr
  have q : c L (psh S (dg S 0)) A = r := q
  refine ⟨L, _, q, ?_⟩
  rw [avS_psh dg_lt, avS1]
  exact if_pos (cat1 (beq0 z))
theorem popF_ok {p d : Nat} (hE : E.1 M pc = some (.pop, none, [], .null)) (hn : pc + 1 = p) (hc : Sim ρ E M p d c) : Sim ρ E M pc (d + 1) (popF c) := by
  subst hn
  refine sim_p (i := .pop) hE rfl rfl hc fun L S A r q hr => ?_
  obtain ⟨z, q⟩ := brec_t q hr
  have q : c L (rsk 1 S) A = r := q
  refine ⟨L, _, q, ?_⟩
  rw [avS1]
  exact if_pos (cat1 (beq0 z))
theorem dupX1F_ok {p d : Nat} (hE : E.1 M pc = some (.dup_x1, none, [], .null)) (hn : pc + 1 = p) (hc : Sim ρ E M p (d + 3) c) : Sim ρ E M pc (d + 2) (dupX1F c) := by
  subst hn
  refine sim_p (i := .dup_x1) hE rfl rfl hc fun L S A r q hr => ?_
  obtain ⟨z, q⟩ := brec_t q hr
  have q : c L (psh (psh (psh (rsk 2 S) (dg S 0)) (dg S 1)) (dg S 0)) A = r := q
  obtain ⟨z1, z2⟩ := add0 (beq0 z)
  refine ⟨L, _, q, ?_⟩
  rw [avS_psh dg_lt, avS_psh dg_lt, avS_psh dg_lt, avS2]
  exact if_pos ⟨cat1 z1, cat1 z2⟩
theorem dupX2F_ok {p d : Nat} (hE : E.1 M pc = some (.dup_x2, none, [], .null)) (hn : pc + 1 = p) (hc : Sim ρ E M p (d + 4) c) : Sim ρ E M pc (d + 3) (dupX2F c) := by
  subst hn
  refine sim_p (i := .dup_x2) hE rfl rfl hc fun L S A r q hr => ?_
  obtain ⟨z, q⟩ := brec_t q hr
  have q : c L (psh (psh (psh (psh (rsk 3 S) (dg S 0)) (dg S 2)) (dg S 1)) (dg S 0)) A = r := q
  obtain ⟨z1, z2⟩ := add0 (beq0 z)
  obtain ⟨z2, z3⟩ := add0 z2
  refine ⟨L, _, q, ?_⟩
  rw [avS_psh dg_lt, avS_psh dg_lt, avS_psh dg_lt, avS_psh dg_lt, avS3]
  exact if_pos ⟨cat1 z1, cat1 z2, cat1 z3⟩
theorem dup2_st {x y : Value} {r : List Value} {Ls : List Slot} (hx : x.category = 1) (hy : y.category = 1) : Own.pT .dup2 none pc Ls (x :: y :: r) = some ([], none, pc + 1, Ls, x :: y :: x :: y :: r) := by
  cases x <;> first | (cases hx; done) | exact if_pos ⟨hx, hy⟩
theorem dup2F_ok {p d : Nat} (hE : E.1 M pc = some (.dup2, none, [], .null)) (hn : pc + 1 = p) (hc : Sim ρ E M p (d + 4) c) : Sim ρ E M pc (d + 2) (dup2F c) := by
  subst hn
  refine sim_p (i := .dup2) hE rfl rfl hc fun L S A r q hr => ?_
  obtain ⟨z, q⟩ := brec_t q hr
  have q : c L (psh (psh S (dg S 1)) (dg S 0)) A = r := q
  obtain ⟨z1, z2⟩ := add0 (beq0 z)
  refine ⟨L, _, q, ?_⟩
  rw [avS_psh dg_lt, avS_psh dg_lt, avS2]
  exact dup2_st (cat1 z1) (cat1 z2)
/-! branches -/
theorem sim_b {i : Instr} {c' : Cont} {p tg d d1 : Nat} (hE : E.1 M pc = some (i, none, [], .null)) (hs : Own.sort i [] = 2) (hp : Own.isPure i = true) (ht : Sim ρ E M tg d1 t) (hc : Sim ρ E M p d1 c)
    (h : ∀ L S A r, c' L S A = r → r ≠ .bad → ∃ S1, (t L S1 A = r ∧ Own.pstep i none pc (avL ρ (E.2.1 M) L) (avS ρ d S) = some ([], none, tg, avL ρ (E.2.1 M) L, avS ρ d1 S1)) ∨ (c L S1 A = r ∧ Own.pstep i none pc (avL ρ (E.2.1 M) L) (avS ρ d S) = some ([], none, p, avL ρ (E.2.1 M) L, avS ρ d1 S1))) : Sim ρ E M pc d c' := by
  refine sim_step hE hs fun L S A v A' k n f w hq => ?_
  obtain ⟨S1, ⟨h1, h2⟩ | ⟨h1, h2⟩⟩ := h L S A _ hq bad_ne
  · exact ⟨_, d1, t, L, S1, A, 0, 0, 0, 0, k, n, f, w, ht, by simp only [Own.step, hp, h2], h1, by omega, by omega, by omega, by omega⟩
  · exact ⟨_, d1, c, L, S1, A, 0, 0, 0, 0, k, n, f, w, hc, by simp only [Own.step, hp, h2], h1, by omega, by omega, by omega, by omega⟩
theorem goto_ok {off : Int} {tg d : Nat} (hE : E.1 M pc = some (.goto off, none, [], .null)) (ho : 0 ≤ (pc : Int) + off ∧ ((pc : Int) + off).toNat = tg) (ht : Sim ρ E M tg d t) : Sim ρ E M pc d t := by
  refine sim_b (i := .goto off) hE rfl rfl ht ht fun L S A r q hr => ⟨S, Or.inl ⟨q, ?_⟩⟩
  show Own.jmp [] none pc _ _ off = _
  unfold Own.jmp
  rw [if_pos ho.1, ho.2]
theorem jp_ok {J : Jmp} {tg : Nat} (h : Sim ρ E M tg 0 (J tg)) : Sim ρ E M tg 0 (jpF J tg) := fun L S A v A' k n f w q => h L 0 A v A' k n f w q
theorem pJ_none {b : Bool} {off : Int} {Ls : List Slot} {r : List Value} {tg : Nat} (ho : 0 ≤ (pc : Int) + off ∧ ((pc : Int) + off).toNat = tg) : Own.pJ none pc Ls r b off = some ([], none, bif b then tg else pc + 3, Ls, r) := by
  unfold Own.pJ Own.ask Own.jmp
  cases b
  · rfl
  · simp only [if_pos ho.1, ho.2, cond_true]
theorem tabB_ok {o x y : Nat} {a b r : Res} (h : tabB T o x y a b = r) (hr : r ≠ .bad) : (T o x y = Nat.succ 1 ∧ a = r) ∨ (T o x y = Nat.succ 0 ∧ b = r) := by
  obtain ⟨v, h1, h2⟩ := nrc_s h hr
  cases v with
  | zero => exact Or.inr ⟨h1, h2⟩
  | succ u =>
    cases u with
    | zero => exact Or.inl ⟨h1, h2⟩
    | succ u => exact absurd h2.symm hr
theorem av1 : av ρ 1 = .int 1 := av_int (by decide)
theorem av0 : av ρ 0 = .int 0 := av_int (by decide)
theorem one_t {b : Bool} (h : (if b = true then (1 : Int32) else 0) = 1) : b = true := by
  cases b
  · exact absurd h (by decide)
  · rfl
theorem zero_f {b : Bool} (h : (if b = true then (1 : Int32) else 0) = 0) : b = false := by
  cases b
  · rfl
  · exact absurd h (by decide)
/-- a known int's answer, and the table's -/
def ZOk (cd : ClassFile.Cond) (h : Nat → Bool) : Prop := ∀ a, ifCond.holds cd (Int32.ofNat a) = h a
def COk (cd : ClassFile.Cond) (h : Nat → Nat → Bool) : Prop := ∀ a b, if_icmp.holds cd (Int32.ofNat a) (Int32.ofNat b) = h a b
theorem if_ok {cd : ClassFile.Cond} {off : Int} {o p tg d : Nat} {h : Nat → Bool} (hT : TOk ρ E T) (hcd : cdI (o - 42) = cd) (h1 : 42 ≤ o) (h2 : o < 48) (hz : ZOk cd h) (hE : E.1 M pc = some (.ifCond cd off, none, [], .null)) (ho : 0 ≤ (pc : Int) + off ∧ ((pc : Int) + off).toNat = tg) (hn : pc + 3 = p) (ht : Sim ρ E M tg d t) (hc : Sim ρ E M p d c) : Sim ρ E M pc (d + 1) (b0 T o h t c) := by
  subst hn
  refine sim_b (i := .ifCond cd off) hE rfl rfl ht hc fun L S A r q hr => ?_
  have q : brc (tabB T o (dg S 0) 1180591620717411303424 (t L (rsk 1 S) A) (c L (rsk 1 S) A)) (brc (c L (rsk 1 S) A) (t L (rsk 1 S) A) (h (dg S 0))) (Nat.beq (Nat.shiftRight (dg S 0) 69) 0) = r := q
  have step : ∀ (y : Int32) (Ls : List Slot), av ρ (dg S 0) = .int y → Own.pstep (.ifCond cd off) none pc Ls (avS ρ (d + 1) S) = some ([], none, bif ifCond.holds cd y then tg else pc + 3, Ls, avS ρ d (rsk 1 S)) := by
    intro y Ls e
    show Own.pG _ none pc Ls (av ρ (dg S 0) :: avS ρ d (rsk 1 S)) = _
    rw [e]
    exact pJ_none ho
  rcases brec_ok q with ⟨z, q1⟩ | ⟨z, q1⟩
  · have key : ∀ u, T o (dg S 0) 1180591620717411303424 = Nat.succ u → ∃ y, av ρ (dg S 0) = .int y ∧ (Value.int (if ifCond.holds cd y = true then 1 else 0)) = av ρ u := by
      intro u e
      have := hT _ _ _ _ e
      unfold sem at this
      rw [if_neg (by omega), if_neg (by omega), if_neg (by omega), if_neg (by omega), if_pos h2, hcd] at this
      split at this
      · rename_i x' ex
        exact ⟨x', ex, Option.some.inj this⟩
      · cases this
    rcases tabB_ok q1 hr with ⟨e, q2⟩ | ⟨e, q2⟩
    · obtain ⟨y, e1, e2⟩ := key _ e
      rw [av1] at e2
      exact ⟨_, Or.inl ⟨q2, by rw [step _ _ e1, one_t (Value.int.inj e2)]; rfl⟩⟩
    · obtain ⟨y, e1, e2⟩ := key _ e
      rw [av0] at e2
      exact ⟨_, Or.inr ⟨q2, by rw [step _ _ e1, zero_f (Value.int.inj e2)]; rfl⟩⟩
  · have e := av_int (ρ := ρ) (shr_lt (beq0 z))
    rcases brec_ok q1 with ⟨z, q2⟩ | ⟨z, q2⟩
    · exact ⟨_, Or.inr ⟨q2, by rw [step _ _ e, hz, z]; rfl⟩⟩
    · exact ⟨_, Or.inl ⟨q2, by rw [step _ _ e, hz, z]; rfl⟩⟩
theorem icmp_ok {cd : ClassFile.Cond} {off : Int} {o p tg d : Nat} {h : Nat → Nat → Bool} (hT : TOk ρ E T) (hcd : cdI (o - 48) = cd) (h1 : 48 ≤ o) (h2 : o < 54) (hz : COk cd h) (hE : E.1 M pc = some (.if_icmp cd off, none, [], .null)) (ho : 0 ≤ (pc : Int) + off ∧ ((pc : Int) + off).toNat = tg) (hn : pc + 3 = p) (ht : Sim ρ E M tg d t) (hc : Sim ρ E M p d c) : Sim ρ E M pc (d + 2) (b2 T o h t c) := by
  subst hn
  refine sim_b (i := .if_icmp cd off) hE rfl rfl ht hc fun L S A r q hr => ?_
  have q : brc (tabB T o (dg S 1) (dg S 0) (t L (rsk 2 S) A) (c L (rsk 2 S) A)) (brc (c L (rsk 2 S) A) (t L (rsk 2 S) A) (h (dg S 1) (dg S 0))) (Nat.beq (Nat.shiftRight (Nat.lor (dg S 1) (dg S 0)) 69) 0) = r := q
  have step : ∀ (y' x' : Int32) (Ls : List Slot), av ρ (dg S 0) = .int y' → av ρ (dg S 1) = .int x' → Own.pstep (.if_icmp cd off) none pc Ls (avS ρ (d + 2) S) = some ([], none, bif if_icmp.holds cd x' y' then tg else pc + 3, Ls, avS ρ d (rsk 2 S)) := by
    intro y' x' Ls e e'
    rw [avS2, e, e']
    exact pJ_none ho
  rcases brec_ok q with ⟨z, q1⟩ | ⟨z, q1⟩
  · have key : ∀ u, T o (dg S 1) (dg S 0) = Nat.succ u → ∃ x y, av ρ (dg S 0) = .int y ∧ av ρ (dg S 1) = .int x ∧ (Value.int (if if_icmp.holds cd x y = true then 1 else 0)) = av ρ u := by
      intro u e
      have := hT _ _ _ _ e
      unfold sem at this
      rw [if_neg (by omega), if_neg (by omega), if_neg (by omega), if_neg (by omega), if_neg (by omega), if_pos h2, hcd] at this
      split at this
      · rename_i x' y' ex ey
        exact ⟨x', y', ey, ex, Option.some.inj this⟩
      · cases this
    rcases tabB_ok q1 hr with ⟨e, q2⟩ | ⟨e, q2⟩
    · obtain ⟨x, y, e1, e2, e3⟩ := key _ e
      rw [av1] at e3
      exact ⟨_, Or.inl ⟨q2, by rw [step _ _ _ e1 e2, one_t (Value.int.inj e3)]; rfl⟩⟩
    · obtain ⟨x, y, e1, e2, e3⟩ := key _ e
      rw [av0] at e3
      exact ⟨_, Or.inr ⟨q2, by rw [step _ _ _ e1 e2, zero_f (Value.int.inj e3)]; rfl⟩⟩
  · obtain ⟨l1, l2⟩ := or69 (beq0 z)
    rcases brec_ok q1 with ⟨z, q2⟩ | ⟨z, q2⟩
    · exact ⟨_, Or.inr ⟨q2, by rw [step _ _ _ (av_int l2) (av_int l1), hz, z]; rfl⟩⟩
    · exact ⟨_, Or.inl ⟨q2, by rw [step _ _ _ (av_int l2) (av_int l1), hz, z]; rfl⟩⟩
theorem sgI (a : Nat) : ((sg a : Nat) : Int) = (Int32.ofNat a).toInt + 2147483648 := by
  rw [toInt_nat]
  show (((a + 2147483648) % 4294967296 : Nat) : Int) = _
  omega
theorem eqI {a b : Nat} : Int32.ofNat a = Int32.ofNat b ↔ a % 4294967296 = b % 4294967296 := by
  rw [← Int32.toInt_inj, toInt_nat, toInt_nat]
  omega
theorem decB {P : Prop} [Decidable P] {b : Bool} (h : P ↔ b = true) : decide P = b := by
  cases b
  · exact decide_eq_false fun p => by cases h.mp p
  · exact decide_eq_true (h.mpr rfl)
theorem beq_i {a b : Nat} : Nat.beq a b = true ↔ a = b := ⟨Nat.eq_of_beq_eq_true, fun e => by subst e; exact Nat.beq_refl a⟩
theorem blt_i {a b : Nat} : Nat.blt a b = true ↔ a < b := ⟨blt_lt, fun h => Nat.ble_eq_true_of_le h⟩
theorem not_i {P : Prop} {b : Bool} (h : P ↔ b = true) : ¬ P ↔ (not b) = true := by cases b <;> simp_all
theorem cEq_i (a b : Nat) : Int32.ofNat a = Int32.ofNat b ↔ cEq a b = true := eqI.trans beq_i.symm
theorem cLt_i (a b : Nat) : (Int32.ofNat a).toInt < (Int32.ofNat b).toInt ↔ cLt a b = true := by
  refine Iff.trans ?_ blt_i.symm
  have h1 := sgI a
  have h2 := sgI b
  omega
theorem cEq_ok : COk .eq cEq := fun a b => decB (cEq_i a b)
theorem cNe_ok : COk .ne cNe := fun a b => by
  have : if_icmp.holds .ne (Int32.ofNat a) (Int32.ofNat b) = !(if_icmp.holds .eq (Int32.ofNat a) (Int32.ofNat b)) := rfl
  rw [this, cEq_ok]; rfl
theorem cLt_ok : COk .lt cLt := fun a b => decB (by rw [Int32.lt_iff_toInt_lt]; exact cLt_i a b)
theorem cGe_ok : COk .ge cGe := fun a b => decB (by rw [ge_iff_le, Int32.le_iff_toInt_le, ← Int.not_lt]; exact not_i (cLt_i a b))
theorem cGt_ok : COk .gt cGt := fun a b => decB (by rw [gt_iff_lt, Int32.lt_iff_toInt_lt]; exact cLt_i b a)
theorem cLe_ok : COk .le cLe := fun a b => decB (by rw [Int32.le_iff_toInt_le, ← Int.not_lt]; exact not_i (cLt_i b a))
theorem zEq_i (a : Nat) : Int32.ofNat a = 0 ↔ zEq a = true := (cEq_i a 0).trans Iff.rfl
theorem zLt_i (a : Nat) : (Int32.ofNat a).toInt < 0 ↔ zLt a = true := by
  unfold zLt
  refine Iff.trans ?_ (⟨Nat.le_of_ble_eq_true, Nat.ble_eq_true_of_le⟩ : Nat.ble 2147483648 (Nat.mod a 4294967296) = true ↔ _).symm
  rw [toInt_nat]
  show _ ↔ 2147483648 ≤ a % 4294967296
  omega
theorem zGt_i (a : Nat) : 0 < (Int32.ofNat a).toInt ↔ zGt a = true := by
  refine Iff.trans ?_ blt_i.symm
  have h1 := sgI a
  omega
theorem zEq_ok : ZOk .eq zEq := fun a => decB (zEq_i a)
theorem zNe_ok : ZOk .ne zNe := fun a => by
  have : ifCond.holds .ne (Int32.ofNat a) = !(ifCond.holds .eq (Int32.ofNat a)) := rfl
  rw [this, zEq_ok]; rfl
theorem zLt_ok : ZOk .lt zLt := fun a => decB (by rw [Int32.lt_iff_toInt_lt]; exact zLt_i a)
theorem zGe_ok : ZOk .ge zGe := fun a => decB (by rw [ge_iff_le, Int32.le_iff_toInt_le, ← Int.not_lt]; exact not_i (zLt_i a))
theorem zGt_ok : ZOk .gt zGt := fun a => decB (by rw [gt_iff_lt, Int32.lt_iff_toInt_lt]; exact zGt_i a)
theorem zLe_ok : ZOk .le zLe := fun a => decB (by rw [Int32.le_iff_toInt_le, ← Int.not_lt]; exact not_i (zGt_i a))
theorem nul_av {v : Nat} (h : onq 1 v = true) : (Nat.beq (Nat.shiftRight v 69) 3 = false ∧ av ρ v = .null) ∨ (Nat.beq (Nat.shiftRight v 69) 3 = true ∧ ∃ a, av ρ v = .ref a) := by
  have h1 : Nat.shiftRight v 70 = 1 := beq0 h
  cases hb : Nat.beq (Nat.shiftRight v 69) 3 with
  | true =>
    have := beq0 hb
    exact Or.inr ⟨rfl, _, av_ref (by show Nat.xor (Nat.shiftRight v 69) 3 = 0; rw [this]; rfl)⟩
  | false =>
    have h2 : ¬ Nat.shiftRight v 69 = 3 := fun e => by rw [e] at hb; cases hb
    rw [shr_eq] at h1 h2
    have e : tg v = 2 := by unfold tg; omega
    exact Or.inl ⟨rfl, by unfold av; rw [e]; rfl⟩
theorem null_ok {off : Int} {p tg d : Nat} (hE : E.1 M pc = some (.ifnull off, none, [], .null)) (ho : 0 ≤ (pc : Int) + off ∧ ((pc : Int) + off).toNat = tg) (hn : pc + 3 = p) (ht : Sim ρ E M tg d t) (hc : Sim ρ E M p d c) : Sim ρ E M pc (d + 1) (nullF t c) := by
  subst hn
  refine sim_b (i := .ifnull off) hE rfl rfl ht hc fun L S A r q hr => ?_
  obtain ⟨z, q⟩ := brec_t (show brc .bad (brc (t L (rsk 1 S) A) (c L (rsk 1 S) A) (Nat.beq (Nat.shiftRight (dg S 0) 69) 3)) (onq 1 (dg S 0)) = r from q) hr
  rcases nul_av (ρ := ρ) z with ⟨z2, e⟩ | ⟨z2, a, e⟩
  · rw [z2] at q
    refine ⟨rsk 1 S, Or.inl ⟨q, ?_⟩⟩
    rw [avS1, e]
    show Own.jmp [] none pc _ _ off = _
    unfold Own.jmp
    rw [if_pos ho.1, ho.2]
  · rw [z2] at q
    refine ⟨rsk 1 S, Or.inr ⟨q, ?_⟩⟩
    rw [avS1, e]; rfl
theorem nonnull_ok {off : Int} {p tg d : Nat} (hE : E.1 M pc = some (.ifnonnull off, none, [], .null)) (ho : 0 ≤ (pc : Int) + off ∧ ((pc : Int) + off).toNat = tg) (hn : pc + 3 = p) (ht : Sim ρ E M tg d t) (hc : Sim ρ E M p d c) : Sim ρ E M pc (d + 1) (nullF c t) := by
  subst hn
  refine sim_b (i := .ifnonnull off) hE rfl rfl ht hc fun L S A r q hr => ?_
  obtain ⟨z, q⟩ := brec_t (show brc .bad (brc (c L (rsk 1 S) A) (t L (rsk 1 S) A) (Nat.beq (Nat.shiftRight (dg S 0) 69) 3)) (onq 1 (dg S 0)) = r from q) hr
  rcases nul_av (ρ := ρ) z with ⟨z2, e⟩ | ⟨z2, a, e⟩
  · rw [z2] at q
    refine ⟨rsk 1 S, Or.inr ⟨q, ?_⟩⟩
    rw [avS1, e]; rfl
  · rw [z2] at q
    refine ⟨rsk 1 S, Or.inl ⟨q, ?_⟩⟩
    rw [avS1, e]
    show Own.jmp [] none pc _ _ off = _
    unfold Own.jmp
    rw [if_pos ho.1, ho.2]
end Sim
section Sim
variable {ρ : Rho} {E : Own.EV} {T : Tab} {M pc : Nat} {c t : Cont}
/-! the heap -/
theorem sim_h {i : Instr} {nums : List Nat} {val : Value} {c' : Cont} {p d d1 : Nat} (hE : E.1 M pc = some (i, none, nums, val)) (hs : Own.sort i nums = 2) (hp : Own.isPure i = false) (hc : Sim ρ E M p d1 c)
    (h : ∀ L S A r, c' L S A = r → r ≠ .bad → ∃ S1 A1, c L S1 A1 = r ∧ Own.hstep E.2.2.2.2.2.2 E.2.2.2.1 E.2.2.2.2.1 E.2.2.2.2.2.1 i nums val none pc (avL ρ (E.2.1 M) L) (avS ρ d S) (avA ρ A) = some ([], none, p, avL ρ (E.2.1 M) L, avS ρ d1 S1, avA ρ A1, 0, 0, 0, 0)) : Sim ρ E M pc d c' := by
  refine sim_step hE hs fun L S A v A' k n f w hq => ?_
  obtain ⟨S1, A1, h1, h2⟩ := h L S A _ hq bad_ne
  exact ⟨_, d1, c, L, S1, A1, 0, 0, 0, 0, k, n, f, w, hc, by simp only [Own.step, hp, h2], h1, by omega, by omega, by omega, by omega⟩
theorem sim_k {i : Instr} {nums : List Nat} {val : Value} {c' : Cont} {p d d1 : Nat} (hE : E.1 M pc = some (i, none, nums, val)) (hs : Own.sort i nums = 2) (hp : Own.isPure i = false) (hc : Sim ρ E M p d1 c)
    (h : ∀ L S A r, c' L S A = r → r ≠ .bad → ∃ S1 A1 k1 n1 f1 w1, addC k1 n1 f1 w1 (c L S1 A1) = r ∧ Own.hstep E.2.2.2.2.2.2 E.2.2.2.1 E.2.2.2.2.1 E.2.2.2.2.2.1 i nums val none pc (avL ρ (E.2.1 M) L) (avS ρ d S) (avA ρ A) = some ([], none, p, avL ρ (E.2.1 M) L, avS ρ d1 S1, avA ρ A1, k1, n1, f1, w1)) : Sim ρ E M pc d c' := by
  refine sim_step hE hs fun L S A v A' k n f w hq => ?_
  obtain ⟨S1, A1, k1, n1, f1, w1, h1, h2⟩ := h L S A _ hq bad_ne
  obtain ⟨k2, n2, f2, w2, h3, h4⟩ := addC_ok h1
  exact ⟨_, d1, c, L, S1, A1, k1, n1, f1, w1, k2, n2, f2, w2, hc, by simp only [Own.step, hp, h2], h3, h4⟩
theorem ldc_int_ok {ix p n v d : Nat} {z : Int32} (hz : z = Int32.ofNat n) (hv : n = v) (hb : n < 2 ^ 69) (hE : E.1 M pc = some (.ldc ix, none, [], .int z)) (hn : pc + 2 = p) (hc : Sim ρ E M p (d + 1) c) : Sim ρ E M pc d (cstF v c) := by
  subst hn hz hv
  refine sim_h (i := .ldc ix) hE rfl rfl hc fun L S A r q hr => ⟨_, A, (nf_eq _ _).symm.trans q, ?_⟩
  rw [avS_psh (by omega), av_int hb]
  rfl
theorem ldc_w_int_ok {ix p n v d : Nat} {z : Int32} (hz : z = Int32.ofNat n) (hv : n = v) (hb : n < 2 ^ 69) (hE : E.1 M pc = some (.ldc_w ix, none, [], .int z)) (hn : pc + 3 = p) (hc : Sim ρ E M p (d + 1) c) : Sim ρ E M pc d (cstF v c) := by
  subst hn hz hv
  refine sim_h (i := .ldc_w ix) hE rfl rfl hc fun L S A r q hr => ⟨_, A, (nf_eq _ _).symm.trans q, ?_⟩
  rw [avS_psh (by omega), av_int hb]
  rfl
theorem ldc2_w_long_ok {ix p n v d : Nat} {z : Int64} (hz : z = Int64.ofNat n) (hv : Nat.add 4722366482869645213696 n = v) (hb : n < 2 ^ 69) (hE : E.1 M pc = some (.ldc2_w ix, none, [], .long z)) (hn : pc + 3 = p) (hc : Sim ρ E M p (d + 1) c) : Sim ρ E M pc d (cstF v c) := by
  subst hn hz hv
  refine sim_h (i := .ldc2_w ix) hE rfl rfl hc fun L S A r q hr => ⟨_, A, (nf_eq _ _).symm.trans q, ?_⟩
  rw [avS_psh (by show 4722366482869645213696 + n < 2 ^ 80; omega), av_long hb]
  rfl
theorem ldc2_w_double_ok {ix p n v d : Nat} {z : UInt64} (hz : z = UInt64.ofNat n) (hv : Nat.add 5902958103587056517120 n = v) (hb : n < 2 ^ 69) (hE : E.1 M pc = some (.ldc2_w ix, none, [], .double z)) (hn : pc + 3 = p) (hc : Sim ρ E M p (d + 1) c) : Sim ρ E M pc d (cstF v c) := by
  subst hn hz hv
  refine sim_h (i := .ldc2_w ix) hE rfl rfl hc fun L S A r q hr => ⟨_, A, (nf_eq _ _).symm.trans q, ?_⟩
  rw [avS_psh (by show 5902958103587056517120 + n < 2 ^ 80; omega), av_double hb]
  rfl
theorem sim_hb {i : Instr} {nums : List Nat} {val : Value} {c' : Cont} {p tg d d1 : Nat} (hE : E.1 M pc = some (i, none, nums, val)) (hs : Own.sort i nums = 2) (hp : Own.isPure i = false) (ht : Sim ρ E M tg d1 t) (hc : Sim ρ E M p d1 c)
    (h : ∀ L S A r, c' L S A = r → r ≠ .bad → ∃ S1, (t L S1 A = r ∧ Own.hstep E.2.2.2.2.2.2 E.2.2.2.1 E.2.2.2.2.1 E.2.2.2.2.2.1 i nums val none pc (avL ρ (E.2.1 M) L) (avS ρ d S) (avA ρ A) = some ([], none, tg, avL ρ (E.2.1 M) L, avS ρ d1 S1, avA ρ A, 0, 0, 0, 0)) ∨ (c L S1 A = r ∧ Own.hstep E.2.2.2.2.2.2 E.2.2.2.1 E.2.2.2.2.1 E.2.2.2.2.2.1 i nums val none pc (avL ρ (E.2.1 M) L) (avS ρ d S) (avA ρ A) = some ([], none, p, avL ρ (E.2.1 M) L, avS ρ d1 S1, avA ρ A, 0, 0, 0, 0))) : Sim ρ E M pc d c' := by
  refine sim_step hE hs fun L S A v A' k n f w hq => ?_
  obtain ⟨S1, ⟨h1, h2⟩ | ⟨h1, h2⟩⟩ := h L S A _ hq bad_ne
  · exact ⟨_, d1, t, L, S1, A, 0, 0, 0, 0, k, n, f, w, ht, by simp only [Own.step, hp, h2], h1, by omega, by omega, by omega, by omega⟩
  · exact ⟨_, d1, c, L, S1, A, 0, 0, 0, 0, k, n, f, w, hc, by simp only [Own.step, hp, h2], h1, by omega, by omega, by omega, by omega⟩
theorem ref_inj {v u : Nat} (hv : isR v = 0) (hu : isR u = 0) : av ρ v = av ρ u ↔ v = u := by
  constructor
  · intro h
    rw [av_ref hv, av_ref hu] at h
    have h : v - 1770887431076116955136 = u - 1770887431076116955136 := Value.ref.inj h
    have hv := xor0 hv
    have hu := xor0 hu
    rw [shr_eq] at hv hu
    omega
  · intro h; rw [h]
theorem acmp_st {cd : ACond} {off : Int} {tg : Nat} {x y : Nat} {r : List Value} {Ls : List Slot} {A : Own.AH} (hx : isR x = 0) (hy : isR y = 0) (ho : 0 ≤ (pc : Int) + off ∧ ((pc : Int) + off).toNat = tg) : Own.hstep E.2.2.2.2.2.2 E.2.2.2.1 E.2.2.2.2.1 E.2.2.2.2.2.1 (.if_acmp cd off) [] .null none pc Ls (av ρ y :: av ρ x :: r) A = some ([], none, bif XT.acmp cd (av ρ x) (av ρ y) then tg else pc + 3, Ls, r, A, 0, 0, 0, 0) := by
  unfold Own.hstep
  simp only []
  rw [if_pos ⟨by rw [av_ref hx]; rfl, by rw [av_ref hy]; rfl⟩]
  cases XT.acmp cd (av ρ x) (av ρ y)
  · rfl
  · rw [if_pos rfl, if_pos ho.1, ho.2]; rfl
theorem aeq_ok {off : Int} {p tg d : Nat} (hE : E.1 M pc = some (.if_acmp .eq off, none, [], .null)) (ho : 0 ≤ (pc : Int) + off ∧ ((pc : Int) + off).toNat = tg) (hn : pc + 3 = p) (ht : Sim ρ E M tg d t) (hc : Sim ρ E M p d c) : Sim ρ E M pc (d + 2) (acmpF t c) := by
  subst hn
  refine sim_hb (i := .if_acmp .eq off) hE rfl rfl ht hc fun L S A r q hr => ?_
  obtain ⟨z, q⟩ := brec_t (show brc .bad (brc (c L (rsk 2 S) A) (t L (rsk 2 S) A) (Nat.beq (dg S 1) (dg S 0))) (Nat.beq (Nat.add (isR (dg S 0)) (isR (dg S 1))) 0) = r from q) hr
  obtain ⟨z0, z1⟩ := add0 (beq0 z)
  rw [avS2]
  rcases brec_ok q with ⟨z2, q⟩ | ⟨z2, q⟩
  · refine ⟨_, Or.inr ⟨q, ?_⟩⟩
    have e : XT.acmp .eq (av ρ (dg S 1)) (av ρ (dg S 0)) = false := decide_eq_false fun e => by
      rw [(ref_inj z1 z0).mp e, Nat.beq_refl] at z2; cases z2
    rw [acmp_st z1 z0 ho, e]; rfl
  · refine ⟨_, Or.inl ⟨q, ?_⟩⟩
    have e : XT.acmp .eq (av ρ (dg S 1)) (av ρ (dg S 0)) = true := decide_eq_true ((ref_inj z1 z0).mpr (beq0 z2))
    rw [acmp_st z1 z0 ho, e]; rfl
theorem ane_ok {off : Int} {p tg d : Nat} (hE : E.1 M pc = some (.if_acmp .ne off, none, [], .null)) (ho : 0 ≤ (pc : Int) + off ∧ ((pc : Int) + off).toNat = tg) (hn : pc + 3 = p) (ht : Sim ρ E M tg d t) (hc : Sim ρ E M p d c) : Sim ρ E M pc (d + 2) (acmpF c t) := by
  subst hn
  refine sim_hb (i := .if_acmp .ne off) hE rfl rfl ht hc fun L S A r q hr => ?_
  obtain ⟨z, q⟩ := brec_t (show brc .bad (brc (t L (rsk 2 S) A) (c L (rsk 2 S) A) (Nat.beq (dg S 1) (dg S 0))) (Nat.beq (Nat.add (isR (dg S 0)) (isR (dg S 1))) 0) = r from q) hr
  obtain ⟨z0, z1⟩ := add0 (beq0 z)
  rw [avS2]
  rcases brec_ok q with ⟨z2, q⟩ | ⟨z2, q⟩
  · refine ⟨_, Or.inl ⟨q, ?_⟩⟩
    have e : XT.acmp .ne (av ρ (dg S 1)) (av ρ (dg S 0)) = true := decide_eq_true fun e => by
      rw [(ref_inj z1 z0).mp e, Nat.beq_refl] at z2; cases z2
    rw [acmp_st z1 z0 ho, e]; rfl
  · refine ⟨_, Or.inr ⟨q, ?_⟩⟩
    have e : XT.acmp .ne (av ρ (dg S 1)) (av ρ (dg S 0)) = false := decide_eq_false fun h => h ((ref_inj z1 z0).mpr (beq0 z2))
    rw [acmp_st z1 z0 ho, e]; rfl
theorem stat_ok {ix p v d : Nat} {z : Value} (hz : z = av ρ v) (hb : v < 2 ^ 80) (hE : E.1 M pc = some (.getstatic ix, none, [], z)) (hn : pc + 3 = p) (hc : Sim ρ E M p (d + 1) c) : Sim ρ E M pc d (cstF v c) := by
  subst hn hz
  refine sim_h (i := .getstatic ix) hE rfl rfl hc fun L S A r q hr => ⟨_, A, (nf_eq _ _).symm.trans q, ?_⟩
  rw [avS_psh hb]
  rfl
theorem idx_ok {y : Nat} {k : Nat → Res} {r : Res} (hT : TOk ρ E T) (h : idx T y k = r) (hr : r ≠ .bad) : ∃ n, n < 2147483648 ∧ av ρ y = .int (Int32.ofNat n) ∧ k n = r := by
  rcases brec_ok h with ⟨z, h⟩ | ⟨z, h⟩
  · obtain ⟨v, h1, h2, h3⟩ := tabC_ok h hr
    obtain ⟨z2, h4⟩ := brec_t h3 hr
    have := hT _ _ _ _ h1
    unfold sem at this
    simp only [Nat.reduceLT, if_false, if_true] at this
    have z2 := blt_lt z2
    exact ⟨v, z2, by rw [Option.some.inj this, av_int (lt31 z2)], h4⟩
  · have z := blt_lt z
    exact ⟨y, z, av_int (lt31 z), h⟩
theorem notNeg {n : Nat} (h : n < 2147483648) : ¬ Int32.ofNat n < 0 := by
  rw [Int32.lt_iff_toInt_lt, small n h]
  show ¬ (n : Int) < 0
  omega
theorem arT_le {kd : Nat} (h : kd ≤ 4) : (Own.arT kd).isSome = true := by
  have : kd = 0 ∨ kd = 1 ∨ kd = 2 ∨ kd = 3 ∨ kd = 4 := by omega
  rcases this with rfl | rfl | rfl | rfl | rfl <;> rfl
theorem alF_ok {i : Instr} {kd p d : Nat} (hT : TOk ρ E T) (hk : Own.alK i kd = true) (hp : ∀ L S A, Own.hstep E.2.2.2.2.2.2 E.2.2.2.1 E.2.2.2.2.1 E.2.2.2.2.2.1 i [] .null none pc L S A = Own.hAl i none pc L S A) (hs : Own.sort i [] = 2) (hu : Own.isPure i = false)
    (hE : E.1 M pc = some (i, none, [], .null)) (hn : pc + 1 = p) (hc : Sim ρ E M p (d + 1) c) : Sim ρ E M pc (d + 2) (alF T kd c) := by
  subst hn
  refine sim_h hE hs hu hc fun L S A r q hr => ?_
  obtain ⟨n, n1, n2, q⟩ := idx_ok hT q hr
  obtain ⟨z, q⟩ := brec_t q hr
  have q : c L (psh (rsk 2 S) (dg A (hx (rf (dg S 1)) n))) A = r := q
  obtain ⟨z1, z2⟩ := add0 (beq0 z)
  obtain ⟨z2, z3⟩ := add0 z2
  refine ⟨_, A, q, ?_⟩
  rw [hp, avS2, avS_psh dg_lt, n2, av_ref z1]
  have l1 : n < lnO A (rf (dg S 1)) := sub0 z3
  unfold Own.hAl
  simp only [isO_get z2, hk, if_true]
  have nd : Own.need none (¬ Int32.ofNat n < 0) = some [] := if_pos (notNeg n1)
  rw [clamp n n1, avW_get l1, nd]
theorem asF_ok {i : Instr} {kd p k0 q0 d : Nat} (hT : TOk ρ E T) (hk : ∀ v, onq q0 v = true → Own.asV i kd (av ρ v) = some (av ρ v)) (h0 : E.2.2.2.2.2.2 = k0) (hp : ∀ L S A, Own.hstep E.2.2.2.2.2.2 E.2.2.2.1 E.2.2.2.2.1 E.2.2.2.2.2.1 i [] .null none pc L S A = Own.hAs E.2.2.2.2.2.2 i none pc L S A) (hs : Own.sort i [] = 2) (hu : Own.isPure i = false)
    (hE : E.1 M pc = some (i, none, [], .null)) (hn : pc + 1 = p) (hc : Sim ρ E M p d c) : Sim ρ E M pc (d + 3) (asF T k0 kd q0 c) := by
  subst hn h0
  refine sim_h hE hs hu hc fun L S A r q hr => ?_
  obtain ⟨n, n1, n2, q⟩ := idx_ok hT q hr
  obtain ⟨z, q⟩ := brec_t q hr
  have q : c L (rsk 3 S) (setD A (hx (rf (dg S 2)) n) (dg S 0)) = r := q
  obtain ⟨z1, z2⟩ := add0 (beq0 z)
  obtain ⟨z2, z3⟩ := add0 z2
  obtain ⟨z3, z4⟩ := add0 z3
  obtain ⟨z4, z5⟩ := add0 z4
  have u1 := hk (dg S 0) (by show Nat.beq (Nat.shiftRight (dg S 0) 70) q0 = true; rw [xor0 z1]; exact Nat.beq_refl q0)
  have l1 : n < lnO A (rf (dg S 2)) := sub0 z5
  obtain ⟨l2, l3⟩ := isO_A z4
  refine ⟨_, _, q, ?_⟩
  rw [hp, avS3, n2, av_ref z3]
  unfold Own.hAs
  simp only [isO_get z4, u1, clamp n n1, avW_len]
  rw [if_pos ⟨sub0 z2, l1⟩]
  simp only [Own.need, if_pos (notNeg n1), Own.forceL_eq]
  rw [avA_set dg_lt (by omega), l3]
theorem iastore_on : ∀ v, onq 0 v = true → Own.asV .iastore 0 (av ρ v) = some (av ρ v) := fun v h => by obtain ⟨⟨x, e⟩, -⟩ := onI_ok (ρ := ρ) h; rw [e]; rfl
theorem lastore_on : ∀ v, onq 4 v = true → Own.asV .lastore 1 (av ρ v) = some (av ρ v) := fun v h => by obtain ⟨⟨x, e⟩, -⟩ := onJ_ok (ρ := ρ) h; rw [e]; rfl
theorem dastore_on : ∀ v, onq 5 v = true → Own.asV .dastore 2 (av ρ v) = some (av ρ v) := fun v h => by obtain ⟨⟨x, e⟩, -⟩ := onD_ok (ρ := ρ) h; rw [e]; rfl
theorem alenF_ok {p d : Nat} (hE : E.1 M pc = some (.arraylength, none, [], .null)) (hn : pc + 1 = p) (hc : Sim ρ E M p (d + 1) c) : Sim ρ E M pc (d + 1) (alenF c) := by
  subst hn
  refine sim_h (i := .arraylength) hE rfl rfl hc fun L S A r q hr => ?_
  obtain ⟨z, q⟩ := brec_t q hr
  have q : c L (psh (rsk 1 S) (lnO A (rf (dg S 0)))) A = r := q
  obtain ⟨z1, z2⟩ := add0 (beq0 z)
  obtain ⟨z2, z3⟩ := add0 z2
  obtain ⟨z3, z4⟩ := add0 z3
  have z4 : lnO A (rf (dg S 0)) < 2147483648 := shr_lt z4
  refine ⟨_, A, q, ?_⟩
  rw [avS_psh (by omega), avS1, av_ref z1, av_int (lt31 z4)]
  unfold Own.hstep
  simp only [avA_get (isA_lt z2), avO, arT_le (sub0 z3), if_true, avW_len]
  try rfl
theorem getF_ok {ix kd j p d : Nat} (hE : E.1 M pc = some (.getfield ix, none, [kd, j], .null)) (hn : pc + 3 = p) (hc : Sim ρ E M p (d + 1) c) : Sim ρ E M pc (d + 1) (getF kd j c) := by
  subst hn
  refine sim_h (i := .getfield ix) hE rfl rfl hc fun L S A r q hr => ?_
  obtain ⟨z, q⟩ := brec_t q hr
  have q : c L (psh (rsk 1 S) (dg A (hx (rf (dg S 0)) j))) A = r := q
  obtain ⟨z1, z2⟩ := add0 (beq0 z)
  obtain ⟨z2, z3⟩ := add0 z2
  refine ⟨_, A, q, ?_⟩
  rw [avS_psh dg_lt, avS1, av_ref z1]
  unfold Own.hstep
  simp only [isO_get z2, if_true, avW_get (show j < _ from sub0 z3)]
theorem putF_ok {ix kd j t p k0 d : Nat} {fit : Nat → Bool} (hk : ∀ v, fit v = true → Own.fitT none t (av ρ v) = some []) (h0 : E.2.2.2.2.2.2 = k0) (hE : E.1 M pc = some (.putfield ix, none, [kd, j, t], .null)) (hn : pc + 3 = p) (hc : Sim ρ E M p d c) : Sim ρ E M pc (d + 2) (putF k0 kd j fit c) := by
  subst hn h0
  refine sim_h (i := .putfield ix) hE rfl rfl hc fun L S A r q hr => ?_
  obtain ⟨u, q⟩ := brec_t q hr
  obtain ⟨z, q⟩ := brec_t q hr
  have q : c L (rsk 2 S) (setD A (hx (rf (dg S 1)) j) (dg S 0)) = r := q
  obtain ⟨z1, z2⟩ := add0 (beq0 z)
  obtain ⟨z2, z3⟩ := add0 z2
  obtain ⟨z3, z4⟩ := add0 z3
  have u1 := hk _ u
  obtain ⟨l2, l3⟩ := isO_A z3
  refine ⟨_, _, q, ?_⟩
  rw [avS2, av_ref z2]
  unfold Own.hstep
  simp only [isO_get z3]
  rw [if_pos ⟨trivial, sub0 z1⟩]
  simp only [u1, Own.forceL_eq]
  rw [avA_set dg_lt (by omega), l3]
theorem fitI : ∀ v, onq 0 v = true → Own.fitT none 0 (av ρ v) = some [] := fun v h => by obtain ⟨⟨x, e⟩, -⟩ := onI_ok (ρ := ρ) h; rw [e]; rfl
theorem fitJ : ∀ v, onq 4 v = true → Own.fitT none 1 (av ρ v) = some [] := fun v h => by obtain ⟨⟨x, e⟩, -⟩ := onJ_ok (ρ := ρ) h; rw [e]; rfl
theorem fitD : ∀ v, onq 5 v = true → Own.fitT none 2 (av ρ v) = some [] := fun v h => by obtain ⟨⟨x, e⟩, -⟩ := onD_ok (ρ := ρ) h; rw [e]; rfl
theorem fitA : ∀ v, onq 1 v = true → Own.fitT none 3 (av ρ v) = some [] := fun v h => by
  obtain ⟨e, -⟩ := onA_ok (ρ := ρ) h
  rcases e with ⟨x, e⟩ | e <;> (rw [e]; rfl)
theorem fit01 : ∀ v, fitB v = true → Own.fitT none 4 (av ρ v) = some [] := fun v h => by
  rcases fitB_ok h with rfl | rfl
  · rw [av0]
    exact (if_pos (by decide) : (if ((0 : Int32) = 0 ∨ (0 : Int32) = 1) then some ([] : List Prop) else none) = some [])
  · rw [av1]
    exact (if_pos (by decide) : (if ((1 : Int32) = 0 ∨ (1 : Int32) = 1) then some ([] : List Prop) else none) = some [])
theorem mk_lt {A : Nat} (h : Nat.shiftRight (dg A 1) 6 = 0) : Nat.add 1770887431076116955136 (dg A 1) < 2 ^ 80 ∧ dg A 1 < 2 ^ 69 := by
  have h : dg A 1 < 2 ^ 6 := shr_lt h
  show 1770887431076116955136 + dg A 1 < 2 ^ 80 ∧ _
  omega
theorem newF_ok {ix kd sz p n d : Nat} {vs : List Nat} (hv : E.2.2.2.1 kd = (vs.map (av ρ), sz)) (hl : vs.length = n) (hb : ∀ v ∈ vs, v < 2 ^ 80) (hk : Nat.succ kd < 2 ^ 80 ∧ n < 2 ^ 80) (hE : E.1 M pc = some (.new ix, none, [kd], .null)) (hn : pc + 3 = p) (hc : Sim ρ E M p (d + 1) c) : Sim ρ E M pc d (newF kd sz n vs c) := by
  subst hn
  refine sim_k (i := .new ix) hE rfl rfl hc fun L S A r q hr => ?_
  obtain ⟨z, q⟩ := brec_t q hr
  have q : addC 1 sz 0 0 (c L (psh S (Nat.add 1770887431076116955136 (dg A 1))) (flds (dg A 1) vs 0 (mkO A kd n))) = r := q
  have z := beq0 z
  obtain ⟨e1, e2, -⟩ := mkO_avA (ρ := ρ) z hk.1 hk.2 (flds_Wr vs 0 (mkO A kd n) hb)
  refine ⟨_, _, _, _, _, _, q, ?_⟩
  rw [avS_psh (mk_lt z).1, av_mk (mk_lt z).2, e1, avW_flds hb hl]
  unfold Own.hstep
  simp only [hv, Own.forceL_eq, Own.forceN_eq, e2]
theorem newaF_ok {t : ArrayType} {kd p v d : Nat} (hT : TOk ρ E T) (hk : Own.naK t kd = true) (hv : Own.dvK kd = av ρ v) (hk2 : Nat.succ kd < 2 ^ 80) (hb : v < 2 ^ 80) (hE : E.1 M pc = some (.newarray t, none, [kd], .null)) (hn : pc + 2 = p) (hc : Sim ρ E M p (d + 1) c) : Sim ρ E M pc (d + 1) (newaF T kd v c) := by
  subst hn
  refine sim_k (i := .newarray t) hE rfl rfl hc fun L S A r q hr => ?_
  obtain ⟨n, n1, n2, q⟩ := idx_ok hT q hr
  obtain ⟨z, q⟩ := brec_t q hr
  have q : addC 1 n 0 0 (c L (psh (rsk 1 S) (Nat.add 1770887431076116955136 (dg A 1))) (fillC v (dg A 1) n (mkO A kd n))) = r := q
  obtain ⟨z1, z⟩ := add0 (beq0 z)
  obtain ⟨e1, e2, -⟩ := mkO_avA (ρ := ρ) z hk2 (show n < 2 ^ 80 by omega) (fill_Wr hb n)
  refine ⟨_, _, _, _, _, _, q, ?_⟩
  rw [avS_psh (mk_lt z).1, av_mk (mk_lt z).2, e1, avW_fill hb, avS1, n2]
  unfold Own.hstep
  simp only [hk, if_true, Own.need, clamp n n1]
  rw [if_pos ⟨notNeg n1, sub0 z1⟩]
  simp only [Own.forceL_eq, Own.forceN_eq, e2, hv]
theorem cloneF_ok {ix kd p d : Nat} (hk2 : Nat.succ kd < 2 ^ 80) (hE : E.1 M pc = some (.invokevirtual ix, none, [0, kd], .null)) (hn : pc + 3 = p) (hc : Sim ρ E M p (d + 1) c) : Sim ρ E M pc (d + 1) (cloneF kd d c) := by
  subst hn
  refine sim_k (i := .invokevirtual ix) hE rfl rfl hc fun L S A r q hr => ?_
  obtain ⟨z, q⟩ := brec_t q hr
  rw [nf_eq, nf_eq] at q
  obtain ⟨z1, z2⟩ := add0 (beq0 z)
  obtain ⟨z2, z⟩ := add0 z2
  obtain ⟨e1, e2, -⟩ := mkO_avA (ρ := ρ) z hk2 (n := lnO A (rf (dg S 0))) dg_lt (cp_Wr (A0 := A) (a := rf (dg S 0)) (p := 0) (d := 0) (lnO A (rf (dg S 0))))
  refine ⟨_, _, _, _, _, _, q, ?_⟩
  rw [avS_psh (mk_lt z).1, av_mk (mk_lt z).2, e1, avW_clone, avS1, av_ref z1]
  unfold Own.hstep
  simp only [isO_get z2, if_true]
  rw [Own.forceL_eq, Own.forceN_eq, e2, avW_len, xc_eq]
  try rfl
theorem castF_ok {ix p d : Nat} {ks : List Nat} {kf : Nat → Bool} (hk : ∀ k, kf k = true → ks.contains k = true) (hE : E.1 M pc = some (.checkcast ix, none, ks, .null)) (hn : pc + 3 = p) (hc : Sim ρ E M p (d + 1) c) : Sim ρ E M pc (d + 1) (castF kf c) := by
  subst hn
  refine sim_h (i := .checkcast ix) hE rfl rfl hc fun L S A r q hr => ?_
  obtain ⟨z, q⟩ := brec_t q hr
  obtain ⟨z0, q⟩ := brec_t q hr
  obtain ⟨z1, z2⟩ := add0 (beq0 z)
  refine ⟨_, A, q, ?_⟩
  rw [avS1, av_ref z1]
  unfold Own.hstep
  simp only [avA_get (isA_lt z2), avO, hk _ z0, if_true]
theorem oinitF_ok {ix p d : Nat} (hE : E.1 M pc = some (.invokespecial ix, none, [0], .null)) (hn : pc + 3 = p) (hc : Sim ρ E M p d c) : Sim ρ E M pc (d + 1) (oinitF d c) := by
  subst hn
  refine sim_k (i := .invokespecial ix) hE rfl rfl hc fun L S A r q hr => ?_
  obtain ⟨z, q⟩ := brec_t q hr
  have q : addC 0 0 1 (Nat.add (xc d (rsk 1 S)) 12) (c L (rsk 1 S) A) = r := q
  refine ⟨_, _, _, _, _, _, q, ?_⟩
  rw [avS1, av_ref (beq0 z)]
  show some (([] : List Prop), (none : Own.Orc), pc + 3, avL ρ (E.2.1 M) L, avS ρ d (rsk 1 S), avA ρ A, 0, 0, 1, Own.csum (avS ρ d (rsk 1 S)) + 12) = _
  rw [xc_eq]
  try rfl
theorem ext1F_ok {ix x f w p o d : Nat} (hT : TOk ρ E T) (ho : o = 100 + x) (hw : E.2.2.2.2.2.1 x = (f, w)) (hE : E.1 M pc = some (.invokestatic ix, none, [0, x, 1], .null)) (hn : pc + 3 = p) (hc : Sim ρ E M p (d + 1) c) : Sim ρ E M pc (d + 1) (ext1F T o f w d c) := by
  subst hn ho
  refine sim_k (i := .invokestatic ix) hE rfl rfl hc fun L S A r q hr => ?_
  obtain ⟨v, v1, v2, q⟩ := tabC_ok q hr
  have q : addC 0 0 f (Nat.add (xc d (rsk 1 S)) w) (c L (psh (rsk 1 S) v) A) = r := q
  refine ⟨_, _, _, _, _, _, q, ?_⟩
  have := hT _ _ _ _ v1
  unfold sem at this
  rw [if_neg (by omega), if_neg (by omega), if_neg (by omega), if_neg (by omega), if_neg (by omega), if_neg (by omega), if_neg (by omega), if_pos (by omega), show 100 + x - 100 = x by omega] at this
  rw [avS_psh v2, avS1]
  unfold Own.hstep
  simp only [List.length_cons, Nat.le_add_left, if_true, List.take_succ_cons, List.take_zero, List.reverse_cons, List.reverse_nil, List.nil_append, List.drop_succ_cons, List.drop_zero]
  split at this
  · rename_i v' hx
    cases this
    simp only [hx, Own.need, if_true, hw, xc_eq]
    try rfl
  · cases this
theorem acpF_ok {ix p k0 d : Nat} (hT : TOk ρ E T) (h0 : E.2.2.2.2.2.2 = k0) (hE : E.1 M pc = some (.invokestatic ix, none, [2], .null)) (hn : pc + 3 = p) (hc : Sim ρ E M p d c) : Sim ρ E M pc (d + 5) (acpF T k0 d c) := by
  subst hn h0
  refine sim_k (i := .invokestatic ix) hE rfl rfl hc fun L S A r q hr => ?_
  obtain ⟨n, n1, n2, q⟩ := idx_ok hT q hr
  obtain ⟨dp, d1, d2, q⟩ := idx_ok hT q hr
  obtain ⟨sp, s1, s2, q⟩ := idx_ok hT q hr
  obtain ⟨z, q⟩ := brec_t q hr
  have q : addC 0 0 1 (Nat.add (xc d (rsk 5 S)) 18) (c L (rsk 5 S) (cpC A (rf (dg S 4)) sp (rf (dg S 2)) dp n A)) = r := q
  obtain ⟨z1, z2⟩ := add0 (beq0 z)
  obtain ⟨r1, r2⟩ := add0 z1
  obtain ⟨z3, z4⟩ := add0 z2
  obtain ⟨o1, o2⟩ := add0 z3
  obtain ⟨z5, z6⟩ := add0 z4
  obtain ⟨k1, k2⟩ := add0 z5
  obtain ⟨m1, m2⟩ := add0 z6
  have m1 : dp + n ≤ lnO A (rf (dg S 2)) := sub0 m1
  have m2 : sp + n ≤ lnO A (rf (dg S 4)) := sub0 m2
  obtain ⟨l2, l3⟩ := isO_A o2
  refine ⟨_, _, _, _, _, _, q, ?_⟩
  rw [avS5, n2, d2, s2, av_ref r1, av_ref r2, (cp_Wr n).avA (by omega), avW_cp m1 m2, l3]
  have hp : ∀ k0 kd ext exw L S A, Own.hstep k0 kd ext exw (.invokestatic ix) [2] .null none pc L S A = Own.hCp k0 none pc L S A := fun _ _ _ _ _ _ _ => rfl
  rw [hp]
  unfold Own.hCp
  simp only [avA_get (isA_lt o1), isO_get o2, avO, clamp n n1, clamp dp d1, clamp sp s1, avW_len]
  rw [if_pos ⟨trivial, sub0 k1, sub0 k2⟩]
  simp only [Own.need, Own.forceL_eq]
  rw [if_pos ⟨notNeg s1, notNeg d1, notNeg n1, m2, m1⟩]
  simp only [xc_eq]
  try rfl
/-! returns and calls -/
theorem sim_r {i : Instr} {c' : Cont} {d : Nat} (hE : E.1 M pc = some (i, none, [], .null)) (hs : Own.sort i [] = 0) (h : ∀ L S A r, c' L S A = r → r ≠ .bad → ∃ v, r = .ok v A 0 0 0 0 ∧ v.isSome = (E.2.2.1 M).isSome ∧ Own.retV i (E.2.2.1 M) (avS ρ d S) = some (v.map (av ρ))) : Sim ρ E M pc d c' := by
  intro L S A v A' k n f w hc
  obtain ⟨v', e, h0, h1⟩ := h L S A _ hc bad_ne
  obtain ⟨rfl, rfl, rfl, rfl, rfl, rfl⟩ := ok_inj e
  refine ⟨h0, 1, fun fuel hf => ?_⟩
  obtain ⟨m, rfl⟩ : ∃ m, fuel = m + 1 := ⟨fuel - 1, by omega⟩
  rw [Own.run]
  simp only [hE, Own.pinS, hs, h1]
theorem stop_ok {d : Nat} : Sim ρ E M pc d stop := fun L S A v A' k n f w h => by cases h
theorem ret_gen {i : Instr} {fit : Nat → Bool} {ty : FieldType} {d : Nat} (hs : Own.sort i [] = 0) (ht : E.2.2.1 M = some ty) (hf : ∀ v r, fit v = true → Own.retV i (some ty) (av ρ v :: r) = some (some (av ρ v))) (hE : E.1 M pc = some (i, none, [], .null)) : Sim ρ E M pc (d + 1) (retF fit) := by
  refine sim_r hE hs fun L S A r q hr => ?_
  obtain ⟨z, q⟩ := brec_t q hr
  exact ⟨some (dg S 0), q.symm, by rw [ht]; rfl, by rw [ht]; exact hf _ _ z⟩
theorem retI_ok {d : Nat} (ht : E.2.2.1 M = some .int) (hE : E.1 M pc = some (.ireturn, none, [], .null)) : Sim ρ E M pc (d + 1) (retF (onq 0)) := ret_gen rfl ht (fun v r h => by obtain ⟨⟨x, e⟩, -⟩ := onI_ok (ρ := ρ) h; rw [e]; rfl) hE
theorem retJ_ok {d : Nat} (ht : E.2.2.1 M = some .long) (hE : E.1 M pc = some (.lreturn, none, [], .null)) : Sim ρ E M pc (d + 1) (retF (onq 4)) := ret_gen rfl ht (fun v r h => by obtain ⟨⟨x, e⟩, -⟩ := onJ_ok (ρ := ρ) h; rw [e]; rfl) hE
theorem retD_ok {d : Nat} (ht : E.2.2.1 M = some .double) (hE : E.1 M pc = some (.dreturn, none, [], .null)) : Sim ρ E M pc (d + 1) (retF (onq 5)) := ret_gen rfl ht (fun v r h => by obtain ⟨⟨x, e⟩, -⟩ := onD_ok (ρ := ρ) h; rw [e]; rfl) hE
theorem retA_ok {d : Nat} {ty : FieldType} (ht : E.2.2.1 M = some ty) (hty : (∃ C, ty = .object C) ∨ ∃ u, ty = .array u) (hE : E.1 M pc = some (.areturn, none, [], .null)) : Sim ρ E M pc (d + 1) (retF (onq 1)) := ret_gen rfl ht (fun v r h => by
  obtain ⟨e, -⟩ := onA_ok (ρ := ρ) h
  rcases hty with ⟨C, rfl⟩ | ⟨u, rfl⟩ <;> rcases e with ⟨x, e⟩ | e <;> (rw [e]; rfl)) hE
theorem retZ_ok {d : Nat} (ht : E.2.2.1 M = some .boolean) (hE : E.1 M pc = some (.ireturn, none, [], .null)) : Sim ρ E M pc (d + 1) (retF fitB) := ret_gen rfl ht (fun v r h => by
  rcases fitB_ok h with rfl | rfl
  · rw [av0]; rfl
  · rw [av1]; rfl) hE
theorem retN_ok (ht : E.2.2.1 M = none) (hE : E.1 M pc = some (.return_, none, [], .null)) : Sim ρ E M pc 0 xretV := by
  refine sim_r (i := .return_) hE rfl fun L S A r q hr => ⟨none, q.symm, by rw [ht]; rfl, by rw [ht]; rfl⟩
theorem sim_c {R : Cal} {i : Instr} {nums : List Nat} {c' : Cont} {p d d0 d1 : Nat} (hR : SimR ρ E R) (hE : E.1 M pc = some (i, none, nums, .null)) (hs : Own.sort i nums = 1) (hn : pc + 3 = p) (hc : Sim ρ E M p d1 c)
    (h : ∀ L S A r, c' L S A = r → r ≠ .bad → ∃ b ml as S1 L', callF R b ml d S1 L A c L' = r ∧ ml = E.2.1 b ∧ d1 = (bif (E.2.2.1 b).isSome then d + 1 else d) ∧ Own.callee i nums (avS ρ d0 S) (avA ρ A) = some (b, as, avS ρ d S1) ∧ (Own.aFill as).length ≤ E.2.1 b ∧ avL ρ (E.2.1 b) L' = Own.aL as (E.2.1 b)) : Sim ρ E M pc d0 c' := by
  subst hn
  intro L S A v A' k n f w hq
  obtain ⟨b, ml, as, S1, L', h1, rfl, hd, h2, h3, h4⟩ := h L S A _ hq bad_ne
  have h1 : back (Nat.add (xc d S1) (Nat.add (E.2.1 b) 11)) L S1 c (R b L' A) = _ := h1
  rcases (R b L' A).dest with hcal | ⟨v1, A1, k1, n1, f1, w1, hcal⟩
  · rw [hcal] at h1; cases h1
  · rw [hcal] at h1
    have h1 : addC k1 n1 (Nat.succ f1) (Nat.add (Nat.add (xc d S1) (Nat.add (E.2.1 b) 11)) w1) (orv (c L S1 A1) (fun u => brc .bad (c L (psh S1 u) A1) (Nat.beq (Nat.shiftRight u 80) 0)) v1) = _ := h1
    obtain ⟨k2, n2, f2, w2, h5, rfl, rfl, rfl, rfl⟩ := addC_ok h1
    obtain ⟨hv1, N1, hN1⟩ := hR b L' A _ _ _ _ _ _ hcal
    have h6 : ∃ S2, c L S2 A1 = .ok v A' k2 n2 f2 w2 ∧ avS ρ d1 S2 = (v1.map (av ρ)).toList ++ avS ρ d S1 := by
      cases v1 with
      | none =>
        rw [← hv1] at hd
        have hd : d1 = d := hd
        exact ⟨S1, h5, by rw [hd]; rfl⟩
      | some u =>
        rw [← hv1] at hd
        have hd : d1 = d + 1 := hd
        obtain ⟨z, h5⟩ := brec_t h5 bad_ne
        exact ⟨psh S1 u, h5, by rw [hd, avS_psh (shr_lt (beq0 z))]; rfl⟩
    obtain ⟨S2, h6, h7⟩ := h6
    obtain ⟨hv, N2, hN2⟩ := hc L S2 A1 v A' k2 n2 f2 w2 h6
    refine ⟨hv, N1 + N2 + 1, fun fuel hf => ?_⟩
    obtain ⟨m, rfl⟩ : ∃ m, fuel = m + 1 := ⟨fuel - 1, by omega⟩
    have a1 := hN1 m (by omega)
    have a2 := hN2 m (by omega)
    rw [h7] at a2
    rw [Own.run]
    simp only [hE, Own.pinS, hs, h2, if_pos h3, Own.forceL_eq, Own.forceN_eq, ← h4, a1, a2, List.nil_append, xc_eq]
    rfl
def StatC (R : Cal) (b ml na d : Nat) (F : Cont → Cont) : Prop := ∀ (ρ : Rho) c L S A r, F c L S A = r → r ≠ .bad → ∃ as L', callF R b ml d (rsk na S) L A c L' = r ∧ avS ρ (d + na) S = as.reverse ++ avS ρ d (rsk na S) ∧ as.length = na ∧ (Own.aFill as).length ≤ ml ∧ avL ρ ml L' = Own.aL as ml
theorem statF_ok {R : Cal} {F : Cont → Cont} {ix b na p ml d d1 : Nat} (hF : StatC R b ml na d F) (hR : SimR ρ E R) (hd : d1 = (bif (E.2.2.1 b).isSome then d + 1 else d)) (hm : ml = E.2.1 b) (hE : E.1 M pc = some (.invokestatic ix, none, [1, b, na], .null)) (hn : pc + 3 = p) (hc : Sim ρ E M p d1 c) : Sim ρ E M pc (d + na) (F c) := by
  refine sim_c (i := .invokestatic ix) (d := d) hR hE rfl hn hc fun L S A r q hr => ?_
  obtain ⟨as, L', h1, h2, rfl, h3, h4⟩ := hF ρ c L S A r q hr
  refine ⟨b, ml, as, _, L', h1, hm, hd, ?_, hm ▸ h3, hm ▸ h4⟩
  rw [h2]
  show (if as.length ≤ (as.reverse ++ avS ρ d (rsk as.length S)).length then some (b, ((as.reverse ++ avS ρ d (rsk as.length S)).take as.length).reverse, (as.reverse ++ avS ρ d (rsk as.length S)).drop as.length) else none) = _
  have e2 : as.length = as.reverse.length := by simp
  rw [if_pos (by simp)]
  generalize hR : avS ρ d (rsk as.length S) = rest
  rw [e2, List.take_left, List.drop_left, List.reverse_reverse]
def SpecC (R : Cal) (b ml na d : Nat) (F : Cont → Cont) : Prop := ∀ (ρ : Rho) c L S A r, F c L S A = r → r ≠ .bad → ∃ v a as L', callF R b ml d (rsk (na + 1) S) L A c L' = r ∧ avS ρ (d + (na + 1)) S = as.reverse ++ v :: avS ρ d (rsk (na + 1) S) ∧ as.length = na ∧ v = Value.ref a ∧ (Own.aFill (v :: as)).length ≤ ml ∧ avL ρ ml L' = Own.aL (v :: as) ml
theorem drop_at {α : Type} {as : List α} {x : α} {r : List α} : (as.reverse ++ x :: r).drop as.length = x :: r := by
  rw [show as.length = as.reverse.length by simp, List.drop_left]
theorem take_at {α : Type} {as : List α} {x : α} {r : List α} : ((as.reverse ++ x :: r).take as.length).reverse = as := by
  rw [show as.length = as.reverse.length by simp, List.take_left, List.reverse_reverse]
theorem specF_ok {R : Cal} {F : Cont → Cont} {ix b na p ml d d1 : Nat} (hF : SpecC R b ml na d F) (hR : SimR ρ E R) (hd : d1 = (bif (E.2.2.1 b).isSome then d + 1 else d)) (hm : ml = E.2.1 b) (hE : E.1 M pc = some (.invokespecial ix, none, [1, b, na], .null)) (hn : pc + 3 = p) (hc : Sim ρ E M p d1 c) : Sim ρ E M pc (d + (na + 1)) (F c) := by
  refine sim_c (i := .invokespecial ix) (d := d) hR hE rfl hn hc fun L S A r q hr => ?_
  obtain ⟨v, a, as, L', h1, h2, rfl, rfl, h3, h4⟩ := hF ρ c L S A r q hr
  refine ⟨b, ml, .ref a :: as, _, L', h1, hm, hd, ?_, hm ▸ h3, hm ▸ h4⟩
  rw [h2]
  show (match (as.reverse ++ Value.ref a :: avS ρ d (rsk (as.length + 1) S)).drop as.length with
      | .ref a' :: rest' => some (b, Value.ref a' :: ((as.reverse ++ Value.ref a :: avS ρ d (rsk (as.length + 1) S)).take as.length).reverse, rest')
      | _ => none) = _
  rw [drop_at]
  simp only []
  rw [take_at]
def VirtC (R : Cal) (na d d1 : Nat) (lk : Nat → Option (Nat × Nat)) (F : Cont → Cont) : Prop := ∀ (ρ : Rho) c L S A r, F c L S A = r → r ≠ .bad → ∃ v a as L' kd b ml, callF R b ml d (rsk (na + 1) S) L A c L' = r ∧ avS ρ (d + (na + 1)) S = as.reverse ++ v :: avS ρ d (rsk (na + 1) S) ∧ as.length = na ∧ v = Value.ref a ∧ (∃ vs, (avA ρ A)[a]? = some (kd, vs)) ∧ lk kd = some (b, ml) ∧ (Own.aFill (v :: as)).length ≤ ml ∧ avL ρ ml L' = Own.aL (v :: as) ml
theorem virtF_ok {R : Cal} {F : Cont → Cont} {ix na p d d1 : Nat} {tb : List Nat} {lk : Nat → Option (Nat × Nat)} (hF : VirtC R na d d1 lk F) (hR : SimR ρ E R) (hl : ∀ k b ml, lk k = some (b, ml) → Own.look tb k = some b ∧ ml = E.2.1 b ∧ d1 = (bif (E.2.2.1 b).isSome then d + 1 else d)) (hE : E.1 M pc = some (.invokevirtual ix, none, 1 :: na :: tb, .null)) (hn : pc + 3 = p) (hc : Sim ρ E M p d1 c) : Sim ρ E M pc (d + (na + 1)) (F c) := by
  refine sim_c (i := .invokevirtual ix) (d := d) hR hE rfl hn hc fun L S A r q hr => ?_
  obtain ⟨v, a, as, L', kd, b, ml, h1, h2, rfl, rfl, ⟨vs, h0⟩, h00, h3, h4⟩ := hF ρ c L S A r q hr
  obtain ⟨l1, rfl, l2⟩ := hl kd b ml h00
  refine ⟨b, _, .ref a :: as, _, L', h1, rfl, l2, ?_, h3, h4⟩
  rw [h2]
  show (match (as.reverse ++ Value.ref a :: avS ρ d (rsk (as.length + 1) S)).drop as.length with
      | .ref a' :: rest' => (match (avA ρ A)[a']? with
        | some (k, _) => (match Own.look tb k with
          | some b => some (b, Value.ref a' :: ((as.reverse ++ Value.ref a :: avS ρ d (rsk (as.length + 1) S)).take as.length).reverse, rest')
          | none => none)
        | none => none)
      | _ => none) = _
  rw [drop_at]
  simp only [h0, l1]
  rw [take_at]
theorem look1x {kk bb ml d d1 : Nat} {r : List Nat} (h : ml = E.2.1 bb) (h2 : d1 = (bif (E.2.2.1 bb).isSome then d + 1 else d)) : ∀ k b m, (fun k => if k = kk then some (bb, ml) else none) k = some (b, m) → Own.look (kk :: bb :: r) k = some b ∧ m = E.2.1 b ∧ d1 = (bif (E.2.2.1 b).isSome then d + 1 else d) := by
  intro k b m q
  by_cases e : k = kk
  · simp only [e, if_true, Option.some.injEq, Prod.mk.injEq] at q
    obtain ⟨rfl, rfl⟩ := q
    refine ⟨?_, h, h2⟩
    rw [e]
    unfold Own.look
    rw [if_pos rfl]
  · simp only [e, if_false] at q
    cases q
/-! the run -/
theorem brec_sim {b : Bool} {x y : Cont} {d : Nat} (h1 : b = false → Sim ρ E M pc d x) (h2 : b = true → Sim ρ E M pc d y) : Sim ρ E M pc d (brcC x y b) := by
  cases b
  · exact h1 rfl
  · exact h2 rfl
theorem brec_simR {b : Bool} {x y : Nat → Nat → Res} (h1 : b = false → SimM ρ E M x) (h2 : b = true → SimM ρ E M y) : SimM ρ E M (fun L A => brc (x L A) (y L A) b) := by
  cases b
  · exact h1 rfl
  · exact h2 rfl
theorem bad_simR : SimM ρ E M (fun _ _ => .bad) := fun L A v A' k n f w h => by cases h
def StepJ (ρ : Rho) (E : Own.EV) (M : Nat) (X : Jmp → Jmp) : Prop := ∀ J, (∀ pc, Sim ρ E M pc 0 (J pc)) → ∀ pc, Sim ρ E M pc 0 (X J pc)
theorem dbl_sim {X : Jmp → Jmp} (h : StepJ ρ E M X) : StepJ ρ E M (dbl X) := fun J hJ => h _ (h _ hJ)
theorem loop_sim {X : Jmp → Jmp} (h : StepJ ρ E M X) : SimM ρ E M (fun L A => loop X L A) := fun L A v A' k n f w q =>
  dbl_sim (dbl_sim (dbl_sim (dbl_sim (dbl_sim (dbl_sim (dbl_sim (dbl_sim (dbl_sim h)))))))) _ (fun _ => stop_ok) 0 L 0 A v A' k n f w q
theorem dblR_sim {B : Cal → Cal} (h : ∀ R, SimR ρ E R → SimR ρ E (B R)) : ∀ R, SimR ρ E R → SimR ρ E (dblR B R) := fun R hR => h _ (h _ hR)
theorem xrun_sim {B : Cal → Cal} (h : ∀ R, SimR ρ E R → SimR ρ E (B R)) : SimR ρ E (xrun B) :=
  dblR_sim (dblR_sim (dblR_sim (dblR_sim h))) _ (fun _ => bad_simR)
theorem xok_ok {K N F W : Nat} {r : Res} (h : xok K N F W r = true) : ∃ A' k m f w, r = .ok (some 1) A' k m f w ∧ k ≤ K ∧ m ≤ N ∧ f ≤ F ∧ w ≤ W := by
  rcases r.dest with rfl | ⟨v, A', k, m, f, w, rfl⟩
  · cases h
  · cases v with
    | none => cases h
    | some u =>
      have h : isOk (brc .bad (.ok none 0 0 0 0 0) (Nat.beq (Nat.add (Nat.xor u 1) (Nat.add (Nat.add (Nat.sub k K) (Nat.sub m N)) (Nat.add (Nat.sub f F) (Nat.sub w W)))) 0)) = true := h
      cases hb : Nat.beq (Nat.add (Nat.xor u 1) (Nat.add (Nat.add (Nat.sub k K) (Nat.sub m N)) (Nat.add (Nat.sub f F) (Nat.sub w W)))) 0 with
      | false => rw [hb] at h; cases h
      | true =>
        obtain ⟨z1, z2⟩ := add0 (beq0 hb)
        obtain ⟨z2, z3⟩ := add0 z2
        obtain ⟨z4, z5⟩ := add0 z2
        obtain ⟨z6, z7⟩ := add0 z3
        rw [xor0 z1]
        exact ⟨A', k, m, f, w, rfl, sub0 z4, sub0 z5, sub0 z6, sub0 z7⟩
theorem good_of {B : Cal → Cal} (hB : ∀ R, SimR ρ E R → SimR ρ E (B R)) {K N F W L A0 : Nat} {as : List Value} {AA : Own.AH} (h : xok K N F W (xrun B 0 L A0) = true) (hL : avL ρ (E.2.1 0) L = Own.aL as (E.2.1 0)) (hA : avA ρ A0 = AA) : ∃ fuel, Own.Good E fuel as AA K N F W := by
  obtain ⟨A', k, m, f, w, h1, h2⟩ := xok_ok h
  obtain ⟨-, fu, hf⟩ := xrun_sim hB 0 L A0 _ _ _ _ _ _ h1
  refine ⟨fu, none, none, [], avA ρ A', k, m, f, w, ?_, fun P hP => (nomatch hP), h2⟩
  rw [← hL, ← hA]
  have := hf fu (Nat.le_refl _)
  rw [this]
  show some (_, _, some (av ρ 1), _) = _
  rw [av1]
theorem tb_ok {o x y O X Y v rest u : Nat} (h : tb o x y O X Y v rest = Nat.succ u) : (o = O ∧ x = X ∧ y = Y ∧ u = v) ∨ rest = Nat.succ u := by
  unfold tb at h
  cases hb : Nat.beq (Nat.add (Nat.xor o O) (Nat.add (Nat.xor x X) (Nat.xor y Y))) 0 with
  | false => rw [hb] at h; exact Or.inr h
  | true =>
    rw [hb] at h
    have h : Nat.succ v = Nat.succ u := h
    obtain ⟨z1, z2⟩ := add0 (beq0 hb)
    obtain ⟨z2, z3⟩ := add0 z2
    exact Or.inl ⟨xor0 z1, xor0 z2, xor0 z3, (Nat.succ.inj h).symm⟩
theorem row_ {o x y v : Nat} {X Y V : Value} (ex : av ρ x = X) (ey : av ρ y = Y) (ev : av ρ v = V) (h : sem E o X Y = some V) : sem E o (av ρ x) (av ρ y) = some (av ρ v) := by rw [ex, ey, ev]; exact h
/-! a table by groups of one operation, and rows with a condition -/
theorem grp_ok {o O sub rest u : Nat} (h : grp o O sub rest = Nat.succ u) : (o = O ∧ sub = Nat.succ u) ∨ rest = Nat.succ u := by
  unfold grp at h
  cases hb : Nat.beq o O with
  | false => rw [hb] at h; exact Or.inr h
  | true => rw [hb] at h; exact Or.inl ⟨beq0 hb, h⟩
theorem tr_ok {z v rest u : Nat} (h : tr z v rest = Nat.succ u) : (z = 0 ∧ u = v) ∨ rest = Nat.succ u := by
  unfold tr at h
  cases hb : Nat.beq z 0 with
  | false => rw [hb] at h; exact Or.inr h
  | true =>
    rw [hb] at h
    have h : Nat.succ v = Nat.succ u := h
    exact Or.inl ⟨beq0 hb, (Nat.succ.inj h).symm⟩
theorem av_tag {v t : Nat} (h : Nat.shiftRight v 69 = t) (ht : t < 16) : av ρ v = avt ρ t (v % 2 ^ 69) := by
  unfold av; rw [tg_of h ht]
theorem or_tag {x y t : Nat} (hx : Nat.shiftRight x 69 = t) (hy : Nat.shiftRight y 69 = t) : Nat.shiftRight (Nat.lor x y) 69 = t := by
  show (x ||| y) >>> 69 = t
  rw [Nat.shiftRight_or_distrib, show x >>> 69 = t from hx, show y >>> 69 = t from hy, Nat.or_self]
theorem or_low (x y : Nat) : Nat.lor x y % 2 ^ 69 = Nat.lor (x % 2 ^ 69) (y % 2 ^ 69) := Nat.or_mod_two_pow
theorem and_low {x y : Nat} (h : Nat.land (Nat.land x y) 590295810358705651711 = 0) : Nat.land (x % 2 ^ 69) (y % 2 ^ 69) = 0 := by
  have h : (x &&& y) &&& (2 ^ 69 - 1) = 0 := h
  rw [Nat.and_two_pow_sub_one_eq_mod, Nat.and_mod_two_pow] at h
  exact h
theorem slot_ {s : Nat} {V : Value} (h : tq s = 0 ∨ tq s = 2) (e : av ρ s = V) : avs ρ s = .val V := by
  rcases h with h | h
  · rw [(avs_tq0 h).1, e]
  · rw [(avs_tq2 h).1, e]
theorem or_i {a b : Bool} (h : or a b = true) : a = true ∨ b = true := by cases a <;> cases b <;> first | exact Or.inl rfl | exact Or.inr rfl | cases h
end Sim
end Jvm.Fx
namespace Jvm.Pilot.@@N@@
open Jvm Jvm.ClassFile Sem Op Lib Jvm.Free Jvm.Stand Jvm.LawKit Jvm.RoadKit Bundle Jvm.Pilot.@@N@@.Jvm.D Jvm.Own
/-- 0: the code of law -/
def c_0 : List (Nat × List (Nat × Ent)) := [(9, [(0, (.iload_n 0), none, [], .null), (1, (.iconst 1), none, [], .null), (2, (.iand), none, [], .null), (3, (.istore 5), none, [], .null), (5, (.iload_n 0), none, [], .null), (6, (.iconst 1), none, [], .null), (7, (.iushr), none, [], .null), (8, (.iconst 3), none, [], .null)]),
  (18, [(9, (.iand), none, [], .null), (10, (.iconst 3), none, [], .null), (11, (.irem), none, [], .null), (12, (.istore 6), none, [], .null), (14, (.iload_n 0), none, [], .null), (15, (.iconst 3), none, [], .null), (16, (.iushr), none, [], .null), (17, (.iconst 3), none, [], .null)]),
  (28, [(18, (.iand), none, [], .null), (19, (.istore 7), none, [], .null), (21, (.iload_n 0), none, [], .null), (22, (.iconst 5), none, [], .null), (23, (.iushr), none, [], .null), (24, (.bipush 7), none, [], .null), (26, (.iand), none, [], .null), (27, (.iconst 5), none, [], .null)]),
  (39, [(28, (.irem), none, [], .null), (29, (.istore 8), none, [], .null), (31, (.iload_n 0), none, [], .null), (32, (.bipush 8), none, [], .null), (34, (.iushr), none, [], .null), (35, (.bipush 7), none, [], .null), (37, (.iand), none, [], .null), (38, (.iconst 5), none, [], .null)]),
  (50, [(39, (.irem), none, [], .null), (40, (.istore 9), none, [], .null), (42, (.iload_n 0), none, [], .null), (43, (.bipush 11), none, [], .null), (45, (.iushr), none, [], .null), (46, (.bipush 7), none, [], .null), (48, (.iand), none, [], .null), (49, (.iconst 5), none, [], .null)]),
  (61, [(50, (.irem), none, [], .null), (51, (.istore 10), none, [], .null), (53, (.iload_n 1), none, [], .null), (54, (.ldc 7), none, [], (.int (1048575))), (56, (.iand), none, [], .null), (57, (.i2l), none, [], .null), (58, (.lstore 11), none, [], .null), (60, (.iload_n 2), none, [], .null)]),
  (72, [(61, (.ldc 7), none, [], (.int (1048575))), (63, (.iand), none, [], .null), (64, (.i2l), none, [], .null), (65, (.lstore 13), none, [], .null), (67, (.iload_n 3), none, [], .null), (68, (.ldc 7), none, [], (.int (1048575))), (70, (.iand), none, [], .null), (71, (.i2l), none, [], .null)]),
  (84, [(72, (.lstore 15), none, [], .null), (74, (.iload 4), none, [], .null), (76, (.ldc 7), none, [], (.int (1048575))), (78, (.iand), none, [], .null), (79, (.i2l), none, [], .null), (80, (.lstore 17), none, [], .null), (82, (.iconst 5), none, [], .null), (83, (.newarray .int), none, [0], .null)]),
  (96, [(85, (.astore 19), none, [], .null), (87, (.aload 19), none, [], .null), (89, (.iconst 0), none, [], .null), (90, (.iconst 1), none, [], .null), (91, (.iastore), none, [], .null), (92, (.aload 19), none, [], .null), (94, (.iconst 1), none, [], .null), (95, (.iconst 2), none, [], .null)]),
  (106, [(96, (.aload 19), none, [], .null), (98, (.iconst 0), none, [], .null), (99, (.iaload), none, [], .null), (100, (.ior), none, [], .null), (101, (.iastore), none, [], .null), (102, (.aload 19), none, [], .null), (104, (.iconst 2), none, [], .null), (105, (.iconst 4), none, [], .null)]),
  (117, [(106, (.aload 19), none, [], .null), (108, (.iload 5), none, [], .null), (110, (.iaload), none, [], .null), (111, (.ior), none, [], .null), (112, (.iastore), none, [], .null), (113, (.aload 19), none, [], .null), (115, (.iconst 3), none, [], .null), (116, (.bipush 8), none, [], .null)]),
  (129, [(118, (.aload 19), none, [], .null), (120, (.iload 6), none, [], .null), (122, (.iaload), none, [], .null), (123, (.ior), none, [], .null), (124, (.iastore), none, [], .null), (125, (.aload 19), none, [], .null), (127, (.iconst 4), none, [], .null), (128, (.bipush 16), none, [], .null)]),
  (141, [(130, (.aload 19), none, [], .null), (132, (.iload 7), none, [], .null), (134, (.iaload), none, [], .null), (135, (.ior), none, [], .null), (136, (.iastore), none, [], .null), (137, (.iconst 5), none, [], .null), (138, (.newarray .int), none, [0], .null), (140, (.astore 20), none, [], .null)]),
  (154, [(142, (.iconst 5), none, [], .null), (143, (.newarray .double), none, [2], .null), (145, (.astore 21), none, [], .null), (147, (.aload 20), none, [], .null), (149, (.iload 8), none, [], .null), (151, (.iconst (-1)), none, [], .null), (152, (.iastore), none, [], .null), (153, (.aload 21), none, [], .null)]),
  (166, [(155, (.iload 8), none, [], .null), (157, (.dconst 0), none, [], .null), (158, (.dastore), none, [], .null), (159, (.aload 20), none, [], .null), (161, (.iconst 1), none, [], .null), (162, (.iload 8), none, [], .null), (164, (.iadd), none, [], .null), (165, (.iconst 5), none, [], .null)]),
  (177, [(166, (.irem), none, [], .null), (167, (.iload 8), none, [], .null), (169, (.iastore), none, [], .null), (170, (.aload 21), none, [], .null), (172, (.iconst 1), none, [], .null), (173, (.iload 8), none, [], .null), (175, (.iadd), none, [], .null), (176, (.iconst 5), none, [], .null)]),
  (188, [(177, (.irem), none, [], .null), (178, (.lload 11), none, [], .null), (180, (.l2d), none, [], .null), (181, (.dastore), none, [], .null), (182, (.aload 20), none, [], .null), (184, (.iconst 2), none, [], .null), (185, (.iload 8), none, [], .null), (187, (.iadd), none, [], .null)]),
  (198, [(188, (.iconst 5), none, [], .null), (189, (.irem), none, [], .null), (190, (.iload 5), none, [], .null), (192, (.iload 8), none, [], .null), (194, (.iadd), none, [], .null), (195, (.iconst 5), none, [], .null), (196, (.irem), none, [], .null), (197, (.iastore), none, [], .null)]),
  (209, [(198, (.aload 21), none, [], .null), (200, (.iconst 2), none, [], .null), (201, (.iload 8), none, [], .null), (203, (.iadd), none, [], .null), (204, (.iconst 5), none, [], .null), (205, (.irem), none, [], .null), (206, (.lload 13), none, [], .null), (208, (.l2d), none, [], .null)]),
  (219, [(209, (.dastore), none, [], .null), (210, (.aload 20), none, [], .null), (212, (.iconst 3), none, [], .null), (213, (.iload 8), none, [], .null), (215, (.iadd), none, [], .null), (216, (.iconst 5), none, [], .null), (217, (.irem), none, [], .null), (218, (.iload 6), none, [], .null)]),
  (230, [(220, (.iload 8), none, [], .null), (222, (.iadd), none, [], .null), (223, (.iconst 5), none, [], .null), (224, (.irem), none, [], .null), (225, (.iastore), none, [], .null), (226, (.aload 21), none, [], .null), (228, (.iconst 3), none, [], .null), (229, (.iload 8), none, [], .null)]),
  (241, [(231, (.iadd), none, [], .null), (232, (.iconst 5), none, [], .null), (233, (.irem), none, [], .null), (234, (.lload 15), none, [], .null), (236, (.l2d), none, [], .null), (237, (.dastore), none, [], .null), (238, (.aload 20), none, [], .null), (240, (.iconst 4), none, [], .null)]),
  (252, [(241, (.iload 8), none, [], .null), (243, (.iadd), none, [], .null), (244, (.iconst 5), none, [], .null), (245, (.irem), none, [], .null), (246, (.iload 7), none, [], .null), (248, (.iload 8), none, [], .null), (250, (.iadd), none, [], .null), (251, (.iconst 5), none, [], .null)]),
  (262, [(252, (.irem), none, [], .null), (253, (.iastore), none, [], .null), (254, (.aload 21), none, [], .null), (256, (.iconst 4), none, [], .null), (257, (.iload 8), none, [], .null), (259, (.iadd), none, [], .null), (260, (.iconst 5), none, [], .null), (261, (.irem), none, [], .null)]),
  (274, [(262, (.lload 17), none, [], .null), (264, (.l2d), none, [], .null), (265, (.dastore), none, [], .null), (266, (.new 8), none, [8], .null), (269, (.dup), none, [], .null), (270, (.iconst 5), none, [], .null), (271, (.aload 20), none, [], .null), (273, (.aload 21), none, [], .null)]),
  (290, [(275, (.invokespecial 10), none, [1, 1, 3], .null), (278, (.astore 22), none, [], .null), (280, (.aload 19), none, [], .null), (282, (.iload 9), none, [], .null), (284, (.iaload), none, [], .null), (285, (.aload 19), none, [], .null), (287, (.iload 10), none, [], .null), (289, (.iaload), none, [], .null)]),
  (300, [(290, (.ixor), none, [], .null), (291, (.istore 23), none, [], .null), (293, (.iload 23), none, [], .null), (295, (.iconst 1), none, [], .null), (296, (.ishr), none, [], .null), (297, (.iconst 1), none, [], .null), (298, (.iand), none, [], .null), (299, (.i2l), none, [], .null)]),
  (310, [(300, (.lload 11), none, [], .null), (302, (.lmul), none, [], .null), (303, (.iload 23), none, [], .null), (305, (.iconst 2), none, [], .null), (306, (.ishr), none, [], .null), (307, (.iconst 1), none, [], .null), (308, (.iand), none, [], .null), (309, (.i2l), none, [], .null)]),
  (320, [(310, (.lload 13), none, [], .null), (312, (.lmul), none, [], .null), (313, (.ladd), none, [], .null), (314, (.iload 23), none, [], .null), (316, (.iconst 3), none, [], .null), (317, (.ishr), none, [], .null), (318, (.iconst 1), none, [], .null), (319, (.iand), none, [], .null)]),
  (330, [(320, (.i2l), none, [], .null), (321, (.lload 15), none, [], .null), (323, (.lmul), none, [], .null), (324, (.ladd), none, [], .null), (325, (.iload 23), none, [], .null), (327, (.iconst 4), none, [], .null), (328, (.ishr), none, [], .null), (329, (.iconst 1), none, [], .null)]),
  (341, [(330, (.iand), none, [], .null), (331, (.i2l), none, [], .null), (332, (.lload 17), none, [], .null), (334, (.lmul), none, [], .null), (335, (.ladd), none, [], .null), (336, (.lstore 24), none, [], .null), (338, (.aload 22), none, [], .null), (340, (.iload 9), none, [], .null)]),
  (353, [(342, (.iload 8), none, [], .null), (344, (.iadd), none, [], .null), (345, (.iconst 5), none, [], .null), (346, (.irem), none, [], .null), (347, (.iload 10), none, [], .null), (349, (.iload 8), none, [], .null), (351, (.iadd), none, [], .null), (352, (.iconst 5), none, [], .null)]),
  (366, [(353, (.irem), none, [], .null), (354, (.invokevirtual 13), none, [1, 2, 8, 6], .null), (357, (.lload 24), none, [], .null), (359, (.l2d), none, [], .null), (360, (.dcmp .l), none, [], .null), (361, (.ifCond .ne 7), none, [], .null), (364, (.iconst 1), none, [], .null), (365, (.goto 4), none, [], .null)]),
  (370, [(368, (.iconst 0), none, [], .null), (369, (.ireturn), none, [], .null)])]
/-- 1: the code of init -/
def c_1 : List (Nat × List (Nat × Ent)) := [(11, [(0, (.aload_n 0), none, [], .null), (1, (.invokespecial 1), none, [0], .null), (4, (.aload_n 2), none, [], .null), (5, (.arraylength), none, [], .null), (6, (.istore 4), none, [], .null), (8, (.aload_n 3), none, [], .null), (9, (.arraylength), none, [], .null), (10, (.iload 4), none, [], .null)]),
  (37, [(12, (.if_icmp .eq 20), none, [], .null), (18, (.dup), none, [], .null), (19, (.iload 4), none, [], .null), (21, (.aload_n 3), none, [], .null), (22, (.arraylength), none, [], .null), (32, (.iload_n 1), none, [], .null), (33, (.ifCond .lt 9), none, [], .null), (36, (.iload_n 1), none, [], .null)]),
  (62, [(37, (.iload 4), none, [], .null), (39, (.if_icmp .le 19), none, [], .null), (45, (.dup), none, [], .null), (46, (.iload_n 1), none, [], .null), (47, (.iload 4), none, [], .null), (58, (.iconst (-1)), none, [], .null), (59, (.istore 5), none, [], .null), (61, (.iconst 0), none, [], .null)]),
  (76, [(62, (.istore 6), none, [], .null), (64, (.iload 6), none, [], .null), (66, (.iload 4), none, [], .null), (68, (.if_icmp .ge 123), none, [], .null), (71, (.aload_n 2), none, [], .null), (72, (.iload 6), none, [], .null), (74, (.iaload), none, [], .null), (75, (.iconst (-1)), none, [], .null)]),
  (104, [(76, (.if_icmp .ne 32), none, [], .null), (79, (.iload 5), none, [], .null), (81, (.ifCond .lt 20), none, [], .null), (87, (.dup), none, [], .null), (88, (.iload 5), none, [], .null), (90, (.iload 6), none, [], .null), (101, (.iload 6), none, [], .null), (103, (.istore 5), none, [], .null)]),
  (119, [(105, (.goto 42), none, [], .null), (108, (.aload_n 2), none, [], .null), (109, (.iload 6), none, [], .null), (111, (.iaload), none, [], .null), (112, (.ifCond .lt 12), none, [], .null), (115, (.aload_n 2), none, [], .null), (116, (.iload 6), none, [], .null), (118, (.iaload), none, [], .null)]),
  (135, [(119, (.iload 4), none, [], .null), (121, (.if_icmp .lt 26), none, [], .null), (127, (.dup), none, [], .null), (128, (.aload_n 2), none, [], .null), (129, (.iload 6), none, [], .null), (131, (.iaload), none, [], .null), (132, (.iload 6), none, [], .null), (134, (.iload 4), none, [], .null)]),
  (158, [(136, (.iconst 1), none, [], .null), (137, (.isub), none, [], .null), (147, (.aload_n 3), none, [], .null), (148, (.iload 6), none, [], .null), (150, (.daload), none, [], .null), (151, (.invokestatic 21), none, [1, 2, 1], .null), (154, (.ifCond .eq 12), none, [], .null), (157, (.aload_n 3), none, [], .null)]),
  (172, [(158, (.iload 6), none, [], .null), (160, (.daload), none, [], .null), (161, (.dconst 0), none, [], .null), (162, (.dcmp .g), none, [], .null), (163, (.ifCond .ge 22), none, [], .null), (169, (.dup), none, [], .null), (170, (.aload_n 3), none, [], .null), (171, (.iload 6), none, [], .null)]),
  (207, [(173, (.daload), none, [], .null), (174, (.iload 6), none, [], .null), (185, (.iinc 6 1), none, [], .null), (188, (.goto (-124)), none, [], .null), (191, (.iload 5), none, [], .null), (193, (.ifCond .ge 13), none, [], .null), (199, (.dup), none, [], .null), (206, (.aload_n 3), none, [], .null)]),
  (222, [(207, (.iload 5), none, [], .null), (209, (.daload), none, [], .null), (210, (.dconst 0), none, [], .null), (211, (.dcmp .l), none, [], .null), (212, (.ifCond .eq 22), none, [], .null), (218, (.dup), none, [], .null), (219, (.iload 5), none, [], .null), (221, (.aload_n 3), none, [], .null)]),
  (242, [(222, (.iload 5), none, [], .null), (224, (.daload), none, [], .null), (234, (.aload_n 0), none, [], .null), (235, (.iload_n 1), none, [], .null), (236, (.putfield 35), none, [8, 0, 0], .null), (239, (.aload_n 0), none, [], .null), (240, (.aload_n 2), none, [], .null), (241, (.invokevirtual 41), none, [0, 0], .null)]),
  (262, [(244, (.checkcast 42), none, [0], .null), (247, (.putfield 47), none, [8, 1, 3], .null), (250, (.aload_n 0), none, [], .null), (251, (.aload_n 3), none, [], .null), (252, (.invokevirtual 50), none, [0, 2], .null), (255, (.checkcast 51), none, [2], .null), (258, (.putfield 53), none, [8, 2, 3], .null), (261, (.aload_n 0), none, [], .null)]),
  (278, [(262, (.iload 5), none, [], .null), (264, (.putfield 56), none, [8, 3, 0], .null), (267, (.aload_n 0), none, [], .null), (268, (.aload_n 0), none, [], .null), (269, (.getfield 47), none, [8, 1], .null), (272, (.iload 5), none, [], .null), (274, (.invokestatic 59), none, [1, 3, 2], .null), (277, (.putfield 63), none, [8, 4, 3], .null)]),
  (293, [(280, (.iconst 0), none, [], .null), (281, (.istore 6), none, [], .null), (283, (.aload_n 0), none, [], .null), (284, (.getfield 63), none, [8, 4], .null), (287, (.astore 7), none, [], .null), (289, (.aload 7), none, [], .null), (291, (.arraylength), none, [], .null), (292, (.istore 8), none, [], .null)]),
  (309, [(294, (.iconst 0), none, [], .null), (295, (.istore 9), none, [], .null), (297, (.iload 9), none, [], .null), (299, (.iload 8), none, [], .null), (301, (.if_icmp .ge 25), none, [], .null), (304, (.aload 7), none, [], .null), (306, (.iload 9), none, [], .null), (308, (.iaload), none, [], .null)]),
  (327, [(309, (.istore 10), none, [], .null), (311, (.iload 6), none, [], .null), (313, (.iload 10), none, [], .null), (315, (.invokestatic 66), none, [1, 5, 2], .null), (318, (.istore 6), none, [], .null), (320, (.iinc 9 1), none, [], .null), (323, (.goto (-26)), none, [], .null), (326, (.aload_n 0), none, [], .null)]),
  (335, [(327, (.iload 6), none, [], .null), (329, (.iconst 1), none, [], .null), (330, (.iadd), none, [], .null), (331, (.putfield 72), none, [8, 5, 0], .null), (334, (.return_), none, [], .null)])]
/-- 2: the code of isFinite -/
def c_2 : List (Nat × List (Nat × Ent)) := [(16, [(0, (.dload_n 0), none, [], .null), (1, (.invokestatic 38), none, [0, 0, 1], .null), (4, (.ldc2_w 111), none, [], (.double (9218868437227405311))), (7, (.dcmp .g), none, [], .null), (8, (.ifCond .gt 7), none, [], .null), (11, (.iconst 1), none, [], .null), (12, (.goto 4), none, [], .null), (15, (.iconst 0), none, [], .null)]),
  (17, [(16, (.ireturn), none, [], .null)])]
/-- 3: the code of depths -/
def c_3 : List (Nat × List (Nat × Ent)) := [(11, [(0, (.aload_n 0), none, [], .null), (1, (.arraylength), none, [], .null), (2, (.newarray .int), none, [0], .null), (4, (.astore_n 2), none, [], .null), (5, (.aload_n 2), none, [], .null), (6, (.iconst (-1)), none, [], .null), (7, (.invokestatic 75), none, [1, 4, 2], .null), (10, (.aload_n 2), none, [], .null)]),
  (20, [(11, (.iload_n 1), none, [], .null), (12, (.iconst 0), none, [], .null), (13, (.iastore), none, [], .null), (14, (.aload_n 0), none, [], .null), (15, (.arraylength), none, [], .null), (16, (.newarray .int), none, [0], .null), (18, (.astore_n 3), none, [], .null), (19, (.iconst 0), none, [], .null)]),
  (33, [(20, (.istore 4), none, [], .null), (22, (.iload 4), none, [], .null), (24, (.aload_n 0), none, [], .null), (25, (.arraylength), none, [], .null), (26, (.if_icmp .ge 100), none, [], .null), (29, (.iconst 0), none, [], .null), (30, (.istore 5), none, [], .null), (32, (.iload 4), none, [], .null)]),
  (46, [(34, (.istore 6), none, [], .null), (36, (.aload_n 2), none, [], .null), (37, (.iload 6), none, [], .null), (39, (.iaload), none, [], .null), (40, (.iconst (-1)), none, [], .null), (41, (.if_icmp .ne 27), none, [], .null), (44, (.aload_n 2), none, [], .null), (45, (.iload 6), none, [], .null)]),
  (60, [(47, (.bipush (-2)), none, [], .null), (49, (.iastore), none, [], .null), (50, (.aload_n 3), none, [], .null), (51, (.iload 5), none, [], .null), (53, (.iinc 5 1), none, [], .null), (56, (.iload 6), none, [], .null), (58, (.iastore), none, [], .null), (59, (.aload_n 0), none, [], .null)]),
  (73, [(60, (.iload 6), none, [], .null), (62, (.iaload), none, [], .null), (63, (.istore 6), none, [], .null), (65, (.goto (-29)), none, [], .null), (68, (.aload_n 2), none, [], .null), (69, (.iload 6), none, [], .null), (71, (.iaload), none, [], .null), (72, (.bipush (-2)), none, [], .null)]),
  (99, [(74, (.if_icmp .ne 18), none, [], .null), (80, (.dup), none, [], .null), (81, (.iload 6), none, [], .null), (92, (.aload_n 2), none, [], .null), (93, (.iload 6), none, [], .null), (95, (.iaload), none, [], .null), (96, (.istore 7), none, [], .null), (98, (.iload 5), none, [], .null)]),
  (115, [(100, (.ifCond .le 20), none, [], .null), (103, (.aload_n 2), none, [], .null), (104, (.aload_n 3), none, [], .null), (105, (.iinc 5 (-1)), none, [], .null), (108, (.iload 5), none, [], .null), (110, (.iaload), none, [], .null), (111, (.iinc 7 1), none, [], .null), (114, (.iload 7), none, [], .null)]),
  (128, [(116, (.iastore), none, [], .null), (117, (.goto (-19)), none, [], .null), (120, (.iinc 4 1), none, [], .null), (123, (.goto (-101)), none, [], .null), (126, (.aload_n 2), none, [], .null), (127, (.areturn), none, [], .null)])]
/-- 4: the code of fill -/
def c_4 : List (Nat × List (Nat × Ent)) := [(8, [(0, (.iconst 0), none, [], .null), (1, (.istore_n 2), none, [], .null), (2, (.aload_n 0), none, [], .null), (3, (.arraylength), none, [], .null), (4, (.istore_n 3), none, [], .null), (5, (.iload_n 2), none, [], .null), (6, (.iload_n 3), none, [], .null), (7, (.if_icmp .ge 13), none, [], .null)]),
  (21, [(10, (.aload_n 0), none, [], .null), (11, (.iload_n 2), none, [], .null), (12, (.iload_n 1), none, [], .null), (13, (.iastore), none, [], .null), (14, (.iinc 2 1), none, [], .null), (17, (.goto (-12)), none, [], .null), (20, (.return_), none, [], .null)])]
/-- 5: the code of max -/
def c_5 : List (Nat × List (Nat × Ent)) := [(11, [(0, (.iload_n 0), none, [], .null), (1, (.iload_n 1), none, [], .null), (2, (.if_icmp .lt 7), none, [], .null), (5, (.iload_n 0), none, [], .null), (6, (.goto 4), none, [], .null), (9, (.iload_n 1), none, [], .null), (10, (.ireturn), none, [], .null)])]
/-- 6: the code of distance -/
def c_6 : List (Nat × List (Nat × Ent)) := [(10, [(0, (.iload_n 1), none, [], .null), (1, (.istore_n 3), none, [], .null), (2, (.iload_n 2), none, [], .null), (3, (.istore 4), none, [], .null), (5, (.dconst 0), none, [], .null), (6, (.dstore 5), none, [], .null), (8, (.aload_n 0), none, [], .null), (9, (.getfield 63), none, [8, 4], .null)]),
  (25, [(12, (.iload_n 3), none, [], .null), (13, (.iaload), none, [], .null), (14, (.aload_n 0), none, [], .null), (15, (.getfield 63), none, [8, 4], .null), (18, (.iload 4), none, [], .null), (20, (.iaload), none, [], .null), (21, (.if_icmp .le 24), none, [], .null), (24, (.dload 5), none, [], .null)]),
  (37, [(26, (.aload_n 0), none, [], .null), (27, (.getfield 53), none, [8, 2], .null), (30, (.iload_n 3), none, [], .null), (31, (.daload), none, [], .null), (32, (.dadd), none, [], .null), (33, (.dstore 5), none, [], .null), (35, (.aload_n 0), none, [], .null), (36, (.getfield 47), none, [8, 1], .null)]),
  (52, [(39, (.iload_n 3), none, [], .null), (40, (.iaload), none, [], .null), (41, (.istore_n 3), none, [], .null), (42, (.goto (-34)), none, [], .null), (45, (.aload_n 0), none, [], .null), (46, (.getfield 63), none, [8, 4], .null), (49, (.iload 4), none, [], .null), (51, (.iaload), none, [], .null)]),
  (65, [(52, (.aload_n 0), none, [], .null), (53, (.getfield 63), none, [8, 4], .null), (56, (.iload_n 3), none, [], .null), (57, (.iaload), none, [], .null), (58, (.if_icmp .le 27), none, [], .null), (61, (.dload 5), none, [], .null), (63, (.aload_n 0), none, [], .null), (64, (.getfield 53), none, [8, 2], .null)]),
  (80, [(67, (.iload 4), none, [], .null), (69, (.daload), none, [], .null), (70, (.dadd), none, [], .null), (71, (.dstore 5), none, [], .null), (73, (.aload_n 0), none, [], .null), (74, (.getfield 47), none, [8, 1], .null), (77, (.iload 4), none, [], .null), (79, (.iaload), none, [], .null)]),
  (95, [(80, (.istore 4), none, [], .null), (82, (.goto (-37)), none, [], .null), (85, (.iload_n 3), none, [], .null), (86, (.iload 4), none, [], .null), (88, (.if_icmp .eq 41), none, [], .null), (91, (.dload 5), none, [], .null), (93, (.aload_n 0), none, [], .null), (94, (.getfield 53), none, [8, 2], .null)]),
  (108, [(97, (.iload_n 3), none, [], .null), (98, (.daload), none, [], .null), (99, (.aload_n 0), none, [], .null), (100, (.getfield 53), none, [8, 2], .null), (103, (.iload 4), none, [], .null), (105, (.daload), none, [], .null), (106, (.dadd), none, [], .null), (107, (.dadd), none, [], .null)]),
  (119, [(108, (.dstore 5), none, [], .null), (110, (.aload_n 0), none, [], .null), (111, (.getfield 47), none, [8, 1], .null), (114, (.iload_n 3), none, [], .null), (115, (.iaload), none, [], .null), (116, (.istore_n 3), none, [], .null), (117, (.aload_n 0), none, [], .null), (118, (.getfield 47), none, [8, 1], .null)]),
  (132, [(121, (.iload 4), none, [], .null), (123, (.iaload), none, [], .null), (124, (.istore 4), none, [], .null), (126, (.goto (-41)), none, [], .null), (129, (.dload 5), none, [], .null), (131, (.dreturn), none, [], .null)])]
def nm_ : Nat → MethodName
  | 0 => x
  | 1 => ⟨"com/example/copse/copse/solver/TreeEmbedding", "<init>", "(I[I[D)V"⟩
  | 2 => ⟨"java/lang/Double", "isFinite", "(D)Z"⟩
  | 3 => ⟨"com/example/copse/copse/solver/TreeEmbedding", "depths", "([II)[I"⟩
  | 4 => ⟨"java/util/Arrays", "fill", "([II)V"⟩
  | 5 => ⟨"java/lang/Math", "max", "(II)I"⟩
  | 6 => ⟨"com/example/copse/copse/solver/TreeEmbedding", "distance", "(II)D"⟩
  | _ => x
def by_ : Nat → ByteArray
  | 0 => code
  | 1 => prog_63_method_1_code
  | 2 => jdk_117_method_8_code
  | 3 => prog_63_method_2_code
  | 4 => jdk_65_method_103_code
  | 5 => jdk_29_method_65_code
  | 6 => prog_63_method_23_code
  | _ => code
def ml_ : Nat → Nat
  | 0 => 26
  | 1 => 11
  | 2 => 2
  | 3 => 8
  | 4 => 4
  | 5 => 2
  | 6 => 7
  | _ => 0
def rt_ : Nat → Option FieldType
  | 0 => some .boolean
  | 1 => none
  | 2 => (some Jvm.ClassFile.FieldType.boolean)
  | 3 => (some (Jvm.ClassFile.FieldType.array Jvm.ClassFile.FieldType.int))
  | 4 => none
  | 5 => (some Jvm.ClassFile.FieldType.int)
  | 6 => (some Jvm.ClassFile.FieldType.double)
  | _ => none
def code_ : Nat → Nat → Option Ent
  | 0, pc => fetch2 c_0 pc
  | 1, pc => fetch2 c_1 pc
  | 2, pc => fetch2 c_2 pc
  | 3, pc => fetch2 c_3 pc
  | 4, pc => fetch2 c_4 pc
  | 5, pc => fetch2 c_5 pc
  | 6, pc => fetch2 c_6 pc
  | _, _ => none
def kc_ : KTy
  | 8 => some ("com/example/copse/copse/solver/TreeEmbedding", [("com/example/copse/copse/solver/TreeEmbedding", "vertexCount", "I", .int), ("com/example/copse/copse/solver/TreeEmbedding", "parent", "[I", (.array .int)), ("com/example/copse/copse/solver/TreeEmbedding", "length", "[D", (.array .double)), ("com/example/copse/copse/solver/TreeEmbedding", "root", "I", .int), ("com/example/copse/copse/solver/TreeEmbedding", "depth", "[I", (.array .int)), ("com/example/copse/copse/solver/TreeEmbedding", "levels", "I", .int)])
  | _ => none
def kd_ : Nat → List Value × Nat
  | 8 => ([.int 0, .null, .null, .int 0, .null, .int 0], 6)
  | _ => ([], 0)
def exf_0 : List Value → Option (Bool × Value)
  | [.double a] => some (!FP.dIsNaN a, .double (a &&& 0x7fffffffffffffff))
  | _ => none
def ext_ : Nat → List Value → Option (Bool × Value)
  | 0, as => exf_0 as
  | _, _ => none
def exw_ : Nat → Nat × Nat
  | 0 => (1, 13)
  | _ => (0, 0)
theorem abs_ok : ∀ (as : List Value) (v : Value), ext_ 0 as = some (true, v) → (∀ g, gS g as = as) ∧ (∀ g, gv g v = v) ∧ ∀ (l : Launch) (R : Room) (p : Program) (e : Env) (below : List Frame) (s : State) (sargs : Array Value) (W : Nat), (∀ d ∈ [Jvm.Cond.code (⟨"java/lang/Math", "abs", "(D)D"⟩ : MethodName) jdk_29_method_64_code 2 (some .double)], d.before sargs s = true) → (exw_ 0).1 ≤ R.frames → W + (exw_ 0).2 ≤ R.locals →
        Back l R p e below s sargs (⟨"java/lang/Math", "abs", "(D)D"⟩ : MethodName) 3 W (fun A a' => A.cells ≤ R.cells ∧ A.slots ≤ R.slots ∧ a' = as.toArray) (fun A _ v' B => v' = some v ∧ B = A) := by
  intro as v h
  replace h : exf_0 as = some (true, v) := h
  unfold exf_0 at h
  split at h
  · rename_i a
    simp only [Option.some.injEq, Prod.mk.injEq, Bool.not_eq_true'] at h
    obtain ⟨h1, rfl⟩ := h
    refine ⟨fun _ => rfl, fun _ => rfl, fun l R p e below s sargs W hc hf hw m meth c A g ig mk a' X q1 q2 q3 q4 q5 q6 => ?_⟩
    exact Jvm.Free.Fl.Abs.absD_pays a (hc _ (List.mem_cons_self ..)) hf hw m meth c A g ig mk a' X q1 q2 q3 q4 q5 ⟨q6.1, q6.2.1, q6.2.2, Jvm.Free.Fl.noNaN64_no.mpr h1⟩
  · cases h
def E_ : EV := (code_, ml_, rt_, kd_, ext_, exw_, 0)
def sl_ : SL := []
theorem pl_0 : plainFor (nm_ 0) = true := plainFor_of_name (by first | (simp [plainName, overriddenIn, nm_, x]; done) | decide +kernel)
theorem pl_1 : plainFor (nm_ 1) = true := plainFor_of_name (by first | (simp [plainName, overriddenIn, nm_, x]; done) | decide +kernel)
theorem pl_2 : plainFor (nm_ 2) = true := plainFor_of_name (by first | (simp [plainName, overriddenIn, nm_, x]; done) | decide +kernel)
theorem pl_3 : plainFor (nm_ 3) = true := plainFor_of_name (by first | (simp [plainName, overriddenIn, nm_, x]; done) | decide +kernel)
theorem pl_4 : plainFor (nm_ 4) = true := plainFor_of_name (by first | (simp [plainName, overriddenIn, nm_, x]; done) | decide +kernel)
theorem pl_5 : plainFor (nm_ 5) = true := Jvm.Free.JP.mathPlain rfl (by decide +kernel)
theorem pl_6 : plainFor (nm_ 6) = true := plainFor_of_name (by first | (simp [plainName, overriddenIn, nm_, x]; done) | decide +kernel)
def Vd (Z : State) (a0 : Array Value) (M : Nat) (q : Nat × Ent) : Prop := VI Z a0 kc_ sl_ E_.2.2.2.1 E_.2.2.2.2.1 E_.2.2.2.2.2.1 (nm_ M).cls (nm_ M).name q.2.1 q.2.2.2.1 q.2.2.2.2 ∧ VC Z a0 kc_ E_ nm_ by_ (nm_ M).cls q.2.1 q.2.2.2.1
set_option maxRecDepth 65536 in
theorem dc_0 : ∀ ch ∈ c_0, ∀ q ∈ ch.2, decode (by_ 0) q.1 = .ok (q.2.1, ilen q.2.1) := by decide +kernel
set_option maxRecDepth 65536 in
theorem v_0 {Z : State} {a0 : Array Value} (hw : ∀ d ∈ tables_1, d.before a0 Z = true) : ∀ ch ∈ c_0, ∀ q ∈ ch.2, Vd Z a0 0 q :=
  fc (P := fun ch : Nat × List (Nat × Ent) => ∀ q ∈ ch.2, Vd Z a0 0 q) (fc (P := fun q => Vd Z a0 0 q) ⟨trivial, trivial⟩
    (fc (P := fun q => Vd Z a0 0 q) ⟨trivial, trivial⟩
    (fc (P := fun q => Vd Z a0 0 q) ⟨trivial, trivial⟩
    (fc (P := fun q => Vd Z a0 0 q) ⟨trivial, trivial⟩
    (fc (P := fun q => Vd Z a0 0 q) ⟨trivial, trivial⟩
    (fc (P := fun q => Vd Z a0 0 q) ⟨trivial, trivial⟩
    (fc (P := fun q => Vd Z a0 0 q) ⟨trivial, trivial⟩
    (fc (P := fun q => Vd Z a0 0 q) ⟨trivial, trivial⟩
    (fn)))))))))
  (fc (P := fun ch : Nat × List (Nat × Ent) => ∀ q ∈ ch.2, Vd Z a0 0 q) (fc (P := fun q => Vd Z a0 0 q) ⟨trivial, trivial⟩
    (fc (P := fun q => Vd Z a0 0 q) ⟨trivial, trivial⟩
    (fc (P := fun q => Vd Z a0 0 q) ⟨trivial, trivial⟩
    (fc (P := fun q => Vd Z a0 0 q) ⟨trivial, trivial⟩
    (fc (P := fun q => Vd Z a0 0 q) ⟨trivial, trivial⟩
    (fc (P := fun q => Vd Z a0 0 q) ⟨trivial, trivial⟩
    (fc (P := fun q => Vd Z a0 0 q) ⟨trivial, trivial⟩
    (fc (P := fun q => Vd Z a0 0 q) ⟨trivial, trivial⟩
    (fn)))))))))
  (fc (P := fun ch : Nat × List (Nat × Ent) => ∀ q ∈ ch.2, Vd Z a0 0 q) (fc (P := fun q => Vd Z a0 0 q) ⟨trivial, trivial⟩
    (fc (P := fun q => Vd Z a0 0 q) ⟨trivial, trivial⟩
    (fc (P := fun q => Vd Z a0 0 q) ⟨trivial, trivial⟩
    (fc (P := fun q => Vd Z a0 0 q) ⟨trivial, trivial⟩
    (fc (P := fun q => Vd Z a0 0 q) ⟨trivial, trivial⟩
    (fc (P := fun q => Vd Z a0 0 q) ⟨trivial, trivial⟩
    (fc (P := fun q => Vd Z a0 0 q) ⟨trivial, trivial⟩
    (fc (P := fun q => Vd Z a0 0 q) ⟨trivial, trivial⟩
    (fn)))))))))
  (fc (P := fun ch : Nat × List (Nat × Ent) => ∀ q ∈ ch.2, Vd Z a0 0 q) (fc (P := fun q => Vd Z a0 0 q) ⟨trivial, trivial⟩
    (fc (P := fun q => Vd Z a0 0 q) ⟨trivial, trivial⟩
    (fc (P := fun q => Vd Z a0 0 q) ⟨trivial, trivial⟩
    (fc (P := fun q => Vd Z a0 0 q) ⟨trivial, trivial⟩
    (fc (P := fun q => Vd Z a0 0 q) ⟨trivial, trivial⟩
    (fc (P := fun q => Vd Z a0 0 q) ⟨trivial, trivial⟩
    (fc (P := fun q => Vd Z a0 0 q) ⟨trivial, trivial⟩
    (fc (P := fun q => Vd Z a0 0 q) ⟨trivial, trivial⟩
    (fn)))))))))
  (fc (P := fun ch : Nat × List (Nat × Ent) => ∀ q ∈ ch.2, Vd Z a0 0 q) (fc (P := fun q => Vd Z a0 0 q) ⟨trivial, trivial⟩
    (fc (P := fun q => Vd Z a0 0 q) ⟨trivial, trivial⟩
    (fc (P := fun q => Vd Z a0 0 q) ⟨trivial, trivial⟩
    (fc (P := fun q => Vd Z a0 0 q) ⟨trivial, trivial⟩
    (fc (P := fun q => Vd Z a0 0 q) ⟨trivial, trivial⟩
    (fc (P := fun q => Vd Z a0 0 q) ⟨trivial, trivial⟩
    (fc (P := fun q => Vd Z a0 0 q) ⟨trivial, trivial⟩
    (fc (P := fun q => Vd Z a0 0 q) ⟨trivial, trivial⟩
    (fn)))))))))
  (fc (P := fun ch : Nat × List (Nat × Ent) => ∀ q ∈ ch.2, Vd Z a0 0 q) (fc (P := fun q => Vd Z a0 0 q) ⟨trivial, trivial⟩
    (fc (P := fun q => Vd Z a0 0 q) ⟨trivial, trivial⟩
    (fc (P := fun q => Vd Z a0 0 q) ⟨trivial, trivial⟩
    (fc (P := fun q => Vd Z a0 0 q) ⟨(hw _ (List.mem_of_getElem? (i := 0) rfl)), trivial⟩
    (fc (P := fun q => Vd Z a0 0 q) ⟨trivial, trivial⟩
    (fc (P := fun q => Vd Z a0 0 q) ⟨trivial, trivial⟩
    (fc (P := fun q => Vd Z a0 0 q) ⟨trivial, trivial⟩
    (fc (P := fun q => Vd Z a0 0 q) ⟨trivial, trivial⟩
    (fn)))))))))
  (fc (P := fun ch : Nat × List (Nat × Ent) => ∀ q ∈ ch.2, Vd Z a0 0 q) (fc (P := fun q => Vd Z a0 0 q) ⟨(hw _ (List.mem_of_getElem? (i := 0) rfl)), trivial⟩
    (fc (P := fun q => Vd Z a0 0 q) ⟨trivial, trivial⟩
    (fc (P := fun q => Vd Z a0 0 q) ⟨trivial, trivial⟩
    (fc (P := fun q => Vd Z a0 0 q) ⟨trivial, trivial⟩
    (fc (P := fun q => Vd Z a0 0 q) ⟨trivial, trivial⟩
    (fc (P := fun q => Vd Z a0 0 q) ⟨(hw _ (List.mem_of_getElem? (i := 0) rfl)), trivial⟩
    (fc (P := fun q => Vd Z a0 0 q) ⟨trivial, trivial⟩
    (fc (P := fun q => Vd Z a0 0 q) ⟨trivial, trivial⟩
    (fn)))))))))
  (fc (P := fun ch : Nat × List (Nat × Ent) => ∀ q ∈ ch.2, Vd Z a0 0 q) (fc (P := fun q => Vd Z a0 0 q) ⟨trivial, trivial⟩
    (fc (P := fun q => Vd Z a0 0 q) ⟨trivial, trivial⟩
    (fc (P := fun q => Vd Z a0 0 q) ⟨(hw _ (List.mem_of_getElem? (i := 0) rfl)), trivial⟩
    (fc (P := fun q => Vd Z a0 0 q) ⟨trivial, trivial⟩
    (fc (P := fun q => Vd Z a0 0 q) ⟨trivial, trivial⟩
    (fc (P := fun q => Vd Z a0 0 q) ⟨trivial, trivial⟩
    (fc (P := fun q => Vd Z a0 0 q) ⟨trivial, trivial⟩
    (fc (P := fun q => Vd Z a0 0 q) ⟨⟨(hw _ (List.mem_of_getElem? (i := 1) rfl)), rfl⟩, trivial⟩
    (fn)))))))))
  (fc (P := fun ch : Nat × List (Nat × Ent) => ∀ q ∈ ch.2, Vd Z a0 0 q) (fc (P := fun q => Vd Z a0 0 q) ⟨trivial, trivial⟩
    (fc (P := fun q => Vd Z a0 0 q) ⟨trivial, trivial⟩
    (fc (P := fun q => Vd Z a0 0 q) ⟨trivial, trivial⟩
    (fc (P := fun q => Vd Z a0 0 q) ⟨trivial, trivial⟩
    (fc (P := fun q => Vd Z a0 0 q) ⟨trivial, trivial⟩
    (fc (P := fun q => Vd Z a0 0 q) ⟨trivial, trivial⟩
    (fc (P := fun q => Vd Z a0 0 q) ⟨trivial, trivial⟩
    (fc (P := fun q => Vd Z a0 0 q) ⟨trivial, trivial⟩
    (fn)))))))))
  (fc (P := fun ch : Nat × List (Nat × Ent) => ∀ q ∈ ch.2, Vd Z a0 0 q) (fc (P := fun q => Vd Z a0 0 q) ⟨trivial, trivial⟩
    (fc (P := fun q => Vd Z a0 0 q) ⟨trivial, trivial⟩
    (fc (P := fun q => Vd Z a0 0 q) ⟨trivial, trivial⟩
    (fc (P := fun q => Vd Z a0 0 q) ⟨trivial, trivial⟩
    (fc (P := fun q => Vd Z a0 0 q) ⟨trivial, trivial⟩
    (fc (P := fun q => Vd Z a0 0 q) ⟨trivial, trivial⟩
    (fc (P := fun q => Vd Z a0 0 q) ⟨trivial, trivial⟩
    (fc (P := fun q => Vd Z a0 0 q) ⟨trivial, trivial⟩
    (fn)))))))))
  (fc (P := fun ch : Nat × List (Nat × Ent) => ∀ q ∈ ch.2, Vd Z a0 0 q) (fc (P := fun q => Vd Z a0 0 q) ⟨trivial, trivial⟩
    (fc (P := fun q => Vd Z a0 0 q) ⟨trivial, trivial⟩
    (fc (P := fun q => Vd Z a0 0 q) ⟨trivial, trivial⟩
    (fc (P := fun q => Vd Z a0 0 q) ⟨trivial, trivial⟩
    (fc (P := fun q => Vd Z a0 0 q) ⟨trivial, trivial⟩
    (fc (P := fun q => Vd Z a0 0 q) ⟨trivial, trivial⟩
    (fc (P := fun q => Vd Z a0 0 q) ⟨trivial, trivial⟩
    (fc (P := fun q => Vd Z a0 0 q) ⟨trivial, trivial⟩
    (fn)))))))))
  (fc (P := fun ch : Nat × List (Nat × Ent) => ∀ q ∈ ch.2, Vd Z a0 0 q) (fc (P := fun q => Vd Z a0 0 q) ⟨trivial, trivial⟩
    (fc (P := fun q => Vd Z a0 0 q) ⟨trivial, trivial⟩
    (fc (P := fun q => Vd Z a0 0 q) ⟨trivial, trivial⟩
    (fc (P := fun q => Vd Z a0 0 q) ⟨trivial, trivial⟩
    (fc (P := fun q => Vd Z a0 0 q) ⟨trivial, trivial⟩
    (fc (P := fun q => Vd Z a0 0 q) ⟨trivial, trivial⟩
    (fc (P := fun q => Vd Z a0 0 q) ⟨trivial, trivial⟩
    (fc (P := fun q => Vd Z a0 0 q) ⟨trivial, trivial⟩
    (fn)))))))))
  (fc (P := fun ch : Nat × List (Nat × Ent) => ∀ q ∈ ch.2, Vd Z a0 0 q) (fc (P := fun q => Vd Z a0 0 q) ⟨trivial, trivial⟩
    (fc (P := fun q => Vd Z a0 0 q) ⟨trivial, trivial⟩
    (fc (P := fun q => Vd Z a0 0 q) ⟨trivial, trivial⟩
    (fc (P := fun q => Vd Z a0 0 q) ⟨trivial, trivial⟩
    (fc (P := fun q => Vd Z a0 0 q) ⟨trivial, trivial⟩
    (fc (P := fun q => Vd Z a0 0 q) ⟨trivial, trivial⟩
    (fc (P := fun q => Vd Z a0 0 q) ⟨⟨(hw _ (List.mem_of_getElem? (i := 1) rfl)), rfl⟩, trivial⟩
    (fc (P := fun q => Vd Z a0 0 q) ⟨trivial, trivial⟩
    (fn)))))))))
  (fc (P := fun ch : Nat × List (Nat × Ent) => ∀ q ∈ ch.2, Vd Z a0 0 q) (fc (P := fun q => Vd Z a0 0 q) ⟨trivial, trivial⟩
    (fc (P := fun q => Vd Z a0 0 q) ⟨⟨(hw _ (List.mem_of_getElem? (i := 2) rfl)), rfl⟩, trivial⟩
    (fc (P := fun q => Vd Z a0 0 q) ⟨trivial, trivial⟩
    (fc (P := fun q => Vd Z a0 0 q) ⟨trivial, trivial⟩
    (fc (P := fun q => Vd Z a0 0 q) ⟨trivial, trivial⟩
    (fc (P := fun q => Vd Z a0 0 q) ⟨trivial, trivial⟩
    (fc (P := fun q => Vd Z a0 0 q) ⟨trivial, trivial⟩
    (fc (P := fun q => Vd Z a0 0 q) ⟨trivial, trivial⟩
    (fn)))))))))
  (fc (P := fun ch : Nat × List (Nat × Ent) => ∀ q ∈ ch.2, Vd Z a0 0 q) (fc (P := fun q => Vd Z a0 0 q) ⟨trivial, trivial⟩
    (fc (P := fun q => Vd Z a0 0 q) ⟨trivial, trivial⟩
    (fc (P := fun q => Vd Z a0 0 q) ⟨trivial, trivial⟩
    (fc (P := fun q => Vd Z a0 0 q) ⟨trivial, trivial⟩
    (fc (P := fun q => Vd Z a0 0 q) ⟨trivial, trivial⟩
    (fc (P := fun q => Vd Z a0 0 q) ⟨trivial, trivial⟩
    (fc (P := fun q => Vd Z a0 0 q) ⟨trivial, trivial⟩
    (fc (P := fun q => Vd Z a0 0 q) ⟨trivial, trivial⟩
    (fn)))))))))
  (fc (P := fun ch : Nat × List (Nat × Ent) => ∀ q ∈ ch.2, Vd Z a0 0 q) (fc (P := fun q => Vd Z a0 0 q) ⟨trivial, trivial⟩
    (fc (P := fun q => Vd Z a0 0 q) ⟨trivial, trivial⟩
    (fc (P := fun q => Vd Z a0 0 q) ⟨trivial, trivial⟩
    (fc (P := fun q => Vd Z a0 0 q) ⟨trivial, trivial⟩
    (fc (P := fun q => Vd Z a0 0 q) ⟨trivial, trivial⟩
    (fc (P := fun q => Vd Z a0 0 q) ⟨trivial, trivial⟩
    (fc (P := fun q => Vd Z a0 0 q) ⟨trivial, trivial⟩
    (fc (P := fun q => Vd Z a0 0 q) ⟨trivial, trivial⟩
    (fn)))))))))
  (fc (P := fun ch : Nat × List (Nat × Ent) => ∀ q ∈ ch.2, Vd Z a0 0 q) (fc (P := fun q => Vd Z a0 0 q) ⟨trivial, trivial⟩
    (fc (P := fun q => Vd Z a0 0 q) ⟨trivial, trivial⟩
    (fc (P := fun q => Vd Z a0 0 q) ⟨trivial, trivial⟩
    (fc (P := fun q => Vd Z a0 0 q) ⟨trivial, trivial⟩
    (fc (P := fun q => Vd Z a0 0 q) ⟨trivial, trivial⟩
    (fc (P := fun q => Vd Z a0 0 q) ⟨trivial, trivial⟩
    (fc (P := fun q => Vd Z a0 0 q) ⟨trivial, trivial⟩
    (fc (P := fun q => Vd Z a0 0 q) ⟨trivial, trivial⟩
    (fn)))))))))
  (fc (P := fun ch : Nat × List (Nat × Ent) => ∀ q ∈ ch.2, Vd Z a0 0 q) (fc (P := fun q => Vd Z a0 0 q) ⟨trivial, trivial⟩
    (fc (P := fun q => Vd Z a0 0 q) ⟨trivial, trivial⟩
    (fc (P := fun q => Vd Z a0 0 q) ⟨trivial, trivial⟩
    (fc (P := fun q => Vd Z a0 0 q) ⟨trivial, trivial⟩
    (fc (P := fun q => Vd Z a0 0 q) ⟨trivial, trivial⟩
    (fc (P := fun q => Vd Z a0 0 q) ⟨trivial, trivial⟩
    (fc (P := fun q => Vd Z a0 0 q) ⟨trivial, trivial⟩
    (fc (P := fun q => Vd Z a0 0 q) ⟨trivial, trivial⟩
    (fn)))))))))
  (fc (P := fun ch : Nat × List (Nat × Ent) => ∀ q ∈ ch.2, Vd Z a0 0 q) (fc (P := fun q => Vd Z a0 0 q) ⟨trivial, trivial⟩
    (fc (P := fun q => Vd Z a0 0 q) ⟨trivial, trivial⟩
    (fc (P := fun q => Vd Z a0 0 q) ⟨trivial, trivial⟩
    (fc (P := fun q => Vd Z a0 0 q) ⟨trivial, trivial⟩
    (fc (P := fun q => Vd Z a0 0 q) ⟨trivial, trivial⟩
    (fc (P := fun q => Vd Z a0 0 q) ⟨trivial, trivial⟩
    (fc (P := fun q => Vd Z a0 0 q) ⟨trivial, trivial⟩
    (fc (P := fun q => Vd Z a0 0 q) ⟨trivial, trivial⟩
    (fn)))))))))
  (fc (P := fun ch : Nat × List (Nat × Ent) => ∀ q ∈ ch.2, Vd Z a0 0 q) (fc (P := fun q => Vd Z a0 0 q) ⟨trivial, trivial⟩
    (fc (P := fun q => Vd Z a0 0 q) ⟨trivial, trivial⟩
    (fc (P := fun q => Vd Z a0 0 q) ⟨trivial, trivial⟩
    (fc (P := fun q => Vd Z a0 0 q) ⟨trivial, trivial⟩
    (fc (P := fun q => Vd Z a0 0 q) ⟨trivial, trivial⟩
    (fc (P := fun q => Vd Z a0 0 q) ⟨trivial, trivial⟩
    (fc (P := fun q => Vd Z a0 0 q) ⟨trivial, trivial⟩
    (fc (P := fun q => Vd Z a0 0 q) ⟨trivial, trivial⟩
    (fn)))))))))
  (fc (P := fun ch : Nat × List (Nat × Ent) => ∀ q ∈ ch.2, Vd Z a0 0 q) (fc (P := fun q => Vd Z a0 0 q) ⟨trivial, trivial⟩
    (fc (P := fun q => Vd Z a0 0 q) ⟨trivial, trivial⟩
    (fc (P := fun q => Vd Z a0 0 q) ⟨trivial, trivial⟩
    (fc (P := fun q => Vd Z a0 0 q) ⟨trivial, trivial⟩
    (fc (P := fun q => Vd Z a0 0 q) ⟨trivial, trivial⟩
    (fc (P := fun q => Vd Z a0 0 q) ⟨trivial, trivial⟩
    (fc (P := fun q => Vd Z a0 0 q) ⟨trivial, trivial⟩
    (fc (P := fun q => Vd Z a0 0 q) ⟨trivial, trivial⟩
    (fn)))))))))
  (fc (P := fun ch : Nat × List (Nat × Ent) => ∀ q ∈ ch.2, Vd Z a0 0 q) (fc (P := fun q => Vd Z a0 0 q) ⟨trivial, trivial⟩
    (fc (P := fun q => Vd Z a0 0 q) ⟨trivial, trivial⟩
    (fc (P := fun q => Vd Z a0 0 q) ⟨trivial, trivial⟩
    (fc (P := fun q => Vd Z a0 0 q) ⟨trivial, trivial⟩
    (fc (P := fun q => Vd Z a0 0 q) ⟨trivial, trivial⟩
    (fc (P := fun q => Vd Z a0 0 q) ⟨trivial, trivial⟩
    (fc (P := fun q => Vd Z a0 0 q) ⟨trivial, trivial⟩
    (fc (P := fun q => Vd Z a0 0 q) ⟨trivial, trivial⟩
    (fn)))))))))
  (fc (P := fun ch : Nat × List (Nat × Ent) => ∀ q ∈ ch.2, Vd Z a0 0 q) (fc (P := fun q => Vd Z a0 0 q) ⟨trivial, trivial⟩
    (fc (P := fun q => Vd Z a0 0 q) ⟨trivial, trivial⟩
    (fc (P := fun q => Vd Z a0 0 q) ⟨trivial, trivial⟩
    (fc (P := fun q => Vd Z a0 0 q) ⟨trivial, trivial⟩
    (fc (P := fun q => Vd Z a0 0 q) ⟨trivial, trivial⟩
    (fc (P := fun q => Vd Z a0 0 q) ⟨trivial, trivial⟩
    (fc (P := fun q => Vd Z a0 0 q) ⟨trivial, trivial⟩
    (fc (P := fun q => Vd Z a0 0 q) ⟨trivial, trivial⟩
    (fn)))))))))
  (fc (P := fun ch : Nat × List (Nat × Ent) => ∀ q ∈ ch.2, Vd Z a0 0 q) (fc (P := fun q => Vd Z a0 0 q) ⟨trivial, trivial⟩
    (fc (P := fun q => Vd Z a0 0 q) ⟨trivial, trivial⟩
    (fc (P := fun q => Vd Z a0 0 q) ⟨trivial, trivial⟩
    (fc (P := fun q => Vd Z a0 0 q) ⟨trivial, trivial⟩
    (fc (P := fun q => Vd Z a0 0 q) ⟨trivial, trivial⟩
    (fc (P := fun q => Vd Z a0 0 q) ⟨trivial, trivial⟩
    (fc (P := fun q => Vd Z a0 0 q) ⟨trivial, trivial⟩
    (fc (P := fun q => Vd Z a0 0 q) ⟨trivial, trivial⟩
    (fn)))))))))
  (fc (P := fun ch : Nat × List (Nat × Ent) => ∀ q ∈ ch.2, Vd Z a0 0 q) (fc (P := fun q => Vd Z a0 0 q) ⟨trivial, trivial⟩
    (fc (P := fun q => Vd Z a0 0 q) ⟨trivial, trivial⟩
    (fc (P := fun q => Vd Z a0 0 q) ⟨trivial, trivial⟩
    (fc (P := fun q => Vd Z a0 0 q) ⟨⟨_, _, rfl, (hw _ (List.mem_of_getElem? (i := 3) rfl)), (hw _ (List.mem_of_getElem? (i := 4) rfl)), (hw _ (List.mem_of_getElem? (i := 5) rfl)), rfl⟩, trivial⟩
    (fc (P := fun q => Vd Z a0 0 q) ⟨trivial, trivial⟩
    (fc (P := fun q => Vd Z a0 0 q) ⟨trivial, trivial⟩
    (fc (P := fun q => Vd Z a0 0 q) ⟨trivial, trivial⟩
    (fc (P := fun q => Vd Z a0 0 q) ⟨trivial, trivial⟩
    (fn)))))))))
  (fc (P := fun ch : Nat × List (Nat × Ent) => ∀ q ∈ ch.2, Vd Z a0 0 q) (fc (P := fun q => Vd Z a0 0 q) ⟨trivial, ⟨rfl, (hw _ (List.mem_of_getElem? (i := 6) rfl)), (hw _ (List.mem_of_getElem? (i := 7) rfl)), (hw _ (List.mem_of_getElem? (i := 5) rfl)), (hw _ (List.mem_of_getElem? (i := 8) rfl)), rfl, ⟨by decide, by decide⟩, ⟨_, _, rfl, rfl⟩, pl_1⟩⟩
    (fc (P := fun q => Vd Z a0 0 q) ⟨trivial, trivial⟩
    (fc (P := fun q => Vd Z a0 0 q) ⟨trivial, trivial⟩
    (fc (P := fun q => Vd Z a0 0 q) ⟨trivial, trivial⟩
    (fc (P := fun q => Vd Z a0 0 q) ⟨trivial, trivial⟩
    (fc (P := fun q => Vd Z a0 0 q) ⟨trivial, trivial⟩
    (fc (P := fun q => Vd Z a0 0 q) ⟨trivial, trivial⟩
    (fc (P := fun q => Vd Z a0 0 q) ⟨trivial, trivial⟩
    (fn)))))))))
  (fc (P := fun ch : Nat × List (Nat × Ent) => ∀ q ∈ ch.2, Vd Z a0 0 q) (fc (P := fun q => Vd Z a0 0 q) ⟨trivial, trivial⟩
    (fc (P := fun q => Vd Z a0 0 q) ⟨trivial, trivial⟩
    (fc (P := fun q => Vd Z a0 0 q) ⟨trivial, trivial⟩
    (fc (P := fun q => Vd Z a0 0 q) ⟨trivial, trivial⟩
    (fc (P := fun q => Vd Z a0 0 q) ⟨trivial, trivial⟩
    (fc (P := fun q => Vd Z a0 0 q) ⟨trivial, trivial⟩
    (fc (P := fun q => Vd Z a0 0 q) ⟨trivial, trivial⟩
    (fc (P := fun q => Vd Z a0 0 q) ⟨trivial, trivial⟩
    (fn)))))))))
  (fc (P := fun ch : Nat × List (Nat × Ent) => ∀ q ∈ ch.2, Vd Z a0 0 q) (fc (P := fun q => Vd Z a0 0 q) ⟨trivial, trivial⟩
    (fc (P := fun q => Vd Z a0 0 q) ⟨trivial, trivial⟩
    (fc (P := fun q => Vd Z a0 0 q) ⟨trivial, trivial⟩
    (fc (P := fun q => Vd Z a0 0 q) ⟨trivial, trivial⟩
    (fc (P := fun q => Vd Z a0 0 q) ⟨trivial, trivial⟩
    (fc (P := fun q => Vd Z a0 0 q) ⟨trivial, trivial⟩
    (fc (P := fun q => Vd Z a0 0 q) ⟨trivial, trivial⟩
    (fc (P := fun q => Vd Z a0 0 q) ⟨trivial, trivial⟩
    (fn)))))))))
  (fc (P := fun ch : Nat × List (Nat × Ent) => ∀ q ∈ ch.2, Vd Z a0 0 q) (fc (P := fun q => Vd Z a0 0 q) ⟨trivial, trivial⟩
    (fc (P := fun q => Vd Z a0 0 q) ⟨trivial, trivial⟩
    (fc (P := fun q => Vd Z a0 0 q) ⟨trivial, trivial⟩
    (fc (P := fun q => Vd Z a0 0 q) ⟨trivial, trivial⟩
    (fc (P := fun q => Vd Z a0 0 q) ⟨trivial, trivial⟩
    (fc (P := fun q => Vd Z a0 0 q) ⟨trivial, trivial⟩
    (fc (P := fun q => Vd Z a0 0 q) ⟨trivial, trivial⟩
    (fc (P := fun q => Vd Z a0 0 q) ⟨trivial, trivial⟩
    (fn)))))))))
  (fc (P := fun ch : Nat × List (Nat × Ent) => ∀ q ∈ ch.2, Vd Z a0 0 q) (fc (P := fun q => Vd Z a0 0 q) ⟨trivial, trivial⟩
    (fc (P := fun q => Vd Z a0 0 q) ⟨trivial, trivial⟩
    (fc (P := fun q => Vd Z a0 0 q) ⟨trivial, trivial⟩
    (fc (P := fun q => Vd Z a0 0 q) ⟨trivial, trivial⟩
    (fc (P := fun q => Vd Z a0 0 q) ⟨trivial, trivial⟩
    (fc (P := fun q => Vd Z a0 0 q) ⟨trivial, trivial⟩
    (fc (P := fun q => Vd Z a0 0 q) ⟨trivial, trivial⟩
    (fc (P := fun q => Vd Z a0 0 q) ⟨trivial, trivial⟩
    (fn)))))))))
  (fc (P := fun ch : Nat × List (Nat × Ent) => ∀ q ∈ ch.2, Vd Z a0 0 q) (fc (P := fun q => Vd Z a0 0 q) ⟨trivial, trivial⟩
    (fc (P := fun q => Vd Z a0 0 q) ⟨trivial, trivial⟩
    (fc (P := fun q => Vd Z a0 0 q) ⟨trivial, trivial⟩
    (fc (P := fun q => Vd Z a0 0 q) ⟨trivial, trivial⟩
    (fc (P := fun q => Vd Z a0 0 q) ⟨trivial, trivial⟩
    (fc (P := fun q => Vd Z a0 0 q) ⟨trivial, trivial⟩
    (fc (P := fun q => Vd Z a0 0 q) ⟨trivial, trivial⟩
    (fc (P := fun q => Vd Z a0 0 q) ⟨trivial, trivial⟩
    (fn)))))))))
  (fc (P := fun ch : Nat × List (Nat × Ent) => ∀ q ∈ ch.2, Vd Z a0 0 q) (fc (P := fun q => Vd Z a0 0 q) ⟨trivial, trivial⟩
    (fc (P := fun q => Vd Z a0 0 q) ⟨trivial, trivial⟩
    (fc (P := fun q => Vd Z a0 0 q) ⟨trivial, trivial⟩
    (fc (P := fun q => Vd Z a0 0 q) ⟨trivial, trivial⟩
    (fc (P := fun q => Vd Z a0 0 q) ⟨trivial, trivial⟩
    (fc (P := fun q => Vd Z a0 0 q) ⟨trivial, trivial⟩
    (fc (P := fun q => Vd Z a0 0 q) ⟨trivial, trivial⟩
    (fc (P := fun q => Vd Z a0 0 q) ⟨trivial, trivial⟩
    (fn)))))))))
  (fc (P := fun ch : Nat × List (Nat × Ent) => ∀ q ∈ ch.2, Vd Z a0 0 q) (fc (P := fun q => Vd Z a0 0 q) ⟨trivial, trivial⟩
    (fc (P := fun q => Vd Z a0 0 q) ⟨trivial, ⟨_, (hw _ (List.mem_of_getElem? (i := 58) rfl)), (hw _ (List.mem_of_getElem? (i := 59) rfl)), fun s hZ => notFace_of_selects (args := #[]) (mvT hZ (hw _ (List.mem_of_getElem? (i := 61) rfl))), ⟨by decide, by decide⟩, ⟨_, _, rfl, rfl⟩, fun k b hl => by obtain ⟨rfl, rfl⟩ := look1 hl; exact ⟨_, _, rfl, (hw _ (List.mem_of_getElem? (i := 61) rfl)), (hw _ (List.mem_of_getElem? (i := 60) rfl)), (hw _ (List.mem_of_getElem? (i := 62) rfl)), (hw _ (List.mem_of_getElem? (i := 5) rfl)), pl_6⟩⟩⟩
    (fc (P := fun q => Vd Z a0 0 q) ⟨trivial, trivial⟩
    (fc (P := fun q => Vd Z a0 0 q) ⟨trivial, trivial⟩
    (fc (P := fun q => Vd Z a0 0 q) ⟨trivial, trivial⟩
    (fc (P := fun q => Vd Z a0 0 q) ⟨trivial, trivial⟩
    (fc (P := fun q => Vd Z a0 0 q) ⟨trivial, trivial⟩
    (fc (P := fun q => Vd Z a0 0 q) ⟨trivial, trivial⟩
    (fn)))))))))
  (fc (P := fun ch : Nat × List (Nat × Ent) => ∀ q ∈ ch.2, Vd Z a0 0 q) (fc (P := fun q => Vd Z a0 0 q) ⟨trivial, trivial⟩
    (fc (P := fun q => Vd Z a0 0 q) ⟨trivial, trivial⟩
    (fn)))
  (fn))))))))))))))))))))))))))))))))))
set_option maxRecDepth 65536 in
theorem dc_1 : ∀ ch ∈ c_1, ∀ q ∈ ch.2, decode (by_ 1) q.1 = .ok (q.2.1, ilen q.2.1) := by decide +kernel
set_option maxRecDepth 65536 in
theorem v_1 {Z : State} {a0 : Array Value} (hw : ∀ d ∈ tables_1, d.before a0 Z = true) : ∀ ch ∈ c_1, ∀ q ∈ ch.2, Vd Z a0 1 q :=
  fc (P := fun ch : Nat × List (Nat × Ent) => ∀ q ∈ ch.2, Vd Z a0 1 q) (fc (P := fun q => Vd Z a0 1 q) ⟨trivial, trivial⟩
    (fc (P := fun q => Vd Z a0 1 q) ⟨⟨(hw _ (List.mem_of_getElem? (i := 9) rfl)), (hw _ (List.mem_of_getElem? (i := 10) rfl)), (hw _ (List.mem_of_getElem? (i := 11) rfl))⟩, trivial⟩
    (fc (P := fun q => Vd Z a0 1 q) ⟨trivial, trivial⟩
    (fc (P := fun q => Vd Z a0 1 q) ⟨trivial, trivial⟩
    (fc (P := fun q => Vd Z a0 1 q) ⟨trivial, trivial⟩
    (fc (P := fun q => Vd Z a0 1 q) ⟨trivial, trivial⟩
    (fc (P := fun q => Vd Z a0 1 q) ⟨trivial, trivial⟩
    (fc (P := fun q => Vd Z a0 1 q) ⟨trivial, trivial⟩
    (fn)))))))))
  (fc (P := fun ch : Nat × List (Nat × Ent) => ∀ q ∈ ch.2, Vd Z a0 1 q) (fc (P := fun q => Vd Z a0 1 q) ⟨trivial, trivial⟩
    (fc (P := fun q => Vd Z a0 1 q) ⟨trivial, trivial⟩
    (fc (P := fun q => Vd Z a0 1 q) ⟨trivial, trivial⟩
    (fc (P := fun q => Vd Z a0 1 q) ⟨trivial, trivial⟩
    (fc (P := fun q => Vd Z a0 1 q) ⟨trivial, trivial⟩
    (fc (P := fun q => Vd Z a0 1 q) ⟨trivial, trivial⟩
    (fc (P := fun q => Vd Z a0 1 q) ⟨trivial, trivial⟩
    (fc (P := fun q => Vd Z a0 1 q) ⟨trivial, trivial⟩
    (fn)))))))))
  (fc (P := fun ch : Nat × List (Nat × Ent) => ∀ q ∈ ch.2, Vd Z a0 1 q) (fc (P := fun q => Vd Z a0 1 q) ⟨trivial, trivial⟩
    (fc (P := fun q => Vd Z a0 1 q) ⟨trivial, trivial⟩
    (fc (P := fun q => Vd Z a0 1 q) ⟨trivial, trivial⟩
    (fc (P := fun q => Vd Z a0 1 q) ⟨trivial, trivial⟩
    (fc (P := fun q => Vd Z a0 1 q) ⟨trivial, trivial⟩
    (fc (P := fun q => Vd Z a0 1 q) ⟨trivial, trivial⟩
    (fc (P := fun q => Vd Z a0 1 q) ⟨trivial, trivial⟩
    (fc (P := fun q => Vd Z a0 1 q) ⟨trivial, trivial⟩
    (fn)))))))))
  (fc (P := fun ch : Nat × List (Nat × Ent) => ∀ q ∈ ch.2, Vd Z a0 1 q) (fc (P := fun q => Vd Z a0 1 q) ⟨trivial, trivial⟩
    (fc (P := fun q => Vd Z a0 1 q) ⟨trivial, trivial⟩
    (fc (P := fun q => Vd Z a0 1 q) ⟨trivial, trivial⟩
    (fc (P := fun q => Vd Z a0 1 q) ⟨trivial, trivial⟩
    (fc (P := fun q => Vd Z a0 1 q) ⟨trivial, trivial⟩
    (fc (P := fun q => Vd Z a0 1 q) ⟨trivial, trivial⟩
    (fc (P := fun q => Vd Z a0 1 q) ⟨trivial, trivial⟩
    (fc (P := fun q => Vd Z a0 1 q) ⟨trivial, trivial⟩
    (fn)))))))))
  (fc (P := fun ch : Nat × List (Nat × Ent) => ∀ q ∈ ch.2, Vd Z a0 1 q) (fc (P := fun q => Vd Z a0 1 q) ⟨trivial, trivial⟩
    (fc (P := fun q => Vd Z a0 1 q) ⟨trivial, trivial⟩
    (fc (P := fun q => Vd Z a0 1 q) ⟨trivial, trivial⟩
    (fc (P := fun q => Vd Z a0 1 q) ⟨trivial, trivial⟩
    (fc (P := fun q => Vd Z a0 1 q) ⟨trivial, trivial⟩
    (fc (P := fun q => Vd Z a0 1 q) ⟨trivial, trivial⟩
    (fc (P := fun q => Vd Z a0 1 q) ⟨trivial, trivial⟩
    (fc (P := fun q => Vd Z a0 1 q) ⟨trivial, trivial⟩
    (fn)))))))))
  (fc (P := fun ch : Nat × List (Nat × Ent) => ∀ q ∈ ch.2, Vd Z a0 1 q) (fc (P := fun q => Vd Z a0 1 q) ⟨trivial, trivial⟩
    (fc (P := fun q => Vd Z a0 1 q) ⟨trivial, trivial⟩
    (fc (P := fun q => Vd Z a0 1 q) ⟨trivial, trivial⟩
    (fc (P := fun q => Vd Z a0 1 q) ⟨trivial, trivial⟩
    (fc (P := fun q => Vd Z a0 1 q) ⟨trivial, trivial⟩
    (fc (P := fun q => Vd Z a0 1 q) ⟨trivial, trivial⟩
    (fc (P := fun q => Vd Z a0 1 q) ⟨trivial, trivial⟩
    (fc (P := fun q => Vd Z a0 1 q) ⟨trivial, trivial⟩
    (fn)))))))))
  (fc (P := fun ch : Nat × List (Nat × Ent) => ∀ q ∈ ch.2, Vd Z a0 1 q) (fc (P := fun q => Vd Z a0 1 q) ⟨trivial, trivial⟩
    (fc (P := fun q => Vd Z a0 1 q) ⟨trivial, trivial⟩
    (fc (P := fun q => Vd Z a0 1 q) ⟨trivial, trivial⟩
    (fc (P := fun q => Vd Z a0 1 q) ⟨trivial, trivial⟩
    (fc (P := fun q => Vd Z a0 1 q) ⟨trivial, trivial⟩
    (fc (P := fun q => Vd Z a0 1 q) ⟨trivial, trivial⟩
    (fc (P := fun q => Vd Z a0 1 q) ⟨trivial, trivial⟩
    (fc (P := fun q => Vd Z a0 1 q) ⟨trivial, trivial⟩
    (fn)))))))))
  (fc (P := fun ch : Nat × List (Nat × Ent) => ∀ q ∈ ch.2, Vd Z a0 1 q) (fc (P := fun q => Vd Z a0 1 q) ⟨trivial, trivial⟩
    (fc (P := fun q => Vd Z a0 1 q) ⟨trivial, trivial⟩
    (fc (P := fun q => Vd Z a0 1 q) ⟨trivial, trivial⟩
    (fc (P := fun q => Vd Z a0 1 q) ⟨trivial, trivial⟩
    (fc (P := fun q => Vd Z a0 1 q) ⟨trivial, trivial⟩
    (fc (P := fun q => Vd Z a0 1 q) ⟨trivial, ⟨(hw _ (List.mem_of_getElem? (i := 12) rfl)), (hw _ (List.mem_of_getElem? (i := 13) rfl)), (hw _ (List.mem_of_getElem? (i := 14) rfl)), (hw _ (List.mem_of_getElem? (i := 15) rfl)), ⟨by decide, by decide⟩, ⟨_, _, rfl, rfl⟩, pl_2⟩⟩
    (fc (P := fun q => Vd Z a0 1 q) ⟨trivial, trivial⟩
    (fc (P := fun q => Vd Z a0 1 q) ⟨trivial, trivial⟩
    (fn)))))))))
  (fc (P := fun ch : Nat × List (Nat × Ent) => ∀ q ∈ ch.2, Vd Z a0 1 q) (fc (P := fun q => Vd Z a0 1 q) ⟨trivial, trivial⟩
    (fc (P := fun q => Vd Z a0 1 q) ⟨trivial, trivial⟩
    (fc (P := fun q => Vd Z a0 1 q) ⟨trivial, trivial⟩
    (fc (P := fun q => Vd Z a0 1 q) ⟨trivial, trivial⟩
    (fc (P := fun q => Vd Z a0 1 q) ⟨trivial, trivial⟩
    (fc (P := fun q => Vd Z a0 1 q) ⟨trivial, trivial⟩
    (fc (P := fun q => Vd Z a0 1 q) ⟨trivial, trivial⟩
    (fc (P := fun q => Vd Z a0 1 q) ⟨trivial, trivial⟩
    (fn)))))))))
  (fc (P := fun ch : Nat × List (Nat × Ent) => ∀ q ∈ ch.2, Vd Z a0 1 q) (fc (P := fun q => Vd Z a0 1 q) ⟨trivial, trivial⟩
    (fc (P := fun q => Vd Z a0 1 q) ⟨trivial, trivial⟩
    (fc (P := fun q => Vd Z a0 1 q) ⟨trivial, trivial⟩
    (fc (P := fun q => Vd Z a0 1 q) ⟨trivial, trivial⟩
    (fc (P := fun q => Vd Z a0 1 q) ⟨trivial, trivial⟩
    (fc (P := fun q => Vd Z a0 1 q) ⟨trivial, trivial⟩
    (fc (P := fun q => Vd Z a0 1 q) ⟨trivial, trivial⟩
    (fc (P := fun q => Vd Z a0 1 q) ⟨trivial, trivial⟩
    (fn)))))))))
  (fc (P := fun ch : Nat × List (Nat × Ent) => ∀ q ∈ ch.2, Vd Z a0 1 q) (fc (P := fun q => Vd Z a0 1 q) ⟨trivial, trivial⟩
    (fc (P := fun q => Vd Z a0 1 q) ⟨trivial, trivial⟩
    (fc (P := fun q => Vd Z a0 1 q) ⟨trivial, trivial⟩
    (fc (P := fun q => Vd Z a0 1 q) ⟨trivial, trivial⟩
    (fc (P := fun q => Vd Z a0 1 q) ⟨trivial, trivial⟩
    (fc (P := fun q => Vd Z a0 1 q) ⟨trivial, trivial⟩
    (fc (P := fun q => Vd Z a0 1 q) ⟨trivial, trivial⟩
    (fc (P := fun q => Vd Z a0 1 q) ⟨trivial, trivial⟩
    (fn)))))))))
  (fc (P := fun ch : Nat × List (Nat × Ent) => ∀ q ∈ ch.2, Vd Z a0 1 q) (fc (P := fun q => Vd Z a0 1 q) ⟨trivial, trivial⟩
    (fc (P := fun q => Vd Z a0 1 q) ⟨trivial, trivial⟩
    (fc (P := fun q => Vd Z a0 1 q) ⟨trivial, trivial⟩
    (fc (P := fun q => Vd Z a0 1 q) ⟨trivial, trivial⟩
    (fc (P := fun q => Vd Z a0 1 q) ⟨⟨_, _, _, _, _, rfl, rfl, (hw _ (List.mem_of_getElem? (i := 21) rfl)), Via.refl, Or.inr ⟨(hw _ (List.mem_of_getElem? (i := 22) rfl)), rfl, rfl⟩, (hw _ (List.mem_of_getElem? (i := 4) rfl)), rfl⟩, trivial⟩
    (fc (P := fun q => Vd Z a0 1 q) ⟨trivial, trivial⟩
    (fc (P := fun q => Vd Z a0 1 q) ⟨trivial, trivial⟩
    (fc (P := fun q => Vd Z a0 1 q) ⟨⟨_, _, rfl, rfl, (hw _ (List.mem_of_getElem? (i := 23) rfl)), (hw _ (List.mem_of_getElem? (i := 24) rfl)), (hw _ (List.mem_of_getElem? (i := 28) rfl)), (hw _ (List.mem_of_getElem? (i := 26) rfl)), (hw _ (List.mem_of_getElem? (i := 27) rfl)), (hw _ (List.mem_of_getElem? (i := 29) rfl))⟩, trivial⟩
    (fn)))))))))
  (fc (P := fun ch : Nat × List (Nat × Ent) => ∀ q ∈ ch.2, Vd Z a0 1 q) (fc (P := fun q => Vd Z a0 1 q) ⟨⟨_, (hw _ (List.mem_of_getElem? (i := 30) rfl)), fc (⟨_, rfl, (hw _ (List.mem_of_getElem? (i := 31) rfl))⟩) (fn)⟩, trivial⟩
    (fc (P := fun q => Vd Z a0 1 q) ⟨⟨_, _, _, _, _, rfl, rfl, (hw _ (List.mem_of_getElem? (i := 32) rfl)), Via.refl, Or.inr ⟨(hw _ (List.mem_of_getElem? (i := 33) rfl)), rfl, rfl⟩, (hw _ (List.mem_of_getElem? (i := 4) rfl)), rfl⟩, trivial⟩
    (fc (P := fun q => Vd Z a0 1 q) ⟨trivial, trivial⟩
    (fc (P := fun q => Vd Z a0 1 q) ⟨trivial, trivial⟩
    (fc (P := fun q => Vd Z a0 1 q) ⟨⟨_, _, rfl, rfl, (hw _ (List.mem_of_getElem? (i := 34) rfl)), (hw _ (List.mem_of_getElem? (i := 35) rfl)), (hw _ (List.mem_of_getElem? (i := 28) rfl)), (hw _ (List.mem_of_getElem? (i := 26) rfl)), (hw _ (List.mem_of_getElem? (i := 36) rfl)), (hw _ (List.mem_of_getElem? (i := 37) rfl))⟩, trivial⟩
    (fc (P := fun q => Vd Z a0 1 q) ⟨⟨_, (hw _ (List.mem_of_getElem? (i := 38) rfl)), fc (⟨_, rfl, (hw _ (List.mem_of_getElem? (i := 39) rfl))⟩) (fn)⟩, trivial⟩
    (fc (P := fun q => Vd Z a0 1 q) ⟨⟨_, _, _, _, _, rfl, rfl, (hw _ (List.mem_of_getElem? (i := 40) rfl)), Via.refl, Or.inr ⟨(hw _ (List.mem_of_getElem? (i := 41) rfl)), rfl, rfl⟩, (hw _ (List.mem_of_getElem? (i := 4) rfl)), rfl⟩, trivial⟩
    (fc (P := fun q => Vd Z a0 1 q) ⟨trivial, trivial⟩
    (fn)))))))))
  (fc (P := fun ch : Nat × List (Nat × Ent) => ∀ q ∈ ch.2, Vd Z a0 1 q) (fc (P := fun q => Vd Z a0 1 q) ⟨trivial, trivial⟩
    (fc (P := fun q => Vd Z a0 1 q) ⟨⟨_, _, _, _, _, rfl, rfl, (hw _ (List.mem_of_getElem? (i := 42) rfl)), Via.refl, Or.inr ⟨(hw _ (List.mem_of_getElem? (i := 43) rfl)), rfl, rfl⟩, (hw _ (List.mem_of_getElem? (i := 4) rfl)), rfl⟩, trivial⟩
    (fc (P := fun q => Vd Z a0 1 q) ⟨trivial, trivial⟩
    (fc (P := fun q => Vd Z a0 1 q) ⟨trivial, trivial⟩
    (fc (P := fun q => Vd Z a0 1 q) ⟨⟨_, _, _, _, rfl, rfl, (hw _ (List.mem_of_getElem? (i := 32) rfl)), Via.refl⟩, trivial⟩
    (fc (P := fun q => Vd Z a0 1 q) ⟨trivial, trivial⟩
    (fc (P := fun q => Vd Z a0 1 q) ⟨trivial, ⟨(hw _ (List.mem_of_getElem? (i := 44) rfl)), (hw _ (List.mem_of_getElem? (i := 45) rfl)), (hw _ (List.mem_of_getElem? (i := 5) rfl)), (hw _ (List.mem_of_getElem? (i := 46) rfl)), ⟨by decide, by decide⟩, ⟨_, _, rfl, rfl⟩, pl_3⟩⟩
    (fc (P := fun q => Vd Z a0 1 q) ⟨⟨_, _, _, _, _, rfl, rfl, (hw _ (List.mem_of_getElem? (i := 51) rfl)), Via.refl, Or.inr ⟨(hw _ (List.mem_of_getElem? (i := 52) rfl)), rfl, rfl⟩, (hw _ (List.mem_of_getElem? (i := 4) rfl)), rfl⟩, trivial⟩
    (fn)))))))))
  (fc (P := fun ch : Nat × List (Nat × Ent) => ∀ q ∈ ch.2, Vd Z a0 1 q) (fc (P := fun q => Vd Z a0 1 q) ⟨trivial, trivial⟩
    (fc (P := fun q => Vd Z a0 1 q) ⟨trivial, trivial⟩
    (fc (P := fun q => Vd Z a0 1 q) ⟨trivial, trivial⟩
    (fc (P := fun q => Vd Z a0 1 q) ⟨⟨_, _, _, _, rfl, rfl, (hw _ (List.mem_of_getElem? (i := 51) rfl)), Via.refl⟩, trivial⟩
    (fc (P := fun q => Vd Z a0 1 q) ⟨trivial, trivial⟩
    (fc (P := fun q => Vd Z a0 1 q) ⟨trivial, trivial⟩
    (fc (P := fun q => Vd Z a0 1 q) ⟨trivial, trivial⟩
    (fc (P := fun q => Vd Z a0 1 q) ⟨trivial, trivial⟩
    (fn)))))))))
  (fc (P := fun ch : Nat × List (Nat × Ent) => ∀ q ∈ ch.2, Vd Z a0 1 q) (fc (P := fun q => Vd Z a0 1 q) ⟨trivial, trivial⟩
    (fc (P := fun q => Vd Z a0 1 q) ⟨trivial, trivial⟩
    (fc (P := fun q => Vd Z a0 1 q) ⟨trivial, trivial⟩
    (fc (P := fun q => Vd Z a0 1 q) ⟨trivial, trivial⟩
    (fc (P := fun q => Vd Z a0 1 q) ⟨trivial, trivial⟩
    (fc (P := fun q => Vd Z a0 1 q) ⟨trivial, trivial⟩
    (fc (P := fun q => Vd Z a0 1 q) ⟨trivial, trivial⟩
    (fc (P := fun q => Vd Z a0 1 q) ⟨trivial, trivial⟩
    (fn)))))))))
  (fc (P := fun ch : Nat × List (Nat × Ent) => ∀ q ∈ ch.2, Vd Z a0 1 q) (fc (P := fun q => Vd Z a0 1 q) ⟨trivial, trivial⟩
    (fc (P := fun q => Vd Z a0 1 q) ⟨trivial, trivial⟩
    (fc (P := fun q => Vd Z a0 1 q) ⟨trivial, trivial⟩
    (fc (P := fun q => Vd Z a0 1 q) ⟨trivial, ⟨(hw _ (List.mem_of_getElem? (i := 53) rfl)), (hw _ (List.mem_of_getElem? (i := 54) rfl)), (hw _ (List.mem_of_getElem? (i := 18) rfl)), (hw _ (List.mem_of_getElem? (i := 55) rfl)), ⟨by decide, by decide⟩, ⟨_, _, rfl, rfl⟩, pl_5⟩⟩
    (fc (P := fun q => Vd Z a0 1 q) ⟨trivial, trivial⟩
    (fc (P := fun q => Vd Z a0 1 q) ⟨trivial, trivial⟩
    (fc (P := fun q => Vd Z a0 1 q) ⟨trivial, trivial⟩
    (fc (P := fun q => Vd Z a0 1 q) ⟨trivial, trivial⟩
    (fn)))))))))
  (fc (P := fun ch : Nat × List (Nat × Ent) => ∀ q ∈ ch.2, Vd Z a0 1 q) (fc (P := fun q => Vd Z a0 1 q) ⟨trivial, trivial⟩
    (fc (P := fun q => Vd Z a0 1 q) ⟨trivial, trivial⟩
    (fc (P := fun q => Vd Z a0 1 q) ⟨trivial, trivial⟩
    (fc (P := fun q => Vd Z a0 1 q) ⟨⟨_, _, _, _, _, rfl, rfl, (hw _ (List.mem_of_getElem? (i := 56) rfl)), Via.refl, Or.inr ⟨(hw _ (List.mem_of_getElem? (i := 57) rfl)), rfl, rfl⟩, (hw _ (List.mem_of_getElem? (i := 4) rfl)), rfl⟩, trivial⟩
    (fc (P := fun q => Vd Z a0 1 q) ⟨trivial, trivial⟩
    (fn))))))
  (fn))))))))))))))))))
set_option maxRecDepth 65536 in
theorem dc_2 : ∀ ch ∈ c_2, ∀ q ∈ ch.2, decode (by_ 2) q.1 = .ok (q.2.1, ilen q.2.1) := by decide +kernel
set_option maxRecDepth 65536 in
theorem v_2 {Z : State} {a0 : Array Value} (hw : ∀ d ∈ tables_1, d.before a0 Z = true) : ∀ ch ∈ c_2, ∀ q ∈ ch.2, Vd Z a0 2 q :=
  fc (P := fun ch : Nat × List (Nat × Ent) => ∀ q ∈ ch.2, Vd Z a0 2 q) (fc (P := fun q => Vd Z a0 2 q) ⟨trivial, trivial⟩
    (fc (P := fun q => Vd Z a0 2 q) ⟨⟨_, _, _, (hw _ (List.mem_of_getElem? (i := 16) rfl)), (hw _ (List.mem_of_getElem? (i := 17) rfl)), (hw _ (List.mem_of_getElem? (i := 18) rfl)), fc (⟨rfl, (hw _ (List.mem_of_getElem? (i := 19) rfl))⟩) (fn), List.mem_cons_self .., Or.inl ⟨_, _, _, rfl⟩, ⟨by decide, by decide⟩, ⟨_, _, rfl, rfl⟩, abs_ok⟩, trivial⟩
    (fc (P := fun q => Vd Z a0 2 q) ⟨(hw _ (List.mem_of_getElem? (i := 20) rfl)), trivial⟩
    (fc (P := fun q => Vd Z a0 2 q) ⟨trivial, trivial⟩
    (fc (P := fun q => Vd Z a0 2 q) ⟨trivial, trivial⟩
    (fc (P := fun q => Vd Z a0 2 q) ⟨trivial, trivial⟩
    (fc (P := fun q => Vd Z a0 2 q) ⟨trivial, trivial⟩
    (fc (P := fun q => Vd Z a0 2 q) ⟨trivial, trivial⟩
    (fn)))))))))
  (fc (P := fun ch : Nat × List (Nat × Ent) => ∀ q ∈ ch.2, Vd Z a0 2 q) (fc (P := fun q => Vd Z a0 2 q) ⟨trivial, trivial⟩
    (fn))
  (fn))
set_option maxRecDepth 65536 in
theorem dc_3 : ∀ ch ∈ c_3, ∀ q ∈ ch.2, decode (by_ 3) q.1 = .ok (q.2.1, ilen q.2.1) := by decide +kernel
set_option maxRecDepth 65536 in
theorem v_3 {Z : State} {a0 : Array Value} (hw : ∀ d ∈ tables_1, d.before a0 Z = true) : ∀ ch ∈ c_3, ∀ q ∈ ch.2, Vd Z a0 3 q :=
  fc (P := fun ch : Nat × List (Nat × Ent) => ∀ q ∈ ch.2, Vd Z a0 3 q) (fc (P := fun q => Vd Z a0 3 q) ⟨trivial, trivial⟩
    (fc (P := fun q => Vd Z a0 3 q) ⟨trivial, trivial⟩
    (fc (P := fun q => Vd Z a0 3 q) ⟨⟨(hw _ (List.mem_of_getElem? (i := 1) rfl)), rfl⟩, trivial⟩
    (fc (P := fun q => Vd Z a0 3 q) ⟨trivial, trivial⟩
    (fc (P := fun q => Vd Z a0 3 q) ⟨trivial, trivial⟩
    (fc (P := fun q => Vd Z a0 3 q) ⟨trivial, trivial⟩
    (fc (P := fun q => Vd Z a0 3 q) ⟨trivial, ⟨(hw _ (List.mem_of_getElem? (i := 47) rfl)), (hw _ (List.mem_of_getElem? (i := 48) rfl)), (hw _ (List.mem_of_getElem? (i := 49) rfl)), (hw _ (List.mem_of_getElem? (i := 50) rfl)), ⟨by decide, by decide⟩, ⟨_, _, rfl, rfl⟩, pl_4⟩⟩
    (fc (P := fun q => Vd Z a0 3 q) ⟨trivial, trivial⟩
    (fn)))))))))
  (fc (P := fun ch : Nat × List (Nat × Ent) => ∀ q ∈ ch.2, Vd Z a0 3 q) (fc (P := fun q => Vd Z a0 3 q) ⟨trivial, trivial⟩
    (fc (P := fun q => Vd Z a0 3 q) ⟨trivial, trivial⟩
    (fc (P := fun q => Vd Z a0 3 q) ⟨trivial, trivial⟩
    (fc (P := fun q => Vd Z a0 3 q) ⟨trivial, trivial⟩
    (fc (P := fun q => Vd Z a0 3 q) ⟨trivial, trivial⟩
    (fc (P := fun q => Vd Z a0 3 q) ⟨⟨(hw _ (List.mem_of_getElem? (i := 1) rfl)), rfl⟩, trivial⟩
    (fc (P := fun q => Vd Z a0 3 q) ⟨trivial, trivial⟩
    (fc (P := fun q => Vd Z a0 3 q) ⟨trivial, trivial⟩
    (fn)))))))))
  (fc (P := fun ch : Nat × List (Nat × Ent) => ∀ q ∈ ch.2, Vd Z a0 3 q) (fc (P := fun q => Vd Z a0 3 q) ⟨trivial, trivial⟩
    (fc (P := fun q => Vd Z a0 3 q) ⟨trivial, trivial⟩
    (fc (P := fun q => Vd Z a0 3 q) ⟨trivial, trivial⟩
    (fc (P := fun q => Vd Z a0 3 q) ⟨trivial, trivial⟩
    (fc (P := fun q => Vd Z a0 3 q) ⟨trivial, trivial⟩
    (fc (P := fun q => Vd Z a0 3 q) ⟨trivial, trivial⟩
    (fc (P := fun q => Vd Z a0 3 q) ⟨trivial, trivial⟩
    (fc (P := fun q => Vd Z a0 3 q) ⟨trivial, trivial⟩
    (fn)))))))))
  (fc (P := fun ch : Nat × List (Nat × Ent) => ∀ q ∈ ch.2, Vd Z a0 3 q) (fc (P := fun q => Vd Z a0 3 q) ⟨trivial, trivial⟩
    (fc (P := fun q => Vd Z a0 3 q) ⟨trivial, trivial⟩
    (fc (P := fun q => Vd Z a0 3 q) ⟨trivial, trivial⟩
    (fc (P := fun q => Vd Z a0 3 q) ⟨trivial, trivial⟩
    (fc (P := fun q => Vd Z a0 3 q) ⟨trivial, trivial⟩
    (fc (P := fun q => Vd Z a0 3 q) ⟨trivial, trivial⟩
    (fc (P := fun q => Vd Z a0 3 q) ⟨trivial, trivial⟩
    (fc (P := fun q => Vd Z a0 3 q) ⟨trivial, trivial⟩
    (fn)))))))))
  (fc (P := fun ch : Nat × List (Nat × Ent) => ∀ q ∈ ch.2, Vd Z a0 3 q) (fc (P := fun q => Vd Z a0 3 q) ⟨trivial, trivial⟩
    (fc (P := fun q => Vd Z a0 3 q) ⟨trivial, trivial⟩
    (fc (P := fun q => Vd Z a0 3 q) ⟨trivial, trivial⟩
    (fc (P := fun q => Vd Z a0 3 q) ⟨trivial, trivial⟩
    (fc (P := fun q => Vd Z a0 3 q) ⟨trivial, trivial⟩
    (fc (P := fun q => Vd Z a0 3 q) ⟨trivial, trivial⟩
    (fc (P := fun q => Vd Z a0 3 q) ⟨trivial, trivial⟩
    (fc (P := fun q => Vd Z a0 3 q) ⟨trivial, trivial⟩
    (fn)))))))))
  (fc (P := fun ch : Nat × List (Nat × Ent) => ∀ q ∈ ch.2, Vd Z a0 3 q) (fc (P := fun q => Vd Z a0 3 q) ⟨trivial, trivial⟩
    (fc (P := fun q => Vd Z a0 3 q) ⟨trivial, trivial⟩
    (fc (P := fun q => Vd Z a0 3 q) ⟨trivial, trivial⟩
    (fc (P := fun q => Vd Z a0 3 q) ⟨trivial, trivial⟩
    (fc (P := fun q => Vd Z a0 3 q) ⟨trivial, trivial⟩
    (fc (P := fun q => Vd Z a0 3 q) ⟨trivial, trivial⟩
    (fc (P := fun q => Vd Z a0 3 q) ⟨trivial, trivial⟩
    (fc (P := fun q => Vd Z a0 3 q) ⟨trivial, trivial⟩
    (fn)))))))))
  (fc (P := fun ch : Nat × List (Nat × Ent) => ∀ q ∈ ch.2, Vd Z a0 3 q) (fc (P := fun q => Vd Z a0 3 q) ⟨trivial, trivial⟩
    (fc (P := fun q => Vd Z a0 3 q) ⟨trivial, trivial⟩
    (fc (P := fun q => Vd Z a0 3 q) ⟨trivial, trivial⟩
    (fc (P := fun q => Vd Z a0 3 q) ⟨trivial, trivial⟩
    (fc (P := fun q => Vd Z a0 3 q) ⟨trivial, trivial⟩
    (fc (P := fun q => Vd Z a0 3 q) ⟨trivial, trivial⟩
    (fc (P := fun q => Vd Z a0 3 q) ⟨trivial, trivial⟩
    (fc (P := fun q => Vd Z a0 3 q) ⟨trivial, trivial⟩
    (fn)))))))))
  (fc (P := fun ch : Nat × List (Nat × Ent) => ∀ q ∈ ch.2, Vd Z a0 3 q) (fc (P := fun q => Vd Z a0 3 q) ⟨trivial, trivial⟩
    (fc (P := fun q => Vd Z a0 3 q) ⟨trivial, trivial⟩
    (fc (P := fun q => Vd Z a0 3 q) ⟨trivial, trivial⟩
    (fc (P := fun q => Vd Z a0 3 q) ⟨trivial, trivial⟩
    (fc (P := fun q => Vd Z a0 3 q) ⟨trivial, trivial⟩
    (fc (P := fun q => Vd Z a0 3 q) ⟨trivial, trivial⟩
    (fc (P := fun q => Vd Z a0 3 q) ⟨trivial, trivial⟩
    (fc (P := fun q => Vd Z a0 3 q) ⟨trivial, trivial⟩
    (fn)))))))))
  (fc (P := fun ch : Nat × List (Nat × Ent) => ∀ q ∈ ch.2, Vd Z a0 3 q) (fc (P := fun q => Vd Z a0 3 q) ⟨trivial, trivial⟩
    (fc (P := fun q => Vd Z a0 3 q) ⟨trivial, trivial⟩
    (fc (P := fun q => Vd Z a0 3 q) ⟨trivial, trivial⟩
    (fc (P := fun q => Vd Z a0 3 q) ⟨trivial, trivial⟩
    (fc (P := fun q => Vd Z a0 3 q) ⟨trivial, trivial⟩
    (fc (P := fun q => Vd Z a0 3 q) ⟨trivial, trivial⟩
    (fn)))))))
  (fn)))))))))
set_option maxRecDepth 65536 in
theorem dc_4 : ∀ ch ∈ c_4, ∀ q ∈ ch.2, decode (by_ 4) q.1 = .ok (q.2.1, ilen q.2.1) := by decide +kernel
set_option maxRecDepth 65536 in
theorem v_4 {Z : State} {a0 : Array Value} (hw : ∀ d ∈ tables_1, d.before a0 Z = true) : ∀ ch ∈ c_4, ∀ q ∈ ch.2, Vd Z a0 4 q :=
  fc (P := fun ch : Nat × List (Nat × Ent) => ∀ q ∈ ch.2, Vd Z a0 4 q) (fc (P := fun q => Vd Z a0 4 q) ⟨trivial, trivial⟩
    (fc (P := fun q => Vd Z a0 4 q) ⟨trivial, trivial⟩
    (fc (P := fun q => Vd Z a0 4 q) ⟨trivial, trivial⟩
    (fc (P := fun q => Vd Z a0 4 q) ⟨trivial, trivial⟩
    (fc (P := fun q => Vd Z a0 4 q) ⟨trivial, trivial⟩
    (fc (P := fun q => Vd Z a0 4 q) ⟨trivial, trivial⟩
    (fc (P := fun q => Vd Z a0 4 q) ⟨trivial, trivial⟩
    (fc (P := fun q => Vd Z a0 4 q) ⟨trivial, trivial⟩
    (fn)))))))))
  (fc (P := fun ch : Nat × List (Nat × Ent) => ∀ q ∈ ch.2, Vd Z a0 4 q) (fc (P := fun q => Vd Z a0 4 q) ⟨trivial, trivial⟩
    (fc (P := fun q => Vd Z a0 4 q) ⟨trivial, trivial⟩
    (fc (P := fun q => Vd Z a0 4 q) ⟨trivial, trivial⟩
    (fc (P := fun q => Vd Z a0 4 q) ⟨trivial, trivial⟩
    (fc (P := fun q => Vd Z a0 4 q) ⟨trivial, trivial⟩
    (fc (P := fun q => Vd Z a0 4 q) ⟨trivial, trivial⟩
    (fc (P := fun q => Vd Z a0 4 q) ⟨trivial, trivial⟩
    (fn))))))))
  (fn))
set_option maxRecDepth 65536 in
theorem dc_5 : ∀ ch ∈ c_5, ∀ q ∈ ch.2, decode (by_ 5) q.1 = .ok (q.2.1, ilen q.2.1) := by decide +kernel
set_option maxRecDepth 65536 in
theorem v_5 {Z : State} {a0 : Array Value} (hw : ∀ d ∈ tables_1, d.before a0 Z = true) : ∀ ch ∈ c_5, ∀ q ∈ ch.2, Vd Z a0 5 q :=
  fc (P := fun ch : Nat × List (Nat × Ent) => ∀ q ∈ ch.2, Vd Z a0 5 q) (fc (P := fun q => Vd Z a0 5 q) ⟨trivial, trivial⟩
    (fc (P := fun q => Vd Z a0 5 q) ⟨trivial, trivial⟩
    (fc (P := fun q => Vd Z a0 5 q) ⟨trivial, trivial⟩
    (fc (P := fun q => Vd Z a0 5 q) ⟨trivial, trivial⟩
    (fc (P := fun q => Vd Z a0 5 q) ⟨trivial, trivial⟩
    (fc (P := fun q => Vd Z a0 5 q) ⟨trivial, trivial⟩
    (fc (P := fun q => Vd Z a0 5 q) ⟨trivial, trivial⟩
    (fn))))))))
  (fn)
set_option maxRecDepth 65536 in
theorem dc_6 : ∀ ch ∈ c_6, ∀ q ∈ ch.2, decode (by_ 6) q.1 = .ok (q.2.1, ilen q.2.1) := by decide +kernel
set_option maxRecDepth 65536 in
theorem v_6 {Z : State} {a0 : Array Value} (hw : ∀ d ∈ tables_1, d.before a0 Z = true) : ∀ ch ∈ c_6, ∀ q ∈ ch.2, Vd Z a0 6 q :=
  fc (P := fun ch : Nat × List (Nat × Ent) => ∀ q ∈ ch.2, Vd Z a0 6 q) (fc (P := fun q => Vd Z a0 6 q) ⟨trivial, trivial⟩
    (fc (P := fun q => Vd Z a0 6 q) ⟨trivial, trivial⟩
    (fc (P := fun q => Vd Z a0 6 q) ⟨trivial, trivial⟩
    (fc (P := fun q => Vd Z a0 6 q) ⟨trivial, trivial⟩
    (fc (P := fun q => Vd Z a0 6 q) ⟨trivial, trivial⟩
    (fc (P := fun q => Vd Z a0 6 q) ⟨trivial, trivial⟩
    (fc (P := fun q => Vd Z a0 6 q) ⟨trivial, trivial⟩
    (fc (P := fun q => Vd Z a0 6 q) ⟨⟨_, _, _, _, rfl, rfl, (hw _ (List.mem_of_getElem? (i := 51) rfl)), Via.refl⟩, trivial⟩
    (fn)))))))))
  (fc (P := fun ch : Nat × List (Nat × Ent) => ∀ q ∈ ch.2, Vd Z a0 6 q) (fc (P := fun q => Vd Z a0 6 q) ⟨trivial, trivial⟩
    (fc (P := fun q => Vd Z a0 6 q) ⟨trivial, trivial⟩
    (fc (P := fun q => Vd Z a0 6 q) ⟨trivial, trivial⟩
    (fc (P := fun q => Vd Z a0 6 q) ⟨⟨_, _, _, _, rfl, rfl, (hw _ (List.mem_of_getElem? (i := 51) rfl)), Via.refl⟩, trivial⟩
    (fc (P := fun q => Vd Z a0 6 q) ⟨trivial, trivial⟩
    (fc (P := fun q => Vd Z a0 6 q) ⟨trivial, trivial⟩
    (fc (P := fun q => Vd Z a0 6 q) ⟨trivial, trivial⟩
    (fc (P := fun q => Vd Z a0 6 q) ⟨trivial, trivial⟩
    (fn)))))))))
  (fc (P := fun ch : Nat × List (Nat × Ent) => ∀ q ∈ ch.2, Vd Z a0 6 q) (fc (P := fun q => Vd Z a0 6 q) ⟨trivial, trivial⟩
    (fc (P := fun q => Vd Z a0 6 q) ⟨⟨_, _, _, _, rfl, rfl, (hw _ (List.mem_of_getElem? (i := 40) rfl)), Via.refl⟩, trivial⟩
    (fc (P := fun q => Vd Z a0 6 q) ⟨trivial, trivial⟩
    (fc (P := fun q => Vd Z a0 6 q) ⟨trivial, trivial⟩
    (fc (P := fun q => Vd Z a0 6 q) ⟨trivial, trivial⟩
    (fc (P := fun q => Vd Z a0 6 q) ⟨trivial, trivial⟩
    (fc (P := fun q => Vd Z a0 6 q) ⟨trivial, trivial⟩
    (fc (P := fun q => Vd Z a0 6 q) ⟨⟨_, _, _, _, rfl, rfl, (hw _ (List.mem_of_getElem? (i := 32) rfl)), Via.refl⟩, trivial⟩
    (fn)))))))))
  (fc (P := fun ch : Nat × List (Nat × Ent) => ∀ q ∈ ch.2, Vd Z a0 6 q) (fc (P := fun q => Vd Z a0 6 q) ⟨trivial, trivial⟩
    (fc (P := fun q => Vd Z a0 6 q) ⟨trivial, trivial⟩
    (fc (P := fun q => Vd Z a0 6 q) ⟨trivial, trivial⟩
    (fc (P := fun q => Vd Z a0 6 q) ⟨trivial, trivial⟩
    (fc (P := fun q => Vd Z a0 6 q) ⟨trivial, trivial⟩
    (fc (P := fun q => Vd Z a0 6 q) ⟨⟨_, _, _, _, rfl, rfl, (hw _ (List.mem_of_getElem? (i := 51) rfl)), Via.refl⟩, trivial⟩
    (fc (P := fun q => Vd Z a0 6 q) ⟨trivial, trivial⟩
    (fc (P := fun q => Vd Z a0 6 q) ⟨trivial, trivial⟩
    (fn)))))))))
  (fc (P := fun ch : Nat × List (Nat × Ent) => ∀ q ∈ ch.2, Vd Z a0 6 q) (fc (P := fun q => Vd Z a0 6 q) ⟨trivial, trivial⟩
    (fc (P := fun q => Vd Z a0 6 q) ⟨⟨_, _, _, _, rfl, rfl, (hw _ (List.mem_of_getElem? (i := 51) rfl)), Via.refl⟩, trivial⟩
    (fc (P := fun q => Vd Z a0 6 q) ⟨trivial, trivial⟩
    (fc (P := fun q => Vd Z a0 6 q) ⟨trivial, trivial⟩
    (fc (P := fun q => Vd Z a0 6 q) ⟨trivial, trivial⟩
    (fc (P := fun q => Vd Z a0 6 q) ⟨trivial, trivial⟩
    (fc (P := fun q => Vd Z a0 6 q) ⟨trivial, trivial⟩
    (fc (P := fun q => Vd Z a0 6 q) ⟨⟨_, _, _, _, rfl, rfl, (hw _ (List.mem_of_getElem? (i := 40) rfl)), Via.refl⟩, trivial⟩
    (fn)))))))))
  (fc (P := fun ch : Nat × List (Nat × Ent) => ∀ q ∈ ch.2, Vd Z a0 6 q) (fc (P := fun q => Vd Z a0 6 q) ⟨trivial, trivial⟩
    (fc (P := fun q => Vd Z a0 6 q) ⟨trivial, trivial⟩
    (fc (P := fun q => Vd Z a0 6 q) ⟨trivial, trivial⟩
    (fc (P := fun q => Vd Z a0 6 q) ⟨trivial, trivial⟩
    (fc (P := fun q => Vd Z a0 6 q) ⟨trivial, trivial⟩
    (fc (P := fun q => Vd Z a0 6 q) ⟨⟨_, _, _, _, rfl, rfl, (hw _ (List.mem_of_getElem? (i := 32) rfl)), Via.refl⟩, trivial⟩
    (fc (P := fun q => Vd Z a0 6 q) ⟨trivial, trivial⟩
    (fc (P := fun q => Vd Z a0 6 q) ⟨trivial, trivial⟩
    (fn)))))))))
  (fc (P := fun ch : Nat × List (Nat × Ent) => ∀ q ∈ ch.2, Vd Z a0 6 q) (fc (P := fun q => Vd Z a0 6 q) ⟨trivial, trivial⟩
    (fc (P := fun q => Vd Z a0 6 q) ⟨trivial, trivial⟩
    (fc (P := fun q => Vd Z a0 6 q) ⟨trivial, trivial⟩
    (fc (P := fun q => Vd Z a0 6 q) ⟨trivial, trivial⟩
    (fc (P := fun q => Vd Z a0 6 q) ⟨trivial, trivial⟩
    (fc (P := fun q => Vd Z a0 6 q) ⟨trivial, trivial⟩
    (fc (P := fun q => Vd Z a0 6 q) ⟨trivial, trivial⟩
    (fc (P := fun q => Vd Z a0 6 q) ⟨⟨_, _, _, _, rfl, rfl, (hw _ (List.mem_of_getElem? (i := 40) rfl)), Via.refl⟩, trivial⟩
    (fn)))))))))
  (fc (P := fun ch : Nat × List (Nat × Ent) => ∀ q ∈ ch.2, Vd Z a0 6 q) (fc (P := fun q => Vd Z a0 6 q) ⟨trivial, trivial⟩
    (fc (P := fun q => Vd Z a0 6 q) ⟨trivial, trivial⟩
    (fc (P := fun q => Vd Z a0 6 q) ⟨trivial, trivial⟩
    (fc (P := fun q => Vd Z a0 6 q) ⟨⟨_, _, _, _, rfl, rfl, (hw _ (List.mem_of_getElem? (i := 40) rfl)), Via.refl⟩, trivial⟩
    (fc (P := fun q => Vd Z a0 6 q) ⟨trivial, trivial⟩
    (fc (P := fun q => Vd Z a0 6 q) ⟨trivial, trivial⟩
    (fc (P := fun q => Vd Z a0 6 q) ⟨trivial, trivial⟩
    (fc (P := fun q => Vd Z a0 6 q) ⟨trivial, trivial⟩
    (fn)))))))))
  (fc (P := fun ch : Nat × List (Nat × Ent) => ∀ q ∈ ch.2, Vd Z a0 6 q) (fc (P := fun q => Vd Z a0 6 q) ⟨trivial, trivial⟩
    (fc (P := fun q => Vd Z a0 6 q) ⟨trivial, trivial⟩
    (fc (P := fun q => Vd Z a0 6 q) ⟨⟨_, _, _, _, rfl, rfl, (hw _ (List.mem_of_getElem? (i := 32) rfl)), Via.refl⟩, trivial⟩
    (fc (P := fun q => Vd Z a0 6 q) ⟨trivial, trivial⟩
    (fc (P := fun q => Vd Z a0 6 q) ⟨trivial, trivial⟩
    (fc (P := fun q => Vd Z a0 6 q) ⟨trivial, trivial⟩
    (fc (P := fun q => Vd Z a0 6 q) ⟨trivial, trivial⟩
    (fc (P := fun q => Vd Z a0 6 q) ⟨⟨_, _, _, _, rfl, rfl, (hw _ (List.mem_of_getElem? (i := 32) rfl)), Via.refl⟩, trivial⟩
    (fn)))))))))
  (fc (P := fun ch : Nat × List (Nat × Ent) => ∀ q ∈ ch.2, Vd Z a0 6 q) (fc (P := fun q => Vd Z a0 6 q) ⟨trivial, trivial⟩
    (fc (P := fun q => Vd Z a0 6 q) ⟨trivial, trivial⟩
    (fc (P := fun q => Vd Z a0 6 q) ⟨trivial, trivial⟩
    (fc (P := fun q => Vd Z a0 6 q) ⟨trivial, trivial⟩
    (fc (P := fun q => Vd Z a0 6 q) ⟨trivial, trivial⟩
    (fc (P := fun q => Vd Z a0 6 q) ⟨trivial, trivial⟩
    (fn)))))))
  (fn))))))))))
theorem mok1 {Z : State} {a0 : Array Value} {M pc : Nat} {i : Instr} {pin : Option Bool} {nums : List Nat} {val : Value} (h : decode (by_ M) pc = .ok (i, ilen i)) (v : Vd Z a0 M (pc, i, pin, nums, val)) : decode (by_ M) pc = .ok (i, ilen i) ∧ VI Z a0 kc_ sl_ E_.2.2.2.1 E_.2.2.2.2.1 E_.2.2.2.2.2.1 (nm_ M).cls (nm_ M).name i nums val ∧ VC Z a0 kc_ E_ nm_ by_ (nm_ M).cls i nums := ⟨h, v.1, v.2⟩
theorem mok_ {Z : State} {a0 : Array Value} (hw : ∀ d ∈ tables_1, d.before a0 Z = true) : MOk Z a0 kc_ sl_ E_ nm_ by_ := by
  intro M pc i pin nums val h
  have h : code_ M pc = some (i, pin, nums, val) := h
  unfold code_ at h
  split at h
  · obtain ⟨ch, h1, h2⟩ := fetch2_mem h; exact mok1 (M := 0) (dc_0 ch h1 (pc, i, pin, nums, val) h2) (v_0 hw ch h1 (pc, i, pin, nums, val) h2)
  · obtain ⟨ch, h1, h2⟩ := fetch2_mem h; exact mok1 (M := 1) (dc_1 ch h1 (pc, i, pin, nums, val) h2) (v_1 hw ch h1 (pc, i, pin, nums, val) h2)
  · obtain ⟨ch, h1, h2⟩ := fetch2_mem h; exact mok1 (M := 2) (dc_2 ch h1 (pc, i, pin, nums, val) h2) (v_2 hw ch h1 (pc, i, pin, nums, val) h2)
  · obtain ⟨ch, h1, h2⟩ := fetch2_mem h; exact mok1 (M := 3) (dc_3 ch h1 (pc, i, pin, nums, val) h2) (v_3 hw ch h1 (pc, i, pin, nums, val) h2)
  · obtain ⟨ch, h1, h2⟩ := fetch2_mem h; exact mok1 (M := 4) (dc_4 ch h1 (pc, i, pin, nums, val) h2) (v_4 hw ch h1 (pc, i, pin, nums, val) h2)
  · obtain ⟨ch, h1, h2⟩ := fetch2_mem h; exact mok1 (M := 5) (dc_5 ch h1 (pc, i, pin, nums, val) h2) (v_5 hw ch h1 (pc, i, pin, nums, val) h2)
  · obtain ⟨ch, h1, h2⟩ := fetch2_mem h; exact mok1 (M := 6) (dc_6 ch h1 (pc, i, pin, nums, val) h2) (v_6 hw ch h1 (pc, i, pin, nums, val) h2)
  · cases h
theorem kok_ {Z : State} {a0 : Array Value} (hw : ∀ d ∈ tables_1, d.before a0 Z = true) : KOk Z a0 kc_ := by
  intro k C fs h
  unfold kc_ at h
  split at h
  · cases h; exact ⟨rfl, fc (⟨Or.inr (hw _ (List.mem_of_getElem? (i := 22) rfl)), rfl⟩) (fc (⟨Or.inr (hw _ (List.mem_of_getElem? (i := 33) rfl)), rfl⟩) (fc (⟨Or.inr (hw _ (List.mem_of_getElem? (i := 41) rfl)), rfl⟩) (fc (⟨Or.inr (hw _ (List.mem_of_getElem? (i := 43) rfl)), rfl⟩) (fc (⟨Or.inr (hw _ (List.mem_of_getElem? (i := 52) rfl)), rfl⟩) (fc (⟨Or.inr (hw _ (List.mem_of_getElem? (i := 57) rfl)), rfl⟩) (fn)))))), nodup_ne (by decide)⟩
  · cases h

def CS_0 (R : Fx.Cal) (d : Nat) (c : Fx.Cont) : Fx.Cont := fun L S A => Fx.brc .bad (Fx.callF R 0 26 d (Fx.rsk 5 S) L A c (Fx.psh (Fx.psh (Fx.psh (Fx.psh (Fx.psh (Fx.psh 104983912659409982377021502311701599134869679603535133419873127275139502037525232762053801997017144282241320278377726075879241823403969818345315124558294385413279846373651885953455628543899374634328584389985345013970749188755551805720531302461067936076476421192618483387418219575242739887823249138564937302763236687432782680625785284854605440652402830813582905283302595257686783010191089143680693296339179881847585247166965544155230729922235640343963490026219552365200173254442613739892470899366122487808 (Fx.dg S 0)) (Fx.dg S 1)) (Fx.dg S 2)) (Fx.dg S 3)) (Fx.dg S 4)) (Nat.land (Nat.add (Nat.mul 3 (Nat.add (Nat.mul 3 (Nat.add (Nat.mul 3 (Nat.add (Nat.mul 3 (Nat.add (Nat.mul 3 1) (Fx.dg S 4))) (Fx.dg S 3))) (Fx.dg S 2))) (Fx.dg S 1))) (Fx.dg S 0)) 18446744073709551615))) (Nat.beq (Nat.add (Nat.add (Nat.add (Nat.add (Nat.add 0 (Nat.xor (Fx.tq (Fx.dg S 4)) 0)) (Nat.xor (Fx.tq (Fx.dg S 3)) 0)) (Nat.xor (Fx.tq (Fx.dg S 2)) 0)) (Nat.xor (Fx.tq (Fx.dg S 1)) 0)) (Nat.xor (Fx.tq (Fx.dg S 0)) 0)) 0)
theorem CS_0_ok (R : Fx.Cal) (d : Nat) : Fx.StatC R 0 26 5 d (CS_0 R d) := by
  intro ρ c L S A r q hr
  obtain ⟨z, q⟩ := Fx.brec_t q hr
  have z := Nat.eq_of_beq_eq_true z
  obtain ⟨g4, e4⟩ := Fx.add0 z
  obtain ⟨g3, e3⟩ := Fx.add0 g4
  obtain ⟨g2, e2⟩ := Fx.add0 g3
  obtain ⟨g1, e1⟩ := Fx.add0 g2
  obtain ⟨g0, e0⟩ := Fx.add0 g1
  have e : Own.aFill [Fx.av ρ (Fx.dg S 4), Fx.av ρ (Fx.dg S 3), Fx.av ρ (Fx.dg S 2), Fx.av ρ (Fx.dg S 1), Fx.av ρ (Fx.dg S 0)] = [Fx.avs ρ (Fx.dg S 4), Fx.avs ρ (Fx.dg S 3), Fx.avs ρ (Fx.dg S 2), Fx.avs ρ (Fx.dg S 1), Fx.avs ρ (Fx.dg S 0)] := by
    rw [Fx.fill1 (Fx.xor0 e0), Fx.fill1 (Fx.xor0 e1), Fx.fill1 (Fx.xor0 e2), Fx.fill1 (Fx.xor0 e3), Fx.fill1 (Fx.xor0 e4)]; rfl
  have f : Fx.avL ρ 26 (Fx.psh (Fx.psh (Fx.psh (Fx.psh (Fx.psh (Fx.psh 104983912659409982377021502311701599134869679603535133419873127275139502037525232762053801997017144282241320278377726075879241823403969818345315124558294385413279846373651885953455628543899374634328584389985345013970749188755551805720531302461067936076476421192618483387418219575242739887823249138564937302763236687432782680625785284854605440652402830813582905283302595257686783010191089143680693296339179881847585247166965544155230729922235640343963490026219552365200173254442613739892470899366122487808 (Fx.dg S 0)) (Fx.dg S 1)) (Fx.dg S 2)) (Fx.dg S 3)) (Fx.dg S 4)) (Nat.land (Nat.add (Nat.mul 3 (Nat.add (Nat.mul 3 (Nat.add (Nat.mul 3 (Nat.add (Nat.mul 3 (Nat.add (Nat.mul 3 1) (Fx.dg S 4))) (Fx.dg S 3))) (Fx.dg S 2))) (Fx.dg S 1))) (Fx.dg S 0)) 18446744073709551615)) = Own.aL [Fx.av ρ (Fx.dg S 4), Fx.av ρ (Fx.dg S 3), Fx.av ρ (Fx.dg S 2), Fx.av ρ (Fx.dg S 1), Fx.av ρ (Fx.dg S 0)] 26 := by
    unfold Own.aL
    rw [e, Fx.avL_salt (Fx.salt_lt _), Fx.avL_psh, Fx.avL_psh, Fx.avL_psh, Fx.avL_psh, Fx.avL_psh]
    · rw [Fx.avL_unsets (n := 21) (by decide +kernel)]; rfl
    all_goals first | exact Fx.dg_lt | decide
  exact ⟨[Fx.av ρ (Fx.dg S 4), Fx.av ρ (Fx.dg S 3), Fx.av ρ (Fx.dg S 2), Fx.av ρ (Fx.dg S 1), Fx.av ρ (Fx.dg S 0)], _, q, Fx.avS_split ρ 5 d S, rfl, by rw [e]; exact Nat.le_of_ble_eq_true rfl, f⟩
def CI_0 (R : Fx.Cal) (d : Nat) (c : Fx.Cont) : Fx.Cont := fun L S A => Fx.brc .bad (Fx.callF R 0 26 d (Fx.rsk 6 S) L A c (Fx.psh (Fx.psh (Fx.psh (Fx.psh (Fx.psh (Fx.psh (Fx.psh 86840657181824305898470411804621604348245797547878778864778587080685996022740452499955283470729341401453408561053034949700188459674566210163573237654543378923972387560122829532813819184339805869518057002273985771219093940838046530180379093282883320129081891355626590062658902119653652438194359310929659716228619055733020766489624849612810500301201338967145268030321494261790515403857656685682222449256957513708453120924505704864178338026953981049517127471674035515663550733352960 (Fx.dg S 0)) (Fx.dg S 1)) (Fx.dg S 2)) (Fx.dg S 3)) (Fx.dg S 4)) (Fx.dg S 5)) (Nat.land (Nat.add (Nat.mul 3 (Nat.add (Nat.mul 3 (Nat.add (Nat.mul 3 (Nat.add (Nat.mul 3 (Nat.add (Nat.mul 3 (Nat.add (Nat.mul 3 1) (Fx.dg S 5))) (Fx.dg S 4))) (Fx.dg S 3))) (Fx.dg S 2))) (Fx.dg S 1))) (Fx.dg S 0)) 18446744073709551615))) (Nat.beq (Nat.add (Nat.add (Nat.add (Nat.add (Nat.add (Nat.add (Nat.add 0 (Nat.xor (Fx.tq (Fx.dg S 5)) 0)) (Nat.xor (Fx.tq (Fx.dg S 4)) 0)) (Nat.xor (Fx.tq (Fx.dg S 3)) 0)) (Nat.xor (Fx.tq (Fx.dg S 2)) 0)) (Nat.xor (Fx.tq (Fx.dg S 1)) 0)) (Nat.xor (Fx.tq (Fx.dg S 0)) 0)) (Fx.isR (Fx.dg S 5))) 0)
theorem CI_0_ok (R : Fx.Cal) (d : Nat) : Fx.SpecC R 0 26 5 d (CI_0 R d) := by
  intro ρ c L S A r q hr
  obtain ⟨z, q⟩ := Fx.brec_t q hr
  have z := Nat.eq_of_beq_eq_true z
  obtain ⟨h1, zr⟩ := Fx.add0 z
  obtain ⟨g5, e5⟩ := Fx.add0 h1
  obtain ⟨g4, e4⟩ := Fx.add0 g5
  obtain ⟨g3, e3⟩ := Fx.add0 g4
  obtain ⟨g2, e2⟩ := Fx.add0 g3
  obtain ⟨g1, e1⟩ := Fx.add0 g2
  obtain ⟨g0, e0⟩ := Fx.add0 g1
  have e : Own.aFill [Fx.av ρ (Fx.dg S 5), Fx.av ρ (Fx.dg S 4), Fx.av ρ (Fx.dg S 3), Fx.av ρ (Fx.dg S 2), Fx.av ρ (Fx.dg S 1), Fx.av ρ (Fx.dg S 0)] = [Fx.avs ρ (Fx.dg S 5), Fx.avs ρ (Fx.dg S 4), Fx.avs ρ (Fx.dg S 3), Fx.avs ρ (Fx.dg S 2), Fx.avs ρ (Fx.dg S 1), Fx.avs ρ (Fx.dg S 0)] := by
    rw [Fx.fill1 (Fx.xor0 e0), Fx.fill1 (Fx.xor0 e1), Fx.fill1 (Fx.xor0 e2), Fx.fill1 (Fx.xor0 e3), Fx.fill1 (Fx.xor0 e4), Fx.fill1 (Fx.xor0 e5)]; rfl
  have f : Fx.avL ρ 26 (Fx.psh (Fx.psh (Fx.psh (Fx.psh (Fx.psh (Fx.psh (Fx.psh 86840657181824305898470411804621604348245797547878778864778587080685996022740452499955283470729341401453408561053034949700188459674566210163573237654543378923972387560122829532813819184339805869518057002273985771219093940838046530180379093282883320129081891355626590062658902119653652438194359310929659716228619055733020766489624849612810500301201338967145268030321494261790515403857656685682222449256957513708453120924505704864178338026953981049517127471674035515663550733352960 (Fx.dg S 0)) (Fx.dg S 1)) (Fx.dg S 2)) (Fx.dg S 3)) (Fx.dg S 4)) (Fx.dg S 5)) (Nat.land (Nat.add (Nat.mul 3 (Nat.add (Nat.mul 3 (Nat.add (Nat.mul 3 (Nat.add (Nat.mul 3 (Nat.add (Nat.mul 3 (Nat.add (Nat.mul 3 1) (Fx.dg S 5))) (Fx.dg S 4))) (Fx.dg S 3))) (Fx.dg S 2))) (Fx.dg S 1))) (Fx.dg S 0)) 18446744073709551615)) = Own.aL [Fx.av ρ (Fx.dg S 5), Fx.av ρ (Fx.dg S 4), Fx.av ρ (Fx.dg S 3), Fx.av ρ (Fx.dg S 2), Fx.av ρ (Fx.dg S 1), Fx.av ρ (Fx.dg S 0)] 26 := by
    unfold Own.aL
    rw [e, Fx.avL_salt (Fx.salt_lt _), Fx.avL_psh, Fx.avL_psh, Fx.avL_psh, Fx.avL_psh, Fx.avL_psh, Fx.avL_psh]
    · rw [Fx.avL_unsets (n := 20) (by decide +kernel)]; rfl
    all_goals first | exact Fx.dg_lt | decide
  exact ⟨_, _, [Fx.av ρ (Fx.dg S 4), Fx.av ρ (Fx.dg S 3), Fx.av ρ (Fx.dg S 2), Fx.av ρ (Fx.dg S 1), Fx.av ρ (Fx.dg S 0)], _, q, Fx.avS_split ρ 6 d S, rfl, Fx.av_ref zr, by rw [e]; exact Nat.le_of_ble_eq_true rfl, f⟩
def CS_1 (R : Fx.Cal) (d : Nat) (c : Fx.Cont) : Fx.Cont := fun L S A => Fx.brc .bad (Fx.callF R 1 11 d (Fx.rsk 3 S) L A c (Fx.psh (Fx.psh (Fx.psh (Fx.psh 8911016831293350036408545663403742473505040525012231772262498880960697623947556263876699696758047013805471382616666297970649494643404528202957677135395251097948459881084447334249299898793984 (Fx.dg S 0)) (Fx.dg S 1)) (Fx.dg S 2)) (Nat.land (Nat.add (Nat.mul 3 (Nat.add (Nat.mul 3 (Nat.add (Nat.mul 3 1) (Fx.dg S 2))) (Fx.dg S 1))) (Fx.dg S 0)) 18446744073709551615))) (Nat.beq (Nat.add (Nat.add (Nat.add 0 (Nat.xor (Fx.tq (Fx.dg S 2)) 0)) (Nat.xor (Fx.tq (Fx.dg S 1)) 0)) (Nat.xor (Fx.tq (Fx.dg S 0)) 0)) 0)
theorem CS_1_ok (R : Fx.Cal) (d : Nat) : Fx.StatC R 1 11 3 d (CS_1 R d) := by
  intro ρ c L S A r q hr
  obtain ⟨z, q⟩ := Fx.brec_t q hr
  have z := Nat.eq_of_beq_eq_true z
  obtain ⟨g2, e2⟩ := Fx.add0 z
  obtain ⟨g1, e1⟩ := Fx.add0 g2
  obtain ⟨g0, e0⟩ := Fx.add0 g1
  have e : Own.aFill [Fx.av ρ (Fx.dg S 2), Fx.av ρ (Fx.dg S 1), Fx.av ρ (Fx.dg S 0)] = [Fx.avs ρ (Fx.dg S 2), Fx.avs ρ (Fx.dg S 1), Fx.avs ρ (Fx.dg S 0)] := by
    rw [Fx.fill1 (Fx.xor0 e0), Fx.fill1 (Fx.xor0 e1), Fx.fill1 (Fx.xor0 e2)]; rfl
  have f : Fx.avL ρ 11 (Fx.psh (Fx.psh (Fx.psh (Fx.psh 8911016831293350036408545663403742473505040525012231772262498880960697623947556263876699696758047013805471382616666297970649494643404528202957677135395251097948459881084447334249299898793984 (Fx.dg S 0)) (Fx.dg S 1)) (Fx.dg S 2)) (Nat.land (Nat.add (Nat.mul 3 (Nat.add (Nat.mul 3 (Nat.add (Nat.mul 3 1) (Fx.dg S 2))) (Fx.dg S 1))) (Fx.dg S 0)) 18446744073709551615)) = Own.aL [Fx.av ρ (Fx.dg S 2), Fx.av ρ (Fx.dg S 1), Fx.av ρ (Fx.dg S 0)] 11 := by
    unfold Own.aL
    rw [e, Fx.avL_salt (Fx.salt_lt _), Fx.avL_psh, Fx.avL_psh, Fx.avL_psh]
    · rw [Fx.avL_unsets (n := 8) (by decide +kernel)]; rfl
    all_goals first | exact Fx.dg_lt | decide
  exact ⟨[Fx.av ρ (Fx.dg S 2), Fx.av ρ (Fx.dg S 1), Fx.av ρ (Fx.dg S 0)], _, q, Fx.avS_split ρ 3 d S, rfl, by rw [e]; exact Nat.le_of_ble_eq_true rfl, f⟩
def CI_1 (R : Fx.Cal) (d : Nat) (c : Fx.Cont) : Fx.Cont := fun L S A => Fx.brc .bad (Fx.callF R 1 11 d (Fx.rsk 4 S) L A c (Fx.psh (Fx.psh (Fx.psh (Fx.psh (Fx.psh 7371020360979572953596792388157850013494438675812993108243357338737153805998612810621730739721191960618234468125862620447995312801511518782782724554853618686242062336 (Fx.dg S 0)) (Fx.dg S 1)) (Fx.dg S 2)) (Fx.dg S 3)) (Nat.land (Nat.add (Nat.mul 3 (Nat.add (Nat.mul 3 (Nat.add (Nat.mul 3 (Nat.add (Nat.mul 3 1) (Fx.dg S 3))) (Fx.dg S 2))) (Fx.dg S 1))) (Fx.dg S 0)) 18446744073709551615))) (Nat.beq (Nat.add (Nat.add (Nat.add (Nat.add (Nat.add 0 (Nat.xor (Fx.tq (Fx.dg S 3)) 0)) (Nat.xor (Fx.tq (Fx.dg S 2)) 0)) (Nat.xor (Fx.tq (Fx.dg S 1)) 0)) (Nat.xor (Fx.tq (Fx.dg S 0)) 0)) (Fx.isR (Fx.dg S 3))) 0)
theorem CI_1_ok (R : Fx.Cal) (d : Nat) : Fx.SpecC R 1 11 3 d (CI_1 R d) := by
  intro ρ c L S A r q hr
  obtain ⟨z, q⟩ := Fx.brec_t q hr
  have z := Nat.eq_of_beq_eq_true z
  obtain ⟨h1, zr⟩ := Fx.add0 z
  obtain ⟨g3, e3⟩ := Fx.add0 h1
  obtain ⟨g2, e2⟩ := Fx.add0 g3
  obtain ⟨g1, e1⟩ := Fx.add0 g2
  obtain ⟨g0, e0⟩ := Fx.add0 g1
  have e : Own.aFill [Fx.av ρ (Fx.dg S 3), Fx.av ρ (Fx.dg S 2), Fx.av ρ (Fx.dg S 1), Fx.av ρ (Fx.dg S 0)] = [Fx.avs ρ (Fx.dg S 3), Fx.avs ρ (Fx.dg S 2), Fx.avs ρ (Fx.dg S 1), Fx.avs ρ (Fx.dg S 0)] := by
    rw [Fx.fill1 (Fx.xor0 e0), Fx.fill1 (Fx.xor0 e1), Fx.fill1 (Fx.xor0 e2), Fx.fill1 (Fx.xor0 e3)]; rfl
  have f : Fx.avL ρ 11 (Fx.psh (Fx.psh (Fx.psh (Fx.psh (Fx.psh 7371020360979572953596792388157850013494438675812993108243357338737153805998612810621730739721191960618234468125862620447995312801511518782782724554853618686242062336 (Fx.dg S 0)) (Fx.dg S 1)) (Fx.dg S 2)) (Fx.dg S 3)) (Nat.land (Nat.add (Nat.mul 3 (Nat.add (Nat.mul 3 (Nat.add (Nat.mul 3 (Nat.add (Nat.mul 3 1) (Fx.dg S 3))) (Fx.dg S 2))) (Fx.dg S 1))) (Fx.dg S 0)) 18446744073709551615)) = Own.aL [Fx.av ρ (Fx.dg S 3), Fx.av ρ (Fx.dg S 2), Fx.av ρ (Fx.dg S 1), Fx.av ρ (Fx.dg S 0)] 11 := by
    unfold Own.aL
    rw [e, Fx.avL_salt (Fx.salt_lt _), Fx.avL_psh, Fx.avL_psh, Fx.avL_psh, Fx.avL_psh]
    · rw [Fx.avL_unsets (n := 7) (by decide +kernel)]; rfl
    all_goals first | exact Fx.dg_lt | decide
  exact ⟨_, _, [Fx.av ρ (Fx.dg S 2), Fx.av ρ (Fx.dg S 1), Fx.av ρ (Fx.dg S 0)], _, q, Fx.avS_split ρ 4 d S, rfl, Fx.av_ref zr, by rw [e]; exact Nat.le_of_ble_eq_true rfl, f⟩
def CS_2 (R : Fx.Cal) (d : Nat) (c : Fx.Cont) : Fx.Cont := fun L S A => Fx.brc .bad (Fx.callF R 2 2 d (Fx.rsk 1 S) L A c (Fx.psh (Fx.psh (Fx.psh 0 7083549724304467820544) (Fx.dg S 0)) (Nat.land (Nat.add (Nat.mul 3 1) (Fx.dg S 0)) 18446744073709551615))) (Nat.beq (Nat.add 0 (Nat.xor (Fx.tq (Fx.dg S 0)) 2)) 0)
theorem CS_2_ok (R : Fx.Cal) (d : Nat) : Fx.StatC R 2 2 1 d (CS_2 R d) := by
  intro ρ c L S A r q hr
  obtain ⟨z, q⟩ := Fx.brec_t q hr
  have z := Nat.eq_of_beq_eq_true z
  obtain ⟨g0, e0⟩ := Fx.add0 z
  have e : Own.aFill [Fx.av ρ (Fx.dg S 0)] = [Fx.avs ρ (Fx.dg S 0), Fx.avs ρ 7083549724304467820544] := by
    rw [Fx.fill2 (Fx.xor0 e0)]; rfl
  have f : Fx.avL ρ 2 (Fx.psh (Fx.psh (Fx.psh 0 7083549724304467820544) (Fx.dg S 0)) (Nat.land (Nat.add (Nat.mul 3 1) (Fx.dg S 0)) 18446744073709551615)) = Own.aL [Fx.av ρ (Fx.dg S 0)] 2 := by
    unfold Own.aL
    rw [e, Fx.avL_salt (Fx.salt_lt _), Fx.avL_psh, Fx.avL_psh]
    · rw [Fx.avL_unsets (n := 0) (by decide +kernel)]; rfl
    all_goals first | exact Fx.dg_lt | decide
  exact ⟨[Fx.av ρ (Fx.dg S 0)], _, q, Fx.avS_split ρ 1 d S, rfl, by rw [e]; exact Nat.le_of_ble_eq_true rfl, f⟩
def CS_3 (R : Fx.Cal) (d : Nat) (c : Fx.Cont) : Fx.Cont := fun L S A => Fx.brc .bad (Fx.callF R 3 8 d (Fx.rsk 2 S) L A c (Fx.psh (Fx.psh (Fx.psh 6097165137335922326917187132896571079408569919113826447083891014479608577180263804048143901985878130889696189658172311173282524134225989337088 (Fx.dg S 0)) (Fx.dg S 1)) (Nat.land (Nat.add (Nat.mul 3 (Nat.add (Nat.mul 3 1) (Fx.dg S 1))) (Fx.dg S 0)) 18446744073709551615))) (Nat.beq (Nat.add (Nat.add 0 (Nat.xor (Fx.tq (Fx.dg S 1)) 0)) (Nat.xor (Fx.tq (Fx.dg S 0)) 0)) 0)
theorem CS_3_ok (R : Fx.Cal) (d : Nat) : Fx.StatC R 3 8 2 d (CS_3 R d) := by
  intro ρ c L S A r q hr
  obtain ⟨z, q⟩ := Fx.brec_t q hr
  have z := Nat.eq_of_beq_eq_true z
  obtain ⟨g1, e1⟩ := Fx.add0 z
  obtain ⟨g0, e0⟩ := Fx.add0 g1
  have e : Own.aFill [Fx.av ρ (Fx.dg S 1), Fx.av ρ (Fx.dg S 0)] = [Fx.avs ρ (Fx.dg S 1), Fx.avs ρ (Fx.dg S 0)] := by
    rw [Fx.fill1 (Fx.xor0 e0), Fx.fill1 (Fx.xor0 e1)]; rfl
  have f : Fx.avL ρ 8 (Fx.psh (Fx.psh (Fx.psh 6097165137335922326917187132896571079408569919113826447083891014479608577180263804048143901985878130889696189658172311173282524134225989337088 (Fx.dg S 0)) (Fx.dg S 1)) (Nat.land (Nat.add (Nat.mul 3 (Nat.add (Nat.mul 3 1) (Fx.dg S 1))) (Fx.dg S 0)) 18446744073709551615)) = Own.aL [Fx.av ρ (Fx.dg S 1), Fx.av ρ (Fx.dg S 0)] 8 := by
    unfold Own.aL
    rw [e, Fx.avL_salt (Fx.salt_lt _), Fx.avL_psh, Fx.avL_psh]
    · rw [Fx.avL_unsets (n := 6) (by decide +kernel)]; rfl
    all_goals first | exact Fx.dg_lt | decide
  exact ⟨[Fx.av ρ (Fx.dg S 1), Fx.av ρ (Fx.dg S 0)], _, q, Fx.avS_split ρ 2 d S, rfl, by rw [e]; exact Nat.le_of_ble_eq_true rfl, f⟩
def CI_3 (R : Fx.Cal) (d : Nat) (c : Fx.Cont) : Fx.Cont := fun L S A => Fx.brc .bad (Fx.callF R 3 8 d (Fx.rsk 3 S) L A c (Fx.psh (Fx.psh (Fx.psh (Fx.psh 5043456793138493339171721304668062100077711304399797909077250671044439995374718159214811675000830610696635616057098240 (Fx.dg S 0)) (Fx.dg S 1)) (Fx.dg S 2)) (Nat.land (Nat.add (Nat.mul 3 (Nat.add (Nat.mul 3 (Nat.add (Nat.mul 3 1) (Fx.dg S 2))) (Fx.dg S 1))) (Fx.dg S 0)) 18446744073709551615))) (Nat.beq (Nat.add (Nat.add (Nat.add (Nat.add 0 (Nat.xor (Fx.tq (Fx.dg S 2)) 0)) (Nat.xor (Fx.tq (Fx.dg S 1)) 0)) (Nat.xor (Fx.tq (Fx.dg S 0)) 0)) (Fx.isR (Fx.dg S 2))) 0)
theorem CI_3_ok (R : Fx.Cal) (d : Nat) : Fx.SpecC R 3 8 2 d (CI_3 R d) := by
  intro ρ c L S A r q hr
  obtain ⟨z, q⟩ := Fx.brec_t q hr
  have z := Nat.eq_of_beq_eq_true z
  obtain ⟨h1, zr⟩ := Fx.add0 z
  obtain ⟨g2, e2⟩ := Fx.add0 h1
  obtain ⟨g1, e1⟩ := Fx.add0 g2
  obtain ⟨g0, e0⟩ := Fx.add0 g1
  have e : Own.aFill [Fx.av ρ (Fx.dg S 2), Fx.av ρ (Fx.dg S 1), Fx.av ρ (Fx.dg S 0)] = [Fx.avs ρ (Fx.dg S 2), Fx.avs ρ (Fx.dg S 1), Fx.avs ρ (Fx.dg S 0)] := by
    rw [Fx.fill1 (Fx.xor0 e0), Fx.fill1 (Fx.xor0 e1), Fx.fill1 (Fx.xor0 e2)]; rfl
  have f : Fx.avL ρ 8 (Fx.psh (Fx.psh (Fx.psh (Fx.psh 5043456793138493339171721304668062100077711304399797909077250671044439995374718159214811675000830610696635616057098240 (Fx.dg S 0)) (Fx.dg S 1)) (Fx.dg S 2)) (Nat.land (Nat.add (Nat.mul 3 (Nat.add (Nat.mul 3 (Nat.add (Nat.mul 3 1) (Fx.dg S 2))) (Fx.dg S 1))) (Fx.dg S 0)) 18446744073709551615)) = Own.aL [Fx.av ρ (Fx.dg S 2), Fx.av ρ (Fx.dg S 1), Fx.av ρ (Fx.dg S 0)] 8 := by
    unfold Own.aL
    rw [e, Fx.avL_salt (Fx.salt_lt _), Fx.avL_psh, Fx.avL_psh, Fx.avL_psh]
    · rw [Fx.avL_unsets (n := 5) (by decide +kernel)]; rfl
    all_goals first | exact Fx.dg_lt | decide
  exact ⟨_, _, [Fx.av ρ (Fx.dg S 1), Fx.av ρ (Fx.dg S 0)], _, q, Fx.avS_split ρ 3 d S, rfl, Fx.av_ref zr, by rw [e]; exact Nat.le_of_ble_eq_true rfl, f⟩
def CS_4 (R : Fx.Cal) (d : Nat) (c : Fx.Cont) : Fx.Cont := fun L S A => Fx.brc .bad (Fx.callF R 4 4 d (Fx.rsk 2 S) L A c (Fx.psh (Fx.psh (Fx.psh 2854495385411919762116574300082231707588100096 (Fx.dg S 0)) (Fx.dg S 1)) (Nat.land (Nat.add (Nat.mul 3 (Nat.add (Nat.mul 3 1) (Fx.dg S 1))) (Fx.dg S 0)) 18446744073709551615))) (Nat.beq (Nat.add (Nat.add 0 (Nat.xor (Fx.tq (Fx.dg S 1)) 0)) (Nat.xor (Fx.tq (Fx.dg S 0)) 0)) 0)
theorem CS_4_ok (R : Fx.Cal) (d : Nat) : Fx.StatC R 4 4 2 d (CS_4 R d) := by
  intro ρ c L S A r q hr
  obtain ⟨z, q⟩ := Fx.brec_t q hr
  have z := Nat.eq_of_beq_eq_true z
  obtain ⟨g1, e1⟩ := Fx.add0 z
  obtain ⟨g0, e0⟩ := Fx.add0 g1
  have e : Own.aFill [Fx.av ρ (Fx.dg S 1), Fx.av ρ (Fx.dg S 0)] = [Fx.avs ρ (Fx.dg S 1), Fx.avs ρ (Fx.dg S 0)] := by
    rw [Fx.fill1 (Fx.xor0 e0), Fx.fill1 (Fx.xor0 e1)]; rfl
  have f : Fx.avL ρ 4 (Fx.psh (Fx.psh (Fx.psh 2854495385411919762116574300082231707588100096 (Fx.dg S 0)) (Fx.dg S 1)) (Nat.land (Nat.add (Nat.mul 3 (Nat.add (Nat.mul 3 1) (Fx.dg S 1))) (Fx.dg S 0)) 18446744073709551615)) = Own.aL [Fx.av ρ (Fx.dg S 1), Fx.av ρ (Fx.dg S 0)] 4 := by
    unfold Own.aL
    rw [e, Fx.avL_salt (Fx.salt_lt _), Fx.avL_psh, Fx.avL_psh]
    · rw [Fx.avL_unsets (n := 2) (by decide +kernel)]; rfl
    all_goals first | exact Fx.dg_lt | decide
  exact ⟨[Fx.av ρ (Fx.dg S 1), Fx.av ρ (Fx.dg S 0)], _, q, Fx.avS_split ρ 2 d S, rfl, by rw [e]; exact Nat.le_of_ble_eq_true rfl, f⟩
def CI_4 (R : Fx.Cal) (d : Nat) (c : Fx.Cont) : Fx.Cont := fun L S A => Fx.brc .bad (Fx.callF R 4 4 d (Fx.rsk 3 S) L A c (Fx.psh (Fx.psh (Fx.psh (Fx.psh 2361183241434822606848 (Fx.dg S 0)) (Fx.dg S 1)) (Fx.dg S 2)) (Nat.land (Nat.add (Nat.mul 3 (Nat.add (Nat.mul 3 (Nat.add (Nat.mul 3 1) (Fx.dg S 2))) (Fx.dg S 1))) (Fx.dg S 0)) 18446744073709551615))) (Nat.beq (Nat.add (Nat.add (Nat.add (Nat.add 0 (Nat.xor (Fx.tq (Fx.dg S 2)) 0)) (Nat.xor (Fx.tq (Fx.dg S 1)) 0)) (Nat.xor (Fx.tq (Fx.dg S 0)) 0)) (Fx.isR (Fx.dg S 2))) 0)
theorem CI_4_ok (R : Fx.Cal) (d : Nat) : Fx.SpecC R 4 4 2 d (CI_4 R d) := by
  intro ρ c L S A r q hr
  obtain ⟨z, q⟩ := Fx.brec_t q hr
  have z := Nat.eq_of_beq_eq_true z
  obtain ⟨h1, zr⟩ := Fx.add0 z
  obtain ⟨g2, e2⟩ := Fx.add0 h1
  obtain ⟨g1, e1⟩ := Fx.add0 g2
  obtain ⟨g0, e0⟩ := Fx.add0 g1
  have e : Own.aFill [Fx.av ρ (Fx.dg S 2), Fx.av ρ (Fx.dg S 1), Fx.av ρ (Fx.dg S 0)] = [Fx.avs ρ (Fx.dg S 2), Fx.avs ρ (Fx.dg S 1), Fx.avs ρ (Fx.dg S 0)] := by
    rw [Fx.fill1 (Fx.xor0 e0), Fx.fill1 (Fx.xor0 e1), Fx.fill1 (Fx.xor0 e2)]; rfl
  have f : Fx.avL ρ 4 (Fx.psh (Fx.psh (Fx.psh (Fx.psh 2361183241434822606848 (Fx.dg S 0)) (Fx.dg S 1)) (Fx.dg S 2)) (Nat.land (Nat.add (Nat.mul 3 (Nat.add (Nat.mul 3 (Nat.add (Nat.mul 3 1) (Fx.dg S 2))) (Fx.dg S 1))) (Fx.dg S 0)) 18446744073709551615)) = Own.aL [Fx.av ρ (Fx.dg S 2), Fx.av ρ (Fx.dg S 1), Fx.av ρ (Fx.dg S 0)] 4 := by
    unfold Own.aL
    rw [e, Fx.avL_salt (Fx.salt_lt _), Fx.avL_psh, Fx.avL_psh, Fx.avL_psh]
    · rw [Fx.avL_unsets (n := 1) (by decide +kernel)]; rfl
    all_goals first | exact Fx.dg_lt | decide
  exact ⟨_, _, [Fx.av ρ (Fx.dg S 1), Fx.av ρ (Fx.dg S 0)], _, q, Fx.avS_split ρ 3 d S, rfl, Fx.av_ref zr, by rw [e]; exact Nat.le_of_ble_eq_true rfl, f⟩
def CS_5 (R : Fx.Cal) (d : Nat) (c : Fx.Cont) : Fx.Cont := fun L S A => Fx.brc .bad (Fx.callF R 5 2 d (Fx.rsk 2 S) L A c (Fx.psh (Fx.psh (Fx.psh 0 (Fx.dg S 0)) (Fx.dg S 1)) (Nat.land (Nat.add (Nat.mul 3 (Nat.add (Nat.mul 3 1) (Fx.dg S 1))) (Fx.dg S 0)) 18446744073709551615))) (Nat.beq (Nat.add (Nat.add 0 (Nat.xor (Fx.tq (Fx.dg S 1)) 0)) (Nat.xor (Fx.tq (Fx.dg S 0)) 0)) 0)
theorem CS_5_ok (R : Fx.Cal) (d : Nat) : Fx.StatC R 5 2 2 d (CS_5 R d) := by
  intro ρ c L S A r q hr
  obtain ⟨z, q⟩ := Fx.brec_t q hr
  have z := Nat.eq_of_beq_eq_true z
  obtain ⟨g1, e1⟩ := Fx.add0 z
  obtain ⟨g0, e0⟩ := Fx.add0 g1
  have e : Own.aFill [Fx.av ρ (Fx.dg S 1), Fx.av ρ (Fx.dg S 0)] = [Fx.avs ρ (Fx.dg S 1), Fx.avs ρ (Fx.dg S 0)] := by
    rw [Fx.fill1 (Fx.xor0 e0), Fx.fill1 (Fx.xor0 e1)]; rfl
  have f : Fx.avL ρ 2 (Fx.psh (Fx.psh (Fx.psh 0 (Fx.dg S 0)) (Fx.dg S 1)) (Nat.land (Nat.add (Nat.mul 3 (Nat.add (Nat.mul 3 1) (Fx.dg S 1))) (Fx.dg S 0)) 18446744073709551615)) = Own.aL [Fx.av ρ (Fx.dg S 1), Fx.av ρ (Fx.dg S 0)] 2 := by
    unfold Own.aL
    rw [e, Fx.avL_salt (Fx.salt_lt _), Fx.avL_psh, Fx.avL_psh]
    · rw [Fx.avL_unsets (n := 0) (by decide +kernel)]; rfl
    all_goals first | exact Fx.dg_lt | decide
  exact ⟨[Fx.av ρ (Fx.dg S 1), Fx.av ρ (Fx.dg S 0)], _, q, Fx.avS_split ρ 2 d S, rfl, by rw [e]; exact Nat.le_of_ble_eq_true rfl, f⟩
def CS_6 (R : Fx.Cal) (d : Nat) (c : Fx.Cont) : Fx.Cont := fun L S A => Fx.brc .bad (Fx.callF R 6 7 d (Fx.rsk 2 S) L A c (Fx.psh (Fx.psh (Fx.psh 5043456793138493339171721304668062100077711304399797909077250671044439995374718159214811675000830610696635616057098240 (Fx.dg S 0)) (Fx.dg S 1)) (Nat.land (Nat.add (Nat.mul 3 (Nat.add (Nat.mul 3 1) (Fx.dg S 1))) (Fx.dg S 0)) 18446744073709551615))) (Nat.beq (Nat.add (Nat.add 0 (Nat.xor (Fx.tq (Fx.dg S 1)) 0)) (Nat.xor (Fx.tq (Fx.dg S 0)) 0)) 0)
theorem CS_6_ok (R : Fx.Cal) (d : Nat) : Fx.StatC R 6 7 2 d (CS_6 R d) := by
  intro ρ c L S A r q hr
  obtain ⟨z, q⟩ := Fx.brec_t q hr
  have z := Nat.eq_of_beq_eq_true z
  obtain ⟨g1, e1⟩ := Fx.add0 z
  obtain ⟨g0, e0⟩ := Fx.add0 g1
  have e : Own.aFill [Fx.av ρ (Fx.dg S 1), Fx.av ρ (Fx.dg S 0)] = [Fx.avs ρ (Fx.dg S 1), Fx.avs ρ (Fx.dg S 0)] := by
    rw [Fx.fill1 (Fx.xor0 e0), Fx.fill1 (Fx.xor0 e1)]; rfl
  have f : Fx.avL ρ 7 (Fx.psh (Fx.psh (Fx.psh 5043456793138493339171721304668062100077711304399797909077250671044439995374718159214811675000830610696635616057098240 (Fx.dg S 0)) (Fx.dg S 1)) (Nat.land (Nat.add (Nat.mul 3 (Nat.add (Nat.mul 3 1) (Fx.dg S 1))) (Fx.dg S 0)) 18446744073709551615)) = Own.aL [Fx.av ρ (Fx.dg S 1), Fx.av ρ (Fx.dg S 0)] 7 := by
    unfold Own.aL
    rw [e, Fx.avL_salt (Fx.salt_lt _), Fx.avL_psh, Fx.avL_psh]
    · rw [Fx.avL_unsets (n := 5) (by decide +kernel)]; rfl
    all_goals first | exact Fx.dg_lt | decide
  exact ⟨[Fx.av ρ (Fx.dg S 1), Fx.av ρ (Fx.dg S 0)], _, q, Fx.avS_split ρ 2 d S, rfl, by rw [e]; exact Nat.le_of_ble_eq_true rfl, f⟩
def CI_6 (R : Fx.Cal) (d : Nat) (c : Fx.Cont) : Fx.Cont := fun L S A => Fx.brc .bad (Fx.callF R 6 7 d (Fx.rsk 3 S) L A c (Fx.psh (Fx.psh (Fx.psh (Fx.psh 4171849679533027504677780220735579869115300987608623075200953785594375561408673387233297825792 (Fx.dg S 0)) (Fx.dg S 1)) (Fx.dg S 2)) (Nat.land (Nat.add (Nat.mul 3 (Nat.add (Nat.mul 3 (Nat.add (Nat.mul 3 1) (Fx.dg S 2))) (Fx.dg S 1))) (Fx.dg S 0)) 18446744073709551615))) (Nat.beq (Nat.add (Nat.add (Nat.add (Nat.add 0 (Nat.xor (Fx.tq (Fx.dg S 2)) 0)) (Nat.xor (Fx.tq (Fx.dg S 1)) 0)) (Nat.xor (Fx.tq (Fx.dg S 0)) 0)) (Fx.isR (Fx.dg S 2))) 0)
theorem CI_6_ok (R : Fx.Cal) (d : Nat) : Fx.SpecC R 6 7 2 d (CI_6 R d) := by
  intro ρ c L S A r q hr
  obtain ⟨z, q⟩ := Fx.brec_t q hr
  have z := Nat.eq_of_beq_eq_true z
  obtain ⟨h1, zr⟩ := Fx.add0 z
  obtain ⟨g2, e2⟩ := Fx.add0 h1
  obtain ⟨g1, e1⟩ := Fx.add0 g2
  obtain ⟨g0, e0⟩ := Fx.add0 g1
  have e : Own.aFill [Fx.av ρ (Fx.dg S 2), Fx.av ρ (Fx.dg S 1), Fx.av ρ (Fx.dg S 0)] = [Fx.avs ρ (Fx.dg S 2), Fx.avs ρ (Fx.dg S 1), Fx.avs ρ (Fx.dg S 0)] := by
    rw [Fx.fill1 (Fx.xor0 e0), Fx.fill1 (Fx.xor0 e1), Fx.fill1 (Fx.xor0 e2)]; rfl
  have f : Fx.avL ρ 7 (Fx.psh (Fx.psh (Fx.psh (Fx.psh 4171849679533027504677780220735579869115300987608623075200953785594375561408673387233297825792 (Fx.dg S 0)) (Fx.dg S 1)) (Fx.dg S 2)) (Nat.land (Nat.add (Nat.mul 3 (Nat.add (Nat.mul 3 (Nat.add (Nat.mul 3 1) (Fx.dg S 2))) (Fx.dg S 1))) (Fx.dg S 0)) 18446744073709551615)) = Own.aL [Fx.av ρ (Fx.dg S 2), Fx.av ρ (Fx.dg S 1), Fx.av ρ (Fx.dg S 0)] 7 := by
    unfold Own.aL
    rw [e, Fx.avL_salt (Fx.salt_lt _), Fx.avL_psh, Fx.avL_psh, Fx.avL_psh]
    · rw [Fx.avL_unsets (n := 4) (by decide +kernel)]; rfl
    all_goals first | exact Fx.dg_lt | decide
  exact ⟨_, _, [Fx.av ρ (Fx.dg S 1), Fx.av ρ (Fx.dg S 0)], _, q, Fx.avS_split ρ 3 d S, rfl, Fx.av_ref zr, by rw [e]; exact Nat.le_of_ble_eq_true rfl, f⟩
def CV_8_6 (R : Fx.Cal) (d : Nat) (c : Fx.Cont) : Fx.Cont := fun L S A => Fx.brc .bad (Fx.callF R 6 7 d (Fx.rsk 3 S) L A c (Fx.psh (Fx.psh (Fx.psh (Fx.psh 4171849679533027504677780220735579869115300987608623075200953785594375561408673387233297825792 (Fx.dg S 0)) (Fx.dg S 1)) (Fx.dg S 2)) (Nat.land (Nat.add (Nat.mul 3 (Nat.add (Nat.mul 3 (Nat.add (Nat.mul 3 1) (Fx.dg S 2))) (Fx.dg S 1))) (Fx.dg S 0)) 18446744073709551615))) (Nat.beq (Nat.add (Nat.add (Nat.add (Nat.add (Nat.add 0 (Nat.xor (Fx.tq (Fx.dg S 2)) 0)) (Nat.xor (Fx.tq (Fx.dg S 1)) 0)) (Nat.xor (Fx.tq (Fx.dg S 0)) 0)) (Fx.isR (Fx.dg S 2))) (Fx.isO A (Fx.rf (Fx.dg S 2)) 8)) 0)
theorem CV_8_6_ok (R : Fx.Cal) (d d1 : Nat) : Fx.VirtC R 2 d d1 (fun k => if k = 8 then some (6, 7) else none) (CV_8_6 R d) := by
  intro ρ c L S A r q hr
  obtain ⟨z, q⟩ := Fx.brec_t q hr
  have z := Nat.eq_of_beq_eq_true z
  obtain ⟨h0, zk⟩ := Fx.add0 z
  obtain ⟨h1, zr⟩ := Fx.add0 h0
  obtain ⟨g2, e2⟩ := Fx.add0 h1
  obtain ⟨g1, e1⟩ := Fx.add0 g2
  obtain ⟨g0, e0⟩ := Fx.add0 g1
  have e : Own.aFill [Fx.av ρ (Fx.dg S 2), Fx.av ρ (Fx.dg S 1), Fx.av ρ (Fx.dg S 0)] = [Fx.avs ρ (Fx.dg S 2), Fx.avs ρ (Fx.dg S 1), Fx.avs ρ (Fx.dg S 0)] := by
    rw [Fx.fill1 (Fx.xor0 e0), Fx.fill1 (Fx.xor0 e1), Fx.fill1 (Fx.xor0 e2)]; rfl
  have f : Fx.avL ρ 7 (Fx.psh (Fx.psh (Fx.psh (Fx.psh 4171849679533027504677780220735579869115300987608623075200953785594375561408673387233297825792 (Fx.dg S 0)) (Fx.dg S 1)) (Fx.dg S 2)) (Nat.land (Nat.add (Nat.mul 3 (Nat.add (Nat.mul 3 (Nat.add (Nat.mul 3 1) (Fx.dg S 2))) (Fx.dg S 1))) (Fx.dg S 0)) 18446744073709551615)) = Own.aL [Fx.av ρ (Fx.dg S 2), Fx.av ρ (Fx.dg S 1), Fx.av ρ (Fx.dg S 0)] 7 := by
    unfold Own.aL
    rw [e, Fx.avL_salt (Fx.salt_lt _), Fx.avL_psh, Fx.avL_psh, Fx.avL_psh]
    · rw [Fx.avL_unsets (n := 4) (by decide +kernel)]; rfl
    all_goals first | exact Fx.dg_lt | decide
  exact ⟨_, _, [Fx.av ρ (Fx.dg S 1), Fx.av ρ (Fx.dg S 0)], _, 8, 6, 7, q, Fx.avS_split ρ 3 d S, rfl, Fx.av_ref zr, ⟨_, Fx.isO_get zk⟩, if_pos rfl, by rw [e]; exact Nat.le_of_ble_eq_true rfl, f⟩
def B_0_369 (T : Fx.Tab) (R : Fx.Cal) (J : Fx.Jmp) : Fx.Cont :=
  Fx.retF Fx.fitB
def B_0_368 (T : Fx.Tab) (R : Fx.Cal) (J : Fx.Jmp) : Fx.Cont :=
  Fx.cstF 0 (B_0_369 T R J)
def B_0_330 (T : Fx.Tab) (R : Fx.Cal) (J : Fx.Jmp) : Fx.Cont :=
  Fx.bI T 3 Nat.land (Fx.i2lF T (Fx.ldF 4 17 (Fx.bJ T 12 Fx.hmulL (Fx.bJ T 10 Fx.haddL (Fx.st2F 4 24 (Fx.ldF 1 22 (Fx.ldF 0 9 (Fx.ldF 0 8 (Fx.bI T 0 Fx.hadd (Fx.cstF 5 (Fx.bP T 23 Fx.qdiv Nat.mod (Fx.ldF 0 10 (Fx.ldF 0 8 (Fx.bI T 0 Fx.hadd (Fx.cstF 5 (Fx.bP T 23 Fx.qdiv Nat.mod (CV_8_6 R 0 (Fx.ldF 4 24 (Fx.uT T 39 (Fx.bT T 20 (Fx.b0 T 43 Fx.zNe (B_0_368 T R J) (Fx.cstF 1 (B_0_369 T R J)))))))))))))))))))))))
def B_0_275 (T : Fx.Tab) (R : Fx.Cal) (J : Fx.Jmp) : Fx.Cont :=
  CI_1 R 1 (Fx.st1F 26 1 22 (Fx.ldF 1 19 (Fx.ldF 0 9 (Fx.alF T 0 (Fx.ldF 1 19 (Fx.ldF 0 10 (Fx.alF T 0 (Fx.bI T 5 Nat.xor (Fx.st1F 26 0 23 (Fx.ldF 0 23 (Fx.cstF 1 (Fx.bP T 7 Fx.qshr Nat.shiftRight (Fx.cstF 1 (Fx.bI T 3 Nat.land (Fx.i2lF T (Fx.ldF 4 11 (Fx.bJ T 12 Fx.hmulL (Fx.ldF 0 23 (Fx.cstF 2 (Fx.bP T 7 Fx.qshr Nat.shiftRight (Fx.cstF 1 (Fx.bI T 3 Nat.land (Fx.i2lF T (Fx.ldF 4 13 (Fx.bJ T 12 Fx.hmulL (Fx.bJ T 10 Fx.haddL (Fx.ldF 0 23 (Fx.cstF 3 (Fx.bP T 7 Fx.qshr Nat.shiftRight (Fx.cstF 1 (Fx.bI T 3 Nat.land (Fx.i2lF T (Fx.ldF 4 15 (Fx.bJ T 12 Fx.hmulL (Fx.bJ T 10 Fx.haddL (Fx.ldF 0 23 (Fx.cstF 4 (Fx.bP T 7 Fx.qshr Nat.shiftRight (Fx.cstF 1 (B_0_330 T R J))))))))))))))))))))))))))))))))))))))))
def B_0_220 (T : Fx.Tab) (R : Fx.Cal) (J : Fx.Jmp) : Fx.Cont :=
  Fx.ldF 0 8 (Fx.bI T 0 Fx.hadd (Fx.cstF 5 (Fx.bP T 23 Fx.qdiv Nat.mod (Fx.asF T 0 0 0 (Fx.ldF 1 21 (Fx.cstF 3 (Fx.ldF 0 8 (Fx.bI T 0 Fx.hadd (Fx.cstF 5 (Fx.bP T 23 Fx.qdiv Nat.mod (Fx.ldF 4 15 (Fx.uT T 39 (Fx.asF T 0 2 5 (Fx.ldF 1 20 (Fx.cstF 4 (Fx.ldF 0 8 (Fx.bI T 0 Fx.hadd (Fx.cstF 5 (Fx.bP T 23 Fx.qdiv Nat.mod (Fx.ldF 0 7 (Fx.ldF 0 8 (Fx.bI T 0 Fx.hadd (Fx.cstF 5 (Fx.bP T 23 Fx.qdiv Nat.mod (Fx.asF T 0 0 0 (Fx.ldF 1 21 (Fx.cstF 4 (Fx.ldF 0 8 (Fx.bI T 0 Fx.hadd (Fx.cstF 5 (Fx.bP T 23 Fx.qdiv Nat.mod (Fx.ldF 4 17 (Fx.uT T 39 (Fx.asF T 0 2 5 (Fx.newF 8 6 6 [0, 1180591620717411303424, 1180591620717411303424, 0, 1180591620717411303424, 0] (Fx.dupF (Fx.cstF 5 (Fx.ldF 1 20 (Fx.ldF 1 21 (B_0_275 T R J))))))))))))))))))))))))))))))))))))))))
def B_0_166 (T : Fx.Tab) (R : Fx.Cal) (J : Fx.Jmp) : Fx.Cont :=
  Fx.bP T 23 Fx.qdiv Nat.mod (Fx.ldF 0 8 (Fx.asF T 0 0 0 (Fx.ldF 1 21 (Fx.cstF 1 (Fx.ldF 0 8 (Fx.bI T 0 Fx.hadd (Fx.cstF 5 (Fx.bP T 23 Fx.qdiv Nat.mod (Fx.ldF 4 11 (Fx.uT T 39 (Fx.asF T 0 2 5 (Fx.ldF 1 20 (Fx.cstF 2 (Fx.ldF 0 8 (Fx.bI T 0 Fx.hadd (Fx.cstF 5 (Fx.bP T 23 Fx.qdiv Nat.mod (Fx.ldF 0 5 (Fx.ldF 0 8 (Fx.bI T 0 Fx.hadd (Fx.cstF 5 (Fx.bP T 23 Fx.qdiv Nat.mod (Fx.asF T 0 0 0 (Fx.ldF 1 21 (Fx.cstF 2 (Fx.ldF 0 8 (Fx.bI T 0 Fx.hadd (Fx.cstF 5 (Fx.bP T 23 Fx.qdiv Nat.mod (Fx.ldF 4 13 (Fx.uT T 39 (Fx.asF T 0 2 5 (Fx.ldF 1 20 (Fx.cstF 3 (Fx.ldF 0 8 (Fx.bI T 0 Fx.hadd (Fx.cstF 5 (Fx.bP T 23 Fx.qdiv Nat.mod (Fx.ldF 0 6 (B_0_220 T R J))))))))))))))))))))))))))))))))))))))))
def B_0_106 (T : Fx.Tab) (R : Fx.Cal) (J : Fx.Jmp) : Fx.Cont :=
  Fx.ldF 1 19 (Fx.ldF 0 5 (Fx.alF T 0 (Fx.bI T 4 Nat.lor (Fx.asF T 0 0 0 (Fx.ldF 1 19 (Fx.cstF 3 (Fx.cstF 8 (Fx.ldF 1 19 (Fx.ldF 0 6 (Fx.alF T 0 (Fx.bI T 4 Nat.lor (Fx.asF T 0 0 0 (Fx.ldF 1 19 (Fx.cstF 4 (Fx.cstF 16 (Fx.ldF 1 19 (Fx.ldF 0 7 (Fx.alF T 0 (Fx.bI T 4 Nat.lor (Fx.asF T 0 0 0 (Fx.cstF 5 (Fx.newaF T 0 0 (Fx.st1F 26 1 20 (Fx.cstF 5 (Fx.newaF T 2 5902958103587056517120 (Fx.st1F 26 1 21 (Fx.ldF 1 20 (Fx.ldF 0 8 (Fx.cstF 4294967295 (Fx.asF T 0 0 0 (Fx.ldF 1 21 (Fx.ldF 0 8 (Fx.cstF 5902958103587056517120 (Fx.asF T 0 2 5 (Fx.ldF 1 20 (Fx.cstF 1 (Fx.ldF 0 8 (Fx.bI T 0 Fx.hadd (Fx.cstF 5 (B_0_166 T R J))))))))))))))))))))))))))))))))))))))))
def B_0_50 (T : Fx.Tab) (R : Fx.Cal) (J : Fx.Jmp) : Fx.Cont :=
  Fx.bP T 23 Fx.qdiv Nat.mod (Fx.st1F 26 0 10 (Fx.ldF 0 1 (Fx.cstF 1048575 (Fx.bI T 3 Nat.land (Fx.i2lF T (Fx.st2F 4 11 (Fx.ldF 0 2 (Fx.cstF 1048575 (Fx.bI T 3 Nat.land (Fx.i2lF T (Fx.st2F 4 13 (Fx.ldF 0 3 (Fx.cstF 1048575 (Fx.bI T 3 Nat.land (Fx.i2lF T (Fx.st2F 4 15 (Fx.ldF 0 4 (Fx.cstF 1048575 (Fx.bI T 3 Nat.land (Fx.i2lF T (Fx.st2F 4 17 (Fx.cstF 5 (Fx.newaF T 0 0 (Fx.st1F 26 1 19 (Fx.ldF 1 19 (Fx.cstF 0 (Fx.cstF 1 (Fx.asF T 0 0 0 (Fx.ldF 1 19 (Fx.cstF 1 (Fx.cstF 2 (Fx.ldF 1 19 (Fx.cstF 0 (Fx.alF T 0 (Fx.bI T 4 Nat.lor (Fx.asF T 0 0 0 (Fx.ldF 1 19 (Fx.cstF 2 (Fx.cstF 4 (B_0_106 T R J))))))))))))))))))))))))))))))))))))))))
def B_0_0 (T : Fx.Tab) (R : Fx.Cal) (J : Fx.Jmp) : Fx.Cont :=
  Fx.ldF 0 0 (Fx.cstF 1 (Fx.bI T 3 Nat.land (Fx.st1F 26 0 5 (Fx.ldF 0 0 (Fx.cstF 1 (Fx.bP T 8 Fx.qshr Nat.shiftRight (Fx.cstF 3 (Fx.bI T 3 Nat.land (Fx.cstF 3 (Fx.bP T 23 Fx.qdiv Nat.mod (Fx.st1F 26 0 6 (Fx.ldF 0 0 (Fx.cstF 3 (Fx.bP T 8 Fx.qshr Nat.shiftRight (Fx.cstF 3 (Fx.bI T 3 Nat.land (Fx.st1F 26 0 7 (Fx.ldF 0 0 (Fx.cstF 5 (Fx.bP T 8 Fx.qshr Nat.shiftRight (Fx.cstF 7 (Fx.bI T 3 Nat.land (Fx.cstF 5 (Fx.bP T 23 Fx.qdiv Nat.mod (Fx.st1F 26 0 8 (Fx.ldF 0 0 (Fx.cstF 8 (Fx.bP T 8 Fx.qshr Nat.shiftRight (Fx.cstF 7 (Fx.bI T 3 Nat.land (Fx.cstF 5 (Fx.bP T 23 Fx.qdiv Nat.mod (Fx.st1F 26 0 9 (Fx.ldF 0 0 (Fx.cstF 11 (Fx.bP T 8 Fx.qshr Nat.shiftRight (Fx.cstF 7 (Fx.bI T 3 Nat.land (Fx.cstF 5 (B_0_50 T R J))))))))))))))))))))))))))))))))))))))))
def BM_0 (T : Fx.Tab) (R : Fx.Cal) (J : Fx.Jmp) (pc : Nat) : Fx.Cont := Fx.brcC Fx.stop (B_0_0 T R J) (Nat.beq pc 0)
def B_1_326 (T : Fx.Tab) (R : Fx.Cal) (J : Fx.Jmp) : Fx.Cont :=
  Fx.ldF 1 0 (Fx.ldF 0 6 (Fx.cstF 1 (Fx.bI T 0 Fx.hadd (Fx.putF 0 8 5 (Fx.onq 0) (Fx.xretV)))))
def B_1_297 (T : Fx.Tab) (R : Fx.Cal) (J : Fx.Jmp) : Fx.Cont :=
  Fx.ldF 0 9 (Fx.ldF 0 8 (Fx.b2 T 51 Fx.cGe (B_1_326 T R J) (Fx.ldF 1 7 (Fx.ldF 0 9 (Fx.alF T 0 (Fx.st1F 11 0 10 (Fx.ldF 0 6 (Fx.ldF 0 10 (CS_5 R 0 (Fx.st1F 11 0 6 (Fx.incF 9 1 (Fx.jpF J 297))))))))))))
def B_1_234 (T : Fx.Tab) (R : Fx.Cal) (J : Fx.Jmp) : Fx.Cont :=
  Fx.ldF 1 0 (Fx.ldF 0 1 (Fx.putF 0 8 0 (Fx.onq 0) (Fx.ldF 1 0 (Fx.ldF 1 2 (Fx.cloneF 0 1 (Fx.castF (fun k => Nat.beq k 0) (Fx.putF 0 8 1 (Fx.onq 1) (Fx.ldF 1 0 (Fx.ldF 1 3 (Fx.cloneF 2 1 (Fx.castF (fun k => Nat.beq k 2) (Fx.putF 0 8 2 (Fx.onq 1) (Fx.ldF 1 0 (Fx.ldF 0 5 (Fx.putF 0 8 3 (Fx.onq 0) (Fx.ldF 1 0 (Fx.ldF 1 0 (Fx.getF 8 1 (Fx.ldF 0 5 (CS_3 R 1 (Fx.putF 0 8 4 (Fx.onq 1) (Fx.cstF 0 (Fx.st1F 11 0 6 (Fx.ldF 1 0 (Fx.getF 8 4 (Fx.st1F 11 1 7 (Fx.ldF 1 7 (Fx.alenF (Fx.st1F 11 0 8 (Fx.cstF 0 (Fx.st1F 11 0 9 (B_1_297 T R J))))))))))))))))))))))))))))))))
def B_1_206 (T : Fx.Tab) (R : Fx.Cal) (J : Fx.Jmp) : Fx.Cont :=
  Fx.ldF 1 3 (Fx.ldF 0 5 (Fx.alF T 2 (Fx.cstF 5902958103587056517120 (Fx.bT T 20 (Fx.b0 T 42 Fx.zEq (B_1_234 T R J) (Fx.stop))))))
def B_1_191 (T : Fx.Tab) (R : Fx.Cal) (J : Fx.Jmp) : Fx.Cont :=
  Fx.ldF 0 5 (Fx.b0 T 45 Fx.zGe (B_1_206 T R J) (Fx.stop))
def B_1_185 (T : Fx.Tab) (R : Fx.Cal) (J : Fx.Jmp) : Fx.Cont :=
  Fx.incF 6 1 (Fx.jpF J 64)
def B_1_166 (T : Fx.Tab) (R : Fx.Cal) (J : Fx.Jmp) : Fx.Cont :=
  Fx.stop
def B_1_147 (T : Fx.Tab) (R : Fx.Cal) (J : Fx.Jmp) : Fx.Cont :=
  Fx.ldF 1 3 (Fx.ldF 0 6 (Fx.alF T 2 (CS_2 R 0 (Fx.b0 T 42 Fx.zEq (B_1_166 T R J) (Fx.ldF 1 3 (Fx.ldF 0 6 (Fx.alF T 2 (Fx.cstF 5902958103587056517120 (Fx.bT T 21 (Fx.b0 T 45 Fx.zGe (B_1_185 T R J) (B_1_166 T R J)))))))))))
def B_1_124 (T : Fx.Tab) (R : Fx.Cal) (J : Fx.Jmp) : Fx.Cont :=
  Fx.stop
def B_1_108 (T : Fx.Tab) (R : Fx.Cal) (J : Fx.Jmp) : Fx.Cont :=
  Fx.ldF 1 2 (Fx.ldF 0 6 (Fx.alF T 0 (Fx.b0 T 44 Fx.zLt (B_1_124 T R J) (Fx.ldF 1 2 (Fx.ldF 0 6 (Fx.alF T 0 (Fx.ldF 0 4 (Fx.b2 T 50 Fx.cLt (B_1_147 T R J) (B_1_124 T R J)))))))))
def B_1_101 (T : Fx.Tab) (R : Fx.Cal) (J : Fx.Jmp) : Fx.Cont :=
  Fx.ldF 0 6 (Fx.st1F 11 0 5 (B_1_147 T R J))
def B_1_64 (T : Fx.Tab) (R : Fx.Cal) (J : Fx.Jmp) : Fx.Cont :=
  Fx.ldF 0 6 (Fx.ldF 0 4 (Fx.b2 T 51 Fx.cGe (B_1_191 T R J) (Fx.ldF 1 2 (Fx.ldF 0 6 (Fx.alF T 0 (Fx.cstF 4294967295 (Fx.b2 T 49 Fx.cNe (B_1_108 T R J) (Fx.ldF 0 5 (Fx.b0 T 44 Fx.zLt (B_1_101 T R J) (Fx.stop))))))))))
def B_1_58 (T : Fx.Tab) (R : Fx.Cal) (J : Fx.Jmp) : Fx.Cont :=
  Fx.cstF 4294967295 (Fx.st1F 11 0 5 (Fx.cstF 0 (Fx.st1F 11 0 6 (B_1_64 T R J))))
def B_1_42 (T : Fx.Tab) (R : Fx.Cal) (J : Fx.Jmp) : Fx.Cont :=
  Fx.stop
def B_1_32 (T : Fx.Tab) (R : Fx.Cal) (J : Fx.Jmp) : Fx.Cont :=
  Fx.ldF 0 1 (Fx.b0 T 44 Fx.zLt (B_1_42 T R J) (Fx.ldF 0 1 (Fx.ldF 0 4 (Fx.b2 T 53 Fx.cLe (B_1_58 T R J) (B_1_42 T R J)))))
def B_1_0 (T : Fx.Tab) (R : Fx.Cal) (J : Fx.Jmp) : Fx.Cont :=
  Fx.ldF 1 0 (Fx.oinitF 0 (Fx.ldF 1 2 (Fx.alenF (Fx.st1F 11 0 4 (Fx.ldF 1 3 (Fx.alenF (Fx.ldF 0 4 (Fx.b2 T 48 Fx.cEq (B_1_32 T R J) (Fx.stop)))))))))
def BM_1 (T : Fx.Tab) (R : Fx.Cal) (J : Fx.Jmp) (pc : Nat) : Fx.Cont := Fx.brcC (Fx.brcC (Fx.brcC Fx.stop (B_1_297 T R J) (Nat.beq pc 297)) (Fx.brcC Fx.stop (B_1_64 T R J) (Nat.beq pc 64)) (Nat.blt pc 297)) (Fx.brcC Fx.stop (B_1_0 T R J) (Nat.beq pc 0)) (Nat.blt pc 64)
def B_2_16 (T : Fx.Tab) (R : Fx.Cal) (J : Fx.Jmp) : Fx.Cont :=
  Fx.retF Fx.fitB
def B_2_15 (T : Fx.Tab) (R : Fx.Cal) (J : Fx.Jmp) : Fx.Cont :=
  Fx.cstF 0 (B_2_16 T R J)
def B_2_0 (T : Fx.Tab) (R : Fx.Cal) (J : Fx.Jmp) : Fx.Cont :=
  Fx.ldF 5 0 (Fx.ext1F T 100 1 13 0 (Fx.cstF 5912176972024283922431 (Fx.bT T 21 (Fx.b0 T 46 Fx.zGt (B_2_15 T R J) (Fx.cstF 1 (B_2_16 T R J))))))
def BM_2 (T : Fx.Tab) (R : Fx.Cal) (J : Fx.Jmp) (pc : Nat) : Fx.Cont := Fx.brcC Fx.stop (B_2_0 T R J) (Nat.beq pc 0)
def B_3_126 (T : Fx.Tab) (R : Fx.Cal) (J : Fx.Jmp) : Fx.Cont :=
  Fx.ldF 1 2 (Fx.retF (Fx.onq 1))
def B_3_120 (T : Fx.Tab) (R : Fx.Cal) (J : Fx.Jmp) : Fx.Cont :=
  Fx.incF 4 1 (Fx.jpF J 22)
def B_3_98 (T : Fx.Tab) (R : Fx.Cal) (J : Fx.Jmp) : Fx.Cont :=
  Fx.ldF 0 5 (Fx.b0 T 47 Fx.zLe (B_3_120 T R J) (Fx.ldF 1 2 (Fx.ldF 1 3 (Fx.incF 5 4294967295 (Fx.ldF 0 5 (Fx.alF T 0 (Fx.incF 7 1 (Fx.ldF 0 7 (Fx.asF T 0 0 0 (Fx.jpF J 98))))))))))
def B_3_92 (T : Fx.Tab) (R : Fx.Cal) (J : Fx.Jmp) : Fx.Cont :=
  Fx.ldF 1 2 (Fx.ldF 0 6 (Fx.alF T 0 (Fx.st1F 8 0 7 (B_3_98 T R J))))
def B_3_68 (T : Fx.Tab) (R : Fx.Cal) (J : Fx.Jmp) : Fx.Cont :=
  Fx.ldF 1 2 (Fx.ldF 0 6 (Fx.alF T 0 (Fx.cstF 4294967294 (Fx.b2 T 49 Fx.cNe (B_3_92 T R J) (Fx.stop)))))
def B_3_36 (T : Fx.Tab) (R : Fx.Cal) (J : Fx.Jmp) : Fx.Cont :=
  Fx.ldF 1 2 (Fx.ldF 0 6 (Fx.alF T 0 (Fx.cstF 4294967295 (Fx.b2 T 49 Fx.cNe (B_3_68 T R J) (Fx.ldF 1 2 (Fx.ldF 0 6 (Fx.cstF 4294967294 (Fx.asF T 0 0 0 (Fx.ldF 1 3 (Fx.ldF 0 5 (Fx.incF 5 1 (Fx.ldF 0 6 (Fx.asF T 0 0 0 (Fx.ldF 1 0 (Fx.ldF 0 6 (Fx.alF T 0 (Fx.st1F 8 0 6 (Fx.jpF J 36))))))))))))))))))
def B_3_22 (T : Fx.Tab) (R : Fx.Cal) (J : Fx.Jmp) : Fx.Cont :=
  Fx.ldF 0 4 (Fx.ldF 1 0 (Fx.alenF (Fx.b2 T 51 Fx.cGe (B_3_126 T R J) (Fx.cstF 0 (Fx.st1F 8 0 5 (Fx.ldF 0 4 (Fx.st1F 8 0 6 (B_3_36 T R J))))))))
def B_3_0 (T : Fx.Tab) (R : Fx.Cal) (J : Fx.Jmp) : Fx.Cont :=
  Fx.ldF 1 0 (Fx.alenF (Fx.newaF T 0 0 (Fx.st1F 8 1 2 (Fx.ldF 1 2 (Fx.cstF 4294967295 (CS_4 R 0 (Fx.ldF 1 2 (Fx.ldF 0 1 (Fx.cstF 0 (Fx.asF T 0 0 0 (Fx.ldF 1 0 (Fx.alenF (Fx.newaF T 0 0 (Fx.st1F 8 1 3 (Fx.cstF 0 (Fx.st1F 8 0 4 (B_3_22 T R J)))))))))))))))))
def BM_3 (T : Fx.Tab) (R : Fx.Cal) (J : Fx.Jmp) (pc : Nat) : Fx.Cont := Fx.brcC (Fx.brcC (Fx.brcC Fx.stop (B_3_98 T R J) (Nat.beq pc 98)) (Fx.brcC Fx.stop (B_3_36 T R J) (Nat.beq pc 36)) (Nat.blt pc 98)) (Fx.brcC (Fx.brcC Fx.stop (B_3_22 T R J) (Nat.beq pc 22)) (Fx.brcC Fx.stop (B_3_0 T R J) (Nat.beq pc 0)) (Nat.blt pc 22)) (Nat.blt pc 36)
def B_4_20 (T : Fx.Tab) (R : Fx.Cal) (J : Fx.Jmp) : Fx.Cont :=
  Fx.xretV
def B_4_5 (T : Fx.Tab) (R : Fx.Cal) (J : Fx.Jmp) : Fx.Cont :=
  Fx.ldF 0 2 (Fx.ldF 0 3 (Fx.b2 T 51 Fx.cGe (B_4_20 T R J) (Fx.ldF 1 0 (Fx.ldF 0 2 (Fx.ldF 0 1 (Fx.asF T 0 0 0 (Fx.incF 2 1 (Fx.jpF J 5))))))))
def B_4_0 (T : Fx.Tab) (R : Fx.Cal) (J : Fx.Jmp) : Fx.Cont :=
  Fx.cstF 0 (Fx.st1F 4 0 2 (Fx.ldF 1 0 (Fx.alenF (Fx.st1F 4 0 3 (B_4_5 T R J)))))
def BM_4 (T : Fx.Tab) (R : Fx.Cal) (J : Fx.Jmp) (pc : Nat) : Fx.Cont := Fx.brcC (Fx.brcC Fx.stop (B_4_5 T R J) (Nat.beq pc 5)) (Fx.brcC Fx.stop (B_4_0 T R J) (Nat.beq pc 0)) (Nat.blt pc 5)
def B_5_10 (T : Fx.Tab) (R : Fx.Cal) (J : Fx.Jmp) : Fx.Cont :=
  Fx.retF (Fx.onq 0)
def B_5_9 (T : Fx.Tab) (R : Fx.Cal) (J : Fx.Jmp) : Fx.Cont :=
  Fx.ldF 0 1 (B_5_10 T R J)
def B_5_0 (T : Fx.Tab) (R : Fx.Cal) (J : Fx.Jmp) : Fx.Cont :=
  Fx.ldF 0 0 (Fx.ldF 0 1 (Fx.b2 T 50 Fx.cLt (B_5_9 T R J) (Fx.ldF 0 0 (B_5_10 T R J))))
def BM_5 (T : Fx.Tab) (R : Fx.Cal) (J : Fx.Jmp) (pc : Nat) : Fx.Cont := Fx.brcC Fx.stop (B_5_0 T R J) (Nat.beq pc 0)
def B_6_129 (T : Fx.Tab) (R : Fx.Cal) (J : Fx.Jmp) : Fx.Cont :=
  Fx.ldF 5 5 (Fx.retF (Fx.onq 5))
def B_6_85 (T : Fx.Tab) (R : Fx.Cal) (J : Fx.Jmp) : Fx.Cont :=
  Fx.ldF 0 3 (Fx.ldF 0 4 (Fx.b2 T 48 Fx.cEq (B_6_129 T R J) (Fx.ldF 5 5 (Fx.ldF 1 0 (Fx.getF 8 2 (Fx.ldF 0 3 (Fx.alF T 2 (Fx.ldF 1 0 (Fx.getF 8 2 (Fx.ldF 0 4 (Fx.alF T 2 (Fx.bT T 26 (Fx.bT T 26 (Fx.st2F 5 5 (Fx.ldF 1 0 (Fx.getF 8 1 (Fx.ldF 0 3 (Fx.alF T 0 (Fx.st1F 7 0 3 (Fx.ldF 1 0 (Fx.getF 8 1 (Fx.ldF 0 4 (Fx.alF T 0 (Fx.st1F 7 0 4 (Fx.jpF J 85)))))))))))))))))))))))))
def B_6_45 (T : Fx.Tab) (R : Fx.Cal) (J : Fx.Jmp) : Fx.Cont :=
  Fx.ldF 1 0 (Fx.getF 8 4 (Fx.ldF 0 4 (Fx.alF T 0 (Fx.ldF 1 0 (Fx.getF 8 4 (Fx.ldF 0 3 (Fx.alF T 0 (Fx.b2 T 53 Fx.cLe (B_6_85 T R J) (Fx.ldF 5 5 (Fx.ldF 1 0 (Fx.getF 8 2 (Fx.ldF 0 4 (Fx.alF T 2 (Fx.bT T 26 (Fx.st2F 5 5 (Fx.ldF 1 0 (Fx.getF 8 1 (Fx.ldF 0 4 (Fx.alF T 0 (Fx.st1F 7 0 4 (Fx.jpF J 45)))))))))))))))))))))
def B_6_8 (T : Fx.Tab) (R : Fx.Cal) (J : Fx.Jmp) : Fx.Cont :=
  Fx.ldF 1 0 (Fx.getF 8 4 (Fx.ldF 0 3 (Fx.alF T 0 (Fx.ldF 1 0 (Fx.getF 8 4 (Fx.ldF 0 4 (Fx.alF T 0 (Fx.b2 T 53 Fx.cLe (B_6_45 T R J) (Fx.ldF 5 5 (Fx.ldF 1 0 (Fx.getF 8 2 (Fx.ldF 0 3 (Fx.alF T 2 (Fx.bT T 26 (Fx.st2F 5 5 (Fx.ldF 1 0 (Fx.getF 8 1 (Fx.ldF 0 3 (Fx.alF T 0 (Fx.st1F 7 0 3 (Fx.jpF J 8)))))))))))))))))))))
def B_6_0 (T : Fx.Tab) (R : Fx.Cal) (J : Fx.Jmp) : Fx.Cont :=
  Fx.ldF 0 1 (Fx.st1F 7 0 3 (Fx.ldF 0 2 (Fx.st1F 7 0 4 (Fx.cstF 5902958103587056517120 (Fx.st2F 5 5 (B_6_8 T R J))))))
def BM_6 (T : Fx.Tab) (R : Fx.Cal) (J : Fx.Jmp) (pc : Nat) : Fx.Cont := Fx.brcC (Fx.brcC (Fx.brcC Fx.stop (B_6_85 T R J) (Nat.beq pc 85)) (Fx.brcC Fx.stop (B_6_45 T R J) (Nat.beq pc 45)) (Nat.blt pc 85)) (Fx.brcC (Fx.brcC Fx.stop (B_6_8 T R J) (Nat.beq pc 8)) (Fx.brcC Fx.stop (B_6_0 T R J) (Nat.beq pc 0)) (Nat.blt pc 8)) (Nat.blt pc 45)
def BB (T : Fx.Tab) (R : Fx.Cal) : Fx.Cal := fun M L A => Fx.brc (Fx.brc (Fx.brc (Fx.brc .bad (Fx.loop (BM_6 T R) L A) (Nat.beq M 6)) (Fx.brc .bad (Fx.loop (BM_5 T R) L A) (Nat.beq M 5)) (Nat.blt M 6)) (Fx.brc (Fx.brc .bad (Fx.loop (BM_4 T R) L A) (Nat.beq M 4)) (Fx.brc .bad (Fx.loop (BM_3 T R) L A) (Nat.beq M 3)) (Nat.blt M 4)) (Nat.blt M 5)) (Fx.brc (Fx.brc (Fx.brc .bad (Fx.loop (BM_2 T R) L A) (Nat.beq M 2)) (Fx.brc .bad (Fx.loop (BM_1 T R) L A) (Nat.beq M 1)) (Nat.blt M 2)) (Fx.brc .bad (Fx.loop (BM_0 T R) L A) (Nat.beq M 0)) (Nat.blt M 1)) (Nat.blt M 3)
set_option maxRecDepth 65536 in
theorem bok_0_369 {ρ : Fx.Rho} {T : Fx.Tab} {R : Fx.Cal} {J : Fx.Jmp} (hT : Fx.TOk ρ E_ T) (hR : Fx.SimR ρ E_ R) (hJ : ∀ pc, Fx.Sim ρ E_ 0 pc 0 (J pc)) : Fx.Sim ρ E_ 0 369 1 (B_0_369 T R J) := by
  unfold B_0_369
  exact Fx.retZ_ok (d := 0) rfl rfl
set_option maxRecDepth 65536 in
theorem bok_0_368 {ρ : Fx.Rho} {T : Fx.Tab} {R : Fx.Cal} {J : Fx.Jmp} (hT : Fx.TOk ρ E_ T) (hR : Fx.SimR ρ E_ R) (hJ : ∀ pc, Fx.Sim ρ E_ 0 pc 0 (J pc)) : Fx.Sim ρ E_ 0 368 0 (B_0_368 T R J) := by
  unfold B_0_368
  exact Fx.iconst_ok (p := 369) (d := 0) (z := 0) (by decide) (by decide) rfl rfl (bok_0_369 hT hR hJ)
set_option maxRecDepth 65536 in
theorem bok_0_330 {ρ : Fx.Rho} {T : Fx.Tab} {R : Fx.Cal} {J : Fx.Jmp} (hT : Fx.TOk ρ E_ T) (hR : Fx.SimR ρ E_ R) (hJ : ∀ pc, Fx.Sim ρ E_ 0 pc 0 (J pc)) : Fx.Sim ρ E_ 0 330 3 (B_0_330 T R J) := by
  unfold B_0_330
  exact Fx.iand_ok (p := 331) (d := 1) hT rfl rfl (Fx.i2l_ok (p := 332) (d := 1) hT rfl rfl (Fx.ldJ_ok (p := 334) (d := 2) (j := 17) (by decide) rfl rfl (Fx.lmul_ok (p := 335) (d := 1) hT rfl rfl (Fx.ladd_ok (p := 336) (d := 0) hT rfl rfl (Fx.stJ_ok (p := 338) (d := 0) (j := 24) (by decide) rfl rfl (Fx.ldA_ok (p := 340) (d := 0) (j := 22) (by decide) rfl rfl (Fx.ldI_ok (p := 342) (d := 1) (j := 9) (by decide) rfl rfl (Fx.ldI_ok (p := 344) (d := 2) (j := 8) (by decide) rfl rfl (Fx.iadd_ok (p := 345) (d := 1) hT rfl rfl (Fx.iconst_ok (p := 346) (d := 2) (z := 5) (by decide) (by decide) rfl rfl (Fx.irem_ok (p := 347) (d := 1) hT rfl rfl (Fx.ldI_ok (p := 349) (d := 2) (j := 10) (by decide) rfl rfl (Fx.ldI_ok (p := 351) (d := 3) (j := 8) (by decide) rfl rfl (Fx.iadd_ok (p := 352) (d := 2) hT rfl rfl (Fx.iconst_ok (p := 353) (d := 3) (z := 5) (by decide) (by decide) rfl rfl (Fx.irem_ok (p := 354) (d := 2) hT rfl rfl (Fx.virtF_ok (p := 357) (d := 0) (d1 := 1) (CV_8_6_ok R 0 1) hR (Fx.look1x rfl rfl) rfl rfl (Fx.ldJ_ok (p := 359) (d := 1) (j := 24) (by decide) rfl rfl (Fx.uT_ok (p := 360) (d := 1) (i := .l2d) hT rfl (by decide) (by decide) (fun _ _ => rfl) rfl rfl rfl rfl (Fx.bT_ok (p := 361) (d := 0) (i := .dcmp .l) hT rfl (by decide) (fun _ _ => rfl) rfl rfl rfl rfl (Fx.if_ok (p := 364) (d := 0) (tg := 368) (cd := .ne) hT rfl (by decide) (by decide) Fx.zNe_ok rfl ⟨by decide, rfl⟩ rfl (bok_0_368 hT hR hJ) (Fx.iconst_ok (p := 365) (d := 0) (z := 1) (by decide) (by decide) rfl rfl (Fx.goto_ok (tg := 369) rfl ⟨by decide, rfl⟩ (bok_0_369 hT hR hJ))
   ))
   )))
   )))
   )))))))
   )))))))
set_option maxRecDepth 65536 in
theorem bok_0_275 {ρ : Fx.Rho} {T : Fx.Tab} {R : Fx.Cal} {J : Fx.Jmp} (hT : Fx.TOk ρ E_ T) (hR : Fx.SimR ρ E_ R) (hJ : ∀ pc, Fx.Sim ρ E_ 0 pc 0 (J pc)) : Fx.Sim ρ E_ 0 275 5 (B_0_275 T R J) := by
  unfold B_0_275
  exact Fx.specF_ok (p := 278) (d := 1) (d1 := 1) (CI_1_ok R 1) hR rfl rfl rfl rfl (Fx.stA_ok (p := 280) (d := 0) (j := 22) (by decide) rfl rfl rfl (Fx.ldA_ok (p := 282) (d := 0) (j := 19) (by decide) rfl rfl (Fx.ldI_ok (p := 284) (d := 1) (j := 9) (by decide) rfl rfl (Fx.alF_ok (p := 285) (d := 0) (i := .iaload) hT rfl (fun _ _ _ => rfl) rfl rfl rfl rfl (Fx.ldA_ok (p := 287) (d := 1) (j := 19) (by decide) rfl rfl (Fx.ldI_ok (p := 289) (d := 2) (j := 10) (by decide) rfl rfl (Fx.alF_ok (p := 290) (d := 1) (i := .iaload) hT rfl (fun _ _ _ => rfl) rfl rfl rfl rfl (Fx.ixor_ok (p := 291) (d := 0) hT rfl rfl (Fx.stI_ok (p := 293) (d := 0) (j := 23) (by decide) rfl rfl rfl (Fx.ldI_ok (p := 295) (d := 0) (j := 23) (by decide) rfl rfl (Fx.iconst_ok (p := 296) (d := 1) (z := 1) (by decide) (by decide) rfl rfl (Fx.ishr_ok (p := 297) (d := 0) hT rfl rfl (Fx.iconst_ok (p := 298) (d := 1) (z := 1) (by decide) (by decide) rfl rfl (Fx.iand_ok (p := 299) (d := 0) hT rfl rfl (Fx.i2l_ok (p := 300) (d := 0) hT rfl rfl (Fx.ldJ_ok (p := 302) (d := 1) (j := 11) (by decide) rfl rfl (Fx.lmul_ok (p := 303) (d := 0) hT rfl rfl (Fx.ldI_ok (p := 305) (d := 1) (j := 23) (by decide) rfl rfl (Fx.iconst_ok (p := 306) (d := 2) (z := 2) (by decide) (by decide) rfl rfl (Fx.ishr_ok (p := 307) (d := 1) hT rfl rfl (Fx.iconst_ok (p := 308) (d := 2) (z := 1) (by decide) (by decide) rfl rfl (Fx.iand_ok (p := 309) (d := 1) hT rfl rfl (Fx.i2l_ok (p := 310) (d := 1) hT rfl rfl (Fx.ldJ_ok (p := 312) (d := 2) (j := 13) (by decide) rfl rfl (Fx.lmul_ok (p := 313) (d := 1) hT rfl rfl (Fx.ladd_ok (p := 314) (d := 0) hT rfl rfl (Fx.ldI_ok (p := 316) (d := 1) (j := 23) (by decide) rfl rfl (Fx.iconst_ok (p := 317) (d := 2) (z := 3) (by decide) (by decide) rfl rfl (Fx.ishr_ok (p := 318) (d := 1) hT rfl rfl (Fx.iconst_ok (p := 319) (d := 2) (z := 1) (by decide) (by decide) rfl rfl (Fx.iand_ok (p := 320) (d := 1) hT rfl rfl (Fx.i2l_ok (p := 321) (d := 1) hT rfl rfl (Fx.ldJ_ok (p := 323) (d := 2) (j := 15) (by decide) rfl rfl (Fx.lmul_ok (p := 324) (d := 1) hT rfl rfl (Fx.ladd_ok (p := 325) (d := 0) hT rfl rfl (Fx.ldI_ok (p := 327) (d := 1) (j := 23) (by decide) rfl rfl (Fx.iconst_ok (p := 328) (d := 2) (z := 4) (by decide) (by decide) rfl rfl (Fx.ishr_ok (p := 329) (d := 1) hT rfl rfl (Fx.iconst_ok (p := 330) (d := 2) (z := 1) (by decide) (by decide) rfl rfl (bok_0_330 hT hR hJ))))))
   )))))
   ))))))))
   ))))))))
   ))))
   )))))
   ))))
set_option maxRecDepth 65536 in
theorem bok_0_220 {ρ : Fx.Rho} {T : Fx.Tab} {R : Fx.Cal} {J : Fx.Jmp} (hT : Fx.TOk ρ E_ T) (hR : Fx.SimR ρ E_ R) (hJ : ∀ pc, Fx.Sim ρ E_ 0 pc 0 (J pc)) : Fx.Sim ρ E_ 0 220 3 (B_0_220 T R J) := by
  unfold B_0_220
  exact Fx.ldI_ok (p := 222) (d := 3) (j := 8) (by decide) rfl rfl (Fx.iadd_ok (p := 223) (d := 2) hT rfl rfl (Fx.iconst_ok (p := 224) (d := 3) (z := 5) (by decide) (by decide) rfl rfl (Fx.irem_ok (p := 225) (d := 2) hT rfl rfl (Fx.asF_ok (p := 226) (d := 0) (i := .iastore) hT Fx.iastore_on rfl (fun _ _ _ => rfl) rfl rfl rfl rfl (Fx.ldA_ok (p := 228) (d := 0) (j := 21) (by decide) rfl rfl (Fx.iconst_ok (p := 229) (d := 1) (z := 3) (by decide) (by decide) rfl rfl (Fx.ldI_ok (p := 231) (d := 2) (j := 8) (by decide) rfl rfl (Fx.iadd_ok (p := 232) (d := 1) hT rfl rfl (Fx.iconst_ok (p := 233) (d := 2) (z := 5) (by decide) (by decide) rfl rfl (Fx.irem_ok (p := 234) (d := 1) hT rfl rfl (Fx.ldJ_ok (p := 236) (d := 2) (j := 15) (by decide) rfl rfl (Fx.uT_ok (p := 237) (d := 2) (i := .l2d) hT rfl (by decide) (by decide) (fun _ _ => rfl) rfl rfl rfl rfl (Fx.asF_ok (p := 238) (d := 0) (i := .dastore) hT Fx.dastore_on rfl (fun _ _ _ => rfl) rfl rfl rfl rfl (Fx.ldA_ok (p := 240) (d := 0) (j := 20) (by decide) rfl rfl (Fx.iconst_ok (p := 241) (d := 1) (z := 4) (by decide) (by decide) rfl rfl (Fx.ldI_ok (p := 243) (d := 2) (j := 8) (by decide) rfl rfl (Fx.iadd_ok (p := 244) (d := 1) hT rfl rfl (Fx.iconst_ok (p := 245) (d := 2) (z := 5) (by decide) (by decide) rfl rfl (Fx.irem_ok (p := 246) (d := 1) hT rfl rfl (Fx.ldI_ok (p := 248) (d := 2) (j := 7) (by decide) rfl rfl (Fx.ldI_ok (p := 250) (d := 3) (j := 8) (by decide) rfl rfl (Fx.iadd_ok (p := 251) (d := 2) hT rfl rfl (Fx.iconst_ok (p := 252) (d := 3) (z := 5) (by decide) (by decide) rfl rfl (Fx.irem_ok (p := 253) (d := 2) hT rfl rfl (Fx.asF_ok (p := 254) (d := 0) (i := .iastore) hT Fx.iastore_on rfl (fun _ _ _ => rfl) rfl rfl rfl rfl (Fx.ldA_ok (p := 256) (d := 0) (j := 21) (by decide) rfl rfl (Fx.iconst_ok (p := 257) (d := 1) (z := 4) (by decide) (by decide) rfl rfl (Fx.ldI_ok (p := 259) (d := 2) (j := 8) (by decide) rfl rfl (Fx.iadd_ok (p := 260) (d := 1) hT rfl rfl (Fx.iconst_ok (p := 261) (d := 2) (z := 5) (by decide) (by decide) rfl rfl (Fx.irem_ok (p := 262) (d := 1) hT rfl rfl (Fx.ldJ_ok (p := 264) (d := 2) (j := 17) (by decide) rfl rfl (Fx.uT_ok (p := 265) (d := 2) (i := .l2d) hT rfl (by decide) (by decide) (fun _ _ => rfl) rfl rfl rfl rfl (Fx.asF_ok (p := 266) (d := 0) (i := .dastore) hT Fx.dastore_on rfl (fun _ _ _ => rfl) rfl rfl rfl rfl (Fx.newF_ok (p := 269) (d := 0) rfl rfl (by decide) (by decide) rfl rfl (Fx.dupF_ok (p := 270) (d := 0)  rfl rfl (Fx.iconst_ok (p := 271) (d := 2) (z := 5) (by decide) (by decide) rfl rfl (Fx.ldA_ok (p := 273) (d := 3) (j := 20) (by decide) rfl rfl (Fx.ldA_ok (p := 275) (d := 4) (j := 21) (by decide) rfl rfl (bok_0_275 hT hR hJ)))))))))))
   )))
   )))))))))))))
   )))
   ))))))
   )))
   )
set_option maxRecDepth 65536 in
theorem bok_0_166 {ρ : Fx.Rho} {T : Fx.Tab} {R : Fx.Cal} {J : Fx.Jmp} (hT : Fx.TOk ρ E_ T) (hR : Fx.SimR ρ E_ R) (hJ : ∀ pc, Fx.Sim ρ E_ 0 pc 0 (J pc)) : Fx.Sim ρ E_ 0 166 3 (B_0_166 T R J) := by
  unfold B_0_166
  exact Fx.irem_ok (p := 167) (d := 1) hT rfl rfl (Fx.ldI_ok (p := 169) (d := 2) (j := 8) (by decide) rfl rfl (Fx.asF_ok (p := 170) (d := 0) (i := .iastore) hT Fx.iastore_on rfl (fun _ _ _ => rfl) rfl rfl rfl rfl (Fx.ldA_ok (p := 172) (d := 0) (j := 21) (by decide) rfl rfl (Fx.iconst_ok (p := 173) (d := 1) (z := 1) (by decide) (by decide) rfl rfl (Fx.ldI_ok (p := 175) (d := 2) (j := 8) (by decide) rfl rfl (Fx.iadd_ok (p := 176) (d := 1) hT rfl rfl (Fx.iconst_ok (p := 177) (d := 2) (z := 5) (by decide) (by decide) rfl rfl (Fx.irem_ok (p := 178) (d := 1) hT rfl rfl (Fx.ldJ_ok (p := 180) (d := 2) (j := 11) (by decide) rfl rfl (Fx.uT_ok (p := 181) (d := 2) (i := .l2d) hT rfl (by decide) (by decide) (fun _ _ => rfl) rfl rfl rfl rfl (Fx.asF_ok (p := 182) (d := 0) (i := .dastore) hT Fx.dastore_on rfl (fun _ _ _ => rfl) rfl rfl rfl rfl (Fx.ldA_ok (p := 184) (d := 0) (j := 20) (by decide) rfl rfl (Fx.iconst_ok (p := 185) (d := 1) (z := 2) (by decide) (by decide) rfl rfl (Fx.ldI_ok (p := 187) (d := 2) (j := 8) (by decide) rfl rfl (Fx.iadd_ok (p := 188) (d := 1) hT rfl rfl (Fx.iconst_ok (p := 189) (d := 2) (z := 5) (by decide) (by decide) rfl rfl (Fx.irem_ok (p := 190) (d := 1) hT rfl rfl (Fx.ldI_ok (p := 192) (d := 2) (j := 5) (by decide) rfl rfl (Fx.ldI_ok (p := 194) (d := 3) (j := 8) (by decide) rfl rfl (Fx.iadd_ok (p := 195) (d := 2) hT rfl rfl (Fx.iconst_ok (p := 196) (d := 3) (z := 5) (by decide) (by decide) rfl rfl (Fx.irem_ok (p := 197) (d := 2) hT rfl rfl (Fx.asF_ok (p := 198) (d := 0) (i := .iastore) hT Fx.iastore_on rfl (fun _ _ _ => rfl) rfl rfl rfl rfl (Fx.ldA_ok (p := 200) (d := 0) (j := 21) (by decide) rfl rfl (Fx.iconst_ok (p := 201) (d := 1) (z := 2) (by decide) (by decide) rfl rfl (Fx.ldI_ok (p := 203) (d := 2) (j := 8) (by decide) rfl rfl (Fx.iadd_ok (p := 204) (d := 1) hT rfl rfl (Fx.iconst_ok (p := 205) (d := 2) (z := 5) (by decide) (by decide) rfl rfl (Fx.irem_ok (p := 206) (d := 1) hT rfl rfl (Fx.ldJ_ok (p := 208) (d := 2) (j := 13) (by decide) rfl rfl (Fx.uT_ok (p := 209) (d := 2) (i := .l2d) hT rfl (by decide) (by decide) (fun _ _ => rfl) rfl rfl rfl rfl (Fx.asF_ok (p := 210) (d := 0) (i := .dastore) hT Fx.dastore_on rfl (fun _ _ _ => rfl) rfl rfl rfl rfl (Fx.ldA_ok (p := 212) (d := 0) (j := 20) (by decide) rfl rfl (Fx.iconst_ok (p := 213) (d := 1) (z := 3) (by decide) (by decide) rfl rfl (Fx.ldI_ok (p := 215) (d := 2) (j := 8) (by decide) rfl rfl (Fx.iadd_ok (p := 216) (d := 1) hT rfl rfl (Fx.iconst_ok (p := 217) (d := 2) (z := 5) (by decide) (by decide) rfl rfl (Fx.irem_ok (p := 218) (d := 1) hT rfl rfl (Fx.ldI_ok (p := 220) (d := 2) (j := 6) (by decide) rfl rfl (bok_0_220 hT hR hJ))))))))
   )))
   ))))))
   )))
   ))
   )))
   )))
   ))))))
   )))
   )))
set_option maxRecDepth 65536 in
theorem bok_0_106 {ρ : Fx.Rho} {T : Fx.Tab} {R : Fx.Cal} {J : Fx.Jmp} (hT : Fx.TOk ρ E_ T) (hR : Fx.SimR ρ E_ R) (hJ : ∀ pc, Fx.Sim ρ E_ 0 pc 0 (J pc)) : Fx.Sim ρ E_ 0 106 3 (B_0_106 T R J) := by
  unfold B_0_106
  exact Fx.ldA_ok (p := 108) (d := 3) (j := 19) (by decide) rfl rfl (Fx.ldI_ok (p := 110) (d := 4) (j := 5) (by decide) rfl rfl (Fx.alF_ok (p := 111) (d := 3) (i := .iaload) hT rfl (fun _ _ _ => rfl) rfl rfl rfl rfl (Fx.ior_ok (p := 112) (d := 2) hT rfl rfl (Fx.asF_ok (p := 113) (d := 0) (i := .iastore) hT Fx.iastore_on rfl (fun _ _ _ => rfl) rfl rfl rfl rfl (Fx.ldA_ok (p := 115) (d := 0) (j := 19) (by decide) rfl rfl (Fx.iconst_ok (p := 116) (d := 1) (z := 3) (by decide) (by decide) rfl rfl (Fx.bipush_ok (p := 118) (d := 2) (z := 8) (by decide) (by decide) rfl rfl (Fx.ldA_ok (p := 120) (d := 3) (j := 19) (by decide) rfl rfl (Fx.ldI_ok (p := 122) (d := 4) (j := 6) (by decide) rfl rfl (Fx.alF_ok (p := 123) (d := 3) (i := .iaload) hT rfl (fun _ _ _ => rfl) rfl rfl rfl rfl (Fx.ior_ok (p := 124) (d := 2) hT rfl rfl (Fx.asF_ok (p := 125) (d := 0) (i := .iastore) hT Fx.iastore_on rfl (fun _ _ _ => rfl) rfl rfl rfl rfl (Fx.ldA_ok (p := 127) (d := 0) (j := 19) (by decide) rfl rfl (Fx.iconst_ok (p := 128) (d := 1) (z := 4) (by decide) (by decide) rfl rfl (Fx.bipush_ok (p := 130) (d := 2) (z := 16) (by decide) (by decide) rfl rfl (Fx.ldA_ok (p := 132) (d := 3) (j := 19) (by decide) rfl rfl (Fx.ldI_ok (p := 134) (d := 4) (j := 7) (by decide) rfl rfl (Fx.alF_ok (p := 135) (d := 3) (i := .iaload) hT rfl (fun _ _ _ => rfl) rfl rfl rfl rfl (Fx.ior_ok (p := 136) (d := 2) hT rfl rfl (Fx.asF_ok (p := 137) (d := 0) (i := .iastore) hT Fx.iastore_on rfl (fun _ _ _ => rfl) rfl rfl rfl rfl (Fx.iconst_ok (p := 138) (d := 0) (z := 5) (by decide) (by decide) rfl rfl (Fx.newaF_ok (p := 140) (d := 0) hT rfl rfl (by decide) (by decide) rfl rfl (Fx.stA_ok (p := 142) (d := 0) (j := 20) (by decide) rfl rfl rfl (Fx.iconst_ok (p := 143) (d := 0) (z := 5) (by decide) (by decide) rfl rfl (Fx.newaF_ok (p := 145) (d := 0) hT rfl rfl (by decide) (by decide) rfl rfl (Fx.stA_ok (p := 147) (d := 0) (j := 21) (by decide) rfl rfl rfl (Fx.ldA_ok (p := 149) (d := 0) (j := 20) (by decide) rfl rfl (Fx.ldI_ok (p := 151) (d := 1) (j := 8) (by decide) rfl rfl (Fx.iconst_ok (p := 152) (d := 2) (z := (-1)) (by decide) (by decide) rfl rfl (Fx.asF_ok (p := 153) (d := 0) (i := .iastore) hT Fx.iastore_on rfl (fun _ _ _ => rfl) rfl rfl rfl rfl (Fx.ldA_ok (p := 155) (d := 0) (j := 21) (by decide) rfl rfl (Fx.ldI_ok (p := 157) (d := 1) (j := 8) (by decide) rfl rfl (Fx.dconst0_ok (p := 158) (d := 2)  rfl rfl (Fx.asF_ok (p := 159) (d := 0) (i := .dastore) hT Fx.dastore_on rfl (fun _ _ _ => rfl) rfl rfl rfl rfl (Fx.ldA_ok (p := 161) (d := 0) (j := 20) (by decide) rfl rfl (Fx.iconst_ok (p := 162) (d := 1) (z := 1) (by decide) (by decide) rfl rfl (Fx.ldI_ok (p := 164) (d := 2) (j := 8) (by decide) rfl rfl (Fx.iadd_ok (p := 165) (d := 1) hT rfl rfl (Fx.iconst_ok (p := 166) (d := 2) (z := 5) (by decide) (by decide) rfl rfl (bok_0_166 hT hR hJ))))))
   )
   )))
   )))))))))
   ))))
   )))))
   ))))
   ))))
   ))))
set_option maxRecDepth 65536 in
theorem bok_0_50 {ρ : Fx.Rho} {T : Fx.Tab} {R : Fx.Cal} {J : Fx.Jmp} (hT : Fx.TOk ρ E_ T) (hR : Fx.SimR ρ E_ R) (hJ : ∀ pc, Fx.Sim ρ E_ 0 pc 0 (J pc)) : Fx.Sim ρ E_ 0 50 2 (B_0_50 T R J) := by
  unfold B_0_50
  exact Fx.irem_ok (p := 51) (d := 0) hT rfl rfl (Fx.stI_ok (p := 53) (d := 0) (j := 10) (by decide) rfl rfl rfl (Fx.ldI_n_ok (p := 54) (d := 0) (j := 1) (by decide) rfl rfl (Fx.ldc_int_ok (p := 56) (d := 1) (n := 1048575) (z := 1048575) (by decide) rfl (by decide) rfl rfl (Fx.iand_ok (p := 57) (d := 0) hT rfl rfl (Fx.i2l_ok (p := 58) (d := 0) hT rfl rfl (Fx.stJ_ok (p := 60) (d := 0) (j := 11) (by decide) rfl rfl (Fx.ldI_n_ok (p := 61) (d := 0) (j := 2) (by decide) rfl rfl (Fx.ldc_int_ok (p := 63) (d := 1) (n := 1048575) (z := 1048575) (by decide) rfl (by decide) rfl rfl (Fx.iand_ok (p := 64) (d := 0) hT rfl rfl (Fx.i2l_ok (p := 65) (d := 0) hT rfl rfl (Fx.stJ_ok (p := 67) (d := 0) (j := 13) (by decide) rfl rfl (Fx.ldI_n_ok (p := 68) (d := 0) (j := 3) (by decide) rfl rfl (Fx.ldc_int_ok (p := 70) (d := 1) (n := 1048575) (z := 1048575) (by decide) rfl (by decide) rfl rfl (Fx.iand_ok (p := 71) (d := 0) hT rfl rfl (Fx.i2l_ok (p := 72) (d := 0) hT rfl rfl (Fx.stJ_ok (p := 74) (d := 0) (j := 15) (by decide) rfl rfl (Fx.ldI_ok (p := 76) (d := 0) (j := 4) (by decide) rfl rfl (Fx.ldc_int_ok (p := 78) (d := 1) (n := 1048575) (z := 1048575) (by decide) rfl (by decide) rfl rfl (Fx.iand_ok (p := 79) (d := 0) hT rfl rfl (Fx.i2l_ok (p := 80) (d := 0) hT rfl rfl (Fx.stJ_ok (p := 82) (d := 0) (j := 17) (by decide) rfl rfl (Fx.iconst_ok (p := 83) (d := 0) (z := 5) (by decide) (by decide) rfl rfl (Fx.newaF_ok (p := 85) (d := 0) hT rfl rfl (by decide) (by decide) rfl rfl (Fx.stA_ok (p := 87) (d := 0) (j := 19) (by decide) rfl rfl rfl (Fx.ldA_ok (p := 89) (d := 0) (j := 19) (by decide) rfl rfl (Fx.iconst_ok (p := 90) (d := 1) (z := 0) (by decide) (by decide) rfl rfl (Fx.iconst_ok (p := 91) (d := 2) (z := 1) (by decide) (by decide) rfl rfl (Fx.asF_ok (p := 92) (d := 0) (i := .iastore) hT Fx.iastore_on rfl (fun _ _ _ => rfl) rfl rfl rfl rfl (Fx.ldA_ok (p := 94) (d := 0) (j := 19) (by decide) rfl rfl (Fx.iconst_ok (p := 95) (d := 1) (z := 1) (by decide) (by decide) rfl rfl (Fx.iconst_ok (p := 96) (d := 2) (z := 2) (by decide) (by decide) rfl rfl (Fx.ldA_ok (p := 98) (d := 3) (j := 19) (by decide) rfl rfl (Fx.iconst_ok (p := 99) (d := 4) (z := 0) (by decide) (by decide) rfl rfl (Fx.alF_ok (p := 100) (d := 3) (i := .iaload) hT rfl (fun _ _ _ => rfl) rfl rfl rfl rfl (Fx.ior_ok (p := 101) (d := 2) hT rfl rfl (Fx.asF_ok (p := 102) (d := 0) (i := .iastore) hT Fx.iastore_on rfl (fun _ _ _ => rfl) rfl rfl rfl rfl (Fx.ldA_ok (p := 104) (d := 0) (j := 19) (by decide) rfl rfl (Fx.iconst_ok (p := 105) (d := 1) (z := 2) (by decide) (by decide) rfl rfl (Fx.iconst_ok (p := 106) (d := 2) (z := 4) (by decide) (by decide) rfl rfl (bok_0_106 hT hR hJ))))
   )))))))
   ))
   ))
   )))))))))
   ))))
   )))))))))
   )))
set_option maxRecDepth 65536 in
theorem bok_0_0 {ρ : Fx.Rho} {T : Fx.Tab} {R : Fx.Cal} {J : Fx.Jmp} (hT : Fx.TOk ρ E_ T) (hR : Fx.SimR ρ E_ R) (hJ : ∀ pc, Fx.Sim ρ E_ 0 pc 0 (J pc)) : Fx.Sim ρ E_ 0 0 0 (B_0_0 T R J) := by
  unfold B_0_0
  exact Fx.ldI_n_ok (p := 1) (d := 0) (j := 0) (by decide) rfl rfl (Fx.iconst_ok (p := 2) (d := 1) (z := 1) (by decide) (by decide) rfl rfl (Fx.iand_ok (p := 3) (d := 0) hT rfl rfl (Fx.stI_ok (p := 5) (d := 0) (j := 5) (by decide) rfl rfl rfl (Fx.ldI_n_ok (p := 6) (d := 0) (j := 0) (by decide) rfl rfl (Fx.iconst_ok (p := 7) (d := 1) (z := 1) (by decide) (by decide) rfl rfl (Fx.iushr_ok (p := 8) (d := 0) hT rfl rfl (Fx.iconst_ok (p := 9) (d := 1) (z := 3) (by decide) (by decide) rfl rfl (Fx.iand_ok (p := 10) (d := 0) hT rfl rfl (Fx.iconst_ok (p := 11) (d := 1) (z := 3) (by decide) (by decide) rfl rfl (Fx.irem_ok (p := 12) (d := 0) hT rfl rfl (Fx.stI_ok (p := 14) (d := 0) (j := 6) (by decide) rfl rfl rfl (Fx.ldI_n_ok (p := 15) (d := 0) (j := 0) (by decide) rfl rfl (Fx.iconst_ok (p := 16) (d := 1) (z := 3) (by decide) (by decide) rfl rfl (Fx.iushr_ok (p := 17) (d := 0) hT rfl rfl (Fx.iconst_ok (p := 18) (d := 1) (z := 3) (by decide) (by decide) rfl rfl (Fx.iand_ok (p := 19) (d := 0) hT rfl rfl (Fx.stI_ok (p := 21) (d := 0) (j := 7) (by decide) rfl rfl rfl (Fx.ldI_n_ok (p := 22) (d := 0) (j := 0) (by decide) rfl rfl (Fx.iconst_ok (p := 23) (d := 1) (z := 5) (by decide) (by decide) rfl rfl (Fx.iushr_ok (p := 24) (d := 0) hT rfl rfl (Fx.bipush_ok (p := 26) (d := 1) (z := 7) (by decide) (by decide) rfl rfl (Fx.iand_ok (p := 27) (d := 0) hT rfl rfl (Fx.iconst_ok (p := 28) (d := 1) (z := 5) (by decide) (by decide) rfl rfl (Fx.irem_ok (p := 29) (d := 0) hT rfl rfl (Fx.stI_ok (p := 31) (d := 0) (j := 8) (by decide) rfl rfl rfl (Fx.ldI_n_ok (p := 32) (d := 0) (j := 0) (by decide) rfl rfl (Fx.bipush_ok (p := 34) (d := 1) (z := 8) (by decide) (by decide) rfl rfl (Fx.iushr_ok (p := 35) (d := 0) hT rfl rfl (Fx.bipush_ok (p := 37) (d := 1) (z := 7) (by decide) (by decide) rfl rfl (Fx.iand_ok (p := 38) (d := 0) hT rfl rfl (Fx.iconst_ok (p := 39) (d := 1) (z := 5) (by decide) (by decide) rfl rfl (Fx.irem_ok (p := 40) (d := 0) hT rfl rfl (Fx.stI_ok (p := 42) (d := 0) (j := 9) (by decide) rfl rfl rfl (Fx.ldI_n_ok (p := 43) (d := 0) (j := 0) (by decide) rfl rfl (Fx.bipush_ok (p := 45) (d := 1) (z := 11) (by decide) (by decide) rfl rfl (Fx.iushr_ok (p := 46) (d := 0) hT rfl rfl (Fx.bipush_ok (p := 48) (d := 1) (z := 7) (by decide) (by decide) rfl rfl (Fx.iand_ok (p := 49) (d := 0) hT rfl rfl (Fx.iconst_ok (p := 50) (d := 1) (z := 5) (by decide) (by decide) rfl rfl (bok_0_50 hT hR hJ)))
   )))))))))))))))))))
   ))))))))))))))))))
theorem bm_0 {ρ : Fx.Rho} {T : Fx.Tab} {R : Fx.Cal} {J : Fx.Jmp} (hT : Fx.TOk ρ E_ T) (hR : Fx.SimR ρ E_ R) (hJ : ∀ pc, Fx.Sim ρ E_ 0 pc 0 (J pc)) (pc : Nat) : Fx.Sim ρ E_ 0 pc 0 (BM_0 T R J pc) := by
  unfold BM_0
  exact Fx.brec_sim (fun _ => Fx.stop_ok) (fun e => by have := Nat.eq_of_beq_eq_true e; subst this; exact bok_0_0 hT hR hJ)
set_option maxRecDepth 65536 in
theorem bok_1_326 {ρ : Fx.Rho} {T : Fx.Tab} {R : Fx.Cal} {J : Fx.Jmp} (hT : Fx.TOk ρ E_ T) (hR : Fx.SimR ρ E_ R) (hJ : ∀ pc, Fx.Sim ρ E_ 1 pc 0 (J pc)) : Fx.Sim ρ E_ 1 326 0 (B_1_326 T R J) := by
  unfold B_1_326
  exact Fx.ldA_n_ok (p := 327) (d := 0) (j := 0) (by decide) rfl rfl (Fx.ldI_ok (p := 329) (d := 1) (j := 6) (by decide) rfl rfl (Fx.iconst_ok (p := 330) (d := 2) (z := 1) (by decide) (by decide) rfl rfl (Fx.iadd_ok (p := 331) (d := 1) hT rfl rfl (Fx.putF_ok (p := 334) (d := 0) Fx.fitI rfl rfl rfl (Fx.retN_ok rfl rfl))))
   )
set_option maxRecDepth 65536 in
theorem bok_1_297 {ρ : Fx.Rho} {T : Fx.Tab} {R : Fx.Cal} {J : Fx.Jmp} (hT : Fx.TOk ρ E_ T) (hR : Fx.SimR ρ E_ R) (hJ : ∀ pc, Fx.Sim ρ E_ 1 pc 0 (J pc)) : Fx.Sim ρ E_ 1 297 0 (B_1_297 T R J) := by
  unfold B_1_297
  exact Fx.ldI_ok (p := 299) (d := 0) (j := 9) (by decide) rfl rfl (Fx.ldI_ok (p := 301) (d := 1) (j := 8) (by decide) rfl rfl (Fx.icmp_ok (p := 304) (d := 0) (tg := 326) (cd := .ge) hT rfl (by decide) (by decide) Fx.cGe_ok rfl ⟨by decide, rfl⟩ rfl (bok_1_326 hT hR hJ) (Fx.ldA_ok (p := 306) (d := 0) (j := 7) (by decide) rfl rfl (Fx.ldI_ok (p := 308) (d := 1) (j := 9) (by decide) rfl rfl (Fx.alF_ok (p := 309) (d := 0) (i := .iaload) hT rfl (fun _ _ _ => rfl) rfl rfl rfl rfl (Fx.stI_ok (p := 311) (d := 0) (j := 10) (by decide) rfl rfl rfl (Fx.ldI_ok (p := 313) (d := 0) (j := 6) (by decide) rfl rfl (Fx.ldI_ok (p := 315) (d := 1) (j := 10) (by decide) rfl rfl (Fx.statF_ok (p := 318) (d := 0) (d1 := 1) (CS_5_ok R 0) hR rfl rfl rfl rfl (Fx.stI_ok (p := 320) (d := 0) (j := 6) (by decide) rfl rfl rfl (Fx.iinc_ok (p := 323) (d := 0) (j := 9) (z := 1) (by decide) (by decide) rfl rfl (Fx.goto_ok (tg := 297) rfl ⟨by decide, rfl⟩ (Fx.jp_ok (hJ 297))
   ))))))))))))
set_option maxRecDepth 65536 in
theorem bok_1_234 {ρ : Fx.Rho} {T : Fx.Tab} {R : Fx.Cal} {J : Fx.Jmp} (hT : Fx.TOk ρ E_ T) (hR : Fx.SimR ρ E_ R) (hJ : ∀ pc, Fx.Sim ρ E_ 1 pc 0 (J pc)) : Fx.Sim ρ E_ 1 234 0 (B_1_234 T R J) := by
  unfold B_1_234
  exact Fx.ldA_n_ok (p := 235) (d := 0) (j := 0) (by decide) rfl rfl (Fx.ldI_n_ok (p := 236) (d := 1) (j := 1) (by decide) rfl rfl (Fx.putF_ok (p := 239) (d := 0) Fx.fitI rfl rfl rfl (Fx.ldA_n_ok (p := 240) (d := 0) (j := 0) (by decide) rfl rfl (Fx.ldA_n_ok (p := 241) (d := 1) (j := 2) (by decide) rfl rfl (Fx.cloneF_ok (p := 244) (d := 1) (by decide) rfl rfl (Fx.castF_ok (p := 247) (d := 1) (fun k h => by have := Nat.eq_of_beq_eq_true h; subst this; rfl) rfl rfl (Fx.putF_ok (p := 250) (d := 0) Fx.fitA rfl rfl rfl (Fx.ldA_n_ok (p := 251) (d := 0) (j := 0) (by decide) rfl rfl (Fx.ldA_n_ok (p := 252) (d := 1) (j := 3) (by decide) rfl rfl (Fx.cloneF_ok (p := 255) (d := 1) (by decide) rfl rfl (Fx.castF_ok (p := 258) (d := 1) (fun k h => by have := Nat.eq_of_beq_eq_true h; subst this; rfl) rfl rfl (Fx.putF_ok (p := 261) (d := 0) Fx.fitA rfl rfl rfl (Fx.ldA_n_ok (p := 262) (d := 0) (j := 0) (by decide) rfl rfl (Fx.ldI_ok (p := 264) (d := 1) (j := 5) (by decide) rfl rfl (Fx.putF_ok (p := 267) (d := 0) Fx.fitI rfl rfl rfl (Fx.ldA_n_ok (p := 268) (d := 0) (j := 0) (by decide) rfl rfl (Fx.ldA_n_ok (p := 269) (d := 1) (j := 0) (by decide) rfl rfl (Fx.getF_ok (p := 272) (d := 1)  rfl rfl (Fx.ldI_ok (p := 274) (d := 2) (j := 5) (by decide) rfl rfl (Fx.statF_ok (p := 277) (d := 1) (d1 := 2) (CS_3_ok R 1) hR rfl rfl rfl rfl (Fx.putF_ok (p := 280) (d := 0) Fx.fitA rfl rfl rfl (Fx.iconst_ok (p := 281) (d := 0) (z := 0) (by decide) (by decide) rfl rfl (Fx.stI_ok (p := 283) (d := 0) (j := 6) (by decide) rfl rfl rfl (Fx.ldA_n_ok (p := 284) (d := 0) (j := 0) (by decide) rfl rfl (Fx.getF_ok (p := 287) (d := 0)  rfl rfl (Fx.stA_ok (p := 289) (d := 0) (j := 7) (by decide) rfl rfl rfl (Fx.ldA_ok (p := 291) (d := 0) (j := 7) (by decide) rfl rfl (Fx.alenF_ok (p := 292) (d := 0)  rfl rfl (Fx.stI_ok (p := 294) (d := 0) (j := 8) (by decide) rfl rfl rfl (Fx.iconst_ok (p := 295) (d := 0) (z := 0) (by decide) (by decide) rfl rfl (Fx.stI_ok (p := 297) (d := 0) (j := 9) (by decide) rfl rfl rfl (bok_1_297 hT hR hJ)))
   ))))))
   ))
   ))))))))))))))))
   )))))
set_option maxRecDepth 65536 in
theorem bok_1_206 {ρ : Fx.Rho} {T : Fx.Tab} {R : Fx.Cal} {J : Fx.Jmp} (hT : Fx.TOk ρ E_ T) (hR : Fx.SimR ρ E_ R) (hJ : ∀ pc, Fx.Sim ρ E_ 1 pc 0 (J pc)) : Fx.Sim ρ E_ 1 206 0 (B_1_206 T R J) := by
  unfold B_1_206
  exact Fx.ldA_n_ok (p := 207) (d := 0) (j := 3) (by decide) rfl rfl (Fx.ldI_ok (p := 209) (d := 1) (j := 5) (by decide) rfl rfl (Fx.alF_ok (p := 210) (d := 0) (i := .daload) hT rfl (fun _ _ _ => rfl) rfl rfl rfl rfl (Fx.dconst0_ok (p := 211) (d := 1)  rfl rfl (Fx.bT_ok (p := 212) (d := 0) (i := .dcmp .l) hT rfl (by decide) (fun _ _ => rfl) rfl rfl rfl rfl (Fx.if_ok (p := 215) (d := 0) (tg := 234) (cd := .eq) hT rfl (by decide) (by decide) Fx.zEq_ok rfl ⟨by decide, rfl⟩ rfl (bok_1_234 hT hR hJ) (Fx.stop_ok))))
   ))
set_option maxRecDepth 65536 in
theorem bok_1_191 {ρ : Fx.Rho} {T : Fx.Tab} {R : Fx.Cal} {J : Fx.Jmp} (hT : Fx.TOk ρ E_ T) (hR : Fx.SimR ρ E_ R) (hJ : ∀ pc, Fx.Sim ρ E_ 1 pc 0 (J pc)) : Fx.Sim ρ E_ 1 191 0 (B_1_191 T R J) := by
  unfold B_1_191
  exact Fx.ldI_ok (p := 193) (d := 0) (j := 5) (by decide) rfl rfl (Fx.if_ok (p := 196) (d := 0) (tg := 206) (cd := .ge) hT rfl (by decide) (by decide) Fx.zGe_ok rfl ⟨by decide, rfl⟩ rfl (bok_1_206 hT hR hJ) (Fx.stop_ok))
set_option maxRecDepth 65536 in
theorem bok_1_185 {ρ : Fx.Rho} {T : Fx.Tab} {R : Fx.Cal} {J : Fx.Jmp} (hT : Fx.TOk ρ E_ T) (hR : Fx.SimR ρ E_ R) (hJ : ∀ pc, Fx.Sim ρ E_ 1 pc 0 (J pc)) : Fx.Sim ρ E_ 1 185 0 (B_1_185 T R J) := by
  unfold B_1_185
  exact Fx.iinc_ok (p := 188) (d := 0) (j := 6) (z := 1) (by decide) (by decide) rfl rfl (Fx.goto_ok (tg := 64) rfl ⟨by decide, rfl⟩ (Fx.jp_ok (hJ 64)))
set_option maxRecDepth 65536 in
theorem bok_1_166 {ρ : Fx.Rho} {T : Fx.Tab} {R : Fx.Cal} {J : Fx.Jmp} (hT : Fx.TOk ρ E_ T) (hR : Fx.SimR ρ E_ R) (hJ : ∀ pc, Fx.Sim ρ E_ 1 pc 0 (J pc)) : Fx.Sim ρ E_ 1 166 0 (B_1_166 T R J) := by
  unfold B_1_166
  exact Fx.stop_ok
set_option maxRecDepth 65536 in
theorem bok_1_147 {ρ : Fx.Rho} {T : Fx.Tab} {R : Fx.Cal} {J : Fx.Jmp} (hT : Fx.TOk ρ E_ T) (hR : Fx.SimR ρ E_ R) (hJ : ∀ pc, Fx.Sim ρ E_ 1 pc 0 (J pc)) : Fx.Sim ρ E_ 1 147 0 (B_1_147 T R J) := by
  unfold B_1_147
  exact Fx.ldA_n_ok (p := 148) (d := 0) (j := 3) (by decide) rfl rfl (Fx.ldI_ok (p := 150) (d := 1) (j := 6) (by decide) rfl rfl (Fx.alF_ok (p := 151) (d := 0) (i := .daload) hT rfl (fun _ _ _ => rfl) rfl rfl rfl rfl (Fx.statF_ok (p := 154) (d := 0) (d1 := 1) (CS_2_ok R 0) hR rfl rfl rfl rfl (Fx.if_ok (p := 157) (d := 0) (tg := 166) (cd := .eq) hT rfl (by decide) (by decide) Fx.zEq_ok rfl ⟨by decide, rfl⟩ rfl (bok_1_166 hT hR hJ) (Fx.ldA_n_ok (p := 158) (d := 0) (j := 3) (by decide) rfl rfl (Fx.ldI_ok (p := 160) (d := 1) (j := 6) (by decide) rfl rfl (Fx.alF_ok (p := 161) (d := 0) (i := .daload) hT rfl (fun _ _ _ => rfl) rfl rfl rfl rfl (Fx.dconst0_ok (p := 162) (d := 1)  rfl rfl (Fx.bT_ok (p := 163) (d := 0) (i := .dcmp .g) hT rfl (by decide) (fun _ _ => rfl) rfl rfl rfl rfl (Fx.if_ok (p := 166) (d := 0) (tg := 185) (cd := .ge) hT rfl (by decide) (by decide) Fx.zGe_ok rfl ⟨by decide, rfl⟩ rfl (bok_1_185 hT hR hJ) (bok_1_166 hT hR hJ))
   )
   ))
   ))))))
set_option maxRecDepth 65536 in
theorem bok_1_124 {ρ : Fx.Rho} {T : Fx.Tab} {R : Fx.Cal} {J : Fx.Jmp} (hT : Fx.TOk ρ E_ T) (hR : Fx.SimR ρ E_ R) (hJ : ∀ pc, Fx.Sim ρ E_ 1 pc 0 (J pc)) : Fx.Sim ρ E_ 1 124 0 (B_1_124 T R J) := by
  unfold B_1_124
  exact Fx.stop_ok
set_option maxRecDepth 65536 in
theorem bok_1_108 {ρ : Fx.Rho} {T : Fx.Tab} {R : Fx.Cal} {J : Fx.Jmp} (hT : Fx.TOk ρ E_ T) (hR : Fx.SimR ρ E_ R) (hJ : ∀ pc, Fx.Sim ρ E_ 1 pc 0 (J pc)) : Fx.Sim ρ E_ 1 108 0 (B_1_108 T R J) := by
  unfold B_1_108
  exact Fx.ldA_n_ok (p := 109) (d := 0) (j := 2) (by decide) rfl rfl (Fx.ldI_ok (p := 111) (d := 1) (j := 6) (by decide) rfl rfl (Fx.alF_ok (p := 112) (d := 0) (i := .iaload) hT rfl (fun _ _ _ => rfl) rfl rfl rfl rfl (Fx.if_ok (p := 115) (d := 0) (tg := 124) (cd := .lt) hT rfl (by decide) (by decide) Fx.zLt_ok rfl ⟨by decide, rfl⟩ rfl (bok_1_124 hT hR hJ) (Fx.ldA_n_ok (p := 116) (d := 0) (j := 2) (by decide) rfl rfl (Fx.ldI_ok (p := 118) (d := 1) (j := 6) (by decide) rfl rfl (Fx.alF_ok (p := 119) (d := 0) (i := .iaload) hT rfl (fun _ _ _ => rfl) rfl rfl rfl rfl (Fx.ldI_ok (p := 121) (d := 1) (j := 4) (by decide) rfl rfl (Fx.icmp_ok (p := 124) (d := 0) (tg := 147) (cd := .lt) hT rfl (by decide) (by decide) Fx.cLt_ok rfl ⟨by decide, rfl⟩ rfl (bok_1_147 hT hR hJ) (bok_1_124 hT hR hJ))))))))
   )
set_option maxRecDepth 65536 in
theorem bok_1_101 {ρ : Fx.Rho} {T : Fx.Tab} {R : Fx.Cal} {J : Fx.Jmp} (hT : Fx.TOk ρ E_ T) (hR : Fx.SimR ρ E_ R) (hJ : ∀ pc, Fx.Sim ρ E_ 1 pc 0 (J pc)) : Fx.Sim ρ E_ 1 101 0 (B_1_101 T R J) := by
  unfold B_1_101
  exact Fx.ldI_ok (p := 103) (d := 0) (j := 6) (by decide) rfl rfl (Fx.stI_ok (p := 105) (d := 0) (j := 5) (by decide) rfl rfl rfl (Fx.goto_ok (tg := 147) rfl ⟨by decide, rfl⟩ (bok_1_147 hT hR hJ)))
set_option maxRecDepth 65536 in
theorem bok_1_64 {ρ : Fx.Rho} {T : Fx.Tab} {R : Fx.Cal} {J : Fx.Jmp} (hT : Fx.TOk ρ E_ T) (hR : Fx.SimR ρ E_ R) (hJ : ∀ pc, Fx.Sim ρ E_ 1 pc 0 (J pc)) : Fx.Sim ρ E_ 1 64 0 (B_1_64 T R J) := by
  unfold B_1_64
  exact Fx.ldI_ok (p := 66) (d := 0) (j := 6) (by decide) rfl rfl (Fx.ldI_ok (p := 68) (d := 1) (j := 4) (by decide) rfl rfl (Fx.icmp_ok (p := 71) (d := 0) (tg := 191) (cd := .ge) hT rfl (by decide) (by decide) Fx.cGe_ok rfl ⟨by decide, rfl⟩ rfl (bok_1_191 hT hR hJ) (Fx.ldA_n_ok (p := 72) (d := 0) (j := 2) (by decide) rfl rfl (Fx.ldI_ok (p := 74) (d := 1) (j := 6) (by decide) rfl rfl (Fx.alF_ok (p := 75) (d := 0) (i := .iaload) hT rfl (fun _ _ _ => rfl) rfl rfl rfl rfl (Fx.iconst_ok (p := 76) (d := 1) (z := (-1)) (by decide) (by decide) rfl rfl (Fx.icmp_ok (p := 79) (d := 0) (tg := 108) (cd := .ne) hT rfl (by decide) (by decide) Fx.cNe_ok rfl ⟨by decide, rfl⟩ rfl (bok_1_108 hT hR hJ) (Fx.ldI_ok (p := 81) (d := 0) (j := 5) (by decide) rfl rfl (Fx.if_ok (p := 84) (d := 0) (tg := 101) (cd := .lt) hT rfl (by decide) (by decide) Fx.zLt_ok rfl ⟨by decide, rfl⟩ rfl (bok_1_101 hT hR hJ) (Fx.stop_ok))))))))))
set_option maxRecDepth 65536 in
theorem bok_1_58 {ρ : Fx.Rho} {T : Fx.Tab} {R : Fx.Cal} {J : Fx.Jmp} (hT : Fx.TOk ρ E_ T) (hR : Fx.SimR ρ E_ R) (hJ : ∀ pc, Fx.Sim ρ E_ 1 pc 0 (J pc)) : Fx.Sim ρ E_ 1 58 0 (B_1_58 T R J) := by
  unfold B_1_58
  exact Fx.iconst_ok (p := 59) (d := 0) (z := (-1)) (by decide) (by decide) rfl rfl (Fx.stI_ok (p := 61) (d := 0) (j := 5) (by decide) rfl rfl rfl (Fx.iconst_ok (p := 62) (d := 0) (z := 0) (by decide) (by decide) rfl rfl (Fx.stI_ok (p := 64) (d := 0) (j := 6) (by decide) rfl rfl rfl (bok_1_64 hT hR hJ))))
set_option maxRecDepth 65536 in
theorem bok_1_42 {ρ : Fx.Rho} {T : Fx.Tab} {R : Fx.Cal} {J : Fx.Jmp} (hT : Fx.TOk ρ E_ T) (hR : Fx.SimR ρ E_ R) (hJ : ∀ pc, Fx.Sim ρ E_ 1 pc 0 (J pc)) : Fx.Sim ρ E_ 1 42 0 (B_1_42 T R J) := by
  unfold B_1_42
  exact Fx.stop_ok
set_option maxRecDepth 65536 in
theorem bok_1_32 {ρ : Fx.Rho} {T : Fx.Tab} {R : Fx.Cal} {J : Fx.Jmp} (hT : Fx.TOk ρ E_ T) (hR : Fx.SimR ρ E_ R) (hJ : ∀ pc, Fx.Sim ρ E_ 1 pc 0 (J pc)) : Fx.Sim ρ E_ 1 32 0 (B_1_32 T R J) := by
  unfold B_1_32
  exact Fx.ldI_n_ok (p := 33) (d := 0) (j := 1) (by decide) rfl rfl (Fx.if_ok (p := 36) (d := 0) (tg := 42) (cd := .lt) hT rfl (by decide) (by decide) Fx.zLt_ok rfl ⟨by decide, rfl⟩ rfl (bok_1_42 hT hR hJ) (Fx.ldI_n_ok (p := 37) (d := 0) (j := 1) (by decide) rfl rfl (Fx.ldI_ok (p := 39) (d := 1) (j := 4) (by decide) rfl rfl (Fx.icmp_ok (p := 42) (d := 0) (tg := 58) (cd := .le) hT rfl (by decide) (by decide) Fx.cLe_ok rfl ⟨by decide, rfl⟩ rfl (bok_1_58 hT hR hJ) (bok_1_42 hT hR hJ)))
   ))
set_option maxRecDepth 65536 in
theorem bok_1_0 {ρ : Fx.Rho} {T : Fx.Tab} {R : Fx.Cal} {J : Fx.Jmp} (hT : Fx.TOk ρ E_ T) (hR : Fx.SimR ρ E_ R) (hJ : ∀ pc, Fx.Sim ρ E_ 1 pc 0 (J pc)) : Fx.Sim ρ E_ 1 0 0 (B_1_0 T R J) := by
  unfold B_1_0
  exact Fx.ldA_n_ok (p := 1) (d := 0) (j := 0) (by decide) rfl rfl (Fx.oinitF_ok (p := 4) (d := 0)  rfl rfl (Fx.ldA_n_ok (p := 5) (d := 0) (j := 2) (by decide) rfl rfl (Fx.alenF_ok (p := 6) (d := 0)  rfl rfl (Fx.stI_ok (p := 8) (d := 0) (j := 4) (by decide) rfl rfl rfl (Fx.ldA_n_ok (p := 9) (d := 0) (j := 3) (by decide) rfl rfl (Fx.alenF_ok (p := 10) (d := 0)  rfl rfl (Fx.ldI_ok (p := 12) (d := 1) (j := 4) (by decide) rfl rfl (Fx.icmp_ok (p := 15) (d := 0) (tg := 32) (cd := .eq) hT rfl (by decide) (by decide) Fx.cEq_ok rfl ⟨by decide, rfl⟩ rfl (bok_1_32 hT hR hJ) (Fx.stop_ok)))))))))
theorem bm_1 {ρ : Fx.Rho} {T : Fx.Tab} {R : Fx.Cal} {J : Fx.Jmp} (hT : Fx.TOk ρ E_ T) (hR : Fx.SimR ρ E_ R) (hJ : ∀ pc, Fx.Sim ρ E_ 1 pc 0 (J pc)) (pc : Nat) : Fx.Sim ρ E_ 1 pc 0 (BM_1 T R J pc) := by
  unfold BM_1
  exact Fx.brec_sim (fun _ => Fx.brec_sim (fun _ => Fx.brec_sim (fun _ => Fx.stop_ok) (fun e => by have := Nat.eq_of_beq_eq_true e; subst this; exact bok_1_297 hT hR hJ)) (fun _ => Fx.brec_sim (fun _ => Fx.stop_ok) (fun e => by have := Nat.eq_of_beq_eq_true e; subst this; exact bok_1_64 hT hR hJ))) (fun _ => Fx.brec_sim (fun _ => Fx.stop_ok) (fun e => by have := Nat.eq_of_beq_eq_true e; subst this; exact bok_1_0 hT hR hJ))
set_option maxRecDepth 65536 in
theorem bok_2_16 {ρ : Fx.Rho} {T : Fx.Tab} {R : Fx.Cal} {J : Fx.Jmp} (hT : Fx.TOk ρ E_ T) (hR : Fx.SimR ρ E_ R) (hJ : ∀ pc, Fx.Sim ρ E_ 2 pc 0 (J pc)) : Fx.Sim ρ E_ 2 16 1 (B_2_16 T R J) := by
  unfold B_2_16
  exact Fx.retZ_ok (d := 0) rfl rfl
set_option maxRecDepth 65536 in
theorem bok_2_15 {ρ : Fx.Rho} {T : Fx.Tab} {R : Fx.Cal} {J : Fx.Jmp} (hT : Fx.TOk ρ E_ T) (hR : Fx.SimR ρ E_ R) (hJ : ∀ pc, Fx.Sim ρ E_ 2 pc 0 (J pc)) : Fx.Sim ρ E_ 2 15 0 (B_2_15 T R J) := by
  unfold B_2_15
  exact Fx.iconst_ok (p := 16) (d := 0) (z := 0) (by decide) (by decide) rfl rfl (bok_2_16 hT hR hJ)
set_option maxRecDepth 65536 in
theorem bok_2_0 {ρ : Fx.Rho} {T : Fx.Tab} {R : Fx.Cal} {J : Fx.Jmp} (hT : Fx.TOk ρ E_ T) (hR : Fx.SimR ρ E_ R) (hJ : ∀ pc, Fx.Sim ρ E_ 2 pc 0 (J pc)) : Fx.Sim ρ E_ 2 0 0 (B_2_0 T R J) := by
  unfold B_2_0
  exact Fx.ldD_n_ok (p := 1) (d := 0) (j := 0) (by decide) rfl rfl (Fx.ext1F_ok (p := 4) (d := 0) (x := 0) hT rfl rfl rfl rfl (Fx.ldc2_w_double_ok (p := 7) (d := 1) (n := 9218868437227405311) (z := 9218868437227405311) (by decide) rfl (by decide) rfl rfl (Fx.bT_ok (p := 8) (d := 0) (i := .dcmp .g) hT rfl (by decide) (fun _ _ => rfl) rfl rfl rfl rfl (Fx.if_ok (p := 11) (d := 0) (tg := 15) (cd := .gt) hT rfl (by decide) (by decide) Fx.zGt_ok rfl ⟨by decide, rfl⟩ rfl (bok_2_15 hT hR hJ) (Fx.iconst_ok (p := 12) (d := 0) (z := 1) (by decide) (by decide) rfl rfl (Fx.goto_ok (tg := 16) rfl ⟨by decide, rfl⟩ (bok_2_16 hT hR hJ)))))))
theorem bm_2 {ρ : Fx.Rho} {T : Fx.Tab} {R : Fx.Cal} {J : Fx.Jmp} (hT : Fx.TOk ρ E_ T) (hR : Fx.SimR ρ E_ R) (hJ : ∀ pc, Fx.Sim ρ E_ 2 pc 0 (J pc)) (pc : Nat) : Fx.Sim ρ E_ 2 pc 0 (BM_2 T R J pc) := by
  unfold BM_2
  exact Fx.brec_sim (fun _ => Fx.stop_ok) (fun e => by have := Nat.eq_of_beq_eq_true e; subst this; exact bok_2_0 hT hR hJ)
set_option maxRecDepth 65536 in
theorem bok_3_126 {ρ : Fx.Rho} {T : Fx.Tab} {R : Fx.Cal} {J : Fx.Jmp} (hT : Fx.TOk ρ E_ T) (hR : Fx.SimR ρ E_ R) (hJ : ∀ pc, Fx.Sim ρ E_ 3 pc 0 (J pc)) : Fx.Sim ρ E_ 3 126 0 (B_3_126 T R J) := by
  unfold B_3_126
  exact Fx.ldA_n_ok (p := 127) (d := 0) (j := 2) (by decide) rfl rfl (Fx.retA_ok (d := 0) rfl (Or.inr ⟨_, rfl⟩) rfl)
set_option maxRecDepth 65536 in
theorem bok_3_120 {ρ : Fx.Rho} {T : Fx.Tab} {R : Fx.Cal} {J : Fx.Jmp} (hT : Fx.TOk ρ E_ T) (hR : Fx.SimR ρ E_ R) (hJ : ∀ pc, Fx.Sim ρ E_ 3 pc 0 (J pc)) : Fx.Sim ρ E_ 3 120 0 (B_3_120 T R J) := by
  unfold B_3_120
  exact Fx.iinc_ok (p := 123) (d := 0) (j := 4) (z := 1) (by decide) (by decide) rfl rfl (Fx.goto_ok (tg := 22) rfl ⟨by decide, rfl⟩ (Fx.jp_ok (hJ 22)))
set_option maxRecDepth 65536 in
theorem bok_3_98 {ρ : Fx.Rho} {T : Fx.Tab} {R : Fx.Cal} {J : Fx.Jmp} (hT : Fx.TOk ρ E_ T) (hR : Fx.SimR ρ E_ R) (hJ : ∀ pc, Fx.Sim ρ E_ 3 pc 0 (J pc)) : Fx.Sim ρ E_ 3 98 0 (B_3_98 T R J) := by
  unfold B_3_98
  exact Fx.ldI_ok (p := 100) (d := 0) (j := 5) (by decide) rfl rfl (Fx.if_ok (p := 103) (d := 0) (tg := 120) (cd := .le) hT rfl (by decide) (by decide) Fx.zLe_ok rfl ⟨by decide, rfl⟩ rfl (bok_3_120 hT hR hJ) (Fx.ldA_n_ok (p := 104) (d := 0) (j := 2) (by decide) rfl rfl (Fx.ldA_n_ok (p := 105) (d := 1) (j := 3) (by decide) rfl rfl (Fx.iinc_ok (p := 108) (d := 2) (j := 5) (z := (-1)) (by decide) (by decide) rfl rfl (Fx.ldI_ok (p := 110) (d := 2) (j := 5) (by decide) rfl rfl (Fx.alF_ok (p := 111) (d := 1) (i := .iaload) hT rfl (fun _ _ _ => rfl) rfl rfl rfl rfl (Fx.iinc_ok (p := 114) (d := 2) (j := 7) (z := 1) (by decide) (by decide) rfl rfl (Fx.ldI_ok (p := 116) (d := 2) (j := 7) (by decide) rfl rfl (Fx.asF_ok (p := 117) (d := 0) (i := .iastore) hT Fx.iastore_on rfl (fun _ _ _ => rfl) rfl rfl rfl rfl (Fx.goto_ok (tg := 98) rfl ⟨by decide, rfl⟩ (Fx.jp_ok (hJ 98))))))))))))
set_option maxRecDepth 65536 in
theorem bok_3_92 {ρ : Fx.Rho} {T : Fx.Tab} {R : Fx.Cal} {J : Fx.Jmp} (hT : Fx.TOk ρ E_ T) (hR : Fx.SimR ρ E_ R) (hJ : ∀ pc, Fx.Sim ρ E_ 3 pc 0 (J pc)) : Fx.Sim ρ E_ 3 92 0 (B_3_92 T R J) := by
  unfold B_3_92
  exact Fx.ldA_n_ok (p := 93) (d := 0) (j := 2) (by decide) rfl rfl (Fx.ldI_ok (p := 95) (d := 1) (j := 6) (by decide) rfl rfl (Fx.alF_ok (p := 96) (d := 0) (i := .iaload) hT rfl (fun _ _ _ => rfl) rfl rfl rfl rfl (Fx.stI_ok (p := 98) (d := 0) (j := 7) (by decide) rfl rfl rfl (bok_3_98 hT hR hJ))))
set_option maxRecDepth 65536 in
theorem bok_3_68 {ρ : Fx.Rho} {T : Fx.Tab} {R : Fx.Cal} {J : Fx.Jmp} (hT : Fx.TOk ρ E_ T) (hR : Fx.SimR ρ E_ R) (hJ : ∀ pc, Fx.Sim ρ E_ 3 pc 0 (J pc)) : Fx.Sim ρ E_ 3 68 0 (B_3_68 T R J) := by
  unfold B_3_68
  exact Fx.ldA_n_ok (p := 69) (d := 0) (j := 2) (by decide) rfl rfl (Fx.ldI_ok (p := 71) (d := 1) (j := 6) (by decide) rfl rfl (Fx.alF_ok (p := 72) (d := 0) (i := .iaload) hT rfl (fun _ _ _ => rfl) rfl rfl rfl rfl (Fx.bipush_ok (p := 74) (d := 1) (z := (-2)) (by decide) (by decide) rfl rfl (Fx.icmp_ok (p := 77) (d := 0) (tg := 92) (cd := .ne) hT rfl (by decide) (by decide) Fx.cNe_ok rfl ⟨by decide, rfl⟩ rfl (bok_3_92 hT hR hJ) (Fx.stop_ok)))))
set_option maxRecDepth 65536 in
theorem bok_3_36 {ρ : Fx.Rho} {T : Fx.Tab} {R : Fx.Cal} {J : Fx.Jmp} (hT : Fx.TOk ρ E_ T) (hR : Fx.SimR ρ E_ R) (hJ : ∀ pc, Fx.Sim ρ E_ 3 pc 0 (J pc)) : Fx.Sim ρ E_ 3 36 0 (B_3_36 T R J) := by
  unfold B_3_36
  exact Fx.ldA_n_ok (p := 37) (d := 0) (j := 2) (by decide) rfl rfl (Fx.ldI_ok (p := 39) (d := 1) (j := 6) (by decide) rfl rfl (Fx.alF_ok (p := 40) (d := 0) (i := .iaload) hT rfl (fun _ _ _ => rfl) rfl rfl rfl rfl (Fx.iconst_ok (p := 41) (d := 1) (z := (-1)) (by decide) (by decide) rfl rfl (Fx.icmp_ok (p := 44) (d := 0) (tg := 68) (cd := .ne) hT rfl (by decide) (by decide) Fx.cNe_ok rfl ⟨by decide, rfl⟩ rfl (bok_3_68 hT hR hJ) (Fx.ldA_n_ok (p := 45) (d := 0) (j := 2) (by decide) rfl rfl (Fx.ldI_ok (p := 47) (d := 1) (j := 6) (by decide) rfl rfl (Fx.bipush_ok (p := 49) (d := 2) (z := (-2)) (by decide) (by decide) rfl rfl (Fx.asF_ok (p := 50) (d := 0) (i := .iastore) hT Fx.iastore_on rfl (fun _ _ _ => rfl) rfl rfl rfl rfl (Fx.ldA_n_ok (p := 51) (d := 0) (j := 3) (by decide) rfl rfl (Fx.ldI_ok (p := 53) (d := 1) (j := 5) (by decide) rfl rfl (Fx.iinc_ok (p := 56) (d := 2) (j := 5) (z := 1) (by decide) (by decide) rfl rfl (Fx.ldI_ok (p := 58) (d := 2) (j := 6) (by decide) rfl rfl (Fx.asF_ok (p := 59) (d := 0) (i := .iastore) hT Fx.iastore_on rfl (fun _ _ _ => rfl) rfl rfl rfl rfl (Fx.ldA_n_ok (p := 60) (d := 0) (j := 0) (by decide) rfl rfl (Fx.ldI_ok (p := 62) (d := 1) (j := 6) (by decide) rfl rfl (Fx.alF_ok (p := 63) (d := 0) (i := .iaload) hT rfl (fun _ _ _ => rfl) rfl rfl rfl rfl (Fx.stI_ok (p := 65) (d := 0) (j := 6) (by decide) rfl rfl rfl (Fx.goto_ok (tg := 36) rfl ⟨by decide, rfl⟩ (Fx.jp_ok (hJ 36)))))
   )))))
   )))))))
   )))
set_option maxRecDepth 65536 in
theorem bok_3_22 {ρ : Fx.Rho} {T : Fx.Tab} {R : Fx.Cal} {J : Fx.Jmp} (hT : Fx.TOk ρ E_ T) (hR : Fx.SimR ρ E_ R) (hJ : ∀ pc, Fx.Sim ρ E_ 3 pc 0 (J pc)) : Fx.Sim ρ E_ 3 22 0 (B_3_22 T R J) := by
  unfold B_3_22
  exact Fx.ldI_ok (p := 24) (d := 0) (j := 4) (by decide) rfl rfl (Fx.ldA_n_ok (p := 25) (d := 1) (j := 0) (by decide) rfl rfl (Fx.alenF_ok (p := 26) (d := 1)  rfl rfl (Fx.icmp_ok (p := 29) (d := 0) (tg := 126) (cd := .ge) hT rfl (by decide) (by decide) Fx.cGe_ok rfl ⟨by decide, rfl⟩ rfl (bok_3_126 hT hR hJ) (Fx.iconst_ok (p := 30) (d := 0) (z := 0) (by decide) (by decide) rfl rfl (Fx.stI_ok (p := 32) (d := 0) (j := 5) (by decide) rfl rfl rfl (Fx.ldI_ok (p := 34) (d := 0) (j := 4) (by decide) rfl rfl (Fx.stI_ok (p := 36) (d := 0) (j := 6) (by decide) rfl rfl rfl (bok_3_36 hT hR hJ))))
   )
   )))
set_option maxRecDepth 65536 in
theorem bok_3_0 {ρ : Fx.Rho} {T : Fx.Tab} {R : Fx.Cal} {J : Fx.Jmp} (hT : Fx.TOk ρ E_ T) (hR : Fx.SimR ρ E_ R) (hJ : ∀ pc, Fx.Sim ρ E_ 3 pc 0 (J pc)) : Fx.Sim ρ E_ 3 0 0 (B_3_0 T R J) := by
  unfold B_3_0
  exact Fx.ldA_n_ok (p := 1) (d := 0) (j := 0) (by decide) rfl rfl (Fx.alenF_ok (p := 2) (d := 0)  rfl rfl (Fx.newaF_ok (p := 4) (d := 0) hT rfl rfl (by decide) (by decide) rfl rfl (Fx.stA_n_ok (p := 5) (d := 0) (j := 2) (by decide) rfl rfl rfl (Fx.ldA_n_ok (p := 6) (d := 0) (j := 2) (by decide) rfl rfl (Fx.iconst_ok (p := 7) (d := 1) (z := (-1)) (by decide) (by decide) rfl rfl (Fx.statF_ok (p := 10) (d := 0) (d1 := 0) (CS_4_ok R 0) hR rfl rfl rfl rfl (Fx.ldA_n_ok (p := 11) (d := 0) (j := 2) (by decide) rfl rfl (Fx.ldI_n_ok (p := 12) (d := 1) (j := 1) (by decide) rfl rfl (Fx.iconst_ok (p := 13) (d := 2) (z := 0) (by decide) (by decide) rfl rfl (Fx.asF_ok (p := 14) (d := 0) (i := .iastore) hT Fx.iastore_on rfl (fun _ _ _ => rfl) rfl rfl rfl rfl (Fx.ldA_n_ok (p := 15) (d := 0) (j := 0) (by decide) rfl rfl (Fx.alenF_ok (p := 16) (d := 0)  rfl rfl (Fx.newaF_ok (p := 18) (d := 0) hT rfl rfl (by decide) (by decide) rfl rfl (Fx.stA_n_ok (p := 19) (d := 0) (j := 3) (by decide) rfl rfl rfl (Fx.iconst_ok (p := 20) (d := 0) (z := 0) (by decide) (by decide) rfl rfl (Fx.stI_ok (p := 22) (d := 0) (j := 4) (by decide) rfl rfl rfl (bok_3_22 hT hR hJ))))))))))))))))
   )
theorem bm_3 {ρ : Fx.Rho} {T : Fx.Tab} {R : Fx.Cal} {J : Fx.Jmp} (hT : Fx.TOk ρ E_ T) (hR : Fx.SimR ρ E_ R) (hJ : ∀ pc, Fx.Sim ρ E_ 3 pc 0 (J pc)) (pc : Nat) : Fx.Sim ρ E_ 3 pc 0 (BM_3 T R J pc) := by
  unfold BM_3
  exact Fx.brec_sim (fun _ => Fx.brec_sim (fun _ => Fx.brec_sim (fun _ => Fx.stop_ok) (fun e => by have := Nat.eq_of_beq_eq_true e; subst this; exact bok_3_98 hT hR hJ)) (fun _ => Fx.brec_sim (fun _ => Fx.stop_ok) (fun e => by have := Nat.eq_of_beq_eq_true e; subst this; exact bok_3_36 hT hR hJ))) (fun _ => Fx.brec_sim (fun _ => Fx.brec_sim (fun _ => Fx.stop_ok) (fun e => by have := Nat.eq_of_beq_eq_true e; subst this; exact bok_3_22 hT hR hJ)) (fun _ => Fx.brec_sim (fun _ => Fx.stop_ok) (fun e => by have := Nat.eq_of_beq_eq_true e; subst this; exact bok_3_0 hT hR hJ)))
set_option maxRecDepth 65536 in
theorem bok_4_20 {ρ : Fx.Rho} {T : Fx.Tab} {R : Fx.Cal} {J : Fx.Jmp} (hT : Fx.TOk ρ E_ T) (hR : Fx.SimR ρ E_ R) (hJ : ∀ pc, Fx.Sim ρ E_ 4 pc 0 (J pc)) : Fx.Sim ρ E_ 4 20 0 (B_4_20 T R J) := by
  unfold B_4_20
  exact Fx.retN_ok rfl rfl
set_option maxRecDepth 65536 in
theorem bok_4_5 {ρ : Fx.Rho} {T : Fx.Tab} {R : Fx.Cal} {J : Fx.Jmp} (hT : Fx.TOk ρ E_ T) (hR : Fx.SimR ρ E_ R) (hJ : ∀ pc, Fx.Sim ρ E_ 4 pc 0 (J pc)) : Fx.Sim ρ E_ 4 5 0 (B_4_5 T R J) := by
  unfold B_4_5
  exact Fx.ldI_n_ok (p := 6) (d := 0) (j := 2) (by decide) rfl rfl (Fx.ldI_n_ok (p := 7) (d := 1) (j := 3) (by decide) rfl rfl (Fx.icmp_ok (p := 10) (d := 0) (tg := 20) (cd := .ge) hT rfl (by decide) (by decide) Fx.cGe_ok rfl ⟨by decide, rfl⟩ rfl (bok_4_20 hT hR hJ) (Fx.ldA_n_ok (p := 11) (d := 0) (j := 0) (by decide) rfl rfl (Fx.ldI_n_ok (p := 12) (d := 1) (j := 2) (by decide) rfl rfl (Fx.ldI_n_ok (p := 13) (d := 2) (j := 1) (by decide) rfl rfl (Fx.asF_ok (p := 14) (d := 0) (i := .iastore) hT Fx.iastore_on rfl (fun _ _ _ => rfl) rfl rfl rfl rfl (Fx.iinc_ok (p := 17) (d := 0) (j := 2) (z := 1) (by decide) (by decide) rfl rfl (Fx.goto_ok (tg := 5) rfl ⟨by decide, rfl⟩ (Fx.jp_ok (hJ 5))))))))))
set_option maxRecDepth 65536 in
theorem bok_4_0 {ρ : Fx.Rho} {T : Fx.Tab} {R : Fx.Cal} {J : Fx.Jmp} (hT : Fx.TOk ρ E_ T) (hR : Fx.SimR ρ E_ R) (hJ : ∀ pc, Fx.Sim ρ E_ 4 pc 0 (J pc)) : Fx.Sim ρ E_ 4 0 0 (B_4_0 T R J) := by
  unfold B_4_0
  exact Fx.iconst_ok (p := 1) (d := 0) (z := 0) (by decide) (by decide) rfl rfl (Fx.stI_n_ok (p := 2) (d := 0) (j := 2) (by decide) rfl rfl rfl (Fx.ldA_n_ok (p := 3) (d := 0) (j := 0) (by decide) rfl rfl (Fx.alenF_ok (p := 4) (d := 0)  rfl rfl (Fx.stI_n_ok (p := 5) (d := 0) (j := 3) (by decide) rfl rfl rfl (bok_4_5 hT hR hJ)))))
theorem bm_4 {ρ : Fx.Rho} {T : Fx.Tab} {R : Fx.Cal} {J : Fx.Jmp} (hT : Fx.TOk ρ E_ T) (hR : Fx.SimR ρ E_ R) (hJ : ∀ pc, Fx.Sim ρ E_ 4 pc 0 (J pc)) (pc : Nat) : Fx.Sim ρ E_ 4 pc 0 (BM_4 T R J pc) := by
  unfold BM_4
  exact Fx.brec_sim (fun _ => Fx.brec_sim (fun _ => Fx.stop_ok) (fun e => by have := Nat.eq_of_beq_eq_true e; subst this; exact bok_4_5 hT hR hJ)) (fun _ => Fx.brec_sim (fun _ => Fx.stop_ok) (fun e => by have := Nat.eq_of_beq_eq_true e; subst this; exact bok_4_0 hT hR hJ))
set_option maxRecDepth 65536 in
theorem bok_5_10 {ρ : Fx.Rho} {T : Fx.Tab} {R : Fx.Cal} {J : Fx.Jmp} (hT : Fx.TOk ρ E_ T) (hR : Fx.SimR ρ E_ R) (hJ : ∀ pc, Fx.Sim ρ E_ 5 pc 0 (J pc)) : Fx.Sim ρ E_ 5 10 1 (B_5_10 T R J) := by
  unfold B_5_10
  exact Fx.retI_ok (d := 0) rfl rfl
set_option maxRecDepth 65536 in
theorem bok_5_9 {ρ : Fx.Rho} {T : Fx.Tab} {R : Fx.Cal} {J : Fx.Jmp} (hT : Fx.TOk ρ E_ T) (hR : Fx.SimR ρ E_ R) (hJ : ∀ pc, Fx.Sim ρ E_ 5 pc 0 (J pc)) : Fx.Sim ρ E_ 5 9 0 (B_5_9 T R J) := by
  unfold B_5_9
  exact Fx.ldI_n_ok (p := 10) (d := 0) (j := 1) (by decide) rfl rfl (bok_5_10 hT hR hJ)
set_option maxRecDepth 65536 in
theorem bok_5_0 {ρ : Fx.Rho} {T : Fx.Tab} {R : Fx.Cal} {J : Fx.Jmp} (hT : Fx.TOk ρ E_ T) (hR : Fx.SimR ρ E_ R) (hJ : ∀ pc, Fx.Sim ρ E_ 5 pc 0 (J pc)) : Fx.Sim ρ E_ 5 0 0 (B_5_0 T R J) := by
  unfold B_5_0
  exact Fx.ldI_n_ok (p := 1) (d := 0) (j := 0) (by decide) rfl rfl (Fx.ldI_n_ok (p := 2) (d := 1) (j := 1) (by decide) rfl rfl (Fx.icmp_ok (p := 5) (d := 0) (tg := 9) (cd := .lt) hT rfl (by decide) (by decide) Fx.cLt_ok rfl ⟨by decide, rfl⟩ rfl (bok_5_9 hT hR hJ) (Fx.ldI_n_ok (p := 6) (d := 0) (j := 0) (by decide) rfl rfl (Fx.goto_ok (tg := 10) rfl ⟨by decide, rfl⟩ (bok_5_10 hT hR hJ))))
   )
theorem bm_5 {ρ : Fx.Rho} {T : Fx.Tab} {R : Fx.Cal} {J : Fx.Jmp} (hT : Fx.TOk ρ E_ T) (hR : Fx.SimR ρ E_ R) (hJ : ∀ pc, Fx.Sim ρ E_ 5 pc 0 (J pc)) (pc : Nat) : Fx.Sim ρ E_ 5 pc 0 (BM_5 T R J pc) := by
  unfold BM_5
  exact Fx.brec_sim (fun _ => Fx.stop_ok) (fun e => by have := Nat.eq_of_beq_eq_true e; subst this; exact bok_5_0 hT hR hJ)
set_option maxRecDepth 65536 in
theorem bok_6_129 {ρ : Fx.Rho} {T : Fx.Tab} {R : Fx.Cal} {J : Fx.Jmp} (hT : Fx.TOk ρ E_ T) (hR : Fx.SimR ρ E_ R) (hJ : ∀ pc, Fx.Sim ρ E_ 6 pc 0 (J pc)) : Fx.Sim ρ E_ 6 129 0 (B_6_129 T R J) := by
  unfold B_6_129
  exact Fx.ldD_ok (p := 131) (d := 0) (j := 5) (by decide) rfl rfl (Fx.retD_ok (d := 0) rfl rfl)
set_option maxRecDepth 65536 in
theorem bok_6_85 {ρ : Fx.Rho} {T : Fx.Tab} {R : Fx.Cal} {J : Fx.Jmp} (hT : Fx.TOk ρ E_ T) (hR : Fx.SimR ρ E_ R) (hJ : ∀ pc, Fx.Sim ρ E_ 6 pc 0 (J pc)) : Fx.Sim ρ E_ 6 85 0 (B_6_85 T R J) := by
  unfold B_6_85
  exact Fx.ldI_n_ok (p := 86) (d := 0) (j := 3) (by decide) rfl rfl (Fx.ldI_ok (p := 88) (d := 1) (j := 4) (by decide) rfl rfl (Fx.icmp_ok (p := 91) (d := 0) (tg := 129) (cd := .eq) hT rfl (by decide) (by decide) Fx.cEq_ok rfl ⟨by decide, rfl⟩ rfl (bok_6_129 hT hR hJ) (Fx.ldD_ok (p := 93) (d := 0) (j := 5) (by decide) rfl rfl (Fx.ldA_n_ok (p := 94) (d := 1) (j := 0) (by decide) rfl rfl (Fx.getF_ok (p := 97) (d := 1)  rfl rfl (Fx.ldI_n_ok (p := 98) (d := 2) (j := 3) (by decide) rfl rfl (Fx.alF_ok (p := 99) (d := 1) (i := .daload) hT rfl (fun _ _ _ => rfl) rfl rfl rfl rfl (Fx.ldA_n_ok (p := 100) (d := 2) (j := 0) (by decide) rfl rfl (Fx.getF_ok (p := 103) (d := 2)  rfl rfl (Fx.ldI_ok (p := 105) (d := 3) (j := 4) (by decide) rfl rfl (Fx.alF_ok (p := 106) (d := 2) (i := .daload) hT rfl (fun _ _ _ => rfl) rfl rfl rfl rfl (Fx.bTd_ok (p := 107) (d := 1) (i := .dadd) hT rfl (by decide) rfl rfl rfl rfl (Fx.bTd_ok (p := 108) (d := 0) (i := .dadd) hT rfl (by decide) rfl rfl rfl rfl (Fx.stD_ok (p := 110) (d := 0) (j := 5) (by decide) rfl rfl (Fx.ldA_n_ok (p := 111) (d := 0) (j := 0) (by decide) rfl rfl (Fx.getF_ok (p := 114) (d := 0)  rfl rfl (Fx.ldI_n_ok (p := 115) (d := 1) (j := 3) (by decide) rfl rfl (Fx.alF_ok (p := 116) (d := 0) (i := .iaload) hT rfl (fun _ _ _ => rfl) rfl rfl rfl rfl (Fx.stI_n_ok (p := 117) (d := 0) (j := 3) (by decide) rfl rfl rfl (Fx.ldA_n_ok (p := 118) (d := 0) (j := 0) (by decide) rfl rfl (Fx.getF_ok (p := 121) (d := 0)  rfl rfl (Fx.ldI_ok (p := 123) (d := 1) (j := 4) (by decide) rfl rfl (Fx.alF_ok (p := 124) (d := 0) (i := .iaload) hT rfl (fun _ _ _ => rfl) rfl rfl rfl rfl (Fx.stI_ok (p := 126) (d := 0) (j := 4) (by decide) rfl rfl rfl (Fx.goto_ok (tg := 85) rfl ⟨by decide, rfl⟩ (Fx.jp_ok (hJ 85)))
   ))
   )))))))))
   )
   ))
   ))))
   ))))))
set_option maxRecDepth 65536 in
theorem bok_6_45 {ρ : Fx.Rho} {T : Fx.Tab} {R : Fx.Cal} {J : Fx.Jmp} (hT : Fx.TOk ρ E_ T) (hR : Fx.SimR ρ E_ R) (hJ : ∀ pc, Fx.Sim ρ E_ 6 pc 0 (J pc)) : Fx.Sim ρ E_ 6 45 0 (B_6_45 T R J) := by
  unfold B_6_45
  exact Fx.ldA_n_ok (p := 46) (d := 0) (j := 0) (by decide) rfl rfl (Fx.getF_ok (p := 49) (d := 0)  rfl rfl (Fx.ldI_ok (p := 51) (d := 1) (j := 4) (by decide) rfl rfl (Fx.alF_ok (p := 52) (d := 0) (i := .iaload) hT rfl (fun _ _ _ => rfl) rfl rfl rfl rfl (Fx.ldA_n_ok (p := 53) (d := 1) (j := 0) (by decide) rfl rfl (Fx.getF_ok (p := 56) (d := 1)  rfl rfl (Fx.ldI_n_ok (p := 57) (d := 2) (j := 3) (by decide) rfl rfl (Fx.alF_ok (p := 58) (d := 1) (i := .iaload) hT rfl (fun _ _ _ => rfl) rfl rfl rfl rfl (Fx.icmp_ok (p := 61) (d := 0) (tg := 85) (cd := .le) hT rfl (by decide) (by decide) Fx.cLe_ok rfl ⟨by decide, rfl⟩ rfl (bok_6_85 hT hR hJ) (Fx.ldD_ok (p := 63) (d := 0) (j := 5) (by decide) rfl rfl (Fx.ldA_n_ok (p := 64) (d := 1) (j := 0) (by decide) rfl rfl (Fx.getF_ok (p := 67) (d := 1)  rfl rfl (Fx.ldI_ok (p := 69) (d := 2) (j := 4) (by decide) rfl rfl (Fx.alF_ok (p := 70) (d := 1) (i := .daload) hT rfl (fun _ _ _ => rfl) rfl rfl rfl rfl (Fx.bTd_ok (p := 71) (d := 0) (i := .dadd) hT rfl (by decide) rfl rfl rfl rfl (Fx.stD_ok (p := 73) (d := 0) (j := 5) (by decide) rfl rfl (Fx.ldA_n_ok (p := 74) (d := 0) (j := 0) (by decide) rfl rfl (Fx.getF_ok (p := 77) (d := 0)  rfl rfl (Fx.ldI_ok (p := 79) (d := 1) (j := 4) (by decide) rfl rfl (Fx.alF_ok (p := 80) (d := 0) (i := .iaload) hT rfl (fun _ _ _ => rfl) rfl rfl rfl rfl (Fx.stI_ok (p := 82) (d := 0) (j := 4) (by decide) rfl rfl rfl (Fx.goto_ok (tg := 45) rfl ⟨by decide, rfl⟩ (Fx.jp_ok (hJ 45)))))
   ))))))))
   )))))))
   ))
   )
set_option maxRecDepth 65536 in
theorem bok_6_8 {ρ : Fx.Rho} {T : Fx.Tab} {R : Fx.Cal} {J : Fx.Jmp} (hT : Fx.TOk ρ E_ T) (hR : Fx.SimR ρ E_ R) (hJ : ∀ pc, Fx.Sim ρ E_ 6 pc 0 (J pc)) : Fx.Sim ρ E_ 6 8 0 (B_6_8 T R J) := by
  unfold B_6_8
  exact Fx.ldA_n_ok (p := 9) (d := 0) (j := 0) (by decide) rfl rfl (Fx.getF_ok (p := 12) (d := 0)  rfl rfl (Fx.ldI_n_ok (p := 13) (d := 1) (j := 3) (by decide) rfl rfl (Fx.alF_ok (p := 14) (d := 0) (i := .iaload) hT rfl (fun _ _ _ => rfl) rfl rfl rfl rfl (Fx.ldA_n_ok (p := 15) (d := 1) (j := 0) (by decide) rfl rfl (Fx.getF_ok (p := 18) (d := 1)  rfl rfl (Fx.ldI_ok (p := 20) (d := 2) (j := 4) (by decide) rfl rfl (Fx.alF_ok (p := 21) (d := 1) (i := .iaload) hT rfl (fun _ _ _ => rfl) rfl rfl rfl rfl (Fx.icmp_ok (p := 24) (d := 0) (tg := 45) (cd := .le) hT rfl (by decide) (by decide) Fx.cLe_ok rfl ⟨by decide, rfl⟩ rfl (bok_6_45 hT hR hJ) (Fx.ldD_ok (p := 26) (d := 0) (j := 5) (by decide) rfl rfl (Fx.ldA_n_ok (p := 27) (d := 1) (j := 0) (by decide) rfl rfl (Fx.getF_ok (p := 30) (d := 1)  rfl rfl (Fx.ldI_n_ok (p := 31) (d := 2) (j := 3) (by decide) rfl rfl (Fx.alF_ok (p := 32) (d := 1) (i := .daload) hT rfl (fun _ _ _ => rfl) rfl rfl rfl rfl (Fx.bTd_ok (p := 33) (d := 0) (i := .dadd) hT rfl (by decide) rfl rfl rfl rfl (Fx.stD_ok (p := 35) (d := 0) (j := 5) (by decide) rfl rfl (Fx.ldA_n_ok (p := 36) (d := 0) (j := 0) (by decide) rfl rfl (Fx.getF_ok (p := 39) (d := 0)  rfl rfl (Fx.ldI_n_ok (p := 40) (d := 1) (j := 3) (by decide) rfl rfl (Fx.alF_ok (p := 41) (d := 0) (i := .iaload) hT rfl (fun _ _ _ => rfl) rfl rfl rfl rfl (Fx.stI_n_ok (p := 42) (d := 0) (j := 3) (by decide) rfl rfl rfl (Fx.goto_ok (tg := 8) rfl ⟨by decide, rfl⟩ (Fx.jp_ok (hJ 8)))))))
   )))
   )))))))
   ))))))
set_option maxRecDepth 65536 in
theorem bok_6_0 {ρ : Fx.Rho} {T : Fx.Tab} {R : Fx.Cal} {J : Fx.Jmp} (hT : Fx.TOk ρ E_ T) (hR : Fx.SimR ρ E_ R) (hJ : ∀ pc, Fx.Sim ρ E_ 6 pc 0 (J pc)) : Fx.Sim ρ E_ 6 0 0 (B_6_0 T R J) := by
  unfold B_6_0
  exact Fx.ldI_n_ok (p := 1) (d := 0) (j := 1) (by decide) rfl rfl (Fx.stI_n_ok (p := 2) (d := 0) (j := 3) (by decide) rfl rfl rfl (Fx.ldI_n_ok (p := 3) (d := 0) (j := 2) (by decide) rfl rfl (Fx.stI_ok (p := 5) (d := 0) (j := 4) (by decide) rfl rfl rfl (Fx.dconst0_ok (p := 6) (d := 0)  rfl rfl (Fx.stD_ok (p := 8) (d := 0) (j := 5) (by decide) rfl rfl (bok_6_8 hT hR hJ))))))
theorem bm_6 {ρ : Fx.Rho} {T : Fx.Tab} {R : Fx.Cal} {J : Fx.Jmp} (hT : Fx.TOk ρ E_ T) (hR : Fx.SimR ρ E_ R) (hJ : ∀ pc, Fx.Sim ρ E_ 6 pc 0 (J pc)) (pc : Nat) : Fx.Sim ρ E_ 6 pc 0 (BM_6 T R J pc) := by
  unfold BM_6
  exact Fx.brec_sim (fun _ => Fx.brec_sim (fun _ => Fx.brec_sim (fun _ => Fx.stop_ok) (fun e => by have := Nat.eq_of_beq_eq_true e; subst this; exact bok_6_85 hT hR hJ)) (fun _ => Fx.brec_sim (fun _ => Fx.stop_ok) (fun e => by have := Nat.eq_of_beq_eq_true e; subst this; exact bok_6_45 hT hR hJ))) (fun _ => Fx.brec_sim (fun _ => Fx.brec_sim (fun _ => Fx.stop_ok) (fun e => by have := Nat.eq_of_beq_eq_true e; subst this; exact bok_6_8 hT hR hJ)) (fun _ => Fx.brec_sim (fun _ => Fx.stop_ok) (fun e => by have := Nat.eq_of_beq_eq_true e; subst this; exact bok_6_0 hT hR hJ)))
theorem bb_ {ρ : Fx.Rho} {T : Fx.Tab} (hT : Fx.TOk ρ E_ T) : ∀ R, Fx.SimR ρ E_ R → Fx.SimR ρ E_ (BB T R) := by
  intro R hR M
  unfold BB
  exact Fx.brec_simR (fun _ => Fx.brec_simR (fun _ => Fx.brec_simR (fun _ => Fx.brec_simR (fun _ => Fx.bad_simR) (fun e => by have := Nat.eq_of_beq_eq_true e; subst this; exact Fx.loop_sim fun J hJ pc => bm_6 hT hR hJ pc)) (fun _ => Fx.brec_simR (fun _ => Fx.bad_simR) (fun e => by have := Nat.eq_of_beq_eq_true e; subst this; exact Fx.loop_sim fun J hJ pc => bm_5 hT hR hJ pc))) (fun _ => Fx.brec_simR (fun _ => Fx.brec_simR (fun _ => Fx.bad_simR) (fun e => by have := Nat.eq_of_beq_eq_true e; subst this; exact Fx.loop_sim fun J hJ pc => bm_4 hT hR hJ pc)) (fun _ => Fx.brec_simR (fun _ => Fx.bad_simR) (fun e => by have := Nat.eq_of_beq_eq_true e; subst this; exact Fx.loop_sim fun J hJ pc => bm_3 hT hR hJ pc)))) (fun _ => Fx.brec_simR (fun _ => Fx.brec_simR (fun _ => Fx.brec_simR (fun _ => Fx.bad_simR) (fun e => by have := Nat.eq_of_beq_eq_true e; subst this; exact Fx.loop_sim fun J hJ pc => bm_2 hT hR hJ pc)) (fun _ => Fx.brec_simR (fun _ => Fx.bad_simR) (fun e => by have := Nat.eq_of_beq_eq_true e; subst this; exact Fx.loop_sim fun J hJ pc => bm_1 hT hR hJ pc))) (fun _ => Fx.brec_simR (fun _ => Fx.bad_simR) (fun e => by have := Nat.eq_of_beq_eq_true e; subst this; exact Fx.loop_sim fun J hJ pc => bm_0 hT hR hJ pc)))
/-- the table: tokens 0..4 the arguments; of the longs and doubles each token is a set of edges, their lengths added up -/
def T_ (p2 p3 p4 r x y : Nat) : Fx.Tab := fun o_ x_ y_ => Fx.grp o_ 21 (Fx.tr (Nat.add (Nat.xor (Nat.shiftRight x_ 69) 11) (Nat.add (Nat.xor y_ 5912176972024283922431) (Nat.shiftRight (Nat.sub x_ 6493253913945762168832) 32))) (Nat.add 590295810358705651812 (Nat.mul 2 (Nat.sub x_ 6493253913945762168832))) (Fx.tr (Nat.add (Nat.xor (Nat.shiftRight x_ 69) 11) (Nat.add (Nat.xor y_ 5902958103587056517120) (Nat.shiftRight (Nat.sub x_ 6493253913945762168832) 32))) (Nat.add 590295810358705651813 (Nat.mul 2 (Nat.sub x_ 6493253913945762168832))) (Fx.tr (Nat.add (Nat.xor x_ 5902958103587056517120) (Nat.xor y_ 5912176972024283922431)) 4294967295 (Fx.tr (Nat.add (Nat.xor x_ 5902958103587056517120) (Nat.xor y_ 5902958103587056517120)) 0 0)))) (Fx.grp o_ 46 (Fx.tr (Nat.add (Nat.xor (Nat.shiftRight x_ 69) 1) (Nat.add (Nat.xor y_ 1180591620717411303424) (Nat.add (Nat.sub 100 (Nat.sub x_ 590295810358705651712)) (Nat.xor (Nat.land x_ 1) 0)))) 0 0) (Fx.grp o_ 45 (Fx.tr (Nat.add (Nat.xor (Nat.shiftRight x_ 69) 1) (Nat.add (Nat.xor y_ 1180591620717411303424) (Nat.add (Nat.sub 100 (Nat.sub x_ 590295810358705651712)) (Nat.xor (Nat.land x_ 1) 1)))) 1 0) (Fx.grp o_ 100 (Fx.tr (Nat.add (Nat.xor (Nat.shiftRight x_ 69) 11) (Nat.xor y_ 1180591620717411303424)) x_ (Fx.tr (Nat.add (Nat.xor x_ 5902958103587056517120) (Nat.xor y_ 1180591620717411303424)) 5902958103587056517120 0)) (Fx.grp o_ 20 (Fx.tr (Nat.add (Nat.xor x_ 5902958103587056517120) (Nat.xor y_ 5902958103587056517120)) 0 (Fx.tr (Nat.add (Nat.xor (Nat.shiftRight x_ 69) 11) (Nat.xor x_ y_)) 0 0)) (Fx.grp o_ 26 (Fx.tr (Nat.add (Nat.xor x_ 5902958103587056517120) (Nat.xor (Nat.shiftRight y_ 69) 11)) y_ (Fx.tr (Nat.add (Nat.xor (Nat.shiftRight x_ 69) 11) (Nat.add (Nat.xor (Nat.shiftRight y_ 69) 11) (Nat.land (Nat.land x_ y_) 590295810358705651711))) (Nat.lor x_ y_) 0)) (Fx.grp o_ 12 (Fx.tr (Nat.add (Nat.xor x_ 4722366482869645213696) (Nat.xor (Nat.shiftRight y_ 69) 9)) 4722366482869645213696 (Fx.tr (Nat.add (Nat.xor x_ 4722366482869645213697) (Nat.xor (Nat.shiftRight y_ 69) 9)) y_ 0)) (Fx.grp o_ 10 (Fx.tr (Nat.add (Nat.xor x_ 4722366482869645213696) (Nat.xor (Nat.shiftRight y_ 69) 9)) y_ (Fx.tr (Nat.add (Nat.xor (Nat.shiftRight x_ 69) 9) (Nat.xor y_ 4722366482869645213696)) x_ (Fx.tr (Nat.add (Nat.xor (Nat.shiftRight x_ 69) 9) (Nat.add (Nat.xor (Nat.shiftRight y_ 69) 9) (Nat.land (Nat.land x_ y_) 590295810358705651711))) (Nat.lor x_ y_) 0))) (Fx.grp o_ 39 (Fx.tr (Nat.add (Nat.xor (Nat.shiftRight x_ 69) 9) (Nat.xor y_ 1180591620717411303424)) (Nat.add x_ 1180591620717411303424) (Fx.tr (Nat.add (Nat.xor x_ 4722366482869645213696) (Nat.xor y_ 1180591620717411303424)) 5902958103587056517120 0)) (Fx.grp o_ 33 (Fx.tr (Nat.add (Nat.xor x_ 590295810358705651733) (Nat.xor y_ 1180591620717411303424)) 5312662293228350865409 (Fx.tr (Nat.add (Nat.xor x_ 590295810358705651734) (Nat.xor y_ 1180591620717411303424)) 5312662293228350865410 (Fx.tr (Nat.add (Nat.xor x_ 590295810358705651735) (Nat.xor y_ 1180591620717411303424)) 5312662293228350865412 (Fx.tr (Nat.add (Nat.xor x_ 590295810358705651736) (Nat.xor y_ 1180591620717411303424)) 5312662293228350865416 0)))) (Fx.grp o_ 3 (Fx.tr (Nat.add (Nat.xor x_ 590295810358705651712) (Nat.xor y_ 1)) p2 (Fx.tr (Nat.add (Nat.xor x_ 590295810358705651717) (Nat.xor y_ 3)) 590295810358705651718 (Fx.tr (Nat.add (Nat.xor x_ 590295810358705651719) (Nat.xor y_ 3)) p4 (Fx.tr (Nat.add (Nat.xor x_ 590295810358705651720) (Nat.xor y_ 7)) 590295810358705651721 (Fx.tr (Nat.add (Nat.xor x_ 590295810358705651722) (Nat.xor y_ 7)) 590295810358705651723 (Fx.tr (Nat.add (Nat.xor x_ 590295810358705651724) (Nat.xor y_ 7)) 590295810358705651725 (Fx.tr (Nat.add (Nat.xor x_ 590295810358705651713) (Nat.xor y_ 1048575)) 590295810358705651733 (Fx.tr (Nat.add (Nat.xor x_ 590295810358705651714) (Nat.xor y_ 1048575)) 590295810358705651734 (Fx.tr (Nat.add (Nat.xor x_ 590295810358705651715) (Nat.xor y_ 1048575)) 590295810358705651735 (Fx.tr (Nat.add (Nat.xor x_ 590295810358705651716) (Nat.xor y_ 1048575)) 590295810358705651736 0)))))))))) (Fx.grp o_ 8 (Fx.tr (Nat.add (Nat.xor x_ 590295810358705651712) (Nat.xor y_ 1)) 590295810358705651717 (Fx.tr (Nat.add (Nat.xor x_ 590295810358705651712) (Nat.xor y_ 3)) 590295810358705651719 (Fx.tr (Nat.add (Nat.xor x_ 590295810358705651712) (Nat.xor y_ 5)) 590295810358705651720 (Fx.tr (Nat.add (Nat.xor x_ 590295810358705651712) (Nat.xor y_ 8)) 590295810358705651722 (Fx.tr (Nat.add (Nat.xor x_ 590295810358705651712) (Nat.xor y_ 11)) 590295810358705651724 0))))) (Fx.grp o_ 23 (Fx.tr (Nat.add (Nat.xor x_ 590295810358705651718) (Nat.xor y_ 3)) p3 (Fx.tr (Nat.add (Nat.xor x_ 590295810358705651721) (Nat.xor y_ 5)) r (Fx.tr (Nat.add (Nat.xor x_ 590295810358705651723) (Nat.xor y_ 5)) x (Fx.tr (Nat.add (Nat.xor x_ 590295810358705651725) (Nat.xor y_ 5)) y 0)))) 0))))))))))))
def go (p2 p3 p4 r x y : Nat) : Bool := Fx.xok 24 192 6 160 (Fx.xrun (BB (T_ p2 p3 p4 r x y)) 0 327733377151013857161410101879040394999514862242391068825094234849933665841758559458693528023052312230645358047188891749825509095281464676897221700941950781145067496824353644869692455118699013757743628587859540234724176678563698650300470727686493105542219464908116845998501988117338918682916818398335104527380635390910137080116274937736446122789605988651151931169164216832246715532439376224653873835789929602518718279103205434657101116077254552378182044656470421735295430681984252324574458171258357261145348941311694760418092325363189553819786479364177830618929085595964496952349148401820663106630685633434090367552396140382384512881886541830422528 0)
set_option maxRecDepth 100000 in
theorem all_0_0_0 : ((List.range 5).all fun r => (List.range 5).all fun x => (List.range 5).all fun y => go 0 0 0 r x y) = true := by decide +kernel
set_option maxRecDepth 100000 in
theorem all_0_0_1 : ((List.range 5).all fun r => (List.range 5).all fun x => (List.range 5).all fun y => go 0 0 1 r x y) = true := by decide +kernel
set_option maxRecDepth 100000 in
theorem all_0_0_2 : ((List.range 5).all fun r => (List.range 5).all fun x => (List.range 5).all fun y => go 0 0 2 r x y) = true := by decide +kernel
set_option maxRecDepth 100000 in
theorem all_0_0_3 : ((List.range 5).all fun r => (List.range 5).all fun x => (List.range 5).all fun y => go 0 0 3 r x y) = true := by decide +kernel
set_option maxRecDepth 100000 in
theorem all_0_1_0 : ((List.range 5).all fun r => (List.range 5).all fun x => (List.range 5).all fun y => go 0 1 0 r x y) = true := by decide +kernel
set_option maxRecDepth 100000 in
theorem all_0_1_1 : ((List.range 5).all fun r => (List.range 5).all fun x => (List.range 5).all fun y => go 0 1 1 r x y) = true := by decide +kernel
set_option maxRecDepth 100000 in
theorem all_0_1_2 : ((List.range 5).all fun r => (List.range 5).all fun x => (List.range 5).all fun y => go 0 1 2 r x y) = true := by decide +kernel
set_option maxRecDepth 100000 in
theorem all_0_1_3 : ((List.range 5).all fun r => (List.range 5).all fun x => (List.range 5).all fun y => go 0 1 3 r x y) = true := by decide +kernel
set_option maxRecDepth 100000 in
theorem all_0_2_0 : ((List.range 5).all fun r => (List.range 5).all fun x => (List.range 5).all fun y => go 0 2 0 r x y) = true := by decide +kernel
set_option maxRecDepth 100000 in
theorem all_0_2_1 : ((List.range 5).all fun r => (List.range 5).all fun x => (List.range 5).all fun y => go 0 2 1 r x y) = true := by decide +kernel
set_option maxRecDepth 100000 in
theorem all_0_2_2 : ((List.range 5).all fun r => (List.range 5).all fun x => (List.range 5).all fun y => go 0 2 2 r x y) = true := by decide +kernel
set_option maxRecDepth 100000 in
theorem all_0_2_3 : ((List.range 5).all fun r => (List.range 5).all fun x => (List.range 5).all fun y => go 0 2 3 r x y) = true := by decide +kernel
set_option maxRecDepth 100000 in
theorem all_1_0_0 : ((List.range 5).all fun r => (List.range 5).all fun x => (List.range 5).all fun y => go 1 0 0 r x y) = true := by decide +kernel
set_option maxRecDepth 100000 in
theorem all_1_0_1 : ((List.range 5).all fun r => (List.range 5).all fun x => (List.range 5).all fun y => go 1 0 1 r x y) = true := by decide +kernel
set_option maxRecDepth 100000 in
theorem all_1_0_2 : ((List.range 5).all fun r => (List.range 5).all fun x => (List.range 5).all fun y => go 1 0 2 r x y) = true := by decide +kernel
set_option maxRecDepth 100000 in
theorem all_1_0_3 : ((List.range 5).all fun r => (List.range 5).all fun x => (List.range 5).all fun y => go 1 0 3 r x y) = true := by decide +kernel
set_option maxRecDepth 100000 in
theorem all_1_1_0 : ((List.range 5).all fun r => (List.range 5).all fun x => (List.range 5).all fun y => go 1 1 0 r x y) = true := by decide +kernel
set_option maxRecDepth 100000 in
theorem all_1_1_1 : ((List.range 5).all fun r => (List.range 5).all fun x => (List.range 5).all fun y => go 1 1 1 r x y) = true := by decide +kernel
set_option maxRecDepth 100000 in
theorem all_1_1_2 : ((List.range 5).all fun r => (List.range 5).all fun x => (List.range 5).all fun y => go 1 1 2 r x y) = true := by decide +kernel
set_option maxRecDepth 100000 in
theorem all_1_1_3 : ((List.range 5).all fun r => (List.range 5).all fun x => (List.range 5).all fun y => go 1 1 3 r x y) = true := by decide +kernel
set_option maxRecDepth 100000 in
theorem all_1_2_0 : ((List.range 5).all fun r => (List.range 5).all fun x => (List.range 5).all fun y => go 1 2 0 r x y) = true := by decide +kernel
set_option maxRecDepth 100000 in
theorem all_1_2_1 : ((List.range 5).all fun r => (List.range 5).all fun x => (List.range 5).all fun y => go 1 2 1 r x y) = true := by decide +kernel
set_option maxRecDepth 100000 in
theorem all_1_2_2 : ((List.range 5).all fun r => (List.range 5).all fun x => (List.range 5).all fun y => go 1 2 2 r x y) = true := by decide +kernel
set_option maxRecDepth 100000 in
theorem all_1_2_3 : ((List.range 5).all fun r => (List.range 5).all fun x => (List.range 5).all fun y => go 1 2 3 r x y) = true := by decide +kernel
theorem pick_ {p2 p3 p4 r x y : Nat} (h : ((List.range 5).all fun r => (List.range 5).all fun x => (List.range 5).all fun y => go p2 p3 p4 r x y) = true) (hc : r < 5) (hd : x < 5) (he : y < 5) : go p2 p3 p4 r x y = true :=
  List.all_eq_true.mp (List.all_eq_true.mp (List.all_eq_true.mp h r (List.mem_range.mpr hc)) x (List.mem_range.mpr hd)) y (List.mem_range.mpr he)
theorem all_ {p2 p3 p4 r x y : Nat} (h2 : p2 < 2) (h3 : p3 < 3) (h4 : p4 < 4) : r < 5 → x < 5 → y < 5 → go p2 p3 p4 r x y = true := by
  have e2 : p2 = 0 ∨ p2 = 1 := by omega
  have e3 : p3 = 0 ∨ p3 = 1 ∨ p3 = 2 := by omega
  have e4 : p4 = 0 ∨ p4 = 1 ∨ p4 = 2 ∨ p4 = 3 := by omega
  rcases e2 with rfl | rfl <;> rcases e3 with rfl | rfl | rfl <;> rcases e4 with rfl | rfl | rfl | rfl
  · exact pick_ all_0_0_0
  · exact pick_ all_0_0_1
  · exact pick_ all_0_0_2
  · exact pick_ all_0_0_3
  · exact pick_ all_0_1_0
  · exact pick_ all_0_1_1
  · exact pick_ all_0_1_2
  · exact pick_ all_0_1_3
  · exact pick_ all_0_2_0
  · exact pick_ all_0_2_1
  · exact pick_ all_0_2_2
  · exact pick_ all_0_2_3
  · exact pick_ all_1_0_0
  · exact pick_ all_1_0_1
  · exact pick_ all_1_0_2
  · exact pick_ all_1_0_3
  · exact pick_ all_1_1_0
  · exact pick_ all_1_1_1
  · exact pick_ all_1_1_2
  · exact pick_ all_1_1_3
  · exact pick_ all_1_2_0
  · exact pick_ all_1_2_1
  · exact pick_ all_1_2_2
  · exact pick_ all_1_2_3
section Table
open Jvm.FP
variable (z1 z2 z3 z4 : Nat)
def sm (m : Nat) : Nat := (if m.testBit 0 then z1 else 0) + (if m.testBit 1 then z2 else 0) + (if m.testBit 2 then z3 else 0) + (if m.testBit 3 then z4 else 0)
def rl (m : Nat) : Int64 := Int64.ofNat (sm z1 z2 z3 z4 m)
def rd (m : Nat) : UInt64 := FP.l2d (rl z1 z2 z3 z4 m)
def ri (i0 i1 i2 i3 i4 : Int32) (n : Nat) : Int32 := match n with
  | 0 => i0 | 1 => i1 | 2 => i2 | 3 => i3 | 4 => i4
  | 5 => XT.ushr i0 (Int32.ofNat 1) | 6 => XT.ushr i0 (Int32.ofNat 1) &&& Int32.ofNat 3 | 7 => XT.ushr i0 (Int32.ofNat 3) | 8 => XT.ushr i0 (Int32.ofNat 5) | 9 => XT.ushr i0 (Int32.ofNat 5) &&& Int32.ofNat 7
  | 10 => XT.ushr i0 (Int32.ofNat 8) | 11 => XT.ushr i0 (Int32.ofNat 8) &&& Int32.ofNat 7 | 12 => XT.ushr i0 (Int32.ofNat 11) | 13 => XT.ushr i0 (Int32.ofNat 11) &&& Int32.ofNat 7
  | 21 => i1 &&& Int32.ofNat 1048575 | 22 => i2 &&& Int32.ofNat 1048575 | 23 => i3 &&& Int32.ofNat 1048575 | 24 => i4 &&& Int32.ofNat 1048575
  | n => if n % 2 = 0 then cmpValue (FP.dcmp (rd z1 z2 z3 z4 ((n - 100) / 2)) 9218868437227405311) .g else cmpValue (FP.dcmp (rd z1 z2 z3 z4 ((n - 100) / 2)) 0) .g
def rho (i0 i1 i2 i3 i4 : Int32) : Fx.Rho := (ri z1 z2 z3 z4 i0 i1 i2 i3 i4, rl z1 z2 z3 z4, rd z1 z2 z3 z4)
theorem ri_big {i0 i1 i2 i3 i4 : Int32} {n : Nat} (h : 100 ≤ n) : ri z1 z2 z3 z4 i0 i1 i2 i3 i4 n = if n % 2 = 0 then cmpValue (FP.dcmp (rd z1 z2 z3 z4 ((n - 100) / 2)) 9218868437227405311) .g else cmpValue (FP.dcmp (rd z1 z2 z3 z4 ((n - 100) / 2)) 0) .g := by
  unfold ri
  split <;> first | omega | rfl
variable {z1 z2 z3 z4}
theorem sm_lt (b1 : z1 < 1048576) (b2 : z2 < 1048576) (b3 : z3 < 1048576) (b4 : z4 < 1048576) (m : Nat) : sm z1 z2 z3 z4 m < 4194304 := by unfold sm; split <;> split <;> split <;> split <;> omega
theorem rl_int (b1 : z1 < 1048576) (b2 : z2 < 1048576) (b3 : z3 < 1048576) (b4 : z4 < 1048576) (m : Nat) : (rl z1 z2 z3 z4 m).toInt = sm z1 z2 z3 z4 m := by
  have h := sm_lt b1 b2 b3 b4 m
  unfold rl
  rw [Int64.toInt_ofNat', show Int64.size = 18446744073709551616 from rfl]
  refine Int.bmod_eq_of_le ?_ ?_ <;> omega
theorem rl_53 (b1 : z1 < 1048576) (b2 : z2 < 1048576) (b3 : z3 < 1048576) (b4 : z4 < 1048576) (m : Nat) : B53 (rl z1 z2 z3 z4 m) := by
  have h := sm_lt b1 b2 b3 b4 m
  unfold B53
  rw [rl_int b1 b2 b3 b4]; omega
theorem rd_di (b1 : z1 < 1048576) (b2 : z2 < 1048576) (b3 : z3 < 1048576) (b4 : z4 < 1048576) (m : Nat) : DI (sm z1 z2 z3 z4 m) (rd z1 z2 z3 z4 m) := by
  have h := DI.l2d (x := rl z1 z2 z3 z4 m) (by rw [rl_int b1 b2 b3 b4]; have := sm_lt b1 b2 b3 b4 m; omega)
  rw [rl_int b1 b2 b3 b4] at h
  exact h
theorem rl_nn (b1 : z1 < 1048576) (b2 : z2 < 1048576) (b3 : z3 < 1048576) (b4 : z4 < 1048576) (m : Nat) : ¬ rl z1 z2 z3 z4 m < 0 := by
  rw [Int64.lt_iff_toInt_lt, rl_int b1 b2 b3 b4]
  show ¬ (_ : Int) < 0
  omega
theorem sm_or (m k : Nat) (h : Nat.land m k = 0) : sm z1 z2 z3 z4 (Nat.lor m k) = sm z1 z2 z3 z4 m + sm z1 z2 z3 z4 k := by
  have e : ∀ i, (Nat.lor m k).testBit i = (m.testBit i || k.testBit i) := fun i => Nat.testBit_or m k i
  have d : ∀ i, (m.testBit i && k.testBit i) = false := fun i => by
    have := Nat.testBit_and m k i
    rw [show m &&& k = 0 from h, Nat.zero_testBit] at this
    exact this.symm
  unfold sm
  rw [e 0, e 1, e 2, e 3]
  have d0 := d 0
  have d1 := d 1
  have d2 := d 2
  have d3 := d 3
  revert d0 d1 d2 d3
  generalize m.testBit 0 = m0
  generalize m.testBit 1 = m1
  generalize m.testBit 2 = m2
  generalize m.testBit 3 = m3
  generalize k.testBit 0 = k0
  generalize k.testBit 1 = k1
  generalize k.testBit 2 = k2
  generalize k.testBit 3 = k3
  intro d0 d1 d2 d3
  cases m0 <;> cases k0 <;> first | (cases d0; done) | skip
  all_goals cases m1 <;> cases k1 <;> first | (cases d1; done) | skip
  all_goals cases m2 <;> cases k2 <;> first | (cases d2; done) | skip
  all_goals cases m3 <;> cases k3 <;> first | (cases d3; done) | simp <;> omega
theorem rl_or (m k : Nat) (h : Nat.land m k = 0) : rl z1 z2 z3 z4 m + rl z1 z2 z3 z4 k = rl z1 z2 z3 z4 (Nat.lor m k) := by
  unfold rl
  rw [sm_or m k h, Int64.ofNat_add]
theorem rd_or (b1 : z1 < 1048576) (b2 : z2 < 1048576) (b3 : z3 < 1048576) (b4 : z4 < 1048576) (m k : Nat) (h : Nat.land m k = 0) : FP.dadd (rd z1 z2 z3 z4 m) (rd z1 z2 z3 z4 k) = rd z1 z2 z3 z4 (Nat.lor m k) := by
  unfold rd
  rw [dadd_w (rl_53 b1 b2 b3 b4 m) (rl_53 b1 b2 b3 b4 k), rl_or m k h]
theorem rd_z (b1 : z1 < 1048576) (b2 : z2 < 1048576) (b3 : z3 < 1048576) (b4 : z4 < 1048576) (m : Nat) : FP.dadd 0 (rd z1 z2 z3 z4 m) = rd z1 z2 z3 z4 m := by
  unfold rd
  have h := dadd_w (a := 0) (b := rl z1 z2 z3 z4 m) (by unfold B53; decide) (rl_53 b1 b2 b3 b4 m)
  rw [l2d_zero, Int64.zero_add] at h
  exact h
theorem rd_abs (b1 : z1 < 1048576) (b2 : z2 < 1048576) (b3 : z3 < 1048576) (b4 : z4 < 1048576) (m : Nat) : rd z1 z2 z3 z4 m &&& 0x7fffffffffffffff = rd z1 z2 z3 z4 m := abs_w (rl_nn b1 b2 b3 b4 m)
theorem rd_gt (b1 : z1 < 1048576) (b2 : z2 < 1048576) (b3 : z3 < 1048576) (b4 : z4 < 1048576) (m : Nat) : ifCond.holds .gt (cmpValue (FP.dcmp (rd z1 z2 z3 z4 m) 9218868437227405311) .g) = false := by
  have h := ask_fin (rd_di b1 b2 b3 b4 m).fin64
  rw [rd_abs b1 b2 b3 b4] at h
  exact h
theorem rd_ge (b1 : z1 < 1048576) (b2 : z2 < 1048576) (b3 : z3 < 1048576) (b4 : z4 < 1048576) (m : Nat) : ifCond.holds .ge (cmpValue (FP.dcmp (rd z1 z2 z3 z4 m) 0) .g) = true := tr (ask_ge (rd_di b1 b2 b3 b4 m) DI.zero _) (by omega)
theorem rem_ok {x y z : Int32} (hy : y ≠ 0) (h : x % y = z) : Fx.sem E_ 23 (.int x) (.int y) = some (.int z) := by
  show (if y ≠ 0 then some (Value.int (x % y)) else none) = _
  rw [if_pos hy, h]
theorem bn_ok {o : Nat} {x y v : Value} (h : Own.bin (Fx.opI o) x y = some v) (ho : o < 22 := by decide) : Fx.sem E_ o x y = some v := by rw [Fx.sem_bin ho]; exact h
theorem un_ok' {o : Nat} {x y v : Value} (h : Own.un (Fx.opI o) x = some v) (h1 : 30 ≤ o := by decide) (h2 : o < 42 := by decide) : Fx.sem E_ o x y = some v := by rw [Fx.sem_un h1 h2]; exact h
theorem int_eq {x z : Int32} (h : x = z) : some (Value.int x) = some (Value.int z) := by rw [h]
theorem lng_eq {x z : Int64} (h : x = z) : some (Value.long x) = some (Value.long z) := by rw [h]
theorem dbl_eq {x z : UInt64} (h : x = z) : some (Value.double x) = some (Value.double z) := by rw [h]
theorem add_ok' {x y z : UInt64} (h : FP.dadd x y = z) (hn : FP.dIsNaN z = false) : Fx.sem E_ 26 (.double x) (.double y) = some (.double z) := by
  show (if FP.dIsNaN (FP.dadd x y) = false then some (Value.double (FP.dadd x y)) else none) = _
  rw [h, if_pos hn]
theorem abs_row {a : UInt64} (h1 : FP.dIsNaN a = false) (h2 : a &&& 0x7fffffffffffffff = a) : Fx.sem E_ 100 (.double a) .null = some (.double a) := by
  show (match (some (!FP.dIsNaN a, Value.double (a &&& 0x7fffffffffffffff)) : Option (Bool × Value)) with
    | some (true, v) => some v
    | _ => none) = _
  rw [h1, h2]; rfl
theorem br_ok {o : Nat} {x : Int32} {b : Bool} (h : ifCond.holds (Fx.cdI (o - 42)) x = b) (h1 : 42 ≤ o := by decide) (h2 : o < 48 := by decide) : Fx.sem E_ o (.int x) .null = some (.int (if b then 1 else 0)) := by
  unfold Fx.sem
  rw [if_neg (by omega), if_neg (by omega), if_neg (by omega), if_neg (by omega), if_pos h2]
  simp only [h]
theorem lowlt {k x : Nat} (h : Nat.shiftRight (Nat.sub x 6493253913945762168832) 32 = 0) (hk : k ≤ 101 := by decide) (hx : x / 2 ^ 69 = 11 := by assumption) : k + 2 * (x % 2 ^ 69) < 2 ^ 69 := by
  have h : x - 6493253913945762168832 < 2 ^ 32 := Fx.shr_lt h
  omega
theorem parity {x p : Nat} (h : Nat.xor (Nat.land x 1) p = 0) : x % 2 = p := by
  have h := Fx.xor0 h
  rw [← h]
  exact (Nat.and_two_pow_sub_one_eq_mod x 1).symm
theorem tr_21_0 (b1 : z1 < 1048576) (b2 : z2 < 1048576) (b3 : z3 < 1048576) (b4 : z4 < 1048576) {i0 i1 i2 i3 i4 : Int32} {p2 p3 p4 r x y : Nat} (m2 : p2 < 8) (m3 : p3 < 8) (m4 : p4 < 8) (mr : r < 8) (mx : x < 8) (my : y < 8) (h2 : i0 &&& Int32.ofNat 1 = Int32.ofNat p2) (h3 : (XT.ushr i0 (Int32.ofNat 1) &&& Int32.ofNat 3) % Int32.ofNat 3 = Int32.ofNat p3) (h4 : XT.ushr i0 (Int32.ofNat 3) &&& Int32.ofNat 3 = Int32.ofNat p4) (hr : (XT.ushr i0 (Int32.ofNat 5) &&& Int32.ofNat 7) % Int32.ofNat 5 = Int32.ofNat r) (hx : (XT.ushr i0 (Int32.ofNat 8) &&& Int32.ofNat 7) % Int32.ofNat 5 = Int32.ofNat x) (hy : (XT.ushr i0 (Int32.ofNat 11) &&& Int32.ofNat 7) % Int32.ofNat 5 = Int32.ofNat y) (e1 : i1 &&& Int32.ofNat 1048575 = Int32.ofNat z1) (e2 : i2 &&& Int32.ofNat 1048575 = Int32.ofNat z2) (e3 : i3 &&& Int32.ofNat 1048575 = Int32.ofNat z3) (e4 : i4 &&& Int32.ofNat 1048575 = Int32.ofNat z4) {x_ y_ w : Nat} (z_ : (Nat.add (Nat.xor (Nat.shiftRight x_ 69) 11) (Nat.add (Nat.xor y_ 5912176972024283922431) (Nat.shiftRight (Nat.sub x_ 6493253913945762168832) 32))) = 0) (e_ : w = (Nat.add 590295810358705651812 (Nat.mul 2 (Nat.sub x_ 6493253913945762168832)))) : Fx.sem E_ 21 (Fx.av (rho z1 z2 z3 z4 i0 i1 i2 i3 i4) x_) (Fx.av (rho z1 z2 z3 z4 i0 i1 i2 i3 i4) y_) = some (Fx.av (rho z1 z2 z3 z4 i0 i1 i2 i3 i4) w) := by
  obtain ⟨zx, zy⟩ := Fx.add0 z_; obtain ⟨zy, zm⟩ := Fx.add0 zy; have tx := Fx.xor0 zx; rw [Fx.shr_eq] at tx; rw [e_, Fx.xor0 zy]; exact Fx.row_ (X := (.double (rd z1 z2 z3 z4 (x_ % 2 ^ 69)))) (Y := (.double (UInt64.ofNat 9218868437227405311))) (V := (.int (ri z1 z2 z3 z4 i0 i1 i2 i3 i4 (100 + 2 * (x_ % 2 ^ 69))))) (Fx.av_tag (Fx.xor0 zx) (by decide)) (Fx.av_of (t := 10) (n := 9218868437227405311) (by decide) (by decide)) (by rw [show Nat.add 590295810358705651812 (Nat.mul 2 (Nat.sub x_ 6493253913945762168832)) = 1 * 2 ^ 69 + (100 + 2 * (x_ % 2 ^ 69)) by show 590295810358705651812 + 2 * (x_ - 6493253913945762168832) = _; omega]; exact Fx.av_of (by decide) (lowlt zm)) (bn_ok (int_eq ((ri_big z1 z2 z3 z4 (n := 100 + 2 * (x_ % 2 ^ 69)) (by omega)).trans (by rw [if_pos (by omega), show (100 + 2 * (x_ % 2 ^ 69) - 100) / 2 = x_ % 2 ^ 69 by omega]; rfl)).symm))
theorem tr_21_1 (b1 : z1 < 1048576) (b2 : z2 < 1048576) (b3 : z3 < 1048576) (b4 : z4 < 1048576) {i0 i1 i2 i3 i4 : Int32} {p2 p3 p4 r x y : Nat} (m2 : p2 < 8) (m3 : p3 < 8) (m4 : p4 < 8) (mr : r < 8) (mx : x < 8) (my : y < 8) (h2 : i0 &&& Int32.ofNat 1 = Int32.ofNat p2) (h3 : (XT.ushr i0 (Int32.ofNat 1) &&& Int32.ofNat 3) % Int32.ofNat 3 = Int32.ofNat p3) (h4 : XT.ushr i0 (Int32.ofNat 3) &&& Int32.ofNat 3 = Int32.ofNat p4) (hr : (XT.ushr i0 (Int32.ofNat 5) &&& Int32.ofNat 7) % Int32.ofNat 5 = Int32.ofNat r) (hx : (XT.ushr i0 (Int32.ofNat 8) &&& Int32.ofNat 7) % Int32.ofNat 5 = Int32.ofNat x) (hy : (XT.ushr i0 (Int32.ofNat 11) &&& Int32.ofNat 7) % Int32.ofNat 5 = Int32.ofNat y) (e1 : i1 &&& Int32.ofNat 1048575 = Int32.ofNat z1) (e2 : i2 &&& Int32.ofNat 1048575 = Int32.ofNat z2) (e3 : i3 &&& Int32.ofNat 1048575 = Int32.ofNat z3) (e4 : i4 &&& Int32.ofNat 1048575 = Int32.ofNat z4) {x_ y_ w : Nat} (z_ : (Nat.add (Nat.xor (Nat.shiftRight x_ 69) 11) (Nat.add (Nat.xor y_ 5902958103587056517120) (Nat.shiftRight (Nat.sub x_ 6493253913945762168832) 32))) = 0) (e_ : w = (Nat.add 590295810358705651813 (Nat.mul 2 (Nat.sub x_ 6493253913945762168832)))) : Fx.sem E_ 21 (Fx.av (rho z1 z2 z3 z4 i0 i1 i2 i3 i4) x_) (Fx.av (rho z1 z2 z3 z4 i0 i1 i2 i3 i4) y_) = some (Fx.av (rho z1 z2 z3 z4 i0 i1 i2 i3 i4) w) := by
  obtain ⟨zx, zy⟩ := Fx.add0 z_; obtain ⟨zy, zm⟩ := Fx.add0 zy; have tx := Fx.xor0 zx; rw [Fx.shr_eq] at tx; rw [e_, Fx.xor0 zy]; exact Fx.row_ (X := (.double (rd z1 z2 z3 z4 (x_ % 2 ^ 69)))) (Y := (.double (UInt64.ofNat 0))) (V := (.int (ri z1 z2 z3 z4 i0 i1 i2 i3 i4 (101 + 2 * (x_ % 2 ^ 69))))) (Fx.av_tag (Fx.xor0 zx) (by decide)) (Fx.av_of (t := 10) (n := 0) (by decide) (by decide)) (by rw [show Nat.add 590295810358705651813 (Nat.mul 2 (Nat.sub x_ 6493253913945762168832)) = 1 * 2 ^ 69 + (101 + 2 * (x_ % 2 ^ 69)) by show 590295810358705651813 + 2 * (x_ - 6493253913945762168832) = _; omega]; exact Fx.av_of (by decide) (lowlt zm)) (bn_ok (int_eq ((ri_big z1 z2 z3 z4 (n := 101 + 2 * (x_ % 2 ^ 69)) (by omega)).trans (by rw [if_neg (by omega), show (101 + 2 * (x_ % 2 ^ 69) - 100) / 2 = x_ % 2 ^ 69 by omega]; rfl)).symm))
theorem tr_21_2 (b1 : z1 < 1048576) (b2 : z2 < 1048576) (b3 : z3 < 1048576) (b4 : z4 < 1048576) {i0 i1 i2 i3 i4 : Int32} {p2 p3 p4 r x y : Nat} (m2 : p2 < 8) (m3 : p3 < 8) (m4 : p4 < 8) (mr : r < 8) (mx : x < 8) (my : y < 8) (h2 : i0 &&& Int32.ofNat 1 = Int32.ofNat p2) (h3 : (XT.ushr i0 (Int32.ofNat 1) &&& Int32.ofNat 3) % Int32.ofNat 3 = Int32.ofNat p3) (h4 : XT.ushr i0 (Int32.ofNat 3) &&& Int32.ofNat 3 = Int32.ofNat p4) (hr : (XT.ushr i0 (Int32.ofNat 5) &&& Int32.ofNat 7) % Int32.ofNat 5 = Int32.ofNat r) (hx : (XT.ushr i0 (Int32.ofNat 8) &&& Int32.ofNat 7) % Int32.ofNat 5 = Int32.ofNat x) (hy : (XT.ushr i0 (Int32.ofNat 11) &&& Int32.ofNat 7) % Int32.ofNat 5 = Int32.ofNat y) (e1 : i1 &&& Int32.ofNat 1048575 = Int32.ofNat z1) (e2 : i2 &&& Int32.ofNat 1048575 = Int32.ofNat z2) (e3 : i3 &&& Int32.ofNat 1048575 = Int32.ofNat z3) (e4 : i4 &&& Int32.ofNat 1048575 = Int32.ofNat z4) {x_ y_ w : Nat} (z_ : (Nat.add (Nat.xor x_ 5902958103587056517120) (Nat.xor y_ 5912176972024283922431)) = 0) (e_ : w = 4294967295) : Fx.sem E_ 21 (Fx.av (rho z1 z2 z3 z4 i0 i1 i2 i3 i4) x_) (Fx.av (rho z1 z2 z3 z4 i0 i1 i2 i3 i4) y_) = some (Fx.av (rho z1 z2 z3 z4 i0 i1 i2 i3 i4) w) := by
  obtain ⟨zx, zy⟩ := Fx.add0 z_; rw [e_, Fx.xor0 zx, Fx.xor0 zy]; exact Fx.row_ (X := (.double (UInt64.ofNat 0))) (Y := (.double (UInt64.ofNat 9218868437227405311))) (V := (.int (Int32.ofNat 4294967295))) (Fx.av_of (t := 10) (n := 0) (by decide) (by decide)) (Fx.av_of (t := 10) (n := 9218868437227405311) (by decide) (by decide)) (Fx.av_int (by decide)) (bn_ok (int_eq (by decide +kernel)))
theorem tr_21_3 (b1 : z1 < 1048576) (b2 : z2 < 1048576) (b3 : z3 < 1048576) (b4 : z4 < 1048576) {i0 i1 i2 i3 i4 : Int32} {p2 p3 p4 r x y : Nat} (m2 : p2 < 8) (m3 : p3 < 8) (m4 : p4 < 8) (mr : r < 8) (mx : x < 8) (my : y < 8) (h2 : i0 &&& Int32.ofNat 1 = Int32.ofNat p2) (h3 : (XT.ushr i0 (Int32.ofNat 1) &&& Int32.ofNat 3) % Int32.ofNat 3 = Int32.ofNat p3) (h4 : XT.ushr i0 (Int32.ofNat 3) &&& Int32.ofNat 3 = Int32.ofNat p4) (hr : (XT.ushr i0 (Int32.ofNat 5) &&& Int32.ofNat 7) % Int32.ofNat 5 = Int32.ofNat r) (hx : (XT.ushr i0 (Int32.ofNat 8) &&& Int32.ofNat 7) % Int32.ofNat 5 = Int32.ofNat x) (hy : (XT.ushr i0 (Int32.ofNat 11) &&& Int32.ofNat 7) % Int32.ofNat 5 = Int32.ofNat y) (e1 : i1 &&& Int32.ofNat 1048575 = Int32.ofNat z1) (e2 : i2 &&& Int32.ofNat 1048575 = Int32.ofNat z2) (e3 : i3 &&& Int32.ofNat 1048575 = Int32.ofNat z3) (e4 : i4 &&& Int32.ofNat 1048575 = Int32.ofNat z4) {x_ y_ w : Nat} (z_ : (Nat.add (Nat.xor x_ 5902958103587056517120) (Nat.xor y_ 5902958103587056517120)) = 0) (e_ : w = 0) : Fx.sem E_ 21 (Fx.av (rho z1 z2 z3 z4 i0 i1 i2 i3 i4) x_) (Fx.av (rho z1 z2 z3 z4 i0 i1 i2 i3 i4) y_) = some (Fx.av (rho z1 z2 z3 z4 i0 i1 i2 i3 i4) w) := by
  obtain ⟨zx, zy⟩ := Fx.add0 z_; rw [e_, Fx.xor0 zx, Fx.xor0 zy]; exact Fx.row_ (X := (.double (UInt64.ofNat 0))) (Y := (.double (UInt64.ofNat 0))) (V := (.int (Int32.ofNat 0))) (Fx.av_of (t := 10) (n := 0) (by decide) (by decide)) (Fx.av_of (t := 10) (n := 0) (by decide) (by decide)) (Fx.av_int (by decide)) (bn_ok (int_eq (by decide +kernel)))
theorem tr_46_0 (b1 : z1 < 1048576) (b2 : z2 < 1048576) (b3 : z3 < 1048576) (b4 : z4 < 1048576) {i0 i1 i2 i3 i4 : Int32} {p2 p3 p4 r x y : Nat} (m2 : p2 < 8) (m3 : p3 < 8) (m4 : p4 < 8) (mr : r < 8) (mx : x < 8) (my : y < 8) (h2 : i0 &&& Int32.ofNat 1 = Int32.ofNat p2) (h3 : (XT.ushr i0 (Int32.ofNat 1) &&& Int32.ofNat 3) % Int32.ofNat 3 = Int32.ofNat p3) (h4 : XT.ushr i0 (Int32.ofNat 3) &&& Int32.ofNat 3 = Int32.ofNat p4) (hr : (XT.ushr i0 (Int32.ofNat 5) &&& Int32.ofNat 7) % Int32.ofNat 5 = Int32.ofNat r) (hx : (XT.ushr i0 (Int32.ofNat 8) &&& Int32.ofNat 7) % Int32.ofNat 5 = Int32.ofNat x) (hy : (XT.ushr i0 (Int32.ofNat 11) &&& Int32.ofNat 7) % Int32.ofNat 5 = Int32.ofNat y) (e1 : i1 &&& Int32.ofNat 1048575 = Int32.ofNat z1) (e2 : i2 &&& Int32.ofNat 1048575 = Int32.ofNat z2) (e3 : i3 &&& Int32.ofNat 1048575 = Int32.ofNat z3) (e4 : i4 &&& Int32.ofNat 1048575 = Int32.ofNat z4) {x_ y_ w : Nat} (z_ : (Nat.add (Nat.xor (Nat.shiftRight x_ 69) 1) (Nat.add (Nat.xor y_ 1180591620717411303424) (Nat.add (Nat.sub 100 (Nat.sub x_ 590295810358705651712)) (Nat.xor (Nat.land x_ 1) 0)))) = 0) (e_ : w = 0) : Fx.sem E_ 46 (Fx.av (rho z1 z2 z3 z4 i0 i1 i2 i3 i4) x_) (Fx.av (rho z1 z2 z3 z4 i0 i1 i2 i3 i4) y_) = some (Fx.av (rho z1 z2 z3 z4 i0 i1 i2 i3 i4) w) := by
  obtain ⟨zx, zy⟩ := Fx.add0 z_; obtain ⟨zy, zm⟩ := Fx.add0 zy; have tx := Fx.xor0 zx; rw [Fx.shr_eq] at tx; obtain ⟨zl, zp⟩ := Fx.add0 zm; have zl : 100 ≤ x_ - 590295810358705651712 := Fx.sub0 zl; have zp := parity zp; rw [e_, Fx.xor0 zy]; exact Fx.row_ (X := (.int ((rho z1 z2 z3 z4 i0 i1 i2 i3 i4).1 (x_ % 2 ^ 69)))) (Y := .null) (V := (.int (Int32.ofNat 0))) (Fx.av_tag (Fx.xor0 zx) (by decide)) (Fx.av_of (t := 2) (n := 0) (by decide) (by decide)) (Fx.av_int (by decide)) (br_ok (b := false) (by show ifCond.holds .gt (ri z1 z2 z3 z4 i0 i1 i2 i3 i4 (x_ % 2 ^ 69)) = false; rw [ri_big z1 z2 z3 z4 (by omega), if_pos (by omega)]; exact rd_gt b1 b2 b3 b4 _))
theorem tr_45_0 (b1 : z1 < 1048576) (b2 : z2 < 1048576) (b3 : z3 < 1048576) (b4 : z4 < 1048576) {i0 i1 i2 i3 i4 : Int32} {p2 p3 p4 r x y : Nat} (m2 : p2 < 8) (m3 : p3 < 8) (m4 : p4 < 8) (mr : r < 8) (mx : x < 8) (my : y < 8) (h2 : i0 &&& Int32.ofNat 1 = Int32.ofNat p2) (h3 : (XT.ushr i0 (Int32.ofNat 1) &&& Int32.ofNat 3) % Int32.ofNat 3 = Int32.ofNat p3) (h4 : XT.ushr i0 (Int32.ofNat 3) &&& Int32.ofNat 3 = Int32.ofNat p4) (hr : (XT.ushr i0 (Int32.ofNat 5) &&& Int32.ofNat 7) % Int32.ofNat 5 = Int32.ofNat r) (hx : (XT.ushr i0 (Int32.ofNat 8) &&& Int32.ofNat 7) % Int32.ofNat 5 = Int32.ofNat x) (hy : (XT.ushr i0 (Int32.ofNat 11) &&& Int32.ofNat 7) % Int32.ofNat 5 = Int32.ofNat y) (e1 : i1 &&& Int32.ofNat 1048575 = Int32.ofNat z1) (e2 : i2 &&& Int32.ofNat 1048575 = Int32.ofNat z2) (e3 : i3 &&& Int32.ofNat 1048575 = Int32.ofNat z3) (e4 : i4 &&& Int32.ofNat 1048575 = Int32.ofNat z4) {x_ y_ w : Nat} (z_ : (Nat.add (Nat.xor (Nat.shiftRight x_ 69) 1) (Nat.add (Nat.xor y_ 1180591620717411303424) (Nat.add (Nat.sub 100 (Nat.sub x_ 590295810358705651712)) (Nat.xor (Nat.land x_ 1) 1)))) = 0) (e_ : w = 1) : Fx.sem E_ 45 (Fx.av (rho z1 z2 z3 z4 i0 i1 i2 i3 i4) x_) (Fx.av (rho z1 z2 z3 z4 i0 i1 i2 i3 i4) y_) = some (Fx.av (rho z1 z2 z3 z4 i0 i1 i2 i3 i4) w) := by
  obtain ⟨zx, zy⟩ := Fx.add0 z_; obtain ⟨zy, zm⟩ := Fx.add0 zy; have tx := Fx.xor0 zx; rw [Fx.shr_eq] at tx; obtain ⟨zl, zp⟩ := Fx.add0 zm; have zl : 100 ≤ x_ - 590295810358705651712 := Fx.sub0 zl; have zp := parity zp; rw [e_, Fx.xor0 zy]; exact Fx.row_ (X := (.int ((rho z1 z2 z3 z4 i0 i1 i2 i3 i4).1 (x_ % 2 ^ 69)))) (Y := .null) (V := (.int (Int32.ofNat 1))) (Fx.av_tag (Fx.xor0 zx) (by decide)) (Fx.av_of (t := 2) (n := 0) (by decide) (by decide)) (Fx.av_int (by decide)) (br_ok (b := true) (by show ifCond.holds .ge (ri z1 z2 z3 z4 i0 i1 i2 i3 i4 (x_ % 2 ^ 69)) = true; rw [ri_big z1 z2 z3 z4 (by omega), if_neg (by omega)]; exact rd_ge b1 b2 b3 b4 _))
theorem tr_100_0 (b1 : z1 < 1048576) (b2 : z2 < 1048576) (b3 : z3 < 1048576) (b4 : z4 < 1048576) {i0 i1 i2 i3 i4 : Int32} {p2 p3 p4 r x y : Nat} (m2 : p2 < 8) (m3 : p3 < 8) (m4 : p4 < 8) (mr : r < 8) (mx : x < 8) (my : y < 8) (h2 : i0 &&& Int32.ofNat 1 = Int32.ofNat p2) (h3 : (XT.ushr i0 (Int32.ofNat 1) &&& Int32.ofNat 3) % Int32.ofNat 3 = Int32.ofNat p3) (h4 : XT.ushr i0 (Int32.ofNat 3) &&& Int32.ofNat 3 = Int32.ofNat p4) (hr : (XT.ushr i0 (Int32.ofNat 5) &&& Int32.ofNat 7) % Int32.ofNat 5 = Int32.ofNat r) (hx : (XT.ushr i0 (Int32.ofNat 8) &&& Int32.ofNat 7) % Int32.ofNat 5 = Int32.ofNat x) (hy : (XT.ushr i0 (Int32.ofNat 11) &&& Int32.ofNat 7) % Int32.ofNat 5 = Int32.ofNat y) (e1 : i1 &&& Int32.ofNat 1048575 = Int32.ofNat z1) (e2 : i2 &&& Int32.ofNat 1048575 = Int32.ofNat z2) (e3 : i3 &&& Int32.ofNat 1048575 = Int32.ofNat z3) (e4 : i4 &&& Int32.ofNat 1048575 = Int32.ofNat z4) {x_ y_ w : Nat} (z_ : (Nat.add (Nat.xor (Nat.shiftRight x_ 69) 11) (Nat.xor y_ 1180591620717411303424)) = 0) (e_ : w = x_) : Fx.sem E_ 100 (Fx.av (rho z1 z2 z3 z4 i0 i1 i2 i3 i4) x_) (Fx.av (rho z1 z2 z3 z4 i0 i1 i2 i3 i4) y_) = some (Fx.av (rho z1 z2 z3 z4 i0 i1 i2 i3 i4) w) := by
  obtain ⟨zx, zy⟩ := Fx.add0 z_; rw [e_, Fx.xor0 zy]; exact Fx.row_ (X := (.double (rd z1 z2 z3 z4 (x_ % 2 ^ 69)))) (Y := .null) (V := (.double (rd z1 z2 z3 z4 (x_ % 2 ^ 69)))) (Fx.av_tag (Fx.xor0 zx) (by decide)) (Fx.av_of (t := 2) (n := 0) (by decide) (by decide)) (Fx.av_tag (Fx.xor0 zx) (by decide)) (abs_row (rd_di b1 b2 b3 b4 _).noNaN (rd_abs b1 b2 b3 b4 _))
theorem tr_100_1 (b1 : z1 < 1048576) (b2 : z2 < 1048576) (b3 : z3 < 1048576) (b4 : z4 < 1048576) {i0 i1 i2 i3 i4 : Int32} {p2 p3 p4 r x y : Nat} (m2 : p2 < 8) (m3 : p3 < 8) (m4 : p4 < 8) (mr : r < 8) (mx : x < 8) (my : y < 8) (h2 : i0 &&& Int32.ofNat 1 = Int32.ofNat p2) (h3 : (XT.ushr i0 (Int32.ofNat 1) &&& Int32.ofNat 3) % Int32.ofNat 3 = Int32.ofNat p3) (h4 : XT.ushr i0 (Int32.ofNat 3) &&& Int32.ofNat 3 = Int32.ofNat p4) (hr : (XT.ushr i0 (Int32.ofNat 5) &&& Int32.ofNat 7) % Int32.ofNat 5 = Int32.ofNat r) (hx : (XT.ushr i0 (Int32.ofNat 8) &&& Int32.ofNat 7) % Int32.ofNat 5 = Int32.ofNat x) (hy : (XT.ushr i0 (Int32.ofNat 11) &&& Int32.ofNat 7) % Int32.ofNat 5 = Int32.ofNat y) (e1 : i1 &&& Int32.ofNat 1048575 = Int32.ofNat z1) (e2 : i2 &&& Int32.ofNat 1048575 = Int32.ofNat z2) (e3 : i3 &&& Int32.ofNat 1048575 = Int32.ofNat z3) (e4 : i4 &&& Int32.ofNat 1048575 = Int32.ofNat z4) {x_ y_ w : Nat} (z_ : (Nat.add (Nat.xor x_ 5902958103587056517120) (Nat.xor y_ 1180591620717411303424)) = 0) (e_ : w = 5902958103587056517120) : Fx.sem E_ 100 (Fx.av (rho z1 z2 z3 z4 i0 i1 i2 i3 i4) x_) (Fx.av (rho z1 z2 z3 z4 i0 i1 i2 i3 i4) y_) = some (Fx.av (rho z1 z2 z3 z4 i0 i1 i2 i3 i4) w) := by
  obtain ⟨zx, zy⟩ := Fx.add0 z_; rw [e_, Fx.xor0 zx, Fx.xor0 zy]; exact Fx.row_ (X := (.double (UInt64.ofNat 0))) (Y := .null) (V := (.double (UInt64.ofNat 0))) (Fx.av_of (t := 10) (n := 0) (by decide) (by decide)) (Fx.av_of (t := 2) (n := 0) (by decide) (by decide)) (Fx.av_of (t := 10) (n := 0) (by decide) (by decide)) (abs_row (by decide +kernel) (by decide +kernel))
theorem tr_20_0 (b1 : z1 < 1048576) (b2 : z2 < 1048576) (b3 : z3 < 1048576) (b4 : z4 < 1048576) {i0 i1 i2 i3 i4 : Int32} {p2 p3 p4 r x y : Nat} (m2 : p2 < 8) (m3 : p3 < 8) (m4 : p4 < 8) (mr : r < 8) (mx : x < 8) (my : y < 8) (h2 : i0 &&& Int32.ofNat 1 = Int32.ofNat p2) (h3 : (XT.ushr i0 (Int32.ofNat 1) &&& Int32.ofNat 3) % Int32.ofNat 3 = Int32.ofNat p3) (h4 : XT.ushr i0 (Int32.ofNat 3) &&& Int32.ofNat 3 = Int32.ofNat p4) (hr : (XT.ushr i0 (Int32.ofNat 5) &&& Int32.ofNat 7) % Int32.ofNat 5 = Int32.ofNat r) (hx : (XT.ushr i0 (Int32.ofNat 8) &&& Int32.ofNat 7) % Int32.ofNat 5 = Int32.ofNat x) (hy : (XT.ushr i0 (Int32.ofNat 11) &&& Int32.ofNat 7) % Int32.ofNat 5 = Int32.ofNat y) (e1 : i1 &&& Int32.ofNat 1048575 = Int32.ofNat z1) (e2 : i2 &&& Int32.ofNat 1048575 = Int32.ofNat z2) (e3 : i3 &&& Int32.ofNat 1048575 = Int32.ofNat z3) (e4 : i4 &&& Int32.ofNat 1048575 = Int32.ofNat z4) {x_ y_ w : Nat} (z_ : (Nat.add (Nat.xor x_ 5902958103587056517120) (Nat.xor y_ 5902958103587056517120)) = 0) (e_ : w = 0) : Fx.sem E_ 20 (Fx.av (rho z1 z2 z3 z4 i0 i1 i2 i3 i4) x_) (Fx.av (rho z1 z2 z3 z4 i0 i1 i2 i3 i4) y_) = some (Fx.av (rho z1 z2 z3 z4 i0 i1 i2 i3 i4) w) := by
  obtain ⟨zx, zy⟩ := Fx.add0 z_; rw [e_, Fx.xor0 zx, Fx.xor0 zy]; exact Fx.row_ (X := (.double (UInt64.ofNat 0))) (Y := (.double (UInt64.ofNat 0))) (V := (.int (Int32.ofNat 0))) (Fx.av_of (t := 10) (n := 0) (by decide) (by decide)) (Fx.av_of (t := 10) (n := 0) (by decide) (by decide)) (Fx.av_int (by decide)) (bn_ok (int_eq (by decide +kernel)))
theorem tr_20_1 (b1 : z1 < 1048576) (b2 : z2 < 1048576) (b3 : z3 < 1048576) (b4 : z4 < 1048576) {i0 i1 i2 i3 i4 : Int32} {p2 p3 p4 r x y : Nat} (m2 : p2 < 8) (m3 : p3 < 8) (m4 : p4 < 8) (mr : r < 8) (mx : x < 8) (my : y < 8) (h2 : i0 &&& Int32.ofNat 1 = Int32.ofNat p2) (h3 : (XT.ushr i0 (Int32.ofNat 1) &&& Int32.ofNat 3) % Int32.ofNat 3 = Int32.ofNat p3) (h4 : XT.ushr i0 (Int32.ofNat 3) &&& Int32.ofNat 3 = Int32.ofNat p4) (hr : (XT.ushr i0 (Int32.ofNat 5) &&& Int32.ofNat 7) % Int32.ofNat 5 = Int32.ofNat r) (hx : (XT.ushr i0 (Int32.ofNat 8) &&& Int32.ofNat 7) % Int32.ofNat 5 = Int32.ofNat x) (hy : (XT.ushr i0 (Int32.ofNat 11) &&& Int32.ofNat 7) % Int32.ofNat 5 = Int32.ofNat y) (e1 : i1 &&& Int32.ofNat 1048575 = Int32.ofNat z1) (e2 : i2 &&& Int32.ofNat 1048575 = Int32.ofNat z2) (e3 : i3 &&& Int32.ofNat 1048575 = Int32.ofNat z3) (e4 : i4 &&& Int32.ofNat 1048575 = Int32.ofNat z4) {x_ y_ w : Nat} (z_ : (Nat.add (Nat.xor (Nat.shiftRight x_ 69) 11) (Nat.xor x_ y_)) = 0) (e_ : w = 0) : Fx.sem E_ 20 (Fx.av (rho z1 z2 z3 z4 i0 i1 i2 i3 i4) x_) (Fx.av (rho z1 z2 z3 z4 i0 i1 i2 i3 i4) y_) = some (Fx.av (rho z1 z2 z3 z4 i0 i1 i2 i3 i4) w) := by
  obtain ⟨zx, zy⟩ := Fx.add0 z_; rw [e_, ← Fx.xor0 zy]; exact Fx.row_ (X := (.double (rd z1 z2 z3 z4 (x_ % 2 ^ 69)))) (Y := (.double (rd z1 z2 z3 z4 (x_ % 2 ^ 69)))) (V := (.int (Int32.ofNat 0))) (Fx.av_tag (Fx.xor0 zx) (by decide)) (Fx.av_tag (Fx.xor0 zx) (by decide)) (Fx.av_int (by decide)) (bn_ok (int_eq (dcmpV_self (Jvm.Free.Fl.noNaN64_no.mpr (rd_di b1 b2 b3 b4 _).noNaN) _)))
theorem tr_26_0 (b1 : z1 < 1048576) (b2 : z2 < 1048576) (b3 : z3 < 1048576) (b4 : z4 < 1048576) {i0 i1 i2 i3 i4 : Int32} {p2 p3 p4 r x y : Nat} (m2 : p2 < 8) (m3 : p3 < 8) (m4 : p4 < 8) (mr : r < 8) (mx : x < 8) (my : y < 8) (h2 : i0 &&& Int32.ofNat 1 = Int32.ofNat p2) (h3 : (XT.ushr i0 (Int32.ofNat 1) &&& Int32.ofNat 3) % Int32.ofNat 3 = Int32.ofNat p3) (h4 : XT.ushr i0 (Int32.ofNat 3) &&& Int32.ofNat 3 = Int32.ofNat p4) (hr : (XT.ushr i0 (Int32.ofNat 5) &&& Int32.ofNat 7) % Int32.ofNat 5 = Int32.ofNat r) (hx : (XT.ushr i0 (Int32.ofNat 8) &&& Int32.ofNat 7) % Int32.ofNat 5 = Int32.ofNat x) (hy : (XT.ushr i0 (Int32.ofNat 11) &&& Int32.ofNat 7) % Int32.ofNat 5 = Int32.ofNat y) (e1 : i1 &&& Int32.ofNat 1048575 = Int32.ofNat z1) (e2 : i2 &&& Int32.ofNat 1048575 = Int32.ofNat z2) (e3 : i3 &&& Int32.ofNat 1048575 = Int32.ofNat z3) (e4 : i4 &&& Int32.ofNat 1048575 = Int32.ofNat z4) {x_ y_ w : Nat} (z_ : (Nat.add (Nat.xor x_ 5902958103587056517120) (Nat.xor (Nat.shiftRight y_ 69) 11)) = 0) (e_ : w = y_) : Fx.sem E_ 26 (Fx.av (rho z1 z2 z3 z4 i0 i1 i2 i3 i4) x_) (Fx.av (rho z1 z2 z3 z4 i0 i1 i2 i3 i4) y_) = some (Fx.av (rho z1 z2 z3 z4 i0 i1 i2 i3 i4) w) := by
  obtain ⟨zx, zy⟩ := Fx.add0 z_; rw [e_, Fx.xor0 zx]; exact Fx.row_ (X := (.double (UInt64.ofNat 0))) (Y := (.double (rd z1 z2 z3 z4 (y_ % 2 ^ 69)))) (V := (.double (rd z1 z2 z3 z4 (y_ % 2 ^ 69)))) (Fx.av_of (t := 10) (n := 0) (by decide) (by decide)) (Fx.av_tag (Fx.xor0 zy) (by decide)) (Fx.av_tag (Fx.xor0 zy) (by decide)) (add_ok' (rd_z b1 b2 b3 b4 _) (rd_di b1 b2 b3 b4 _).noNaN)
theorem tr_26_1 (b1 : z1 < 1048576) (b2 : z2 < 1048576) (b3 : z3 < 1048576) (b4 : z4 < 1048576) {i0 i1 i2 i3 i4 : Int32} {p2 p3 p4 r x y : Nat} (m2 : p2 < 8) (m3 : p3 < 8) (m4 : p4 < 8) (mr : r < 8) (mx : x < 8) (my : y < 8) (h2 : i0 &&& Int32.ofNat 1 = Int32.ofNat p2) (h3 : (XT.ushr i0 (Int32.ofNat 1) &&& Int32.ofNat 3) % Int32.ofNat 3 = Int32.ofNat p3) (h4 : XT.ushr i0 (Int32.ofNat 3) &&& Int32.ofNat 3 = Int32.ofNat p4) (hr : (XT.ushr i0 (Int32.ofNat 5) &&& Int32.ofNat 7) % Int32.ofNat 5 = Int32.ofNat r) (hx : (XT.ushr i0 (Int32.ofNat 8) &&& Int32.ofNat 7) % Int32.ofNat 5 = Int32.ofNat x) (hy : (XT.ushr i0 (Int32.ofNat 11) &&& Int32.ofNat 7) % Int32.ofNat 5 = Int32.ofNat y) (e1 : i1 &&& Int32.ofNat 1048575 = Int32.ofNat z1) (e2 : i2 &&& Int32.ofNat 1048575 = Int32.ofNat z2) (e3 : i3 &&& Int32.ofNat 1048575 = Int32.ofNat z3) (e4 : i4 &&& Int32.ofNat 1048575 = Int32.ofNat z4) {x_ y_ w : Nat} (z_ : (Nat.add (Nat.xor (Nat.shiftRight x_ 69) 11) (Nat.add (Nat.xor (Nat.shiftRight y_ 69) 11) (Nat.land (Nat.land x_ y_) 590295810358705651711))) = 0) (e_ : w = (Nat.lor x_ y_)) : Fx.sem E_ 26 (Fx.av (rho z1 z2 z3 z4 i0 i1 i2 i3 i4) x_) (Fx.av (rho z1 z2 z3 z4 i0 i1 i2 i3 i4) y_) = some (Fx.av (rho z1 z2 z3 z4 i0 i1 i2 i3 i4) w) := by
  obtain ⟨zx, zy⟩ := Fx.add0 z_; obtain ⟨zy, zm⟩ := Fx.add0 zy; rw [e_]; exact Fx.row_ (X := (.double (rd z1 z2 z3 z4 (x_ % 2 ^ 69)))) (Y := (.double (rd z1 z2 z3 z4 (y_ % 2 ^ 69)))) (V := (.double (rd z1 z2 z3 z4 (Nat.lor (x_ % 2 ^ 69) (y_ % 2 ^ 69))))) (Fx.av_tag (Fx.xor0 zx) (by decide)) (Fx.av_tag (Fx.xor0 zy) (by decide)) ((Fx.av_tag (Fx.or_tag (Fx.xor0 zx) (Fx.xor0 zy)) (by decide)).trans (by rw [Fx.or_low]; rfl)) (add_ok' (rd_or b1 b2 b3 b4 _ _ (Fx.and_low zm)) (rd_di b1 b2 b3 b4 _).noNaN)
theorem tr_12_0 (b1 : z1 < 1048576) (b2 : z2 < 1048576) (b3 : z3 < 1048576) (b4 : z4 < 1048576) {i0 i1 i2 i3 i4 : Int32} {p2 p3 p4 r x y : Nat} (m2 : p2 < 8) (m3 : p3 < 8) (m4 : p4 < 8) (mr : r < 8) (mx : x < 8) (my : y < 8) (h2 : i0 &&& Int32.ofNat 1 = Int32.ofNat p2) (h3 : (XT.ushr i0 (Int32.ofNat 1) &&& Int32.ofNat 3) % Int32.ofNat 3 = Int32.ofNat p3) (h4 : XT.ushr i0 (Int32.ofNat 3) &&& Int32.ofNat 3 = Int32.ofNat p4) (hr : (XT.ushr i0 (Int32.ofNat 5) &&& Int32.ofNat 7) % Int32.ofNat 5 = Int32.ofNat r) (hx : (XT.ushr i0 (Int32.ofNat 8) &&& Int32.ofNat 7) % Int32.ofNat 5 = Int32.ofNat x) (hy : (XT.ushr i0 (Int32.ofNat 11) &&& Int32.ofNat 7) % Int32.ofNat 5 = Int32.ofNat y) (e1 : i1 &&& Int32.ofNat 1048575 = Int32.ofNat z1) (e2 : i2 &&& Int32.ofNat 1048575 = Int32.ofNat z2) (e3 : i3 &&& Int32.ofNat 1048575 = Int32.ofNat z3) (e4 : i4 &&& Int32.ofNat 1048575 = Int32.ofNat z4) {x_ y_ w : Nat} (z_ : (Nat.add (Nat.xor x_ 4722366482869645213696) (Nat.xor (Nat.shiftRight y_ 69) 9)) = 0) (e_ : w = 4722366482869645213696) : Fx.sem E_ 12 (Fx.av (rho z1 z2 z3 z4 i0 i1 i2 i3 i4) x_) (Fx.av (rho z1 z2 z3 z4 i0 i1 i2 i3 i4) y_) = some (Fx.av (rho z1 z2 z3 z4 i0 i1 i2 i3 i4) w) := by
  obtain ⟨zx, zy⟩ := Fx.add0 z_; rw [e_, Fx.xor0 zx]; exact Fx.row_ (X := (.long (Int64.ofNat 0))) (Y := (.long (rl z1 z2 z3 z4 (y_ % 2 ^ 69)))) (V := (.long (Int64.ofNat 0))) (Fx.av_of (t := 8) (n := 0) (by decide) (by decide)) (Fx.av_tag (Fx.xor0 zy) (by decide)) (Fx.av_of (t := 8) (n := 0) (by decide) (by decide)) (bn_ok (lng_eq (Int64.zero_mul)))
theorem tr_12_1 (b1 : z1 < 1048576) (b2 : z2 < 1048576) (b3 : z3 < 1048576) (b4 : z4 < 1048576) {i0 i1 i2 i3 i4 : Int32} {p2 p3 p4 r x y : Nat} (m2 : p2 < 8) (m3 : p3 < 8) (m4 : p4 < 8) (mr : r < 8) (mx : x < 8) (my : y < 8) (h2 : i0 &&& Int32.ofNat 1 = Int32.ofNat p2) (h3 : (XT.ushr i0 (Int32.ofNat 1) &&& Int32.ofNat 3) % Int32.ofNat 3 = Int32.ofNat p3) (h4 : XT.ushr i0 (Int32.ofNat 3) &&& Int32.ofNat 3 = Int32.ofNat p4) (hr : (XT.ushr i0 (Int32.ofNat 5) &&& Int32.ofNat 7) % Int32.ofNat 5 = Int32.ofNat r) (hx : (XT.ushr i0 (Int32.ofNat 8) &&& Int32.ofNat 7) % Int32.ofNat 5 = Int32.ofNat x) (hy : (XT.ushr i0 (Int32.ofNat 11) &&& Int32.ofNat 7) % Int32.ofNat 5 = Int32.ofNat y) (e1 : i1 &&& Int32.ofNat 1048575 = Int32.ofNat z1) (e2 : i2 &&& Int32.ofNat 1048575 = Int32.ofNat z2) (e3 : i3 &&& Int32.ofNat 1048575 = Int32.ofNat z3) (e4 : i4 &&& Int32.ofNat 1048575 = Int32.ofNat z4) {x_ y_ w : Nat} (z_ : (Nat.add (Nat.xor x_ 4722366482869645213697) (Nat.xor (Nat.shiftRight y_ 69) 9)) = 0) (e_ : w = y_) : Fx.sem E_ 12 (Fx.av (rho z1 z2 z3 z4 i0 i1 i2 i3 i4) x_) (Fx.av (rho z1 z2 z3 z4 i0 i1 i2 i3 i4) y_) = some (Fx.av (rho z1 z2 z3 z4 i0 i1 i2 i3 i4) w) := by
  obtain ⟨zx, zy⟩ := Fx.add0 z_; rw [e_, Fx.xor0 zx]; exact Fx.row_ (X := (.long (Int64.ofNat 1))) (Y := (.long (rl z1 z2 z3 z4 (y_ % 2 ^ 69)))) (V := (.long (rl z1 z2 z3 z4 (y_ % 2 ^ 69)))) (Fx.av_of (t := 8) (n := 1) (by decide) (by decide)) (Fx.av_tag (Fx.xor0 zy) (by decide)) (Fx.av_tag (Fx.xor0 zy) (by decide)) (bn_ok (lng_eq (Int64.one_mul _)))
theorem tr_10_0 (b1 : z1 < 1048576) (b2 : z2 < 1048576) (b3 : z3 < 1048576) (b4 : z4 < 1048576) {i0 i1 i2 i3 i4 : Int32} {p2 p3 p4 r x y : Nat} (m2 : p2 < 8) (m3 : p3 < 8) (m4 : p4 < 8) (mr : r < 8) (mx : x < 8) (my : y < 8) (h2 : i0 &&& Int32.ofNat 1 = Int32.ofNat p2) (h3 : (XT.ushr i0 (Int32.ofNat 1) &&& Int32.ofNat 3) % Int32.ofNat 3 = Int32.ofNat p3) (h4 : XT.ushr i0 (Int32.ofNat 3) &&& Int32.ofNat 3 = Int32.ofNat p4) (hr : (XT.ushr i0 (Int32.ofNat 5) &&& Int32.ofNat 7) % Int32.ofNat 5 = Int32.ofNat r) (hx : (XT.ushr i0 (Int32.ofNat 8) &&& Int32.ofNat 7) % Int32.ofNat 5 = Int32.ofNat x) (hy : (XT.ushr i0 (Int32.ofNat 11) &&& Int32.ofNat 7) % Int32.ofNat 5 = Int32.ofNat y) (e1 : i1 &&& Int32.ofNat 1048575 = Int32.ofNat z1) (e2 : i2 &&& Int32.ofNat 1048575 = Int32.ofNat z2) (e3 : i3 &&& Int32.ofNat 1048575 = Int32.ofNat z3) (e4 : i4 &&& Int32.ofNat 1048575 = Int32.ofNat z4) {x_ y_ w : Nat} (z_ : (Nat.add (Nat.xor x_ 4722366482869645213696) (Nat.xor (Nat.shiftRight y_ 69) 9)) = 0) (e_ : w = y_) : Fx.sem E_ 10 (Fx.av (rho z1 z2 z3 z4 i0 i1 i2 i3 i4) x_) (Fx.av (rho z1 z2 z3 z4 i0 i1 i2 i3 i4) y_) = some (Fx.av (rho z1 z2 z3 z4 i0 i1 i2 i3 i4) w) := by
  obtain ⟨zx, zy⟩ := Fx.add0 z_; rw [e_, Fx.xor0 zx]; exact Fx.row_ (X := (.long (Int64.ofNat 0))) (Y := (.long (rl z1 z2 z3 z4 (y_ % 2 ^ 69)))) (V := (.long (rl z1 z2 z3 z4 (y_ % 2 ^ 69)))) (Fx.av_of (t := 8) (n := 0) (by decide) (by decide)) (Fx.av_tag (Fx.xor0 zy) (by decide)) (Fx.av_tag (Fx.xor0 zy) (by decide)) (bn_ok (lng_eq (Int64.zero_add _)))
theorem tr_10_1 (b1 : z1 < 1048576) (b2 : z2 < 1048576) (b3 : z3 < 1048576) (b4 : z4 < 1048576) {i0 i1 i2 i3 i4 : Int32} {p2 p3 p4 r x y : Nat} (m2 : p2 < 8) (m3 : p3 < 8) (m4 : p4 < 8) (mr : r < 8) (mx : x < 8) (my : y < 8) (h2 : i0 &&& Int32.ofNat 1 = Int32.ofNat p2) (h3 : (XT.ushr i0 (Int32.ofNat 1) &&& Int32.ofNat 3) % Int32.ofNat 3 = Int32.ofNat p3) (h4 : XT.ushr i0 (Int32.ofNat 3) &&& Int32.ofNat 3 = Int32.ofNat p4) (hr : (XT.ushr i0 (Int32.ofNat 5) &&& Int32.ofNat 7) % Int32.ofNat 5 = Int32.ofNat r) (hx : (XT.ushr i0 (Int32.ofNat 8) &&& Int32.ofNat 7) % Int32.ofNat 5 = Int32.ofNat x) (hy : (XT.ushr i0 (Int32.ofNat 11) &&& Int32.ofNat 7) % Int32.ofNat 5 = Int32.ofNat y) (e1 : i1 &&& Int32.ofNat 1048575 = Int32.ofNat z1) (e2 : i2 &&& Int32.ofNat 1048575 = Int32.ofNat z2) (e3 : i3 &&& Int32.ofNat 1048575 = Int32.ofNat z3) (e4 : i4 &&& Int32.ofNat 1048575 = Int32.ofNat z4) {x_ y_ w : Nat} (z_ : (Nat.add (Nat.xor (Nat.shiftRight x_ 69) 9) (Nat.xor y_ 4722366482869645213696)) = 0) (e_ : w = x_) : Fx.sem E_ 10 (Fx.av (rho z1 z2 z3 z4 i0 i1 i2 i3 i4) x_) (Fx.av (rho z1 z2 z3 z4 i0 i1 i2 i3 i4) y_) = some (Fx.av (rho z1 z2 z3 z4 i0 i1 i2 i3 i4) w) := by
  obtain ⟨zx, zy⟩ := Fx.add0 z_; rw [e_, Fx.xor0 zy]; exact Fx.row_ (X := (.long (rl z1 z2 z3 z4 (x_ % 2 ^ 69)))) (Y := (.long (Int64.ofNat 0))) (V := (.long (rl z1 z2 z3 z4 (x_ % 2 ^ 69)))) (Fx.av_tag (Fx.xor0 zx) (by decide)) (Fx.av_of (t := 8) (n := 0) (by decide) (by decide)) (Fx.av_tag (Fx.xor0 zx) (by decide)) (bn_ok (lng_eq (Int64.add_zero _)))
theorem tr_10_2 (b1 : z1 < 1048576) (b2 : z2 < 1048576) (b3 : z3 < 1048576) (b4 : z4 < 1048576) {i0 i1 i2 i3 i4 : Int32} {p2 p3 p4 r x y : Nat} (m2 : p2 < 8) (m3 : p3 < 8) (m4 : p4 < 8) (mr : r < 8) (mx : x < 8) (my : y < 8) (h2 : i0 &&& Int32.ofNat 1 = Int32.ofNat p2) (h3 : (XT.ushr i0 (Int32.ofNat 1) &&& Int32.ofNat 3) % Int32.ofNat 3 = Int32.ofNat p3) (h4 : XT.ushr i0 (Int32.ofNat 3) &&& Int32.ofNat 3 = Int32.ofNat p4) (hr : (XT.ushr i0 (Int32.ofNat 5) &&& Int32.ofNat 7) % Int32.ofNat 5 = Int32.ofNat r) (hx : (XT.ushr i0 (Int32.ofNat 8) &&& Int32.ofNat 7) % Int32.ofNat 5 = Int32.ofNat x) (hy : (XT.ushr i0 (Int32.ofNat 11) &&& Int32.ofNat 7) % Int32.ofNat 5 = Int32.ofNat y) (e1 : i1 &&& Int32.ofNat 1048575 = Int32.ofNat z1) (e2 : i2 &&& Int32.ofNat 1048575 = Int32.ofNat z2) (e3 : i3 &&& Int32.ofNat 1048575 = Int32.ofNat z3) (e4 : i4 &&& Int32.ofNat 1048575 = Int32.ofNat z4) {x_ y_ w : Nat} (z_ : (Nat.add (Nat.xor (Nat.shiftRight x_ 69) 9) (Nat.add (Nat.xor (Nat.shiftRight y_ 69) 9) (Nat.land (Nat.land x_ y_) 590295810358705651711))) = 0) (e_ : w = (Nat.lor x_ y_)) : Fx.sem E_ 10 (Fx.av (rho z1 z2 z3 z4 i0 i1 i2 i3 i4) x_) (Fx.av (rho z1 z2 z3 z4 i0 i1 i2 i3 i4) y_) = some (Fx.av (rho z1 z2 z3 z4 i0 i1 i2 i3 i4) w) := by
  obtain ⟨zx, zy⟩ := Fx.add0 z_; obtain ⟨zy, zm⟩ := Fx.add0 zy; rw [e_]; exact Fx.row_ (X := (.long (rl z1 z2 z3 z4 (x_ % 2 ^ 69)))) (Y := (.long (rl z1 z2 z3 z4 (y_ % 2 ^ 69)))) (V := (.long (rl z1 z2 z3 z4 (Nat.lor (x_ % 2 ^ 69) (y_ % 2 ^ 69))))) (Fx.av_tag (Fx.xor0 zx) (by decide)) (Fx.av_tag (Fx.xor0 zy) (by decide)) ((Fx.av_tag (Fx.or_tag (Fx.xor0 zx) (Fx.xor0 zy)) (by decide)).trans (by rw [Fx.or_low]; rfl)) (bn_ok (lng_eq (rl_or _ _ (Fx.and_low zm))))
theorem tr_39_0 (b1 : z1 < 1048576) (b2 : z2 < 1048576) (b3 : z3 < 1048576) (b4 : z4 < 1048576) {i0 i1 i2 i3 i4 : Int32} {p2 p3 p4 r x y : Nat} (m2 : p2 < 8) (m3 : p3 < 8) (m4 : p4 < 8) (mr : r < 8) (mx : x < 8) (my : y < 8) (h2 : i0 &&& Int32.ofNat 1 = Int32.ofNat p2) (h3 : (XT.ushr i0 (Int32.ofNat 1) &&& Int32.ofNat 3) % Int32.ofNat 3 = Int32.ofNat p3) (h4 : XT.ushr i0 (Int32.ofNat 3) &&& Int32.ofNat 3 = Int32.ofNat p4) (hr : (XT.ushr i0 (Int32.ofNat 5) &&& Int32.ofNat 7) % Int32.ofNat 5 = Int32.ofNat r) (hx : (XT.ushr i0 (Int32.ofNat 8) &&& Int32.ofNat 7) % Int32.ofNat 5 = Int32.ofNat x) (hy : (XT.ushr i0 (Int32.ofNat 11) &&& Int32.ofNat 7) % Int32.ofNat 5 = Int32.ofNat y) (e1 : i1 &&& Int32.ofNat 1048575 = Int32.ofNat z1) (e2 : i2 &&& Int32.ofNat 1048575 = Int32.ofNat z2) (e3 : i3 &&& Int32.ofNat 1048575 = Int32.ofNat z3) (e4 : i4 &&& Int32.ofNat 1048575 = Int32.ofNat z4) {x_ y_ w : Nat} (z_ : (Nat.add (Nat.xor (Nat.shiftRight x_ 69) 9) (Nat.xor y_ 1180591620717411303424)) = 0) (e_ : w = (Nat.add x_ 1180591620717411303424)) : Fx.sem E_ 39 (Fx.av (rho z1 z2 z3 z4 i0 i1 i2 i3 i4) x_) (Fx.av (rho z1 z2 z3 z4 i0 i1 i2 i3 i4) y_) = some (Fx.av (rho z1 z2 z3 z4 i0 i1 i2 i3 i4) w) := by
  obtain ⟨zx, zy⟩ := Fx.add0 z_; have tx := Fx.xor0 zx; rw [Fx.shr_eq] at tx; rw [e_, Fx.xor0 zy]; exact Fx.row_ (X := (.long (rl z1 z2 z3 z4 (x_ % 2 ^ 69)))) (Y := .null) (V := (.double (rd z1 z2 z3 z4 (x_ % 2 ^ 69)))) (Fx.av_tag (Fx.xor0 zx) (by decide)) (Fx.av_of (t := 2) (n := 0) (by decide) (by decide)) (by show Fx.av _ (x_ + 1180591620717411303424) = _; rw [show x_ + 1180591620717411303424 = 11 * 2 ^ 69 + x_ % 2 ^ 69 by omega]; exact Fx.av_of (by decide) (Nat.mod_lt _ (by decide))) (un_ok' rfl)
theorem tr_39_1 (b1 : z1 < 1048576) (b2 : z2 < 1048576) (b3 : z3 < 1048576) (b4 : z4 < 1048576) {i0 i1 i2 i3 i4 : Int32} {p2 p3 p4 r x y : Nat} (m2 : p2 < 8) (m3 : p3 < 8) (m4 : p4 < 8) (mr : r < 8) (mx : x < 8) (my : y < 8) (h2 : i0 &&& Int32.ofNat 1 = Int32.ofNat p2) (h3 : (XT.ushr i0 (Int32.ofNat 1) &&& Int32.ofNat 3) % Int32.ofNat 3 = Int32.ofNat p3) (h4 : XT.ushr i0 (Int32.ofNat 3) &&& Int32.ofNat 3 = Int32.ofNat p4) (hr : (XT.ushr i0 (Int32.ofNat 5) &&& Int32.ofNat 7) % Int32.ofNat 5 = Int32.ofNat r) (hx : (XT.ushr i0 (Int32.ofNat 8) &&& Int32.ofNat 7) % Int32.ofNat 5 = Int32.ofNat x) (hy : (XT.ushr i0 (Int32.ofNat 11) &&& Int32.ofNat 7) % Int32.ofNat 5 = Int32.ofNat y) (e1 : i1 &&& Int32.ofNat 1048575 = Int32.ofNat z1) (e2 : i2 &&& Int32.ofNat 1048575 = Int32.ofNat z2) (e3 : i3 &&& Int32.ofNat 1048575 = Int32.ofNat z3) (e4 : i4 &&& Int32.ofNat 1048575 = Int32.ofNat z4) {x_ y_ w : Nat} (z_ : (Nat.add (Nat.xor x_ 4722366482869645213696) (Nat.xor y_ 1180591620717411303424)) = 0) (e_ : w = 5902958103587056517120) : Fx.sem E_ 39 (Fx.av (rho z1 z2 z3 z4 i0 i1 i2 i3 i4) x_) (Fx.av (rho z1 z2 z3 z4 i0 i1 i2 i3 i4) y_) = some (Fx.av (rho z1 z2 z3 z4 i0 i1 i2 i3 i4) w) := by
  obtain ⟨zx, zy⟩ := Fx.add0 z_; rw [e_, Fx.xor0 zx, Fx.xor0 zy]; exact Fx.row_ (X := (.long (Int64.ofNat 0))) (Y := .null) (V := (.double (UInt64.ofNat 0))) (Fx.av_of (t := 8) (n := 0) (by decide) (by decide)) (Fx.av_of (t := 2) (n := 0) (by decide) (by decide)) (Fx.av_of (t := 10) (n := 0) (by decide) (by decide)) (un_ok' (dbl_eq (by decide +kernel)))
theorem tr_33_0 (b1 : z1 < 1048576) (b2 : z2 < 1048576) (b3 : z3 < 1048576) (b4 : z4 < 1048576) {i0 i1 i2 i3 i4 : Int32} {p2 p3 p4 r x y : Nat} (m2 : p2 < 8) (m3 : p3 < 8) (m4 : p4 < 8) (mr : r < 8) (mx : x < 8) (my : y < 8) (h2 : i0 &&& Int32.ofNat 1 = Int32.ofNat p2) (h3 : (XT.ushr i0 (Int32.ofNat 1) &&& Int32.ofNat 3) % Int32.ofNat 3 = Int32.ofNat p3) (h4 : XT.ushr i0 (Int32.ofNat 3) &&& Int32.ofNat 3 = Int32.ofNat p4) (hr : (XT.ushr i0 (Int32.ofNat 5) &&& Int32.ofNat 7) % Int32.ofNat 5 = Int32.ofNat r) (hx : (XT.ushr i0 (Int32.ofNat 8) &&& Int32.ofNat 7) % Int32.ofNat 5 = Int32.ofNat x) (hy : (XT.ushr i0 (Int32.ofNat 11) &&& Int32.ofNat 7) % Int32.ofNat 5 = Int32.ofNat y) (e1 : i1 &&& Int32.ofNat 1048575 = Int32.ofNat z1) (e2 : i2 &&& Int32.ofNat 1048575 = Int32.ofNat z2) (e3 : i3 &&& Int32.ofNat 1048575 = Int32.ofNat z3) (e4 : i4 &&& Int32.ofNat 1048575 = Int32.ofNat z4) {x_ y_ w : Nat} (z_ : (Nat.add (Nat.xor x_ 590295810358705651733) (Nat.xor y_ 1180591620717411303424)) = 0) (e_ : w = 5312662293228350865409) : Fx.sem E_ 33 (Fx.av (rho z1 z2 z3 z4 i0 i1 i2 i3 i4) x_) (Fx.av (rho z1 z2 z3 z4 i0 i1 i2 i3 i4) y_) = some (Fx.av (rho z1 z2 z3 z4 i0 i1 i2 i3 i4) w) := by
  obtain ⟨zx, zy⟩ := Fx.add0 z_; rw [e_, Fx.xor0 zx, Fx.xor0 zy]; exact Fx.row_ (X := (.int ((rho z1 z2 z3 z4 i0 i1 i2 i3 i4).1 21))) (Y := .null) (V := (.long ((rho z1 z2 z3 z4 i0 i1 i2 i3 i4).2.1 1))) (Fx.av_of (t := 1) (n := 21) (by decide) (by decide)) (Fx.av_of (t := 2) (n := 0) (by decide) (by decide)) (Fx.av_of (t := 9) (n := 1) (by decide) (by decide)) (un_ok' (lng_eq (by show (i1 &&& Int32.ofNat 1048575).toInt64 = _; rw [e1, Fx.b_i2l _ (by omega)]; simp [rho, rl, sm, Nat.testBit])))
theorem tr_33_1 (b1 : z1 < 1048576) (b2 : z2 < 1048576) (b3 : z3 < 1048576) (b4 : z4 < 1048576) {i0 i1 i2 i3 i4 : Int32} {p2 p3 p4 r x y : Nat} (m2 : p2 < 8) (m3 : p3 < 8) (m4 : p4 < 8) (mr : r < 8) (mx : x < 8) (my : y < 8) (h2 : i0 &&& Int32.ofNat 1 = Int32.ofNat p2) (h3 : (XT.ushr i0 (Int32.ofNat 1) &&& Int32.ofNat 3) % Int32.ofNat 3 = Int32.ofNat p3) (h4 : XT.ushr i0 (Int32.ofNat 3) &&& Int32.ofNat 3 = Int32.ofNat p4) (hr : (XT.ushr i0 (Int32.ofNat 5) &&& Int32.ofNat 7) % Int32.ofNat 5 = Int32.ofNat r) (hx : (XT.ushr i0 (Int32.ofNat 8) &&& Int32.ofNat 7) % Int32.ofNat 5 = Int32.ofNat x) (hy : (XT.ushr i0 (Int32.ofNat 11) &&& Int32.ofNat 7) % Int32.ofNat 5 = Int32.ofNat y) (e1 : i1 &&& Int32.ofNat 1048575 = Int32.ofNat z1) (e2 : i2 &&& Int32.ofNat 1048575 = Int32.ofNat z2) (e3 : i3 &&& Int32.ofNat 1048575 = Int32.ofNat z3) (e4 : i4 &&& Int32.ofNat 1048575 = Int32.ofNat z4) {x_ y_ w : Nat} (z_ : (Nat.add (Nat.xor x_ 590295810358705651734) (Nat.xor y_ 1180591620717411303424)) = 0) (e_ : w = 5312662293228350865410) : Fx.sem E_ 33 (Fx.av (rho z1 z2 z3 z4 i0 i1 i2 i3 i4) x_) (Fx.av (rho z1 z2 z3 z4 i0 i1 i2 i3 i4) y_) = some (Fx.av (rho z1 z2 z3 z4 i0 i1 i2 i3 i4) w) := by
  obtain ⟨zx, zy⟩ := Fx.add0 z_; rw [e_, Fx.xor0 zx, Fx.xor0 zy]; exact Fx.row_ (X := (.int ((rho z1 z2 z3 z4 i0 i1 i2 i3 i4).1 22))) (Y := .null) (V := (.long ((rho z1 z2 z3 z4 i0 i1 i2 i3 i4).2.1 2))) (Fx.av_of (t := 1) (n := 22) (by decide) (by decide)) (Fx.av_of (t := 2) (n := 0) (by decide) (by decide)) (Fx.av_of (t := 9) (n := 2) (by decide) (by decide)) (un_ok' (lng_eq (by show (i2 &&& Int32.ofNat 1048575).toInt64 = _; rw [e2, Fx.b_i2l _ (by omega)]; simp [rho, rl, sm, Nat.testBit])))
theorem tr_33_2 (b1 : z1 < 1048576) (b2 : z2 < 1048576) (b3 : z3 < 1048576) (b4 : z4 < 1048576) {i0 i1 i2 i3 i4 : Int32} {p2 p3 p4 r x y : Nat} (m2 : p2 < 8) (m3 : p3 < 8) (m4 : p4 < 8) (mr : r < 8) (mx : x < 8) (my : y < 8) (h2 : i0 &&& Int32.ofNat 1 = Int32.ofNat p2) (h3 : (XT.ushr i0 (Int32.ofNat 1) &&& Int32.ofNat 3) % Int32.ofNat 3 = Int32.ofNat p3) (h4 : XT.ushr i0 (Int32.ofNat 3) &&& Int32.ofNat 3 = Int32.ofNat p4) (hr : (XT.ushr i0 (Int32.ofNat 5) &&& Int32.ofNat 7) % Int32.ofNat 5 = Int32.ofNat r) (hx : (XT.ushr i0 (Int32.ofNat 8) &&& Int32.ofNat 7) % Int32.ofNat 5 = Int32.ofNat x) (hy : (XT.ushr i0 (Int32.ofNat 11) &&& Int32.ofNat 7) % Int32.ofNat 5 = Int32.ofNat y) (e1 : i1 &&& Int32.ofNat 1048575 = Int32.ofNat z1) (e2 : i2 &&& Int32.ofNat 1048575 = Int32.ofNat z2) (e3 : i3 &&& Int32.ofNat 1048575 = Int32.ofNat z3) (e4 : i4 &&& Int32.ofNat 1048575 = Int32.ofNat z4) {x_ y_ w : Nat} (z_ : (Nat.add (Nat.xor x_ 590295810358705651735) (Nat.xor y_ 1180591620717411303424)) = 0) (e_ : w = 5312662293228350865412) : Fx.sem E_ 33 (Fx.av (rho z1 z2 z3 z4 i0 i1 i2 i3 i4) x_) (Fx.av (rho z1 z2 z3 z4 i0 i1 i2 i3 i4) y_) = some (Fx.av (rho z1 z2 z3 z4 i0 i1 i2 i3 i4) w) := by
  obtain ⟨zx, zy⟩ := Fx.add0 z_; rw [e_, Fx.xor0 zx, Fx.xor0 zy]; exact Fx.row_ (X := (.int ((rho z1 z2 z3 z4 i0 i1 i2 i3 i4).1 23))) (Y := .null) (V := (.long ((rho z1 z2 z3 z4 i0 i1 i2 i3 i4).2.1 4))) (Fx.av_of (t := 1) (n := 23) (by decide) (by decide)) (Fx.av_of (t := 2) (n := 0) (by decide) (by decide)) (Fx.av_of (t := 9) (n := 4) (by decide) (by decide)) (un_ok' (lng_eq (by show (i3 &&& Int32.ofNat 1048575).toInt64 = _; rw [e3, Fx.b_i2l _ (by omega)]; simp [rho, rl, sm, Nat.testBit])))
theorem tr_33_3 (b1 : z1 < 1048576) (b2 : z2 < 1048576) (b3 : z3 < 1048576) (b4 : z4 < 1048576) {i0 i1 i2 i3 i4 : Int32} {p2 p3 p4 r x y : Nat} (m2 : p2 < 8) (m3 : p3 < 8) (m4 : p4 < 8) (mr : r < 8) (mx : x < 8) (my : y < 8) (h2 : i0 &&& Int32.ofNat 1 = Int32.ofNat p2) (h3 : (XT.ushr i0 (Int32.ofNat 1) &&& Int32.ofNat 3) % Int32.ofNat 3 = Int32.ofNat p3) (h4 : XT.ushr i0 (Int32.ofNat 3) &&& Int32.ofNat 3 = Int32.ofNat p4) (hr : (XT.ushr i0 (Int32.ofNat 5) &&& Int32.ofNat 7) % Int32.ofNat 5 = Int32.ofNat r) (hx : (XT.ushr i0 (Int32.ofNat 8) &&& Int32.ofNat 7) % Int32.ofNat 5 = Int32.ofNat x) (hy : (XT.ushr i0 (Int32.ofNat 11) &&& Int32.ofNat 7) % Int32.ofNat 5 = Int32.ofNat y) (e1 : i1 &&& Int32.ofNat 1048575 = Int32.ofNat z1) (e2 : i2 &&& Int32.ofNat 1048575 = Int32.ofNat z2) (e3 : i3 &&& Int32.ofNat 1048575 = Int32.ofNat z3) (e4 : i4 &&& Int32.ofNat 1048575 = Int32.ofNat z4) {x_ y_ w : Nat} (z_ : (Nat.add (Nat.xor x_ 590295810358705651736) (Nat.xor y_ 1180591620717411303424)) = 0) (e_ : w = 5312662293228350865416) : Fx.sem E_ 33 (Fx.av (rho z1 z2 z3 z4 i0 i1 i2 i3 i4) x_) (Fx.av (rho z1 z2 z3 z4 i0 i1 i2 i3 i4) y_) = some (Fx.av (rho z1 z2 z3 z4 i0 i1 i2 i3 i4) w) := by
  obtain ⟨zx, zy⟩ := Fx.add0 z_; rw [e_, Fx.xor0 zx, Fx.xor0 zy]; exact Fx.row_ (X := (.int ((rho z1 z2 z3 z4 i0 i1 i2 i3 i4).1 24))) (Y := .null) (V := (.long ((rho z1 z2 z3 z4 i0 i1 i2 i3 i4).2.1 8))) (Fx.av_of (t := 1) (n := 24) (by decide) (by decide)) (Fx.av_of (t := 2) (n := 0) (by decide) (by decide)) (Fx.av_of (t := 9) (n := 8) (by decide) (by decide)) (un_ok' (lng_eq (by show (i4 &&& Int32.ofNat 1048575).toInt64 = _; rw [e4, Fx.b_i2l _ (by omega)]; simp [rho, rl, sm, Nat.testBit])))
theorem tr_3_0 (b1 : z1 < 1048576) (b2 : z2 < 1048576) (b3 : z3 < 1048576) (b4 : z4 < 1048576) {i0 i1 i2 i3 i4 : Int32} {p2 p3 p4 r x y : Nat} (m2 : p2 < 8) (m3 : p3 < 8) (m4 : p4 < 8) (mr : r < 8) (mx : x < 8) (my : y < 8) (h2 : i0 &&& Int32.ofNat 1 = Int32.ofNat p2) (h3 : (XT.ushr i0 (Int32.ofNat 1) &&& Int32.ofNat 3) % Int32.ofNat 3 = Int32.ofNat p3) (h4 : XT.ushr i0 (Int32.ofNat 3) &&& Int32.ofNat 3 = Int32.ofNat p4) (hr : (XT.ushr i0 (Int32.ofNat 5) &&& Int32.ofNat 7) % Int32.ofNat 5 = Int32.ofNat r) (hx : (XT.ushr i0 (Int32.ofNat 8) &&& Int32.ofNat 7) % Int32.ofNat 5 = Int32.ofNat x) (hy : (XT.ushr i0 (Int32.ofNat 11) &&& Int32.ofNat 7) % Int32.ofNat 5 = Int32.ofNat y) (e1 : i1 &&& Int32.ofNat 1048575 = Int32.ofNat z1) (e2 : i2 &&& Int32.ofNat 1048575 = Int32.ofNat z2) (e3 : i3 &&& Int32.ofNat 1048575 = Int32.ofNat z3) (e4 : i4 &&& Int32.ofNat 1048575 = Int32.ofNat z4) {x_ y_ w : Nat} (z_ : (Nat.add (Nat.xor x_ 590295810358705651712) (Nat.xor y_ 1)) = 0) (e_ : w = p2) : Fx.sem E_ 3 (Fx.av (rho z1 z2 z3 z4 i0 i1 i2 i3 i4) x_) (Fx.av (rho z1 z2 z3 z4 i0 i1 i2 i3 i4) y_) = some (Fx.av (rho z1 z2 z3 z4 i0 i1 i2 i3 i4) w) := by
  obtain ⟨zx, zy⟩ := Fx.add0 z_; rw [e_, Fx.xor0 zx, Fx.xor0 zy]; exact Fx.row_ (X := (.int ((rho z1 z2 z3 z4 i0 i1 i2 i3 i4).1 0))) (Y := (.int (Int32.ofNat 1))) (V := (.int (Int32.ofNat p2))) (Fx.av_of (t := 1) (n := 0) (by decide) (by decide)) (Fx.av_int (by decide)) (Fx.av_int (by omega)) (bn_ok (int_eq h2))
theorem tr_3_1 (b1 : z1 < 1048576) (b2 : z2 < 1048576) (b3 : z3 < 1048576) (b4 : z4 < 1048576) {i0 i1 i2 i3 i4 : Int32} {p2 p3 p4 r x y : Nat} (m2 : p2 < 8) (m3 : p3 < 8) (m4 : p4 < 8) (mr : r < 8) (mx : x < 8) (my : y < 8) (h2 : i0 &&& Int32.ofNat 1 = Int32.ofNat p2) (h3 : (XT.ushr i0 (Int32.ofNat 1) &&& Int32.ofNat 3) % Int32.ofNat 3 = Int32.ofNat p3) (h4 : XT.ushr i0 (Int32.ofNat 3) &&& Int32.ofNat 3 = Int32.ofNat p4) (hr : (XT.ushr i0 (Int32.ofNat 5) &&& Int32.ofNat 7) % Int32.ofNat 5 = Int32.ofNat r) (hx : (XT.ushr i0 (Int32.ofNat 8) &&& Int32.ofNat 7) % Int32.ofNat 5 = Int32.ofNat x) (hy : (XT.ushr i0 (Int32.ofNat 11) &&& Int32.ofNat 7) % Int32.ofNat 5 = Int32.ofNat y) (e1 : i1 &&& Int32.ofNat 1048575 = Int32.ofNat z1) (e2 : i2 &&& Int32.ofNat 1048575 = Int32.ofNat z2) (e3 : i3 &&& Int32.ofNat 1048575 = Int32.ofNat z3) (e4 : i4 &&& Int32.ofNat 1048575 = Int32.ofNat z4) {x_ y_ w : Nat} (z_ : (Nat.add (Nat.xor x_ 590295810358705651717) (Nat.xor y_ 3)) = 0) (e_ : w = 590295810358705651718) : Fx.sem E_ 3 (Fx.av (rho z1 z2 z3 z4 i0 i1 i2 i3 i4) x_) (Fx.av (rho z1 z2 z3 z4 i0 i1 i2 i3 i4) y_) = some (Fx.av (rho z1 z2 z3 z4 i0 i1 i2 i3 i4) w) := by
  obtain ⟨zx, zy⟩ := Fx.add0 z_; rw [e_, Fx.xor0 zx, Fx.xor0 zy]; exact Fx.row_ (X := (.int ((rho z1 z2 z3 z4 i0 i1 i2 i3 i4).1 5))) (Y := (.int (Int32.ofNat 3))) (V := (.int ((rho z1 z2 z3 z4 i0 i1 i2 i3 i4).1 6))) (Fx.av_of (t := 1) (n := 5) (by decide) (by decide)) (Fx.av_int (by decide)) (Fx.av_of (t := 1) (n := 6) (by decide) (by decide)) (bn_ok rfl)
theorem tr_3_2 (b1 : z1 < 1048576) (b2 : z2 < 1048576) (b3 : z3 < 1048576) (b4 : z4 < 1048576) {i0 i1 i2 i3 i4 : Int32} {p2 p3 p4 r x y : Nat} (m2 : p2 < 8) (m3 : p3 < 8) (m4 : p4 < 8) (mr : r < 8) (mx : x < 8) (my : y < 8) (h2 : i0 &&& Int32.ofNat 1 = Int32.ofNat p2) (h3 : (XT.ushr i0 (Int32.ofNat 1) &&& Int32.ofNat 3) % Int32.ofNat 3 = Int32.ofNat p3) (h4 : XT.ushr i0 (Int32.ofNat 3) &&& Int32.ofNat 3 = Int32.ofNat p4) (hr : (XT.ushr i0 (Int32.ofNat 5) &&& Int32.ofNat 7) % Int32.ofNat 5 = Int32.ofNat r) (hx : (XT.ushr i0 (Int32.ofNat 8) &&& Int32.ofNat 7) % Int32.ofNat 5 = Int32.ofNat x) (hy : (XT.ushr i0 (Int32.ofNat 11) &&& Int32.ofNat 7) % Int32.ofNat 5 = Int32.ofNat y) (e1 : i1 &&& Int32.ofNat 1048575 = Int32.ofNat z1) (e2 : i2 &&& Int32.ofNat 1048575 = Int32.ofNat z2) (e3 : i3 &&& Int32.ofNat 1048575 = Int32.ofNat z3) (e4 : i4 &&& Int32.ofNat 1048575 = Int32.ofNat z4) {x_ y_ w : Nat} (z_ : (Nat.add (Nat.xor x_ 590295810358705651719) (Nat.xor y_ 3)) = 0) (e_ : w = p4) : Fx.sem E_ 3 (Fx.av (rho z1 z2 z3 z4 i0 i1 i2 i3 i4) x_) (Fx.av (rho z1 z2 z3 z4 i0 i1 i2 i3 i4) y_) = some (Fx.av (rho z1 z2 z3 z4 i0 i1 i2 i3 i4) w) := by
  obtain ⟨zx, zy⟩ := Fx.add0 z_; rw [e_, Fx.xor0 zx, Fx.xor0 zy]; exact Fx.row_ (X := (.int ((rho z1 z2 z3 z4 i0 i1 i2 i3 i4).1 7))) (Y := (.int (Int32.ofNat 3))) (V := (.int (Int32.ofNat p4))) (Fx.av_of (t := 1) (n := 7) (by decide) (by decide)) (Fx.av_int (by decide)) (Fx.av_int (by omega)) (bn_ok (int_eq h4))
theorem tr_3_3 (b1 : z1 < 1048576) (b2 : z2 < 1048576) (b3 : z3 < 1048576) (b4 : z4 < 1048576) {i0 i1 i2 i3 i4 : Int32} {p2 p3 p4 r x y : Nat} (m2 : p2 < 8) (m3 : p3 < 8) (m4 : p4 < 8) (mr : r < 8) (mx : x < 8) (my : y < 8) (h2 : i0 &&& Int32.ofNat 1 = Int32.ofNat p2) (h3 : (XT.ushr i0 (Int32.ofNat 1) &&& Int32.ofNat 3) % Int32.ofNat 3 = Int32.ofNat p3) (h4 : XT.ushr i0 (Int32.ofNat 3) &&& Int32.ofNat 3 = Int32.ofNat p4) (hr : (XT.ushr i0 (Int32.ofNat 5) &&& Int32.ofNat 7) % Int32.ofNat 5 = Int32.ofNat r) (hx : (XT.ushr i0 (Int32.ofNat 8) &&& Int32.ofNat 7) % Int32.ofNat 5 = Int32.ofNat x) (hy : (XT.ushr i0 (Int32.ofNat 11) &&& Int32.ofNat 7) % Int32.ofNat 5 = Int32.ofNat y) (e1 : i1 &&& Int32.ofNat 1048575 = Int32.ofNat z1) (e2 : i2 &&& Int32.ofNat 1048575 = Int32.ofNat z2) (e3 : i3 &&& Int32.ofNat 1048575 = Int32.ofNat z3) (e4 : i4 &&& Int32.ofNat 1048575 = Int32.ofNat z4) {x_ y_ w : Nat} (z_ : (Nat.add (Nat.xor x_ 590295810358705651720) (Nat.xor y_ 7)) = 0) (e_ : w = 590295810358705651721) : Fx.sem E_ 3 (Fx.av (rho z1 z2 z3 z4 i0 i1 i2 i3 i4) x_) (Fx.av (rho z1 z2 z3 z4 i0 i1 i2 i3 i4) y_) = some (Fx.av (rho z1 z2 z3 z4 i0 i1 i2 i3 i4) w) := by
  obtain ⟨zx, zy⟩ := Fx.add0 z_; rw [e_, Fx.xor0 zx, Fx.xor0 zy]; exact Fx.row_ (X := (.int ((rho z1 z2 z3 z4 i0 i1 i2 i3 i4).1 8))) (Y := (.int (Int32.ofNat 7))) (V := (.int ((rho z1 z2 z3 z4 i0 i1 i2 i3 i4).1 9))) (Fx.av_of (t := 1) (n := 8) (by decide) (by decide)) (Fx.av_int (by decide)) (Fx.av_of (t := 1) (n := 9) (by decide) (by decide)) (bn_ok rfl)
theorem tr_3_4 (b1 : z1 < 1048576) (b2 : z2 < 1048576) (b3 : z3 < 1048576) (b4 : z4 < 1048576) {i0 i1 i2 i3 i4 : Int32} {p2 p3 p4 r x y : Nat} (m2 : p2 < 8) (m3 : p3 < 8) (m4 : p4 < 8) (mr : r < 8) (mx : x < 8) (my : y < 8) (h2 : i0 &&& Int32.ofNat 1 = Int32.ofNat p2) (h3 : (XT.ushr i0 (Int32.ofNat 1) &&& Int32.ofNat 3) % Int32.ofNat 3 = Int32.ofNat p3) (h4 : XT.ushr i0 (Int32.ofNat 3) &&& Int32.ofNat 3 = Int32.ofNat p4) (hr : (XT.ushr i0 (Int32.ofNat 5) &&& Int32.ofNat 7) % Int32.ofNat 5 = Int32.ofNat r) (hx : (XT.ushr i0 (Int32.ofNat 8) &&& Int32.ofNat 7) % Int32.ofNat 5 = Int32.ofNat x) (hy : (XT.ushr i0 (Int32.ofNat 11) &&& Int32.ofNat 7) % Int32.ofNat 5 = Int32.ofNat y) (e1 : i1 &&& Int32.ofNat 1048575 = Int32.ofNat z1) (e2 : i2 &&& Int32.ofNat 1048575 = Int32.ofNat z2) (e3 : i3 &&& Int32.ofNat 1048575 = Int32.ofNat z3) (e4 : i4 &&& Int32.ofNat 1048575 = Int32.ofNat z4) {x_ y_ w : Nat} (z_ : (Nat.add (Nat.xor x_ 590295810358705651722) (Nat.xor y_ 7)) = 0) (e_ : w = 590295810358705651723) : Fx.sem E_ 3 (Fx.av (rho z1 z2 z3 z4 i0 i1 i2 i3 i4) x_) (Fx.av (rho z1 z2 z3 z4 i0 i1 i2 i3 i4) y_) = some (Fx.av (rho z1 z2 z3 z4 i0 i1 i2 i3 i4) w) := by
  obtain ⟨zx, zy⟩ := Fx.add0 z_; rw [e_, Fx.xor0 zx, Fx.xor0 zy]; exact Fx.row_ (X := (.int ((rho z1 z2 z3 z4 i0 i1 i2 i3 i4).1 10))) (Y := (.int (Int32.ofNat 7))) (V := (.int ((rho z1 z2 z3 z4 i0 i1 i2 i3 i4).1 11))) (Fx.av_of (t := 1) (n := 10) (by decide) (by decide)) (Fx.av_int (by decide)) (Fx.av_of (t := 1) (n := 11) (by decide) (by decide)) (bn_ok rfl)
theorem tr_3_5 (b1 : z1 < 1048576) (b2 : z2 < 1048576) (b3 : z3 < 1048576) (b4 : z4 < 1048576) {i0 i1 i2 i3 i4 : Int32} {p2 p3 p4 r x y : Nat} (m2 : p2 < 8) (m3 : p3 < 8) (m4 : p4 < 8) (mr : r < 8) (mx : x < 8) (my : y < 8) (h2 : i0 &&& Int32.ofNat 1 = Int32.ofNat p2) (h3 : (XT.ushr i0 (Int32.ofNat 1) &&& Int32.ofNat 3) % Int32.ofNat 3 = Int32.ofNat p3) (h4 : XT.ushr i0 (Int32.ofNat 3) &&& Int32.ofNat 3 = Int32.ofNat p4) (hr : (XT.ushr i0 (Int32.ofNat 5) &&& Int32.ofNat 7) % Int32.ofNat 5 = Int32.ofNat r) (hx : (XT.ushr i0 (Int32.ofNat 8) &&& Int32.ofNat 7) % Int32.ofNat 5 = Int32.ofNat x) (hy : (XT.ushr i0 (Int32.ofNat 11) &&& Int32.ofNat 7) % Int32.ofNat 5 = Int32.ofNat y) (e1 : i1 &&& Int32.ofNat 1048575 = Int32.ofNat z1) (e2 : i2 &&& Int32.ofNat 1048575 = Int32.ofNat z2) (e3 : i3 &&& Int32.ofNat 1048575 = Int32.ofNat z3) (e4 : i4 &&& Int32.ofNat 1048575 = Int32.ofNat z4) {x_ y_ w : Nat} (z_ : (Nat.add (Nat.xor x_ 590295810358705651724) (Nat.xor y_ 7)) = 0) (e_ : w = 590295810358705651725) : Fx.sem E_ 3 (Fx.av (rho z1 z2 z3 z4 i0 i1 i2 i3 i4) x_) (Fx.av (rho z1 z2 z3 z4 i0 i1 i2 i3 i4) y_) = some (Fx.av (rho z1 z2 z3 z4 i0 i1 i2 i3 i4) w) := by
  obtain ⟨zx, zy⟩ := Fx.add0 z_; rw [e_, Fx.xor0 zx, Fx.xor0 zy]; exact Fx.row_ (X := (.int ((rho z1 z2 z3 z4 i0 i1 i2 i3 i4).1 12))) (Y := (.int (Int32.ofNat 7))) (V := (.int ((rho z1 z2 z3 z4 i0 i1 i2 i3 i4).1 13))) (Fx.av_of (t := 1) (n := 12) (by decide) (by decide)) (Fx.av_int (by decide)) (Fx.av_of (t := 1) (n := 13) (by decide) (by decide)) (bn_ok rfl)
theorem tr_3_6 (b1 : z1 < 1048576) (b2 : z2 < 1048576) (b3 : z3 < 1048576) (b4 : z4 < 1048576) {i0 i1 i2 i3 i4 : Int32} {p2 p3 p4 r x y : Nat} (m2 : p2 < 8) (m3 : p3 < 8) (m4 : p4 < 8) (mr : r < 8) (mx : x < 8) (my : y < 8) (h2 : i0 &&& Int32.ofNat 1 = Int32.ofNat p2) (h3 : (XT.ushr i0 (Int32.ofNat 1) &&& Int32.ofNat 3) % Int32.ofNat 3 = Int32.ofNat p3) (h4 : XT.ushr i0 (Int32.ofNat 3) &&& Int32.ofNat 3 = Int32.ofNat p4) (hr : (XT.ushr i0 (Int32.ofNat 5) &&& Int32.ofNat 7) % Int32.ofNat 5 = Int32.ofNat r) (hx : (XT.ushr i0 (Int32.ofNat 8) &&& Int32.ofNat 7) % Int32.ofNat 5 = Int32.ofNat x) (hy : (XT.ushr i0 (Int32.ofNat 11) &&& Int32.ofNat 7) % Int32.ofNat 5 = Int32.ofNat y) (e1 : i1 &&& Int32.ofNat 1048575 = Int32.ofNat z1) (e2 : i2 &&& Int32.ofNat 1048575 = Int32.ofNat z2) (e3 : i3 &&& Int32.ofNat 1048575 = Int32.ofNat z3) (e4 : i4 &&& Int32.ofNat 1048575 = Int32.ofNat z4) {x_ y_ w : Nat} (z_ : (Nat.add (Nat.xor x_ 590295810358705651713) (Nat.xor y_ 1048575)) = 0) (e_ : w = 590295810358705651733) : Fx.sem E_ 3 (Fx.av (rho z1 z2 z3 z4 i0 i1 i2 i3 i4) x_) (Fx.av (rho z1 z2 z3 z4 i0 i1 i2 i3 i4) y_) = some (Fx.av (rho z1 z2 z3 z4 i0 i1 i2 i3 i4) w) := by
  obtain ⟨zx, zy⟩ := Fx.add0 z_; rw [e_, Fx.xor0 zx, Fx.xor0 zy]; exact Fx.row_ (X := (.int ((rho z1 z2 z3 z4 i0 i1 i2 i3 i4).1 1))) (Y := (.int (Int32.ofNat 1048575))) (V := (.int ((rho z1 z2 z3 z4 i0 i1 i2 i3 i4).1 21))) (Fx.av_of (t := 1) (n := 1) (by decide) (by decide)) (Fx.av_int (by decide)) (Fx.av_of (t := 1) (n := 21) (by decide) (by decide)) (bn_ok rfl)
theorem tr_3_7 (b1 : z1 < 1048576) (b2 : z2 < 1048576) (b3 : z3 < 1048576) (b4 : z4 < 1048576) {i0 i1 i2 i3 i4 : Int32} {p2 p3 p4 r x y : Nat} (m2 : p2 < 8) (m3 : p3 < 8) (m4 : p4 < 8) (mr : r < 8) (mx : x < 8) (my : y < 8) (h2 : i0 &&& Int32.ofNat 1 = Int32.ofNat p2) (h3 : (XT.ushr i0 (Int32.ofNat 1) &&& Int32.ofNat 3) % Int32.ofNat 3 = Int32.ofNat p3) (h4 : XT.ushr i0 (Int32.ofNat 3) &&& Int32.ofNat 3 = Int32.ofNat p4) (hr : (XT.ushr i0 (Int32.ofNat 5) &&& Int32.ofNat 7) % Int32.ofNat 5 = Int32.ofNat r) (hx : (XT.ushr i0 (Int32.ofNat 8) &&& Int32.ofNat 7) % Int32.ofNat 5 = Int32.ofNat x) (hy : (XT.ushr i0 (Int32.ofNat 11) &&& Int32.ofNat 7) % Int32.ofNat 5 = Int32.ofNat y) (e1 : i1 &&& Int32.ofNat 1048575 = Int32.ofNat z1) (e2 : i2 &&& Int32.ofNat 1048575 = Int32.ofNat z2) (e3 : i3 &&& Int32.ofNat 1048575 = Int32.ofNat z3) (e4 : i4 &&& Int32.ofNat 1048575 = Int32.ofNat z4) {x_ y_ w : Nat} (z_ : (Nat.add (Nat.xor x_ 590295810358705651714) (Nat.xor y_ 1048575)) = 0) (e_ : w = 590295810358705651734) : Fx.sem E_ 3 (Fx.av (rho z1 z2 z3 z4 i0 i1 i2 i3 i4) x_) (Fx.av (rho z1 z2 z3 z4 i0 i1 i2 i3 i4) y_) = some (Fx.av (rho z1 z2 z3 z4 i0 i1 i2 i3 i4) w) := by
  obtain ⟨zx, zy⟩ := Fx.add0 z_; rw [e_, Fx.xor0 zx, Fx.xor0 zy]; exact Fx.row_ (X := (.int ((rho z1 z2 z3 z4 i0 i1 i2 i3 i4).1 2))) (Y := (.int (Int32.ofNat 1048575))) (V := (.int ((rho z1 z2 z3 z4 i0 i1 i2 i3 i4).1 22))) (Fx.av_of (t := 1) (n := 2) (by decide) (by decide)) (Fx.av_int (by decide)) (Fx.av_of (t := 1) (n := 22) (by decide) (by decide)) (bn_ok rfl)
theorem tr_3_8 (b1 : z1 < 1048576) (b2 : z2 < 1048576) (b3 : z3 < 1048576) (b4 : z4 < 1048576) {i0 i1 i2 i3 i4 : Int32} {p2 p3 p4 r x y : Nat} (m2 : p2 < 8) (m3 : p3 < 8) (m4 : p4 < 8) (mr : r < 8) (mx : x < 8) (my : y < 8) (h2 : i0 &&& Int32.ofNat 1 = Int32.ofNat p2) (h3 : (XT.ushr i0 (Int32.ofNat 1) &&& Int32.ofNat 3) % Int32.ofNat 3 = Int32.ofNat p3) (h4 : XT.ushr i0 (Int32.ofNat 3) &&& Int32.ofNat 3 = Int32.ofNat p4) (hr : (XT.ushr i0 (Int32.ofNat 5) &&& Int32.ofNat 7) % Int32.ofNat 5 = Int32.ofNat r) (hx : (XT.ushr i0 (Int32.ofNat 8) &&& Int32.ofNat 7) % Int32.ofNat 5 = Int32.ofNat x) (hy : (XT.ushr i0 (Int32.ofNat 11) &&& Int32.ofNat 7) % Int32.ofNat 5 = Int32.ofNat y) (e1 : i1 &&& Int32.ofNat 1048575 = Int32.ofNat z1) (e2 : i2 &&& Int32.ofNat 1048575 = Int32.ofNat z2) (e3 : i3 &&& Int32.ofNat 1048575 = Int32.ofNat z3) (e4 : i4 &&& Int32.ofNat 1048575 = Int32.ofNat z4) {x_ y_ w : Nat} (z_ : (Nat.add (Nat.xor x_ 590295810358705651715) (Nat.xor y_ 1048575)) = 0) (e_ : w = 590295810358705651735) : Fx.sem E_ 3 (Fx.av (rho z1 z2 z3 z4 i0 i1 i2 i3 i4) x_) (Fx.av (rho z1 z2 z3 z4 i0 i1 i2 i3 i4) y_) = some (Fx.av (rho z1 z2 z3 z4 i0 i1 i2 i3 i4) w) := by
  obtain ⟨zx, zy⟩ := Fx.add0 z_; rw [e_, Fx.xor0 zx, Fx.xor0 zy]; exact Fx.row_ (X := (.int ((rho z1 z2 z3 z4 i0 i1 i2 i3 i4).1 3))) (Y := (.int (Int32.ofNat 1048575))) (V := (.int ((rho z1 z2 z3 z4 i0 i1 i2 i3 i4).1 23))) (Fx.av_of (t := 1) (n := 3) (by decide) (by decide)) (Fx.av_int (by decide)) (Fx.av_of (t := 1) (n := 23) (by decide) (by decide)) (bn_ok rfl)
theorem tr_3_9 (b1 : z1 < 1048576) (b2 : z2 < 1048576) (b3 : z3 < 1048576) (b4 : z4 < 1048576) {i0 i1 i2 i3 i4 : Int32} {p2 p3 p4 r x y : Nat} (m2 : p2 < 8) (m3 : p3 < 8) (m4 : p4 < 8) (mr : r < 8) (mx : x < 8) (my : y < 8) (h2 : i0 &&& Int32.ofNat 1 = Int32.ofNat p2) (h3 : (XT.ushr i0 (Int32.ofNat 1) &&& Int32.ofNat 3) % Int32.ofNat 3 = Int32.ofNat p3) (h4 : XT.ushr i0 (Int32.ofNat 3) &&& Int32.ofNat 3 = Int32.ofNat p4) (hr : (XT.ushr i0 (Int32.ofNat 5) &&& Int32.ofNat 7) % Int32.ofNat 5 = Int32.ofNat r) (hx : (XT.ushr i0 (Int32.ofNat 8) &&& Int32.ofNat 7) % Int32.ofNat 5 = Int32.ofNat x) (hy : (XT.ushr i0 (Int32.ofNat 11) &&& Int32.ofNat 7) % Int32.ofNat 5 = Int32.ofNat y) (e1 : i1 &&& Int32.ofNat 1048575 = Int32.ofNat z1) (e2 : i2 &&& Int32.ofNat 1048575 = Int32.ofNat z2) (e3 : i3 &&& Int32.ofNat 1048575 = Int32.ofNat z3) (e4 : i4 &&& Int32.ofNat 1048575 = Int32.ofNat z4) {x_ y_ w : Nat} (z_ : (Nat.add (Nat.xor x_ 590295810358705651716) (Nat.xor y_ 1048575)) = 0) (e_ : w = 590295810358705651736) : Fx.sem E_ 3 (Fx.av (rho z1 z2 z3 z4 i0 i1 i2 i3 i4) x_) (Fx.av (rho z1 z2 z3 z4 i0 i1 i2 i3 i4) y_) = some (Fx.av (rho z1 z2 z3 z4 i0 i1 i2 i3 i4) w) := by
  obtain ⟨zx, zy⟩ := Fx.add0 z_; rw [e_, Fx.xor0 zx, Fx.xor0 zy]; exact Fx.row_ (X := (.int ((rho z1 z2 z3 z4 i0 i1 i2 i3 i4).1 4))) (Y := (.int (Int32.ofNat 1048575))) (V := (.int ((rho z1 z2 z3 z4 i0 i1 i2 i3 i4).1 24))) (Fx.av_of (t := 1) (n := 4) (by decide) (by decide)) (Fx.av_int (by decide)) (Fx.av_of (t := 1) (n := 24) (by decide) (by decide)) (bn_ok rfl)
theorem tr_8_0 (b1 : z1 < 1048576) (b2 : z2 < 1048576) (b3 : z3 < 1048576) (b4 : z4 < 1048576) {i0 i1 i2 i3 i4 : Int32} {p2 p3 p4 r x y : Nat} (m2 : p2 < 8) (m3 : p3 < 8) (m4 : p4 < 8) (mr : r < 8) (mx : x < 8) (my : y < 8) (h2 : i0 &&& Int32.ofNat 1 = Int32.ofNat p2) (h3 : (XT.ushr i0 (Int32.ofNat 1) &&& Int32.ofNat 3) % Int32.ofNat 3 = Int32.ofNat p3) (h4 : XT.ushr i0 (Int32.ofNat 3) &&& Int32.ofNat 3 = Int32.ofNat p4) (hr : (XT.ushr i0 (Int32.ofNat 5) &&& Int32.ofNat 7) % Int32.ofNat 5 = Int32.ofNat r) (hx : (XT.ushr i0 (Int32.ofNat 8) &&& Int32.ofNat 7) % Int32.ofNat 5 = Int32.ofNat x) (hy : (XT.ushr i0 (Int32.ofNat 11) &&& Int32.ofNat 7) % Int32.ofNat 5 = Int32.ofNat y) (e1 : i1 &&& Int32.ofNat 1048575 = Int32.ofNat z1) (e2 : i2 &&& Int32.ofNat 1048575 = Int32.ofNat z2) (e3 : i3 &&& Int32.ofNat 1048575 = Int32.ofNat z3) (e4 : i4 &&& Int32.ofNat 1048575 = Int32.ofNat z4) {x_ y_ w : Nat} (z_ : (Nat.add (Nat.xor x_ 590295810358705651712) (Nat.xor y_ 1)) = 0) (e_ : w = 590295810358705651717) : Fx.sem E_ 8 (Fx.av (rho z1 z2 z3 z4 i0 i1 i2 i3 i4) x_) (Fx.av (rho z1 z2 z3 z4 i0 i1 i2 i3 i4) y_) = some (Fx.av (rho z1 z2 z3 z4 i0 i1 i2 i3 i4) w) := by
  obtain ⟨zx, zy⟩ := Fx.add0 z_; rw [e_, Fx.xor0 zx, Fx.xor0 zy]; exact Fx.row_ (X := (.int ((rho z1 z2 z3 z4 i0 i1 i2 i3 i4).1 0))) (Y := (.int (Int32.ofNat 1))) (V := (.int ((rho z1 z2 z3 z4 i0 i1 i2 i3 i4).1 5))) (Fx.av_of (t := 1) (n := 0) (by decide) (by decide)) (Fx.av_int (by decide)) (Fx.av_of (t := 1) (n := 5) (by decide) (by decide)) (bn_ok rfl)
theorem tr_8_1 (b1 : z1 < 1048576) (b2 : z2 < 1048576) (b3 : z3 < 1048576) (b4 : z4 < 1048576) {i0 i1 i2 i3 i4 : Int32} {p2 p3 p4 r x y : Nat} (m2 : p2 < 8) (m3 : p3 < 8) (m4 : p4 < 8) (mr : r < 8) (mx : x < 8) (my : y < 8) (h2 : i0 &&& Int32.ofNat 1 = Int32.ofNat p2) (h3 : (XT.ushr i0 (Int32.ofNat 1) &&& Int32.ofNat 3) % Int32.ofNat 3 = Int32.ofNat p3) (h4 : XT.ushr i0 (Int32.ofNat 3) &&& Int32.ofNat 3 = Int32.ofNat p4) (hr : (XT.ushr i0 (Int32.ofNat 5) &&& Int32.ofNat 7) % Int32.ofNat 5 = Int32.ofNat r) (hx : (XT.ushr i0 (Int32.ofNat 8) &&& Int32.ofNat 7) % Int32.ofNat 5 = Int32.ofNat x) (hy : (XT.ushr i0 (Int32.ofNat 11) &&& Int32.ofNat 7) % Int32.ofNat 5 = Int32.ofNat y) (e1 : i1 &&& Int32.ofNat 1048575 = Int32.ofNat z1) (e2 : i2 &&& Int32.ofNat 1048575 = Int32.ofNat z2) (e3 : i3 &&& Int32.ofNat 1048575 = Int32.ofNat z3) (e4 : i4 &&& Int32.ofNat 1048575 = Int32.ofNat z4) {x_ y_ w : Nat} (z_ : (Nat.add (Nat.xor x_ 590295810358705651712) (Nat.xor y_ 3)) = 0) (e_ : w = 590295810358705651719) : Fx.sem E_ 8 (Fx.av (rho z1 z2 z3 z4 i0 i1 i2 i3 i4) x_) (Fx.av (rho z1 z2 z3 z4 i0 i1 i2 i3 i4) y_) = some (Fx.av (rho z1 z2 z3 z4 i0 i1 i2 i3 i4) w) := by
  obtain ⟨zx, zy⟩ := Fx.add0 z_; rw [e_, Fx.xor0 zx, Fx.xor0 zy]; exact Fx.row_ (X := (.int ((rho z1 z2 z3 z4 i0 i1 i2 i3 i4).1 0))) (Y := (.int (Int32.ofNat 3))) (V := (.int ((rho z1 z2 z3 z4 i0 i1 i2 i3 i4).1 7))) (Fx.av_of (t := 1) (n := 0) (by decide) (by decide)) (Fx.av_int (by decide)) (Fx.av_of (t := 1) (n := 7) (by decide) (by decide)) (bn_ok rfl)
theorem tr_8_2 (b1 : z1 < 1048576) (b2 : z2 < 1048576) (b3 : z3 < 1048576) (b4 : z4 < 1048576) {i0 i1 i2 i3 i4 : Int32} {p2 p3 p4 r x y : Nat} (m2 : p2 < 8) (m3 : p3 < 8) (m4 : p4 < 8) (mr : r < 8) (mx : x < 8) (my : y < 8) (h2 : i0 &&& Int32.ofNat 1 = Int32.ofNat p2) (h3 : (XT.ushr i0 (Int32.ofNat 1) &&& Int32.ofNat 3) % Int32.ofNat 3 = Int32.ofNat p3) (h4 : XT.ushr i0 (Int32.ofNat 3) &&& Int32.ofNat 3 = Int32.ofNat p4) (hr : (XT.ushr i0 (Int32.ofNat 5) &&& Int32.ofNat 7) % Int32.ofNat 5 = Int32.ofNat r) (hx : (XT.ushr i0 (Int32.ofNat 8) &&& Int32.ofNat 7) % Int32.ofNat 5 = Int32.ofNat x) (hy : (XT.ushr i0 (Int32.ofNat 11) &&& Int32.ofNat 7) % Int32.ofNat 5 = Int32.ofNat y) (e1 : i1 &&& Int32.ofNat 1048575 = Int32.ofNat z1) (e2 : i2 &&& Int32.ofNat 1048575 = Int32.ofNat z2) (e3 : i3 &&& Int32.ofNat 1048575 = Int32.ofNat z3) (e4 : i4 &&& Int32.ofNat 1048575 = Int32.ofNat z4) {x_ y_ w : Nat} (z_ : (Nat.add (Nat.xor x_ 590295810358705651712) (Nat.xor y_ 5)) = 0) (e_ : w = 590295810358705651720) : Fx.sem E_ 8 (Fx.av (rho z1 z2 z3 z4 i0 i1 i2 i3 i4) x_) (Fx.av (rho z1 z2 z3 z4 i0 i1 i2 i3 i4) y_) = some (Fx.av (rho z1 z2 z3 z4 i0 i1 i2 i3 i4) w) := by
  obtain ⟨zx, zy⟩ := Fx.add0 z_; rw [e_, Fx.xor0 zx, Fx.xor0 zy]; exact Fx.row_ (X := (.int ((rho z1 z2 z3 z4 i0 i1 i2 i3 i4).1 0))) (Y := (.int (Int32.ofNat 5))) (V := (.int ((rho z1 z2 z3 z4 i0 i1 i2 i3 i4).1 8))) (Fx.av_of (t := 1) (n := 0) (by decide) (by decide)) (Fx.av_int (by decide)) (Fx.av_of (t := 1) (n := 8) (by decide) (by decide)) (bn_ok rfl)
theorem tr_8_3 (b1 : z1 < 1048576) (b2 : z2 < 1048576) (b3 : z3 < 1048576) (b4 : z4 < 1048576) {i0 i1 i2 i3 i4 : Int32} {p2 p3 p4 r x y : Nat} (m2 : p2 < 8) (m3 : p3 < 8) (m4 : p4 < 8) (mr : r < 8) (mx : x < 8) (my : y < 8) (h2 : i0 &&& Int32.ofNat 1 = Int32.ofNat p2) (h3 : (XT.ushr i0 (Int32.ofNat 1) &&& Int32.ofNat 3) % Int32.ofNat 3 = Int32.ofNat p3) (h4 : XT.ushr i0 (Int32.ofNat 3) &&& Int32.ofNat 3 = Int32.ofNat p4) (hr : (XT.ushr i0 (Int32.ofNat 5) &&& Int32.ofNat 7) % Int32.ofNat 5 = Int32.ofNat r) (hx : (XT.ushr i0 (Int32.ofNat 8) &&& Int32.ofNat 7) % Int32.ofNat 5 = Int32.ofNat x) (hy : (XT.ushr i0 (Int32.ofNat 11) &&& Int32.ofNat 7) % Int32.ofNat 5 = Int32.ofNat y) (e1 : i1 &&& Int32.ofNat 1048575 = Int32.ofNat z1) (e2 : i2 &&& Int32.ofNat 1048575 = Int32.ofNat z2) (e3 : i3 &&& Int32.ofNat 1048575 = Int32.ofNat z3) (e4 : i4 &&& Int32.ofNat 1048575 = Int32.ofNat z4) {x_ y_ w : Nat} (z_ : (Nat.add (Nat.xor x_ 590295810358705651712) (Nat.xor y_ 8)) = 0) (e_ : w = 590295810358705651722) : Fx.sem E_ 8 (Fx.av (rho z1 z2 z3 z4 i0 i1 i2 i3 i4) x_) (Fx.av (rho z1 z2 z3 z4 i0 i1 i2 i3 i4) y_) = some (Fx.av (rho z1 z2 z3 z4 i0 i1 i2 i3 i4) w) := by
  obtain ⟨zx, zy⟩ := Fx.add0 z_; rw [e_, Fx.xor0 zx, Fx.xor0 zy]; exact Fx.row_ (X := (.int ((rho z1 z2 z3 z4 i0 i1 i2 i3 i4).1 0))) (Y := (.int (Int32.ofNat 8))) (V := (.int ((rho z1 z2 z3 z4 i0 i1 i2 i3 i4).1 10))) (Fx.av_of (t := 1) (n := 0) (by decide) (by decide)) (Fx.av_int (by decide)) (Fx.av_of (t := 1) (n := 10) (by decide) (by decide)) (bn_ok rfl)
theorem tr_8_4 (b1 : z1 < 1048576) (b2 : z2 < 1048576) (b3 : z3 < 1048576) (b4 : z4 < 1048576) {i0 i1 i2 i3 i4 : Int32} {p2 p3 p4 r x y : Nat} (m2 : p2 < 8) (m3 : p3 < 8) (m4 : p4 < 8) (mr : r < 8) (mx : x < 8) (my : y < 8) (h2 : i0 &&& Int32.ofNat 1 = Int32.ofNat p2) (h3 : (XT.ushr i0 (Int32.ofNat 1) &&& Int32.ofNat 3) % Int32.ofNat 3 = Int32.ofNat p3) (h4 : XT.ushr i0 (Int32.ofNat 3) &&& Int32.ofNat 3 = Int32.ofNat p4) (hr : (XT.ushr i0 (Int32.ofNat 5) &&& Int32.ofNat 7) % Int32.ofNat 5 = Int32.ofNat r) (hx : (XT.ushr i0 (Int32.ofNat 8) &&& Int32.ofNat 7) % Int32.ofNat 5 = Int32.ofNat x) (hy : (XT.ushr i0 (Int32.ofNat 11) &&& Int32.ofNat 7) % Int32.ofNat 5 = Int32.ofNat y) (e1 : i1 &&& Int32.ofNat 1048575 = Int32.ofNat z1) (e2 : i2 &&& Int32.ofNat 1048575 = Int32.ofNat z2) (e3 : i3 &&& Int32.ofNat 1048575 = Int32.ofNat z3) (e4 : i4 &&& Int32.ofNat 1048575 = Int32.ofNat z4) {x_ y_ w : Nat} (z_ : (Nat.add (Nat.xor x_ 590295810358705651712) (Nat.xor y_ 11)) = 0) (e_ : w = 590295810358705651724) : Fx.sem E_ 8 (Fx.av (rho z1 z2 z3 z4 i0 i1 i2 i3 i4) x_) (Fx.av (rho z1 z2 z3 z4 i0 i1 i2 i3 i4) y_) = some (Fx.av (rho z1 z2 z3 z4 i0 i1 i2 i3 i4) w) := by
  obtain ⟨zx, zy⟩ := Fx.add0 z_; rw [e_, Fx.xor0 zx, Fx.xor0 zy]; exact Fx.row_ (X := (.int ((rho z1 z2 z3 z4 i0 i1 i2 i3 i4).1 0))) (Y := (.int (Int32.ofNat 11))) (V := (.int ((rho z1 z2 z3 z4 i0 i1 i2 i3 i4).1 12))) (Fx.av_of (t := 1) (n := 0) (by decide) (by decide)) (Fx.av_int (by decide)) (Fx.av_of (t := 1) (n := 12) (by decide) (by decide)) (bn_ok rfl)
theorem tr_23_0 (b1 : z1 < 1048576) (b2 : z2 < 1048576) (b3 : z3 < 1048576) (b4 : z4 < 1048576) {i0 i1 i2 i3 i4 : Int32} {p2 p3 p4 r x y : Nat} (m2 : p2 < 8) (m3 : p3 < 8) (m4 : p4 < 8) (mr : r < 8) (mx : x < 8) (my : y < 8) (h2 : i0 &&& Int32.ofNat 1 = Int32.ofNat p2) (h3 : (XT.ushr i0 (Int32.ofNat 1) &&& Int32.ofNat 3) % Int32.ofNat 3 = Int32.ofNat p3) (h4 : XT.ushr i0 (Int32.ofNat 3) &&& Int32.ofNat 3 = Int32.ofNat p4) (hr : (XT.ushr i0 (Int32.ofNat 5) &&& Int32.ofNat 7) % Int32.ofNat 5 = Int32.ofNat r) (hx : (XT.ushr i0 (Int32.ofNat 8) &&& Int32.ofNat 7) % Int32.ofNat 5 = Int32.ofNat x) (hy : (XT.ushr i0 (Int32.ofNat 11) &&& Int32.ofNat 7) % Int32.ofNat 5 = Int32.ofNat y) (e1 : i1 &&& Int32.ofNat 1048575 = Int32.ofNat z1) (e2 : i2 &&& Int32.ofNat 1048575 = Int32.ofNat z2) (e3 : i3 &&& Int32.ofNat 1048575 = Int32.ofNat z3) (e4 : i4 &&& Int32.ofNat 1048575 = Int32.ofNat z4) {x_ y_ w : Nat} (z_ : (Nat.add (Nat.xor x_ 590295810358705651718) (Nat.xor y_ 3)) = 0) (e_ : w = p3) : Fx.sem E_ 23 (Fx.av (rho z1 z2 z3 z4 i0 i1 i2 i3 i4) x_) (Fx.av (rho z1 z2 z3 z4 i0 i1 i2 i3 i4) y_) = some (Fx.av (rho z1 z2 z3 z4 i0 i1 i2 i3 i4) w) := by
  obtain ⟨zx, zy⟩ := Fx.add0 z_; rw [e_, Fx.xor0 zx, Fx.xor0 zy]; exact Fx.row_ (X := (.int ((rho z1 z2 z3 z4 i0 i1 i2 i3 i4).1 6))) (Y := (.int (Int32.ofNat 3))) (V := (.int (Int32.ofNat p3))) (Fx.av_of (t := 1) (n := 6) (by decide) (by decide)) (Fx.av_int (by decide)) (Fx.av_int (by omega)) (rem_ok (by decide) h3)
theorem tr_23_1 (b1 : z1 < 1048576) (b2 : z2 < 1048576) (b3 : z3 < 1048576) (b4 : z4 < 1048576) {i0 i1 i2 i3 i4 : Int32} {p2 p3 p4 r x y : Nat} (m2 : p2 < 8) (m3 : p3 < 8) (m4 : p4 < 8) (mr : r < 8) (mx : x < 8) (my : y < 8) (h2 : i0 &&& Int32.ofNat 1 = Int32.ofNat p2) (h3 : (XT.ushr i0 (Int32.ofNat 1) &&& Int32.ofNat 3) % Int32.ofNat 3 = Int32.ofNat p3) (h4 : XT.ushr i0 (Int32.ofNat 3) &&& Int32.ofNat 3 = Int32.ofNat p4) (hr : (XT.ushr i0 (Int32.ofNat 5) &&& Int32.ofNat 7) % Int32.ofNat 5 = Int32.ofNat r) (hx : (XT.ushr i0 (Int32.ofNat 8) &&& Int32.ofNat 7) % Int32.ofNat 5 = Int32.ofNat x) (hy : (XT.ushr i0 (Int32.ofNat 11) &&& Int32.ofNat 7) % Int32.ofNat 5 = Int32.ofNat y) (e1 : i1 &&& Int32.ofNat 1048575 = Int32.ofNat z1) (e2 : i2 &&& Int32.ofNat 1048575 = Int32.ofNat z2) (e3 : i3 &&& Int32.ofNat 1048575 = Int32.ofNat z3) (e4 : i4 &&& Int32.ofNat 1048575 = Int32.ofNat z4) {x_ y_ w : Nat} (z_ : (Nat.add (Nat.xor x_ 590295810358705651721) (Nat.xor y_ 5)) = 0) (e_ : w = r) : Fx.sem E_ 23 (Fx.av (rho z1 z2 z3 z4 i0 i1 i2 i3 i4) x_) (Fx.av (rho z1 z2 z3 z4 i0 i1 i2 i3 i4) y_) = some (Fx.av (rho z1 z2 z3 z4 i0 i1 i2 i3 i4) w) := by
  obtain ⟨zx, zy⟩ := Fx.add0 z_; rw [e_, Fx.xor0 zx, Fx.xor0 zy]; exact Fx.row_ (X := (.int ((rho z1 z2 z3 z4 i0 i1 i2 i3 i4).1 9))) (Y := (.int (Int32.ofNat 5))) (V := (.int (Int32.ofNat r))) (Fx.av_of (t := 1) (n := 9) (by decide) (by decide)) (Fx.av_int (by decide)) (Fx.av_int (by omega)) (rem_ok (by decide) hr)
theorem tr_23_2 (b1 : z1 < 1048576) (b2 : z2 < 1048576) (b3 : z3 < 1048576) (b4 : z4 < 1048576) {i0 i1 i2 i3 i4 : Int32} {p2 p3 p4 r x y : Nat} (m2 : p2 < 8) (m3 : p3 < 8) (m4 : p4 < 8) (mr : r < 8) (mx : x < 8) (my : y < 8) (h2 : i0 &&& Int32.ofNat 1 = Int32.ofNat p2) (h3 : (XT.ushr i0 (Int32.ofNat 1) &&& Int32.ofNat 3) % Int32.ofNat 3 = Int32.ofNat p3) (h4 : XT.ushr i0 (Int32.ofNat 3) &&& Int32.ofNat 3 = Int32.ofNat p4) (hr : (XT.ushr i0 (Int32.ofNat 5) &&& Int32.ofNat 7) % Int32.ofNat 5 = Int32.ofNat r) (hx : (XT.ushr i0 (Int32.ofNat 8) &&& Int32.ofNat 7) % Int32.ofNat 5 = Int32.ofNat x) (hy : (XT.ushr i0 (Int32.ofNat 11) &&& Int32.ofNat 7) % Int32.ofNat 5 = Int32.ofNat y) (e1 : i1 &&& Int32.ofNat 1048575 = Int32.ofNat z1) (e2 : i2 &&& Int32.ofNat 1048575 = Int32.ofNat z2) (e3 : i3 &&& Int32.ofNat 1048575 = Int32.ofNat z3) (e4 : i4 &&& Int32.ofNat 1048575 = Int32.ofNat z4) {x_ y_ w : Nat} (z_ : (Nat.add (Nat.xor x_ 590295810358705651723) (Nat.xor y_ 5)) = 0) (e_ : w = x) : Fx.sem E_ 23 (Fx.av (rho z1 z2 z3 z4 i0 i1 i2 i3 i4) x_) (Fx.av (rho z1 z2 z3 z4 i0 i1 i2 i3 i4) y_) = some (Fx.av (rho z1 z2 z3 z4 i0 i1 i2 i3 i4) w) := by
  obtain ⟨zx, zy⟩ := Fx.add0 z_; rw [e_, Fx.xor0 zx, Fx.xor0 zy]; exact Fx.row_ (X := (.int ((rho z1 z2 z3 z4 i0 i1 i2 i3 i4).1 11))) (Y := (.int (Int32.ofNat 5))) (V := (.int (Int32.ofNat x))) (Fx.av_of (t := 1) (n := 11) (by decide) (by decide)) (Fx.av_int (by decide)) (Fx.av_int (by omega)) (rem_ok (by decide) hx)
theorem tr_23_3 (b1 : z1 < 1048576) (b2 : z2 < 1048576) (b3 : z3 < 1048576) (b4 : z4 < 1048576) {i0 i1 i2 i3 i4 : Int32} {p2 p3 p4 r x y : Nat} (m2 : p2 < 8) (m3 : p3 < 8) (m4 : p4 < 8) (mr : r < 8) (mx : x < 8) (my : y < 8) (h2 : i0 &&& Int32.ofNat 1 = Int32.ofNat p2) (h3 : (XT.ushr i0 (Int32.ofNat 1) &&& Int32.ofNat 3) % Int32.ofNat 3 = Int32.ofNat p3) (h4 : XT.ushr i0 (Int32.ofNat 3) &&& Int32.ofNat 3 = Int32.ofNat p4) (hr : (XT.ushr i0 (Int32.ofNat 5) &&& Int32.ofNat 7) % Int32.ofNat 5 = Int32.ofNat r) (hx : (XT.ushr i0 (Int32.ofNat 8) &&& Int32.ofNat 7) % Int32.ofNat 5 = Int32.ofNat x) (hy : (XT.ushr i0 (Int32.ofNat 11) &&& Int32.ofNat 7) % Int32.ofNat 5 = Int32.ofNat y) (e1 : i1 &&& Int32.ofNat 1048575 = Int32.ofNat z1) (e2 : i2 &&& Int32.ofNat 1048575 = Int32.ofNat z2) (e3 : i3 &&& Int32.ofNat 1048575 = Int32.ofNat z3) (e4 : i4 &&& Int32.ofNat 1048575 = Int32.ofNat z4) {x_ y_ w : Nat} (z_ : (Nat.add (Nat.xor x_ 590295810358705651725) (Nat.xor y_ 5)) = 0) (e_ : w = y) : Fx.sem E_ 23 (Fx.av (rho z1 z2 z3 z4 i0 i1 i2 i3 i4) x_) (Fx.av (rho z1 z2 z3 z4 i0 i1 i2 i3 i4) y_) = some (Fx.av (rho z1 z2 z3 z4 i0 i1 i2 i3 i4) w) := by
  obtain ⟨zx, zy⟩ := Fx.add0 z_; rw [e_, Fx.xor0 zx, Fx.xor0 zy]; exact Fx.row_ (X := (.int ((rho z1 z2 z3 z4 i0 i1 i2 i3 i4).1 13))) (Y := (.int (Int32.ofNat 5))) (V := (.int (Int32.ofNat y))) (Fx.av_of (t := 1) (n := 13) (by decide) (by decide)) (Fx.av_int (by decide)) (Fx.av_int (by omega)) (rem_ok (by decide) hy)
set_option maxRecDepth 100000 in
set_option maxHeartbeats 4000000 in
theorem tok_ (b1 : z1 < 1048576) (b2 : z2 < 1048576) (b3 : z3 < 1048576) (b4 : z4 < 1048576) {i0 i1 i2 i3 i4 : Int32} {p2 p3 p4 r x y : Nat} (m2 : p2 < 8) (m3 : p3 < 8) (m4 : p4 < 8) (mr : r < 8) (mx : x < 8) (my : y < 8) (h2 : i0 &&& Int32.ofNat 1 = Int32.ofNat p2) (h3 : (XT.ushr i0 (Int32.ofNat 1) &&& Int32.ofNat 3) % Int32.ofNat 3 = Int32.ofNat p3) (h4 : XT.ushr i0 (Int32.ofNat 3) &&& Int32.ofNat 3 = Int32.ofNat p4) (hr : (XT.ushr i0 (Int32.ofNat 5) &&& Int32.ofNat 7) % Int32.ofNat 5 = Int32.ofNat r) (hx : (XT.ushr i0 (Int32.ofNat 8) &&& Int32.ofNat 7) % Int32.ofNat 5 = Int32.ofNat x) (hy : (XT.ushr i0 (Int32.ofNat 11) &&& Int32.ofNat 7) % Int32.ofNat 5 = Int32.ofNat y) (e1 : i1 &&& Int32.ofNat 1048575 = Int32.ofNat z1) (e2 : i2 &&& Int32.ofNat 1048575 = Int32.ofNat z2) (e3 : i3 &&& Int32.ofNat 1048575 = Int32.ofNat z3) (e4 : i4 &&& Int32.ofNat 1048575 = Int32.ofNat z4) : Fx.TOk (rho z1 z2 z3 z4 i0 i1 i2 i3 i4) E_ (T_ p2 p3 p4 r x y) := by
  intro o x_ y_ w h
  unfold T_ at h
  refine (Fx.grp_ok h).elim (fun q_ => ?_) (fun h => ?_)
  · rw [q_.1]
    have h := q_.2
    refine (Fx.tr_ok h).elim (fun q_ => tr_21_0 b1 b2 b3 b4 m2 m3 m4 mr mx my h2 h3 h4 hr hx hy e1 e2 e3 e4 q_.1 q_.2) (fun h => ?_)
    refine (Fx.tr_ok h).elim (fun q_ => tr_21_1 b1 b2 b3 b4 m2 m3 m4 mr mx my h2 h3 h4 hr hx hy e1 e2 e3 e4 q_.1 q_.2) (fun h => ?_)
    refine (Fx.tr_ok h).elim (fun q_ => tr_21_2 b1 b2 b3 b4 m2 m3 m4 mr mx my h2 h3 h4 hr hx hy e1 e2 e3 e4 q_.1 q_.2) (fun h => ?_)
    refine (Fx.tr_ok h).elim (fun q_ => tr_21_3 b1 b2 b3 b4 m2 m3 m4 mr mx my h2 h3 h4 hr hx hy e1 e2 e3 e4 q_.1 q_.2) (fun h => ?_)
    cases h
  refine (Fx.grp_ok h).elim (fun q_ => ?_) (fun h => ?_)
  · rw [q_.1]
    have h := q_.2
    refine (Fx.tr_ok h).elim (fun q_ => tr_46_0 b1 b2 b3 b4 m2 m3 m4 mr mx my h2 h3 h4 hr hx hy e1 e2 e3 e4 q_.1 q_.2) (fun h => ?_)
    cases h
  refine (Fx.grp_ok h).elim (fun q_ => ?_) (fun h => ?_)
  · rw [q_.1]
    have h := q_.2
    refine (Fx.tr_ok h).elim (fun q_ => tr_45_0 b1 b2 b3 b4 m2 m3 m4 mr mx my h2 h3 h4 hr hx hy e1 e2 e3 e4 q_.1 q_.2) (fun h => ?_)
    cases h
  refine (Fx.grp_ok h).elim (fun q_ => ?_) (fun h => ?_)
  · rw [q_.1]
    have h := q_.2
    refine (Fx.tr_ok h).elim (fun q_ => tr_100_0 b1 b2 b3 b4 m2 m3 m4 mr mx my h2 h3 h4 hr hx hy e1 e2 e3 e4 q_.1 q_.2) (fun h => ?_)
    refine (Fx.tr_ok h).elim (fun q_ => tr_100_1 b1 b2 b3 b4 m2 m3 m4 mr mx my h2 h3 h4 hr hx hy e1 e2 e3 e4 q_.1 q_.2) (fun h => ?_)
    cases h
  refine (Fx.grp_ok h).elim (fun q_ => ?_) (fun h => ?_)
  · rw [q_.1]
    have h := q_.2
    refine (Fx.tr_ok h).elim (fun q_ => tr_20_0 b1 b2 b3 b4 m2 m3 m4 mr mx my h2 h3 h4 hr hx hy e1 e2 e3 e4 q_.1 q_.2) (fun h => ?_)
    refine (Fx.tr_ok h).elim (fun q_ => tr_20_1 b1 b2 b3 b4 m2 m3 m4 mr mx my h2 h3 h4 hr hx hy e1 e2 e3 e4 q_.1 q_.2) (fun h => ?_)
    cases h
  refine (Fx.grp_ok h).elim (fun q_ => ?_) (fun h => ?_)
  · rw [q_.1]
    have h := q_.2
    refine (Fx.tr_ok h).elim (fun q_ => tr_26_0 b1 b2 b3 b4 m2 m3 m4 mr mx my h2 h3 h4 hr hx hy e1 e2 e3 e4 q_.1 q_.2) (fun h => ?_)
    refine (Fx.tr_ok h).elim (fun q_ => tr_26_1 b1 b2 b3 b4 m2 m3 m4 mr mx my h2 h3 h4 hr hx hy e1 e2 e3 e4 q_.1 q_.2) (fun h => ?_)
    cases h
  refine (Fx.grp_ok h).elim (fun q_ => ?_) (fun h => ?_)
  · rw [q_.1]
    have h := q_.2
    refine (Fx.tr_ok h).elim (fun q_ => tr_12_0 b1 b2 b3 b4 m2 m3 m4 mr mx my h2 h3 h4 hr hx hy e1 e2 e3 e4 q_.1 q_.2) (fun h => ?_)
    refine (Fx.tr_ok h).elim (fun q_ => tr_12_1 b1 b2 b3 b4 m2 m3 m4 mr mx my h2 h3 h4 hr hx hy e1 e2 e3 e4 q_.1 q_.2) (fun h => ?_)
    cases h
  refine (Fx.grp_ok h).elim (fun q_ => ?_) (fun h => ?_)
  · rw [q_.1]
    have h := q_.2
    refine (Fx.tr_ok h).elim (fun q_ => tr_10_0 b1 b2 b3 b4 m2 m3 m4 mr mx my h2 h3 h4 hr hx hy e1 e2 e3 e4 q_.1 q_.2) (fun h => ?_)
    refine (Fx.tr_ok h).elim (fun q_ => tr_10_1 b1 b2 b3 b4 m2 m3 m4 mr mx my h2 h3 h4 hr hx hy e1 e2 e3 e4 q_.1 q_.2) (fun h => ?_)
    refine (Fx.tr_ok h).elim (fun q_ => tr_10_2 b1 b2 b3 b4 m2 m3 m4 mr mx my h2 h3 h4 hr hx hy e1 e2 e3 e4 q_.1 q_.2) (fun h => ?_)
    cases h
  refine (Fx.grp_ok h).elim (fun q_ => ?_) (fun h => ?_)
  · rw [q_.1]
    have h := q_.2
    refine (Fx.tr_ok h).elim (fun q_ => tr_39_0 b1 b2 b3 b4 m2 m3 m4 mr mx my h2 h3 h4 hr hx hy e1 e2 e3 e4 q_.1 q_.2) (fun h => ?_)
    refine (Fx.tr_ok h).elim (fun q_ => tr_39_1 b1 b2 b3 b4 m2 m3 m4 mr mx my h2 h3 h4 hr hx hy e1 e2 e3 e4 q_.1 q_.2) (fun h => ?_)
    cases h
  refine (Fx.grp_ok h).elim (fun q_ => ?_) (fun h => ?_)
  · rw [q_.1]
    have h := q_.2
    refine (Fx.tr_ok h).elim (fun q_ => tr_33_0 b1 b2 b3 b4 m2 m3 m4 mr mx my h2 h3 h4 hr hx hy e1 e2 e3 e4 q_.1 q_.2) (fun h => ?_)
    refine (Fx.tr_ok h).elim (fun q_ => tr_33_1 b1 b2 b3 b4 m2 m3 m4 mr mx my h2 h3 h4 hr hx hy e1 e2 e3 e4 q_.1 q_.2) (fun h => ?_)
    refine (Fx.tr_ok h).elim (fun q_ => tr_33_2 b1 b2 b3 b4 m2 m3 m4 mr mx my h2 h3 h4 hr hx hy e1 e2 e3 e4 q_.1 q_.2) (fun h => ?_)
    refine (Fx.tr_ok h).elim (fun q_ => tr_33_3 b1 b2 b3 b4 m2 m3 m4 mr mx my h2 h3 h4 hr hx hy e1 e2 e3 e4 q_.1 q_.2) (fun h => ?_)
    cases h
  refine (Fx.grp_ok h).elim (fun q_ => ?_) (fun h => ?_)
  · rw [q_.1]
    have h := q_.2
    refine (Fx.tr_ok h).elim (fun q_ => tr_3_0 b1 b2 b3 b4 m2 m3 m4 mr mx my h2 h3 h4 hr hx hy e1 e2 e3 e4 q_.1 q_.2) (fun h => ?_)
    refine (Fx.tr_ok h).elim (fun q_ => tr_3_1 b1 b2 b3 b4 m2 m3 m4 mr mx my h2 h3 h4 hr hx hy e1 e2 e3 e4 q_.1 q_.2) (fun h => ?_)
    refine (Fx.tr_ok h).elim (fun q_ => tr_3_2 b1 b2 b3 b4 m2 m3 m4 mr mx my h2 h3 h4 hr hx hy e1 e2 e3 e4 q_.1 q_.2) (fun h => ?_)
    refine (Fx.tr_ok h).elim (fun q_ => tr_3_3 b1 b2 b3 b4 m2 m3 m4 mr mx my h2 h3 h4 hr hx hy e1 e2 e3 e4 q_.1 q_.2) (fun h => ?_)
    refine (Fx.tr_ok h).elim (fun q_ => tr_3_4 b1 b2 b3 b4 m2 m3 m4 mr mx my h2 h3 h4 hr hx hy e1 e2 e3 e4 q_.1 q_.2) (fun h => ?_)
    refine (Fx.tr_ok h).elim (fun q_ => tr_3_5 b1 b2 b3 b4 m2 m3 m4 mr mx my h2 h3 h4 hr hx hy e1 e2 e3 e4 q_.1 q_.2) (fun h => ?_)
    refine (Fx.tr_ok h).elim (fun q_ => tr_3_6 b1 b2 b3 b4 m2 m3 m4 mr mx my h2 h3 h4 hr hx hy e1 e2 e3 e4 q_.1 q_.2) (fun h => ?_)
    refine (Fx.tr_ok h).elim (fun q_ => tr_3_7 b1 b2 b3 b4 m2 m3 m4 mr mx my h2 h3 h4 hr hx hy e1 e2 e3 e4 q_.1 q_.2) (fun h => ?_)
    refine (Fx.tr_ok h).elim (fun q_ => tr_3_8 b1 b2 b3 b4 m2 m3 m4 mr mx my h2 h3 h4 hr hx hy e1 e2 e3 e4 q_.1 q_.2) (fun h => ?_)
    refine (Fx.tr_ok h).elim (fun q_ => tr_3_9 b1 b2 b3 b4 m2 m3 m4 mr mx my h2 h3 h4 hr hx hy e1 e2 e3 e4 q_.1 q_.2) (fun h => ?_)
    cases h
  refine (Fx.grp_ok h).elim (fun q_ => ?_) (fun h => ?_)
  · rw [q_.1]
    have h := q_.2
    refine (Fx.tr_ok h).elim (fun q_ => tr_8_0 b1 b2 b3 b4 m2 m3 m4 mr mx my h2 h3 h4 hr hx hy e1 e2 e3 e4 q_.1 q_.2) (fun h => ?_)
    refine (Fx.tr_ok h).elim (fun q_ => tr_8_1 b1 b2 b3 b4 m2 m3 m4 mr mx my h2 h3 h4 hr hx hy e1 e2 e3 e4 q_.1 q_.2) (fun h => ?_)
    refine (Fx.tr_ok h).elim (fun q_ => tr_8_2 b1 b2 b3 b4 m2 m3 m4 mr mx my h2 h3 h4 hr hx hy e1 e2 e3 e4 q_.1 q_.2) (fun h => ?_)
    refine (Fx.tr_ok h).elim (fun q_ => tr_8_3 b1 b2 b3 b4 m2 m3 m4 mr mx my h2 h3 h4 hr hx hy e1 e2 e3 e4 q_.1 q_.2) (fun h => ?_)
    refine (Fx.tr_ok h).elim (fun q_ => tr_8_4 b1 b2 b3 b4 m2 m3 m4 mr mx my h2 h3 h4 hr hx hy e1 e2 e3 e4 q_.1 q_.2) (fun h => ?_)
    cases h
  refine (Fx.grp_ok h).elim (fun q_ => ?_) (fun h => ?_)
  · rw [q_.1]
    have h := q_.2
    refine (Fx.tr_ok h).elim (fun q_ => tr_23_0 b1 b2 b3 b4 m2 m3 m4 mr mx my h2 h3 h4 hr hx hy e1 e2 e3 e4 q_.1 q_.2) (fun h => ?_)
    refine (Fx.tr_ok h).elim (fun q_ => tr_23_1 b1 b2 b3 b4 m2 m3 m4 mr mx my h2 h3 h4 hr hx hy e1 e2 e3 e4 q_.1 q_.2) (fun h => ?_)
    refine (Fx.tr_ok h).elim (fun q_ => tr_23_2 b1 b2 b3 b4 m2 m3 m4 mr mx my h2 h3 h4 hr hx hy e1 e2 e3 e4 q_.1 q_.2) (fun h => ?_)
    refine (Fx.tr_ok h).elim (fun q_ => tr_23_3 b1 b2 b3 b4 m2 m3 m4 mr mx my h2 h3 h4 hr hx hy e1 e2 e3 e4 q_.1 q_.2) (fun h => ?_)
    cases h
  cases h
end Table
theorem start_ {z1 z2 z3 z4 : Nat} {i0 i1 i2 i3 i4 : Int32} : Fx.avL (rho z1 z2 z3 z4 i0 i1 i2 i3 i4) (E_.2.1 0) 327733377151013857161410101879040394999514862242391068825094234849933665841758559458693528023052312230645358047188891749825509095281464676897221700941950781145067496824353644869692455118699013757743628587859540234724176678563698650300470727686493105542219464908116845998501988117338918682916818398335104527380635390910137080116274937736446122789605988651151931169164216832246715532439376224653873835789929602518718279103205434657101116077254552378182044656470421735295430681984252324574458171258357261145348941311694760418092325363189553819786479364177830618929085595964496952349148401820663106630685633434090367552396140382384512881886541830422528 = Own.aL [.int i0, .int i1, .int i2, .int i3, .int i4] (E_.2.1 0) := by
  have e0 : (327733377151013857161410101879040394999514862242391068825094234849933665841758559458693528023052312230645358047188891749825509095281464676897221700941950781145067496824353644869692455118699013757743628587859540234724176678563698650300470727686493105542219464908116845998501988117338918682916818398335104527380635390910137080116274937736446122789605988651151931169164216832246715532439376224653873835789929602518718279103205434657101116077254552378182044656470421735295430681984252324574458171258357261145348941311694760418092325363189553819786479364177830618929085595964496952349148401820663106630685633434090367552396140382384512881886541830422528 : Nat) = Fx.psh (Fx.psh (Fx.psh (Fx.psh (Fx.psh (Fx.psh 104983912659409982377021502311701599134869679603535133419873127275139502037525232762053801997017144282241320278377726075879241823403969818345315124558294385413279846373651885953455628543899374634328584389985345013970749188755551805720531302461067936076476421192618483387418219575242739887823249138564937302763236687432782680625785284854605440652402830813582905283302595257686783010191089143680693296339179881847585247166965544155230729922235640343963490026219552365200173254442613739892470899366122487808 590295810358705651716) 590295810358705651715) 590295810358705651714) 590295810358705651713) 590295810358705651712) 0 := by decide +kernel
  show Fx.avL (rho z1 z2 z3 z4 i0 i1 i2 i3 i4) 26 _ = Own.aL [.int i0, .int i1, .int i2, .int i3, .int i4] 26
  rw [e0, Fx.avL_salt (by decide), Fx.avL_psh, Fx.avL_psh, Fx.avL_psh, Fx.avL_psh, Fx.avL_psh]
  · rw [Fx.avL_unsets (n := 21) (by decide +kernel), Fx.slot_ (V := (.int ((rho z1 z2 z3 z4 i0 i1 i2 i3 i4).1 0))) (by decide) (Fx.av_of (t := 1) (n := 0) (by decide) (by decide)), Fx.slot_ (V := (.int ((rho z1 z2 z3 z4 i0 i1 i2 i3 i4).1 1))) (by decide) (Fx.av_of (t := 1) (n := 1) (by decide) (by decide)), Fx.slot_ (V := (.int ((rho z1 z2 z3 z4 i0 i1 i2 i3 i4).1 2))) (by decide) (Fx.av_of (t := 1) (n := 2) (by decide) (by decide)), Fx.slot_ (V := (.int ((rho z1 z2 z3 z4 i0 i1 i2 i3 i4).1 3))) (by decide) (Fx.av_of (t := 1) (n := 3) (by decide) (by decide)), Fx.slot_ (V := (.int ((rho z1 z2 z3 z4 i0 i1 i2 i3 i4).1 4))) (by decide) (Fx.av_of (t := 1) (n := 4) (by decide) (by decide))]
    rfl
  all_goals decide
theorem good (i0 i1 i2 i3 i4 : Int32) : ∃ fuel, Good E_ fuel [.int i0, .int i1, .int i2, .int i3, .int i4] [] 24 192 6 160 := by
  obtain ⟨p2, l2, h2⟩ := Fx.bits 1 (by decide) i0
  obtain ⟨q3, l3, h3⟩ := Fx.bits 2 (by decide) (XT.ushr i0 (Int32.ofNat 1))
  obtain ⟨p4, l4, h4⟩ := Fx.bits 2 (by decide) (XT.ushr i0 (Int32.ofNat 3))
  obtain ⟨qr, lr, hr⟩ := Fx.bits 3 (by decide) (XT.ushr i0 (Int32.ofNat 5))
  obtain ⟨qx, lx, hx⟩ := Fx.bits 3 (by decide) (XT.ushr i0 (Int32.ofNat 8))
  obtain ⟨qy, ly, hy⟩ := Fx.bits 3 (by decide) (XT.ushr i0 (Int32.ofNat 11))
  obtain ⟨z1, b1, e1⟩ := Fx.bits 20 (by decide) i1
  obtain ⟨z2, b2, e2⟩ := Fx.bits 20 (by decide) i2
  obtain ⟨z3, b3, e3⟩ := Fx.bits 20 (by decide) i3
  obtain ⟨z4, b4, e4⟩ := Fx.bits 20 (by decide) i4
  have hR : ∀ {w : Int32} {m q k : Nat} (h : w &&& Int32.ofNat m = Int32.ofNat q) (hq : q < 8) (hk : k < 8), (w &&& Int32.ofNat m) % Int32.ofNat k = Int32.ofNat (Nat.mod q k) := by
    intro w m q k h hq hk
    rw [h, Fx.b_rem q k (by omega) (by omega)]
  have M1 : Nat.mod q3 3 < 3 := Nat.mod_lt _ (by decide)
  have M2 : Nat.mod qr 5 < 5 := Nat.mod_lt _ (by decide)
  have M3 : Nat.mod qx 5 < 5 := Nat.mod_lt _ (by decide)
  have M4 : Nat.mod qy 5 < 5 := Nat.mod_lt _ (by decide)
  exact Fx.good_of (ρ := rho z1 z2 z3 z4 i0 i1 i2 i3 i4) (E := E_) (bb_ (tok_ b1 b2 b3 b4 (by omega) (by omega) (by omega) (by omega) (by omega) (by omega) h2 (hR h3 (by omega) (by decide)) h4 (hR hr (by omega) (by decide)) (hR hx (by omega) (by decide)) (hR hy (by omega) (by decide)) e1 e2 e3 e4)) (all_ (by omega) M1 (by omega) M2 M3 M4) start_ rfl

set_option maxRecDepth 65536 in
set_option maxHeartbeats 40000000 in
theorem comes_1 {Post : Tables → Env → Array Value → State → Outcome → State → Prop} (hpost : ∀ tb e args s v u, (limb_1_1.after args s (.returned v) u = true ∧ limb_1_2.after args s (.returned v) u = true ∧ True) → FrameEnd s (.returned v) u (Jvm.fieldLocs frame_1_writes args s ++ Jvm.arrayLocs frame_1_arrays args s ++ Jvm.staticLocs frame_1_statics s) 24 192 → Post tb e args s (.returned v) u) :
    ArmFor flags0 classFile x code maxLocals ret World_1 tables_1 room_1 Calls_1 rest_1 Pre_1 Post := by
  intro l hfl _ _ p e ha hc hk s m args below hf hA hF happ hP
  obtain ⟨hcalls, hrest, hpre⟩ := hP
  obtain ⟨-, -, -, hnamed, -, -, -, hat⟩ := (Spec.applies_iff hf).mp happ
  obtain ⟨hg, hn⟩ := and_e (Cond.before_iff.mp (show (Jvm.Cond.and given_1 narrow_1).before args s = true from hpre))
  obtain ⟨h1, h2⟩ := and_e hg
  obtain ⟨q0, r0⟩ := and_e h2
  obtain ⟨q1, r1⟩ := and_e r0
  obtain ⟨q2, r2⟩ := and_e r1
  obtain ⟨q3, r3⟩ := and_e r2
  obtain ⟨w0, w1, w2, w3, w4, rfl⟩ : ∃ w0 w1 w2 w3 w4 : Value, args = #[w0, w1, w2, w3, w4] := by
    have hs : args.size = 5 := by simpa [Cond.value, given_1] using h1
    obtain ⟨L⟩ := args
    match L, hs with
    | [w0, w1, w2, w3, w4], _ => exact ⟨w0, w1, w2, w3, w4, rfl⟩
  have hw := fun d (hd : d ∈ tables_1) => atoms_spec (ws := Jvm.Cond.code x code maxLocals ret :: tables_1) hat d (List.mem_cons_of_mem _ hd)
  obtain ⟨i0, e0⟩ := is_v q0
  obtain rfl : w0 = (.int i0) := Option.some.inj e0
  obtain ⟨i1, e1⟩ := is_v q1
  obtain rfl : w1 = (.int i1) := Option.some.inj e1
  obtain ⟨i2, e2⟩ := is_v q2
  obtain rfl : w2 = (.int i2) := Option.some.inj e2
  obtain ⟨i3, e3⟩ := is_v q3
  obtain rfl : w3 = (.int i3) := Option.some.inj e3
  obtain ⟨i4, e4⟩ := is_v r3
  obtain rfl : w4 = (.int i4) := Option.some.inj e4

  obtain ⟨fuel_, o1, o2, cs, A1, k1, n1, f1, w1, hrun, hcs, hk1, hn1, hf1, hw1⟩ := good i0 i1 i2 i3 i4
  have Rp := (Rep.start (Z := s) (kc := kc_) (Nat.le_refl s.heap.size) (fun _ => 0))
  have met := (run_sound (n0 := s.heap.size) (kok_ hw) (mok_ hw) fuel_).met (M := 0) (as := [.int i0, .int i1, .int i2, .int i3, .int i4]) hrun hcs (Nat.le_of_ble_eq_true rfl) pl_0 Rp (fc (trivial) (fc (trivial) (fc (trivial) (fc (trivial) (fc (trivial) (fn)))))) l tables_1 room_1 hk1 hn1 hf1 hw1
  obtain ⟨n, o, h1, h2, h3, _, L, rfl, ⟨g1, rfl, -, N, -⟩, hq⟩ := met p e ha hc hk s m _ below hf ((Spec.applies_iff_loose hf).mp happ).1 ⟨rfl, State.Warmed39.refl s, rfl⟩ trivial
  refine ⟨n, _, h1, h2, h3, hpost _ _ _ _ _ _ ⟨Cond.after_iff.mpr rfl, Cond.after_iff.mpr (eq_i res_at (Term.int_eval (1)) rfl), trivial⟩ ⟨hq.1, hq.2.1, (hq.2.2.sift fun y hy => Or.inr (N y hy)).mono hk1 hn1⟩⟩
theorem main_1_1 : Claimed_1_1 := comes_1 fun _ _ _ _ _ _ h hF => ⟨h.1, hF⟩
theorem main_1_2 : Claimed_1_2 := comes_1 fun _ _ _ _ _ _ h hF => ⟨h.2.1, hF⟩
end Jvm.Pilot.@@N@@
namespace Jvm.Pilot.@@N@@
open Jvm Jvm.ClassFile Sem Op Lib Jvm.Free Jvm.Stand Jvm.Pilot.@@N@@.Jvm.D
/-! MADE BY PROGRAM (witnessworld.py) out of the Statement's table words and the real class files: 18 classes; the members and pool entries that the words name. The judged class is class 1, her method 1. -/
namespace start1
open Jvm.ClassFile
def u (s : String) : CpInfo := .utf8 (stringToUtf16 s)
/-- a pool by its gaps: so many unusable entries, then the entry; so many at the end -/
def gap : Nat → List CpInfo → List CpInfo
  | 0, r => r
  | n + 1, r => .unusable :: gap n r
def poolList (es : List (Nat × CpInfo)) (last : Nat) : List CpInfo := es.foldr (fun e r => gap e.1 (e.2 :: r)) (gap last [])
def pool (es : List (Nat × CpInfo)) (last : Nat) : Array CpInfo := ⟨poolList es last⟩
def fileOf (pool : Array CpInfo) (this : Nat) (attrs : Array Attribute := #[]) (ms : Array MethodInfo := #[]) (fl : Nat := 33) (sup : Nat := 0) (ifs : Array Nat := #[]) (fds : Array FieldInfo := #[]) : ClassFile where
  minorVersion := 0
  majorVersion := 65
  constantPool := pool
  accessFlags := fl
  thisClass := this
  superClass := sup
  interfaces := ifs
  fields := fds
  methods := ms
  attributes := attrs
def plain (name : String) (sup : Option ClassId) : Class where
  name := name
  kind := .ordinary
  loader := none
  accessFlags := 33
  super := sup
  interfaces := #[]
  cf := none
  fields := #[]
  methods := #[]
  instanceTypes := #[]
  staticTypes := #[]
  resolved := #[]
  callSites := []
  init := .initialized
  statics := none
  mirror := none

def pool0 : Array CpInfo := pool [(5, u "<init>"), (0, u "()V"), (1, .class_ 10), (1, u "java/lang/Object"), (85, u "clone"), (0, u "()Ljava/lang/Object;")] 26

def k0c0 : Code := { maxStack := 0, maxLocals := 1, code := object_method_1_code, exceptionTable := #[], attributes := #[] }
def k0m0 : Method := { name := "<init>", desc := "()V", sig := { parameters := [], returnType := none }, accessFlags := 1, code := some k0c0 }
def k0m1 : Method := { name := "clone", desc := "()Ljava/lang/Object;", sig := { parameters := [], returnType := some (.object "java/lang/Object") }, accessFlags := 260, code := none }
/-- java/lang/Object -/
def k0 : Class := { plain "java/lang/Object" none with
  accessFlags := 33
  interfaces := #[]
  cf := some (fileOf pool0 8 #[] #[{ accessFlags := 1, nameIndex := 5, descriptorIndex := 6, attributes := #[] }, { accessFlags := 260, nameIndex := 96, descriptorIndex := 97, attributes := #[] }] 33 0 #[] #[])
  fields := #[]
  methods := #[k0m0, k0m1]
  instanceTypes := #[]
  staticTypes := #[]
  resolved := Array.replicate 124 none
  statics := none }

def pool1 : Array CpInfo := pool [(2, .class_ 4), (1, u "java/lang/Object"), (0, u "<init>"), (0, u "()V"), (0, .integer 1048575), (0, .class_ 9), (0, u "com/example/copse/copse/solver/TreeEmbedding"), (0, .methodref 8 11), (0, .nameAndType 5 12), (0, u "(I[I[D)V"), (0, .methodref 8 14), (0, .nameAndType 15 16), (0, u "distance"), (0, u "(II)D"), (0, .class_ 18), (0, u "com/example/copse/copse/solver/TreeEmbeddingDistancePinLaw"), (2, u "law"), (0, u "(IIIII)Z")] 7

def k1m0 : Method := { name := "<init>", desc := "()V", sig := { parameters := [], returnType := none }, accessFlags := 1, code := none }
def k1c1 : Code := { maxStack := 6, maxLocals := 26, code := code, exceptionTable := #[], attributes := #[] }
def k1m1 : Method := { name := "law", desc := "(IIIII)Z", sig := { parameters := [.int, .int, .int, .int, .int], returnType := some .boolean }, accessFlags := 9, code := some k1c1 }
/-- com/example/copse/copse/solver/TreeEmbeddingDistancePinLaw -/
def k1 : Class := { plain "com/example/copse/copse/solver/TreeEmbeddingDistancePinLaw" (some 0) with
  accessFlags := 49
  interfaces := #[]
  cf := some (fileOf pool1 17 #[] #[{ accessFlags := 1, nameIndex := 5, descriptorIndex := 6, attributes := #[] }, { accessFlags := 9, nameIndex := 21, descriptorIndex := 22, attributes := #[] }] 49 2 #[] #[])
  fields := #[]
  methods := #[k1m0, k1m1]
  instanceTypes := #[]
  staticTypes := #[]
  resolved := Array.replicate 30 none
  statics := none }

def pool2 : Array CpInfo := pool [(1, .methodref 2 3), (0, .class_ 4), (0, .nameAndType 5 6), (0, u "java/lang/Object"), (0, u "<init>"), (0, u "()V"), (14, .methodref 22 23), (0, .class_ 24), (0, .nameAndType 25 26), (0, u "java/lang/Double"), (0, u "isFinite"), (0, u "(D)Z"), (8, .fieldref 36 37), (0, .class_ 38), (0, .nameAndType 39 40), (0, u "com/example/copse/copse/solver/TreeEmbedding"), (0, u "vertexCount"), (0, u "I"), (0, .methodref 42 43), (0, .class_ 44), (0, .nameAndType 45 46), (0, u "[I"), (0, u "clone"), (0, u "()Ljava/lang/Object;"), (0, .fieldref 36 48), (0, .nameAndType 49 44), (0, u "parent"), (0, .methodref 51 43), (0, .class_ 52), (0, u "[D"), (0, .fieldref 36 54), (0, .nameAndType 55 52), (0, u "length"), (0, .fieldref 36 57), (0, .nameAndType 58 40), (0, u "root"), (0, .methodref 36 60), (0, .nameAndType 61 62), (0, u "depths"), (0, u "([II)[I"), (0, .fieldref 36 64), (0, .nameAndType 65 44), (0, u "depth"), (0, .methodref 67 68), (0, .class_ 69), (0, .nameAndType 70 71), (0, u "java/lang/Math"), (0, u "max"), (0, u "(II)I"), (0, .fieldref 36 73), (0, .nameAndType 74 40), (0, u "levels"), (0, .methodref 76 77), (0, .class_ 78), (0, .nameAndType 79 80), (0, u "java/util/Arrays"), (0, u "fill"), (0, u "([II)V"), (57, u "(I[I[D)V"), (0, u "LENGTHS_TOO_LARGE"), (0, u "Ljava/lang/String;"), (1, u "NOT_REACHED"), (1, u "ON_WALK"), (29, u "distance"), (0, u "(II)D")] 35

def k2c0 : Code := { maxStack := 6, maxLocals := 11, code := prog_63_method_1_code, exceptionTable := #[], attributes := #[] }
def k2m0 : Method := { name := "<init>", desc := "(I[I[D)V", sig := { parameters := [.int, (.array .int), (.array .double)], returnType := none }, accessFlags := 1, code := some k2c0 }
def k2c1 : Code := { maxStack := 3, maxLocals := 8, code := prog_63_method_2_code, exceptionTable := #[], attributes := #[] }
def k2m1 : Method := { name := "depths", desc := "([II)[I", sig := { parameters := [(.array .int), .int], returnType := some (.array .int) }, accessFlags := 10, code := some k2c1 }
def k2c2 : Code := { maxStack := 6, maxLocals := 7, code := prog_63_method_23_code, exceptionTable := #[], attributes := #[] }
def k2m2 : Method := { name := "distance", desc := "(II)D", sig := { parameters := [.int, .int], returnType := some .double }, accessFlags := 1, code := some k2c2 }
/-- com/example/copse/copse/solver/TreeEmbedding -/
def k2 : Class := { plain "com/example/copse/copse/solver/TreeEmbedding" (some 0) with
  accessFlags := 33
  interfaces := #[]
  cf := some (fileOf pool2 36 #[] #[{ accessFlags := 1, nameIndex := 5, descriptorIndex := 138, attributes := #[] }, { accessFlags := 10, nameIndex := 61, descriptorIndex := 62, attributes := #[] }, { accessFlags := 1, nameIndex := 174, descriptorIndex := 175, attributes := #[] }] 33 2 #[] #[{ accessFlags := 24, nameIndex := 139, descriptorIndex := 140, attributes := #[] }, { accessFlags := 26, nameIndex := 142, descriptorIndex := 40, attributes := #[] }, { accessFlags := 26, nameIndex := 144, descriptorIndex := 40, attributes := #[] }, { accessFlags := 18, nameIndex := 39, descriptorIndex := 40, attributes := #[] }, { accessFlags := 18, nameIndex := 49, descriptorIndex := 44, attributes := #[] }, { accessFlags := 18, nameIndex := 55, descriptorIndex := 52, attributes := #[] }, { accessFlags := 18, nameIndex := 65, descriptorIndex := 44, attributes := #[] }, { accessFlags := 18, nameIndex := 58, descriptorIndex := 40, attributes := #[] }, { accessFlags := 18, nameIndex := 74, descriptorIndex := 40, attributes := #[] }])
  fields := #[{ name := "LENGTHS_TOO_LARGE", type := (.object "java/lang/String"), accessFlags := 24, slot := 0, constantValue := 0 }, { name := "NOT_REACHED", type := .int, accessFlags := 26, slot := 1, constantValue := 0 }, { name := "ON_WALK", type := .int, accessFlags := 26, slot := 2, constantValue := 0 }, { name := "vertexCount", type := .int, accessFlags := 18, slot := 0, constantValue := 0 }, { name := "parent", type := (.array .int), accessFlags := 18, slot := 1, constantValue := 0 }, { name := "length", type := (.array .double), accessFlags := 18, slot := 2, constantValue := 0 }, { name := "depth", type := (.array .int), accessFlags := 18, slot := 3, constantValue := 0 }, { name := "root", type := .int, accessFlags := 18, slot := 4, constantValue := 0 }, { name := "levels", type := .int, accessFlags := 18, slot := 5, constantValue := 0 }]
  methods := #[k2m0, k2m1, k2m2]
  instanceTypes := #[.int, (.array .int), (.array .double), (.array .int), .int, .int]
  staticTypes := #[(.object "java/lang/String"), .int, .int]
  resolved := Array.replicate 211 none
  statics := none }

def pool3 : Array CpInfo := pool [(1, .class_ 2), (0, u "java/io/Serializable"), (0, .class_ 4), (0, u "java/lang/Object")] 2

/-- java/io/Serializable -/
def k3 : Class := { plain "java/io/Serializable" (some 0) with
  accessFlags := 1537
  interfaces := #[]
  cf := some (fileOf pool3 1 #[] #[] 1537 3 #[] #[])
  fields := #[]
  methods := #[]
  instanceTypes := #[]
  staticTypes := #[]
  resolved := Array.replicate 7 none
  statics := none }

def pool4 : Array CpInfo := pool [(2, .class_ 4), (1, u "java/lang/Object"), (0, u "<init>"), (0, u "()V"), (1, .class_ 10), (1, u "java/lang/Number"), (2, .class_ 14), (0, u "java/io/Serializable"), (0, u "serialVersionUID"), (0, u "J")] 20

def k4m0 : Method := { name := "<init>", desc := "()V", sig := { parameters := [], returnType := none }, accessFlags := 1, code := none }
/-- java/lang/Number -/
def k4 : Class := { plain "java/lang/Number" (some 0) with
  accessFlags := 1057
  interfaces := #[3]
  cf := some (fileOf pool4 8 #[] #[{ accessFlags := 1, nameIndex := 5, descriptorIndex := 6, attributes := #[] }] 1057 2 #[13] #[{ accessFlags := 26, nameIndex := 15, descriptorIndex := 16, attributes := #[] }])
  fields := #[{ name := "serialVersionUID", type := .long, accessFlags := 26, slot := 0, constantValue := 0 }]
  methods := #[k4m0]
  instanceTypes := #[]
  staticTypes := #[.long]
  resolved := Array.replicate 37 none
  statics := none }

def pool5 : Array CpInfo := pool [(1, .class_ 2), (0, u "java/lang/Comparable"), (0, .class_ 4), (0, u "java/lang/Object")] 7

/-- java/lang/Comparable -/
def k5 : Class := { plain "java/lang/Comparable" (some 0) with
  accessFlags := 1537
  interfaces := #[]
  cf := some (fileOf pool5 1 #[] #[] 1537 3 #[] #[])
  fields := #[]
  methods := #[]
  instanceTypes := #[]
  staticTypes := #[]
  resolved := Array.replicate 12 none
  statics := none }

def pool6 : Array CpInfo := pool [(1, .class_ 2), (0, u "java/lang/constant/Constable"), (0, .class_ 4), (0, u "java/lang/Object")] 6

/-- java/lang/constant/Constable -/
def k6 : Class := { plain "java/lang/constant/Constable" (some 0) with
  accessFlags := 1537
  interfaces := #[]
  cf := some (fileOf pool6 1 #[] #[] 1537 3 #[] #[])
  fields := #[]
  methods := #[]
  instanceTypes := #[]
  staticTypes := #[]
  resolved := Array.replicate 11 none
  statics := none }

def pool7 : Array CpInfo := pool [(1, .class_ 2), (0, u "java/lang/constant/ConstantDesc"), (0, .class_ 4), (0, u "java/lang/Object")] 32

/-- java/lang/constant/ConstantDesc -/
def k7 : Class := { plain "java/lang/constant/ConstantDesc" (some 0) with
  accessFlags := 1537
  interfaces := #[]
  cf := some (fileOf pool7 1 #[] #[] 1537 3 #[] #[])
  fields := #[]
  methods := #[]
  instanceTypes := #[]
  staticTypes := #[]
  resolved := Array.replicate 37 none
  statics := none }

def pool8 : Array CpInfo := pool [(1, .class_ 2), (0, u "java/lang/Double"), (10, u "isFinite"), (0, u "(D)Z"), (8, .class_ 25), (1, u "java/lang/Math"), (12, .methodref 23 39), (0, .nameAndType 40 41), (0, u "abs"), (0, u "(D)D"), (69, .double 9218868437227405311), (2, .class_ 116), (1, u "java/lang/Number"), (3, u "value"), (0, u "D"), (51, u "TYPE"), (0, u "Ljava/lang/Class;"), (0, .class_ 176), (0, u "java/lang/Comparable"), (0, .class_ 178), (0, u "java/lang/constant/Constable"), (0, .class_ 180), (0, u "java/lang/constant/ConstantDesc"), (0, u "POSITIVE_INFINITY"), (3, u "NEGATIVE_INFINITY"), (2, u "NaN"), (2, u "MAX_VALUE"), (0, u "MIN_NORMAL"), (0, u "MIN_VALUE"), (2, u "SIZE"), (0, u "I"), (1, u "PRECISION"), (1, u "MAX_EXPONENT"), (1, u "MIN_EXPONENT"), (1, u "BYTES"), (3, u "serialVersionUID"), (0, u "J")] 79

def k8c0 : Code := { maxStack := 4, maxLocals := 2, code := jdk_117_method_8_code, exceptionTable := #[], attributes := #[] }
def k8m0 : Method := { name := "isFinite", desc := "(D)Z", sig := { parameters := [.double], returnType := some .boolean }, accessFlags := 9, code := some k8c0 }
/-- java/lang/Double -/
def k8 : Class := { plain "java/lang/Double" (some 4) with
  accessFlags := 49
  interfaces := #[5, 6, 7]
  cf := some (fileOf pool8 1 #[] #[{ accessFlags := 9, nameIndex := 13, descriptorIndex := 14, attributes := #[] }] 49 114 #[175, 177, 179] #[{ accessFlags := 25, nameIndex := 181, descriptorIndex := 121, attributes := #[] }, { accessFlags := 25, nameIndex := 185, descriptorIndex := 121, attributes := #[] }, { accessFlags := 25, nameIndex := 188, descriptorIndex := 121, attributes := #[] }, { accessFlags := 25, nameIndex := 191, descriptorIndex := 121, attributes := #[] }, { accessFlags := 25, nameIndex := 192, descriptorIndex := 121, attributes := #[] }, { accessFlags := 25, nameIndex := 193, descriptorIndex := 121, attributes := #[] }, { accessFlags := 25, nameIndex := 196, descriptorIndex := 197, attributes := #[] }, { accessFlags := 25, nameIndex := 199, descriptorIndex := 197, attributes := #[] }, { accessFlags := 25, nameIndex := 201, descriptorIndex := 197, attributes := #[] }, { accessFlags := 25, nameIndex := 203, descriptorIndex := 197, attributes := #[] }, { accessFlags := 25, nameIndex := 205, descriptorIndex := 197, attributes := #[] }, { accessFlags := 25, nameIndex := 173, descriptorIndex := 174, attributes := #[] }, { accessFlags := 18, nameIndex := 120, descriptorIndex := 121, attributes := #[] }, { accessFlags := 26, nameIndex := 209, descriptorIndex := 210, attributes := #[] }])
  fields := #[{ name := "POSITIVE_INFINITY", type := .double, accessFlags := 25, slot := 0, constantValue := 0 }, { name := "NEGATIVE_INFINITY", type := .double, accessFlags := 25, slot := 1, constantValue := 0 }, { name := "NaN", type := .double, accessFlags := 25, slot := 2, constantValue := 0 }, { name := "MAX_VALUE", type := .double, accessFlags := 25, slot := 3, constantValue := 0 }, { name := "MIN_NORMAL", type := .double, accessFlags := 25, slot := 4, constantValue := 0 }, { name := "MIN_VALUE", type := .double, accessFlags := 25, slot := 5, constantValue := 0 }, { name := "SIZE", type := .int, accessFlags := 25, slot := 6, constantValue := 0 }, { name := "PRECISION", type := .int, accessFlags := 25, slot := 7, constantValue := 0 }, { name := "MAX_EXPONENT", type := .int, accessFlags := 25, slot := 8, constantValue := 0 }, { name := "MIN_EXPONENT", type := .int, accessFlags := 25, slot := 9, constantValue := 0 }, { name := "BYTES", type := .int, accessFlags := 25, slot := 10, constantValue := 0 }, { name := "TYPE", type := (.object "java/lang/Class"), accessFlags := 25, slot := 11, constantValue := 0 }, { name := "value", type := .double, accessFlags := 18, slot := 0, constantValue := 0 }, { name := "serialVersionUID", type := .long, accessFlags := 26, slot := 12, constantValue := 0 }]
  methods := #[k8m0]
  instanceTypes := #[.double]
  staticTypes := #[.double, .double, .double, .double, .double, .double, .int, .int, .int, .int, .int, (.object "java/lang/Class"), .long]
  resolved := Array.replicate 290 none
  statics := none }

def pool9 : Array CpInfo := pool [(1, .class_ 2), (0, u "java/lang/Math"), (1, .class_ 6), (1, u "java/lang/Object"), (0, u "<init>"), (0, u "()V"), (5, u "(D)D"), (83, .class_ 100), (1, u "java/lang/Math$RandomNumberGeneratorHolder"), (23, u "abs"), (47, u "negativeZeroFloatBits"), (0, u "J"), (2, u "negativeZeroDoubleBits"), (21, u "max"), (46, u "$assertionsDisabled"), (0, u "Z"), (88, u "(II)I"), (2, u "twoToTheDoubleScaleDown"), (0, u "D"), (4, u "twoToTheDoubleScaleUp"), (9, u "E"), (3, u "PI"), (2, u "TAU"), (2, u "DEGREES_TO_RADIANS"), (0, u "RADIANS_TO_DEGREES")] 94

def k9m0 : Method := { name := "<init>", desc := "()V", sig := { parameters := [], returnType := none }, accessFlags := 2, code := none }
def k9c1 : Code := { maxStack := 4, maxLocals := 2, code := jdk_29_method_64_code, exceptionTable := #[], attributes := #[] }
def k9m1 : Method := { name := "abs", desc := "(D)D", sig := { parameters := [.double], returnType := some .double }, accessFlags := 9, code := some k9c1 }
def k9c2 : Code := { maxStack := 2, maxLocals := 2, code := jdk_29_method_65_code, exceptionTable := #[], attributes := #[] }
def k9m2 : Method := { name := "max", desc := "(II)I", sig := { parameters := [.int, .int], returnType := some .int }, accessFlags := 9, code := some k9c2 }
/-- java/lang/Math -/
def k9 : Class := { plain "java/lang/Math" (some 0) with
  accessFlags := 49
  interfaces := #[]
  cf := some (fileOf pool9 1 #[.nestMembers #[98]] #[{ accessFlags := 2, nameIndex := 7, descriptorIndex := 8, attributes := #[] }, { accessFlags := 9, nameIndex := 124, descriptorIndex := 14, attributes := #[] }, { accessFlags := 9, nameIndex := 198, descriptorIndex := 335, attributes := #[] }] 49 4 #[] #[{ accessFlags := 25, nameIndex := 354, descriptorIndex := 339, attributes := #[] }, { accessFlags := 25, nameIndex := 358, descriptorIndex := 339, attributes := #[] }, { accessFlags := 25, nameIndex := 361, descriptorIndex := 339, attributes := #[] }, { accessFlags := 26, nameIndex := 364, descriptorIndex := 339, attributes := #[] }, { accessFlags := 26, nameIndex := 365, descriptorIndex := 339, attributes := #[] }, { accessFlags := 26, nameIndex := 172, descriptorIndex := 173, attributes := #[] }, { accessFlags := 26, nameIndex := 176, descriptorIndex := 173, attributes := #[] }, { accessFlags := 8, nameIndex := 344, descriptorIndex := 339, attributes := #[] }, { accessFlags := 8, nameIndex := 338, descriptorIndex := 339, attributes := #[] }, { accessFlags := 4120, nameIndex := 245, descriptorIndex := 246, attributes := #[] }])
  fields := #[{ name := "E", type := .double, accessFlags := 25, slot := 0, constantValue := 0 }, { name := "PI", type := .double, accessFlags := 25, slot := 1, constantValue := 0 }, { name := "TAU", type := .double, accessFlags := 25, slot := 2, constantValue := 0 }, { name := "DEGREES_TO_RADIANS", type := .double, accessFlags := 26, slot := 3, constantValue := 0 }, { name := "RADIANS_TO_DEGREES", type := .double, accessFlags := 26, slot := 4, constantValue := 0 }, { name := "negativeZeroFloatBits", type := .long, accessFlags := 26, slot := 5, constantValue := 0 }, { name := "negativeZeroDoubleBits", type := .long, accessFlags := 26, slot := 6, constantValue := 0 }, { name := "twoToTheDoubleScaleUp", type := .double, accessFlags := 8, slot := 7, constantValue := 0 }, { name := "twoToTheDoubleScaleDown", type := .double, accessFlags := 8, slot := 8, constantValue := 0 }, { name := "$assertionsDisabled", type := .boolean, accessFlags := 4120, slot := 9, constantValue := 0 }]
  methods := #[k9m0, k9m1, k9m2]
  instanceTypes := #[]
  staticTypes := #[.double, .double, .double, .double, .double, .long, .long, .double, .double, .boolean]
  resolved := Array.replicate 460 none
  statics := none }

def pool10 : Array CpInfo := pool [(1, .class_ 2), (0, u "java/lang/Cloneable"), (0, .class_ 4), (0, u "java/lang/Object")] 2

/-- java/lang/Cloneable -/
def k10 : Class := { plain "java/lang/Cloneable" (some 0) with
  accessFlags := 1537
  interfaces := #[]
  cf := some (fileOf pool10 1 #[] #[] 1537 3 #[] #[])
  fields := #[]
  methods := #[]
  instanceTypes := #[]
  staticTypes := #[]
  resolved := Array.replicate 7 none
  statics := none }

def pool11 : Array CpInfo := pool [(2, .class_ 4), (1, u "java/lang/Object"), (0, u "<init>"), (0, u "()V"), (7, .class_ 16), (1, u "java/util/Arrays"), (57, .class_ 76), (1, u "java/util/Arrays$NaturalOrder"), (36, .class_ 115), (1, u "java/util/Arrays$LegacyMergeSort"), (1, u "Z"), (257, .class_ 376), (0, u "java/util/Arrays$ArrayList"), (68, u "$assertionsDisabled"), (269, u "MIN_ARRAY_SORT_GRAN"), (0, u "I"), (2, u "INSERTIONSORT_THRESHOLD"), (120, u "fill"), (4, u "([II)V"), (129, .class_ 976), (0, u "java/util/Arrays$ArrayItr")] 52

def k11m0 : Method := { name := "<init>", desc := "()V", sig := { parameters := [], returnType := none }, accessFlags := 2, code := none }
def k11c1 : Code := { maxStack := 3, maxLocals := 4, code := jdk_65_method_103_code, exceptionTable := #[], attributes := #[] }
def k11m1 : Method := { name := "fill", desc := "([II)V", sig := { parameters := [(.array .int), .int], returnType := none }, accessFlags := 9, code := some k11c1 }
/-- java/util/Arrays -/
def k11 : Class := { plain "java/util/Arrays" (some 0) with
  accessFlags := 49
  interfaces := #[]
  cf := some (fileOf pool11 14 #[.nestMembers #[975, 375, 113, 74]] #[{ accessFlags := 2, nameIndex := 5, descriptorIndex := 6, attributes := #[] }, { accessFlags := 9, nameIndex := 840, descriptorIndex := 845, attributes := #[] }] 49 2 #[] #[{ accessFlags := 26, nameIndex := 715, descriptorIndex := 716, attributes := #[] }, { accessFlags := 26, nameIndex := 719, descriptorIndex := 716, attributes := #[] }, { accessFlags := 4120, nameIndex := 445, descriptorIndex := 117, attributes := #[] }])
  fields := #[{ name := "MIN_ARRAY_SORT_GRAN", type := .int, accessFlags := 26, slot := 0, constantValue := 0 }, { name := "INSERTIONSORT_THRESHOLD", type := .int, accessFlags := 26, slot := 1, constantValue := 0 }, { name := "$assertionsDisabled", type := .boolean, accessFlags := 4120, slot := 2, constantValue := 0 }]
  methods := #[k11m0, k11m1]
  instanceTypes := #[]
  staticTypes := #[.int, .int, .boolean]
  resolved := Array.replicate 1029 none
  statics := none }

/-- the primitive byte -/
def k12 : Class := { plain "byte" none with kind := .primitive 'B', accessFlags := 0x411 }
/-- [B -/
def k13 : Class := { plain "[B" (some 0) with kind := .array 12 .byte, interfaces := #[10, 3], accessFlags := 1041 }

/-- the primitive double -/
def k14 : Class := { plain "double" none with kind := .primitive 'D', accessFlags := 0x411 }
/-- [D -/
def k15 : Class := { plain "[D" (some 0) with kind := .array 14 .double, interfaces := #[10, 3], accessFlags := 1041 }

/-- the primitive int -/
def k16 : Class := { plain "int" none with kind := .primitive 'I', accessFlags := 0x411 }
/-- [I -/
def k17 : Class := { plain "[I" (some 0) with kind := .array 16 .int, interfaces := #[10, 3], accessFlags := 1041 }

def heap : Heap := #[]
def classes : Array Class := #[k0, k1, k2, k3, k4, k5, k6, k7, k8, k9, k10, k11, k12, k13, k14, k15, k16, k17]
def interned : List (Array UInt16 × Addr) := []
def slotsUsed : Nat := 0
def theMethod : MethodId := ⟨1, 1⟩
def args0 : Array Value := #[.int 5, .int 5, .int 5, .int 5, .int 5]
def aboutOver (below : List Frame) : State where
  vm := { classes := classes, interned := interned.toArray }
  heap := heap
  slotsUsed := slotsUsed
  threads := #[{ frames := .invoking theMethod args0 :: below }]
def below0 : List Frame := [.native { method := ⟨0, 0⟩, args := #[] }]
def about1 : State := aboutOver below0
def p0 : Program := .bare "" "" ""
def e0 : Env := launch0.env 0 0 0
theorem w_frames : about1.frames = Frame.invoking theMethod args0 :: below0 := rfl
set_option maxRecDepth 65536 in
theorem w_args : argsFit about1.vm theMethod args0 = true := by decide +kernel
set_option maxRecDepth 65536 in
theorem w_heap : heapFits about1 = true := by decide +kernel
set_option maxRecDepth 65536 in
theorem w_runnable : about1.curStatus? = some .runnable := by decide +kernel
set_option maxRecDepth 65536 in
theorem w_alone : about1.alone = true := by decide +kernel
set_option maxRecDepth 65536 in
theorem w_named : about1.methodNamed? x = some theMethod := by decide +kernel
set_option maxRecDepth 65536 in
theorem w_hears : about1.hears theMethod below0 = true := by decide +kernel
set_option maxRecDepth 65536 in
theorem w_ripe : about1.ripe theMethod args0 below0 = true := by decide +kernel
theorem w_running : about1.status = .running := rfl
set_option maxRecDepth 65536 in
theorem w_room : about1.hasRoom e0.platform room_1 = true :=
  launch0.hasRoom_least _ room_1 (by decide +kernel) (by decide +kernel) (by decide +kernel) (by decide +kernel) (by decide +kernel) (by decide +kernel)
theorem allAtoms_all (ts : List Jvm.Cond) (a : Array Jvm.Value) (st : Jvm.State) : (allAtoms ts).before a st = ts.all (fun c => c.before a st) := by
  induction ts with
  | nil => rfl
  | cons c t ih =>
    show (Jvm.Cond.and c (allAtoms t)).before a st = _
    rw [Jvm.Cond.before_and, ih, List.all_cons]
def words1 : List Jvm.Cond := Jvm.Cond.code x code maxLocals ret :: tables_1
/-- a 'code' word, met by the world's own term for the bytes: nothing is compared byte by byte -/
theorem code_word {y : MethodName} {bytes : ByteArray} {mx : Nat} {rt : Option FieldType} {a : Array Value} {s : State} {m : MethodId} {meth : Method} {c : Code} (h1 : s.methodNamed? y = some m) (h2 : s.vm.method? m = some meth) (h3 : meth.code = some c) (h4 : c.code = bytes)
    (h5 : (c.maxLocals == mx && c.exceptionTable.isEmpty && decide (c.maxStack ≤ mostOperands) && decide (meth.sig.returnType = rt) && !meth.locks && decide (parseMethodDescriptor y.desc = some meth.sig)) = true) : (Jvm.Cond.code y bytes mx rt).before a s = true := by
  simp only [Bool.and_eq_true, beq_iff_eq, Bool.not_eq_true', decide_eq_true_eq] at h5
  obtain ⟨⟨⟨⟨⟨g1, g2⟩, g3⟩, g4⟩, g5⟩, g6⟩ := h5
  simp [Cond.before, Cond.holds, Cond.value, h1, h2, h3, h4, g1, g2, g3, g4, g5, g6]
def isCode : Jvm.Cond → Bool
  | .code _ _ _ _ => true
  | _ => false
theorem all_split {L : List Jvm.Cond} {P : Jvm.Cond → Bool} (h1 : L.all (fun c => isCode c || P c) = true) (h2 : ∀ c ∈ L.filter isCode, P c = true) : L.all P = true := by
  refine List.all_eq_true.mpr fun c hc => ?_
  have h := List.all_eq_true.mp h1 c hc
  rcases Bool.eq_false_or_eq_true (isCode c) with hi | hi
  · exact h2 c (List.mem_filter.mpr ⟨hc, hi⟩)
  · simpa [hi] using h
set_option maxRecDepth 65536 in
theorem w_c0 : (Jvm.Cond.code x code maxLocals ret).before args0 about1 = true := code_word (m := ⟨1, 1⟩) (meth := k1m1) (c := k1c1) (by decide +kernel) rfl rfl rfl (by decide +kernel)
set_option maxRecDepth 65536 in
theorem w_c1 : (Jvm.Cond.code ({ cls := "com/example/copse/copse/solver/TreeEmbedding", name := "<init>", desc := "(I[I[D)V" } : Jvm.MethodName) prog_63_method_1_code (11 : Nat) (Option.none : Option Jvm.ClassFile.FieldType)).before args0 about1 = true := code_word (m := ⟨2, 0⟩) (meth := k2m0) (c := k2c0) (by decide +kernel) rfl rfl rfl (by decide +kernel)
set_option maxRecDepth 65536 in
theorem w_c2 : (Jvm.Cond.code ({ cls := "java/lang/Object", name := "<init>", desc := "()V" } : Jvm.MethodName) object_method_1_code (1 : Nat) (Option.none : Option Jvm.ClassFile.FieldType)).before args0 about1 = true := code_word (m := ⟨0, 0⟩) (meth := k0m0) (c := k0c0) (by decide +kernel) rfl rfl rfl (by decide +kernel)
set_option maxRecDepth 65536 in
theorem w_c3 : (Jvm.Cond.code ({ cls := "java/lang/Double", name := "isFinite", desc := "(D)Z" } : Jvm.MethodName) jdk_117_method_8_code (2 : Nat) (Option.some Jvm.ClassFile.FieldType.boolean)).before args0 about1 = true := code_word (m := ⟨8, 0⟩) (meth := k8m0) (c := k8c0) (by decide +kernel) rfl rfl rfl (by decide +kernel)
set_option maxRecDepth 65536 in
theorem w_c4 : (Jvm.Cond.code ({ cls := "java/lang/Math", name := "abs", desc := "(D)D" } : Jvm.MethodName) jdk_29_method_64_code (2 : Nat) (Option.some Jvm.ClassFile.FieldType.double)).before args0 about1 = true := code_word (m := ⟨9, 1⟩) (meth := k9m1) (c := k9c1) (by decide +kernel) rfl rfl rfl (by decide +kernel)
set_option maxRecDepth 65536 in
theorem w_c5 : (Jvm.Cond.code ({ cls := "com/example/copse/copse/solver/TreeEmbedding", name := "depths", desc := "([II)[I" } : Jvm.MethodName) prog_63_method_2_code (8 : Nat) (Option.some (Jvm.ClassFile.FieldType.array Jvm.ClassFile.FieldType.int))).before args0 about1 = true := code_word (m := ⟨2, 1⟩) (meth := k2m1) (c := k2c1) (by decide +kernel) rfl rfl rfl (by decide +kernel)
set_option maxRecDepth 65536 in
theorem w_c6 : (Jvm.Cond.code ({ cls := "java/util/Arrays", name := "fill", desc := "([II)V" } : Jvm.MethodName) jdk_65_method_103_code (4 : Nat) (Option.none : Option Jvm.ClassFile.FieldType)).before args0 about1 = true := code_word (m := ⟨11, 1⟩) (meth := k11m1) (c := k11c1) (by decide +kernel) rfl rfl rfl (by decide +kernel)
set_option maxRecDepth 65536 in
theorem w_c7 : (Jvm.Cond.code ({ cls := "java/lang/Math", name := "max", desc := "(II)I" } : Jvm.MethodName) jdk_29_method_65_code (2 : Nat) (Option.some Jvm.ClassFile.FieldType.int)).before args0 about1 = true := code_word (m := ⟨9, 2⟩) (meth := k9m2) (c := k9c2) (by decide +kernel) rfl rfl rfl (by decide +kernel)
set_option maxRecDepth 65536 in
theorem w_c8 : (Jvm.Cond.code ({ cls := "com/example/copse/copse/solver/TreeEmbedding", name := "distance", desc := "(II)D" } : Jvm.MethodName) prog_63_method_23_code (7 : Nat) (Option.some Jvm.ClassFile.FieldType.double)).before args0 about1 = true := code_word (m := ⟨2, 2⟩) (meth := k2m2) (c := k2c2) (by decide +kernel) rfl rfl rfl (by decide +kernel)
def codes1 : List Jvm.Cond := [Jvm.Cond.code x code maxLocals ret, Jvm.Cond.code ({ cls := "com/example/copse/copse/solver/TreeEmbedding", name := "<init>", desc := "(I[I[D)V" } : Jvm.MethodName) prog_63_method_1_code (11 : Nat) (Option.none : Option Jvm.ClassFile.FieldType), Jvm.Cond.code ({ cls := "java/lang/Object", name := "<init>", desc := "()V" } : Jvm.MethodName) object_method_1_code (1 : Nat) (Option.none : Option Jvm.ClassFile.FieldType), Jvm.Cond.code ({ cls := "java/lang/Double", name := "isFinite", desc := "(D)Z" } : Jvm.MethodName) jdk_117_method_8_code (2 : Nat) (Option.some Jvm.ClassFile.FieldType.boolean), Jvm.Cond.code ({ cls := "java/lang/Math", name := "abs", desc := "(D)D" } : Jvm.MethodName) jdk_29_method_64_code (2 : Nat) (Option.some Jvm.ClassFile.FieldType.double), Jvm.Cond.code ({ cls := "com/example/copse/copse/solver/TreeEmbedding", name := "depths", desc := "([II)[I" } : Jvm.MethodName) prog_63_method_2_code (8 : Nat) (Option.some (Jvm.ClassFile.FieldType.array Jvm.ClassFile.FieldType.int)), Jvm.Cond.code ({ cls := "java/util/Arrays", name := "fill", desc := "([II)V" } : Jvm.MethodName) jdk_65_method_103_code (4 : Nat) (Option.none : Option Jvm.ClassFile.FieldType), Jvm.Cond.code ({ cls := "java/lang/Math", name := "max", desc := "(II)I" } : Jvm.MethodName) jdk_29_method_65_code (2 : Nat) (Option.some Jvm.ClassFile.FieldType.int), Jvm.Cond.code ({ cls := "com/example/copse/copse/solver/TreeEmbedding", name := "distance", desc := "(II)D" } : Jvm.MethodName) prog_63_method_23_code (7 : Nat) (Option.some Jvm.ClassFile.FieldType.double)]
set_option maxRecDepth 65536 in
theorem codes_eq : words1.filter isCode = codes1 := rfl
theorem w_codes : ∀ c ∈ words1.filter isCode, c.before args0 about1 = true := by
  rw [codes_eq]
  intro c hc
  simp only [codes1, List.mem_cons, List.not_mem_nil, or_false] at hc
  rcases hc with rfl | rfl | rfl | rfl | rfl | rfl | rfl | rfl | rfl
  · exact w_c0
  · exact w_c1
  · exact w_c2
  · exact w_c3
  · exact w_c4
  · exact w_c5
  · exact w_c6
  · exact w_c7
  · exact w_c8
set_option maxRecDepth 65536 in
theorem w_t1 : (words1.take 24).all (fun c => isCode c || c.before args0 about1) = true := by decide +kernel
set_option maxRecDepth 65536 in
theorem w_t2 : ((words1.drop 24).take 24).all (fun c => isCode c || c.before args0 about1) = true := by decide +kernel
set_option maxRecDepth 65536 in
theorem w_t3 : ((words1.drop 24).drop 24).all (fun c => isCode c || c.before args0 about1) = true := by decide +kernel
theorem w_tables : (allAtoms (Jvm.Cond.code x code maxLocals ret :: tables_1)).before args0 about1 = true := by
  rw [allAtoms_all]
  show words1.all (fun c => c.before args0 about1) = true
  refine all_split ?_ w_codes
  rw [← List.take_append_drop 24 words1, List.all_append, w_t1, ← List.take_append_drop 24 (words1.drop 24), List.all_append, w_t2, w_t3]
  rfl
set_option maxRecDepth 65536 in
theorem w_case : (Jvm.Cond.and given_1 narrow_1).before args0 about1 = true := by decide +kernel
theorem w_applies : (headSpec (Jvm.Cond.code x code maxLocals ret :: tables_1) room_1).applies x e0.platform about1 = true :=
  (Spec.applies_iff w_frames).mpr ⟨w_running, w_runnable, w_alone, w_named, w_hears, w_ripe, w_room, w_tables⟩
theorem atStart : AtStart classFile x code maxLocals ret World_1 tables_1 room_1 Calls_1 rest_1 Pre_1 launch0 p0 e0 about1 theMethod args0 below0 :=
  ⟨lists_1, trivial, launch0.admits_env _ _ _, launch0.least_env, fairChoices_fair.cas, fairChoices_fair.clock, w_frames, w_args, w_heap, w_applies, trivial, trivial, w_case⟩
end start1
theorem witness_1 : WitnessClaimed_1 := ⟨start1.p0, start1.e0, start1.about1, start1.theMethod, start1.args0, start1.below0, start1.atStart⟩
end Jvm.Pilot.@@N@@
