import JvmDerived
import JvmDerived.Pilot.@@N@@Statement
import JvmDerived.Pilot.@@N@@Code
set_option linter.unusedVariables false
set_option linter.unusedSimpArgs false
namespace Jvm.Own
open Jvm Jvm.ClassFile Sem Op Lib Jvm.Free Jvm.Stand Jvm.LawKit Jvm.RoadKit Bundle
/-! the abstract machine: values with the objects named by their place in a list -/
abbrev Obj : Type := Nat × List Value
abbrev AH : Type := List Obj
abbrev Orc : Type := Option (List Bool × List Int32)
abbrev Ent : Type := Instr × Option Bool × List Nat × Value
abbrev PR : Type := List Prop × Orc × Nat × List Slot × List Value
def gv (g : Nat → Addr) : Value → Value
  | .ref i => .ref (g i)
  | .int x => .int x
  | .long x => .long x
  | .float x => .float x
  | .double x => .double x
  | .null => .null
  | .retAddr p => .retAddr p
def gs (g : Nat → Addr) : Slot → Slot
  | .val v => .val (gv g v)
  | .unset => .unset
  | .second => .second
abbrev gL (g : Nat → Addr) (L : List Slot) : Array Slot := (L.map (gs g)).toArray
abbrev gS (g : Nat → Addr) (S : List Value) : List Value := S.map (gv g)
theorem gv_cat (g : Nat → Addr) (v : Value) : (gv g v).category = v.category := by cases v <;> rfl
theorem gv_isRef (g : Nat → Addr) (v : Value) : (gv g v).isRef = v.isRef := by cases v <;> rfl
theorem gS_cat (g : Nat → Addr) (S : List Value) : ((gS g S).map fun v => v.category).sum = (S.map fun v => v.category).sum := by
  induction S with
  | nil => rfl
  | cons v r ih => simp only [List.map_cons, List.sum_cons, gv_cat] at ih ⊢; rw [ih]
theorem gL_get {g : Nat → Addr} {L : List Slot} {k : Nat} {s : Slot} (h : L[k]? = some s) : (gL g L)[k]? = some (gs g s) := by simp [gL, h]
theorem gL_len (g : Nat → Addr) (L : List Slot) : (gL g L).size = L.length := by simp [gL]
def ask (o : Orc) (b : Bool) : Option (Bool × Orc × List Prop) :=
  match o with
  | none => some (b, none, [])
  | some ([], _) => none
  | some (x :: r, q) => some (x, some (r, q), [b = x])
def need (o : Orc) (P : Prop) [Decidable P] : Option (List Prop) :=
  match o with
  | none => if P then some [] else none
  | some _ => some [P]
theorem ask_ok {o o' : Orc} {b x : Bool} {cs : List Prop} (h : ask o b = some (x, o', cs)) (hc : ∀ P ∈ cs, P) : b = x := by
  unfold ask at h
  split at h
  · cases h; rfl
  · cases h
  · cases h; exact hc _ (List.mem_singleton.mpr rfl)
theorem need_ok {o : Orc} {P : Prop} [Decidable P] {cs : List Prop} (h : need o P = some cs) (hc : ∀ P ∈ cs, P) : P := by
  unfold need at h
  split at h
  · split at h
    · assumption
    · cases h
  · cases h; exact hc _ (List.mem_singleton.mpr rfl)
/-- an instruction's length -/
def ilen : Instr → Nat
  | .bipush _ | .iload _ | .lload _ | .dload _ | .aload _ | .istore _ | .lstore _ | .dstore _ | .astore _ | .newarray _ | .ldc _ => 2
  | .sipush _ | .iinc _ _ | .goto _ | .ifCond _ _ | .if_icmp _ _ | .if_acmp _ _ | .ifnull _ | .ifnonnull _ | .ldc_w _ | .ldc2_w _ => 3
  | .getfield _ | .putfield _ | .getstatic _ | .new _ | .anewarray _ | .checkcast _ | .instanceof _ | .invokestatic _ | .invokespecial _ | .invokevirtual _ => 3
  | .invokeinterface _ _ => 5
  | _ => 1
/-! constants -/
def cst : Instr → Option Value
  | .iconst i => some (.int (Int32.ofInt i))
  | .bipush i => some (.int (Int8.ofInt i).toInt32)
  | .sipush i => some (.int (Int16.ofInt i).toInt32)
  | .lconst 0 => some (.long 0)
  | .lconst 1 => some (.long 1)
  | .dconst 0 => some (.double 0)
  | .dconst 1 => some (.double 4607182418800017408)
  | .aconst_null => some .null
  | _ => none
/-! loads -/
def ldi : Instr → Nat
  | .iload k => k | .lload k => k | .dload k => k | .aload k => k
  | .iload_n k => k.val | .lload_n k => k.val | .dload_n k => k.val | .aload_n k => k.val
  | _ => 0
/-! stores -/
def sti : Instr → Nat
  | .istore k => k | .lstore k => k | .dstore k => k | .astore k => k
  | .istore_n k => k.val | .lstore_n k => k.val | .dstore_n k => k.val | .astore_n k => k.val
  | _ => 0
def stok : Instr → Value → Bool
  | .istore _, .int _ => true
  | .istore_n _, .int _ => true
  | .lstore _, .long _ => true
  | .lstore_n _, .long _ => true
  | .dstore _, .double _ => true
  | .dstore_n _, .double _ => true
  | .astore _, .ref _ => true
  | .astore _, .null => true
  | .astore_n _, .ref _ => true
  | .astore_n _, .null => true
  | _, _ => false
def ldok : Instr → Value → Bool
  | .iload _, .int _ => true
  | .iload_n _, .int _ => true
  | .lload _, .long _ => true
  | .lload_n _, .long _ => true
  | .dload _, .double _ => true
  | .dload_n _, .double _ => true
  | .aload _, .ref _ => true
  | .aload _, .null => true
  | .aload_n _, .ref _ => true
  | .aload_n _, .null => true
  | _, _ => false
def setL (L : List Slot) (i : Nat) (x : Slot) : Option (List Slot) := if i < L.length then some (L.set i x) else none
def stSelf (L : List Slot) (i : Nat) (v : Value) : Option (List Slot) :=
  (setL L i (.val v)).bind fun L =>
  if v.category = 2 then
    match L[i + 1]? with
    | none => none
    | some (.val old) => if old.category = 2 then (setL L (i + 2) .unset).bind fun L => setL L (i + 1) .second else setL L (i + 1) .second
    | some _ => setL L (i + 1) .second
  else some L
def stL (L : List Slot) (i : Nat) (v : Value) : Option (List Slot) :=
  match L[i]? with
  | none => none
  | some .second => (setL L (i - 1) .unset).bind fun L => stSelf L i v
  | some (.val old) => if old.category = 2 then (setL L (i + 1) .unset).bind fun L => stSelf L i v else stSelf L i v
  | some .unset => stSelf L i v
theorem setL_ok {g : Nat → Addr} {L L' : List Slot} {i : Nat} {x : Slot} (h : setL L i x = some L') : setAt (gL g L) i (gs g x) = some (gL g L') := by
  unfold setL at h
  split at h
  · rename_i q
    cases h
    unfold setAt
    rw [if_pos (by simpa using q)]
    simp [List.map_set]
  · cases h
theorem stSelf_ok {g : Nat → Addr} {L L' : List Slot} {i : Nat} {v : Value} (h : stSelf L i v = some L') : storeSelf (gL g L) i (gv g v) = some (gL g L') := by
  unfold stSelf at h
  obtain ⟨L1, h1, h2⟩ := Option.bind_eq_some_iff.mp h
  have e1 := setL_ok (g := g) h1
  unfold storeSelf
  rw [show (Slot.val (gv g v)) = gs g (.val v) from rfl, e1]
  simp only [Option.bind_eq_bind, Option.bind_some, gv_cat]
  split at h2
  · rename_i hc
    rw [if_pos hc]
    cases hq : L1[i + 1]? with
    | none => rw [hq] at h2; cases h2
    | some y =>
      rw [hq] at h2
      rw [gL_get hq]
      cases y with
      | val old =>
        simp only [gs, Option.bind_some, gv_cat] at h2 ⊢
        split at h2
        · rename_i ho
          rw [if_pos ho]
          obtain ⟨L2, a1, a2⟩ := Option.bind_eq_some_iff.mp h2
          have e2 := setL_ok (g := g) a1
          have e3 := setL_ok (g := g) a2
          simp only [gs] at e2 e3
          rw [e2]; simpa using e3
        · rename_i ho
          rw [if_neg ho]
          exact setL_ok (g := g) h2
      | unset => exact setL_ok (g := g) h2
      | second => exact setL_ok (g := g) h2
  · rename_i hc
    rw [if_neg hc]
    cases h2; rfl
theorem stL_ok {g : Nat → Addr} {L L' : List Slot} {i : Nat} {v : Value} (h : stL L i v = some L') : storeLocals (gL g L) i (gv g v) = some (gL g L') := by
  unfold stL at h
  unfold storeLocals
  cases hq : L[i]? with
  | none => rw [hq] at h; cases h
  | some y =>
    rw [hq] at h
    rw [gL_get hq]
    cases y with
    | second =>
      simp only [gs, Option.bind_eq_bind, Option.bind_some] at h ⊢
      obtain ⟨L1, a1, a2⟩ := Option.bind_eq_some_iff.mp h
      have e2 := setL_ok (g := g) a1
      simp only [gs] at e2
      rw [e2]; exact stSelf_ok a2
    | val old =>
      simp only [gs, Option.bind_eq_bind, Option.bind_some, gv_cat] at h ⊢
      split at h
      · rename_i ho
        rw [if_pos ho]
        obtain ⟨L1, a1, a2⟩ := Option.bind_eq_some_iff.mp h
        have e2 := setL_ok (g := g) a1
        simp only [gs] at e2
        rw [e2]; exact stSelf_ok a2
      · rename_i ho
        rw [if_neg ho]; exact stSelf_ok h
    | unset => exact stSelf_ok h
theorem setL_len {L L' : List Slot} {i : Nat} {x : Slot} (h : setL L i x = some L') : L'.length = L.length := by
  unfold setL at h; split at h
  · cases h; simp
  · cases h
theorem stSelf_len {L L' : List Slot} {i : Nat} {v : Value} (h : stSelf L i v = some L') : L'.length = L.length := by
  unfold stSelf at h
  obtain ⟨L1, h1, h2⟩ := Option.bind_eq_some_iff.mp h
  have e1 := setL_len h1
  split at h2
  · split at h2
    · cases h2
    · split at h2
      · obtain ⟨L2, a1, a2⟩ := Option.bind_eq_some_iff.mp h2
        rw [setL_len a2, setL_len a1, e1]
      · rw [setL_len h2, e1]
    · rw [setL_len h2, e1]
  · cases h2; exact e1
theorem stL_len {L L' : List Slot} {i : Nat} {v : Value} (h : stL L i v = some L') : L'.length = L.length := by
  unfold stL at h
  split at h
  · cases h
  · obtain ⟨L1, a1, a2⟩ := Option.bind_eq_some_iff.mp h
    rw [stSelf_len a2, setL_len a1]
  · split at h
    · obtain ⟨L1, a1, a2⟩ := Option.bind_eq_some_iff.mp h
      rw [stSelf_len a2, setL_len a1]
    · exact stSelf_len h
  · exact stSelf_len h
/-! arithmetic -/
def bin : Instr → Value → Value → Option Value
  | .iadd, .int x, .int y => some (.int (x + y))
  | .isub, .int x, .int y => some (.int (x - y))
  | .imul, .int x, .int y => some (.int (x * y))
  | .iand, .int x, .int y => some (.int (x &&& y))
  | .ior, .int x, .int y => some (.int (x ||| y))
  | .ixor, .int x, .int y => some (.int (x ^^^ y))
  | .ishl, .int x, .int y => some (.int (x <<< (y &&& 31)))
  | .ishr, .int x, .int y => some (.int (x >>> (y &&& 31)))
  | .iushr, .int x, .int y => some (.int (XT.ushr x y))
  | .ladd, .long x, .long y => some (.long (x + y))
  | .lsub, .long x, .long y => some (.long (x - y))
  | .lmul, .long x, .long y => some (.long (x * y))
  | .land, .long x, .long y => some (.long (x &&& y))
  | .lor, .long x, .long y => some (.long (x ||| y))
  | .lxor, .long x, .long y => some (.long (x ^^^ y))
  | .lshl, .long x, .int y => some (.long (x <<< (y.toInt64 &&& 63)))
  | .lshr, .long x, .int y => some (.long (x >>> (y.toInt64 &&& 63)))
  | .lushr, .long x, .int y => some (.long (XT.ushrL x y))
  | .lcmp, .long x, .long y => some (.int (XT.cmpL x y))
  | .dcmp o, .double x, .double y => some (.int (cmpValue (FP.dcmp x y) o))
  | _, _, _ => none
def un : Instr → Value → Option Value
  | .ineg, .int x => some (.int (-x))
  | .lneg, .long x => some (.long (-x))
  | .dneg, .double x => some (.double (FP.dneg x))
  | .i2l, .int x => some (.long x.toInt64)
  | .l2i, .long x => some (.int x.toInt32)
  | .i2b, .int x => some (.int x.toInt8.toInt32)
  | .i2c, .int x => some (.int x.toUInt32.toUInt16.toUInt32.toInt32)
  | .i2s, .int x => some (.int x.toInt16.toInt32)
  | .i2d, .int x => some (.double (FP.i2d x))
  | .l2d, .long x => some (.double (FP.l2d x))
  | .d2i, .double x => some (.int (FP.d2i x))
  | .d2l, .double x => some (.long (FP.d2l x))
  | _, _ => none
def dbin : Instr → UInt64 → UInt64 → Option UInt64
  | .dadd, x, y => some (FP.dadd x y)
  | .dsub, x, y => some (FP.dsub x y)
  | .dmul, x, y => some (FP.dmul x y)
  | .ddiv, x, y => some (FP.ddiv x y)
  | _, _, _ => none
/-! the pure steps; forceL, forceN: nothing but their argument, laid out before it is handed on -/
def forceL {α β : Type} : List α → (List α → β) → β
  | [], k => k []
  | a :: r, k => forceL r fun r' => k (a :: r')
def forceN {β : Type} (n : Nat) (k : Nat → β) : β :=
  match n with
  | 0 => k 0
  | n + 1 => k (n + 1)
theorem forceL_eq {α β : Type} (L : List α) (k : List α → β) : forceL L k = k L := by
  induction L generalizing k with
  | nil => rfl
  | cons a r ih => unfold forceL; rw [ih]
theorem forceN_eq {β : Type} (n : Nat) (k : Nat → β) : forceN n k = k n := by cases n <;> rfl
def pC (i : Instr) (o : Orc) (pc : Nat) (L : List Slot) (S : List Value) : Option PR :=
  match cst i with
  | some v => some ([], o, pc + ilen i, L, v :: S)
  | none => none
def pL (i : Instr) (o : Orc) (pc : Nat) (L : List Slot) (S : List Value) : Option PR :=
  match L[ldi i]? with
  | some (.val v) => if ldok i v then some ([], o, pc + ilen i, L, v :: S) else none
  | _ => none
def pS (i : Instr) (o : Orc) (pc : Nat) (L : List Slot) (S : List Value) : Option PR :=
  match S with
  | v :: r => if stok i v then (match stL L (sti i) v with
    | some L' => forceL L' fun L' => some ([], o, pc + ilen i, L', r)
    | none => none) else none
  | _ => none
def pB (i : Instr) (o : Orc) (pc : Nat) (L : List Slot) (S : List Value) : Option PR :=
  match S with
  | y :: x :: r => (match bin i x y with
    | some v => some ([], o, pc + 1, L, v :: r)
    | none => none)
  | _ => none
def pU (i : Instr) (o : Orc) (pc : Nat) (L : List Slot) (S : List Value) : Option PR :=
  match S with
  | x :: r => (match un i x with
    | some v => some ([], o, pc + 1, L, v :: r)
    | none => none)
  | _ => none
def pD (i : Instr) (o : Orc) (pc : Nat) (L : List Slot) (S : List Value) : Option PR :=
  match S with
  | .double y :: .double x :: r => (match dbin i x y with
    | some v => (match need o (FP.dIsNaN v = false) with
      | some cs => some (cs, o, pc + 1, L, .double v :: r)
      | none => none)
    | none => none)
  | _ => none
def pZ (i : Instr) (o : Orc) (pc : Nat) (L : List Slot) (S : List Value) : Option PR :=
  match i, S with
  | .idiv, .int y :: .int x :: r => (match need o (y ≠ 0) with
    | some cs => some (cs, o, pc + 1, L, .int (x / y) :: r)
    | none => none)
  | .irem, .int y :: .int x :: r => (match need o (y ≠ 0) with
    | some cs => some (cs, o, pc + 1, L, .int (x % y) :: r)
    | none => none)
  | .ldiv, .long y :: .long x :: r => (match need o (y ≠ 0) with
    | some cs => some (cs, o, pc + 1, L, .long (x / y) :: r)
    | none => none)
  | .lrem, .long y :: .long x :: r => (match need o (y ≠ 0) with
    | some cs => some (cs, o, pc + 1, L, .long (x - (x / y) * y) :: r)
    | none => none)
  | _, _ => none
def pT (i : Instr) (o : Orc) (pc : Nat) (L : List Slot) (S : List Value) : Option PR :=
  match i, S with
  | .dup, x :: r => if x.category = 1 then some ([], o, pc + 1, L, x :: x :: r) else none
  | .pop, x :: r => if x.category = 1 then some ([], o, pc + 1, L, r) else none
  | .dup2, .long x :: r => some ([], o, pc + 1, L, .long x :: .long x :: r)
  | .dup2, .double x :: r => some ([], o, pc + 1, L, .double x :: .double x :: r)
  | .dup2, x :: y :: r => if x.category = 1 ∧ y.category = 1 then some ([], o, pc + 1, L, x :: y :: x :: y :: r) else none
  | .pop2, x :: r => if x.category = 2 then some ([], o, pc + 1, L, r) else none
  | .dup_x1, x :: y :: r => if x.category = 1 ∧ y.category = 1 then some ([], o, pc + 1, L, x :: y :: x :: r) else none
  | .dup_x2, x :: y :: z :: r => if x.category = 1 ∧ y.category = 1 ∧ z.category = 1 then some ([], o, pc + 1, L, x :: y :: z :: x :: r) else none
  | _, _ => none
def pI (o : Orc) (pc : Nat) (L : List Slot) (S : List Value) (k : Nat) (cst : Int) : Option PR :=
  match L[k]? with
  | some (.val (.int x)) => (match stL L k (.int (x + Int32.ofInt cst)) with
    | some L' => forceL L' fun L' => some ([], o, pc + 3, L', S)
    | none => none)
  | _ => none
/-- to there, if the offset allows it -/
def jmp (cs : List Prop) (o : Orc) (pc : Nat) (L : List Slot) (r : List Value) (off : Int) : Option PR :=
  if 0 ≤ (pc : Int) + off then some (cs, o, ((pc : Int) + off).toNat, L, r) else none
def pJ (o : Orc) (pc : Nat) (L : List Slot) (r : List Value) (b : Bool) (off : Int) : Option PR :=
  match ask o b with
  | some (true, o', cs) => jmp cs o' pc L r off
  | some (false, o', cs) => some (cs, o', pc + 3, L, r)
  | none => none
def pG (i : Instr) (o : Orc) (pc : Nat) (L : List Slot) (S : List Value) : Option PR :=
  match i, S with
  | .goto off, S => jmp [] o pc L S off
  | .ifCond c off, .int x :: r => pJ o pc L r (ifCond.holds c x) off
  | .if_icmp c off, .int y :: .int x :: r => pJ o pc L r (if_icmp.holds c x y) off
  | .ifnull off, .null :: r => jmp [] o pc L r off
  | .ifnull off, .ref _ :: r => some ([], o, pc + 3, L, r)
  | .ifnonnull off, .ref _ :: r => jmp [] o pc L r off
  | .ifnonnull off, .null :: r => some ([], o, pc + 3, L, r)
  | _, _ => none
def pstep (i : Instr) (o : Orc) (pc : Nat) (L : List Slot) (S : List Value) : Option PR :=
  match i with
  | .iconst _ | .bipush _ | .sipush _ | .lconst _ | .dconst _ | .aconst_null => pC i o pc L S
  | .iload _ | .lload _ | .dload _ | .aload _ | .iload_n _ | .lload_n _ | .dload_n _ | .aload_n _ => pL i o pc L S
  | .istore _ | .lstore _ | .dstore _ | .astore _ | .istore_n _ | .lstore_n _ | .dstore_n _ | .astore_n _ => pS i o pc L S
  | .iinc k cst => pI o pc L S k cst
  | .iadd | .isub | .imul | .iand | .ior | .ixor | .ishl | .ishr | .iushr | .ladd | .lsub | .lmul | .land | .lor | .lxor | .lshl | .lshr | .lushr | .lcmp | .dcmp _ => pB i o pc L S
  | .ineg | .lneg | .dneg | .i2l | .l2i | .i2b | .i2c | .i2s | .i2d | .l2d | .d2i | .d2l => pU i o pc L S
  | .dadd | .dsub | .dmul | .ddiv => pD i o pc L S
  | .idiv | .irem | .ldiv | .lrem => pZ i o pc L S
  | .dup | .pop | .dup2 | .pop2 | .dup_x1 | .dup_x2 => pT i o pc L S
  | .goto _ | .ifCond _ _ | .if_icmp _ _ | .ifnull _ | .ifnonnull _ => pG i o pc L S
  | _ => none
/-- which of them -/
def psort (i : Instr) : Nat :=
  match i with
  | .iconst _ | .bipush _ | .sipush _ | .lconst _ | .dconst _ | .aconst_null => 0
  | .iload _ | .lload _ | .dload _ | .aload _ | .iload_n _ | .lload_n _ | .dload_n _ | .aload_n _ => 1
  | .istore _ | .lstore _ | .dstore _ | .astore _ | .istore_n _ | .lstore_n _ | .dstore_n _ | .astore_n _ => 2
  | .iadd | .isub | .imul | .iand | .ior | .ixor | .ishl | .ishr | .iushr | .ladd | .lsub | .lmul | .land | .lor | .lxor | .lshl | .lshr | .lushr | .lcmp | .dcmp _ => 3
  | .ineg | .lneg | .dneg | .i2l | .l2i | .i2b | .i2c | .i2s | .i2d | .l2d | .d2i | .d2l => 4
  | .dadd | .dsub | .dmul | .ddiv => 5
  | .idiv | .irem | .ldiv | .lrem => 6
  | .dup | .pop | .dup2 | .pop2 | .dup_x1 | .dup_x2 => 7
  | .goto _ | .ifCond _ _ | .if_icmp _ _ | .ifnull _ | .ifnonnull _ => 8
  | .iinc _ _ => 9
  | _ => 10
theorem pstep_sort {i : Instr} {o : Orc} {pc : Nat} {L : List Slot} {S : List Value} {r : PR} (h : pstep i o pc L S = some r) :
    (pC i o pc L S = some r) ∨ (pL i o pc L S = some r) ∨ (pS i o pc L S = some r) ∨ ((∃ k c, i = .iinc k c ∧ pI o pc L S k c = some r)) ∨ (ilen i = 1 ∧ pB i o pc L S = some r) ∨ (ilen i = 1 ∧ pU i o pc L S = some r) ∨ (ilen i = 1 ∧ pD i o pc L S = some r) ∨ (ilen i = 1 ∧ pZ i o pc L S = some r) ∨ (ilen i = 1 ∧ pT i o pc L S = some r) ∨ (ilen i = 3 ∧ pG i o pc L S = some r) := by
  cases i <;> first
    | (cases h; done)
    | exact Or.inl h
    | exact Or.inr (Or.inl h)
    | exact Or.inr (Or.inr (Or.inl h))
    | exact Or.inr (Or.inr (Or.inr (Or.inl ⟨_, _, rfl, h⟩)))
    | exact Or.inr (Or.inr (Or.inr (Or.inr (Or.inl ⟨rfl, h⟩))))
    | exact Or.inr (Or.inr (Or.inr (Or.inr (Or.inr (Or.inl ⟨rfl, h⟩)))))
    | exact Or.inr (Or.inr (Or.inr (Or.inr (Or.inr (Or.inr (Or.inl ⟨rfl, h⟩))))))
    | exact Or.inr (Or.inr (Or.inr (Or.inr (Or.inr (Or.inr (Or.inr (Or.inl ⟨rfl, h⟩)))))))
    | exact Or.inr (Or.inr (Or.inr (Or.inr (Or.inr (Or.inr (Or.inr (Or.inr (Or.inl ⟨rfl, h⟩))))))))
    | exact Or.inr (Or.inr (Or.inr (Or.inr (Or.inr (Or.inr (Or.inr (Or.inr (Or.inr ⟨rfl, h⟩))))))))
section Pure
variable {tb : Tables} [Ours tb] {e : Env} {below : List Frame} {T target : State} {m : MethodId} {c : Code}
theorem bin_ok (h : At T m c below) (hx : tb.exec = Jvm.exec) {i : Instr} {x y v : Value} (hb : bin i x y = some v) {pc : Nat} {Ls : Array Slot} {rest : List Value} (hd : decode c.code pc = .ok (i, 1))
    (hr : Steps tb e below (T.setTop (mkF m (pc + 1) Ls (v :: rest))) target) : Steps tb e below (T.setTop (mkF m pc Ls (y :: x :: rest))) target := by
  unfold bin at hb
  split at hb
  · cases hb; exact XS.iadd h hx rfl hd rfl hr
  · cases hb; exact XS.isub h hx rfl hd rfl hr
  · cases hb; exact XS.imul h hx rfl hd rfl hr
  · cases hb; exact XS.iand h hx rfl hd rfl hr
  · cases hb; exact XT.ior h hx rfl hd rfl hr
  · cases hb; exact XT.ixor h hx rfl hd rfl hr
  · cases hb; exact XT.ishl h hx rfl hd rfl hr
  · cases hb; exact XT.ishr h hx rfl hd rfl hr
  · cases hb; exact XT.iushr h hx rfl hd rfl hr
  · cases hb; exact XT.ladd h hx rfl hd rfl hr
  · cases hb; exact XT.lsub h hx rfl hd rfl hr
  · cases hb; exact XT.lmul h hx rfl hd rfl hr
  · cases hb; exact XT.land h hx rfl hd rfl hr
  · cases hb; exact XT.lor h hx rfl hd rfl hr
  · cases hb; exact XT.lxor h hx rfl hd rfl hr
  · cases hb; exact XT.lshl h hx rfl hd rfl hr
  · cases hb; exact XT.lshr h hx rfl hd rfl hr
  · cases hb; exact XT.lushr h hx rfl hd rfl hr
  · cases hb; exact XT.lcmp h hx rfl hd rfl hr
  · cases hb; exact XS.dcmpS h hx rfl hd rfl rfl hr
  · cases hb
theorem bin_plain {i : Instr} {x y v : Value} (hb : bin i x y = some v) (g : Nat → Addr) : gv g x = x ∧ gv g y = y ∧ gv g v = v := by
  unfold bin at hb
  split at hb <;> first | (cases hb; exact ⟨rfl, rfl, rfl⟩) | cases hb
theorem un_ok (h : At T m c below) (hx : tb.exec = Jvm.exec) {i : Instr} {x v : Value} (hb : un i x = some v) {pc : Nat} {Ls : Array Slot} {rest : List Value} (hd : decode c.code pc = .ok (i, 1))
    (hr : Steps tb e below (T.setTop (mkF m (pc + 1) Ls (v :: rest))) target) : Steps tb e below (T.setTop (mkF m pc Ls (x :: rest))) target := by
  unfold un at hb
  split at hb
  · cases hb; exact XS.ineg h hx rfl hd rfl hr
  · cases hb; exact XT.lneg h hx rfl hd rfl hr
  · cases hb; exact XS.dnegS h hx rfl hd rfl rfl hr
  · cases hb; exact XT.i2l h hx rfl hd rfl hr
  · cases hb; exact XT.l2i h hx rfl hd rfl hr
  · cases hb; exact XT.i2b h hx rfl hd rfl hr
  · cases hb; exact XT.i2c h hx rfl hd rfl hr
  · cases hb; exact XT.i2s h hx rfl hd rfl hr
  · cases hb; exact XS.i2dS h hx rfl hd rfl rfl hr
  · cases hb; exact XS.l2dS h hx rfl hd rfl rfl hr
  · cases hb; exact XS.d2iS h hx rfl hd rfl rfl hr
  · cases hb; exact XS.d2lS h hx rfl hd rfl rfl hr
  · cases hb
theorem un_plain {i : Instr} {x v : Value} (hb : un i x = some v) (g : Nat → Addr) : gv g x = x ∧ gv g v = v := by
  unfold un at hb
  split at hb <;> first | (cases hb; exact ⟨rfl, rfl⟩) | cases hb
theorem dbin_ok (h : At T m c below) (hx : tb.exec = Jvm.exec) {i : Instr} {x y v : UInt64} (hb : dbin i x y = some v) (hn : FP.dIsNaN v = false) {pc : Nat} {Ls : Array Slot} {rest : List Value} (hd : decode c.code pc = .ok (i, 1))
    (hr : Steps tb e below (T.setTop (mkF m (pc + 1) Ls (.double v :: rest))) target) : Steps tb e below (T.setTop (mkF m pc Ls (.double y :: .double x :: rest))) target := by
  unfold dbin at hb
  have hn' := Jvm.Free.Fl.noNaN64_no.mpr hn
  split at hb
  · cases hb; exact XS.daddS h hx rfl hd rfl hn' rfl hr
  · cases hb; exact XS.dsubS h hx rfl hd rfl hn' rfl hr
  · cases hb; exact XS.dmulS h hx rfl hd rfl hn' rfl hr
  · cases hb; exact XS.ddivS h hx rfl hd rfl hn' rfl hr
  · cases hb
theorem cst_ok (h : At T m c below) (hx : tb.exec = Jvm.exec) {i : Instr} {v : Value} (hb : cst i = some v) {pc : Nat} {Ls : Array Slot} {st : List Value} (hd : decode c.code pc = .ok (i, ilen i))
    (hr : Steps tb e below (T.setTop (mkF m (pc + ilen i) Ls (v :: st))) target) : Steps tb e below (T.setTop (mkF m pc Ls st)) target := by
  unfold cst at hb
  split at hb
  · cases hb; exact XS.iconst h hx rfl hd hr
  · cases hb; exact XS.bipush h hx rfl hd hr
  · cases hb; exact XS.sipush h hx rfl hd hr
  · cases hb; exact XT.lconst h hx rfl hd hr
  · cases hb; exact XT.lconst h hx rfl hd hr
  · cases hb; exact XS.dconst0 h hx rfl hd rfl hr
  · cases hb; exact XS.dconst1 h hx rfl hd rfl hr
  · cases hb; exact XS.aconstNull h hx rfl hd hr
  · cases hb
theorem cst_plain {i : Instr} {v : Value} (hb : cst i = some v) (g : Nat → Addr) : gv g v = v := by
  unfold cst at hb
  split at hb <;> first | (cases hb; rfl) | cases hb
theorem ld_ok (h : At T m c below) (hx : tb.exec = Jvm.exec) (g : Nat → Addr) {i : Instr} {v : Value} {L : List Slot} (hl : L[ldi i]? = some (.val v)) (ho : ldok i v = true) {pc : Nat} {st : List Value} (hd : decode c.code pc = .ok (i, ilen i))
    (hr : Steps tb e below (T.setTop (mkF m (pc + ilen i) (gL g L) (gv g v :: st))) target) : Steps tb e below (T.setTop (mkF m pc (gL g L) st)) target := by
  have hl' := gL_get (g := g) hl
  unfold ldok at ho
  split at ho
  · exact XS.iload h hx rfl hd hl' hr
  · exact XS.iloadN h hx rfl hd hl' hr
  · exact XT.lload h hx rfl hd hl' hr
  · exact XT.lloadN h hx rfl hd hl' hr
  · exact XS.dload h hx rfl hd hl' hr
  · exact XS.dloadN h hx rfl hd hl' hr
  · exact XS.aload h hx rfl hd hl' rfl hr
  · exact XS.aload h hx rfl hd hl' rfl hr
  · exact XS.aloadN h hx rfl hd hl' rfl hr
  · exact XS.aloadN h hx rfl hd hl' rfl hr
  · cases ho
theorem st_ok (h : At T m c below) (hx : tb.exec = Jvm.exec) (g : Nat → Addr) {i : Instr} {v : Value} {L L' : List Slot} (hl : stL L (sti i) v = some L') (ho : stok i v = true) {pc : Nat} {st : List Value} (hd : decode c.code pc = .ok (i, ilen i))
    (hr : Steps tb e below (T.setTop (mkF m (pc + ilen i) (gL g L') st)) target) : Steps tb e below (T.setTop (mkF m pc (gL g L) (gv g v :: st))) target := by
  have hl' := stL_ok (g := g) hl
  unfold stok at ho
  split at ho
  · exact XS.istore h hx rfl hd rfl hl' hr
  · exact XS.istoreN h hx rfl hd rfl hl' hr
  · exact XT.lstore h hx rfl hd rfl hl' hr
  · exact XT.lstoreN h hx rfl hd rfl hl' hr
  · exact XS.dstore h hx rfl hd rfl hl' hr
  · exact XS.dstoreN h hx rfl hd rfl hl' hr
  · exact XS.astore h hx rfl hd rfl rfl hl' hr
  · exact XS.astore h hx rfl hd rfl rfl hl' hr
  · exact XS.astoreN h hx rfl hd rfl rfl hl' hr
  · exact XS.astoreN h hx rfl hd rfl rfl hl' hr
  · cases ho
theorem dup2D (h : At T m c below) (hx : tb.exec = Jvm.exec) {pc : Nat} {Ls : Array Slot} {x : UInt64} {rest : List Value} (hd : decode c.code pc = .ok (.dup2, 1))
    (hr : Steps tb e below (T.setTop (mkF m (pc + 1) Ls (.double x :: .double x :: rest))) target) : Steps tb e below (T.setTop (mkF m pc Ls (.double x :: rest))) target := by
  jvm_step h [h.top, hx, hd, Value.category]
  exact hr
theorem pop2C (h : At T m c below) (hx : tb.exec = Jvm.exec) {pc : Nat} {Ls : Array Slot} {x : Value} {rest : List Value} (hd : decode c.code pc = .ok (.pop2, 1)) (hc : x.category = 2)
    (hr : Steps tb e below (T.setTop (mkF m (pc + 1) Ls rest)) target) : Steps tb e below (T.setTop (mkF m pc Ls (x :: rest))) target := by
  jvm_step h [h.top, hx, hd, hc]
  exact hr
theorem dupX2C (h : At T m c below) (hx : tb.exec = Jvm.exec) {pc : Nat} {Ls : Array Slot} {x y z : Value} {rest : List Value} (hd : decode c.code pc = .ok (.dup_x2, 1)) (hc : x.category = 1) (hc' : y.category = 1) (hc'' : z.category = 1)
    (hr : Steps tb e below (T.setTop (mkF m (pc + 1) Ls (x :: y :: z :: x :: rest))) target) : Steps tb e below (T.setTop (mkF m pc Ls (x :: y :: z :: rest))) target := by
  jvm_step h [h.top, hx, hd, hc, hc', hc'']
  exact hr
theorem irem_mod (x y : Int32) : x - x / y * y = x % y := irem_eq_mod x y
theorem jmp_ok (h : At T m c below) {g : Nat → Addr} {cs cs' : List Prop} {o o' : Orc} {pc pc' : Nat} {L L' : List Slot} {r S' : List Value} {off : Int} (hp : jmp cs o pc L r off = some (cs', o', pc', L', S')) : cs' = cs ∧ o' = o ∧ 0 ≤ (pc : Int) + off ∧ ((pc : Int) + off).toNat = pc' ∧ L' = L ∧ S' = r := by
  unfold jmp at hp
  split at hp
  · rename_i q; cases hp; exact ⟨rfl, rfl, q, rfl, rfl, rfl⟩
  · cases hp
theorem pJ_ok (h : At T m c below) {g : Nat → Addr} {cs : List Prop} {o o' : Orc} {pc pc' : Nat} {L L' : List Slot} {r S' : List Value} {b : Bool} {off : Int} (hp : pJ o pc L r b off = some (cs, o', pc', L', S')) (hc : ∀ P ∈ cs, P) : L' = L ∧ S' = r ∧ ((b = true ∧ 0 ≤ (pc : Int) + off ∧ ((pc : Int) + off).toNat = pc') ∨ (b = false ∧ pc' = pc + 3)) := by
  unfold pJ at hp
  split at hp
  · rename_i ha
    obtain ⟨rfl, rfl, h3, h4, rfl, rfl⟩ := jmp_ok (g := g) h hp
    exact ⟨rfl, rfl, Or.inl ⟨ask_ok ha hc, h3, h4⟩⟩
  · rename_i ha
    cases hp
    exact ⟨rfl, rfl, Or.inr ⟨ask_ok ha hc, rfl⟩⟩
  · cases hp
theorem pstep_ok (h : At T m c below) (hx : tb.exec = Jvm.exec) (g : Nat → Addr) {i : Instr} {o o' : Orc} {pc pc' : Nat} {L L' : List Slot} {S S' : List Value} {cs : List Prop}
    (hp : pstep i o pc L S = some (cs, o', pc', L', S')) (hd : decode c.code pc = .ok (i, ilen i)) (hc : ∀ P ∈ cs, P)
    (hr : Steps tb e below (T.setTop (mkF m pc' (gL g L') (gS g S'))) target) : Steps tb e below (T.setTop (mkF m pc (gL g L) (gS g S))) target := by
  rcases pstep_sort hp with hp | hp | hp | ⟨k, cc, rfl, hq⟩ | ⟨hl, hp⟩ | ⟨hl, hp⟩ | ⟨hl, hp⟩ | ⟨hl, hp⟩ | ⟨hl, hp⟩ | ⟨hl, hp⟩
  · unfold pC at hp
    split at hp
    · rename_i v hv
      cases hp
      refine cst_ok h hx hv hd ?_
      have := cst_plain hv g
      simpa [gS, this] using hr
    · cases hp
  · unfold pL at hp
    split at hp
    · rename_i v hv
      split at hp
      · rename_i ho
        cases hp
        exact ld_ok h hx g hv ho hd hr
      · cases hp
    · cases hp
  · unfold pS at hp
    split at hp
    · split at hp
      · rename_i ho
        split at hp
        · rename_i L1 hl
          rw [forceL_eq] at hp
          cases hp
          exact st_ok h hx g hl ho hd hr
        · cases hp
      · cases hp
    · cases hp
  · clear hp
    unfold pI at hq
    split at hq
    · rename_i x hl
      split at hq
      · rename_i L1 hs
        rw [forceL_eq] at hq
        cases hq
        exact XS.iinc h hx rfl hd (gL_get (g := g) hl) (stL_ok (g := g) hs) hr
      · cases hq
    · cases hq
  · rw [hl] at hd
    unfold pB at hp
    split at hp
    · split at hp
      · rename_i v hv
        cases hp
        obtain ⟨e1, e2, e3⟩ := bin_plain hv g
        simp only [gS, List.map_cons, e1, e2, e3] at hr ⊢
        exact bin_ok h hx hv hd hr
      · cases hp
    · cases hp
  · rw [hl] at hd
    unfold pU at hp
    split at hp
    · split at hp
      · rename_i v hv
        cases hp
        obtain ⟨e1, e3⟩ := un_plain hv g
        simp only [gS, List.map_cons, e1, e3] at hr ⊢
        exact un_ok h hx hv hd hr
      · cases hp
    · cases hp
  · rw [hl] at hd
    unfold pD at hp
    split at hp
    · split at hp
      · rename_i v hv
        split at hp
        · rename_i cs1 hn
          cases hp
          exact dbin_ok h hx hv (need_ok hn hc) hd hr
        · cases hp
      · cases hp
    · cases hp
  · rw [hl] at hd
    unfold pZ at hp
    split at hp
    · split at hp
      · rename_i hn
        cases hp
        exact XS.idiv h hx rfl hd rfl (need_ok hn hc) hr
      · cases hp
    · split at hp
      · rename_i hn
        cases hp
        refine XS.irem h hx rfl hd rfl (need_ok hn hc) ?_
        rw [irem_mod]; exact hr
      · cases hp
    · split at hp
      · rename_i hn
        cases hp
        exact XT.ldiv h hx rfl hd rfl (need_ok hn hc) hr
      · cases hp
    · split at hp
      · rename_i hn
        cases hp
        exact XT.lrem h hx rfl hd rfl (need_ok hn hc) hr
      · cases hp
    · cases hp
  · rw [hl] at hd
    unfold pT at hp
    split at hp
    · split at hp
      · rename_i hk
        cases hp
        exact XS.dup h hx rfl hd rfl (by rw [gv_cat]; exact hk) hr
      · cases hp
    · split at hp
      · rename_i hk
        cases hp
        exact XT.pop h hx rfl hd rfl (by rw [gv_cat]; exact hk) hr
      · cases hp
    · cases hp; exact XT.dup2L h hx rfl hd rfl hr
    · cases hp; exact dup2D h hx hd hr
    · split at hp
      · rename_i hk
        cases hp
        exact XT.dup2 h hx rfl hd rfl (by rw [gv_cat]; exact hk.1) (by rw [gv_cat]; exact hk.2) hr
      · cases hp
    · split at hp
      · rename_i hk
        cases hp
        exact pop2C h hx hd (by rw [gv_cat]; exact hk) hr
      · cases hp
    · split at hp
      · rename_i hk
        cases hp
        exact XT.dupX1 h hx rfl hd rfl (by rw [gv_cat]; exact hk.1) (by rw [gv_cat]; exact hk.2) hr
      · cases hp
    · split at hp
      · rename_i hk
        cases hp
        exact dupX2C h hx hd (by rw [gv_cat]; exact hk.1) (by rw [gv_cat]; exact hk.2.1) (by rw [gv_cat]; exact hk.2.2) hr
      · cases hp
    · cases hp
  · rw [hl] at hd
    unfold pG at hp
    split at hp
    · obtain ⟨rfl, rfl, h3, h4, rfl, rfl⟩ := jmp_ok (g := g) h hp
      exact XS.goto h hx rfl rfl hd h3 h4 hr
    · obtain ⟨rfl, rfl, ⟨h1, h2, h3⟩ | ⟨h1, rfl⟩⟩ := pJ_ok (g := g) h hp hc
      · exact XS.ifYes h hx rfl rfl hd rfl h1 h2 h3 hr
      · exact XS.ifNo h hx rfl hd rfl h1 hr
    · obtain ⟨rfl, rfl, ⟨h1, h2, h3⟩ | ⟨h1, rfl⟩⟩ := pJ_ok (g := g) h hp hc
      · exact XS.icmpYes h hx rfl rfl hd rfl h1 h2 h3 hr
      · exact XS.icmpNo h hx rfl hd rfl h1 hr
    · obtain ⟨rfl, rfl, h3, h4, rfl, rfl⟩ := jmp_ok (g := g) h hp
      exact XS.ifnullYes h hx rfl rfl hd rfl h3 h4 hr
    · cases hp
      exact XS.ifnullNo h hx rfl hd rfl hr
    · obtain ⟨rfl, rfl, h3, h4, rfl, rfl⟩ := jmp_ok (g := g) h hp
      exact XT.ifnonnullYes h hx rfl rfl hd rfl h3 h4 hr
    · cases hp
      exact XT.ifnonnullNo h hx rfl hd rfl hr
    · cases hp
end Pure
/-! well-formed: every object named lies in the list -/
def wv (n : Nat) : Value → Prop
  | .ref i => i < n
  | _ => True
def wsl (n : Nat) : Slot → Prop
  | .val v => wv n v
  | _ => True
abbrev wL (n : Nat) (L : List Slot) : Prop := ∀ s ∈ L, wsl n s
abbrev wS (n : Nat) (S : List Value) : Prop := ∀ v ∈ S, wv n v
theorem wv_mono {n n' : Nat} (h : n ≤ n') {v : Value} (w : wv n v) : wv n' v := by
  cases v <;> first | exact trivial | exact Nat.lt_of_lt_of_le w h
theorem wsl_mono {n n' : Nat} (h : n ≤ n') {v : Slot} (w : wsl n v) : wsl n' v := by
  cases v <;> first | exact trivial | exact wv_mono h w
theorem gv_cong {g g' : Nat → Addr} {n : Nat} (h : ∀ i, i < n → g' i = g i) {v : Value} (w : wv n v) : gv g' v = gv g v := by
  cases v <;> first | rfl | exact congrArg Value.ref (h _ w)
theorem gS_cong {g g' : Nat → Addr} {n : Nat} (h : ∀ i, i < n → g' i = g i) {S : List Value} (w : wS n S) : gS g' S = gS g S := by
  refine List.map_congr_left fun v hv => gv_cong h (w v hv)
theorem gs_cong {g g' : Nat → Addr} {n : Nat} (h : ∀ i, i < n → g' i = g i) {v : Slot} (w : wsl n v) : gs g' v = gs g v := by
  cases v <;> first | rfl | exact congrArg Slot.val (gv_cong h w)
theorem gL_cong {g g' : Nat → Addr} {n : Nat} (h : ∀ i, i < n → g' i = g i) {L : List Slot} (w : wL n L) : gL g' L = gL g L := by
  unfold gL
  rw [List.map_congr_left fun v hv => gs_cong h (w v hv)]
theorem setL_wf {n : Nat} {L L' : List Slot} {i : Nat} {x : Slot} (h : setL L i x = some L') (w : wL n L) (wx : wsl n x) : wL n L' := by
  unfold setL at h; split at h
  · cases h
    intro s hs
    rcases List.mem_or_eq_of_mem_set hs with q | q
    · exact w s q
    · subst q; exact wx
  · cases h
theorem stSelf_wf {n : Nat} {L L' : List Slot} {i : Nat} {v : Value} (h : stSelf L i v = some L') (w : wL n L) (wx : wv n v) : wL n L' := by
  unfold stSelf at h
  obtain ⟨L1, h1, h2⟩ := Option.bind_eq_some_iff.mp h
  have e1 : wL n L1 := setL_wf h1 w wx
  split at h2
  · split at h2
    · cases h2
    · split at h2
      · obtain ⟨L2, a1, a2⟩ := Option.bind_eq_some_iff.mp h2
        exact setL_wf a2 (setL_wf a1 e1 trivial) trivial
      · exact setL_wf h2 e1 trivial
    · exact setL_wf h2 e1 trivial
  · cases h2; exact e1
theorem stL_wf {n : Nat} {L L' : List Slot} {i : Nat} {v : Value} (h : stL L i v = some L') (w : wL n L) (wx : wv n v) : wL n L' := by
  unfold stL at h
  split at h
  · cases h
  · obtain ⟨L1, a1, a2⟩ := Option.bind_eq_some_iff.mp h
    exact stSelf_wf a2 (setL_wf a1 w trivial) wx
  · split at h
    · obtain ⟨L1, a1, a2⟩ := Option.bind_eq_some_iff.mp h
      exact stSelf_wf a2 (setL_wf a1 w trivial) wx
    · exact stSelf_wf h w wx
  · exact stSelf_wf h w wx
theorem cst_wf {n : Nat} {i : Instr} {v : Value} (hb : cst i = some v) : wv n v := by
  unfold cst at hb
  split at hb <;> first | (cases hb; exact trivial) | cases hb
theorem bin_wf {n : Nat} {i : Instr} {x y v : Value} (hb : bin i x y = some v) : wv n v := by
  unfold bin at hb
  split at hb <;> first | (cases hb; exact trivial) | cases hb
theorem un_wf {n : Nat} {i : Instr} {x v : Value} (hb : un i x = some v) : wv n v := by
  unfold un at hb
  split at hb <;> first | (cases hb; exact trivial) | cases hb
theorem wS_cons {n : Nat} {v : Value} {S : List Value} : wS n (v :: S) ↔ wv n v ∧ wS n S := by
  constructor
  · exact fun h => ⟨h v (List.mem_cons_self ..), fun x hx => h x (List.mem_cons_of_mem _ hx)⟩
  · rintro ⟨h1, h2⟩ x hx
    rcases List.mem_cons.mp hx with q | q
    · subst q; exact h1
    · exact h2 x q
theorem wL_get {n : Nat} {L : List Slot} (w : wL n L) {k : Nat} {v : Value} (h : L[k]? = some (.val v)) : wv n v := w (.val v) (List.mem_of_getElem? h)
theorem pstep_wf {n : Nat} {i : Instr} {o o' : Orc} {pc pc' : Nat} {L L' : List Slot} {S S' : List Value} {cs : List Prop}
    (hp : pstep i o pc L S = some (cs, o', pc', L', S')) (w1 : wL n L) (w2 : wS n S) : wL n L' ∧ wS n S' ∧ L'.length = L.length := by
  have jw : ∀ {cs cs' : List Prop} {o o' : Orc} {pc' : Nat} {L' : List Slot} {r S' : List Value} {off : Int}, jmp cs o pc L r off = some (cs', o', pc', L', S') → wS n r → wL n L' ∧ wS n S' ∧ L'.length = L.length := by
    intro cs cs' o o' pc' L' r S' off hp w
    unfold jmp at hp
    split at hp
    · cases hp; exact ⟨w1, w, rfl⟩
    · cases hp
  have Jw : ∀ {b : Bool} {r : List Value} {off : Int}, pJ o pc L r b off = some (cs, o', pc', L', S') → wS n r → wL n L' ∧ wS n S' ∧ L'.length = L.length := by
    intro b r off hp w
    unfold pJ at hp
    split at hp
    · exact jw hp w
    · cases hp; exact ⟨w1, w, rfl⟩
    · cases hp
  rcases pstep_sort hp with hp | hp | hp | ⟨k, cc, rfl, hq⟩ | ⟨hl, hp⟩ | ⟨hl, hp⟩ | ⟨hl, hp⟩ | ⟨hl, hp⟩ | ⟨hl, hp⟩ | ⟨hl, hp⟩
  · unfold pC at hp
    split at hp
    · rename_i v hv
      cases hp
      exact ⟨w1, wS_cons.mpr ⟨cst_wf hv, w2⟩, rfl⟩
    · cases hp
  · unfold pL at hp
    split at hp
    · rename_i v hv
      split at hp
      · cases hp
        exact ⟨w1, wS_cons.mpr ⟨wL_get w1 hv, w2⟩, rfl⟩
      · cases hp
    · cases hp
  · unfold pS at hp
    split at hp
    · have w3 := wS_cons.mp w2
      split at hp
      · split at hp
        · rename_i L1 hl
          rw [forceL_eq] at hp
          cases hp
          exact ⟨stL_wf hl w1 w3.1, w3.2, stL_len hl⟩
        · cases hp
      · cases hp
    · cases hp
  · clear hp
    unfold pI at hq
    split at hq
    · split at hq
      · rename_i L1 hs
        rw [forceL_eq] at hq
        cases hq
        exact ⟨stL_wf hs w1 trivial, w2, stL_len hs⟩
      · cases hq
    · cases hq
  · unfold pB at hp
    split at hp
    · have w3 := wS_cons.mp (wS_cons.mp w2).2
      split at hp
      · rename_i v hv
        cases hp
        exact ⟨w1, wS_cons.mpr ⟨bin_wf hv, w3.2⟩, rfl⟩
      · cases hp
    · cases hp
  · unfold pU at hp
    split at hp
    · have w3 := wS_cons.mp w2
      split at hp
      · rename_i v hv
        cases hp
        exact ⟨w1, wS_cons.mpr ⟨un_wf hv, w3.2⟩, rfl⟩
      · cases hp
    · cases hp
  · unfold pD at hp
    split at hp
    · have w3 := wS_cons.mp (wS_cons.mp w2).2
      split at hp
      · split at hp
        · cases hp
          exact ⟨w1, wS_cons.mpr ⟨trivial, w3.2⟩, rfl⟩
        · cases hp
      · cases hp
    · cases hp
  · unfold pZ at hp
    split at hp
    all_goals first | cases hp; done | skip
    all_goals
      split at hp
      · cases hp; exact ⟨w1, wS_cons.mpr ⟨trivial, (wS_cons.mp (wS_cons.mp w2).2).2⟩, rfl⟩
      · cases hp
  · unfold pT at hp
    split at hp
    · split at hp
      · cases hp; exact ⟨w1, wS_cons.mpr ⟨(wS_cons.mp w2).1, w2⟩, rfl⟩
      · cases hp
    · split at hp
      · cases hp; exact ⟨w1, (wS_cons.mp w2).2, rfl⟩
      · cases hp
    · cases hp; exact ⟨w1, wS_cons.mpr ⟨trivial, w2⟩, rfl⟩
    · cases hp; exact ⟨w1, wS_cons.mpr ⟨trivial, w2⟩, rfl⟩
    · split at hp
      · cases hp
        have w3 := wS_cons.mp w2
        exact ⟨w1, wS_cons.mpr ⟨w3.1, wS_cons.mpr ⟨(wS_cons.mp w3.2).1, w2⟩⟩, rfl⟩
      · cases hp
    · split at hp
      · cases hp; exact ⟨w1, (wS_cons.mp w2).2, rfl⟩
      · cases hp
    · split at hp
      · cases hp
        have w3 := wS_cons.mp w2
        have w4 := wS_cons.mp w3.2
        exact ⟨w1, wS_cons.mpr ⟨w3.1, wS_cons.mpr ⟨w4.1, wS_cons.mpr ⟨w3.1, w4.2⟩⟩⟩, rfl⟩
      · cases hp
    · split at hp
      · cases hp
        have w3 := wS_cons.mp w2
        have w4 := wS_cons.mp w3.2
        have w5 := wS_cons.mp w4.2
        exact ⟨w1, wS_cons.mpr ⟨w3.1, wS_cons.mpr ⟨w4.1, wS_cons.mpr ⟨w5.1, wS_cons.mpr ⟨w3.1, w5.2⟩⟩⟩⟩, rfl⟩
      · cases hp
    · cases hp
  · unfold pG at hp
    split at hp
    · exact jw hp w2
    · exact Jw hp (wS_cons.mp w2).2
    · exact Jw hp (wS_cons.mp (wS_cons.mp w2).2).2
    · exact jw hp (wS_cons.mp w2).2
    · cases hp; exact ⟨w1, (wS_cons.mp w2).2, rfl⟩
    · exact jw hp (wS_cons.mp w2).2
    · cases hp; exact ⟨w1, (wS_cons.mp w2).2, rfl⟩
    · cases hp
/-! the heap: class objects with their fields, arrays with their components -/
abbrev Fd : Type := String × String × String × FieldType
abbrev KTy : Type := Nat → Option (String × List Fd)
def arT : Nat → Option (FieldType × String)
  | 0 => some (.int, "[I")
  | 1 => some (.long, "[J")
  | 2 => some (.double, "[D")
  | 3 => some (.boolean, "[Z")
  | 4 => some (.byte, "[B")
  | _ => none
section Heaps
variable {Z : State} {a0 : Array Value} {kc : KTy} {n0 k0 : Nat} {h h' : Heap} {g g' : Nat → Addr} {A : AH}
def OC (Z : State) (kc : KTy) (h : Heap) (g : Nat → Addr) (a : Addr) (ob : Obj) : Prop :=
  ∀ C fs, kc ob.1 = some (C, fs) → Exa Z h a C ∧ ob.2.length = fs.length ∧ ∀ (j : Nat) (f : Fd) (v : Value), fs[j]? = some f → ob.2[j]? = some v → Fld Z h a f.1 f.2.1 f.2.2.1 (gv g v)
def OA (Z : State) (h : Heap) (g : Nat → Addr) (a : Addr) (ob : Obj) : Prop :=
  ∀ ty nm, arT ob.1 = some (ty, nm) → ∃ c : Cell, Arr Z h a c ty ∧ c.slots.toList = gS g ob.2 ∧ ob.2.length < 2 ^ 31 ∧ Z.vm.findClass nm = some c.cls ∧ c.vm = .none ∧ ∀ v ∈ ob.2, fits ty v = true
def OR (Z : State) (kc : KTy) (h : Heap) (g : Nat → Addr) (a : Addr) (ob : Obj) : Prop := OC Z kc h g a ob ∧ OA Z h g a ob
theorem OR.ext {a : Addr} {ob : Obj} (F : OR Z kc h g a ob) (E : Ext h h') : OR Z kc h' g a ob := by
  refine ⟨fun C fs hk => ?_, fun ty nm hk => ?_⟩
  · obtain ⟨q1, q2, q3⟩ := F.1 C fs hk
    exact ⟨q1.ext E, q2, fun j f v a b => (q3 j f v a b).ext E⟩
  · obtain ⟨c, q1, q2⟩ := F.2 ty nm hk
    exact ⟨c, q1.ext E, q2⟩
theorem OR.cong {a : Addr} {ob : Obj} (F : OR Z kc h g a ob) {n : Nat} (e : ∀ i, i < n → g' i = g i) (w : wS n ob.2) : OR Z kc h g' a ob := by
  refine ⟨fun C fs hk => ?_, fun ty nm hk => ?_⟩
  · obtain ⟨q1, q2, q3⟩ := F.1 C fs hk
    exact ⟨q1, q2, fun j f v a b => by rw [gv_cong e (w v (List.mem_of_getElem? b))]; exact q3 j f v a b⟩
  · obtain ⟨c, q1, q2, q3⟩ := F.2 ty nm hk
    exact ⟨c, q1, by rw [gS_cong e w]; exact q2, q3⟩
theorem OR.other {a b : Addr} {sl : Nat} {v : Value} {ob : Obj} (F : OR Z kc h g b ob) (W : Wr h h' a sl v) (ne : b ≠ a) : OR Z kc h' g b ob := by
  refine ⟨fun C fs hk => ?_, fun ty nm hk => ?_⟩
  · obtain ⟨q1, q2, q3⟩ := F.1 C fs hk
    exact ⟨q1.wr W, q2, fun j f v a b => (q3 j f v a b).other W (Or.inl ne)⟩
  · obtain ⟨c, q1, q2⟩ := F.2 ty nm hk
    exact ⟨c, q1.other W ne, q2⟩
/-- what the kinds' table must be: each field laid in its class, no two of one name -/
def KOk (Z : State) (a0 : Array Value) (kc : KTy) : Prop := ∀ k C fs, kc k = some (C, fs) → arT k = none ∧ (∀ f ∈ fs, Laid Z a0 C f.1 f.2.1 f.2.2.1 ∧ parseFieldDescriptor f.2.2.1 = some f.2.2.2) ∧ ∀ (i j : Nat) (f f' : Fd), fs[i]? = some f → fs[j]? = some f' → i ≠ j → f.2.1 ≠ f'.2.1
theorem OR.put {a : Addr} {k : Nat} {vs : List Value} {C : String} {fs : List Fd} {j : Nat} {f : Fd} {v : Value} (K : KOk Z a0 kc) (hk : kc k = some (C, fs)) (hj : fs[j]? = some f)
    (F : OR Z kc h g a (k, vs)) (W : Wr h h' a (RoadKit.slotOf Z f.1 f.2.1 f.2.2.1) (gv g v)) : OR Z kc h' g a (k, vs.set j v) := by
  obtain ⟨k1, k2, k3⟩ := K k C fs hk
  obtain ⟨q1, q2, q3⟩ := F.1 C fs hk
  refine ⟨fun C' fs' hk' => ?_, fun ty nm hk' => (by rw [k1] at hk'; cases hk')⟩
  cases hk.symm.trans hk'
  refine ⟨q1.wr W, by simpa using q2, fun i f' v' hf hv => ?_⟩
  by_cases e : j = i
  · subst e
    cases hj.symm.trans hf
    have hlt : j < vs.length := by
      have := (List.getElem?_eq_some_iff.mp hj).1
      have q2' : vs.length = fs.length := q2
      omega
    rw [List.getElem?_set_self hlt] at hv
    cases hv
    have hv0 : vs[j]? = some vs[j] := List.getElem?_eq_getElem hlt
    exact (q3 j f _ hj hv0).same W
  · rw [List.getElem?_set_ne e] at hv
    refine (q3 i f' v' hf hv).other W (Or.inr ?_)
    have m1 := k2 f (List.mem_of_getElem? hj)
    have m2 := k2 f' (List.mem_of_getElem? hf)
    exact slot_ne m2.1 m1.1 (k3 i j f' f hf hj (Ne.symm e)) m2.2 m1.2
theorem OR.store {a : Addr} {k : Nat} {vs : List Value} {ty : FieldType} {nm : String} {j : Nat} {v : Value} (hk : arT k = some (ty, nm)) (hkc : kc k = none) (hj : j < vs.length) (hf : fits ty v = true)
    (F : OR Z kc h g a (k, vs)) (W : Wr h h' a j (gv g v)) : OR Z kc h' g a (k, vs.set j v) := by
  refine ⟨fun C fs hk' => (by rw [hkc] at hk'; cases hk'), fun ty' nm' hk' => ?_⟩
  cases hk.symm.trans hk'
  obtain ⟨c, q1, q2, q3, q4, q5, q6⟩ := F.2 ty nm hk
  refine ⟨_, q1.same W, ?_, by simpa using q3, q4, q5, fun x hx => ?_⟩
  · have hs : j < c.slots.size := by
      have := congrArg List.length q2
      simp only [Array.length_toList, gS, List.length_map] at this
      omega
    simp only [Cell.setSlot, Array.toList_setIfInBounds, q2, gS, List.map_set]
  · rcases List.mem_or_eq_of_mem_set hx with q | q
    · exact q6 x q
    · subst q; exact hf
abbrev SL : Type := List ((String × String × String) × Value)
def Rep (Z : State) (kc : KTy) (sl : SL) (n0 k0 : Nat) (h : Heap) (g : Nat → Addr) (A : AH) : Prop :=
  (∀ i, i < A.length → g i < h.size ∧ (k0 ≤ i → n0 ≤ g i)) ∧ (∀ i j, i < A.length → j < A.length → g i = g j → i = j) ∧ (∀ i ob, A[i]? = some ob → OR Z kc h g (g i) ob ∧ wS A.length ob.2) ∧ n0 ≤ h.size ∧ k0 ≤ A.length ∧ ∀ x ∈ sl, Sta Z h x.1.1 x.1.2.1 x.1.2.2 (gv g x.2) ∧ wv k0 x.2
variable {sl : SL}
theorem Rep.ob {i : Nat} {ob : Obj} (Rp : Rep Z kc sl n0 k0 h g A) (hi : A[i]? = some ob) : OR Z kc h g (g i) ob := (Rp.2.2.1 i ob hi).1
theorem Rep.wf {i : Nat} {ob : Obj} (Rp : Rep Z kc sl n0 k0 h g A) (hi : A[i]? = some ob) : wS A.length ob.2 := (Rp.2.2.1 i ob hi).2
theorem Rep.lt {i : Nat} {ob : Obj} (hi : A[i]? = some ob) : i < A.length := (List.getElem?_eq_some_iff.mp hi).1
/-- a new object at the heap's end -/
def gnew (g : Nat → Addr) (n : Nat) (a : Addr) : Nat → Addr := fun i => if i = n then a else g i
theorem gnew_old (g : Nat → Addr) (n : Nat) (a : Addr) : ∀ i, i < n → gnew g n a i = g i := fun i hi => if_neg (by omega)
theorem gnew_new (g : Nat → Addr) (n : Nat) (a : Addr) : gnew g n a n = a := if_pos rfl
theorem Rep.new {ob : Obj} (Rp : Rep Z kc sl n0 k0 h g A) (E : Ext h h') (hlt : h.size < h'.size) (hob : OR Z kc h' (gnew g A.length h.size) h.size ob) (w : wS A.length ob.2) : Rep Z kc sl n0 k0 h' (gnew g A.length h.size) (A ++ [ob]) := by
  obtain ⟨r1, r2, r3, r4, r5, r6⟩ := Rp
  have old := gnew_old g A.length h.size
  refine ⟨fun i hi => ?_, fun i j hi hj e => ?_, fun i x hi => ?_, by omega, by simp; omega, fun x hx => ?_⟩
  · simp only [List.length_append, List.length_cons, List.length_nil] at hi
    by_cases q : i = A.length
    · subst q; rw [gnew_new]; exact ⟨hlt, fun _ => r4⟩
    · rw [old i (by omega)]; exact ⟨Nat.lt_trans (r1 i (by omega)).1 hlt, (r1 i (by omega)).2⟩
  · simp only [List.length_append, List.length_cons, List.length_nil] at hi hj
    by_cases q : i = A.length
    · by_cases q' : j = A.length
      · omega
      · subst q; rw [gnew_new, old j (by omega)] at e; exact absurd e.symm (Nat.ne_of_lt (r1 j (by omega)).1)
    · by_cases q' : j = A.length
      · subst q'; rw [gnew_new, old i (by omega)] at e; exact absurd e (Nat.ne_of_lt (r1 i (by omega)).1)
      · rw [old i (by omega), old j (by omega)] at e; exact r2 i j (by omega) (by omega) e
  · by_cases q : i < A.length
    · rw [List.getElem?_append_left q] at hi
      obtain ⟨o1, o2⟩ := r3 i x hi
      rw [old i q]
      exact ⟨(o1.ext E).cong old o2, fun v hv => wv_mono (by simp) (o2 v hv)⟩
    · rw [List.getElem?_append_right (by omega)] at hi
      have hz : i - A.length = 0 := by
        by_cases z : i - A.length = 0
        · exact z
        · rw [List.getElem?_eq_none (by simp; omega)] at hi; cases hi
      rw [hz] at hi
      cases hi
      have : i = A.length := by omega
      subst this
      rw [gnew_new]
      exact ⟨hob, fun v hv => wv_mono (by simp) (w v hv)⟩
  · obtain ⟨s1, s2⟩ := r6 x hx
    exact ⟨by rw [gv_cong old (wv_mono r5 s2)]; exact s1.ext E, s2⟩
theorem Rep.upd {i : Nat} {ob ob' : Obj} {s : Nat} {v : Value} (Rp : Rep Z kc sl n0 k0 h g A) (hi : A[i]? = some ob) (W : Wr h h' (g i) s v) (hob : OR Z kc h' g (g i) ob') (w : wS A.length ob'.2) : Rep Z kc sl n0 k0 h' g (A.set i ob') := by
  obtain ⟨r1, r2, r3, r4, r5, r6⟩ := Rp
  have hlt := Rep.lt hi
  refine ⟨fun j hj => ?_, fun j j' hj hj' e => ?_, fun j x hj => ?_, by rw [W.size]; exact r4, by simpa using r5, fun x hx => ?_⟩
  · rw [W.size]; exact r1 j (by simpa using hj)
  · exact r2 j j' (by simpa using hj) (by simpa using hj') e
  · rw [List.length_set]
    by_cases e : i = j
    · subst e
      rw [List.getElem?_set_self hlt] at hj
      cases hj
      exact ⟨hob, w⟩
    · rw [List.getElem?_set_ne e] at hj
      obtain ⟨o1, o2⟩ := r3 j x hj
      exact ⟨o1.other W (fun q => e (r2 j i (Rep.lt hj) hlt q).symm), o2⟩
  · obtain ⟨s1, s2⟩ := r6 x hx
    exact ⟨s1.wr W, s2⟩
theorem Rep.exa {i k : Nat} {vs : List Value} {C : String} {fs : List Fd} (Rp : Rep Z kc sl n0 k0 h g A) (hi : A[i]? = some (k, vs)) (hk : kc k = some (C, fs)) : Exa Z h (g i) C := ((Rp.ob hi).1 C fs hk).1
theorem Rep.exaA {i k : Nat} {vs : List Value} {ty : FieldType} {nm : String} (Rp : Rep Z kc sl n0 k0 h g A) (hi : A[i]? = some (k, vs)) (hk : arT k = some (ty, nm)) : Exa Z h (g i) nm := by
  obtain ⟨c, q1, q2, q3, q4, q5, q6⟩ := (Rp.ob hi).2 ty nm hk
  exact exa_arr q1 q4 q5
theorem setIf_self {α : Type} {h : Array α} {i : Nat} {c : α} (e : h[i]? = some c) : h.setIfInBounds i c = h := by
  apply Array.toList_inj.mp
  rw [Array.toList_setIfInBounds]
  have e' : h.toList[i]? = some c := by rw [Array.getElem?_toList]; exact e
  apply List.ext_getElem?
  intro j
  by_cases q : i = j
  · subst q
    rw [List.getElem?_set_self (List.getElem?_eq_some_iff.mp e').1, e']
  · rw [List.getElem?_set_ne q]
theorem setL_self {α : Type} {l : List α} {i : Nat} {c : α} (e : l[i]? = some c) : l.set i c = l := by
  apply List.ext_getElem?
  intro j
  by_cases q : i = j
  · subst q
    rw [List.getElem?_set_self (List.getElem?_eq_some_iff.mp e).1, e]
  · rw [List.getElem?_set_ne q]
/-- a stretch of an array written -/
def setRun : List Value → Nat → List Value → List Value
  | ws, _, [] => ws
  | ws, p, u :: r => setRun (ws.set p u) (p + 1) r
theorem setRun_len (us : List Value) : ∀ (ws : List Value) (p : Nat), (setRun ws p us).length = ws.length := by
  induction us with
  | nil => intro ws p; rfl
  | cons u r ih => intro ws p; show (setRun (ws.set p u) (p + 1) r).length = _; rw [ih]; simp
theorem Rep.run {i k : Nat} {ty : FieldType} {nm : String} (hk : arT k = some (ty, nm)) (hkc : kc k = none) (at_ : Nat) (us : List Value) : ∀ (j : Nat) (ws : List Value) (h : Heap) (A : AH) (cell : Cell), Rep Z kc sl n0 k0 h g A → A[i]? = some (k, ws) → h[g i]? = some cell → (∀ u ∈ us, fits ty u = true) → (∀ u ∈ us, wv A.length u) → at_ + j + us.length ≤ ws.length →
    Rep Z kc sl n0 k0 (h.setIfInBounds (g i) (cell.storePairs at_ ((gS g us).zipIdx j))) g (A.set i (k, setRun ws (at_ + j) us)) := by
  induction us with
  | nil =>
    intro j ws h A cell Rp hi hc _ _ _
    have e1 : h.setIfInBounds (g i) (cell.storePairs at_ ((gS g ([] : List Value)).zipIdx j)) = h := setIf_self hc
    have e2 : A.set i (k, setRun ws (at_ + j) []) = A := setL_self hi
    rw [e1, e2]; exact Rp
  | cons u r ih =>
    intro j ws h A cell Rp hi hc hf hwf hl
    obtain ⟨c0, q1, q2, q3, q4, q5, q6⟩ := (Rp.ob hi).2 ty nm hk
    cases hc.symm.trans q1.1
    have q2 : cell.slots.toList = gS g ws := q2
    have hsz : cell.slots.size = ws.length := by have := congrArg List.length q2; simpa using this
    simp only [List.length_cons] at hl
    have W : Wr h (h.setIfInBounds (g i) (cell.setSlot (at_ + j) (gv g u))) (g i) (at_ + j) (gv g u) := ⟨cell, hc, by rw [q5]; rfl, by omega, rfl⟩
    have Rp1 := Rp.upd hi W ((Rp.ob hi).store hk hkc (j := at_ + j) (v := u) (by omega) (hf u (List.mem_cons_self ..)) W) (fun x hx => by
      rcases List.mem_or_eq_of_mem_set hx with q | q
      · exact Rp.wf hi x q
      · subst q; exact hwf _ (List.mem_cons_self ..))
    have hlt := Rep.lt hi
    have hg : g i < h.size := (Array.getElem?_eq_some_iff.mp hc).1
    have := ih (j + 1) (ws.set (at_ + j) u) _ _ (cell.setSlot (at_ + j) (gv g u)) Rp1 (List.getElem?_set_self hlt) (by rw [Array.getElem?_setIfInBounds_self_of_lt hg]) (fun x hx => hf x (List.mem_cons_of_mem _ hx)) (fun x hx => by rw [List.length_set]; exact hwf x (List.mem_cons_of_mem _ hx)) (by rw [List.length_set]; omega)
    rw [Array.setIfInBounds_setIfInBounds, List.set_set] at this
    exact this
end Heaps
/-! the steps that read the tables or the heap -/
abbrev HR : Type := List Prop × Orc × Nat × List Slot × List Value × AH × Nat × Nat × Nat × Nat
abbrev csum (S : List Value) : Nat := (S.map fun v => v.category).sum
def fitT (o : Orc) : Nat → Value → Option (List Prop)
  | 0, .int _ => some []
  | 1, .long _ => some []
  | 2, .double _ => some []
  | 3, .ref _ => some []
  | 3, .null => some []
  | 4, .int x => need o (x = 0 ∨ x = 1)
  | _, _ => none
def tOk : Nat → FieldType → Bool
  | 0, .int => true
  | 1, .long => true
  | 2, .double => true
  | 3, .object _ => true
  | 3, .array _ => true
  | 4, .boolean => true
  | 4, .byte => true
  | _, _ => false
theorem fitT_ok {o : Orc} {t : Nat} {v : Value} {cs : List Prop} {ty : FieldType} (h : fitT o t v = some cs) (hc : ∀ P ∈ cs, P) (ht : tOk t ty = true) (g : Nat → Addr) : narrow ty (gv g v) = gv g v ∧ fits ty (gv g v) = true := by
  unfold fitT at h
  split at h
  case h_7 => cases h
  case h_6 x =>
    have q := need_ok h hc
    unfold tOk at ht
    split at ht <;> first | contradiction | (rcases q with rfl | rfl <;> exact ⟨rfl, rfl⟩)
  all_goals
    cases h
    unfold tOk at ht
    split at ht <;> first | contradiction | exact ⟨rfl, rfl⟩
def dvK : Nat → Value
  | 0 => .int 0
  | 1 => .long 0
  | 2 => .double 0
  | 3 => .int 0
  | 4 => .int 0
  | _ => .null
def alK : Instr → Nat → Bool
  | .iaload, 0 => true
  | .laload, 1 => true
  | .daload, 2 => true
  | .baload, 3 => true
  | .baload, 4 => true
  | _, _ => false
def asV : Instr → Nat → Value → Option Value
  | .iastore, 0, .int x => some (.int x)
  | .lastore, 1, .long x => some (.long x)
  | .dastore, 2, .double x => some (.double x)
  | .bastore, 3, .int x => some (.int (x &&& 1))
  | .bastore, 4, .int x => some (.int x.toInt8.toInt32)
  | _, _, _ => none
def naK : ArrayType → Nat → Bool
  | .int, 0 => true
  | .long, 1 => true
  | .double, 2 => true
  | .boolean, 3 => true
  | .byte, 4 => true
  | _, _ => false
def hAl (i : Instr) (o : Orc) (pc : Nat) (L : List Slot) (S : List Value) (A : AH) : Option HR :=
  match S with
  | .int j :: .ref a :: r => (match A[a]? with
    | some (k, vs) => if alK i k then (match need o (¬ j < 0) with
      | some cs => (match vs[j.toNatClampNeg]? with
        | some v => some (cs, o, pc + 1, L, v :: r, A, 0, 0, 0, 0)
        | none => none)
      | none => none) else none
    | none => none)
  | _ => none
def hAs (k0 : Nat) (i : Instr) (o : Orc) (pc : Nat) (L : List Slot) (S : List Value) (A : AH) : Option HR :=
  match S with
  | v :: .int j :: .ref a :: r => (match A[a]? with
    | some (k, vs) => (match asV i k v with
      | some v' => if k0 ≤ a ∧ j.toNatClampNeg < vs.length then (match need o (¬ j < 0) with
        | some cs => forceL (vs.set j.toNatClampNeg v') fun vs' => forceL (A.set a (k, vs')) fun A' => some (cs, o, pc + 1, L, r, A', 0, 0, 0, 0)
        | none => none) else none
      | none => none)
    | none => none)
  | _ => none
/-- System.arraycopy of one array of numbers into another -/
def hCp (k0 : Nat) (o : Orc) (pc : Nat) (L : List Slot) (S : List Value) (A : AH) : Option HR :=
  match S with
  | .int n :: .int dp :: .ref d :: .int sp :: .ref a :: r => (match A[a]?, A[d]? with
    | some (k, vs), some (k', ws) => if k = k' ∧ k ≤ 2 ∧ k0 ≤ d then (match need o (¬ sp < 0 ∧ ¬ dp < 0 ∧ ¬ n < 0 ∧ sp.toNatClampNeg + n.toNatClampNeg ≤ vs.length ∧ dp.toNatClampNeg + n.toNatClampNeg ≤ ws.length) with
      | some cs => forceL (setRun ws dp.toNatClampNeg ((vs.drop sp.toNatClampNeg).take n.toNatClampNeg)) fun ws' => forceL (A.set d (k, ws')) fun A' => some (cs, o, pc + 3, L, r, A', 0, 0, 1, csum r + 18)
      | none => none) else none
    | _, _ => none)
  | _ => none
def hstep (k0 : Nat) (kd : Nat → List Value × Nat) (ext : Nat → List Value → Option (Bool × Value)) (exw : Nat → Nat × Nat) (i : Instr) (nums : List Nat) (val : Value) (o : Orc) (pc : Nat) (L : List Slot) (S : List Value) (A : AH) : Option HR :=
  match i with
  | .ldc _ =>
    match val with
    | .int x => some ([], o, pc + 2, L, .int x :: S, A, 0, 0, 0, 0)
    | _ => none
  | .ldc_w _ =>
    match val with
    | .int x => some ([], o, pc + 3, L, .int x :: S, A, 0, 0, 0, 0)
    | _ => none
  | .ldc2_w _ =>
    match val with
    | .long x => some ([], o, pc + 3, L, .long x :: S, A, 0, 0, 0, 0)
    | .double x => some ([], o, pc + 3, L, .double x :: S, A, 0, 0, 0, 0)
    | _ => none
  | .getstatic _ => some ([], o, pc + 3, L, val :: S, A, 0, 0, 0, 0)
  | .getfield _ =>
    match nums, S with
    | [k, j], .ref a :: r => (match A[a]? with
      | some (k', vs) => if k' = k then (match vs[j]? with
        | some v => some ([], o, pc + 3, L, v :: r, A, 0, 0, 0, 0)
        | none => none) else none
      | none => none)
    | _, _ => none
  | .putfield _ =>
    match nums, S with
    | [k, j, t], v :: .ref a :: r => (match A[a]? with
      | some (k', vs) => if k' = k ∧ k0 ≤ a then (match fitT o t v with
        | some cs => forceL (vs.set j v) fun vs' => forceL (A.set a (k, vs')) fun A' => some (cs, o, pc + 3, L, r, A', 0, 0, 0, 0)
        | none => none) else none
      | none => none)
    | _, _ => none
  | .new _ =>
    match nums with
    | [k] => forceL (A ++ [(k, (kd k).1)]) fun A' => forceN A.length fun n => some ([], o, pc + 3, L, .ref n :: S, A', 1, (kd k).2, 0, 0)
    | _ => none
  | .newarray t =>
    match nums, S with
    | [k], .int n :: r => if naK t k then (match need o (¬ n < 0 ∧ n.toNatClampNeg ≤ 67108864) with
      | some cs => forceL (List.replicate n.toNatClampNeg (dvK k)) fun vs' => forceL (A ++ [(k, vs')]) fun A' => forceN A.length fun m => some (cs, o, pc + 2, L, .ref m :: r, A', 1, n.toNatClampNeg, 0, 0)
      | none => none) else none
    | _, _ => none
  | .arraylength =>
    match S with
    | .ref a :: r => (match A[a]? with
      | some (k, vs) => if (arT k).isSome then some ([], o, pc + 1, L, .int vs.length.toInt32 :: r, A, 0, 0, 0, 0) else none
      | none => none)
    | _ => none
  | .iaload | .laload | .daload | .baload => hAl i o pc L S A
  | .iastore | .lastore | .dastore | .bastore => hAs k0 i o pc L S A
  | .if_acmp c off =>
    match S with
    | y :: x :: r => if x.isRef = true ∧ y.isRef = true then
        (if XT.acmp c x y = true then (if 0 ≤ (pc : Int) + off then some ([], o, ((pc : Int) + off).toNat, L, r, A, 0, 0, 0, 0) else none) else some ([], o, pc + 3, L, r, A, 0, 0, 0, 0))
      else none
    | _ => none
  | .checkcast _ =>
    match S with
    | .ref a :: r => (match A[a]? with
      | some (k, _) => if nums.contains k then some ([], o, pc + 3, L, .ref a :: r, A, 0, 0, 0, 0) else none
      | none => none)
    | _ => none
  | .invokespecial _ =>
    match nums, S with
    | [0], .ref a :: r => some ([], o, pc + 3, L, r, A, 0, 0, 1, csum r + 12)
    | _, _ => none
  | .invokestatic _ =>
    match nums with
    | [0, x, na] => if na ≤ S.length then (match ext x (S.take na).reverse with
      | some (b, v) => (match need o (b = true) with
        | some cs => some (cs, o, pc + 3, L, v :: S.drop na, A, 0, 0, (exw x).1, csum (S.drop na) + (exw x).2)
        | none => none)
      | none => none) else none
    | [2] => hCp k0 o pc L S A
    | _ => none
  | .invokevirtual _ =>
    match nums, S with
    | [0, kk], .ref a :: r => (match A[a]? with
      | some (k, vs) => if k = kk then forceL (A ++ [(k, vs)]) fun A' => forceN A.length fun m => some ([], o, pc + 3, L, .ref m :: r, A', 1, vs.length, 1, csum r + 14) else none
      | none => none)
    | _, _ => none
  | _ => none
/-- a name of a kind -/
def kNm (kc : KTy) (k : Nat) : Option String :=
  match arT k with
  | some (_, nm) => some nm
  | none => (kc k).map (·.1)
def cloneN (ad : String) : MethodName := ⟨ad, "clone", "()Ljava/lang/Object;"⟩
def notMH (y : MethodName) : Prop := y.cls ≠ "java/lang/invoke/MethodHandle" ∧ y.cls ≠ "java/lang/invoke/VarHandle"
def nArgs (y : MethodName) (n : Nat) : Prop := ∃ ps r, parseMethodDescriptor y.desc = some ⟨ps, r⟩ ∧ n = ps.length
def CN (y : MethodName) (d : Cond) : Prop := (∃ b ml rt, d = Cond.code y b ml rt) ∨ d = Cond.native y
/-- what the sheet's words must say of an instruction -/
def VI (Z : State) (a0 : Array Value) (kc : KTy) (sl : SL) (kd : Nat → List Value × Nat) (ext : Nat → List Value → Option (Bool × Value)) (exw : Nat → Nat × Nat) (own mname : String) : Instr → List Nat → Value → Prop
  | .ldc idx, _, .int x => (Cond.constant own idx x).before a0 Z = true
  | .ldc_w idx, _, .int x => (Cond.constant own idx x).before a0 Z = true
  | .ldc2_w idx, _, .long x => (Cond.constantLong own idx x).before a0 Z = true
  | .ldc2_w idx, _, .double x => (Cond.constantDouble own idx x).before a0 Z = true
  | .getstatic idx, _, v => ∃ R0 C n d, (Cond.fieldLink own idx R0 n d).before a0 Z = true ∧ Via Z R0 C n d ∧ ((C, n, d), v) ∈ sl
  | .getfield idx, [k, j], _ => ∃ C fs f R0, kc k = some (C, fs) ∧ fs[j]? = some f ∧ (Cond.fieldLink own idx R0 f.2.1 f.2.2.1).before a0 Z = true ∧ Via Z R0 f.1 f.2.1 f.2.2.1
  | .putfield idx, [k, j, t], _ => ∃ C fs f R0 kk, kc k = some (C, fs) ∧ fs[j]? = some f ∧ (Cond.fieldLink own idx R0 f.2.1 f.2.2.1).before a0 Z = true ∧ Via Z R0 f.1 f.2.1 f.2.2.1 ∧ ((Cond.lays C f.1 f.2.1 f.2.2.1).before a0 Z = true ∨ ((Cond.laysFinal C f.1 f.2.1 f.2.2.1).before a0 Z = true ∧ own = f.1 ∧ mname = "<init>")) ∧ (Cond.instantiable C kk).before a0 Z = true ∧ tOk t f.2.2.2 = true
  | .new idx, [k], _ => ∃ C fs, kc k = some (C, fs) ∧ (Cond.classLink own idx C).before a0 Z = true ∧ (Cond.instantiable C (kd k).2).before a0 Z = true ∧ (Cond.initialized C).before a0 Z = true ∧ (kd k).1 = fs.map (fun f => defaultValue f.2.2.2)
  | .newarray t, [k], _ => (Cond.arrayClass (newarray.typeOf t)).before a0 Z = true ∧ kc k = none
  | .checkcast idx, ks, _ => ∃ K, (Cond.classLink own idx K).before a0 Z = true ∧ ∀ k ∈ ks, ∃ C, kNm kc k = some C ∧ (Cond.castable C K).before a0 Z = true
  | .invokespecial idx, [0], _ => (Cond.methodLink own idx Lib.objectInit).before a0 Z = true ∧ (Cond.instanceMethod Lib.objectInit).before a0 Z = true ∧ (Cond.code Lib.objectInit ⟨#[0xb1]⟩ 1 none).before a0 Z = true
  | .invokestatic idx, [0, x, na], _ => ∃ (y : MethodName) (ds : List Cond) (d0 : Cond), (Cond.methodLink own idx y).before a0 Z = true ∧ (Cond.static y).before a0 Z = true ∧ (Cond.initialized y.cls).before a0 Z = true ∧ (∀ d ∈ ds, (d.onTables && d.keepsFace) = true ∧ d.before a0 Z = true) ∧ d0 ∈ ds ∧ CN y d0 ∧ notMH y ∧ nArgs y na ∧
      ∀ (as : List Value) (v : Value), ext x as = some (true, v) → (∀ g, gS g as = as) ∧ (∀ g, gv g v = v) ∧ ∀ (l : Launch) (R : Room) (p : Program) (e : Env) (below : List Frame) (s : State) (sargs : Array Value) (W : Nat), (∀ d ∈ ds, d.before sargs s = true) → (exw x).1 ≤ R.frames → W + (exw x).2 ≤ R.locals →
        Back l R p e below s sargs y 3 W (fun A a' => A.cells ≤ R.cells ∧ A.slots ≤ R.slots ∧ a' = as.toArray) (fun A _ v' B => v' = some v ∧ B = A)
  | .invokestatic idx, [2], _ => (∀ k, k ≤ 2 → kc k = none) ∧ (Cond.methodLink own idx Jvm.Stand.acN).before a0 Z = true ∧ (Cond.native Jvm.Stand.acN).before a0 Z = true ∧ (Cond.static Jvm.Stand.acN).before a0 Z = true ∧ (Cond.initialized "java/lang/System").before a0 Z = true
  | .invokevirtual idx, [0, k], _ => ∃ ty ad, arT k = some (ty, ad) ∧ kc k = none ∧ (Cond.methodLink own idx (cloneN ad)).before a0 Z = true ∧ (Cond.sameMethod ad "java/lang/Object" "clone" "()Ljava/lang/Object;").before a0 Z = true ∧ (Cond.native (cloneN "java/lang/Object")).before a0 Z = true ∧ (Cond.instanceMethod (cloneN "java/lang/Object")).before a0 Z = true ∧ (Cond.selects ad (cloneN ad) (cloneN "java/lang/Object")).before a0 Z = true ∧ (Cond.castable ad "java/lang/Cloneable").before a0 Z = true
  | _, _, _ => True
section HeapSteps
variable {p : Program} {l : Launch} {e : Env} {R : Room} {s : State} {m : MethodId} {args : Array Value} {below : List Frame} {meth : Method} {c : Code} {T : State} {locs : List Loc} {cells slots : Nat}
variable {Z : State} {a0 : Array Value} {kc : KTy} {sl : SL} {n0 k0 : Nat} {g : Nat → Addr} {A : AH}
theorem natG (X : Stand p l e R s m args below meth c T locs cells slots) (hx : p.tables.exec = Jvm.exec) (hZ : Z.Warmed39 s.vm) {own : String} {index : Nat} {y : MethodName} (hown : s.vm.findClass own = some m.cls)
    (w1 : (Cond.methodLink own index y).before a0 Z = true) (w2 : (Cond.static y).before a0 Z = true) (w3 : (Cond.initialized y.cls).before a0 Z = true) {d0 : Cond} (c4 : d0.before args s = true) (hcn : CN y d0) (hy : notMH y)
    {h : Heap} (eT : T.heap = h) {W : Nat} {F : Array Value → Prop} {val : Value} (hK : Back l R p e below s args y 3 W (fun A a' => A.cells ≤ R.cells ∧ A.slots ≤ R.slots ∧ F a') (fun A _ v B => v = some val ∧ B = A))
    {g : JFrame} (hg : g.method = m) (hsize : g.locals.size = c.maxLocals) {argsL rest : List Value} (hlen : ∀ sig, parseMethodDescriptor y.desc = some sig → argsL.length = sig.parameters.length) (hst : g.stack = argsL.reverse ++ rest) (hW : 2 * g.monitorRoom + (rest.map fun v => v.category).sum ≤ W)
    (hd : decode c.code g.pc = .ok (.invokestatic index, 3)) (hc : cells ≤ R.cells) (hs : slots ≤ R.slots) (hF : F argsL.toArray) :
    ∃ T', Stand p l e R s m args below meth c T' locs cells slots ∧ T'.heap = h ∧ ∀ target, Steps p.tables e below (T'.setTop { g with pc := g.pc + 3, stack := val :: rest }) target → Steps p.tables e below (T.setTop g) target := by
  obtain ⟨mk, methM, hnamed, hmethM, hsigM⟩ : ∃ mk methM, s.methodNamed? y = some mk ∧ s.vm.method? mk = some methM ∧ parseMethodDescriptor y.desc = some methM.sig := by
    rcases hcn with ⟨b, ml, rt, rfl⟩ | rfl
    · obtain ⟨mk, hnamed⟩ := Cond.code_named c4
      obtain ⟨methM, cM, hmethM, -, -, -, -, -, -, hsigM⟩ := Cond.code_spec hnamed c4
      exact ⟨mk, methM, hnamed, hmethM, hsigM⟩
    · obtain ⟨mk, methM, h1, h2, -, -, -, h3⟩ := Cond.native_spec c4
      exact ⟨mk, methM, h1, h2, h3⟩
  obtain ⟨v, vm1, B, hW1, X', ⟨hv1, hB⟩, st⟩ := Stand.staticBack (args := args) X hx hown (mvT hZ w1) (mvT hZ w2) (mvT hZ w3) hnamed hmethM hsigM hy hK hg hsize (Steps.refl _) hlen hst hW hd (fun vm1 _ => ⟨hc, hs, hF⟩)
  subst hv1 hB
  exact ⟨_, X', eT, fun target k => st.trans k⟩
theorem arr_size {cl : Cell} {vs : List Value} (q : cl.slots.toList = gS g vs) : cl.slots.size = vs.length := by
  have := congrArg List.length q
  simpa using this
theorem arr_get {cl : Cell} {vs : List Value} (q : cl.slots.toList = gS g vs) {j : Nat} {v : Value} (hv : vs[j]? = some v) : cl.slots[j]? = some (gv g v) := by
  rw [← Array.getElem?_toList, q]; simp [hv]
theorem dv_plain (g : Nat → Addr) (t : FieldType) : gv g (defaultValue t) = defaultValue t := by cases t <;> rfl
theorem dv_wf (n : Nat) (t : FieldType) : wv n (defaultValue t) := by cases t <;> exact trivial
/-- an array of primitives made: with her class's name -/
theorem newP2 (X : Stand p l e R s m args below meth c T locs cells slots) (hx : p.tables.exec = Jvm.exec) (hZ : Z.Warmed39 s.vm) {aty : ArrayType} (w : (Cond.arrayClass (newarray.typeOf aty)).before a0 Z = true) {f : JFrame} (hg : f.method = m) (hd : decode c.code f.pc = .ok (.newarray aty, 2)) {n : Int32} {rest : List Value} (hs : f.stack = .int n :: rest)
    (hn : ¬ n < 0) (hb : n.toNatClampNeg ≤ 67108864) (hc : cells + 1 ≤ R.cells) (hl : slots + n.toNatClampNeg ≤ R.slots) :
    ∃ T' cA, Stand p l e R s m args below meth c T' locs (cells + 1) (slots + n.toNatClampNeg) ∧ Ext T.heap T'.heap ∧ Arr Z T'.heap T.heap.size (newA cA (newarray.typeOf aty) n) (newarray.typeOf aty) ∧ Z.vm.findClass ("[" ++ (newarray.typeOf aty).toString) = some cA ∧
      ∀ target, Steps p.tables e below (T'.setTop { f with pc := f.pc + 2, stack := .ref T.heap.size :: rest }) target → Steps p.tables e below (T.setTop f) target := by
  have hcb : componentBytes (newarray.typeOf aty) ≤ 8 := by cases aty <;> decide
  have hb2 : n.toNatClampNeg * componentBytes (newarray.typeOf aty) ≤ 536870912 := Nat.le_trans (Nat.mul_le_mul hb hcb) (by decide)
  obtain ⟨cA, kA, comp, h1, h2, h3, X', st⟩ := X.newarrayPrim hx (mvA hZ w) hg hd hs hn hb2 hc hl
  rw [hZ.alike.findClass] at h1
  obtain ⟨kZ, z1, -⟩ := Vm.findClass_spec h1
  obtain ⟨k', z2, z3⟩ := hZ.alike.2.2 _ _ z1
  cases h2.symm.trans z2
  refine ⟨_, cA, X', ext_of fun a q => ?_, ⟨?_, ⟨fun _ z => by simp [newA] at z, kZ, z1, comp, ?_⟩, fun z => by simp [newA] at z⟩, h1, st⟩
  · exact (Array.getElem?_push_lt q).trans (Array.getElem?_eq_getElem q).symm
  · show (T.heap.push _)[T.heap.size]? = _
    simp [newA]
  · rw [← h3, z3]
theorem naK_ok {t : ArrayType} {k : Nat} (h : naK t k = true) : arT k = some (newarray.typeOf t, "[" ++ (newarray.typeOf t).toString) ∧ dvK k = defaultValue (newarray.typeOf t) ∧ fits (newarray.typeOf t) (dvK k) = true := by
  unfold naK at h
  split at h <;> first | contradiction | exact ⟨by decide, rfl, rfl⟩
theorem alK_ok {i : Instr} {k : Nat} (h : alK i k = true) : ∃ ty nm, arT k = some (ty, nm) ∧ ((i = .iaload ∧ ty = .int) ∨ (i = .laload ∧ ty = .long) ∨ (i = .daload ∧ ty = .double) ∨ (i = .baload ∧ ty = .boolean) ∨ (i = .baload ∧ ty = .byte)) := by
  unfold alK at h
  split at h
  · exact ⟨_, _, rfl, Or.inl ⟨rfl, rfl⟩⟩
  · exact ⟨_, _, rfl, Or.inr (Or.inl ⟨rfl, rfl⟩)⟩
  · exact ⟨_, _, rfl, Or.inr (Or.inr (Or.inl ⟨rfl, rfl⟩))⟩
  · exact ⟨_, _, rfl, Or.inr (Or.inr (Or.inr (Or.inl ⟨rfl, rfl⟩)))⟩
  · exact ⟨_, _, rfl, Or.inr (Or.inr (Or.inr (Or.inr ⟨rfl, rfl⟩)))⟩
  · cases h
/-- a load out of an array -/
theorem al_ok (X : Stand p l e R s m args below meth c T locs cells slots) (hx : p.tables.exec = Jvm.exec) (hZ : Z.Warmed39 s.vm) {i : Instr} {k a : Nat} {vs : List Value} (hk : alK i k = true) (Rp : Rep Z kc sl n0 k0 T.heap g A) (ha : A[a]? = some (k, vs)) {j : Int32} {v : Value} (hj : ¬ j < 0) (hv : vs[j.toNatClampNeg]? = some v)
    {pc : Nat} {Ls : Array Slot} {rest : List Value} (hd : decode c.code pc = .ok (i, 1)) (target : State) (hr : Steps p.tables e below (T.setTop (mkF m (pc + 1) Ls (gv g v :: rest))) target) : Steps p.tables e below (T.setTop (mkF m pc Ls (.int j :: .ref (g a) :: rest))) target := by
  obtain ⟨ty, nm, h1, h2⟩ := alK_ok hk
  obtain ⟨cl, q1, q2, q3, q4, q5, q6⟩ := (Rp.ob ha).2 ty nm h1
  have q2 : cl.slots.toList = gS g vs := q2
  have hin : ¬ (j < 0 ∨ cl.slots.size ≤ j.toNatClampNeg) := by
    have := (List.getElem?_eq_some_iff.mp hv).1
    rw [arr_size q2]
    rintro (q | q)
    · exact hj q
    · omega
  have hv' := arr_get q2 hv
  have harr := State.isArrayOf_alike (T := s) hZ.alike q1.2.1
  rcases h2 with ⟨rfl, rfl⟩ | ⟨rfl, rfl⟩ | ⟨rfl, rfl⟩ | ⟨rfl, rfl⟩ | ⟨rfl, rfl⟩
  · exact X.iaload hx q1.1 harr q1.2.2 hin hv' (g := mkF m pc Ls (.int j :: .ref (g a) :: rest)) rfl rfl hd target hr
  · exact X.laload hx q1.1 harr q1.2.2 hin hv' (g := mkF m pc Ls (.int j :: .ref (g a) :: rest)) rfl rfl hd target hr
  · exact X.daload hx q1.1 harr q1.2.2 hin hv' (g := mkF m pc Ls (.int j :: .ref (g a) :: rest)) rfl rfl hd target hr
  · exact X.baloadBooleans hx q1.1 harr q1.2.2 hin hv' (g := mkF m pc Ls (.int j :: .ref (g a) :: rest)) rfl rfl hd target hr
  · exact X.baloadBytes hx q1.1 harr q1.2.2 hin hv' (g := mkF m pc Ls (.int j :: .ref (g a) :: rest)) rfl rfl hd target hr
/-- a store into an array -/
theorem as_ok (X : Stand p l e R s m args below meth c T locs cells slots) (hx : p.tables.exec = Jvm.exec) (hZ : Z.Warmed39 s.vm) {i : Instr} {k a : Nat} {vs : List Value} {v v' : Value} (hk : asV i k v = some v') (Rp : Rep Z kc sl n0 k0 T.heap g A) (ha : A[a]? = some (k, vs)) {j : Int32} (hj : ¬ j < 0) (hv : j.toNatClampNeg < vs.length)
    {pc : Nat} {Ls : Array Slot} {rest : List Value} (hd : decode c.code pc = .ok (i, 1)) :
    ∃ ty nm, arT k = some (ty, nm) ∧ fits ty v' = true ∧ gv g v' = v' ∧ (∀ n, wv n v') ∧ ∃ T' h', Stand p l e R s m args below meth c T' (locs ++ [⟨g a, j.toNatClampNeg⟩]) cells slots ∧ T'.heap = h' ∧ Wr T.heap h' (g a) j.toNatClampNeg v' ∧ ∀ target, Steps p.tables e below (T'.setTop (mkF m (pc + 1) Ls rest)) target → Steps p.tables e below (T.setTop (mkF m pc Ls (gv g v :: .int j :: .ref (g a) :: rest))) target := by
  unfold asV at hk
  split at hk
  case h_6 => cases hk
  all_goals
    cases hk
    obtain ⟨cl, q1, q2, q3, q4, q5, q6⟩ := (Rp.ob ha).2 _ _ rfl
    have q2 : cl.slots.toList = gS g vs := q2
    have hin : ¬ (j < 0 ∨ cl.slots.size ≤ j.toNatClampNeg) := by
      rw [arr_size q2]
      rintro (q | q)
      · exact hj q
      · omega
  · obtain ⟨T', h', X', e', W', st⟩ := stI X hx hZ rfl q1 hin (g := mkF m pc Ls (_ :: .int j :: .ref (g a) :: rest)) rfl rfl hd
    exact ⟨_, _, rfl, rfl, rfl, fun _ => trivial, T', h', X', e', W', st⟩
  · obtain ⟨T', h', X', e', W', st⟩ := stJ X hx hZ rfl q1 hin (g := mkF m pc Ls (_ :: .int j :: .ref (g a) :: rest)) rfl rfl hd
    exact ⟨_, _, rfl, rfl, rfl, fun _ => trivial, T', h', X', e', W', st⟩
  · obtain ⟨T', h', X', e', W', st⟩ := stD X hx hZ rfl q1 hin (g := mkF m pc Ls (_ :: .int j :: .ref (g a) :: rest)) rfl rfl hd
    exact ⟨_, _, rfl, rfl, rfl, fun _ => trivial, T', h', X', e', W', st⟩
  · obtain ⟨T', h', X', e', W', st⟩ := stZ X hx hZ rfl q1 hin (g := mkF m pc Ls (_ :: .int j :: .ref (g a) :: rest)) rfl rfl hd
    exact ⟨_, _, rfl, fits_nar_bool _, rfl, fun _ => trivial, T', h', X', e', W', st⟩
  · obtain ⟨T', h', X', e', W', st⟩ := stB X hx hZ rfl q1 hin (g := mkF m pc Ls (_ :: .int j :: .ref (g a) :: rest)) rfl rfl hd
    exact ⟨_, _, rfl, fits_nar_byte _, rfl, fun _ => trivial, T', h', X', e', W', st⟩
theorem acmp_g {cd : ACond} {x y : Value} (Rp : Rep Z kc sl n0 k0 T.heap g A) (wx : wv A.length x) (wy : wv A.length y) (hx : x.isRef = true) (hy : y.isRef = true) : XT.acmp cd (gv g x) (gv g y) = XT.acmp cd x y := by
  have key : gv g x = gv g y ↔ x = y := by
    rcases ref_cases hx with rfl | ⟨a, rfl⟩ <;> rcases ref_cases hy with rfl | ⟨b, rfl⟩
    · exact Iff.rfl
    · simp [gv]
    · simp [gv]
    · simp only [gv, Value.ref.injEq]
      exact ⟨fun q => Rp.2.1 a b wx wy q, fun q => by rw [q]⟩
  cases cd <;> simp [XT.acmp, key]
end HeapSteps
section HeapStep
variable {p : Program} {l : Launch} {e : Env} {R : Room} {s : State} {m : MethodId} {args : Array Value} {below : List Frame} {meth : Method} {c : Code} {T : State} {locs : List Loc} {cells slots : Nat}
variable {Z : State} {a0 : Array Value} {kc : KTy} {sl : SL} {n0 k0 : Nat} {g : Nat → Addr} {A : AH} {kd : Nat → List Value × Nat} {ext : Nat → List Value → Option (Bool × Value)} {exw : Nat → Nat × Nat} {own mname : String}
/-- the walk goes on from T's frame at a state that the abstract one tells -/
def Lands (p : Program) (l : Launch) (e : Env) (R : Room) (s : State) (m : MethodId) (args : Array Value) (below : List Frame) (meth : Method) (c : Code) (Z : State) (kc : KTy) (sl : SL) (n0 k0 : Nat) (T : State) (f0 : JFrame) (g : Nat → Addr) (A : AH) (cells slots pc : Nat) (L : List Slot) (S : List Value) (A' : AH) : Prop :=
  ∃ (T' : State) (locs' : List Loc) (g' : Nat → Addr), Stand p l e R s m args below meth c T' locs' cells slots ∧ Rep Z kc sl n0 k0 T'.heap g' A' ∧ Fr n0 locs' ∧ (∀ i, i < A.length → g' i = g i) ∧ A.length ≤ A'.length ∧ wL A'.length L ∧ wS A'.length S ∧
    ∀ target, Steps p.tables e below (T'.setTop (mkF m pc (gL g' L) (gS g' S))) target → Steps p.tables e below (T.setTop f0) target
theorem Lands.same {f0 : JFrame} {pc : Nat} {L : List Slot} {S : List Value} {T' : State} (X : Stand p l e R s m args below meth c T' locs cells slots) (eT : T'.heap = T.heap) (Rp : Rep Z kc sl n0 k0 T.heap g A) (N : Fr n0 locs) (w1 : wL A.length L) (w2 : wS A.length S)
    (st : ∀ target, Steps p.tables e below (T'.setTop (mkF m pc (gL g L) (gS g S))) target → Steps p.tables e below (T.setTop f0) target) : Lands p l e R s m args below meth c Z kc sl n0 k0 T f0 g A (cells + 0) (slots + 0) pc L S A :=
  ⟨T', locs, g, X, by rw [eT]; exact Rp, N, fun _ _ => rfl, Nat.le_refl _, w1, w2, st⟩
theorem hAl_ok (X : Stand p l e R s m args below meth c T locs cells slots) (hx : p.tables.exec = Jvm.exec) (hZ : Z.Warmed39 s.vm) (Rp : Rep Z kc sl n0 k0 T.heap g A) (N : Fr n0 locs)
    {i : Instr} {o o' : Orc} {pc pc' k n f w : Nat} {L L' : List Slot} {S S' : List Value} {A' : AH} {cs : List Prop} (w1 : wL A.length L) (w2 : wS A.length S) (hd : decode c.code pc = .ok (i, 1))
    (hp : hAl i o pc L S A = some (cs, o', pc', L', S', A', k, n, f, w)) (hc : ∀ P ∈ cs, P) :
    Lands p l e R s m args below meth c Z kc sl n0 k0 T (mkF m pc (gL g L) (gS g S)) g A (cells + k) (slots + n) pc' L' S' A' ∧ L'.length = L.length := by
  unfold hAl at hp
  split at hp
  · rename_i j a r
    have w3 := wS_cons.mp (wS_cons.mp w2).2
    split at hp
    · rename_i k1 vs ha
      split at hp
      · rename_i hal
        split at hp
        · rename_i cs1 hq
          split at hp
          · rename_i v hv
            cases hp
            exact ⟨Lands.same X rfl Rp N w1 (wS_cons.mpr ⟨Rp.wf ha v (List.mem_of_getElem? hv), w3.2⟩) fun target hr => al_ok X hx hZ hal Rp ha (need_ok hq hc) hv hd target hr, rfl⟩
          · cases hp
        · cases hp
      · cases hp
    · cases hp
  · cases hp
theorem hAs_ok (X : Stand p l e R s m args below meth c T locs cells slots) (hx : p.tables.exec = Jvm.exec) (hZ : Z.Warmed39 s.vm) (K : KOk Z a0 kc) (Rp : Rep Z kc sl n0 k0 T.heap g A) (N : Fr n0 locs)
    {i : Instr} {o o' : Orc} {pc pc' k n f w : Nat} {L L' : List Slot} {S S' : List Value} {A' : AH} {cs : List Prop} (w1 : wL A.length L) (w2 : wS A.length S) (hd : decode c.code pc = .ok (i, 1))
    (hp : hAs k0 i o pc L S A = some (cs, o', pc', L', S', A', k, n, f, w)) (hc : ∀ P ∈ cs, P) :
    Lands p l e R s m args below meth c Z kc sl n0 k0 T (mkF m pc (gL g L) (gS g S)) g A (cells + k) (slots + n) pc' L' S' A' ∧ L'.length = L.length := by
  unfold hAs at hp
  split at hp
  · rename_i v j a r
    have w3 := wS_cons.mp (wS_cons.mp (wS_cons.mp w2).2).2
    split at hp
    · rename_i k1 vs ha
      split at hp
      · rename_i v' hv
        split at hp
        · rename_i hb
          split at hp
          · rename_i cs1 hq
            simp only [forceL_eq] at hp
            cases hp
            obtain ⟨ty, nm, b1, b2, b3, b4, T', h', X', e', W', st⟩ := as_ok X hx hZ hv Rp ha (need_ok hq hc) hb.2 (Ls := gL g _) (rest := gS g _) hd
            subst e'
            have hkc : kc k1 = none := by
              cases hq2 : kc k1 with
              | none => rfl
              | some z => obtain ⟨C, fs⟩ := z; have := (K k1 C fs hq2).1; rw [b1] at this; cases this
            rw [← b3] at W'
            refine ⟨⟨T', _, g, X', Rp.upd ha W' ((Rp.ob ha).store b1 hkc hb.2 b2 W') ?_, Fr.snoc X' N ((Rp.1 a (Rep.lt ha)).2 hb.1), fun _ _ => rfl, by simp, ?_, ?_, st⟩, rfl⟩
            · intro x hx'
              rcases List.mem_or_eq_of_mem_set hx' with q | q
              · exact Rp.wf ha x q
              · subst q; exact b4 _
            · rw [List.length_set]; exact w1
            · rw [List.length_set]; exact w3.2
          · cases hp
        · cases hp
      · cases hp
    · cases hp
  · cases hp
theorem arT_prim {k : Nat} (h : k ≤ 2) : ∃ ty nm, arT k = some (ty, nm) ∧ refKind ty = false := by
  have : k = 0 ∨ k = 1 ∨ k = 2 := by omega
  rcases this with rfl | rfl | rfl <;> exact ⟨_, _, rfl, rfl⟩
theorem stretch_eq {cl : Cell} {vs : List Value} (q : cl.slots.toList = gS g vs) {sp n : Nat} (h : sp + n ≤ vs.length) : cl.stretch sp n = gS g ((vs.drop sp).take n) := by
  unfold Cell.stretch
  apply List.ext_getElem?
  intro i
  by_cases hi : i < n
  · have h1 : vs[sp + i]? = some vs[sp + i] := List.getElem?_eq_getElem (by omega)
    have h2 := arr_get q h1
    rw [List.getElem?_map, List.getElem?_range hi]
    simp only [Option.map_some, gS, List.getElem?_map, List.getElem?_take, hi, if_true, List.getElem?_drop, h1]
    rw [Array.getD_eq_getD_getElem?, h2]; rfl
  · rw [List.getElem?_eq_none (by simp; omega), List.getElem?_eq_none (by simp [gS]; omega)]
theorem hCp_ok (X : Stand p l e R s m args below meth c T locs cells slots) (hx : p.tables.exec = Jvm.exec) (hZ : Z.Warmed39 s.vm) (hown : s.vm.findClass own = some m.cls) (Rp : Rep Z kc sl n0 k0 T.heap g A) (N : Fr n0 locs)
    {idx : Nat} {o o' : Orc} {pc pc' k n f w : Nat} {L L' : List Slot} {S S' : List Value} {A' : AH} {cs : List Prop} (w1 : wL A.length L) (w2 : wS A.length S) (hd : decode c.code pc = .ok (.invokestatic idx, 3))
    (V : (∀ k, k ≤ 2 → kc k = none) ∧ (Cond.methodLink own idx Jvm.Stand.acN).before a0 Z = true ∧ (Cond.native Jvm.Stand.acN).before a0 Z = true ∧ (Cond.static Jvm.Stand.acN).before a0 Z = true ∧ (Cond.initialized "java/lang/System").before a0 Z = true) (hsz : L.length = c.maxLocals)
    (hp : hCp k0 o pc L S A = some (cs, o', pc', L', S', A', k, n, f, w)) (hc : ∀ P ∈ cs, P) (hf : f ≤ R.frames) (hw : w ≤ R.locals) :
    Lands p l e R s m args below meth c Z kc sl n0 k0 T (mkF m pc (gL g L) (gS g S)) g A (cells + k) (slots + n) pc' L' S' A' ∧ L'.length = L.length := by
  unfold hCp at hp
  split at hp
  · rename_i nn dp d sp a r
    split at hp
    · rename_i k1 vs k2 ws ha hdd
      split at hp
      · rename_i hb
        obtain ⟨rfl, hb1, hb2⟩ := hb
        split at hp
        · rename_i cs1 hq
          simp only [forceL_eq] at hp
          cases hp
          obtain ⟨n1, n2, n3, n4, n5⟩ := need_ok hq hc
          obtain ⟨v0, v1, v2, v3, v4⟩ := V
          obtain ⟨ty, nm, ht, hr⟩ := arT_prim hb1
          obtain ⟨ca, q1, q2, q3, q4, q5, q6⟩ := (Rp.ob ha).2 ty nm ht
          obtain ⟨cd, u1, u2, u3, u4, u5, u6⟩ := (Rp.ob hdd).2 ty nm ht
          have q2 : ca.slots.toList = gS g vs := q2
          have u2 : cd.slots.toList = gS g ws := u2
          obtain ⟨os, ks, hks, sc, hsk⟩ := State.isArrayOf_alike (T := s) hZ.alike q1.2.1
          obtain ⟨od, kd, hkd, dc, hdk⟩ := State.isArrayOf_alike (T := s) hZ.alike u1.2.1
          have nat : ∀ {x : Int32}, ¬ x < 0 → x.toInt = x.toNatClampNeg := fun {x} q => by
            rw [Int32.lt_iff_toInt_lt] at q; have : (0 : Int32).toInt = 0 := rfl
            simp only [Int32.toNatClampNeg]; omega
          have w3 := wS_cons.mp (wS_cons.mp (wS_cons.mp (wS_cons.mp (wS_cons.mp w2).2).2).2).2
          have hnf : nativeFrameWords "java/lang/System" "arraycopy" 5 + 11 = 18 := by rw [nativeFrameWords_plain 5 (by decide)]
          have hus : ∀ u ∈ (vs.drop sp.toNatClampNeg).take nn.toNatClampNeg, u ∈ vs := fun u hu => List.mem_of_mem_drop (List.mem_of_mem_take hu)
          obtain ⟨vm₁, hW₁, X', st⟩ := X.arraycopyK hx hown (mvT hZ v1) (mvT hZ v2) (mvT hZ v3) (mvT hZ v4) q1.1 u1.1 os od q1.2.2 u1.2.2 hks hkd hsk hdk
            (by simp [hr]) n1 n2 n3 (by rw [nat n1, nat n3, arr_size q2]; omega) (by rw [nat n2, nat n3, arr_size u2]; omega) (fun vm₁ hw' i hi => by
              have h1 : vs[sp.toNatClampNeg + i]? = some vs[sp.toNatClampNeg + i] := List.getElem?_eq_getElem (by omega)
              have h2 := arr_get q2 h1
              rw [Array.getD_eq_getD_getElem?, h2]
              have hm := q6 _ (List.mem_of_getElem? h1)
              generalize vs[sp.toNatClampNeg + i] = u at hm
              simp only [Option.getD_some]
              cases u <;> first | exact ⟨hm, trivial⟩ | exact (prim_no_ref hr hm).elim)
            (g := mkF m pc (gL g L) (gS g (.int nn :: .int dp :: .ref d :: .int sp :: .ref a :: S'))) rfl (by rw [gL_len]; exact hsz) (rest := gS g S') rfl hd hf (by show 2 * 0 + csum (gS g S') + _ ≤ _; rw [hnf, show csum (gS g S') = csum S' from gS_cat g S']; omega)
          have es : copied ca cd sp dp nn = cd.storePairs dp.toNatClampNeg ((gS g ((vs.drop sp.toNatClampNeg).take nn.toNatClampNeg)).zipIdx 0) := by
            rw [← stretch_eq q2 n4]; rfl
          have hl : ((vs.drop sp.toNatClampNeg).take nn.toNatClampNeg).length = nn.toNatClampNeg := by rw [List.length_take, List.length_drop]; omega
          have Rp' := Rep.run ht (v0 _ hb1) dp.toNatClampNeg ((vs.drop sp.toNatClampNeg).take nn.toNatClampNeg) 0 ws T.heap A cd Rp hdd u1.1 (fun u hu => q6 u (hus u hu)) (fun u hu => Rp.wf ha u (hus u hu)) (by rw [hl]; omega)
          rw [← es] at Rp'
          refine ⟨⟨_, _, g, X', Rp', Fr.app N fun y hy => by rw [Jvm.Stand.copyLocs_base hy]; exact (Rp.1 d (Rep.lt hdd)).2 hb2, fun _ _ => rfl, by simp, ?_, ?_, st⟩, rfl⟩
          · rw [List.length_set]; exact w1
          · rw [List.length_set]; exact w3.2
        · cases hp
      · cases hp
    · cases hp
  · cases hp
set_option maxHeartbeats 1000000 in
theorem hstep_ok (X : Stand p l e R s m args below meth c T locs cells slots) (hx : p.tables.exec = Jvm.exec) (hZ : Z.Warmed39 s.vm) (hown : s.vm.findClass own = some m.cls) (hnm : meth.name = mname) (K : KOk Z a0 kc) (Rp : Rep Z kc sl n0 k0 T.heap g A) (N : Fr n0 locs)
    {i : Instr} {nums : List Nat} {val : Value} {o o' : Orc} {pc pc' k n f w : Nat} {L L' : List Slot} {S S' : List Value} {A' : AH} {cs : List Prop} (w1 : wL A.length L) (w2 : wS A.length S) (hd : decode c.code pc = .ok (i, ilen i)) (V : VI Z a0 kc sl kd ext exw own mname i nums val) (hsz : L.length = c.maxLocals)
    (hp : hstep k0 kd ext exw i nums val o pc L S A = some (cs, o', pc', L', S', A', k, n, f, w)) (hc : ∀ P ∈ cs, P) (hk : cells + k ≤ R.cells) (hn : slots + n ≤ R.slots) (hf : f ≤ R.frames) (hw : w ≤ R.locals) :
    Lands p l e R s m args below meth c Z kc sl n0 k0 T (mkF m pc (gL g L) (gS g S)) g A (cells + k) (slots + n) pc' L' S' A' ∧ L'.length = L.length := by
  cases i
  case ldc idx =>
    dsimp only [hstep] at hp
    split at hp
    · cases hp
      refine ⟨Lands.same X rfl Rp N w1 (wS_cons.mpr ⟨trivial, w2⟩) ?_, rfl⟩
      exact X.ldcInt hx hown (mv hZ V) (g := mkF m pc (gL g _) (gS g _)) rfl hd
    · cases hp
  case ldc_w idx =>
    dsimp only [hstep] at hp
    split at hp
    · cases hp
      refine ⟨Lands.same X rfl Rp N w1 (wS_cons.mpr ⟨trivial, w2⟩) ?_, rfl⟩
      exact fun target hr => X.ldcWInt hx hown (mv hZ V) (g := mkF m pc (gL g _) (gS g _)) rfl hd target hr
    · cases hp
  case ldc2_w idx =>
    dsimp only [hstep] at hp
    split at hp
    · cases hp
      refine ⟨Lands.same X rfl Rp N w1 (wS_cons.mpr ⟨trivial, w2⟩) ?_, rfl⟩
      exact X.ldc2Long hx hown (mv hZ V) (g := mkF m pc (gL g _) (gS g _)) rfl hd
    · cases hp
      refine ⟨Lands.same X rfl Rp N w1 (wS_cons.mpr ⟨trivial, w2⟩) ?_, rfl⟩
      exact X.ldc2DoubleC hx hown (mv hZ V) (g := mkF m pc (gL g _) (gS g _)) rfl hd
    · cases hp
  case getstatic idx =>
    dsimp only [hstep] at hp
    cases hp
    obtain ⟨R0, C, nn, d, v1, v2, v3⟩ := V
    obtain ⟨q1, q2⟩ := Rp.2.2.2.2.2 _ v3
    obtain ⟨T', X', e', st⟩ := getS (host := "") X hx hZ hown v1 v2 rfl q1 (g := mkF m pc (gL g L) (gS g S)) rfl hd
    exact ⟨Lands.same X' e' Rp N w1 (wS_cons.mpr ⟨wv_mono Rp.2.2.2.2.1 q2, w2⟩) st, rfl⟩
  case getfield idx =>
    dsimp only [hstep] at hp
    split at hp
    · rename_i k1 j a r
      split at hp
      · rename_i k' vs ha
        split at hp
        · rename_i ek
          subst ek
          split at hp
          · rename_i v hv
            cases hp
            obtain ⟨C, fs, fd, R0, h1, h2, h3, h4⟩ := V
            have F := ((Rp.ob ha).1 C fs h1).2.2 j fd v h2 hv
            obtain ⟨T', X', e', st⟩ := getF X hx hZ hown (host := "") (Or.inl h3) h4 rfl F (g := mkF m pc (gL g L) (gS g (.ref a :: r))) rfl rfl hd
            exact ⟨Lands.same X' e' Rp N w1 (wS_cons.mpr ⟨Rp.wf ha v (List.mem_of_getElem? hv), (wS_cons.mp w2).2⟩) st, rfl⟩
          · cases hp
        · cases hp
      · cases hp
    · cases hp
  case putfield idx =>
    dsimp only [hstep] at hp
    split at hp
    · rename_i k1 j t v a r
      split at hp
      · rename_i k' vs ha
        split at hp
        · rename_i ek
          obtain ⟨ek, e0⟩ := ek
          subst ek
          split at hp
          · rename_i cs1 ht
            simp only [forceL_eq] at hp
            cases hp
            obtain ⟨C, fs, fd, R0, kk, h1, h2, h3, h4, h5, h6, h7⟩ := V
            obtain ⟨o1, o2, o3⟩ := (Rp.ob ha).1 C fs h1
            have hlt : j < vs.length := by
              have := (List.getElem?_eq_some_iff.mp h2).1
              have o2' : vs.length = fs.length := o2
              omega
            have F := o3 j fd _ h2 (List.getElem?_eq_getElem hlt)
            obtain ⟨f1, f2⟩ := fitT_ok ht hc h7 g
            obtain ⟨T', h', X', e', W', st⟩ := putF X hx hZ hown (host := "") (Or.inl h3) h4 rfl F o1 (h5.imp id fun ⟨a, b, d⟩ => ⟨a, b, hnm.trans d⟩) h6 ((K k' C fs h1).2.1 fd (List.mem_of_getElem? h2)).2 f1 f2 (g := mkF m pc (gL g L) (gS g (v :: .ref a :: S'))) rfl rfl hd
            subst e'
            have w3 := wS_cons.mp w2
            refine ⟨⟨T', _, g, X', Rp.upd ha W' ((Rp.ob ha).put K h1 h2 W') ?_, Fr.snoc X' N ((Rp.1 a (Rep.lt ha)).2 e0), fun _ _ => rfl, by simp, ?_, ?_, st⟩, rfl⟩
            · intro x hx'
              rcases List.mem_or_eq_of_mem_set hx' with q | q
              · exact Rp.wf ha x q
              · subst q; exact w3.1
            · rw [List.length_set]; exact w1
            · rw [List.length_set]; exact (wS_cons.mp w3.2).2
          · cases hp
        · cases hp
      · cases hp
    · cases hp
  case new idx =>
    dsimp only [hstep] at hp
    split at hp
    · rename_i k1
      simp only [forceL_eq, forceN_eq] at hp
      cases hp
      obtain ⟨C, fs, h1, h2, h3, h4, h5⟩ := V
      obtain ⟨T', h', X', e', E', Ex, D, -, st⟩ := newO X hx hZ hown h2 h3 h4 rfl (g := mkF m pc (gL g L) (gS g S)) rfl hd hk hn
      subst e'
      obtain ⟨q1, q2, q3⟩ := K k1 C fs h1
      have old := gnew_old g A.length T.heap.size
      refine ⟨⟨T', _, gnew g A.length T.heap.size, X', Rp.new E' Ex.lt ⟨fun C' fs' hk' => ?_, fun ty nm hk' => by rw [q1] at hk'; cases hk'⟩ ?_, N, old, by simp, ?_, ?_, ?_⟩, rfl⟩
      · cases h1.symm.trans hk'
        refine ⟨Ex, by rw [h5]; simp, fun j fd v hj hv => ?_⟩
        simp only [h5, List.getElem?_map, hj, Option.map_some, Option.some.injEq] at hv
        subst hv
        rw [dv_plain]
        have m1 := q2 fd (List.mem_of_getElem? hj)
        exact D m1.1 m1.2
      · intro v hv
        simp only [h5, List.mem_map] at hv
        obtain ⟨fd, -, rfl⟩ := hv
        exact dv_wf _ _
      · intro x hx'; exact wsl_mono (by simp) (w1 x hx')
      · refine wS_cons.mpr ⟨by show A.length < (A ++ _).length; simp, fun x hx' => wv_mono (by simp) (w2 x hx')⟩
      · intro target hr
        refine st target ?_
        have e1 : gL (gnew g A.length T.heap.size) L = gL g L := gL_cong old w1
        have e2 : gS (gnew g A.length T.heap.size) S = gS g S := gS_cong old w2
        simp only [gS, List.map_cons] at hr e2
        rw [e1, e2] at hr
        simp only [gv, gnew_new] at hr
        exact hr
    · cases hp
  case newarray t =>
    dsimp only [hstep] at hp
    split at hp
    · rename_i k1 nn r
      split at hp
      · rename_i hna
        split at hp
        · rename_i cs1 hq
          simp only [forceL_eq, forceN_eq] at hp
          cases hp
          obtain ⟨q1, q2⟩ := need_ok hq hc
          obtain ⟨a1, a2, a3⟩ := naK_ok hna
          obtain ⟨v1, v2⟩ := V
          obtain ⟨T', cA, X', E', Ar, fc, st⟩ := newP2 X hx hZ v1 (f := mkF m pc (gL g L) (gS g (.int nn :: r))) rfl hd rfl q1 q2 hk hn
          have old := gnew_old g A.length T.heap.size
          refine ⟨⟨T', _, gnew g A.length T.heap.size, X', Rp.new E' Ar.lt ⟨fun C' fs' hk' => ?_, fun ty nm hk' => ?_⟩ ?_, N, old, by simp, ?_, ?_, ?_⟩, rfl⟩
          · rw [v2] at hk'; cases hk'
          · cases a1.symm.trans hk'
            refine ⟨_, Ar, ?_, by simp; omega, fc, rfl, fun v hv => ?_⟩
            · simp only [newA, gS, List.map_replicate, Array.toList_replicate, a2, dv_plain]
            · rw [List.eq_of_mem_replicate hv]; exact a3
          · intro v hv
            rw [List.eq_of_mem_replicate hv, a2]; exact dv_wf _ _
          · intro x hx'; exact wsl_mono (by simp) (w1 x hx')
          · refine wS_cons.mpr ⟨by show A.length < (A ++ _).length; simp, fun x hx' => wv_mono (by simp) ((wS_cons.mp w2).2 x hx')⟩
          · intro target hr
            refine st target ?_
            have e1 : gL (gnew g A.length T.heap.size) L = gL g L := gL_cong old w1
            have e2 : gS (gnew g A.length T.heap.size) r = gS g r := gS_cong old (wS_cons.mp w2).2
            simp only [gS, List.map_cons] at hr e2
            rw [e1, e2] at hr
            simp only [gv, gnew_new] at hr
            exact hr
        · cases hp
      · cases hp
    · cases hp
  case arraylength =>
    dsimp only [hstep] at hp
    split at hp
    · rename_i a r
      split at hp
      · rename_i k1 vs ha
        split at hp
        · rename_i hs
          cases hp
          obtain ⟨⟨ty, nm⟩, ht⟩ := Option.isSome_iff_exists.mp hs
          obtain ⟨cl, q1, q2, -⟩ := (Rp.ob ha).2 ty nm ht
          refine ⟨Lands.same X rfl Rp N w1 (wS_cons.mpr ⟨trivial, (wS_cons.mp w2).2⟩) fun target hr => ?_, rfl⟩
          have harr := State.isArrayOf_alike (T := s) hZ.alike q1.2.1
          refine X.arraylength hx q1.1 harr (g := mkF m pc (gL g L) (gS g (.ref a :: r))) rfl rfl hd target ?_
          rw [arr_size q2]
          exact hr
        · cases hp
      · cases hp
    · cases hp
  case if_acmp cd off =>
    dsimp only [hstep] at hp
    split at hp
    · rename_i y x r
      have w3 := wS_cons.mp w2
      have w4 := wS_cons.mp w3.2
      split at hp
      · rename_i hr
        have key := acmp_g (cd := cd) Rp w4.1 w3.1 hr.1 hr.2
        split at hp
        · rename_i ha
          split at hp
          · rename_i ho
            cases hp
            refine ⟨Lands.same X rfl Rp N w1 w4.2 fun target hr' => ?_, rfl⟩
            exact XT.acmpYes X.here hx rfl rfl hd rfl (by rw [gv_isRef]; exact hr.1) (by rw [gv_isRef]; exact hr.2) (key.trans ha) ho rfl hr'
          · cases hp
        · rename_i ha
          cases hp
          refine ⟨Lands.same X rfl Rp N w1 w4.2 fun target hr' => ?_, rfl⟩
          exact XT.acmpNo X.here hx rfl hd rfl (by rw [gv_isRef]; exact hr.1) (by rw [gv_isRef]; exact hr.2) (key.trans (by simpa using ha)) hr'
      · cases hp
    · cases hp
  case checkcast idx =>
    dsimp only [hstep] at hp
    split at hp
    · rename_i a r
      split at hp
      · rename_i k1 vs ha
        split at hp
        · rename_i hs
          cases hp
          obtain ⟨KK, v1, v2⟩ := V
          obtain ⟨C, c1, c2⟩ := v2 k1 (by simpa using hs)
          have E : Exa Z T.heap (g a) C := by
            unfold kNm at c1
            split at c1
            · rename_i hq
              cases c1
              exact Rp.exaA ha hq
            · obtain ⟨⟨C', fs⟩, h1, h2⟩ := Option.map_eq_some_iff.mp c1
              cases h2
              exact Rp.exa ha h1
          obtain ⟨T', X', e', st⟩ := castY X hx hZ hown v1 rfl (Ins.of_exa E c2) (g := mkF m pc (gL g L) (gS g (.ref a :: r))) rfl rfl hd
          exact ⟨Lands.same X' e' Rp N w1 w2 st, rfl⟩
        · cases hp
      · cases hp
    · cases hp
  case invokespecial idx =>
    dsimp only [hstep] at hp
    split at hp
    · rename_i a r
      cases hp
      obtain ⟨v1, v2, v3⟩ := V
      obtain ⟨T', X', e', st⟩ := initO X hx hZ hown v1 v2 v3 rfl (g := mkF m pc (gL g L) (gS g (.ref a :: S'))) rfl (by rw [gL_len]; exact hsz) rfl hd hf (W := csum S') (by show 2 * 0 + csum (gS g S') ≤ _; rw [show csum (gS g S') = csum S' from gS_cat g S']; omega) hw
      exact ⟨Lands.same X' e' Rp N w1 (wS_cons.mp w2).2 st, rfl⟩
    · cases hp
  case invokestatic idx =>
    dsimp only [hstep] at hp
    split at hp
    · rename_i x na
      split at hp
      · rename_i hna
        split at hp
        · rename_i bb v hv
          split at hp
          case h_2 => cases hp
          rename_i cs1 hq
          cases hp
          obtain rfl : bb = true := need_ok hq hc
          obtain ⟨y, ds, d0, v1, v2, v3, v4, v40, v41, v5, ⟨ps, rr, v6, v7⟩, v8⟩ := V
          have v4s : ∀ d ∈ ds, d.before args s = true := fun d hd => mv hZ (v4 d hd).2 (v4 d hd).1
          obtain ⟨b1, b2, b3⟩ := v8 _ v hv
          have es : gS g S = (S.take na).reverse.reverse ++ gS g (S.drop na) := by
            have h1 := b1 g
            conv => lhs; rw [← List.take_append_drop na S]
            rw [List.reverse_reverse]
            simp only [gS, List.map_append]
            have h2 : (S.take na).map (gv g) = S.take na := by
              have := congrArg List.reverse h1
              simpa [gS] using this
            rw [h2]
          obtain ⟨T', X', e', st⟩ := natG X hx hZ hown v1 v2 v3 (v4s d0 v40) v41 v5 rfl (W := csum (S.drop na)) (F := fun a' => a' = (S.take na).reverse.toArray) (val := v) (b3 l R p e below s args _ v4s hf hw) (g := mkF m pc (gL g L) (gS g S)) rfl (by rw [gL_len]; exact hsz) (argsL := (S.take na).reverse) (rest := gS g (S.drop na)) (lenOf v6 (by simp; omega)) es (by show 2 * 0 + csum (gS g (S.drop na)) ≤ _; rw [show csum (gS g (S.drop na)) = csum (S.drop na) from gS_cat g _]; omega) hd hk hn rfl
          refine ⟨Lands.same X' e' Rp N w1 (wS_cons.mpr ⟨?_, fun z hz => w2 z (List.mem_of_mem_drop hz)⟩) fun target hr => st target ?_, rfl⟩
          · have := b2 (fun i => i + 1)
            cases v <;> first | trivial | (simp [gv] at this)
          · simp only [gS, List.map_cons, b2 g] at hr
            exact hr
        · cases hp
      · cases hp
    · exact hCp_ok X hx hZ hown Rp N w1 w2 hd V hsz hp hc hf hw
    · cases hp
  case invokevirtual idx =>
    dsimp only [hstep] at hp
    split at hp
    · rename_i kk a r
      split at hp
      · rename_i k1 vs ha
        split at hp
        · rename_i ek
          subst ek
          simp only [forceL_eq, forceN_eq] at hp
          cases hp
          obtain ⟨ty, ad, h0, h00, v1, v2, v3, v4, v5, v6⟩ := V
          obtain ⟨cl, q1, q2, q3, q4, q5, q6⟩ := (Rp.ob ha).2 ty ad h0
          have fc : FitC Z cl := fun i v hv => by
            obtain ⟨hs, kz, hk1, comp, hkind⟩ := q1.2.1
            have hv2 : v ∈ gS g vs := by
              rw [← q2]; exact Array.mem_toList_iff.mpr (Array.mem_of_getElem? hv)
            obtain ⟨u, hu, rfl⟩ := List.mem_map.mp hv2
            have hfu := q6 u hu
            have hfu' : fits ty (gv g u) = true := by cases u <;> first | exact hfu | (cases ty <;> simp_all [fits, gv])
            simp [State.fitsSlot, State.slotType?, hk1, hkind, hfu']
          obtain ⟨T', h', X', e', E', Ar, Ex, st⟩ := cloneA X hx hZ hown v1 v2 v3 v4 v5 v6 rfl q1 (exa_arr q1 q4 q5) fc (g := mkF m pc (gL g L) (gS g (.ref a :: r))) rfl (by rw [gL_len]; exact hsz) rfl hd hf (W := csum r) (cap := vs.length) (by show 2 * 0 + csum (gS g r) ≤ _; rw [show csum (gS g r) = csum r from gS_cat g r]; omega) hw (Nat.le_of_eq (arr_size q2)) hk hn
          subst e'
          have old := gnew_old g A.length T.heap.size
          refine ⟨⟨T', _, gnew g A.length T.heap.size, X', Rp.new E' Ar.lt ⟨fun C' fs' hk' => ?_, fun ty' nm hk' => ?_⟩ (Rp.wf ha), N, old, by simp, ?_, ?_, ?_⟩, rfl⟩
          · rw [h00] at hk'; cases hk'
          · cases h0.symm.trans hk'
            exact ⟨_, Ar, by rw [gS_cong old (Rp.wf ha)]; exact q2, q3, q4, rfl, q6⟩
          · intro x hx'; exact wsl_mono (by simp) (w1 x hx')
          · refine wS_cons.mpr ⟨by show A.length < (A ++ _).length; simp, fun x hx' => wv_mono (by simp) ((wS_cons.mp w2).2 x hx')⟩
          · intro target hr
            refine st target ?_
            have e1 : gL (gnew g A.length T.heap.size) L = gL g L := gL_cong old w1
            have e2 : gS (gnew g A.length T.heap.size) r = gS g r := gS_cong old (wS_cons.mp w2).2
            simp only [gS, List.map_cons] at hr e2
            rw [e1, e2] at hr
            simp only [gv, gnew_new] at hr
            exact hr
        · cases hp
      · cases hp
    · cases hp
  case iaload => exact hAl_ok X hx hZ Rp N w1 w2 hd hp hc
  case laload => exact hAl_ok X hx hZ Rp N w1 w2 hd hp hc
  case daload => exact hAl_ok X hx hZ Rp N w1 w2 hd hp hc
  case baload => exact hAl_ok X hx hZ Rp N w1 w2 hd hp hc
  case iastore => exact hAs_ok X hx hZ K Rp N w1 w2 hd hp hc
  case lastore => exact hAs_ok X hx hZ K Rp N w1 w2 hd hp hc
  case dastore => exact hAs_ok X hx hZ K Rp N w1 w2 hd hp hc
  case bastore => exact hAs_ok X hx hZ K Rp N w1 w2 hd hp hc
  all_goals (cases hp)
end HeapStep
/-! the run of a method -/
abbrev RR : Type := List Prop × Orc × Option Value × AH × Nat × Nat × Nat × Nat
/-- code, max locals, returned type, fields at first and slots, payers and their room, how many objects stood -/
abbrev EV : Type := (Nat → Nat → Option Ent) × (Nat → Nat) × (Nat → Option FieldType) × (Nat → List Value × Nat) × (Nat → List Value → Option (Bool × Value)) × (Nat → Nat × Nat) × Nat
def pinS (b : Option Bool) (o : Orc) (S : List Value) : Option (List Prop × Orc × List Value) :=
  match b with
  | some true => (match o, S with
    | none, S => some ([], none, S)
    | some (bs, x :: r), .int y :: S => some ([y = x], some (bs, r), .int x :: S)
    | _, _ => none)
  | _ => some ([], o, S)
theorem pinS_ok {b : Option Bool} {o o' : Orc} {S S' : List Value} {cs : List Prop} (h : pinS b o S = some (cs, o', S')) (hc : ∀ P ∈ cs, P) : S' = S := by
  unfold pinS at h
  split at h
  · split at h
    · cases h; rfl
    · cases h
      rw [hc _ (List.mem_singleton.mpr rfl)]
    · cases h
  · cases h; rfl
def isPure : Instr → Bool
  | .ldc _ | .ldc_w _ | .ldc2_w _ | .getstatic _ | .getfield _ | .putfield _ | .new _ | .newarray _ | .arraylength | .iaload | .laload | .daload | .baload | .iastore | .lastore | .dastore | .bastore | .if_acmp _ _ | .checkcast _ | .invokespecial _ | .invokestatic _ | .invokevirtual _ => false
  | _ => true
def step (E : EV) (i : Instr) (nums : List Nat) (val : Value) (o : Orc) (pc : Nat) (L : List Slot) (S : List Value) (A : AH) : Option HR :=
  match isPure i with
  | true => (match pstep i o pc L S with
    | some (cs, o', pc', L', S') => some (cs, o', pc', L', S', A, 0, 0, 0, 0)
    | none => none)
  | false => hstep E.2.2.2.2.2.2 E.2.2.2.1 E.2.2.2.2.1 E.2.2.2.2.2.1 i nums val o pc L S A
/-- a step whose numbers are known needs no oracle -/
def stepC (E : EV) (b : Option Bool) (i : Instr) (nums : List Nat) (val : Value) (o : Orc) (pc : Nat) (L : List Slot) (S : List Value) (A : AH) : Option HR :=
  match b with
  | some false => (match step E i nums val none pc L S A with
    | some (cs, _, pc', L', S', A', k, n, f, w) => some (cs, o, pc', L', S', A', k, n, f, w)
    | none => none)
  | _ => step E i nums val o pc L S A
theorem stepC_ok {E : EV} {b : Option Bool} {i : Instr} {nums : List Nat} {val : Value} {o o' : Orc} {pc : Nat} {L : List Slot} {S : List Value} {A : AH} {cs : List Prop} {r : Nat × List Slot × List Value × AH × Nat × Nat × Nat × Nat} (h : stepC E b i nums val o pc L S A = some (cs, o', r)) : ∃ o1 o2, step E i nums val o1 pc L S A = some (cs, o2, r) := by
  unfold stepC at h
  split at h
  · split at h
    · rename_i q; cases h; exact ⟨_, _, q⟩
    · cases h
  · exact ⟨_, _, h⟩
def look : List Nat → Nat → Option Nat
  | k :: m :: r, x => if k = x then some m else look r x
  | _, _ => none
/-- what is called: the body, its arguments, what lies under -/
def callee (i : Instr) (nums : List Nat) (S : List Value) (A : AH) : Option (Nat × List Value × List Value) :=
  match i with
  | .invokestatic _ =>
    match nums with
    | [1, b, na] => if na ≤ S.length then some (b, (S.take na).reverse, S.drop na) else none
    | _ => none
  | .invokespecial _ =>
    match nums with
    | [1, b, na] => (match S.drop na with
      | .ref a :: rest => some (b, .ref a :: (S.take na).reverse, rest)
      | _ => none)
    | _ => none
  | .invokevirtual _ =>
    match nums with
    | 1 :: na :: tb => (match S.drop na with
      | .ref a :: rest => (match A[a]? with
        | some (k, _) => (match look tb k with
          | some b => some (b, .ref a :: (S.take na).reverse, rest)
          | none => none)
        | none => none)
      | _ => none)
    | _ => none
  | _ => none
/-- what is returned -/
def retV (i : Instr) (t : Option FieldType) (S : List Value) : Option (Option Value) :=
  match i, t, S with
  | .ireturn, some .int, .int x :: _ => some (some (.int x))
  | .ireturn, some .boolean, .int x :: _ => some (some (.int (x &&& 1)))
  | .ireturn, some .byte, .int x :: _ => some (some (.int x.toInt8.toInt32))
  | .ireturn, some .char, .int x :: _ => some (some (.int x.toUInt32.toUInt16.toUInt32.toInt32))
  | .lreturn, some .long, .long x :: _ => some (some (.long x))
  | .dreturn, some .double, .double x :: _ => some (some (.double x))
  | .areturn, some (.object _), .ref a :: _ => some (some (.ref a))
  | .areturn, some (.object _), .null :: _ => some (some .null)
  | .areturn, some (.array _), .ref a :: _ => some (some (.ref a))
  | .areturn, some (.array _), .null :: _ => some (some .null)
  | .return_, none, [] => some none
  | _, _, _ => none
def aFill : List Value → List Slot
  | [] => []
  | v :: r => if v.category = 2 then .val v :: .second :: aFill r else .val v :: aFill r
def aL (as : List Value) (n : Nat) : List Slot := aFill as ++ List.replicate (n - (aFill as).length) .unset
/-- a choice of two constants: what is asked -/
def selB (i : Instr) (S : List Value) : Option (Bool × List Value) :=
  match i, S with
  | .ifCond c _, .int x :: r => some (ifCond.holds c x, r)
  | .if_icmp c _, .int y :: .int x :: r => some (if_icmp.holds c x y, r)
  | _, _ => none
/-- and which two: if it is so, if not -/
def selV (i : Instr) (L : List Slot) : Option Int32 :=
  match i with
  | .iconst y => some (Int32.ofInt y)
  | .iload_n k => (match L[k.val]? with
    | some (.val (.int x)) => some x
    | _ => none)
  | _ => none
def selX (E : EV) (M pc : Nat) (L : List Slot) (i : Instr) : Option (Int32 × Int32) :=
  match i, E.1 M (pc + 3), E.1 M (pc + 4), E.1 M (pc + 7) with
  | .ifCond _ 7, some (a, _), some (.goto 4, _), some (b, _) => (match selV a L, selV b L with
    | some y, some x => some (x, y)
    | _, _ => none)
  | .if_icmp _ 7, some (a, _), some (.goto 4, _), some (b, _) => (match selV a L, selV b L with
    | some y, some x => some (x, y)
    | _, _ => none)
  | _, _, _, _ => none
def sort (i : Instr) (nums : List Nat) : Nat :=
  match i with
  | .ifCond _ _ | .if_icmp _ _ => (match nums with
    | 7 :: _ => 3
    | _ => 2)
  | .ireturn | .lreturn | .dreturn | .areturn | .return_ => 0
  | .invokestatic _ | .invokespecial _ | .invokevirtual _ => (match nums with
    | 1 :: _ => 1
    | _ => 2)
  | _ => 2
def run (E : EV) : Nat → Nat → Nat → List Slot → List Value → AH → Orc → Option RR
  | 0, _, _, _, _, _, _ => none
  | fuel + 1, M, pc, L, S, A, o =>
    match E.1 M pc with
    | none => none
    | some (i, pin, nums, val) =>
      match pinS pin o S with
      | none => none
      | some (c0, o, S) =>
        match sort i nums with
        | 0 => (match retV i (E.2.2.1 M) S with
          | some v => some (c0, o, v, A, 0, 0, 0, 0)
          | none => none)
        | 1 => (match callee i nums S A with
          | none => none
          | some (b, as, rest) => if (aFill as).length ≤ E.2.1 b then (match forceL (aL as (E.2.1 b)) (fun L0 => run E fuel b 0 L0 [] A o) with
            | none => none
            | some (c1, o1, v1, A1, k1, n1, f1, w1) => (match forceN (pc + 3) (fun q => forceL (v1.toList ++ rest) (fun S0 => run E fuel M q L S0 A1 o1)) with
              | none => none
              | some (c2, o2, v2, A2, k2, n2, f2, w2) => forceN (k1 + k2) fun k => forceN (n1 + n2) fun n => forceN (max (f1 + 1) f2) fun f => forceN (max (csum rest + (E.2.1 b + 11) + w1) w2) fun w => some (c0 ++ (c1 ++ c2), o2, v2, A2, k, n, f, w))) else none)
        | 3 => (match selX E M pc L i, selB i S with
          | some (x, y), some (b, r) => (match forceN (pc + 8) (fun q => run E fuel M q L (.int (bif b then x else y) :: r) A o) with
            | none => none
            | some (c2, o2, v2, A2, k2, n2, f2, w2) => some (c0 ++ c2, o2, v2, A2, k2, n2, f2, w2))
          | _, _ => none)
        | _ => (match stepC E pin i nums val o pc L S A with
          | none => none
          | some (c1, o1, pc1, L1, S1, A1, k1, n1, f1, w1) => (match forceN pc1 (fun q => run E fuel M q L1 S1 A1 o1) with
            | none => none
            | some (c2, o2, v2, A2, k2, n2, f2, w2) => forceN (k1 + k2) fun k => forceN (n1 + n2) fun n => forceN (max f1 f2) fun f => forceN (max w1 w2) fun w => some (c0 ++ (c1 ++ c2), o2, v2, A2, k, n, f, w)))
section Run
variable {Z : State} {a0 : Array Value} {kc : KTy} {sl : SL} {n0 : Nat} {E : EV} {nm : Nat → MethodName} {by_ : Nat → ByteArray}
def VirtW (Z : State) (a0 : Array Value) (kc : KTy) (E : EV) (nm : Nat → MethodName) (by_ : Nat → ByteArray) (own : String) (idx na : Nat) (tb : List Nat) : Prop := ∃ y : MethodName, (Cond.methodLink own idx y).before a0 Z = true ∧ (Cond.declares y).before a0 Z = true ∧ (∀ s : State, Z.Warmed39 s.vm → NotFace s y) ∧ notMH y ∧ nArgs y na ∧ ∀ k b, look tb k = some b → ∃ C fs, kc k = some (C, fs) ∧ (Cond.selects C y (nm b)).before a0 Z = true ∧ (Cond.instanceMethod (nm b)).before a0 Z = true ∧ (Cond.code (nm b) (by_ b) (E.2.1 b) (E.2.2.1 b)).before a0 Z = true ∧ (Cond.initialized (nm b).cls).before a0 Z = true ∧ plainFor (nm b) = true
/-- of a private method, called on an object of its own class -/
def PrivW (Z : State) (a0 : Array Value) (kc : KTy) (E : EV) (nm : Nat → MethodName) (by_ : Nat → ByteArray) (own : String) (idx na k b : Nat) : Prop :=
  ∃ (fs : List Fd) (kk : Nat), kc k = some ((nm b).cls, fs) ∧ (Cond.methodLink own idx (nm b)).before a0 Z = true ∧ (Cond.instanceMethod (nm b)).before a0 Z = true ∧ (Cond.privateMethod (nm b)).before a0 Z = true ∧ (Cond.instantiable (nm b).cls kk).before a0 Z = true ∧ (Cond.code (nm b) (by_ b) (E.2.1 b) (E.2.2.1 b)).before a0 Z = true ∧ (Cond.initialized (nm b).cls).before a0 Z = true ∧ notMH (nm b) ∧ nArgs (nm b) na ∧ plainFor (nm b) = true
def VC (Z : State) (a0 : Array Value) (kc : KTy) (E : EV) (nm : Nat → MethodName) (by_ : Nat → ByteArray) (own : String) : Instr → List Nat → Prop
  | .invokestatic idx, [1, b, na] => (Cond.methodLink own idx (nm b)).before a0 Z = true ∧ (Cond.static (nm b)).before a0 Z = true ∧ (Cond.initialized (nm b).cls).before a0 Z = true ∧ (Cond.code (nm b) (by_ b) (E.2.1 b) (E.2.2.1 b)).before a0 Z = true ∧ notMH (nm b) ∧ nArgs (nm b) na ∧ plainFor (nm b) = true
  | .invokespecial idx, [1, b, na] => (nm b).name = "<init>" ∧ (Cond.methodLink own idx (nm b)).before a0 Z = true ∧ (Cond.instanceMethod (nm b)).before a0 Z = true ∧ (Cond.initialized (nm b).cls).before a0 Z = true ∧ (Cond.code (nm b) (by_ b) (E.2.1 b) none).before a0 Z = true ∧ E.2.2.1 b = none ∧ notMH (nm b) ∧ nArgs (nm b) na ∧ plainFor (nm b) = true
  | .invokevirtual idx, [1, na, k, b, 7] => PrivW Z a0 kc E nm by_ own idx na k b
  | .invokevirtual idx, 1 :: na :: tb => VirtW Z a0 kc E nm by_ own idx na tb
  | _, _ => True
theorem VC_virt {own : String} {idx na : Nat} {tb : List Nat} (h : VC Z a0 kc E nm by_ own (.invokevirtual idx) (1 :: na :: tb)) : (∃ k b, tb = [k, b, 7] ∧ PrivW Z a0 kc E nm by_ own idx na k b) ∨ VirtW Z a0 kc E nm by_ own idx na tb := by
  unfold VC at h
  split at h
  all_goals first | (rename_i e1 e2; cases e1; done) | skip
  · rename_i e1 e2
    cases e1
    cases e2
    exact Or.inl ⟨_, _, rfl, h⟩
  · rename_i e1 e2
    cases e1
    cases e2
    exact Or.inr h
  · rename_i h3 h4
    exact absurd rfl (h4 idx na tb rfl)
/-- each entry of the code is what the bytes and the sheet's words say -/
def MOk (Z : State) (a0 : Array Value) (kc : KTy) (sl : SL) (E : EV) (nm : Nat → MethodName) (by_ : Nat → ByteArray) : Prop :=
  ∀ M pc i pin nums val, E.1 M pc = some (i, pin, nums, val) → decode (by_ M) pc = .ok (i, ilen i) ∧ VI Z a0 kc sl E.2.2.2.1 E.2.2.2.2.1 E.2.2.2.2.2.1 (nm M).cls (nm M).name i nums val ∧ VC Z a0 kc E nm by_ (nm M).cls i nums
theorem step_ok {p : Program} {l : Launch} {e : Env} {R : Room} {s : State} {m : MethodId} {args : Array Value} {below : List Frame} {meth : Method} {c : Code} {T : State} {locs : List Loc} {cells slots : Nat} {g : Nat → Addr} {A : AH} {own mname : String}
    (X : Stand p l e R s m args below meth c T locs cells slots) (hx : p.tables.exec = Jvm.exec) (hZ : Z.Warmed39 s.vm) (hown : s.vm.findClass own = some m.cls) (hnm : meth.name = mname) (K : KOk Z a0 kc) (Rp : Rep Z kc sl n0 E.2.2.2.2.2.2 T.heap g A) (N : Fr n0 locs)
    {i : Instr} {nums : List Nat} {val : Value} {o o' : Orc} {pc pc' k n f w : Nat} {L L' : List Slot} {S S' : List Value} {A' : AH} {cs : List Prop} (w1 : wL A.length L) (w2 : wS A.length S) (hd : decode c.code pc = .ok (i, ilen i)) (V : VI Z a0 kc sl E.2.2.2.1 E.2.2.2.2.1 E.2.2.2.2.2.1 own mname i nums val) (hsz : L.length = c.maxLocals)
    (hp : step E i nums val o pc L S A = some (cs, o', pc', L', S', A', k, n, f, w)) (hc : ∀ P ∈ cs, P) (hk : cells + k ≤ R.cells) (hn : slots + n ≤ R.slots) (hf : f ≤ R.frames) (hw : w ≤ R.locals) :
    Lands p l e R s m args below meth c Z kc sl n0 E.2.2.2.2.2.2 T (mkF m pc (gL g L) (gS g S)) g A (cells + k) (slots + n) pc' L' S' A' ∧ L'.length = L.length := by
  unfold step at hp
  split at hp
  · split at hp
    · rename_i hq
      cases hp
      obtain ⟨q1, q2, q3⟩ := pstep_wf hq w1 w2
      exact ⟨Lands.same X rfl Rp N q1 q2 fun target hr => pstep_ok X.here hx g hq hd hc hr, q3⟩
    · cases hp
  · exact hstep_ok X hx hZ hown hnm K Rp N w1 w2 hd V hsz hp hc hk hn hf hw
/-- the walk ends: returned -/
def Ends (p : Program) (e : Env) (s : State) (below : List Frame) (Z : State) (kc : KTy) (sl : SL) (n0 k0 : Nat) (T : State) (f0 : JFrame) (g : Nat → Addr) (A : AH) (cells slots : Nat) (v : Option Value) (A' : AH) : Prop :=
  ∃ (V : State) (locs' : List Loc) (g' : Nat → Addr), Steps p.tables e below (T.setTop f0) V ∧ V.status = .running ∧ Ended V below (.returned (v.map (gv g'))) ∧ s.WarmedH V.vm ∧ s.sameButNew ({ V with vm := s.vm } : State) locs' cells slots ∧ Rep Z kc sl n0 k0 V.heap g' A' ∧ Fr n0 locs' ∧ (∀ i, i < A.length → g' i = g i) ∧ A.length ≤ A'.length ∧ ∀ u, v = some u → wv A'.length u
theorem ret_ok {p : Program} {l : Launch} {e : Env} {R : Room} {s : State} {m : MethodId} {args : Array Value} {below : List Frame} {meth : Method} {c : Code} {T : State} {locs : List Loc} {cells slots k0 : Nat} {g : Nat → Addr} {A : AH}
    (X : Stand p l e R s m args below meth c T locs cells slots) (hx : p.tables.exec = Jvm.exec) (hlk : meth.locks = false) (Rp : Rep Z kc sl n0 k0 T.heap g A) (N : Fr n0 locs) {i : Instr} {t : Option FieldType} {S : List Value} {v : Option Value} (w2 : wS A.length S) (hrt : meth.sig.returnType = t) (hv : retV i t S = some v) {pc : Nat} {Ls : Array Slot} (hd : decode c.code pc = .ok (i, ilen i)) :
    Ends p e s below Z kc sl n0 k0 T (mkF m pc Ls (gS g S)) g A cells slots v A := by
  have key : ∀ (hq : meth.sig.returnType = none → v.map (gv g) = none), (∀ fs, (∀ (f : JFrame) (acts : List Action), f.method = m → f.locked = none → f.entered = [] → (doReturn e (T.setTop f) acts (v.map (gv g))).1 = T.setFrames fs) → Steps p.tables e below (T.setTop (mkF m pc Ls (gS g S))) (T.setFrames fs)) → (∀ u, v = some u → wv A.length u) → Ends p e s below Z kc sl n0 k0 T (mkF m pc Ls (gS g S)) g A cells slots v A := by
    intro hq hst hw
    obtain ⟨fs, hr, hrun, hended, hW, hsame⟩ := X.leave (v := v.map (gv g)) hq hlk
    exact ⟨_, locs, g, hst fs hr, hrun, hended, hW, hsame, Rp, N, fun _ _ => rfl, Nat.le_refl _, hw⟩
  unfold retV at hv
  split at hv
  · cases hv
    exact key (fun h => by rw [hrt] at h; cases h) (fun fs hr => retOut X hx hrt rfl (Or.inl ⟨rfl, Or.inl rfl, _, rfl⟩) hd hr) (fun u hu => by cases hu; trivial)
  · cases hv
    exact key (fun h => by rw [hrt] at h; cases h) (fun fs hr => retN X hx (t := .boolean) hrt (by simp) hd hr) (fun u hu => by cases hu; trivial)
  · cases hv
    exact key (fun h => by rw [hrt] at h; cases h) (fun fs hr => retN X hx (t := .byte) hrt (by simp) hd hr) (fun u hu => by cases hu; trivial)
  · cases hv
    exact key (fun h => by rw [hrt] at h; cases h) (fun fs hr => retN X hx (t := .char) hrt (by simp) hd hr) (fun u hu => by cases hu; trivial)
  · cases hv
    exact key (fun h => by rw [hrt] at h; cases h) (fun fs hr => retOut X hx hrt rfl (Or.inr (Or.inl ⟨rfl, rfl, _, rfl⟩)) hd hr) (fun u hu => by cases hu; trivial)
  · cases hv
    exact key (fun h => by rw [hrt] at h; cases h) (fun fs hr => retOut X hx hrt rfl (Or.inr (Or.inr (Or.inl ⟨rfl, rfl, _, rfl⟩))) hd hr) (fun u hu => by cases hu; trivial)
  · cases hv
    exact key (fun h => by rw [hrt] at h; cases h) (fun fs hr => retOut X hx hrt rfl (Or.inr (Or.inr (Or.inr (Or.inr ⟨rfl, rfl, rfl⟩)))) hd hr) (fun u hu => by cases hu; exact (wS_cons.mp w2).1)
  · cases hv
    exact key (fun h => by rw [hrt] at h; cases h) (fun fs hr => retOut X hx hrt rfl (Or.inr (Or.inr (Or.inr (Or.inr ⟨rfl, rfl, rfl⟩)))) hd hr) (fun u hu => by cases hu; trivial)
  · cases hv
    exact key (fun h => by rw [hrt] at h; cases h) (fun fs hr => retOut X hx hrt rfl (Or.inr (Or.inr (Or.inr (Or.inr ⟨rfl, rfl, rfl⟩)))) hd hr) (fun u hu => by cases hu; exact (wS_cons.mp w2).1)
  · cases hv
    exact key (fun h => by rw [hrt] at h; cases h) (fun fs hr => retOut X hx hrt rfl (Or.inr (Or.inr (Or.inr (Or.inr ⟨rfl, rfl, rfl⟩)))) hd hr) (fun u hu => by cases hu; trivial)
  · cases hv
    exact key (fun _ => rfl) (fun fs hr => X.returnOut hx hrt hd hr) (fun u hu => by cases hu)
  · cases hv
theorem aFill_gs (g : Nat → Addr) (as : List Value) : (aFill as).map (gs g) = aFill (gS g as) := by
  induction as with
  | nil => rfl
  | cons v r ih =>
    simp only [aFill, gS, List.map_cons, gv_cat] at ih ⊢
    split <;> simp [gs, ih]
theorem foldl_fill (as : List Value) (acc : Array Slot) : as.foldl (fun acc v => if v.category = 2 then (acc.push (.val v)).push .second else acc.push (.val v)) acc = acc ++ (aFill as).toArray := by
  induction as generalizing acc with
  | nil => simp [aFill]
  | cons v r ih =>
    simp only [List.foldl_cons, aFill]
    rw [ih]
    split <;> simp
theorem entry_gL (m : MethodId) (g : Nat → Addr) (as : List Value) (n : Nat) : entryFrame m (gS g as).toArray n = mkF m 0 (gL g (aL as n)) [] := by
  have h1 : argsToLocals (gS g as).toArray n = gL g (aL as n) := by
    unfold argsToLocals
    simp only [List.foldl_toArray', foldl_fill]
    simp only [gL, aL, List.map_append, aFill_gs, List.map_replicate, gs]
    have : (aFill (gS g as)).length = (aFill as).length := by rw [← aFill_gs]; simp
    simp [this]
  simp [entryFrame, mkF, h1]
theorem aFill_wf {n : Nat} {as : List Value} (w : wS n as) : wL n (aFill as) := by
  induction as with
  | nil => intro s hs; cases hs
  | cons v r ih =>
    have w3 := wS_cons.mp w
    have ih := ih w3.2
    simp only [aFill]
    split
    · intro s hs
      rcases List.mem_cons.mp hs with rfl | hs
      · exact w3.1
      · rcases List.mem_cons.mp hs with rfl | hs
        · trivial
        · exact ih s hs
    · intro s hs
      rcases List.mem_cons.mp hs with rfl | hs
      · exact w3.1
      · exact ih s hs
theorem aL_wf {n k : Nat} {as : List Value} (w : wS n as) : wL n (aL as k) := by
  intro s hs
  rcases List.mem_append.mp hs with q | q
  · exact aFill_wf w s q
  · rw [List.eq_of_mem_replicate q]; trivial
theorem aL_len {k : Nat} {as : List Value} (h : (aFill as).length ≤ k) : (aL as k).length = k := by
  simp [aL]; omega
/-- what a body leaves -/
def Leaves (Z : State) (kc : KTy) (sl : SL) (n0 k0 : Nat) (g : Nat → Addr) (A A' : AH) (v' : Option Value) (v : Option Value) (h : Heap) (L : List Loc) : Prop :=
  ∃ g' : Nat → Addr, v = v'.map (gv g') ∧ Rep Z kc sl n0 k0 h g' A' ∧ Fr n0 L ∧ (∀ i, i < A.length → g' i = g i) ∧ A.length ≤ A'.length ∧ ∀ u, v' = some u → wv A'.length u
/-- that the fuel's runs are sound -/
def Sound (Z : State) (kc : KTy) (sl : SL) (n0 : Nat) (E : EV) (nm : Nat → MethodName) (by_ : Nat → ByteArray) (fuel : Nat) : Prop :=
  ∀ (M pc : Nat) (L : List Slot) (S : List Value) (A : AH) (o o' : Orc) (cs : List Prop) (v : Option Value) (A' : AH) (k n f w : Nat), run E fuel M pc L S A o = some (cs, o', v, A', k, n, f, w) → (∀ P ∈ cs, P) →
    ∀ (p : Program) (l : Launch) (e : Env) (R : Room) (s : State) (m : MethodId) (args : Array Value) (below : List Frame) (meth : Method) (c : Code) (T : State) (locs : List Loc) (cells slots : Nat) (g : Nat → Addr),
      Stand p l e R s m args below meth c T locs cells slots → p.tables.exec = Jvm.exec → Z.Warmed39 s.vm → s.vm.findClass (nm M).cls = some m.cls → c.code = by_ M → c.maxLocals = E.2.1 M → meth.sig.returnType = E.2.2.1 M → meth.name = (nm M).name → meth.locks = false →
      Rep Z kc sl n0 E.2.2.2.2.2.2 T.heap g A → Fr n0 locs → wL A.length L → wS A.length S → L.length = E.2.1 M → cells + k ≤ R.cells → slots + n ≤ R.slots → f ≤ R.frames → w ≤ R.locals →
      Ends p e s below Z kc sl n0 E.2.2.2.2.2.2 T (mkF m pc (gL g L) (gS g S)) g A (cells + k) (slots + n) v A'
/-- a body's contract, of its run -/
theorem Sound.met {fuel : Nat} (H : Sound Z kc sl n0 E nm by_ fuel) {M : Nat} {as : List Value} {A A' : AH} {o o' : Orc} {cs : List Prop} {v : Option Value} {k n f w : Nat} (hrun : run E fuel M 0 (aL as (E.2.1 M)) [] A o = some (cs, o', v, A', k, n, f, w)) (hc : ∀ P ∈ cs, P)
    (hfit : (aFill as).length ≤ E.2.1 M) (hpl : plainFor (nm M) = true) {h0 : Heap} {g : Nat → Addr} (Rp : Rep Z kc sl n0 E.2.2.2.2.2.2 h0 g A) (wf : wS A.length as) (l : Launch) (ws : List Jvm.Cond) (R : Room) (hk : k ≤ R.cells) (hn : n ≤ R.slots) (hf : f ≤ R.frames) (hw : w ≤ R.locals) :
    MetFree l (nm M) (head1 (Jvm.Cond.code (nm M) (by_ M) (E.2.1 M) (E.2.2.1 M) :: ws) R) (fun a U => a = (gS g as).toArray ∧ Z.Warmed39 U.vm ∧ U.heap = h0) (fun _ _ _ _ _ => True) (fun _ U o U' => ∃ v' L, o = .returned v' ∧ Leaves Z kc sl n0 E.2.2.2.2.2.2 g A A' v v' U'.heap L ∧ FrameEnd U o U' L k n) := by
  refine MetFree.of_bodySF hpl hisR ?_
  intro p e s m args below meth c s₁ Bd hml0 hP hK
  obtain ⟨rfl, hZ, hh⟩ := hP
  have hown : s.vm.findClass (nm M).cls = some m.cls := findClass_of_methodNamed Bd.named
  have hnm := (name_of_methodNamed Bd.named Bd.method).1
  have X0 : Stand p l e R s m (gS g as).toArray below meth c s₁ [] 0 0 := Stand.of_body Bd
  have e0 : s₁.heap = h0 := by rw [← hh, Bd.state]; rfl
  obtain ⟨V, locs', g', q1, q2, q3, q4, q5, q6, q7, q8, q9, q10⟩ := H M 0 _ [] A o o' cs v A' k n f w hrun hc p l e R s m _ below meth c s₁ [] 0 0 g X0 Bd.exec hZ hown Bd.bytes hml0 Bd.returns hnm Bd.notSynchronized (by rw [e0]; exact Rp) (Fr.nil n0) (aL_wf wf) (fun _ h => nomatch h) (aL_len hfit) (by omega) (by omega) hf hw
  rw [Nat.zero_add, Nat.zero_add] at q5
  exact ⟨V, _, castTop (entry_gL m g as _) q1, q2, q3, _, _, rfl, ⟨g', rfl, q6, q7, q8, q9, q10⟩, ⟨_, rfl⟩, q4, q5⟩
end Run
section RunSound
variable {Z : State} {a0 : Array Value} {kc : KTy} {sl : SL} {n0 : Nat} {E : EV} {nm : Nat → MethodName} {by_ : Nat → ByteArray}
theorem mem_app {P Q : List Prop} (h : ∀ x ∈ P ++ Q, x) : (∀ x ∈ P, x) ∧ ∀ x ∈ Q, x := ⟨fun x hx => h x (List.mem_append_left _ hx), fun x hx => h x (List.mem_append_right _ hx)⟩
theorem selV_ok {tb : Tables} [Ours tb] {e : Env} {below : List Frame} {T target : State} {m : MethodId} {c : Code} (h : At T m c below) (hx : tb.exec = Jvm.exec) (g : Nat → Addr) {i : Instr} {L : List Slot} {x : Int32} {pc : Nat} {st : List Value} (hv : selV i L = some x) (hd : decode c.code pc = .ok (i, ilen i))
    (hr : Steps tb e below (T.setTop (mkF m (pc + 1) (gL g L) (.int x :: st))) target) : Steps tb e below (T.setTop (mkF m pc (gL g L) st)) target := by
  unfold selV at hv
  split at hv
  · cases hv; exact XS.iconst h hx rfl hd hr
  · split at hv
    · rename_i hl; cases hv; exact XS.iloadN h hx rfl hd (gL_get (g := g) hl) hr
    · cases hv
  · cases hv
theorem sel_ok {tb : Tables} [Ours tb] {e : Env} {below : List Frame} {T target : State} {m : MethodId} {c : Code} (h : At T m c below) (hx : tb.exec = Jvm.exec) (g : Nat → Addr) (MK : MOk Z a0 kc sl E nm by_) {M pc : Nat} {i : Instr} {x y : Int32} {b : Bool} {S r : List Value} {L : List Slot}
    (hby : c.code = by_ M) (hX : selX E M pc L i = some (x, y)) (hB : selB i S = some (b, r)) (hd : decode c.code pc = .ok (i, ilen i))
    (hr : Steps tb e below (T.setTop (mkF m (pc + 8) (gL g L) (.int (bif b then x else y) :: gS g r))) target) : Steps tb e below (T.setTop (mkF m pc (gL g L) (gS g S))) target := by
  have fin : ∀ {y x : Int32} {i3 i7 : Instr} {p3 p4 p7 : Option Bool × List Nat × Value}, E.1 M (pc + 3) = some (i3, p3) → E.1 M (pc + 4) = some (.goto 4, p4) → E.1 M (pc + 7) = some (i7, p7) → selV i3 L = some y → selV i7 L = some x →
      (Steps tb e below (T.setTop (mkF m (pc + 8) (gL g L) (.int x :: gS g r))) target → Steps tb e below (T.setTop (mkF m (pc + 7) (gL g L) (gS g r))) target) ∧ (Steps tb e below (T.setTop (mkF m (pc + 8) (gL g L) (.int y :: gS g r))) target → Steps tb e below (T.setTop (mkF m (pc + 3) (gL g L) (gS g r))) target) := by
    intro y x i3 i7 p3 p4 p7 e3 e4 e7 s3 s7
    obtain ⟨q3, v3, w3⟩ := p3
    obtain ⟨q4, v4, w4⟩ := p4
    obtain ⟨q7, v7, w7⟩ := p7
    have d3 := (MK _ _ _ _ _ _ e3).1
    have d4 := (MK _ _ _ _ _ _ e4).1
    have d7 := (MK _ _ _ _ _ _ e7).1
    rw [← hby] at d3 d4 d7
    refine ⟨fun k => selV_ok h hx g s7 d7 k, fun k => selV_ok h hx g s3 d3 ?_⟩
    exact XS.goto h hx rfl (pc0 := pc + 4) (pc' := pc + 8) rfl d4 (by omega) (by omega) k
  unfold selX at hX
  split at hX
  · rename_i cd i3 p3 p4 i7 p7 e3 e4 e7
    split at hX
    · rename_i y' x' s3 s7
      cases hX
      obtain ⟨f1, f2⟩ := fin e3 e4 e7 s3 s7
      unfold selB at hB
      split at hB
      · rename_i i' S' cd' off xx rr hi
        cases hi
        cases hB
        cases hb : ifCond.holds cd xx with
        | true =>
          rw [hb] at hr
          exact XS.ifYes h hx rfl (pc0 := pc) (pc' := pc + 7) rfl hd rfl hb (by omega) (by omega) (f1 hr)
        | false =>
          rw [hb] at hr
          exact XS.ifNo h hx rfl hd rfl hb (f2 hr)
      · rename_i hi; cases hi
      · cases hB
    · cases hX
  · rename_i cd i3 p3 p4 i7 p7 e3 e4 e7
    split at hX
    · rename_i y' x' s3 s7
      cases hX
      obtain ⟨f1, f2⟩ := fin e3 e4 e7 s3 s7
      unfold selB at hB
      split at hB
      · rename_i hi; cases hi
      · rename_i i' S' cd' off yy xx rr hi
        cases hi
        cases hB
        cases hb : if_icmp.holds cd xx yy with
        | true =>
          rw [hb] at hr
          exact XS.icmpYes h hx rfl (pc0 := pc) (pc' := pc + 7) rfl hd rfl hb (by omega) (by omega) (f1 hr)
        | false =>
          rw [hb] at hr
          exact XS.icmpNo h hx rfl hd rfl hb (f2 hr)
      · cases hB
    · cases hX
  · cases hX
theorem selB_wf {n : Nat} {i : Instr} {S r : List Value} {b : Bool} (hB : selB i S = some (b, r)) (w : wS n S) : wS n r := by
  unfold selB at hB
  split at hB
  · cases hB; exact (wS_cons.mp w).2
  · cases hB; exact (wS_cons.mp (wS_cons.mp w).2).2
  · cases hB
set_option maxHeartbeats 4000000 in
theorem run_sound (K : KOk Z a0 kc) (MK : MOk Z a0 kc sl E nm by_) : ∀ fuel, Sound Z kc sl n0 E nm by_ fuel
  | 0 => fun M pc L S A o o' cs v A' k n f w hrun => by
    rw [run] at hrun; cases hrun
  | fuel + 1 => by
    have IH := run_sound K MK fuel
    intro M pc L S A o o' cs v A' k n f w hrun hc p l e R s m args below meth c T locs cells slots g X hx hZ hown hby hml hrt hnm hlk Rp N w1 w2 hsz hk hn hf hw
    rw [run] at hrun
    simp only [forceL_eq, forceN_eq] at hrun
    split at hrun
    · cases hrun
    rename_i i pin nums val hcode
    obtain ⟨d1, d2, d3⟩ := MK M pc i pin nums val hcode
    have hd : decode c.code pc = .ok (i, ilen i) := by rw [hby]; exact d1
    split at hrun
    · cases hrun
    rename_i c0 o1 S1 hpin
    split at hrun
    · -- a return
      split at hrun
      · rename_i v1 hv
        cases hrun
        have := pinS_ok hpin hc
        subst this
        exact ret_ok X hx hlk Rp N w2 hrt hv hd
      · cases hrun
    · -- a call
      split at hrun
      · cases hrun
      rename_i b as rest hcal
      split at hrun
      · rename_i hfit
        split at hrun
        · cases hrun
        rename_i c1 o2 v1 A1 k1 n1 f1 w1' hr1
        split at hrun
        · cases hrun
        rename_i c2 o3 v2 A2 k2 n2 f2 w2' hr2
        cases hrun
        obtain ⟨hc0, hc12⟩ := mem_app hc
        obtain ⟨hc1, hc2⟩ := mem_app hc12
        have := pinS_ok hpin hc0
        subst this
        have fin : ∀ {T2 : State} {Lc : List Loc} {v' : Option Value}, Stand p l e R s m args below meth c T2 (locs ++ Lc) (cells + k1) (slots + n1) → Leaves Z kc sl n0 E.2.2.2.2.2.2 g A A1 v1 v' T2.heap Lc → wS A.length rest →
            (∀ target, Steps p.tables e below (T2.setTop (mkF m (pc + 3) (gL g L) (v'.toList ++ gS g rest))) target → Steps p.tables e below (T.setTop (mkF m pc (gL g L) (gS g S1))) target) →
            Ends p e s below Z kc sl n0 E.2.2.2.2.2.2 T (mkF m pc (gL g L) (gS g S1)) g A (cells + (k1 + k2)) (slots + (n1 + n2)) v A' := by
          intro T2 Lc v' X2 hQ wr st
          obtain ⟨g1, rfl, r1, r2, r3, r4, r5⟩ := hQ
          have e1 : gL g1 L = gL g L := gL_cong r3 w1
          have e2 : gS g1 rest = gS g rest := gS_cong r3 wr
          have e3 : (v1.map (gv g1)).toList ++ gS g rest = gS g1 (v1.toList ++ rest) := by
            rw [← e2]
            cases v1 <;> simp [gS]
          have wS2 : wS A1.length (v1.toList ++ rest) := by
            intro x hx'
            rcases List.mem_append.mp hx' with q | q
            · cases v1 with
              | none => cases q
              | some u => rw [Option.toList_some, List.mem_singleton] at q; subst q; exact r5 x rfl
            · exact wv_mono r4 (wr x q)
          obtain ⟨V, locs', g', q1, q2, q3, q4, q5, q6, q7, q8, q9, q10⟩ := IH M (pc + 3) L (v1.toList ++ rest) A1 o2 o' c2 v A' k2 n2 f2 w2' hr2 hc2 p l e R s m args below meth c T2 (locs ++ Lc) (cells + k1) (slots + n1) g1 X2 hx hZ hown hby hml hrt hnm hlk r1 (Fr.app N r2) (fun x hx' => wsl_mono r4 (w1 x hx')) wS2 hsz (by omega) (by omega) (by omega) (by omega)
          refine ⟨V, locs', g', st V ?_, q2, q3, q4, ?_, q6, q7, fun j hj => (q8 j (by omega)).trans (r3 j hj), by omega, q10⟩
          · rw [e3, ← e1]; exact q1
          · rw [show cells + (k1 + k2) = cells + k1 + k2 by omega, show slots + (n1 + n2) = slots + n1 + n2 by omega]; exact q5
        have hszc : (gL g L).size = c.maxLocals := by rw [gL_len, hml]; exact hsz
        have hWr : 2 * 0 + csum (gS g rest) ≤ csum rest := by rw [show csum (gS g rest) = csum rest from gS_cat g rest]; omega
        unfold callee at hcal
        split at hcal
        · -- static
          rename_i idx
          split at hcal
          · rename_i b' na
            split at hcal
            · rename_i hna
              cases hcal
              obtain ⟨u1, u2, u3, u4, u5, ⟨ps, rr, u6, u7⟩, u8⟩ := d3
              have was : wS A.length (S1.take na).reverse := fun x hx' => w2 x (List.mem_of_mem_take (List.mem_reverse.mp hx'))
              have wre : wS A.length (S1.drop na) := fun x hx' => w2 x (List.mem_of_mem_drop hx')
              have met := IH.met hr1 hc1 hfit u8 Rp was l [] ({ frames := f1, cells := k1, slots := n1, locals := w1' } : Room) (Nat.le_refl _) (Nat.le_refl _) (Nat.le_refl _) (Nat.le_refl _)
              have hst : gS g S1 = (gS g (S1.take na).reverse).reverse ++ gS g (S1.drop na) := by
                conv => lhs; rw [← List.take_append_drop na S1]
                simp [gS]
              obtain ⟨_, _, ⟨T2, L2, kk2, nn2⟩, -, X2, ⟨Lc, hQ, y1, y2, y3⟩, st⟩ := Jvm.LawKit.callS X hx (y := nm b) hown (mvT hZ u1) (mvT hZ u2) (mvT hZ u3) (mvT hZ u4) u5 (backOf (W := csum (S1.drop na)) met hZ u4 u3 (by show f1 + 1 ≤ _; omega) (by show csum _ + (E.2.1 b + 11) + w1' ≤ _; omega)) (g := mkF m pc (gL g L) (gS g S1)) rfl hszc (argsL := gS g (S1.take na).reverse) (rest := gS g (S1.drop na)) (lenOf u6 (by simp [gS]; omega)) hst hWr hd (fun _ _ => ⟨rfl, rfl, by show cells + k1 ≤ _; omega, by show slots + n1 ≤ _; omega⟩)
              dsimp only [Pt.U, Pt.locs, Pt.cells, Pt.slots] at X2 y1 y2 y3 st hQ
              subst y1 y2 y3
              exact fin X2 hQ wre st
            · cases hcal
          · cases hcal
        · -- a constructor
          rename_i idx
          split at hcal
          · rename_i b' na
            split at hcal
            · rename_i a rest' hdr
              cases hcal
              obtain ⟨u0, u1, u2, u3, u4, u4', u5, ⟨ps, rr, u6, u7⟩, u8⟩ := d3
              have hmem : ∀ x ∈ (.ref a :: rest), x ∈ S1 := fun x hx' => by rw [← hdr] at hx'; exact List.mem_of_mem_drop hx'
              have was : wS A.length (.ref a :: (S1.take na).reverse) := wS_cons.mpr ⟨w2 _ (hmem _ (List.mem_cons_self ..)), fun x hx' => w2 x (List.mem_of_mem_take (List.mem_reverse.mp hx'))⟩
              have wre : wS A.length rest := fun x hx' => w2 x (hmem x (List.mem_cons_of_mem _ hx'))
              have met := IH.met hr1 hc1 hfit u8 Rp was l [] ({ frames := f1, cells := k1, slots := n1, locals := w1' } : Room) (Nat.le_refl _) (Nat.le_refl _) (Nat.le_refl _) (Nat.le_refl _)
              rw [u4'] at met
              have hst : gS g S1 = (gS g (S1.take na).reverse).reverse ++ .ref (g a) :: gS g rest := by
                conv => lhs; rw [← List.take_append_drop na S1, hdr]
                simp [gS, gv]
              have hlen : na ≤ S1.length := by
                have := congrArg List.length hdr
                simp at this
                omega
              obtain ⟨_, _, ⟨T2, L2, kk2, nn2⟩, -, X2, ⟨Lc, hQ, y1, y2, y3⟩, st⟩ := X.specialBack hx (y := nm b) u0 hown (mvT hZ u1) (mvT hZ u2) (mvT hZ u4) u5 (backOf (W := csum rest) met hZ u4 u3 (by show f1 + 1 ≤ _; omega) (by show csum _ + (E.2.1 b + 11) + w1' ≤ _; omega)) (g := mkF m pc (gL g L) (gS g S1)) rfl hszc (Steps.refl _) (a := g a) (argsL := gS g (S1.take na).reverse) (rest := gS g rest) (lenOf u6 (by simp [gS]; omega)) hst hWr hd (fun _ _ => ⟨rfl, rfl, by show cells + k1 ≤ _; omega, by show slots + n1 ≤ _; omega⟩)
              dsimp only [Pt.U, Pt.locs, Pt.cells, Pt.slots] at X2 y1 y2 y3 st hQ
              subst y1 y2 y3
              exact fin X2 hQ wre fun target hr => st.trans hr
            · cases hcal
          · cases hcal
        · -- an instance method
          rename_i idx
          split at hcal
          · rename_i na tb
            split at hcal
            · rename_i a rest' hdr
              split at hcal
              · rename_i kk vs ha
                split at hcal
                · rename_i b' hlook
                  cases hcal
                  have hmem : ∀ x ∈ (.ref a :: rest), x ∈ S1 := fun x hx' => by rw [← hdr] at hx'; exact List.mem_of_mem_drop hx'
                  have was : wS A.length (.ref a :: (S1.take na).reverse) := wS_cons.mpr ⟨w2 _ (hmem _ (List.mem_cons_self ..)), fun x hx' => w2 x (List.mem_of_mem_take (List.mem_reverse.mp hx'))⟩
                  have wre : wS A.length rest := fun x hx' => w2 x (hmem x (List.mem_cons_of_mem _ hx'))
                  have hst : gS g S1 = (gS g (S1.take na).reverse).reverse ++ .ref (g a) :: gS g rest := by
                    conv => lhs; rw [← List.take_append_drop na S1, hdr]
                    simp [gS, gv]
                  have hlen : na ≤ S1.length := by
                    have := congrArg List.length hdr
                    simp at this
                    omega
                  rcases VC_virt d3 with ⟨k0', b0, rfl, d4⟩ | d4
                  · obtain ⟨fs, ki, v1', u1, u2, u3, u4', v4', v5', u5', ⟨ps, rr, u4, u5⟩, v6'⟩ := d4
                    obtain ⟨rfl, rfl⟩ : kk = k0' ∧ b = b0 := by
                      unfold look at hlook
                      split at hlook
                      · rename_i e; cases hlook; exact ⟨e.symm, rfl⟩
                      · cases hlook
                    have met := IH.met hr1 hc1 hfit v6' Rp was l [] ({ frames := f1, cells := k1, slots := n1, locals := w1' } : Room) (Nat.le_refl _) (Nat.le_refl _) (Nat.le_refl _) (Nat.le_refl _)
                    obtain ⟨cq, kq, qa, qb, cell, qc, qd, qe⟩ := isOf (T := T) hZ rfl (Rp.exa ha v1')
                    obtain ⟨c3, k3, i1, i2, i3, i4, -⟩ := Cond.instantiable_spec (mvT (args := args) hZ u4')
                    cases i1.symm.trans qa
                    cases i2.symm.trans qb
                    have hpr := Cond.privateMethod_at (mvP (args := #[]) hZ u3)
                    have hsel := selects_self_of_private (args := args) qa qb (Bool.or_eq_false_iff.mp i4).1 hpr (mvT hZ u2) u5'
                    obtain ⟨_, _, ⟨T2, L2, kk2, nn2⟩, -, X2, ⟨Lc, hQ, y1, y2, y3⟩, st⟩ := X.privateBack hx (y := nm b) hown (mvT hZ u1) (mvT hZ u2) hsel hpr (mvT hZ v4') u5' (backOf (W := csum rest) met hZ v4' v5' (by show f1 + 1 ≤ _; omega) (by show csum _ + (E.2.1 b + 11) + w1' ≤ _; omega)) (g := mkF m pc (gL g L) (gS g S1)) rfl hszc (Steps.refl _) (a := g a) qc (fun q z => by rw [z] at qe; cases qe) (argsL := gS g (S1.take na).reverse) (rest := gS g rest) (lenOf u4 (by simp [gS]; omega)) hst hWr hd (fun _ _ => ⟨rfl, rfl, by show cells + k1 ≤ _; omega, by show slots + n1 ≤ _; omega⟩)
                    dsimp only [Pt.U, Pt.locs, Pt.cells, Pt.slots] at X2 y1 y2 y3 st hQ
                    subst y1 y2 y3
                    exact fin X2 hQ wre fun target hr => st.trans hr
                  · obtain ⟨y, u1, u2, u2', u3, ⟨ps, rr, u4, u5⟩, u6⟩ := d4
                    obtain ⟨C, fs, v1', v2', v3', v4', v5', v6'⟩ := u6 kk b hlook
                    have met := IH.met hr1 hc1 hfit v6' Rp was l [] ({ frames := f1, cells := k1, slots := n1, locals := w1' } : Room) (Nat.le_refl _) (Nat.le_refl _) (Nat.le_refl _) (Nat.le_refl _)
                    obtain ⟨cq, kq, qa, qb, qc⟩ := isOf (T := T) hZ rfl (Rp.exa ha v1')
                    obtain ⟨_, _, ⟨T2, L2, kk2, nn2⟩, -, X2, ⟨Lc, hQ, y1, y2, y3⟩, st⟩ := X.virtualBack hx (y := y) (z := nm b) hown (mvT hZ u1) (mvT hZ u2) (u2' s hZ) (mvT hZ v2') (mvT hZ v3') u3 (backOf (W := csum rest) met hZ v4' v5' (by show f1 + 1 ≤ _; omega) (by show csum _ + (E.2.1 b + 11) + w1' ≤ _; omega)) qa qc (g := mkF m pc (gL g L) (gS g S1)) rfl hszc (Steps.refl _) (argsL := gS g (S1.take na).reverse) (rest := gS g rest) (lenOf u4 (by simp [gS]; omega)) hst hWr hd (fun _ _ => ⟨rfl, rfl, by show cells + k1 ≤ _; omega, by show slots + n1 ≤ _; omega⟩)
                    dsimp only [Pt.U, Pt.locs, Pt.cells, Pt.slots] at X2 y1 y2 y3 st hQ
                    subst y1 y2 y3
                    exact fin X2 hQ wre fun target hr => st.trans hr
                · cases hcal
              · cases hcal
            · cases hcal
          · cases hcal
        · cases hcal
      · cases hrun
    · -- a choice of two constants
      split at hrun
      · rename_i x y b r hX hB
        split at hrun
        · cases hrun
        rename_i c2 o2 v2 A2 k2 n2 f2 w2' hr2
        cases hrun
        obtain ⟨hc0, hc2⟩ := mem_app hc
        have := pinS_ok hpin hc0
        subst this
        obtain ⟨V, locs2, g2, q1, q2, q3, q4, q5, q6, q7, q8, q9, q10⟩ := IH M (pc + 8) L _ A o1 o' c2 v A' k n f w hr2 hc2 p l e R s m args below meth c T locs cells slots g X hx hZ hown hby hml hrt hnm hlk Rp N w1 (wS_cons.mpr ⟨trivial, selB_wf hB w2⟩) hsz hk hn hf hw
        exact ⟨V, locs2, g2, sel_ok X.here hx g MK hby hX hB hd q1, q2, q3, q4, q5, q6, q7, q8, q9, q10⟩
      · cases hrun
    · -- a step
      split at hrun
      · cases hrun
      rename_i c1 o2 pc1 L1 S2 A1 k1 n1 f1 w1' hst
      split at hrun
      · cases hrun
      rename_i c2 o3 v2 A2 k2 n2 f2 w2' hr2
      cases hrun
      obtain ⟨hc0, hc12⟩ := mem_app hc
      obtain ⟨hc1, hc2⟩ := mem_app hc12
      have := pinS_ok hpin hc0
      subst this
      obtain ⟨oa, ob, hst'⟩ := stepC_ok hst
      obtain ⟨⟨T', locs', g', X', Rp', N', e1, e2, e3, e4, st⟩, hL⟩ := step_ok X hx hZ hown hnm K Rp N w1 w2 hd d2 (hsz.trans hml.symm) hst' hc1 (by omega) (by omega) (by omega) (by omega)
      obtain ⟨V, locs2, g2, q1, q2, q3, q4, q5, q6, q7, q8, q9, q10⟩ := IH M pc1 L1 S2 A1 o2 o' c2 v A' k2 n2 f2 w2' hr2 hc2 p l e R s m args below meth c T' locs' (cells + k1) (slots + n1) g' X' hx hZ hown hby hml hrt hnm hlk Rp' N' e3 e4 (hL.trans hsz) (by omega) (by omega) (by omega) (by omega)
      refine ⟨V, locs2, g2, st V q1, q2, q3, q4, ?_, q6, q7, fun j hj => (q8 j (by omega)).trans (e1 j hj), by omega, q10⟩
      rw [show cells + (k1 + k2) = cells + k1 + k2 by omega, show slots + (n1 + n2) = slots + n1 + n2 by omega]; exact q5
end RunSound
/-! tables of entries -/
def fetch : List (Nat × Ent) → Nat → Option Ent
  | [], _ => none
  | (q, e) :: r, pc => bif Nat.beq q pc then some e else fetch r pc
def fetch2 : List (Nat × List (Nat × Ent)) → Nat → Option Ent
  | [], _ => none
  | (b, l) :: r, pc => bif Nat.blt pc b then fetch l pc else fetch2 r pc
theorem fetch_mem {c : List (Nat × Ent)} {pc : Nat} {e : Ent} (h : fetch c pc = some e) : (pc, e) ∈ c := by
  induction c with
  | nil => cases h
  | cons a r ih =>
    obtain ⟨q, e'⟩ := a
    unfold fetch at h
    cases hq : Nat.beq q pc with
    | true =>
      rw [hq] at h
      cases h
      have := Nat.eq_of_beq_eq_true hq
      subst this
      exact List.mem_cons_self ..
    | false =>
      rw [hq] at h
      exact List.mem_cons_of_mem _ (ih h)
theorem fetch2_mem {c : List (Nat × List (Nat × Ent))} {pc : Nat} {e : Ent} (h : fetch2 c pc = some e) : ∃ ch ∈ c, (pc, e) ∈ ch.2 := by
  induction c with
  | nil => cases h
  | cons a r ih =>
    obtain ⟨b, l⟩ := a
    unfold fetch2 at h
    cases hq : Nat.blt pc b with
    | true =>
      rw [hq] at h
      exact ⟨_, List.mem_cons_self .., fetch_mem h⟩
    | false =>
      rw [hq] at h
      obtain ⟨ch, h1, h2⟩ := ih h
      exact ⟨ch, List.mem_cons_of_mem _ h1, h2⟩
theorem fn {α : Type} {P : α → Prop} : ∀ x ∈ ([] : List α), P x := fun _ h => nomatch h
theorem fc {α : Type} {P : α → Prop} {a : α} {l : List α} (h : P a) (r : ∀ x ∈ l, P x) : ∀ x ∈ a :: l, P x := fun x hx => (List.mem_cons.mp hx).elim (fun e => e ▸ h) (r x)
theorem look1 {k' b' k b : Nat} (h : look [k', b'] k = some b) : k = k' ∧ b = b' := by
  unfold look at h
  split at h
  · rename_i e; cases h; exact ⟨e.symm, rfl⟩
  · cases h
theorem look2 {k' b' k2 b2 k b : Nat} (h : look [k', b', k2, b2] k = some b) : (k = k' ∧ b = b') ∨ (k = k2 ∧ b = b2) := by
  unfold look at h
  split at h
  · rename_i e; cases h; exact Or.inl ⟨e.symm, rfl⟩
  · exact Or.inr (look1 h)
theorem nodup_ne {fs : List Fd} (h : ∀ i : Fin fs.length, ∀ j : Fin fs.length, i.val ≠ j.val → fs[i].2.1 ≠ fs[j].2.1) : ∀ (i j : Nat) (f f' : Fd), fs[i]? = some f → fs[j]? = some f' → i ≠ j → f.2.1 ≠ f'.2.1 := by
  intro i j f f' hi hj hne
  obtain ⟨a1, b1⟩ := List.getElem?_eq_some_iff.mp hi
  obtain ⟨a2, b2⟩ := List.getElem?_eq_some_iff.mp hj
  have := h ⟨i, a1⟩ ⟨j, a2⟩ hne
  simp only [Fin.getElem_fin, b1, b2] at this
  exact this
theorem Rep.start {Z : State} {kc : KTy} {h : Heap} {n0 : Nat} (hn : n0 ≤ h.size) (g : Nat → Addr) : Rep Z kc [] n0 0 h g [] :=
  ⟨fun _ hi => absurd hi (Nat.not_lt_zero _), fun _ _ hi => absurd hi (Nat.not_lt_zero _), fun _ _ hi => by simp at hi, hn, Nat.le_refl _, fun _ hx => nomatch hx⟩
/-- the run of the law returns 1, whatever the road's conditions ask being true, and within its room -/
def Good (E : EV) (fuel : Nat) (as : List Value) (A0 : AH) (K N F W : Nat) : Prop :=
  ∃ (o o' : Orc) (cs : List Prop) (A' : AH) (k n f w : Nat), run E fuel 0 0 (aL as (E.2.1 0)) [] A0 o = some (cs, o', some (.int 1), A', k, n, f, w) ∧ (∀ P ∈ cs, P) ∧ k ≤ K ∧ n ≤ N ∧ f ≤ F ∧ w ≤ W
def okR (r : Option RR) (K N F W : Nat) : Option (List Prop) :=
  match r with
  | some (cs, _, some (.int x), _, k, n, f, w) => bif (x == 1) && (Nat.ble k K && (Nat.ble n N && (Nat.ble f F && Nat.ble w W))) then some cs else none
  | _ => none
theorem Good.of {E : EV} {fuel : Nat} {as : List Value} {A0 : AH} {K N F W : Nat} (o : Orc) {cs : List Prop} (h : okR (run E fuel 0 0 (aL as (E.2.1 0)) [] A0 o) K N F W = some cs) (hc : ∀ P ∈ cs, P) : Good E fuel as A0 K N F W := by
  unfold okR at h
  split at h
  · rename_i cs' o' x A' k n f w hr
    cases hb : ((x == 1) && (Nat.ble k K && (Nat.ble n N && (Nat.ble f F && Nat.ble w W)))) with
    | false => rw [hb] at h; cases h
    | true =>
      rw [hb] at h
      cases h
      simp only [Bool.and_eq_true, beq_iff_eq, Nat.ble_eq] at hb
      obtain ⟨rfl, h1, h2, h3, h4⟩ := hb
      exact ⟨o, _, _, _, _, _, _, _, hr, hc, h1, h2, h3, h4⟩
  · cases h
theorem fnP : ∀ P ∈ ([] : List Prop), P := fun _ h => nomatch h
theorem fcP {a : Prop} {l : List Prop} (h : a) (r : ∀ P ∈ l, P) : ∀ P ∈ a :: l, P := fun x hx => (List.mem_cons.mp hx).elim (fun e => by subst e; exact h) (r x)
/-- a road without conditions -/
def okB (r : Option RR) (K N F W : Nat) : Bool :=
  match okR r K N F W with
  | some [] => true
  | _ => false
theorem Good.ofB {E : EV} {fuel : Nat} {as : List Value} {A0 : AH} {K N F W : Nat} (o : Orc) (h : okB (run E fuel 0 0 (aL as (E.2.1 0)) [] A0 o) K N F W = true) : Good E fuel as A0 K N F W := by
  unfold okB at h
  split at h
  · rename_i q; exact Good.of o q fnP
  · cases h
/-! numbers: what the branches ask, in whole numbers -/
section Numbers
open Jvm.FP
theorem i32_0 : (0 : Int32).toInt = 0 := rfl
theorem h_eq (x : Int32) : ifCond.holds .eq x = decide (x.toInt = 0) := by
  have : (x == 0) = decide (x = 0) := rfl
  simp only [ifCond.holds, this, ← Int32.toInt_inj, i32_0]
theorem h_ne (x : Int32) : ifCond.holds .ne x = decide (x.toInt ≠ 0) := by
  have : (x != 0) = !decide (x = 0) := rfl
  simp only [ifCond.holds, this, ← Int32.toInt_inj, i32_0]
  by_cases h : x.toInt = 0 <;> simp [h]
theorem h_lt (x : Int32) : ifCond.holds .lt x = decide (x.toInt < 0) := by
  simp only [ifCond.holds, Int32.lt_iff_toInt_lt, i32_0]
theorem h_ge (x : Int32) : ifCond.holds .ge x = decide (0 ≤ x.toInt) := by
  simp only [ifCond.holds, ge_iff_le, Int32.le_iff_toInt_le, i32_0]
theorem h_gt (x : Int32) : ifCond.holds .gt x = decide (0 < x.toInt) := by
  simp only [ifCond.holds, gt_iff_lt, Int32.lt_iff_toInt_lt, i32_0]
theorem h_le (x : Int32) : ifCond.holds .le x = decide (x.toInt ≤ 0) := by
  simp only [ifCond.holds, Int32.le_iff_toInt_le, i32_0]
theorem k_eq (x y : Int32) : if_icmp.holds .eq x y = decide (x.toInt = y.toInt) := by
  have : (x == y) = decide (x = y) := rfl
  simp only [if_icmp.holds, this, ← Int32.toInt_inj]
theorem k_ne (x y : Int32) : if_icmp.holds .ne x y = decide (x.toInt ≠ y.toInt) := by
  have : (x != y) = !decide (x = y) := rfl
  simp only [if_icmp.holds, this, ← Int32.toInt_inj]
  by_cases h : x.toInt = y.toInt <;> simp [h]
theorem k_lt (x y : Int32) : if_icmp.holds .lt x y = decide (x.toInt < y.toInt) := by
  simp only [if_icmp.holds, Int32.lt_iff_toInt_lt]
theorem k_ge (x y : Int32) : if_icmp.holds .ge x y = decide (y.toInt ≤ x.toInt) := by
  simp only [if_icmp.holds, ge_iff_le, Int32.le_iff_toInt_le]
theorem k_gt (x y : Int32) : if_icmp.holds .gt x y = decide (y.toInt < x.toInt) := by
  simp only [if_icmp.holds, gt_iff_lt, Int32.lt_iff_toInt_lt]
theorem k_le (x y : Int32) : if_icmp.holds .le x y = decide (x.toInt ≤ y.toInt) := by
  simp only [if_icmp.holds, Int32.le_iff_toInt_le]
/-- less, equal, greater -/
def cI (i j : Int) : Int32 := if i < j then -1 else if i = j then 0 else 1
theorem cI_lt {i j : Int} : (cI i j).toInt < 0 ↔ i < j := by
  unfold cI; split
  · rename_i h; simp [h]
  · split <;> rename_i h1 h2 <;> simp <;> omega
theorem cI_eq {i j : Int} : (cI i j).toInt = 0 ↔ i = j := by
  unfold cI; split
  · rename_i h; simp; omega
  · split <;> rename_i h1 h2 <;> simp <;> omega
theorem cI_gt {i j : Int} : 0 < (cI i j).toInt ↔ j < i := by
  unfold cI; split
  · rename_i h; simp; omega
  · split <;> rename_i h1 h2 <;> simp <;> omega
theorem cI_le {i j : Int} : (cI i j).toInt ≤ 0 ↔ i ≤ j := by
  have := @cI_gt i j; omega
theorem cI_ge {i j : Int} : 0 ≤ (cI i j).toInt ↔ j ≤ i := by
  have := @cI_lt i j; omega
theorem cmpL_cI (x y : Int64) : XT.cmpL x y = cI x.toInt y.toInt := by
  unfold XT.cmpL cI
  simp only [Int64.lt_iff_toInt_lt, ← Int64.toInt_inj]
  by_cases h1 : x.toInt < y.toInt
  · simp [h1, show ¬ y.toInt < x.toInt by omega, show ¬ x.toInt = y.toInt by omega]
  · by_cases h2 : x.toInt = y.toInt
    · simp [h2]
    · simp [h1, h2, show y.toInt < x.toInt by omega]
abbrev DI (i : Int) (a : UInt64) : Prop := Core.DInt i a
theorem DI.noNaN {i : Int} {a : UInt64} (h : DI i a) : FP.dIsNaN a = false := (Core.notNaN_iff a).mpr (Core.Whole.ne_nan h)
theorem DI.cmp {i j : Int} {a b : UInt64} (ha : DI i a) (hb : DI j b) (o : CmpOp) : cmpValue (FP.dcmp a b) o = cI i j := by
  rw [show FP.dcmp a b = some (compare i j) from Core.dcmp_int ha hb, Core.compare_ite]
  unfold cI
  by_cases h1 : i < j
  · simp [h1]; cases o <;> rfl
  · by_cases h2 : i = j
    · simp [h2]; cases o <;> rfl
    · simp [h1, h2]; cases o <;> rfl
theorem DI.i2d (x : Int32) : DI x.toInt (FP.i2d x) := Core.i2d_int x
theorem DI.l2d {x : Int64} (h : x.toInt.natAbs ≤ 2 ^ 53) : DI x.toInt (FP.l2d x) := Core.l2d_int h
theorem DI.add {i j : Int} {a b : UInt64} (ha : DI i a) (hb : DI j b) (h : (i + j).natAbs ≤ 2 ^ 53) : DI (i + j) (FP.dadd a b) := Core.dadd_int ha hb h
theorem DI.sub {i j : Int} {a b : UInt64} (ha : DI i a) (hb : DI j b) (h : (i - j).natAbs ≤ 2 ^ 53) : DI (i - j) (FP.dsub a b) := Core.dsub_int ha hb h
theorem DI.mul {i j : Int} {a b : UInt64} (ha : DI i a) (hb : DI j b) (h : (i * j).natAbs ≤ 2 ^ 53) : DI (i * j) (FP.dmul a b) := Core.dmul_int ha hb h
theorem DI.zero : DI 0 0 := by
  have h := DI.i2d 0
  rw [show FP.i2d 0 = 0 by decide +kernel] at h
  exact h
theorem DI.one : DI 1 4607182418800017408 := by
  have h := DI.i2d 1
  rw [show FP.i2d 1 = 4607182418800017408 by decide +kernel] at h
  exact h
theorem ask_lt {i j : Int} {a b : UInt64} (ha : DI i a) (hb : DI j b) (o : CmpOp) : ifCond.holds .lt (cmpValue (FP.dcmp a b) o) = decide (i < j) := by
  rw [DI.cmp ha hb, h_lt]; exact decide_eq_decide.mpr cI_lt
theorem askL_lt (x y : Int64) : ifCond.holds .lt (XT.cmpL x y) = decide (x.toInt < y.toInt) := by
  rw [cmpL_cI, h_lt]; exact decide_eq_decide.mpr cI_lt
theorem ask_ge {i j : Int} {a b : UInt64} (ha : DI i a) (hb : DI j b) (o : CmpOp) : ifCond.holds .ge (cmpValue (FP.dcmp a b) o) = decide (j ≤ i) := by
  rw [DI.cmp ha hb, h_ge]; exact decide_eq_decide.mpr cI_ge
theorem askL_ge (x y : Int64) : ifCond.holds .ge (XT.cmpL x y) = decide (y.toInt ≤ x.toInt) := by
  rw [cmpL_cI, h_ge]; exact decide_eq_decide.mpr cI_ge
theorem ask_gt {i j : Int} {a b : UInt64} (ha : DI i a) (hb : DI j b) (o : CmpOp) : ifCond.holds .gt (cmpValue (FP.dcmp a b) o) = decide (j < i) := by
  rw [DI.cmp ha hb, h_gt]; exact decide_eq_decide.mpr cI_gt
theorem askL_gt (x y : Int64) : ifCond.holds .gt (XT.cmpL x y) = decide (y.toInt < x.toInt) := by
  rw [cmpL_cI, h_gt]; exact decide_eq_decide.mpr cI_gt
theorem ask_le {i j : Int} {a b : UInt64} (ha : DI i a) (hb : DI j b) (o : CmpOp) : ifCond.holds .le (cmpValue (FP.dcmp a b) o) = decide (i ≤ j) := by
  rw [DI.cmp ha hb, h_le]; exact decide_eq_decide.mpr cI_le
theorem askL_le (x y : Int64) : ifCond.holds .le (XT.cmpL x y) = decide (x.toInt ≤ y.toInt) := by
  rw [cmpL_cI, h_le]; exact decide_eq_decide.mpr cI_le
theorem ask_eq {i j : Int} {a b : UInt64} (ha : DI i a) (hb : DI j b) (o : CmpOp) : ifCond.holds .eq (cmpValue (FP.dcmp a b) o) = decide (i = j) := by
  rw [DI.cmp ha hb, h_eq]; exact decide_eq_decide.mpr cI_eq
theorem askL_eq (x y : Int64) : ifCond.holds .eq (XT.cmpL x y) = decide (x.toInt = y.toInt) := by
  rw [cmpL_cI, h_eq]; exact decide_eq_decide.mpr cI_eq
theorem ask_ne {i j : Int} {a b : UInt64} (ha : DI i a) (hb : DI j b) (o : CmpOp) : ifCond.holds .ne (cmpValue (FP.dcmp a b) o) = decide (i ≠ j) := by
  rw [DI.cmp ha hb, h_ne]; exact decide_eq_decide.mpr (not_congr cI_eq)
theorem askL_ne (x y : Int64) : ifCond.holds .ne (XT.cmpL x y) = decide (x.toInt ≠ y.toInt) := by
  rw [cmpL_cI, h_ne]; exact decide_eq_decide.mpr (not_congr cI_eq)
theorem mulb {a b : Int} {A B : Nat} (ha : a.natAbs ≤ A) (hb : b.natAbs ≤ B) : (a * b).natAbs ≤ A * B := by
  rw [Int.natAbs_mul]; exact Nat.mul_le_mul ha hb
theorem tr {b : Bool} {P : Prop} [Decidable P] (h : b = decide P) (hp : P) : b = true := h.trans (decide_eq_true hp)
theorem fl {b : Bool} {P : Prop} [Decidable P] (h : b = decide P) (hp : ¬ P) : b = false := h.trans (decide_eq_false hp)
end Numbers
/-! numbers i * 2^k among the doubles -/
section Dyadic
open Jvm.FP Jvm.FP.Core
def sh (k : Int) : Datum → Datum
  | .fin s c q => .fin s c (q - k)
  | d => d
def Dy (k i : Int) (d : Datum) : Prop := Whole i (sh k d)
abbrev DY (k i : Int) (a : UInt64) : Prop := Dy k i (val64 a)
theorem Dy.fin {k i : Int} {d : Datum} (h : Dy k i d) : ∃ s c q, d = .fin s c q := by
  cases d with
  | nan => exact h.elim
  | inf s => exact h.elim
  | fin s c q => exact ⟨s, c, q, rfl⟩
theorem DY.of_DI {i : Int} {a : UInt64} (h : DI i a) : DY 0 i a := by
  have h' : Whole i (val64 a) := h
  show Whole i (sh 0 (val64 a))
  cases hv : val64 a with
  | nan => rw [hv] at h'; exact h'
  | inf s => rw [hv] at h'; exact h'
  | fin s c q => rw [hv] at h'; simpa [sh] using h'
theorem DY.to_DI {i : Int} {a : UInt64} (h : DY 0 i a) : DI i a := by
  have h' : Whole i (sh 0 (val64 a)) := h
  show Whole i (val64 a)
  cases hv : val64 a with
  | nan => rw [hv] at h'; exact h'
  | inf s => rw [hv] at h'; exact h'
  | fin s c q => rw [hv] at h'; simpa [sh] using h'
theorem DY.noNaN {k i : Int} {a : UInt64} (h : DY k i a) : FP.dIsNaN a = false := by
  refine (notNaN_iff a).mpr fun q => ?_
  obtain ⟨s, c, r, e⟩ := Dy.fin h
  rw [e] at q; cases q
theorem DY.fin64 {k i : Int} {a : UInt64} (h : DY k i a) : Jvm.Free.Fl.Fin64 a := Jvm.Free.Fl.fin64_core.mpr (Dy.fin h)
theorem order_sh (k : Int) (x y : Datum) : order (sh k x) (sh k y) = order x y := by
  cases x <;> cases y <;> try rfl
  rename_i s c q t d r
  simp only [sh, order, inUnits]
  rw [show q - k - min (q - k) (r - k) = q - min q r by omega, show r - k - min (q - k) (r - k) = r - min q r by omega]
theorem DY.cmp {k i j : Int} {a b : UInt64} (ha : DY k i a) (hb : DY k j b) (o : CmpOp) : cmpValue (FP.dcmp a b) o = cI i j := by
  have h : FP.dcmp a b = some (compare i j) := by
    show order (val64 a) (val64 b) = _
    rw [← order_sh k]
    exact order_whole ha hb
  rw [h, compare_ite]
  unfold cI
  by_cases h1 : i < j
  · simp [h1]; cases o <;> rfl
  · by_cases h2 : i = j
    · simp [h2]; cases o <;> rfl
    · simp [h1, h2]; cases o <;> rfl
theorem whole_scale {i : Int} {s : Bool} {c : Nat} {q : Int} (n : Nat) (h : Whole i (.fin s c q)) : Whole (i * ((2 ^ n : Nat) : Int)) (.fin s c (q + n)) := by
  have h1 : signed s (c * 2 ^ q.toNat) = i * ((2 ^ (-q).toNat : Nat) : Int) := h
  show signed s (c * 2 ^ (q + n).toNat) = i * ((2 ^ n : Nat) : Int) * ((2 ^ (-(q + n)).toNat : Nat) : Int)
  by_cases hq : 0 ≤ q
  · rw [show (-q).toNat = 0 by omega] at h1
    rw [show (q + n).toNat = q.toNat + n by omega, show (-(q + n)).toNat = 0 by omega, Nat.pow_add, ← Nat.mul_assoc, signed_mul, h1]
    simp
  · rw [show q.toNat = 0 by omega, Nat.pow_zero, Nat.mul_one] at h1
    by_cases hn : 0 ≤ q + n
    · rw [show (-(q + n)).toNat = 0 by omega, signed_mul, h1, Nat.pow_zero]
      have e : n = (-q).toNat + (q + n).toNat := by omega
      have e2 : ((2 ^ n : Nat) : Int) = ((2 ^ (-q).toNat : Nat) : Int) * ((2 ^ (q + n).toNat : Nat) : Int) := by
        conv => lhs; rw [e]
        rw [Nat.pow_add, Int.natCast_mul]
      rw [e2]
      simp [Int.mul_assoc]
    · rw [show (q + n).toNat = 0 by omega, Nat.pow_zero, Nat.mul_one, h1]
      have e : (-q).toNat = n + (-(q + n)).toNat := by omega
      rw [e, Nat.pow_add, Int.natCast_mul, Int.mul_assoc]
theorem Dy.scale {k i : Int} {d : Datum} (h : Dy k i d) (n : Nat) : Dy (k - n) (i * ((2 ^ n : Nat) : Int)) d := by
  obtain ⟨s, c, q, rfl⟩ := h.fin
  have := whole_scale n (show Whole i (.fin s c (q - k)) from h)
  show Whole _ (.fin s c (q - (k - n)))
  rw [show q - (k - n) = q - k + n by omega]
  exact this
theorem sh_sum (k : Int) (x y : Datum) : sh k (exactSum x y) = exactSum (sh k x) (sh k y) := by
  cases x <;> cases y <;> try rfl
  · rename_i s t
    cases s <;> cases t <;> rfl
  · rename_i s c q t d r
    have e1 : q - k - min (q - k) (r - k) = q - min q r := by omega
    have e2 : r - k - min (q - k) (r - k) = r - min q r := by omega
    have e3 : min (q - k) (r - k) = min q r - k := by omega
    simp only [exactSum, sh, sumUnits, inUnits, e1, e2]
    rw [e3]
theorem sh_product (k l : Int) {s t : Bool} {c d : Nat} {q r : Int} : sh (k + l) (exactProduct (.fin s c q) (.fin t d r)) = exactProduct (sh k (.fin s c q)) (sh l (.fin t d r)) := by
  simp only [exactProduct, sh]
  rw [show q + r - (k + l) = q - k + (r - l) by omega]
theorem sh_negate (k : Int) (x : Datum) : sh k (negate x) = negate (sh k x) := by cases x <;> rfl
theorem Dy.round {k i : Int} {d : Datum} (h : Dy k i d) (hi : i.natAbs ≤ 2 ^ 53) (h1 : -1000 ≤ k) (h2 : k ≤ 900) : Dy k i (round b64 d) := by
  obtain ⟨s, c, q, rfl⟩ := h.fin
  have hw : Whole i (.fin s c (q - k)) := h
  have hn := whole_natAbs hw
  have hr : Core.round b64 (.fin s c q) = roundRatio b64 s i.natAbs 1 k := by
    refine roundRatio_congr (by decide) (by decide) ?_
    rw [show (-(q - k)).toNat = (k - q).toNat by omega] at hn
    simpa using hn
  have T : b64.tails = 2 ^ 52 := by decide
  have Q1 : b64.qmin = -1074 := by decide
  have Q2 : b64.qmax = 971 := by decide
  have P : (2 : Nat) ^ b64.p = 2 ^ 53 := rfl
  by_cases h0 : i = 0
  · subst h0
    rw [hr]
    show Whole 0 (sh k (roundRatio b64 s 0 1 k))
    unfold roundRatio
    rw [if_pos rfl]
    show signed s (0 * _) = 0 * _
    rw [Nat.zero_mul, Int.zero_mul]; exact signed_zero s
  · have hs := whole_sign hw h0
    have hsg : signed s i.natAbs = i := by
      rw [hs]; unfold signed
      by_cases h : i < 0 <;> simp [h] <;> omega
    generalize hN : i.natAbs = N at *
    have hN0 : N ≠ 0 := by omega
    by_cases hp : N = 2 ^ 53
    · have hfit : Core.fits b64 (.fin s (2 ^ 52) (k + 1)) := ⟨by rw [P]; decide, by rw [Q1]; omega, by rw [Q2]; omega, .inr (Nat.le_of_eq T)⟩
      rw [hr, roundRatio_exact good_b64 (by decide) hfit (by rw [hp, show (k - (k + 1)).toNat = 0 by omega, show (k + 1 - k).toNat = 1 by omega])]
      show signed s (2 ^ 52 * 2 ^ (k + 1 - k).toNat) = i * _
      rw [show (k + 1 - k).toNat = 1 by omega, show (-(k + 1 - k)).toNat = 0 by omega, show (2 : Nat) ^ 52 * 2 ^ 1 = N by rw [hp], hsg]
      simp
    · have l1 : 2 ^ N.log2 ≤ N := Nat.log2_self_le hN0
      have l2 : N < 2 ^ (N.log2 + 1) := Nat.lt_log2_self
      have l3 : N.log2 < 53 := (Nat.pow_lt_pow_iff_right (by decide : 1 < 2)).mp (Nat.lt_of_le_of_lt l1 (by omega))
      generalize N.log2 = G at l1 l2 l3
      have hfit : Core.fits b64 (.fin s (N * 2 ^ (52 - G)) (k + G - 52)) := by
        refine ⟨?_, by rw [Q1]; omega, by rw [Q2]; omega, .inr ?_⟩
        · rw [P]
          calc N * 2 ^ (52 - G) < 2 ^ (G + 1) * 2 ^ (52 - G) := Nat.mul_lt_mul_of_pos_right l2 (Nat.two_pow_pos _)
            _ = 2 ^ 53 := by rw [← Nat.pow_add]; congr 1; omega
        · rw [T]
          calc 2 ^ 52 = 2 ^ G * 2 ^ (52 - G) := by rw [← Nat.pow_add]; congr 1; omega
            _ ≤ N * 2 ^ (52 - G) := Nat.mul_le_mul_right _ l1
      rw [hr, roundRatio_exact good_b64 (by decide) hfit (by rw [show (k - (k + G - 52)).toNat = 52 - G by omega, show (k + G - 52 - k).toNat = 0 by omega]; simp)]
      show signed s (N * 2 ^ (52 - G) * 2 ^ (k + G - 52 - k).toNat) = i * ((2 ^ (-(k + G - 52 - k)).toNat : Nat) : Int)
      rw [show (k + G - 52 - k).toNat = 0 by omega, show (-(k + (G : Int) - 52 - k)).toNat = 52 - G by omega, Nat.pow_zero, Nat.mul_one, signed_mul, hsg]
theorem DY.add {k i j : Int} {a b : UInt64} (ha : DY k i a) (hb : DY k j b) (h : (i + j).natAbs ≤ 2 ^ 53) (h1 : -1000 ≤ k) (h2 : k ≤ 900) : DY k (i + j) (FP.dadd a b) := by
  show Dy k (i + j) (val64 (Core.dadd a b))
  rw [val64_dadd]
  refine Dy.round ?_ h h1 h2
  show Whole (i + j) (sh k _)
  rw [sh_sum]
  exact whole_sum ha hb
theorem DY.sub {k i j : Int} {a b : UInt64} (ha : DY k i a) (hb : DY k j b) (h : (i - j).natAbs ≤ 2 ^ 53) (h1 : -1000 ≤ k) (h2 : k ≤ 900) : DY k (i - j) (FP.dsub a b) := by
  show Dy k (i - j) (val64 (Core.dsub a b))
  rw [val64_dsub]
  refine Dy.round ?_ h h1 h2
  show Whole (i - j) (sh k _)
  rw [sh_sum, sh_negate, show i - j = i + -j by omega]
  exact whole_sum ha (whole_negate hb)
theorem DY.mul {k l i j : Int} {a b : UInt64} (ha : DY k i a) (hb : DY l j b) (h : (i * j).natAbs ≤ 2 ^ 53) (h1 : -1000 ≤ k + l) (h2 : k + l ≤ 900) : DY (k + l) (i * j) (FP.dmul a b) := by
  show Dy (k + l) (i * j) (val64 (Core.dmul a b))
  rw [val64_dmul]
  refine Dy.round ?_ h h1 h2
  obtain ⟨s, c, q, e1⟩ := Dy.fin ha
  obtain ⟨t, d, r, e2⟩ := Dy.fin hb
  show Whole (i * j) (sh (k + l) _)
  have ha' : Whole i (sh k (val64 a)) := ha
  have hb' : Whole j (sh l (val64 b)) := hb
  rw [e1] at ha' ⊢
  rw [e2] at hb' ⊢
  rw [sh_product]
  exact whole_product ha' hb'
/-- the quotient by a power of two -/
theorem DY.div2 {k i m : Int} {a b : UInt64} (ha : DY k i a) (hb : val64 b = .fin false (2 ^ 52) (m - 52)) (h : i.natAbs ≤ 2 ^ 53) (h1 : -1000 ≤ k - m) (h2 : k - m ≤ 900) : DY (k - m) i (FP.ddiv a b) := by
  show Dy (k - m) i (val64 (Core.ddiv a b))
  rw [val64_ddiv, hb]
  obtain ⟨s, c, q, e1⟩ := Dy.fin ha
  have ha' : Whole i (sh k (val64 a)) := ha
  rw [e1] at ha' ⊢
  have e : quotient b64 (.fin s c q) (.fin false (2 ^ 52) (m - 52)) = Core.round b64 (.fin s c (q - m)) := by
    show (if (2 : Nat) ^ 52 = 0 then (if c = 0 then Datum.nan else .inf (s != false)) else roundRatio b64 (s != false) c (2 ^ 52) (q - (m - 52))) = roundRatio b64 s c 1 (q - m)
    rw [if_neg (by decide), show (s != false) = s by cases s <;> rfl]
    refine roundRatio_congr (by decide) (by decide) ?_
    rw [show (q - (m - 52) - (q - m)).toNat = 52 by omega, show (q - m - (q - (m - 52))).toNat = 0 by omega]
    simp
  rw [e]
  refine Dy.round ?_ h h1 h2
  show Whole i (.fin s c (q - m - (k - m)))
  rw [show q - m - (k - m) = q - k by omega]
  exact ha'
theorem askY_lt {k i j : Int} {a b : UInt64} (ha : DY k i a) (hb : DY k j b) (o : CmpOp) : ifCond.holds .lt (cmpValue (FP.dcmp a b) o) = decide (i < j) := by
  rw [DY.cmp ha hb, h_lt]; exact decide_eq_decide.mpr cI_lt
theorem askY_ge {k i j : Int} {a b : UInt64} (ha : DY k i a) (hb : DY k j b) (o : CmpOp) : ifCond.holds .ge (cmpValue (FP.dcmp a b) o) = decide (j ≤ i) := by
  rw [DY.cmp ha hb, h_ge]; exact decide_eq_decide.mpr cI_ge
theorem askY_gt {k i j : Int} {a b : UInt64} (ha : DY k i a) (hb : DY k j b) (o : CmpOp) : ifCond.holds .gt (cmpValue (FP.dcmp a b) o) = decide (j < i) := by
  rw [DY.cmp ha hb, h_gt]; exact decide_eq_decide.mpr cI_gt
theorem askY_le {k i j : Int} {a b : UInt64} (ha : DY k i a) (hb : DY k j b) (o : CmpOp) : ifCond.holds .le (cmpValue (FP.dcmp a b) o) = decide (i ≤ j) := by
  rw [DY.cmp ha hb, h_le]; exact decide_eq_decide.mpr cI_le
theorem askY_eq {k i j : Int} {a b : UInt64} (ha : DY k i a) (hb : DY k j b) (o : CmpOp) : ifCond.holds .eq (cmpValue (FP.dcmp a b) o) = decide (i = j) := by
  rw [DY.cmp ha hb, h_eq]; exact decide_eq_decide.mpr cI_eq
theorem askY_ne {k i j : Int} {a b : UInt64} (ha : DY k i a) (hb : DY k j b) (o : CmpOp) : ifCond.holds .ne (cmpValue (FP.dcmp a b) o) = decide (i ≠ j) := by
  rw [DY.cmp ha hb, h_ne]; exact decide_eq_decide.mpr (not_congr cI_eq)
theorem DY.zero (k : Int) : DY k 0 0 := by
  show Whole 0 (sh k (val64 0))
  rw [show val64 0 = .fin false 0 (-1074) by decide +kernel]
  show signed false (0 * _) = 0 * _
  rw [Nat.zero_mul, Int.zero_mul]; rfl
theorem DI.fin64 {i : Int} {a : UInt64} (h : DI i a) : Jvm.Free.Fl.Fin64 a := (DY.of_DI h).fin64
/-- what isFinite asks -/
theorem ask_fin {a : UInt64} (h : Jvm.Free.Fl.Fin64 a) : ifCond.holds .gt (cmpValue (FP.dcmp (a &&& 0x7fffffffffffffff) 9218868437227405311) .g) = false := by
  have q := (Jvm.Free.Fl.le_max_iff h.noNaN).mpr h
  have q' : Jvm.Free.Fl.relLe (FP.dcmp (a &&& 0x7fffffffffffffff) 9218868437227405311) = true := q
  revert q'
  generalize FP.dcmp (a &&& 0x7fffffffffffffff) 9218868437227405311 = r
  intro q'
  rcases r with _ | (_ | _ | _)
  · exact absurd q' (by decide)
  · decide
  · decide
  · exact absurd q' (by decide)
theorem notNaN_fin {a : UInt64} (h : Jvm.Free.Fl.Fin64 a) : (!FP.dIsNaN a) = true := by
  rw [show FP.dIsNaN a = false from Jvm.Free.Fl.noNaN64_no.mp h.noNaN]; rfl
/-- the half of an int -/
theorem DY.half (x : Int32) : DY (-1) x.toInt (FP.ddiv (FP.i2d x) 4611686018427387904) := by
  have h1 := Int32.toInt_lt x
  have h2 := Int32.le_toInt x
  exact (DY.of_DI (DI.i2d x)).div2 (m := 1) (by decide +kernel) (by omega) (by decide) (by decide)
theorem leading1 {n : Nat} (h : 0 < n) : leading n 1 = (n.log2 : Int) := by
  unfold leading
  have h1 : Nat.log2 1 = 0 := by decide
  have h2 : 2 ^ n.log2 ≤ n := Nat.log2_self_le (by omega)
  simp only [h1]
  rw [if_pos]
  · omega
  · rw [show ((n.log2 : Int) - ((0 : Nat) : Int)).toNat = n.log2 by omega, show (-((n.log2 : Int) - ((0 : Nat) : Int))).toNat = 0 by omega]
    omega
/-- the rounding of n * 2^k is that of n, shifted -/
theorem round_sh (s : Bool) {n : Nat} (h : 0 < n) (hn : n < 2 ^ 64) {k : Int} (h1 : -900 ≤ k) (h2 : k ≤ 900) : ∃ c q, c < 2 ^ 53 ∧ -60 ≤ q ∧ q ≤ 20 ∧ roundRatio b64 s n 1 k = .fin s c (q + k) ∧ roundRatio b64 s n 1 0 = .fin s c q := by
  have l3 : n.log2 < 64 := (Nat.log2_lt (by omega)).mpr hn
  have Q1 : b64.qmin = -1074 := by decide
  have Q2 : b64.qmax = 971 := by decide
  have P : (b64.p : Int) = 53 := by decide
  have P2 : (2 : Nat) ^ b64.p = 2 ^ 53 := rfl
  have T : b64.tails = 2 ^ 52 := by decide
  have qu : ∀ j : Int, -900 ≤ j → j ≤ 900 → quantum b64 n 1 j = (n.log2 : Int) - 52 + j := by
    intro j _ _
    unfold quantum
    rw [leading1 h, Q1, P]
    omega
  have key : ∀ j : Int, -900 ≤ j → j ≤ 900 → roundRatio b64 s n 1 j = settle b64 s (nearest (unitsNum n 0 ((n.log2 : Int) - 52)) (unitsDen 1 0 ((n.log2 : Int) - 52))) ((n.log2 : Int) - 52 + j) := by
    intro j a b
    unfold roundRatio
    rw [if_neg (by omega), qu j a b]
    unfold roundAt unitsNum unitsDen
    rw [show j - ((n.log2 : Int) - 52 + j) = 0 - ((n.log2 : Int) - 52) by omega, show (n.log2 : Int) - 52 + j - j = (n.log2 : Int) - 52 - 0 by omega]
  rw [key k h1 h2, key 0 (by decide) (by decide)]
  generalize nearest (unitsNum n 0 ((n.log2 : Int) - 52)) (unitsDen 1 0 ((n.log2 : Int) - 52)) = c
  unfold settle
  rw [P2]
  by_cases hc : c < 2 ^ 53
  · refine ⟨c, (n.log2 : Int) - 52, hc, by omega, by omega, ?_, ?_⟩
    · rw [if_pos hc]; unfold bound; rw [if_pos (by rw [Q2]; omega)]
    · rw [if_pos hc]; unfold bound; rw [if_pos (by rw [Q2]; omega), Int.add_zero]
  · refine ⟨2 ^ 52, (n.log2 : Int) - 51, by decide, by omega, by omega, ?_, ?_⟩
    · rw [if_neg hc]; unfold bound; rw [if_pos (by rw [Q2]; omega), T, show (n.log2 : Int) - 52 + k + 1 = (n.log2 : Int) - 51 + k by omega]
    · rw [if_neg hc]; unfold bound; rw [if_pos (by rw [Q2]; omega), T, show (n.log2 : Int) - 52 + 0 + 1 = (n.log2 : Int) - 51 by omega]
theorem Dy.round_val {k i : Int} {d : Datum} (h : Dy k i d) (h0 : i ≠ 0) : Core.round b64 d = roundRatio b64 (decide (i < 0)) i.natAbs 1 k := by
  obtain ⟨s, c, q, rfl⟩ := h.fin
  have hw : Whole i (.fin s c (q - k)) := h
  have hn := whole_natAbs hw
  have hs := whole_sign hw h0
  rw [← hs]
  refine roundRatio_congr (by decide) (by decide) ?_
  rw [show (-(q - k)).toNat = (k - q).toNat by omega] at hn
  simpa using hn
theorem dy_self (s : Bool) (c : Nat) (q : Int) : Dy q (signed s c) (.fin s c q) := by
  show signed s (c * 2 ^ (q - q).toNat) = signed s c * ((2 ^ (-(q - q)).toNat : Nat) : Int)
  rw [show (q - q).toNat = 0 by omega, show (-(q - q)).toNat = 0 by omega]
  simp
/-- a long, rounded, then divided by a power of two: as if the sum of i * 2^-m were rounded -/
theorem DY.two_ways {x : Int64} {m p' q' : Int} {a b p : UInt64} (ha : DY (-m) p' a) (hb : DY (-m) q' b) (hs : p' + q' = x.toInt) (hp : val64 p = .fin false (2 ^ 52) (m - 52)) (h1 : 0 ≤ m) (h2 : m ≤ 800) : ∃ k j, DY k j (FP.dadd a b) ∧ DY k j (FP.ddiv (FP.l2d x) p) := by
  have b1 := Int64.toInt_lt x
  have b2 := Int64.le_toInt x
  by_cases h53 : x.toInt.natAbs ≤ 2 ^ 53
  · refine ⟨-m, x.toInt, ?_, ?_⟩
    · rw [← hs]; exact ha.add hb (by rw [hs]; exact h53) (by omega) (by omega)
    · have := (DY.of_DI (Core.l2d_int h53)).div2 hp h53 (by omega) (by omega)
      rw [show (0 : Int) - m = -m by omega] at this
      exact this
  · have h0 : x.toInt ≠ 0 := by intro q; rw [q] at h53; exact h53 (by decide)
    obtain ⟨c, q, hc, q1, q2, e1, e2⟩ := round_sh (decide (x.toInt < 0)) (n := x.toInt.natAbs) (by omega) (by omega) (k := -m) (by omega) (by omega)
    refine ⟨q - m, signed (decide (x.toInt < 0)) c, ?_, ?_⟩
    · show Dy (q - m) _ (val64 (Core.dadd a b))
      rw [val64_dadd]
      have hd : Dy (-m) x.toInt (exactSum (val64 a) (val64 b)) := by
        show Whole _ (sh _ _)
        rw [sh_sum, ← hs]
        exact whole_sum ha hb
      rw [hd.round_val h0, e1, show q + -m = q - m by omega]
      exact dy_self _ _ _
    · have hl : DY q (signed (decide (x.toInt < 0)) c) (FP.l2d x) := by
        show Dy q _ (val64 (Core.l2d x))
        rw [val64_l2d]
        have hd : Dy 0 x.toInt (ofInt x.toInt) := by
          show Whole _ (.fin _ _ (0 - 0))
          exact whole_ofInt _
        rw [hd.round_val h0, e2]
        exact dy_self _ _ _
      refine hl.div2 hp ?_ (by omega) (by omega)
      rw [natAbs_signed]; omega
end Dyadic
end Jvm.Own
namespace Jvm.Fx
open Jvm Jvm.ClassFile Sem Op Lib Jvm.Free Jvm.Stand Jvm.LawKit Jvm.RoadKit Bundle
/-! numbers -/
theorem ofNat_mod (a : Nat) : Int32.ofNat (a % 4294967296) = Int32.ofNat a := by
  apply Int32.toBitVec_inj.mp
  rw [Int32.toBitVec_ofNat', Int32.toBitVec_ofNat']
  apply BitVec.eq_of_toNat_eq
  simp
theorem ofNat_modL (a : Nat) : Int64.ofNat (a % 18446744073709551616) = Int64.ofNat a := by
  apply Int64.toBitVec_inj.mp
  rw [Int64.toBitVec_ofNat', Int64.toBitVec_ofNat']
  apply BitVec.eq_of_toNat_eq
  simp
theorem b_add (a b : Nat) : Int32.ofNat a + Int32.ofNat b = Int32.ofNat (Nat.mod (Nat.add a b) 4294967296) := by
  rw [show Nat.mod (Nat.add a b) 4294967296 = (a + b) % 4294967296 from rfl, ofNat_mod, Int32.ofNat_add]
theorem b_mul (a b : Nat) : Int32.ofNat a * Int32.ofNat b = Int32.ofNat (Nat.mod (Nat.mul a b) 4294967296) := by
  rw [show Nat.mod (Nat.mul a b) 4294967296 = (a * b) % 4294967296 from rfl, ofNat_mod, Int32.ofNat_mul]
theorem b_sub (a b : Nat) : Int32.ofNat a - Int32.ofNat b = Int32.ofNat (Nat.mod (Nat.add (Nat.sub 4294967296 (Nat.mod b 4294967296)) a) 4294967296) := by
  rw [show Nat.mod (Nat.add (Nat.sub 4294967296 (Nat.mod b 4294967296)) a) 4294967296 = ((4294967296 - b % 4294967296) + a) % 4294967296 from rfl, ofNat_mod]
  apply Int32.toBitVec_inj.mp
  rw [Int32.toBitVec_sub, Int32.toBitVec_ofNat', Int32.toBitVec_ofNat', Int32.toBitVec_ofNat']
  apply BitVec.eq_of_toNat_eq
  simp [BitVec.toNat_sub]
theorem b_and (a b : Nat) : Int32.ofNat a &&& Int32.ofNat b = Int32.ofNat (Nat.land a b) := by
  apply Int32.toBitVec_inj.mp
  rw [Int32.toBitVec_and, Int32.toBitVec_ofNat', Int32.toBitVec_ofNat', Int32.toBitVec_ofNat']
  apply BitVec.eq_of_toNat_eq
  rw [BitVec.toNat_and]
  simp only [BitVec.toNat_ofNat]
  exact (Nat.and_mod_two_pow (a := a) (b := b) (n := 32)).symm
theorem b_or (a b : Nat) : Int32.ofNat a ||| Int32.ofNat b = Int32.ofNat (Nat.lor a b) := by
  apply Int32.toBitVec_inj.mp
  rw [Int32.toBitVec_or, Int32.toBitVec_ofNat', Int32.toBitVec_ofNat', Int32.toBitVec_ofNat']
  apply BitVec.eq_of_toNat_eq
  rw [BitVec.toNat_or]
  simp only [BitVec.toNat_ofNat]
  exact (Nat.or_mod_two_pow (a := a) (b := b) (n := 32)).symm
theorem b_xor (a b : Nat) : Int32.ofNat a ^^^ Int32.ofNat b = Int32.ofNat (Nat.xor a b) := by
  apply Int32.toBitVec_inj.mp
  rw [Int32.toBitVec_xor, Int32.toBitVec_ofNat', Int32.toBitVec_ofNat', Int32.toBitVec_ofNat']
  apply BitVec.eq_of_toNat_eq
  rw [BitVec.toNat_xor]
  simp only [BitVec.toNat_ofNat]
  exact (Nat.xor_mod_two_pow (a := a) (b := b) (n := 32)).symm
theorem bl_add (a b : Nat) : Int64.ofNat a + Int64.ofNat b = Int64.ofNat (Nat.mod (Nat.add a b) 18446744073709551616) := by
  rw [show Nat.mod (Nat.add a b) 18446744073709551616 = (a + b) % 18446744073709551616 from rfl, ofNat_modL, Int64.ofNat_add]
theorem bl_mul (a b : Nat) : Int64.ofNat a * Int64.ofNat b = Int64.ofNat (Nat.mod (Nat.mul a b) 18446744073709551616) := by
  rw [show Nat.mod (Nat.mul a b) 18446744073709551616 = (a * b) % 18446744073709551616 from rfl, ofNat_modL, Int64.ofNat_mul]
theorem bl_sub (a b : Nat) : Int64.ofNat a - Int64.ofNat b = Int64.ofNat (Nat.mod (Nat.add (Nat.sub 18446744073709551616 (Nat.mod b 18446744073709551616)) a) 18446744073709551616) := by
  rw [show Nat.mod (Nat.add (Nat.sub 18446744073709551616 (Nat.mod b 18446744073709551616)) a) 18446744073709551616 = ((18446744073709551616 - b % 18446744073709551616) + a) % 18446744073709551616 from rfl, ofNat_modL]
  apply Int64.toBitVec_inj.mp
  rw [Int64.toBitVec_sub, Int64.toBitVec_ofNat', Int64.toBitVec_ofNat', Int64.toBitVec_ofNat']
  apply BitVec.eq_of_toNat_eq
  simp [BitVec.toNat_sub]
theorem bl_and (a b : Nat) : Int64.ofNat a &&& Int64.ofNat b = Int64.ofNat (Nat.land a b) := by
  apply Int64.toBitVec_inj.mp
  rw [Int64.toBitVec_and, Int64.toBitVec_ofNat', Int64.toBitVec_ofNat', Int64.toBitVec_ofNat']
  apply BitVec.eq_of_toNat_eq
  rw [BitVec.toNat_and]
  simp only [BitVec.toNat_ofNat]
  exact (Nat.and_mod_two_pow (a := a) (b := b) (n := 64)).symm
theorem bl_or (a b : Nat) : Int64.ofNat a ||| Int64.ofNat b = Int64.ofNat (Nat.lor a b) := by
  apply Int64.toBitVec_inj.mp
  rw [Int64.toBitVec_or, Int64.toBitVec_ofNat', Int64.toBitVec_ofNat', Int64.toBitVec_ofNat']
  apply BitVec.eq_of_toNat_eq
  rw [BitVec.toNat_or]
  simp only [BitVec.toNat_ofNat]
  exact (Nat.or_mod_two_pow (a := a) (b := b) (n := 64)).symm
theorem bl_xor (a b : Nat) : Int64.ofNat a ^^^ Int64.ofNat b = Int64.ofNat (Nat.xor a b) := by
  apply Int64.toBitVec_inj.mp
  rw [Int64.toBitVec_xor, Int64.toBitVec_ofNat', Int64.toBitVec_ofNat', Int64.toBitVec_ofNat']
  apply BitVec.eq_of_toNat_eq
  rw [BitVec.toNat_xor]
  simp only [BitVec.toNat_ofNat]
  exact (Nat.xor_mod_two_pow (a := a) (b := b) (n := 64)).symm
theorem toInt_nat (a : Nat) : (Int32.ofNat a).toInt = ((a + 2147483648) % 4294967296 : Nat) - (2147483648 : Int) := by
  rw [Int32.toInt_ofNat', show Int32.size = 4294967296 from rfl, Int.bmod_def]
  split <;> omega
theorem small (a : Nat) (h : a < 2147483648) : (Int32.ofNat a).toInt = a := by
  rw [toInt_nat]; omega
theorem clamp (a : Nat) (h : a < 2147483648) : (Int32.ofNat a).toNatClampNeg = a := by
  rw [Int32.toNatClampNeg, small a h]; rfl
theorem b_div (a b : Nat) (ha : a < 2147483648) (hb : b < 2147483648) : Int32.ofNat a / Int32.ofNat b = Int32.ofNat (Nat.div a b) := by
  apply Int32.toInt_inj.mp
  have h : Nat.div a b < 2147483648 := Nat.lt_of_le_of_lt (Nat.div_le_self a b) ha
  rw [Int32.toInt_div, small a ha, small b hb, small _ h]
  have e : Int.tdiv (a : Int) (b : Int) = ((Nat.div a b : Nat) : Int) := by rw [← Int.ofNat_tdiv]; rfl
  rw [e]
  refine Int.bmod_eq_of_le ?_ ?_ <;> omega
theorem b_rem (a b : Nat) (ha : a < 2147483648) (hb : b < 2147483648) : Int32.ofNat a % Int32.ofNat b = Int32.ofNat (Nat.mod a b) := by
  apply Int32.toInt_inj.mp
  have h : Nat.mod a b < 2147483648 := Nat.lt_of_le_of_lt (Nat.mod_le a b) ha
  rw [Int32.toInt_mod, small a ha, small b hb, small _ h]
  rw [← Int.ofNat_tmod]; rfl
theorem sh_amt (b : Nat) (h : b < 32) : ((Int32.ofNat b &&& 31).toBitVec.smod 32) = BitVec.ofNat 32 b := by
  have h1 : ∀ b : Fin 32, ((Int32.ofNat b.val &&& 31).toBitVec.smod 32) = BitVec.ofNat 32 b.val := by decide +kernel
  exact h1 ⟨b, h⟩
theorem b_shl (a b : Nat) (h : b < 32) : Int32.ofNat a <<< (Int32.ofNat b &&& 31) = Int32.ofNat (Nat.mod (Nat.shiftLeft a b) 4294967296) := by
  rw [show Nat.mod (Nat.shiftLeft a b) 4294967296 = (a <<< b) % 4294967296 from rfl, ofNat_mod]
  apply Int32.toBitVec_inj.mp
  rw [Int32.toBitVec_shiftLeft, sh_amt b h, Int32.toBitVec_ofNat', Int32.toBitVec_ofNat']
  apply BitVec.eq_of_toNat_eq
  have : b % 2 ^ 32 = b := Nat.mod_eq_of_lt (by omega)
  simp [BitVec.toNat_shiftLeft, this, Nat.shiftLeft_eq]
theorem b_shr (a b : Nat) (ha : a < 2147483648) (h : b < 32) : Int32.ofNat a >>> (Int32.ofNat b &&& 31) = Int32.ofNat (Nat.shiftRight a b) := by
  apply Int32.toBitVec_inj.mp
  rw [Int32.toBitVec_shiftRight, sh_amt b h, Int32.toBitVec_ofNat', Int32.toBitVec_ofNat']
  have hm : (BitVec.ofNat 32 a).msb = false := by
    rw [BitVec.msb_eq_decide]
    simp
    omega
  rw [show (BitVec.ofNat 32 a).sshiftRight' (BitVec.ofNat 32 b) = (BitVec.ofNat 32 a).sshiftRight (BitVec.ofNat 32 b).toNat from rfl, BitVec.sshiftRight_eq_of_msb_false hm]
  apply BitVec.eq_of_toNat_eq
  have e1 : b % 2 ^ 32 = b := Nat.mod_eq_of_lt (by omega)
  have e2 : a % 4294967296 = a := Nat.mod_eq_of_lt (by omega)
  have e3 : a >>> b ≤ a := by rw [Nat.shiftRight_eq_div_pow]; exact Nat.div_le_self _ _
  have e4 : (a >>> b) % 4294967296 = a >>> b := Nat.mod_eq_of_lt (by omega)
  show _ = (BitVec.ofNat 32 (a >>> b)).toNat
  simp [e1, e2, e4]
theorem sh_amtU (b : Nat) (h : b < 32) : ((Int32.ofNat b &&& 31).toUInt32.toBitVec % 32) = BitVec.ofNat 32 b := by
  have h1 : ∀ b : Fin 32, ((Int32.ofNat b.val &&& 31).toUInt32.toBitVec % 32) = BitVec.ofNat 32 b.val := by decide +kernel
  exact h1 ⟨b, h⟩
theorem b_ushr (a b : Nat) (ha : a < 2147483648) (h : b < 32) : XT.ushr (Int32.ofNat a) (Int32.ofNat b) = Int32.ofNat (Nat.shiftRight a b) := by
  unfold XT.ushr
  apply Int32.toBitVec_inj.mp
  have : ((Int32.ofNat a).toUInt32 >>> (Int32.ofNat b &&& 31).toUInt32).toInt32.toBitVec = ((Int32.ofNat a).toUInt32 >>> (Int32.ofNat b &&& 31).toUInt32).toBitVec := rfl
  rw [this, UInt32.toBitVec_shiftRight, sh_amtU b h, Int32.toBitVec_ofNat']
  show BitVec.ofNat 32 a >>> _ = _
  apply BitVec.eq_of_toNat_eq
  have e1 : b % 2 ^ 32 = b := Nat.mod_eq_of_lt (by omega)
  have e2 : a % 4294967296 = a := Nat.mod_eq_of_lt (by omega)
  have e3 : a >>> b ≤ a := by rw [Nat.shiftRight_eq_div_pow]; exact Nat.div_le_self _ _
  have e4 : (a >>> b) % 4294967296 = a >>> b := Nat.mod_eq_of_lt (by omega)
  show _ = (BitVec.ofNat 32 (a >>> b)).toNat
  simp [e1, e2, e4]
theorem b_i2l (a : Nat) (ha : a < 2147483648) : (Int32.ofNat a).toInt64 = Int64.ofNat a := by
  apply Int64.toInt_inj.mp
  rw [Int32.toInt_toInt64, small a ha, Int64.toInt_ofNat', show Int64.size = 18446744073709551616 from rfl]
  refine (Int.bmod_eq_of_le ?_ ?_).symm <;> omega
theorem b_l2i (a : Nat) : (Int64.ofNat a).toInt32 = Int32.ofNat (Nat.mod a 4294967296) := by
  rw [show Nat.mod a 4294967296 = a % 4294967296 from rfl, ofNat_mod, Int64.toInt32_ofNat']
theorem len32 (n : Nat) : Nat.toInt32 n = Int32.ofNat n := rfl
theorem mask31 (x : Int32) : 0 ≤ (x &&& Int32.ofNat 2147483647).toInt := by
  have h : (x &&& Int32.ofNat 2147483647).toBitVec.msb = false := by
    rw [Int32.toBitVec_and, BitVec.msb_and, show (Int32.ofNat 2147483647).toBitVec.msb = false from rfl, Bool.and_false]
  show 0 ≤ (x &&& Int32.ofNat 2147483647).toBitVec.toInt
  rw [BitVec.toInt_eq_toNat_of_msb h]
  omega
/-- x mod m, x taken without its sign -/
theorem md (m : Nat) (h0 : 0 < m) (hm : m < 2147483648) (x : Int32) : ∃ z, z < m ∧ (x &&& Int32.ofNat 2147483647) % Int32.ofNat m = Int32.ofNat z := by
  have h := mask31 x
  generalize (x &&& Int32.ofNat 2147483647) = y at *
  have e : (y % Int32.ofNat m).toInt = y.toInt % m := by
    rw [Int32.toInt_mod, small m hm, Int.tmod_eq_emod_of_nonneg h]
  have b1 : 0 ≤ y.toInt % (m : Int) := Int.emod_nonneg _ (by omega)
  have b2 : y.toInt % (m : Int) < m := Int.emod_lt_of_pos _ (by omega)
  refine ⟨(y.toInt % m).toNat, by omega, ?_⟩
  apply Int32.toInt_inj.mp
  rw [e, small _ (by omega)]
  omega
/-- the low bits of x -/
theorem bits (k : Nat) (hk : k ≤ 31) (x : Int32) : ∃ z, z < 2 ^ k ∧ x &&& Int32.ofNat (2 ^ k - 1) = Int32.ofNat z := by
  refine ⟨x.toBitVec.toNat % 2 ^ k, Nat.mod_lt _ (Nat.two_pow_pos k), ?_⟩
  apply Int32.toBitVec_inj.mp
  rw [Int32.toBitVec_and, Int32.toBitVec_ofNat', Int32.toBitVec_ofNat']
  apply BitVec.eq_of_toNat_eq
  have h1 : 2 ^ k ≤ 2 ^ 31 := Nat.pow_le_pow_right (by decide) hk
  have h2 := Nat.two_pow_pos k
  rw [BitVec.toNat_and, BitVec.toNat_ofNat, BitVec.toNat_ofNat, Nat.mod_eq_of_lt (show 2 ^ k - 1 < 2 ^ 32 by omega), Nat.and_two_pow_sub_one_eq_mod]
  have h3 := Nat.mod_lt x.toBitVec.toNat h2
  rw [Nat.mod_eq_of_lt (show x.toBitVec.toNat % 2 ^ k < 2 ^ 32 by omega)]
/-! the fast abstract machine: numbers as naturals, unknown ones as tokens, code as nested steps; all closed, so that the kernel reckons it -/
def brc {α : Type} (x y : α) (b : Bool) : α := Bool.casesOn (motive := fun _ => α) b x y
def orc {β α : Type} (x : α) (f : β → α) (o : Option β) : α := Option.casesOn (motive := fun _ => α) o x f
def prc {β γ α : Type} (f : β → γ → α) (p : β × γ) : α := Prod.casesOn (motive := fun _ => α) p f
def nrc {α : Type} (z : α) (s : Nat → α) (n : Nat) : α := Nat.casesOn (motive := fun _ => α) n z s
def lrc {β α : Type} (z : α) (s : β → List β → α) (l : List β) : α := List.casesOn (motive := fun _ => α) l z s
def src {β γ α : Type} (f : β → α) (g : γ → α) (s : β ⊕ γ) : α := Sum.casesOn (motive := fun _ => α) s f g
def AV : Type := ((Nat ⊕ Nat) ⊕ (Nat ⊕ Unit)) ⊕ ((Nat ⊕ Nat) ⊕ (Nat ⊕ Nat))
def AV.int (n : Nat) : AV := Sum.inl (Sum.inl (Sum.inl n))
def AV.ref (n : Nat) : AV := Sum.inl (Sum.inl (Sum.inr n))
def AV.si (n : Nat) : AV := Sum.inl (Sum.inr (Sum.inl n))
def AV.null : AV := Sum.inl (Sum.inr (Sum.inr ()))
def AV.double (n : Nat) : AV := Sum.inr (Sum.inl (Sum.inl n))
def AV.sd (n : Nat) : AV := Sum.inr (Sum.inl (Sum.inr n))
def AV.long (n : Nat) : AV := Sum.inr (Sum.inr (Sum.inl n))
def AV.sl (n : Nat) : AV := Sum.inr (Sum.inr (Sum.inr n))
/-- by cases: int, long, double, null, ref, the three tokens -/
def vrc {α : Type} (f1 f2 f3 : Nat → α) (f4 : α) (f5 f6 f7 f8 : Nat → α) (v : AV) : α :=
  src (fun a => src (fun b => src f1 f5 b) (fun b => src f6 (fun _ => f4) b) a) (fun a => src (fun b => src f3 f8 b) (fun b => src f2 f7 b) a) v
def AS : Type := Option (Option AV)
def AS.val (v : AV) : AS := some (some v)
def AS.unset : AS := none
def AS.second : AS := some none
def arc {α : Type} (f : AV → α) (u s : α) (x : AS) : α := orc u (fun o => orc s f o) x
abbrev XO : Type := Nat × List AV
abbrev XH : Type := List XO
def Res : Type := Option (Option AV × XH × Nat × Nat × Nat × Nat)
def Res.bad : Res := none
def Res.ok (v : Option AV) (A : XH) (k n f w : Nat) : Res := some (v, A, k, n, f, w)
def rrc {α : Type} (b : α) (g : Option AV → XH → Nat → Nat → Nat → Nat → α) (r : Res) : α := orc b (fun p => prc (fun v p => prc (fun A p => prc (fun k p => prc (fun n p => prc (fun f w => g v A k n f w) p) p) p) p) p) r
abbrev Tab : Type := Nat → AV → AV → Option AV
abbrev LT : Type := ((((AS × AS) × (AS × AS)) × ((AS × AS) × (AS × AS))) × (((AS × AS) × (AS × AS)) × ((AS × AS) × (AS × AS)))) × ((((AS × AS) × (AS × AS)) × ((AS × AS) × (AS × AS))) × (((AS × AS) × (AS × AS)) × ((AS × AS) × (AS × AS))))
abbrev Cont : Type := LT → List AV → XH → Res
abbrev Jmp : Type := Nat → Cont
abbrev Cal : Type := Nat → LT → XH → Res
def flat (L : LT) : List AS := [L.1.1.1.1.1, L.1.1.1.1.2, L.1.1.1.2.1, L.1.1.1.2.2, L.1.1.2.1.1, L.1.1.2.1.2, L.1.1.2.2.1, L.1.1.2.2.2, L.1.2.1.1.1, L.1.2.1.1.2, L.1.2.1.2.1, L.1.2.1.2.2, L.1.2.2.1.1, L.1.2.2.1.2, L.1.2.2.2.1, L.1.2.2.2.2, L.2.1.1.1.1, L.2.1.1.1.2, L.2.1.1.2.1, L.2.1.1.2.2, L.2.1.2.1.1, L.2.1.2.1.2, L.2.1.2.2.1, L.2.1.2.2.2, L.2.2.1.1.1, L.2.2.1.1.2, L.2.2.1.2.1, L.2.2.1.2.2, L.2.2.2.1.1, L.2.2.2.1.2, L.2.2.2.2.1, L.2.2.2.2.2]
def g0 (k : AS → Res) (L : LT) : Res := prc (fun a0 b0 => prc (fun a1 b1 => prc (fun a2 b2 => prc (fun a3 b3 => prc (fun a4 b4 => k a4) a3) a2) a1) a0) L
def s0 (v : AS) (k : LT → Res) (L : LT) : Res := prc (fun a0 b0 => prc (fun a1 b1 => prc (fun a2 b2 => prc (fun a3 b3 => prc (fun a4 b4 => k (((((v, b4), b3), b2), b1), b0)) a3) a2) a1) a0) L
def g1 (k : AS → Res) (L : LT) : Res := prc (fun a0 b0 => prc (fun a1 b1 => prc (fun a2 b2 => prc (fun a3 b3 => prc (fun a4 b4 => k b4) a3) a2) a1) a0) L
def s1 (v : AS) (k : LT → Res) (L : LT) : Res := prc (fun a0 b0 => prc (fun a1 b1 => prc (fun a2 b2 => prc (fun a3 b3 => prc (fun a4 b4 => k (((((a4, v), b3), b2), b1), b0)) a3) a2) a1) a0) L
def g2 (k : AS → Res) (L : LT) : Res := prc (fun a0 b0 => prc (fun a1 b1 => prc (fun a2 b2 => prc (fun a3 b3 => prc (fun a4 b4 => k a4) b3) a2) a1) a0) L
def s2 (v : AS) (k : LT → Res) (L : LT) : Res := prc (fun a0 b0 => prc (fun a1 b1 => prc (fun a2 b2 => prc (fun a3 b3 => prc (fun a4 b4 => k ((((a3, (v, b4)), b2), b1), b0)) b3) a2) a1) a0) L
def g3 (k : AS → Res) (L : LT) : Res := prc (fun a0 b0 => prc (fun a1 b1 => prc (fun a2 b2 => prc (fun a3 b3 => prc (fun a4 b4 => k b4) b3) a2) a1) a0) L
def s3 (v : AS) (k : LT → Res) (L : LT) : Res := prc (fun a0 b0 => prc (fun a1 b1 => prc (fun a2 b2 => prc (fun a3 b3 => prc (fun a4 b4 => k ((((a3, (a4, v)), b2), b1), b0)) b3) a2) a1) a0) L
def g4 (k : AS → Res) (L : LT) : Res := prc (fun a0 b0 => prc (fun a1 b1 => prc (fun a2 b2 => prc (fun a3 b3 => prc (fun a4 b4 => k a4) a3) b2) a1) a0) L
def s4 (v : AS) (k : LT → Res) (L : LT) : Res := prc (fun a0 b0 => prc (fun a1 b1 => prc (fun a2 b2 => prc (fun a3 b3 => prc (fun a4 b4 => k (((a2, ((v, b4), b3)), b1), b0)) a3) b2) a1) a0) L
def g5 (k : AS → Res) (L : LT) : Res := prc (fun a0 b0 => prc (fun a1 b1 => prc (fun a2 b2 => prc (fun a3 b3 => prc (fun a4 b4 => k b4) a3) b2) a1) a0) L
def s5 (v : AS) (k : LT → Res) (L : LT) : Res := prc (fun a0 b0 => prc (fun a1 b1 => prc (fun a2 b2 => prc (fun a3 b3 => prc (fun a4 b4 => k (((a2, ((a4, v), b3)), b1), b0)) a3) b2) a1) a0) L
def g6 (k : AS → Res) (L : LT) : Res := prc (fun a0 b0 => prc (fun a1 b1 => prc (fun a2 b2 => prc (fun a3 b3 => prc (fun a4 b4 => k a4) b3) b2) a1) a0) L
def s6 (v : AS) (k : LT → Res) (L : LT) : Res := prc (fun a0 b0 => prc (fun a1 b1 => prc (fun a2 b2 => prc (fun a3 b3 => prc (fun a4 b4 => k (((a2, (a3, (v, b4))), b1), b0)) b3) b2) a1) a0) L
def g7 (k : AS → Res) (L : LT) : Res := prc (fun a0 b0 => prc (fun a1 b1 => prc (fun a2 b2 => prc (fun a3 b3 => prc (fun a4 b4 => k b4) b3) b2) a1) a0) L
def s7 (v : AS) (k : LT → Res) (L : LT) : Res := prc (fun a0 b0 => prc (fun a1 b1 => prc (fun a2 b2 => prc (fun a3 b3 => prc (fun a4 b4 => k (((a2, (a3, (a4, v))), b1), b0)) b3) b2) a1) a0) L
def g8 (k : AS → Res) (L : LT) : Res := prc (fun a0 b0 => prc (fun a1 b1 => prc (fun a2 b2 => prc (fun a3 b3 => prc (fun a4 b4 => k a4) a3) a2) b1) a0) L
def s8 (v : AS) (k : LT → Res) (L : LT) : Res := prc (fun a0 b0 => prc (fun a1 b1 => prc (fun a2 b2 => prc (fun a3 b3 => prc (fun a4 b4 => k ((a1, (((v, b4), b3), b2)), b0)) a3) a2) b1) a0) L
def g9 (k : AS → Res) (L : LT) : Res := prc (fun a0 b0 => prc (fun a1 b1 => prc (fun a2 b2 => prc (fun a3 b3 => prc (fun a4 b4 => k b4) a3) a2) b1) a0) L
def s9 (v : AS) (k : LT → Res) (L : LT) : Res := prc (fun a0 b0 => prc (fun a1 b1 => prc (fun a2 b2 => prc (fun a3 b3 => prc (fun a4 b4 => k ((a1, (((a4, v), b3), b2)), b0)) a3) a2) b1) a0) L
def g10 (k : AS → Res) (L : LT) : Res := prc (fun a0 b0 => prc (fun a1 b1 => prc (fun a2 b2 => prc (fun a3 b3 => prc (fun a4 b4 => k a4) b3) a2) b1) a0) L
def s10 (v : AS) (k : LT → Res) (L : LT) : Res := prc (fun a0 b0 => prc (fun a1 b1 => prc (fun a2 b2 => prc (fun a3 b3 => prc (fun a4 b4 => k ((a1, ((a3, (v, b4)), b2)), b0)) b3) a2) b1) a0) L
def g11 (k : AS → Res) (L : LT) : Res := prc (fun a0 b0 => prc (fun a1 b1 => prc (fun a2 b2 => prc (fun a3 b3 => prc (fun a4 b4 => k b4) b3) a2) b1) a0) L
def s11 (v : AS) (k : LT → Res) (L : LT) : Res := prc (fun a0 b0 => prc (fun a1 b1 => prc (fun a2 b2 => prc (fun a3 b3 => prc (fun a4 b4 => k ((a1, ((a3, (a4, v)), b2)), b0)) b3) a2) b1) a0) L
def g12 (k : AS → Res) (L : LT) : Res := prc (fun a0 b0 => prc (fun a1 b1 => prc (fun a2 b2 => prc (fun a3 b3 => prc (fun a4 b4 => k a4) a3) b2) b1) a0) L
def s12 (v : AS) (k : LT → Res) (L : LT) : Res := prc (fun a0 b0 => prc (fun a1 b1 => prc (fun a2 b2 => prc (fun a3 b3 => prc (fun a4 b4 => k ((a1, (a2, ((v, b4), b3))), b0)) a3) b2) b1) a0) L
def g13 (k : AS → Res) (L : LT) : Res := prc (fun a0 b0 => prc (fun a1 b1 => prc (fun a2 b2 => prc (fun a3 b3 => prc (fun a4 b4 => k b4) a3) b2) b1) a0) L
def s13 (v : AS) (k : LT → Res) (L : LT) : Res := prc (fun a0 b0 => prc (fun a1 b1 => prc (fun a2 b2 => prc (fun a3 b3 => prc (fun a4 b4 => k ((a1, (a2, ((a4, v), b3))), b0)) a3) b2) b1) a0) L
def g14 (k : AS → Res) (L : LT) : Res := prc (fun a0 b0 => prc (fun a1 b1 => prc (fun a2 b2 => prc (fun a3 b3 => prc (fun a4 b4 => k a4) b3) b2) b1) a0) L
def s14 (v : AS) (k : LT → Res) (L : LT) : Res := prc (fun a0 b0 => prc (fun a1 b1 => prc (fun a2 b2 => prc (fun a3 b3 => prc (fun a4 b4 => k ((a1, (a2, (a3, (v, b4)))), b0)) b3) b2) b1) a0) L
def g15 (k : AS → Res) (L : LT) : Res := prc (fun a0 b0 => prc (fun a1 b1 => prc (fun a2 b2 => prc (fun a3 b3 => prc (fun a4 b4 => k b4) b3) b2) b1) a0) L
def s15 (v : AS) (k : LT → Res) (L : LT) : Res := prc (fun a0 b0 => prc (fun a1 b1 => prc (fun a2 b2 => prc (fun a3 b3 => prc (fun a4 b4 => k ((a1, (a2, (a3, (a4, v)))), b0)) b3) b2) b1) a0) L
def g16 (k : AS → Res) (L : LT) : Res := prc (fun a0 b0 => prc (fun a1 b1 => prc (fun a2 b2 => prc (fun a3 b3 => prc (fun a4 b4 => k a4) a3) a2) a1) b0) L
def s16 (v : AS) (k : LT → Res) (L : LT) : Res := prc (fun a0 b0 => prc (fun a1 b1 => prc (fun a2 b2 => prc (fun a3 b3 => prc (fun a4 b4 => k (a0, ((((v, b4), b3), b2), b1))) a3) a2) a1) b0) L
def g17 (k : AS → Res) (L : LT) : Res := prc (fun a0 b0 => prc (fun a1 b1 => prc (fun a2 b2 => prc (fun a3 b3 => prc (fun a4 b4 => k b4) a3) a2) a1) b0) L
def s17 (v : AS) (k : LT → Res) (L : LT) : Res := prc (fun a0 b0 => prc (fun a1 b1 => prc (fun a2 b2 => prc (fun a3 b3 => prc (fun a4 b4 => k (a0, ((((a4, v), b3), b2), b1))) a3) a2) a1) b0) L
def g18 (k : AS → Res) (L : LT) : Res := prc (fun a0 b0 => prc (fun a1 b1 => prc (fun a2 b2 => prc (fun a3 b3 => prc (fun a4 b4 => k a4) b3) a2) a1) b0) L
def s18 (v : AS) (k : LT → Res) (L : LT) : Res := prc (fun a0 b0 => prc (fun a1 b1 => prc (fun a2 b2 => prc (fun a3 b3 => prc (fun a4 b4 => k (a0, (((a3, (v, b4)), b2), b1))) b3) a2) a1) b0) L
def g19 (k : AS → Res) (L : LT) : Res := prc (fun a0 b0 => prc (fun a1 b1 => prc (fun a2 b2 => prc (fun a3 b3 => prc (fun a4 b4 => k b4) b3) a2) a1) b0) L
def s19 (v : AS) (k : LT → Res) (L : LT) : Res := prc (fun a0 b0 => prc (fun a1 b1 => prc (fun a2 b2 => prc (fun a3 b3 => prc (fun a4 b4 => k (a0, (((a3, (a4, v)), b2), b1))) b3) a2) a1) b0) L
def g20 (k : AS → Res) (L : LT) : Res := prc (fun a0 b0 => prc (fun a1 b1 => prc (fun a2 b2 => prc (fun a3 b3 => prc (fun a4 b4 => k a4) a3) b2) a1) b0) L
def s20 (v : AS) (k : LT → Res) (L : LT) : Res := prc (fun a0 b0 => prc (fun a1 b1 => prc (fun a2 b2 => prc (fun a3 b3 => prc (fun a4 b4 => k (a0, ((a2, ((v, b4), b3)), b1))) a3) b2) a1) b0) L
def g21 (k : AS → Res) (L : LT) : Res := prc (fun a0 b0 => prc (fun a1 b1 => prc (fun a2 b2 => prc (fun a3 b3 => prc (fun a4 b4 => k b4) a3) b2) a1) b0) L
def s21 (v : AS) (k : LT → Res) (L : LT) : Res := prc (fun a0 b0 => prc (fun a1 b1 => prc (fun a2 b2 => prc (fun a3 b3 => prc (fun a4 b4 => k (a0, ((a2, ((a4, v), b3)), b1))) a3) b2) a1) b0) L
def g22 (k : AS → Res) (L : LT) : Res := prc (fun a0 b0 => prc (fun a1 b1 => prc (fun a2 b2 => prc (fun a3 b3 => prc (fun a4 b4 => k a4) b3) b2) a1) b0) L
def s22 (v : AS) (k : LT → Res) (L : LT) : Res := prc (fun a0 b0 => prc (fun a1 b1 => prc (fun a2 b2 => prc (fun a3 b3 => prc (fun a4 b4 => k (a0, ((a2, (a3, (v, b4))), b1))) b3) b2) a1) b0) L
def g23 (k : AS → Res) (L : LT) : Res := prc (fun a0 b0 => prc (fun a1 b1 => prc (fun a2 b2 => prc (fun a3 b3 => prc (fun a4 b4 => k b4) b3) b2) a1) b0) L
def s23 (v : AS) (k : LT → Res) (L : LT) : Res := prc (fun a0 b0 => prc (fun a1 b1 => prc (fun a2 b2 => prc (fun a3 b3 => prc (fun a4 b4 => k (a0, ((a2, (a3, (a4, v))), b1))) b3) b2) a1) b0) L
def g24 (k : AS → Res) (L : LT) : Res := prc (fun a0 b0 => prc (fun a1 b1 => prc (fun a2 b2 => prc (fun a3 b3 => prc (fun a4 b4 => k a4) a3) a2) b1) b0) L
def s24 (v : AS) (k : LT → Res) (L : LT) : Res := prc (fun a0 b0 => prc (fun a1 b1 => prc (fun a2 b2 => prc (fun a3 b3 => prc (fun a4 b4 => k (a0, (a1, (((v, b4), b3), b2)))) a3) a2) b1) b0) L
def g25 (k : AS → Res) (L : LT) : Res := prc (fun a0 b0 => prc (fun a1 b1 => prc (fun a2 b2 => prc (fun a3 b3 => prc (fun a4 b4 => k b4) a3) a2) b1) b0) L
def s25 (v : AS) (k : LT → Res) (L : LT) : Res := prc (fun a0 b0 => prc (fun a1 b1 => prc (fun a2 b2 => prc (fun a3 b3 => prc (fun a4 b4 => k (a0, (a1, (((a4, v), b3), b2)))) a3) a2) b1) b0) L
def g26 (k : AS → Res) (L : LT) : Res := prc (fun a0 b0 => prc (fun a1 b1 => prc (fun a2 b2 => prc (fun a3 b3 => prc (fun a4 b4 => k a4) b3) a2) b1) b0) L
def s26 (v : AS) (k : LT → Res) (L : LT) : Res := prc (fun a0 b0 => prc (fun a1 b1 => prc (fun a2 b2 => prc (fun a3 b3 => prc (fun a4 b4 => k (a0, (a1, ((a3, (v, b4)), b2)))) b3) a2) b1) b0) L
def g27 (k : AS → Res) (L : LT) : Res := prc (fun a0 b0 => prc (fun a1 b1 => prc (fun a2 b2 => prc (fun a3 b3 => prc (fun a4 b4 => k b4) b3) a2) b1) b0) L
def s27 (v : AS) (k : LT → Res) (L : LT) : Res := prc (fun a0 b0 => prc (fun a1 b1 => prc (fun a2 b2 => prc (fun a3 b3 => prc (fun a4 b4 => k (a0, (a1, ((a3, (a4, v)), b2)))) b3) a2) b1) b0) L
def g28 (k : AS → Res) (L : LT) : Res := prc (fun a0 b0 => prc (fun a1 b1 => prc (fun a2 b2 => prc (fun a3 b3 => prc (fun a4 b4 => k a4) a3) b2) b1) b0) L
def s28 (v : AS) (k : LT → Res) (L : LT) : Res := prc (fun a0 b0 => prc (fun a1 b1 => prc (fun a2 b2 => prc (fun a3 b3 => prc (fun a4 b4 => k (a0, (a1, (a2, ((v, b4), b3))))) a3) b2) b1) b0) L
def g29 (k : AS → Res) (L : LT) : Res := prc (fun a0 b0 => prc (fun a1 b1 => prc (fun a2 b2 => prc (fun a3 b3 => prc (fun a4 b4 => k b4) a3) b2) b1) b0) L
def s29 (v : AS) (k : LT → Res) (L : LT) : Res := prc (fun a0 b0 => prc (fun a1 b1 => prc (fun a2 b2 => prc (fun a3 b3 => prc (fun a4 b4 => k (a0, (a1, (a2, ((a4, v), b3))))) a3) b2) b1) b0) L
def g30 (k : AS → Res) (L : LT) : Res := prc (fun a0 b0 => prc (fun a1 b1 => prc (fun a2 b2 => prc (fun a3 b3 => prc (fun a4 b4 => k a4) b3) b2) b1) b0) L
def s30 (v : AS) (k : LT → Res) (L : LT) : Res := prc (fun a0 b0 => prc (fun a1 b1 => prc (fun a2 b2 => prc (fun a3 b3 => prc (fun a4 b4 => k (a0, (a1, (a2, (a3, (v, b4)))))) b3) b2) b1) b0) L
def g31 (k : AS → Res) (L : LT) : Res := prc (fun a0 b0 => prc (fun a1 b1 => prc (fun a2 b2 => prc (fun a3 b3 => prc (fun a4 b4 => k b4) b3) b2) b1) b0) L
def s31 (v : AS) (k : LT → Res) (L : LT) : Res := prc (fun a0 b0 => prc (fun a1 b1 => prc (fun a2 b2 => prc (fun a3 b3 => prc (fun a4 b4 => k (a0, (a1, (a2, (a3, (a4, v)))))) b3) b2) b1) b0) L
def GOk (ml i : Nat) (gf : (AS → Res) → LT → Res) : Prop := ∀ k L r, gf k L = r → r ≠ .bad → i < ml ∧ ∃ s, (flat L)[i]? = some s ∧ k s = r
def SOk (ml i : Nat) (sf : AS → (LT → Res) → LT → Res) : Prop := ∀ v k L r, sf v k L = r → r ≠ .bad → i < ml ∧ ∃ L', flat L' = (flat L).set i v ∧ k L' = r
def sBad : AS → (LT → Res) → LT → Res := fun _ _ _ => .bad
def gBad : (AS → Res) → LT → Res := fun _ _ => .bad
theorem sBad_ok {ml i : Nat} : SOk ml i sBad := fun _ _ _ _ h hr => absurd h.symm hr
theorem gBad_ok {ml i : Nat} : GOk ml i gBad := fun _ _ _ h hr => absurd h.symm hr
theorem g0_ok {ml : Nat} (hm : 0 < ml) : GOk ml 0 g0 := by
  rintro k ⟨⟨⟨⟨⟨_, _⟩, _⟩, _⟩, _⟩, _⟩ r h _; exact ⟨hm, _, rfl, h⟩
theorem s0_ok {ml : Nat} (hm : 0 < ml) : SOk ml 0 s0 := by
  rintro v k ⟨⟨⟨⟨⟨_, _⟩, _⟩, _⟩, _⟩, _⟩ r h _; exact ⟨hm, _, rfl, h⟩
theorem g1_ok {ml : Nat} (hm : 1 < ml) : GOk ml 1 g1 := by
  rintro k ⟨⟨⟨⟨⟨_, _⟩, _⟩, _⟩, _⟩, _⟩ r h _; exact ⟨hm, _, rfl, h⟩
theorem s1_ok {ml : Nat} (hm : 1 < ml) : SOk ml 1 s1 := by
  rintro v k ⟨⟨⟨⟨⟨_, _⟩, _⟩, _⟩, _⟩, _⟩ r h _; exact ⟨hm, _, rfl, h⟩
theorem g2_ok {ml : Nat} (hm : 2 < ml) : GOk ml 2 g2 := by
  rintro k ⟨⟨⟨⟨_, ⟨_, _⟩⟩, _⟩, _⟩, _⟩ r h _; exact ⟨hm, _, rfl, h⟩
theorem s2_ok {ml : Nat} (hm : 2 < ml) : SOk ml 2 s2 := by
  rintro v k ⟨⟨⟨⟨_, ⟨_, _⟩⟩, _⟩, _⟩, _⟩ r h _; exact ⟨hm, _, rfl, h⟩
theorem g3_ok {ml : Nat} (hm : 3 < ml) : GOk ml 3 g3 := by
  rintro k ⟨⟨⟨⟨_, ⟨_, _⟩⟩, _⟩, _⟩, _⟩ r h _; exact ⟨hm, _, rfl, h⟩
theorem s3_ok {ml : Nat} (hm : 3 < ml) : SOk ml 3 s3 := by
  rintro v k ⟨⟨⟨⟨_, ⟨_, _⟩⟩, _⟩, _⟩, _⟩ r h _; exact ⟨hm, _, rfl, h⟩
theorem g4_ok {ml : Nat} (hm : 4 < ml) : GOk ml 4 g4 := by
  rintro k ⟨⟨⟨_, ⟨⟨_, _⟩, _⟩⟩, _⟩, _⟩ r h _; exact ⟨hm, _, rfl, h⟩
theorem s4_ok {ml : Nat} (hm : 4 < ml) : SOk ml 4 s4 := by
  rintro v k ⟨⟨⟨_, ⟨⟨_, _⟩, _⟩⟩, _⟩, _⟩ r h _; exact ⟨hm, _, rfl, h⟩
theorem g5_ok {ml : Nat} (hm : 5 < ml) : GOk ml 5 g5 := by
  rintro k ⟨⟨⟨_, ⟨⟨_, _⟩, _⟩⟩, _⟩, _⟩ r h _; exact ⟨hm, _, rfl, h⟩
theorem s5_ok {ml : Nat} (hm : 5 < ml) : SOk ml 5 s5 := by
  rintro v k ⟨⟨⟨_, ⟨⟨_, _⟩, _⟩⟩, _⟩, _⟩ r h _; exact ⟨hm, _, rfl, h⟩
theorem g6_ok {ml : Nat} (hm : 6 < ml) : GOk ml 6 g6 := by
  rintro k ⟨⟨⟨_, ⟨_, ⟨_, _⟩⟩⟩, _⟩, _⟩ r h _; exact ⟨hm, _, rfl, h⟩
theorem s6_ok {ml : Nat} (hm : 6 < ml) : SOk ml 6 s6 := by
  rintro v k ⟨⟨⟨_, ⟨_, ⟨_, _⟩⟩⟩, _⟩, _⟩ r h _; exact ⟨hm, _, rfl, h⟩
theorem g7_ok {ml : Nat} (hm : 7 < ml) : GOk ml 7 g7 := by
  rintro k ⟨⟨⟨_, ⟨_, ⟨_, _⟩⟩⟩, _⟩, _⟩ r h _; exact ⟨hm, _, rfl, h⟩
theorem s7_ok {ml : Nat} (hm : 7 < ml) : SOk ml 7 s7 := by
  rintro v k ⟨⟨⟨_, ⟨_, ⟨_, _⟩⟩⟩, _⟩, _⟩ r h _; exact ⟨hm, _, rfl, h⟩
theorem g8_ok {ml : Nat} (hm : 8 < ml) : GOk ml 8 g8 := by
  rintro k ⟨⟨_, ⟨⟨⟨_, _⟩, _⟩, _⟩⟩, _⟩ r h _; exact ⟨hm, _, rfl, h⟩
theorem s8_ok {ml : Nat} (hm : 8 < ml) : SOk ml 8 s8 := by
  rintro v k ⟨⟨_, ⟨⟨⟨_, _⟩, _⟩, _⟩⟩, _⟩ r h _; exact ⟨hm, _, rfl, h⟩
theorem g9_ok {ml : Nat} (hm : 9 < ml) : GOk ml 9 g9 := by
  rintro k ⟨⟨_, ⟨⟨⟨_, _⟩, _⟩, _⟩⟩, _⟩ r h _; exact ⟨hm, _, rfl, h⟩
theorem s9_ok {ml : Nat} (hm : 9 < ml) : SOk ml 9 s9 := by
  rintro v k ⟨⟨_, ⟨⟨⟨_, _⟩, _⟩, _⟩⟩, _⟩ r h _; exact ⟨hm, _, rfl, h⟩
theorem g10_ok {ml : Nat} (hm : 10 < ml) : GOk ml 10 g10 := by
  rintro k ⟨⟨_, ⟨⟨_, ⟨_, _⟩⟩, _⟩⟩, _⟩ r h _; exact ⟨hm, _, rfl, h⟩
theorem s10_ok {ml : Nat} (hm : 10 < ml) : SOk ml 10 s10 := by
  rintro v k ⟨⟨_, ⟨⟨_, ⟨_, _⟩⟩, _⟩⟩, _⟩ r h _; exact ⟨hm, _, rfl, h⟩
theorem g11_ok {ml : Nat} (hm : 11 < ml) : GOk ml 11 g11 := by
  rintro k ⟨⟨_, ⟨⟨_, ⟨_, _⟩⟩, _⟩⟩, _⟩ r h _; exact ⟨hm, _, rfl, h⟩
theorem s11_ok {ml : Nat} (hm : 11 < ml) : SOk ml 11 s11 := by
  rintro v k ⟨⟨_, ⟨⟨_, ⟨_, _⟩⟩, _⟩⟩, _⟩ r h _; exact ⟨hm, _, rfl, h⟩
theorem g12_ok {ml : Nat} (hm : 12 < ml) : GOk ml 12 g12 := by
  rintro k ⟨⟨_, ⟨_, ⟨⟨_, _⟩, _⟩⟩⟩, _⟩ r h _; exact ⟨hm, _, rfl, h⟩
theorem s12_ok {ml : Nat} (hm : 12 < ml) : SOk ml 12 s12 := by
  rintro v k ⟨⟨_, ⟨_, ⟨⟨_, _⟩, _⟩⟩⟩, _⟩ r h _; exact ⟨hm, _, rfl, h⟩
theorem g13_ok {ml : Nat} (hm : 13 < ml) : GOk ml 13 g13 := by
  rintro k ⟨⟨_, ⟨_, ⟨⟨_, _⟩, _⟩⟩⟩, _⟩ r h _; exact ⟨hm, _, rfl, h⟩
theorem s13_ok {ml : Nat} (hm : 13 < ml) : SOk ml 13 s13 := by
  rintro v k ⟨⟨_, ⟨_, ⟨⟨_, _⟩, _⟩⟩⟩, _⟩ r h _; exact ⟨hm, _, rfl, h⟩
theorem g14_ok {ml : Nat} (hm : 14 < ml) : GOk ml 14 g14 := by
  rintro k ⟨⟨_, ⟨_, ⟨_, ⟨_, _⟩⟩⟩⟩, _⟩ r h _; exact ⟨hm, _, rfl, h⟩
theorem s14_ok {ml : Nat} (hm : 14 < ml) : SOk ml 14 s14 := by
  rintro v k ⟨⟨_, ⟨_, ⟨_, ⟨_, _⟩⟩⟩⟩, _⟩ r h _; exact ⟨hm, _, rfl, h⟩
theorem g15_ok {ml : Nat} (hm : 15 < ml) : GOk ml 15 g15 := by
  rintro k ⟨⟨_, ⟨_, ⟨_, ⟨_, _⟩⟩⟩⟩, _⟩ r h _; exact ⟨hm, _, rfl, h⟩
theorem s15_ok {ml : Nat} (hm : 15 < ml) : SOk ml 15 s15 := by
  rintro v k ⟨⟨_, ⟨_, ⟨_, ⟨_, _⟩⟩⟩⟩, _⟩ r h _; exact ⟨hm, _, rfl, h⟩
theorem g16_ok {ml : Nat} (hm : 16 < ml) : GOk ml 16 g16 := by
  rintro k ⟨_, ⟨⟨⟨⟨_, _⟩, _⟩, _⟩, _⟩⟩ r h _; exact ⟨hm, _, rfl, h⟩
theorem s16_ok {ml : Nat} (hm : 16 < ml) : SOk ml 16 s16 := by
  rintro v k ⟨_, ⟨⟨⟨⟨_, _⟩, _⟩, _⟩, _⟩⟩ r h _; exact ⟨hm, _, rfl, h⟩
theorem g17_ok {ml : Nat} (hm : 17 < ml) : GOk ml 17 g17 := by
  rintro k ⟨_, ⟨⟨⟨⟨_, _⟩, _⟩, _⟩, _⟩⟩ r h _; exact ⟨hm, _, rfl, h⟩
theorem s17_ok {ml : Nat} (hm : 17 < ml) : SOk ml 17 s17 := by
  rintro v k ⟨_, ⟨⟨⟨⟨_, _⟩, _⟩, _⟩, _⟩⟩ r h _; exact ⟨hm, _, rfl, h⟩
theorem g18_ok {ml : Nat} (hm : 18 < ml) : GOk ml 18 g18 := by
  rintro k ⟨_, ⟨⟨⟨_, ⟨_, _⟩⟩, _⟩, _⟩⟩ r h _; exact ⟨hm, _, rfl, h⟩
theorem s18_ok {ml : Nat} (hm : 18 < ml) : SOk ml 18 s18 := by
  rintro v k ⟨_, ⟨⟨⟨_, ⟨_, _⟩⟩, _⟩, _⟩⟩ r h _; exact ⟨hm, _, rfl, h⟩
theorem g19_ok {ml : Nat} (hm : 19 < ml) : GOk ml 19 g19 := by
  rintro k ⟨_, ⟨⟨⟨_, ⟨_, _⟩⟩, _⟩, _⟩⟩ r h _; exact ⟨hm, _, rfl, h⟩
theorem s19_ok {ml : Nat} (hm : 19 < ml) : SOk ml 19 s19 := by
  rintro v k ⟨_, ⟨⟨⟨_, ⟨_, _⟩⟩, _⟩, _⟩⟩ r h _; exact ⟨hm, _, rfl, h⟩
theorem g20_ok {ml : Nat} (hm : 20 < ml) : GOk ml 20 g20 := by
  rintro k ⟨_, ⟨⟨_, ⟨⟨_, _⟩, _⟩⟩, _⟩⟩ r h _; exact ⟨hm, _, rfl, h⟩
theorem s20_ok {ml : Nat} (hm : 20 < ml) : SOk ml 20 s20 := by
  rintro v k ⟨_, ⟨⟨_, ⟨⟨_, _⟩, _⟩⟩, _⟩⟩ r h _; exact ⟨hm, _, rfl, h⟩
theorem g21_ok {ml : Nat} (hm : 21 < ml) : GOk ml 21 g21 := by
  rintro k ⟨_, ⟨⟨_, ⟨⟨_, _⟩, _⟩⟩, _⟩⟩ r h _; exact ⟨hm, _, rfl, h⟩
theorem s21_ok {ml : Nat} (hm : 21 < ml) : SOk ml 21 s21 := by
  rintro v k ⟨_, ⟨⟨_, ⟨⟨_, _⟩, _⟩⟩, _⟩⟩ r h _; exact ⟨hm, _, rfl, h⟩
theorem g22_ok {ml : Nat} (hm : 22 < ml) : GOk ml 22 g22 := by
  rintro k ⟨_, ⟨⟨_, ⟨_, ⟨_, _⟩⟩⟩, _⟩⟩ r h _; exact ⟨hm, _, rfl, h⟩
theorem s22_ok {ml : Nat} (hm : 22 < ml) : SOk ml 22 s22 := by
  rintro v k ⟨_, ⟨⟨_, ⟨_, ⟨_, _⟩⟩⟩, _⟩⟩ r h _; exact ⟨hm, _, rfl, h⟩
theorem g23_ok {ml : Nat} (hm : 23 < ml) : GOk ml 23 g23 := by
  rintro k ⟨_, ⟨⟨_, ⟨_, ⟨_, _⟩⟩⟩, _⟩⟩ r h _; exact ⟨hm, _, rfl, h⟩
theorem s23_ok {ml : Nat} (hm : 23 < ml) : SOk ml 23 s23 := by
  rintro v k ⟨_, ⟨⟨_, ⟨_, ⟨_, _⟩⟩⟩, _⟩⟩ r h _; exact ⟨hm, _, rfl, h⟩
theorem g24_ok {ml : Nat} (hm : 24 < ml) : GOk ml 24 g24 := by
  rintro k ⟨_, ⟨_, ⟨⟨⟨_, _⟩, _⟩, _⟩⟩⟩ r h _; exact ⟨hm, _, rfl, h⟩
theorem s24_ok {ml : Nat} (hm : 24 < ml) : SOk ml 24 s24 := by
  rintro v k ⟨_, ⟨_, ⟨⟨⟨_, _⟩, _⟩, _⟩⟩⟩ r h _; exact ⟨hm, _, rfl, h⟩
theorem g25_ok {ml : Nat} (hm : 25 < ml) : GOk ml 25 g25 := by
  rintro k ⟨_, ⟨_, ⟨⟨⟨_, _⟩, _⟩, _⟩⟩⟩ r h _; exact ⟨hm, _, rfl, h⟩
theorem s25_ok {ml : Nat} (hm : 25 < ml) : SOk ml 25 s25 := by
  rintro v k ⟨_, ⟨_, ⟨⟨⟨_, _⟩, _⟩, _⟩⟩⟩ r h _; exact ⟨hm, _, rfl, h⟩
theorem g26_ok {ml : Nat} (hm : 26 < ml) : GOk ml 26 g26 := by
  rintro k ⟨_, ⟨_, ⟨⟨_, ⟨_, _⟩⟩, _⟩⟩⟩ r h _; exact ⟨hm, _, rfl, h⟩
theorem s26_ok {ml : Nat} (hm : 26 < ml) : SOk ml 26 s26 := by
  rintro v k ⟨_, ⟨_, ⟨⟨_, ⟨_, _⟩⟩, _⟩⟩⟩ r h _; exact ⟨hm, _, rfl, h⟩
theorem g27_ok {ml : Nat} (hm : 27 < ml) : GOk ml 27 g27 := by
  rintro k ⟨_, ⟨_, ⟨⟨_, ⟨_, _⟩⟩, _⟩⟩⟩ r h _; exact ⟨hm, _, rfl, h⟩
theorem s27_ok {ml : Nat} (hm : 27 < ml) : SOk ml 27 s27 := by
  rintro v k ⟨_, ⟨_, ⟨⟨_, ⟨_, _⟩⟩, _⟩⟩⟩ r h _; exact ⟨hm, _, rfl, h⟩
theorem g28_ok {ml : Nat} (hm : 28 < ml) : GOk ml 28 g28 := by
  rintro k ⟨_, ⟨_, ⟨_, ⟨⟨_, _⟩, _⟩⟩⟩⟩ r h _; exact ⟨hm, _, rfl, h⟩
theorem s28_ok {ml : Nat} (hm : 28 < ml) : SOk ml 28 s28 := by
  rintro v k ⟨_, ⟨_, ⟨_, ⟨⟨_, _⟩, _⟩⟩⟩⟩ r h _; exact ⟨hm, _, rfl, h⟩
theorem g29_ok {ml : Nat} (hm : 29 < ml) : GOk ml 29 g29 := by
  rintro k ⟨_, ⟨_, ⟨_, ⟨⟨_, _⟩, _⟩⟩⟩⟩ r h _; exact ⟨hm, _, rfl, h⟩
theorem s29_ok {ml : Nat} (hm : 29 < ml) : SOk ml 29 s29 := by
  rintro v k ⟨_, ⟨_, ⟨_, ⟨⟨_, _⟩, _⟩⟩⟩⟩ r h _; exact ⟨hm, _, rfl, h⟩
theorem g30_ok {ml : Nat} (hm : 30 < ml) : GOk ml 30 g30 := by
  rintro k ⟨_, ⟨_, ⟨_, ⟨_, ⟨_, _⟩⟩⟩⟩⟩ r h _; exact ⟨hm, _, rfl, h⟩
theorem s30_ok {ml : Nat} (hm : 30 < ml) : SOk ml 30 s30 := by
  rintro v k ⟨_, ⟨_, ⟨_, ⟨_, ⟨_, _⟩⟩⟩⟩⟩ r h _; exact ⟨hm, _, rfl, h⟩
theorem g31_ok {ml : Nat} (hm : 31 < ml) : GOk ml 31 g31 := by
  rintro k ⟨_, ⟨_, ⟨_, ⟨_, ⟨_, _⟩⟩⟩⟩⟩ r h _; exact ⟨hm, _, rfl, h⟩
theorem s31_ok {ml : Nat} (hm : 31 < ml) : SOk ml 31 s31 := by
  rintro v k ⟨_, ⟨_, ⟨_, ⟨_, ⟨_, _⟩⟩⟩⟩⟩ r h _; exact ⟨hm, _, rfl, h⟩
def AV.c2 (v : AV) : Bool := src (fun _ => false) (fun _ => true) v
def xcs : List AV → Nat
  | [] => 0
  | v :: r => brc (Nat.succ (xcs r)) (Nat.succ (Nat.succ (xcs r))) v.c2
def nf (m : Nat) (k : Nat → Res) : Res := nrc (k 0) (fun p => k (Nat.succ p)) m
def nth {α : Type} : List α → Nat → (α → Res) → Res
  | [], _, _ => .bad
  | a :: t, i, k => nrc (k a) (fun j => nth t j k) i
def setC {α : Type} (v : α) : List α → Nat → (List α → Res) → Res
  | [], _, _ => .bad
  | a :: t, i, k => nrc (k (v :: t)) (fun j => setC v t j fun t' => k (a :: t')) i
def snocC {α : Type} (v : α) : List α → Nat → (List α → Nat → Res) → Res
  | [], n, k => k [v] n
  | a :: t, n, k => snocC v t (Nat.succ n) fun t' m => k (a :: t') m
def repC {α : Type} (v : α) : Nat → (List α → Res) → Res
  | 0, k => k []
  | n + 1, k => repC v n fun t => k (v :: t)
def lenC {α : Type} : List α → Nat → (Nat → Res) → Res
  | [], n, k => k n
  | _ :: t, n, k => lenC t (Nat.succ n) k
def hd {α : Type} (S : List α) (k : α → List α → Res) : Res := lrc .bad (fun v r => k v r) S
def mx (a b : Nat) : Nat := brc a b (Nat.ble a b)
def addC (k n f w : Nat) (r : Res) : Res := rrc .bad (fun v A k' n' f' w' => nf (Nat.add k k') fun k => nf (Nat.add n n') fun n => nf (mx f f') fun f => nf (mx w w') fun w => .ok v A k n f w) r
/-! the steps -/
def sg (a : Nat) : Nat := Nat.mod (Nat.add a 2147483648) 4294967296
def cstF (v : AV) (c : Cont) : Cont := fun L S A => c L (v :: S) A
def onI (v : AV) (k : Res) : Res := vrc (fun _ => k) (fun _ => .bad) (fun _ => .bad) .bad (fun _ => .bad) (fun _ => k) (fun _ => .bad) (fun _ => .bad) v
def onJ (v : AV) (k : Res) : Res := vrc (fun _ => .bad) (fun _ => k) (fun _ => .bad) .bad (fun _ => .bad) (fun _ => .bad) (fun _ => k) (fun _ => .bad) v
def onD (v : AV) (k : Res) : Res := vrc (fun _ => .bad) (fun _ => .bad) (fun _ => k) .bad (fun _ => .bad) (fun _ => .bad) (fun _ => .bad) (fun _ => k) v
def onA (v : AV) (k : Res) : Res := vrc (fun _ => .bad) (fun _ => .bad) (fun _ => .bad) k (fun _ => k) (fun _ => .bad) (fun _ => .bad) (fun _ => .bad) v
def on01 (v : AV) (k : Res) : Res := vrc (fun n => brc .bad k (Nat.ble n 1)) (fun _ => .bad) (fun _ => .bad) .bad (fun _ => .bad) (fun _ => .bad) (fun _ => .bad) (fun _ => .bad) v
def ldF (on : AV → Res → Res) (gf : (AS → Res) → LT → Res) (c : Cont) : Cont := fun L S A => gf (fun s => arc (fun v => on v (c L (v :: S) A)) .bad .bad s) L
/-- a store of one word: what stood there before may have been two -/
def st1F (on : AV → Res → Res) (gf : (AS → Res) → LT → Res) (sf s1 sm : AS → (LT → Res) → LT → Res) (c : Cont) : Cont := fun L S A => hd S fun v r => on v
  (gf (fun o => arc (fun q => brc (sf (.val v) (fun L => c L r A) L) (s1 .unset (fun L => sf (.val v) (fun L => c L r A) L) L) q.c2) (sf (.val v) (fun L => c L r A) L) (sm .unset (fun L => sf (.val v) (fun L => c L r A) L) L) o) L)
def st2F (on : AV → Res → Res) (gf g1 : (AS → Res) → LT → Res) (sf s1 : AS → (LT → Res) → LT → Res) (c : Cont) : Cont := fun L S A => hd S fun v r => on v
  (gf (fun o => arc (fun q => brc (g1 (fun o1 => arc (fun q1 => brc (sf (.val v) (fun L => s1 .second (fun L => c L r A) L) L) .bad q1.c2) (sf (.val v) (fun L => s1 .second (fun L => c L r A) L) L) (sf (.val v) (fun L => s1 .second (fun L => c L r A) L) L) o1) L) (sf (.val v) (fun L => s1 .second (fun L => c L r A) L) L) q.c2)
    (g1 (fun o1 => arc (fun q1 => brc (sf (.val v) (fun L => s1 .second (fun L => c L r A) L) L) .bad q1.c2) (sf (.val v) (fun L => s1 .second (fun L => c L r A) L) L) (sf (.val v) (fun L => s1 .second (fun L => c L r A) L) L) o1) L) .bad o) L)
def incF (m : Nat) (gf : (AS → Res) → LT → Res) (sf : AS → (LT → Res) → LT → Res) (c : Cont) : Cont := fun L S A => gf (fun s => arc (fun v => vrc (fun n => nf (Nat.mod (Nat.add n m) 4294967296) fun n => sf (.val (.int n)) (fun L => c L S A) L) (fun _ => .bad) (fun _ => .bad) .bad (fun _ => .bad) (fun _ => .bad) (fun _ => .bad) (fun _ => .bad) v) .bad .bad s) L
section Tabled
variable (T : Tab)
def tabC (o : Nat) (x y : AV) (k : AV → Res) : Res := orc .bad (fun v => k v) (T o x y)
/-- two ints: h of known ones, the table for others -/
def ii (o : Nat) (y x : AV) (h : Nat → Nat → Res) (k : AV → Res) : Res :=
  vrc (fun b => vrc (fun a => h a b) (fun _ => .bad) (fun _ => .bad) .bad (fun _ => .bad) (fun _ => tabC T o x y k) (fun _ => .bad) (fun _ => .bad) x) (fun _ => .bad) (fun _ => .bad) .bad (fun _ => .bad) (fun _ => tabC T o x y k) (fun _ => .bad) (fun _ => .bad) y
def jj (o : Nat) (y x : AV) (h : Nat → Nat → Res) (k : AV → Res) : Res :=
  vrc (fun _ => .bad) (fun b => vrc (fun _ => .bad) (fun a => h a b) (fun _ => .bad) .bad (fun _ => .bad) (fun _ => .bad) (fun _ => tabC T o x y k) (fun _ => .bad) x) (fun _ => .bad) .bad (fun _ => .bad) (fun _ => .bad) (fun _ => tabC T o x y k) (fun _ => .bad) y
def bI (o : Nat) (h : Nat → Nat → Nat) (c : Cont) : Cont := fun L S A => hd S fun y S => hd S fun x r => ii T o y x (fun a b => nf (h a b) fun n => c L (.int n :: r) A) fun v => c L (v :: r) A
def bJ (o : Nat) (h : Nat → Nat → Nat) (c : Cont) : Cont := fun L S A => hd S fun y S => hd S fun x r => jj T o y x (fun a b => nf (h a b) fun n => c L (.long n :: r) A) fun v => c L (v :: r) A
/-- partial ones -/
def bP (o : Nat) (q : Nat → Nat → Bool) (h : Nat → Nat → Nat) (c : Cont) : Cont := fun L S A => hd S fun y S => hd S fun x r => ii T o y x (fun a b => brc .bad (nf (h a b) fun n => c L (.int n :: r) A) (q a b)) fun v => c L (v :: r) A
/-- by the table alone -/
def bT (o : Nat) (c : Cont) : Cont := fun L S A => hd S fun y S => hd S fun x r => tabC T o x y fun v => c L (v :: r) A
def uT (o : Nat) (c : Cont) : Cont := fun L S A => hd S fun x r => tabC T o x .null fun v => c L (v :: r) A
def i2lF (c : Cont) : Cont := fun L S A => hd S fun x r => vrc (fun n => brc .bad (c L (.long n :: r) A) (Nat.blt n 2147483648)) (fun _ => .bad) (fun _ => .bad) .bad (fun _ => .bad) (fun _ => tabC T 33 x .null fun v => c L (v :: r) A) (fun _ => .bad) (fun _ => .bad) x
def l2iF (c : Cont) : Cont := fun L S A => hd S fun x r => vrc (fun _ => .bad) (fun n => nf (Nat.mod n 4294967296) fun n => c L (.int n :: r) A) (fun _ => .bad) .bad (fun _ => .bad) (fun _ => .bad) (fun _ => tabC T 34 x .null fun v => c L (v :: r) A) (fun _ => .bad) x
end Tabled
def hadd (a b : Nat) : Nat := Nat.mod (Nat.add a b) 4294967296
def hsub (a b : Nat) : Nat := Nat.mod (Nat.add (Nat.sub 4294967296 (Nat.mod b 4294967296)) a) 4294967296
def hmul (a b : Nat) : Nat := Nat.mod (Nat.mul a b) 4294967296
def haddL (a b : Nat) : Nat := Nat.mod (Nat.add a b) 18446744073709551616
def hsubL (a b : Nat) : Nat := Nat.mod (Nat.add (Nat.sub 18446744073709551616 (Nat.mod b 18446744073709551616)) a) 18446744073709551616
def hmulL (a b : Nat) : Nat := Nat.mod (Nat.mul a b) 18446744073709551616
def qdiv (a b : Nat) : Bool := and (Nat.blt a 2147483648) (and (Nat.blt 0 b) (Nat.blt b 2147483648))
def qshl (_ b : Nat) : Bool := Nat.blt b 32
def qshr (a b : Nat) : Bool := and (Nat.blt a 2147483648) (Nat.blt b 32)
def hshl (a b : Nat) : Nat := Nat.mod (Nat.shiftLeft a b) 4294967296
def dupF (c : Cont) : Cont := fun L S A => hd S fun x r => brc (c L (x :: x :: r) A) .bad x.c2
def popF (c : Cont) : Cont := fun L S A => hd S fun x r => brc (c L r A) .bad x.c2
def pop2F (c : Cont) : Cont := fun L S A => hd S fun x r => brc .bad (c L r A) x.c2
def dup2F (c : Cont) : Cont := fun L S A => hd S fun x r => brc (hd r fun y r => brc (c L (x :: y :: x :: y :: r) A) .bad y.c2) (c L (x :: x :: r) A) x.c2
def dupX1F (c : Cont) : Cont := fun L S A => hd S fun x S => hd S fun y r => brc (c L (x :: y :: x :: r) A) .bad (or x.c2 y.c2)
def dupX2F (c : Cont) : Cont := fun L S A => hd S fun x S => hd S fun y S => hd S fun z r => brc (c L (x :: y :: z :: x :: r) A) .bad (or x.c2 (or y.c2 z.c2))
/-! branches: there, or on -/
section Branch
variable (T : Tab)
def tabB (o : Nat) (x y : AV) (t f : Res) : Res := orc .bad (fun v => vrc (fun n => brc f t (Nat.beq n 1)) (fun _ => .bad) (fun _ => .bad) .bad (fun _ => .bad) (fun _ => .bad) (fun _ => .bad) (fun _ => .bad) v) (T o x y)
def b0 (o : Nat) (h : Nat → Bool) (t c : Cont) : Cont := fun L S A => hd S fun x r => vrc (fun a => brc (c L r A) (t L r A) (h a)) (fun _ => .bad) (fun _ => .bad) .bad (fun _ => .bad) (fun _ => tabB T o x .null (t L r A) (c L r A)) (fun _ => .bad) (fun _ => .bad) x
def b2 (o : Nat) (h : Nat → Nat → Bool) (t c : Cont) : Cont := fun L S A => hd S fun y S => hd S fun x r =>
  vrc (fun b => vrc (fun a => brc (c L r A) (t L r A) (h a b)) (fun _ => .bad) (fun _ => .bad) .bad (fun _ => .bad) (fun _ => tabB T o x y (t L r A) (c L r A)) (fun _ => .bad) (fun _ => .bad) x) (fun _ => .bad) (fun _ => .bad) .bad (fun _ => .bad) (fun _ => tabB T o x y (t L r A) (c L r A)) (fun _ => .bad) (fun _ => .bad) y
end Branch
def zEq (a : Nat) : Bool := Nat.beq (Nat.mod a 4294967296) 0
def zNe (a : Nat) : Bool := not (zEq a)
def zLt (a : Nat) : Bool := Nat.ble 2147483648 (Nat.mod a 4294967296)
def zGe (a : Nat) : Bool := not (zLt a)
def zGt (a : Nat) : Bool := Nat.blt 2147483648 (sg a)
def zLe (a : Nat) : Bool := not (zGt a)
def cEq (a b : Nat) : Bool := Nat.beq (Nat.mod a 4294967296) (Nat.mod b 4294967296)
def cNe (a b : Nat) : Bool := not (cEq a b)
def cLt (a b : Nat) : Bool := Nat.blt (sg a) (sg b)
def cGe (a b : Nat) : Bool := not (cLt a b)
def cGt (a b : Nat) : Bool := cLt b a
def cLe (a b : Nat) : Bool := not (cLt b a)
def nullF (t c : Cont) : Cont := fun L S A => hd S fun x r => vrc (fun _ => .bad) (fun _ => .bad) (fun _ => .bad) (t L r A) (fun _ => c L r A) (fun _ => .bad) (fun _ => .bad) (fun _ => .bad) x
def acmpF (t c : Cont) : Cont := fun L S A => hd S fun y S => hd S fun x r =>
  vrc (fun _ => .bad) (fun _ => .bad) (fun _ => .bad) (vrc (fun _ => .bad) (fun _ => .bad) (fun _ => .bad) (t L r A) (fun _ => c L r A) (fun _ => .bad) (fun _ => .bad) (fun _ => .bad) x)
    (fun b => vrc (fun _ => .bad) (fun _ => .bad) (fun _ => .bad) (c L r A) (fun a => brc (c L r A) (t L r A) (Nat.beq a b)) (fun _ => .bad) (fun _ => .bad) (fun _ => .bad) x) (fun _ => .bad) (fun _ => .bad) (fun _ => .bad) y
/-! the heap -/
def onR (v : AV) (k : Nat → Res) : Res := vrc (fun _ => .bad) (fun _ => .bad) (fun _ => .bad) .bad (fun a => k a) (fun _ => .bad) (fun _ => .bad) (fun _ => .bad) v
def obj (A : XH) (a : Nat) (k : Nat → List AV → Res) : Res := nth A a fun ob => prc (fun kd vs => k kd vs) ob
def kind (A : XH) (a kd : Nat) (k : List AV → Res) : Res := obj A a fun kd' vs => brc .bad (k vs) (Nat.beq kd' kd)
def tkC {α : Type} : Nat → List α → (List α → Res) → Res
  | 0, _, k => k []
  | n + 1, l, k => hd l fun v t => tkC n t fun r => k (v :: r)
def runC {α : Type} : List α → Nat → List α → (List α → Res) → Res
  | [], _, ws, k => k ws
  | u :: r, p, ws, k => setC u ws p fun ws' => runC r (Nat.succ p) ws' k
section Heap
variable (T : Tab)
def idx1 (n : Nat) (k : Nat → Res) : Res := brc .bad (k n) (Nat.blt n 2147483648)
def idx (j : AV) (k : Nat → Res) : Res := vrc (fun n => idx1 n k) (fun _ => .bad) (fun _ => .bad) .bad (fun _ => .bad) (fun m => tabC T 60 (.si m) .null fun v => vrc (fun n => idx1 n k) (fun _ => .bad) (fun _ => .bad) .bad (fun _ => .bad) (fun _ => .bad) (fun _ => .bad) (fun _ => .bad) v) (fun _ => .bad) (fun _ => .bad) j
def alF (kd : Nat) (c : Cont) : Cont := fun L S A => hd S fun j S => hd S fun a r => onR a fun a => idx T j fun n => kind A a kd fun vs => nth vs n fun v => c L (v :: r) A
def asF (k0 kd : Nat) (on : AV → Res → Res) (c : Cont) : Cont := fun L S A => hd S fun v S => hd S fun j S => hd S fun a r => onR a fun a => on v (brc .bad (idx T j fun n => kind A a kd fun vs => setC v vs n fun vs' => setC (kd, vs') A a fun A' => c L r A') (Nat.ble k0 a))
def newaF (kd : Nat) (v : AV) (c : Cont) : Cont := fun L S A => hd S fun j r => idx T j fun n => brc .bad (repC v n fun vs => snocC (kd, vs) A 0 fun A' a => addC 1 n 0 0 (c L (.ref a :: r) A')) (Nat.ble n 67108864)
def ext1F (o f w : Nat) (c : Cont) : Cont := fun L S A => hd S fun x r => tabC T o x .null fun v => addC 0 0 f (Nat.add (xcs r) w) (c L (v :: r) A)
def acpF (k0 : Nat) (c : Cont) : Cont := fun L S A => hd S fun n S => hd S fun dp S => hd S fun d S => hd S fun sp S => hd S fun a r => onR d fun d => onR a fun a => idx T n fun n => idx T dp fun dp => idx T sp fun sp =>
  obj A a fun kd vs => brc .bad (kind A d kd fun ws => lenC ws 0 fun l => lenC vs 0 fun lv => brc .bad (tkC n (vs.drop sp) fun us => runC us dp ws fun ws' => setC (kd, ws') A d fun A' => addC 0 0 1 (Nat.add (xcs r) 18) (c L r A')) (and (Nat.ble (Nat.add dp n) l) (Nat.ble (Nat.add sp n) lv))) (and (Nat.ble kd 2) (Nat.ble k0 d))
end Heap
def alenF (c : Cont) : Cont := fun L S A => hd S fun a r => onR a fun a => obj A a fun kd vs => brc .bad (lenC vs 0 fun n => idx1 n fun n => c L (.int n :: r) A) (Nat.ble kd 4)
def getF (kd j : Nat) (c : Cont) : Cont := fun L S A => hd S fun a r => onR a fun a => kind A a kd fun vs => nth vs j fun v => c L (v :: r) A
def putF (k0 kd j : Nat) (on : AV → Res → Res) (c : Cont) : Cont := fun L S A => hd S fun v S => hd S fun a r => onR a fun a => on v (brc .bad (kind A a kd fun vs => setC v vs j fun vs' => setC (kd, vs') A a fun A' => c L r A') (Nat.ble k0 a))
def newF (kd sz : Nat) (vs : List AV) (c : Cont) : Cont := fun L S A => snocC (kd, vs) A 0 fun A' a => addC 1 sz 0 0 (c L (.ref a :: S) A')
def cloneF (kd : Nat) (c : Cont) : Cont := fun L S A => hd S fun a r => onR a fun a => kind A a kd fun vs => snocC (kd, vs) A 0 fun A' m => lenC vs 0 fun n => addC 1 n 1 (Nat.add (xcs r) 14) (c L (.ref m :: r) A')
def castF (ks : Nat → Bool) (c : Cont) : Cont := fun L S A => hd S fun x r => vrc (fun _ => .bad) (fun _ => .bad) (fun _ => .bad) .bad (fun a => obj A a fun kd _ => brc .bad (c L S A) (ks kd)) (fun _ => .bad) (fun _ => .bad) (fun _ => .bad) x
def oinitF (c : Cont) : Cont := fun L S A => hd S fun a r => onR a fun _ => addC 0 0 1 (Nat.add (xcs r) 12) (c L r A)
/-! calls and returns -/
def back (w : Nat) (L : LT) (r : List AV) (c : Cont) (x : Res) : Res := rrc .bad (fun v A' k n f w' => addC k n (Nat.succ f) (Nat.add w w') (orc (c L r A') (fun u => c L (u :: r) A') v)) x
/-- b: the body, ml: its locals, P: how its arguments lie, m: their making -/
def callF (R : Cal) (b ml : Nat) (r : List AV) (L : LT) (A : XH) (c : Cont) (L' : LT) : Res := back (Nat.add (xcs r) (Nat.add ml 11)) L r c (R b L' A)
def w1 (v : AV) (k : Res) : Res := brc k .bad v.c2
def w2 (v : AV) (k : Res) : Res := brc .bad k v.c2
def retF (on : AV → Res → Res) : Cont := fun L S A => hd S fun v _ => on v (.ok (some v) A 0 0 0 0)
def xretV : Cont := fun L S A => lrc (.ok none A 0 0 0 0) (fun _ _ => .bad) S
def stop : Cont := fun _ _ _ => .bad
def xrun (B : Cal → Nat → Jmp → Nat → Cont) : Nat → Nat → Jmp
  | 0, _, _ => fun _ _ _ => .bad
  | n + 1, M, pc => B (fun b L A => xrun B n b 0 L [] A) M (xrun B n M) pc
/-- it returns 1, within its room -/
def xok (K N F W : Nat) (r : Res) : Bool := rrc false (fun v _ k m f w => orc false (fun v => vrc (fun n => and (Nat.beq n 1) (and (Nat.ble k K) (and (Nat.ble m N) (and (Nat.ble f F) (Nat.ble w W))))) (fun _ => false) (fun _ => false) false (fun _ => false) (fun _ => false) (fun _ => false) (fun _ => false) v) v) r
/-! what the fast machine reckons is what the interpreter reckons -/
abbrev Rho : Type := (Nat → Int32) × (Nat → Int64) × (Nat → UInt64)
section Sim
variable (ρ : Rho)
def av (v : AV) : Value := vrc (fun n => .int (Int32.ofNat n)) (fun n => .long (Int64.ofNat n)) (fun n => .double (UInt64.ofNat n)) .null (fun n => .ref n) (fun n => .int (ρ.1 n)) (fun n => .long (ρ.2.1 n)) (fun n => .double (ρ.2.2 n)) v
def avs (s : AS) : Slot := arc (fun v => .val (av ρ v)) .unset .second s
theorem av_int (n : Nat) : av ρ (.int n) = .int (Int32.ofNat n) := rfl
theorem av_si (n : Nat) : av ρ (.si n) = .int (ρ.1 n) := rfl
theorem avs_val (v : AV) : avs ρ (.val v) = .val (av ρ v) := rfl
theorem avs_unset : avs ρ .unset = .unset := rfl
theorem avs_second : avs ρ .second = .second := rfl
def avL (ml : Nat) (L : LT) : List Slot := ((flat L).take ml).map (avs ρ)
def avS (S : List AV) : List Value := S.map (av ρ)
def avO (o : XO) : Own.Obj := (o.1, avS ρ o.2)
def avA (A : XH) : Own.AH := A.map (avO ρ)
variable (E : Own.EV)
/-- the piece, from pc on, reckons as the interpreter does -/
def Sim (M pc : Nat) (c : Cont) : Prop := ∀ L S A v A' k n f w, c L S A = .ok v A' k n f w →
  ∃ N, ∀ fuel, N ≤ fuel → Own.run E fuel M pc (avL ρ (E.2.1 M) L) (avS ρ S) (avA ρ A) none = some ([], none, v.map (av ρ), avA ρ A', k, n, f, w)
def opI : Nat → Instr
  | 0 => .iadd | 1 => .isub | 2 => .imul | 3 => .iand | 4 => .ior | 5 => .ixor | 6 => .ishl | 7 => .ishr | 8 => .iushr
  | 10 => .ladd | 11 => .lsub | 12 => .lmul | 13 => .land | 14 => .lor | 15 => .lxor | 16 => .lshl | 17 => .lshr | 18 => .lushr | 19 => .lcmp | 20 => .dcmp .l | 21 => .dcmp .g
  | 22 => .idiv | 23 => .irem | 24 => .ldiv | 25 => .lrem | 26 => .dadd | 27 => .dsub | 28 => .dmul | 29 => .ddiv
  | 30 => .ineg | 31 => .lneg | 32 => .dneg | 33 => .i2l | 34 => .l2i | 35 => .i2b | 36 => .i2c | 37 => .i2s | 38 => .i2d | 39 => .l2d | 40 => .d2i | 41 => .d2l
  | _ => .nop
def cdI : Nat → ClassFile.Cond
  | 0 => .eq | 1 => .ne | 2 => .lt | 3 => .ge | 4 => .gt | _ => .le
def dv : Nat → UInt64 → UInt64 → UInt64
  | 26, x, y => FP.dadd x y
  | 27, x, y => FP.dsub x y
  | 28, x, y => FP.dmul x y
  | _, x, y => FP.ddiv x y
/-- what the table's rows must say: of a number the operation, its two operands -/
def sem (o : Nat) (x y : Value) : Option Value :=
  if o < 22 then Own.bin (opI o) x y
  else if o < 26 then (match o, x, y with
    | 22, .int x, .int y => if y ≠ 0 then some (.int (x / y)) else none
    | 23, .int x, .int y => if y ≠ 0 then some (.int (x % y)) else none
    | 24, .long x, .long y => if y ≠ 0 then some (.long (x / y)) else none
    | 25, .long x, .long y => if y ≠ 0 then some (.long (x - (x / y) * y)) else none
    | _, _, _ => none)
  else if o < 30 then (match x, y with
    | .double x, .double y => if FP.dIsNaN (dv o x y) = false then some (.double (dv o x y)) else none
    | _, _ => none)
  else if o < 42 then Own.un (opI o) x
  else if o < 48 then (match x with
    | .int x => some (.int (if ifCond.holds (cdI (o - 42)) x then 1 else 0))
    | _ => none)
  else if o < 54 then (match x, y with
    | .int x, .int y => some (.int (if if_icmp.holds (cdI (o - 48)) x y then 1 else 0))
    | _, _ => none)
  else if o = 60 then some x
  else if 100 ≤ o then (match E.2.2.2.2.1 (o - 100) [x] with
    | some (true, v) => some v
    | _ => none)
  else none
def TOk (T : Tab) : Prop := ∀ o x y v, T o x y = some v → sem E o (av ρ x) (av ρ y) = some (av ρ v)
variable {ρ E} {T : Tab} {M pc : Nat} {c t : Cont}
/-! small things -/
theorem hd_ok {α : Type} {S : List α} {k : α → List α → Res} {r : Res} (h : hd S k = r) (hr : r ≠ .bad) : ∃ v t, S = v :: t ∧ k v t = r := by
  cases S with
  | nil => exact absurd h.symm hr
  | cons v t => exact ⟨v, t, rfl, h⟩
theorem nth_ok {α : Type} {l : List α} {i : Nat} {k : α → Res} {r : Res} (h : nth l i k = r) (hr : r ≠ .bad) : ∃ a, l[i]? = some a ∧ k a = r := by
  induction l generalizing i with
  | nil => exact absurd h.symm hr
  | cons a t ih =>
    cases i with
    | zero => exact ⟨a, rfl, h⟩
    | succ j =>
      obtain ⟨b, q1, q2⟩ := ih (i := j) h
      exact ⟨b, by simpa using q1, q2⟩
theorem setC_ok {α : Type} {v : α} {l : List α} {i : Nat} {k : List α → Res} {r : Res} (h : setC v l i k = r) (hr : r ≠ .bad) : i < l.length ∧ k (l.set i v) = r := by
  induction l generalizing i k with
  | nil => exact absurd h.symm hr
  | cons a t ih =>
    cases i with
    | zero => exact ⟨by simp, h⟩
    | succ j =>
      obtain ⟨q1, q2⟩ := ih (k := fun t' => k (a :: t')) h
      exact ⟨by simpa using q1, q2⟩
theorem snocC_eq {α : Type} (v : α) (l : List α) (n : Nat) (k : List α → Nat → Res) : snocC v l n k = k (l ++ [v]) (n + l.length) := by
  induction l generalizing n k with
  | nil => rfl
  | cons a t ih =>
    show snocC v t (Nat.succ n) (fun t' m => k (a :: t') m) = _
    rw [ih]
    simp only [List.cons_append, List.length_cons]
    congr 1
    omega
theorem repC_eq {α : Type} (v : α) (n : Nat) (k : List α → Res) : repC v n k = k (List.replicate n v) := by
  induction n generalizing k with
  | zero => rfl
  | succ n ih =>
    show repC v n (fun t => k (v :: t)) = _
    rw [ih]; rfl
theorem lenC_eq {α : Type} (l : List α) (n : Nat) (k : Nat → Res) : lenC l n k = k (n + l.length) := by
  induction l generalizing n with
  | nil => rfl
  | cons a t ih =>
    show lenC t (Nat.succ n) k = _
    rw [ih]
    simp only [List.length_cons]
    congr 1
    omega
theorem nf_eq (m : Nat) (k : Nat → Res) : nf m k = k m := by cases m <;> rfl
theorem mx_eq (a b : Nat) : mx a b = max a b := by
  unfold mx
  cases h : Nat.ble a b with
  | true =>
    have := Nat.le_of_ble_eq_true h
    show b = max a b
    omega
  | false =>
    have : ¬ a ≤ b := fun q => by rw [Nat.ble_eq_true_of_le q] at h; cases h
    show a = max a b
    omega
theorem AS.dest (s : AS) : s = .unset ∨ s = .second ∨ ∃ v, s = .val v := by
  rcases s with _ | _ | v
  · exact Or.inl rfl
  · exact Or.inr (Or.inl rfl)
  · exact Or.inr (Or.inr ⟨v, rfl⟩)
theorem val_inj {v v' : AV} (h : (some (AS.val v) : Option AS) = some (.val v')) : v = v' := by
  have h : (some (some (some v)) : Option (Option (Option AV))) = some (some (some v')) := h
  simpa using h
theorem unset_val {v : AV} (h : (some AS.unset : Option AS) = some (.val v)) : False := by
  have h : (some none : Option (Option (Option AV))) = some (some (some v)) := h
  simp at h
theorem second_val {v : AV} (h : (some AS.second : Option AS) = some (.val v)) : False := by
  have h : (some (some none) : Option (Option (Option AV))) = some (some (some v)) := h
  simp at h
theorem Res.dest (x : Res) : x = .bad ∨ ∃ v A k n f w, x = .ok v A k n f w := by
  rcases x with _ | ⟨v, A, k, n, f, w⟩
  · exact Or.inl rfl
  · exact Or.inr ⟨v, A, k, n, f, w, rfl⟩
theorem ok_inj {v v' : Option AV} {A A' : XH} {k k' n n' f f' w w' : Nat} (h : Res.ok v A k n f w = Res.ok v' A' k' n' f' w') : v = v' ∧ A = A' ∧ k = k' ∧ n = n' ∧ f = f' ∧ w = w' := by
  have h : (some (v, A, k, n, f, w) : Option (Option AV × XH × Nat × Nat × Nat × Nat)) = some (v', A', k', n', f', w') := h
  simpa using h
theorem addC_ok {k1 n1 f1 w1 : Nat} {x : Res} {v : Option AV} {A' : XH} {k n f w : Nat} (h : addC k1 n1 f1 w1 x = .ok v A' k n f w) : ∃ k2 n2 f2 w2, x = .ok v A' k2 n2 f2 w2 ∧ k = k1 + k2 ∧ n = n1 + n2 ∧ f = max f1 f2 ∧ w = max w1 w2 := by
  rcases x.dest with rfl | ⟨v', A2, k2, n2, f2, w2, rfl⟩
  · cases h
  · have h : (nf (Nat.add k1 k2) fun k => nf (Nat.add n1 n2) fun n => nf (mx f1 f2) fun f => nf (mx w1 w2) fun w => Res.ok v' A2 k n f w) = _ := h
    simp only [nf_eq, mx_eq] at h
    obtain ⟨rfl, rfl, rfl, rfl, rfl, rfl⟩ := ok_inj h
    exact ⟨k2, n2, f2, w2, rfl, rfl, rfl, rfl, rfl⟩
theorem c2_cat (v : AV) : (av ρ v).category = if v.c2 then 2 else 1 := by rcases v with ((_ | _) | (_ | _)) | ((_ | _) | (_ | _)) <;> rfl
theorem xcs_eq (S : List AV) : Own.csum (avS ρ S) = xcs S := by
  induction S with
  | nil => rfl
  | cons v r ih =>
    show (av ρ v).category + Own.csum (avS ρ r) = brc (Nat.succ (xcs r)) (Nat.succ (Nat.succ (xcs r))) v.c2
    rw [ih, c2_cat]
    cases v.c2 <;> simp [brc] <;> omega
theorem bad_ne {v : Option AV} {A' : XH} {k n f w : Nat} : Res.ok v A' k n f w ≠ .bad := by intro h; cases h
theorem brec_ok {b : Bool} {x y r : Res} (h : brc x y b = r) : (b = false ∧ x = r) ∨ (b = true ∧ y = r) := by
  cases b
  · exact Or.inl ⟨rfl, h⟩
  · exact Or.inr ⟨rfl, h⟩
theorem brec_t {b : Bool} {y r : Res} (h : brc .bad y b = r) (hr : r ≠ .bad) : b = true ∧ y = r := by
  rcases brec_ok h with ⟨-, q⟩ | q
  · exact absurd q.symm hr
  · exact q
theorem brec_f {b : Bool} {x r : Res} (h : brc x .bad b = r) (hr : r ≠ .bad) : b = false ∧ x = r := by
  rcases brec_ok h with q | ⟨-, q⟩
  · exact q
  · exact absurd q.symm hr
/-! a step of the interpreter -/
theorem sim_step {i : Instr} {nums : List Nat} {val : Value} {c' : Cont} (hE : E.1 M pc = some (i, none, nums, val)) (hs : Own.sort i nums = 2)
    (h : ∀ L S A v A' k n f w, c' L S A = .ok v A' k n f w → ∃ pc1 c1 L1 S1 A1 k1 n1 f1 w1 k2 n2 f2 w2, Sim ρ E M pc1 c1 ∧ Own.step E i nums val none pc (avL ρ (E.2.1 M) L) (avS ρ S) (avA ρ A) = some ([], none, pc1, avL ρ (E.2.1 M) L1, avS ρ S1, avA ρ A1, k1, n1, f1, w1) ∧ c1 L1 S1 A1 = .ok v A' k2 n2 f2 w2 ∧ k = k1 + k2 ∧ n = n1 + n2 ∧ f = max f1 f2 ∧ w = max w1 w2) : Sim ρ E M pc c' := by
  intro L S A v A' k n f w hc
  obtain ⟨pc1, c1, L1, S1, A1, k1, n1, f1, w1, k2, n2, f2, w2, hS, h1, h2, rfl, rfl, rfl, rfl⟩ := h L S A v A' k n f w hc
  obtain ⟨N, hN⟩ := hS L1 S1 A1 v A' k2 n2 f2 w2 h2
  refine ⟨N + 1, fun fuel hf => ?_⟩
  obtain ⟨m, rfl⟩ : ∃ m, fuel = m + 1 := ⟨fuel - 1, by omega⟩
  have hm := hN m (by omega)
  rw [Own.run]
  simp only [hE, Own.pinS, hs, Own.stepC, h1, Own.forceN_eq, hm, List.nil_append]
/-- one that writes nothing -/
theorem sim_p {i : Instr} {c' : Cont} {l : Nat} (hE : E.1 M pc = some (i, none, [], .null)) (hs : Own.sort i [] = 2) (hp : Own.isPure i = true) (hc : Sim ρ E M (pc + l) c)
    (h : ∀ L S A r, c' L S A = r → r ≠ .bad → ∃ L1 S1, c L1 S1 A = r ∧ Own.pstep i none pc (avL ρ (E.2.1 M) L) (avS ρ S) = some ([], none, pc + l, avL ρ (E.2.1 M) L1, avS ρ S1)) : Sim ρ E M pc c' := by
  refine sim_step hE hs fun L S A v A' k n f w hq => ?_
  obtain ⟨L1, S1, h1, h2⟩ := h L S A _ hq bad_ne
  exact ⟨_, c, L1, S1, A, 0, 0, 0, 0, k, n, f, w, hc, by simp only [Own.step, hp, h2], h1, by omega, by omega, by omega, by omega⟩
/-! numbers, loads and stores -/
theorem avL_get {ml i : Nat} {L : LT} {s : AS} (h : (flat L)[i]? = some s) (hi : i < ml) : (avL ρ ml L)[i]? = some (avs ρ s) := by
  unfold avL
  rw [List.getElem?_map, List.getElem?_take, if_pos hi, h]
  rfl
theorem avL_set {ml i : Nat} {L L' : LT} {s : AS} (h : flat L' = (flat L).set i s) : avL ρ ml L' = (avL ρ ml L).set i (avs ρ s) := by
  unfold avL
  rw [h, List.take_set, List.map_set]
theorem avL_len {ml i : Nat} {L : LT} (hi : i < ml) (h32 : i < 32) : i < (avL ρ ml L).length := by
  unfold avL
  rw [List.length_map, List.length_take, show (flat L).length = 32 from rfl]
  omega
theorem flat_lt {L : LT} {i : Nat} {s : AS} (h : (flat L)[i]? = some s) : i < 32 := (List.getElem?_eq_some_iff.mp h).1
theorem onI_ok {v : AV} {k r : Res} (h : onI v k = r) (hr : r ≠ .bad) : (∃ x, av ρ v = .int x) ∧ v.c2 = false ∧ k = r := by
  rcases v with ((_ | _) | (_ | _)) | ((_ | _) | (_ | _)) <;> first | exact ⟨⟨_, rfl⟩, rfl, h⟩ | exact absurd h.symm hr
theorem onJ_ok {v : AV} {k r : Res} (h : onJ v k = r) (hr : r ≠ .bad) : (∃ x, av ρ v = .long x) ∧ v.c2 = true ∧ k = r := by
  rcases v with ((_ | _) | (_ | _)) | ((_ | _) | (_ | _)) <;> first | exact ⟨⟨_, rfl⟩, rfl, h⟩ | exact absurd h.symm hr
theorem onD_ok {v : AV} {k r : Res} (h : onD v k = r) (hr : r ≠ .bad) : (∃ x, av ρ v = .double x) ∧ v.c2 = true ∧ k = r := by
  rcases v with ((_ | _) | (_ | _)) | ((_ | _) | (_ | _)) <;> first | exact ⟨⟨_, rfl⟩, rfl, h⟩ | exact absurd h.symm hr
theorem onA_ok {v : AV} {k r : Res} (h : onA v k = r) (hr : r ≠ .bad) : ((∃ x, av ρ v = .ref x) ∨ av ρ v = .null) ∧ v.c2 = false ∧ k = r := by
  rcases v with ((_ | _) | (_ | _)) | ((_ | _) | (_ | _)) <;> first | exact ⟨Or.inl ⟨_, rfl⟩, rfl, h⟩ | exact ⟨Or.inr rfl, rfl, h⟩ | exact absurd h.symm hr
theorem ble1 {n : Nat} (h : Nat.ble n 1 = true) : n = 0 ∨ n = 1 := by have := Nat.le_of_ble_eq_true h; omega
theorem on01_ok {v : AV} {k r : Res} (h : on01 v k = r) (hr : r ≠ .bad) : (v = .int 0 ∨ v = .int 1) ∧ k = r := by
  rcases v with ((_ | _) | (_ | _)) | ((_ | _) | (_ | _)) <;> first | exact absurd h.symm hr | skip
  rename_i n
  obtain ⟨q1, q2⟩ := brec_t h hr
  rcases ble1 q1 with rfl | rfl
  · exact ⟨Or.inl rfl, q2⟩
  · exact ⟨Or.inr rfl, q2⟩
/-- what a load or a store asks of its value -/
def OnL (ρ : Rho) (i : Instr) (on : AV → Res → Res) : Prop := ∀ v k r, on v k = r → r ≠ .bad → Own.ldok i (av ρ v) = true ∧ k = r
def OnS (ρ : Rho) (i : Instr) (two : Bool) (on : AV → Res → Res) : Prop := ∀ v k r, on v k = r → r ≠ .bad → Own.stok i (av ρ v) = true ∧ v.c2 = two ∧ k = r
theorem ld_gen {i : Instr} {j p l : Nat} {on : AV → Res → Res} {gf : (AS → Res) → LT → Res} (hg : GOk (E.2.1 M) j gf) (hq : OnL ρ i on) (hj : Own.ldi i = j) (hl : Own.ilen i = l) (hp : ∀ L S, Own.pstep i none pc L S = Own.pL i none pc L S) (hs : Own.sort i [] = 2) (hu : Own.isPure i = true)
    (hE : E.1 M pc = some (i, none, [], .null)) (hn : pc + l = p) (hc : Sim ρ E M p c) : Sim ρ E M pc (ldF on gf c) := by
  subst hn
  refine sim_p hE hs hu hc fun L S A r h hr => ?_
  obtain ⟨g1, s, g2, g3⟩ := hg _ L r h hr
  rcases s with _ | _ | v
  · exact absurd g3.symm hr
  · exact absurd g3.symm hr
  · obtain ⟨q1, q2⟩ := hq v _ r g3 hr
    refine ⟨L, v :: S, q2, ?_⟩
    rw [hp]
    unfold Own.pL
    rw [hj, avL_get g2 g1]
    show (if Own.ldok i (av ρ v) = true then _ else _) = _
    rw [if_pos q1, hl]
    rfl
theorem ldI_on (i : Instr) (h : ∀ x, Own.ldok i (.int x) = true) : OnL ρ i onI := fun v k r q hr => by obtain ⟨⟨x, e⟩, -, q⟩ := onI_ok (ρ := ρ) q hr; exact ⟨by rw [e]; exact h x, q⟩
theorem ldJ_on (i : Instr) (h : ∀ x, Own.ldok i (.long x) = true) : OnL ρ i onJ := fun v k r q hr => by obtain ⟨⟨x, e⟩, -, q⟩ := onJ_ok (ρ := ρ) q hr; exact ⟨by rw [e]; exact h x, q⟩
theorem ldD_on (i : Instr) (h : ∀ x, Own.ldok i (.double x) = true) : OnL ρ i onD := fun v k r q hr => by obtain ⟨⟨x, e⟩, -, q⟩ := onD_ok (ρ := ρ) q hr; exact ⟨by rw [e]; exact h x, q⟩
theorem ldA_on (i : Instr) (h : ∀ x, Own.ldok i (.ref x) = true) (h0 : Own.ldok i .null = true) : OnL ρ i onA := fun v k r q hr => by
  obtain ⟨e, -, q⟩ := onA_ok (ρ := ρ) q hr
  rcases e with ⟨x, e⟩ | e
  · exact ⟨by rw [e]; exact h x, q⟩
  · exact ⟨by rw [e]; exact h0, q⟩
theorem ldI_ok {j : Nat} {p : Nat} {gf : (AS → Res) → LT → Res} (hg : GOk (E.2.1 M) j gf) (hE : E.1 M pc = some (.iload j, none, [], .null)) (hn : pc + 2 = p) (hc : Sim ρ E M p c) : Sim ρ E M pc (ldF onI gf c) :=
  ld_gen hg (ldI_on _ fun _ => rfl) rfl rfl (fun _ _ => rfl) rfl rfl hE hn hc
theorem ldI_n_ok {j : Fin 4} {p : Nat} {gf : (AS → Res) → LT → Res} (hg : GOk (E.2.1 M) j.val gf) (hE : E.1 M pc = some (.iload_n j, none, [], .null)) (hn : pc + 1 = p) (hc : Sim ρ E M p c) : Sim ρ E M pc (ldF onI gf c) :=
  ld_gen hg (ldI_on _ fun _ => rfl) rfl rfl (fun _ _ => rfl) rfl rfl hE hn hc
theorem ldJ_ok {j : Nat} {p : Nat} {gf : (AS → Res) → LT → Res} (hg : GOk (E.2.1 M) j gf) (hE : E.1 M pc = some (.lload j, none, [], .null)) (hn : pc + 2 = p) (hc : Sim ρ E M p c) : Sim ρ E M pc (ldF onJ gf c) :=
  ld_gen hg (ldJ_on _ fun _ => rfl) rfl rfl (fun _ _ => rfl) rfl rfl hE hn hc
theorem ldJ_n_ok {j : Fin 4} {p : Nat} {gf : (AS → Res) → LT → Res} (hg : GOk (E.2.1 M) j.val gf) (hE : E.1 M pc = some (.lload_n j, none, [], .null)) (hn : pc + 1 = p) (hc : Sim ρ E M p c) : Sim ρ E M pc (ldF onJ gf c) :=
  ld_gen hg (ldJ_on _ fun _ => rfl) rfl rfl (fun _ _ => rfl) rfl rfl hE hn hc
theorem ldD_ok {j : Nat} {p : Nat} {gf : (AS → Res) → LT → Res} (hg : GOk (E.2.1 M) j gf) (hE : E.1 M pc = some (.dload j, none, [], .null)) (hn : pc + 2 = p) (hc : Sim ρ E M p c) : Sim ρ E M pc (ldF onD gf c) :=
  ld_gen hg (ldD_on _ fun _ => rfl) rfl rfl (fun _ _ => rfl) rfl rfl hE hn hc
theorem ldD_n_ok {j : Fin 4} {p : Nat} {gf : (AS → Res) → LT → Res} (hg : GOk (E.2.1 M) j.val gf) (hE : E.1 M pc = some (.dload_n j, none, [], .null)) (hn : pc + 1 = p) (hc : Sim ρ E M p c) : Sim ρ E M pc (ldF onD gf c) :=
  ld_gen hg (ldD_on _ fun _ => rfl) rfl rfl (fun _ _ => rfl) rfl rfl hE hn hc
theorem ldA_ok {j : Nat} {p : Nat} {gf : (AS → Res) → LT → Res} (hg : GOk (E.2.1 M) j gf) (hE : E.1 M pc = some (.aload j, none, [], .null)) (hn : pc + 2 = p) (hc : Sim ρ E M p c) : Sim ρ E M pc (ldF onA gf c) :=
  ld_gen hg (ldA_on _ (fun _ => rfl) rfl) rfl rfl (fun _ _ => rfl) rfl rfl hE hn hc
theorem ldA_n_ok {j : Fin 4} {p : Nat} {gf : (AS → Res) → LT → Res} (hg : GOk (E.2.1 M) j.val gf) (hE : E.1 M pc = some (.aload_n j, none, [], .null)) (hn : pc + 1 = p) (hc : Sim ρ E M p c) : Sim ρ E M pc (ldF onA gf c) :=
  ld_gen hg (ldA_on _ (fun _ => rfl) rfl) rfl rfl (fun _ _ => rfl) rfl rfl hE hn hc
theorem setL_avL {ml i : Nat} {L L' : LT} {s : AS} (h32 : i < 32) (hi : i < ml) (h : flat L' = (flat L).set i s) : Own.setL (avL ρ ml L) i (avs ρ s) = some (avL ρ ml L') := by
  unfold Own.setL
  rw [if_pos (avL_len hi h32), avL_set h]
theorem stSelf1 {ml i : Nat} {L L' : LT} {v : AV} (h32 : i < 32) (hi : i < ml) (hv : v.c2 = false) (h : flat L' = (flat L).set i (.val v)) : Own.stSelf (avL ρ ml L) i (av ρ v) = some (avL ρ ml L') := by
  unfold Own.stSelf
  rw [show (Slot.val (av ρ v)) = avs ρ (.val v) from rfl, setL_avL h32 hi h, Option.bind_some, if_neg (by rw [c2_cat, hv]; decide)]
theorem set_lt32 {ml i : Nat} {sf : AS → (LT → Res) → LT → Res} (L : LT) (L' : LT) (v : AS) (h : flat L' = (flat L).set i v) (hne : i < 32) : i < 32 := hne
theorem st1_gen {i : Instr} {j p l : Nat} {on : AV → Res → Res} {gf : (AS → Res) → LT → Res} {sf s1 sm : AS → (LT → Res) → LT → Res} (hg : GOk (E.2.1 M) j gf) (hsf : SOk (E.2.1 M) j sf) (hs1 : SOk (E.2.1 M) (j + 1) s1) (hsm : SOk (E.2.1 M) (j - 1) sm) (h32 : j + 1 < 32) (hq : OnS ρ i false on) (hj : Own.sti i = j) (hl : Own.ilen i = l)
    (hp : ∀ L S, Own.pstep i none pc L S = Own.pS i none pc L S) (hs : Own.sort i [] = 2) (hu : Own.isPure i = true) (hE : E.1 M pc = some (i, none, [], .null)) (hn : pc + l = p) (hc : Sim ρ E M p c) : Sim ρ E M pc (st1F on gf sf s1 sm c) := by
  subst hn
  refine sim_p hE hs hu hc fun L S A r h hr => ?_
  obtain ⟨v, t, rfl, h⟩ := hd_ok h hr
  obtain ⟨q1, q2, h⟩ := hq v _ r h hr
  obtain ⟨g1, s, g2, h⟩ := hg _ L r h hr
  have key : ∀ L', Own.stL (avL ρ (E.2.1 M) L) j (av ρ v) = some (avL ρ (E.2.1 M) L') → Own.pstep i none pc (avL ρ (E.2.1 M) L) (avS ρ (v :: t)) = some ([], none, pc + l, avL ρ (E.2.1 M) L', avS ρ t) := by
    intro L' e
    rw [hp]
    show Own.pS i none pc _ (av ρ v :: avS ρ t) = _
    unfold Own.pS
    simp only [q1, if_true, hj, e, Own.forceL_eq, hl]
  rcases s.dest with rfl | rfl | ⟨q, rfl⟩
  · obtain ⟨-, L', e1, e2⟩ := hsf _ _ L r h hr
    refine ⟨L', t, e2, key L' ?_⟩
    unfold Own.stL
    rw [avL_get g2 g1]
    exact stSelf1 (by omega) g1 q2 e1
  · obtain ⟨a1, L1, a2, h⟩ := hsm _ _ L r h hr
    obtain ⟨-, L', e1, e2⟩ := hsf _ _ L1 r h hr
    refine ⟨L', t, e2, key L' ?_⟩
    unfold Own.stL
    rw [avL_get g2 g1]
    simp only [avs_unset, avs_second, avs_val]
    rw [show Slot.unset = avs ρ .unset from rfl, setL_avL (by omega) a1 a2, Option.bind_some]
    exact stSelf1 (by omega) g1 q2 e1
  · rcases brec_ok h with ⟨c1, h⟩ | ⟨c1, h⟩
    · obtain ⟨-, L', e1, e2⟩ := hsf _ _ L r h hr
      refine ⟨L', t, e2, key L' ?_⟩
      unfold Own.stL
      rw [avL_get g2 g1]
      simp only [avs_unset, avs_second, avs_val]
      rw [if_neg (by rw [c2_cat, c1]; decide)]
      exact stSelf1 (by omega) g1 q2 e1
    · obtain ⟨a1, L1, a2, h⟩ := hs1 _ _ L r h hr
      obtain ⟨-, L', e1, e2⟩ := hsf _ _ L1 r h hr
      refine ⟨L', t, e2, key L' ?_⟩
      unfold Own.stL
      rw [avL_get g2 g1]
      simp only [avs_unset, avs_second, avs_val]
      rw [if_pos (by rw [c2_cat, c1]; rfl), show Slot.unset = avs ρ .unset from rfl, setL_avL (by omega) a1 a2, Option.bind_some]
      exact stSelf1 (by omega) g1 q2 e1
theorem stSelf2 {ml i : Nat} {L L1 L' : LT} {v : AV} (h32 : i + 1 < 32) (hi : i + 1 < ml) (hv : v.c2 = true) (h1 : flat L1 = (flat L).set i (.val v)) (h2 : flat L' = (flat L1).set (i + 1) .second) (ho : ∀ q, (flat L)[i + 1]? = some (.val q) → q.c2 = false) : Own.stSelf (avL ρ ml L) i (av ρ v) = some (avL ρ ml L') := by
  unfold Own.stSelf
  rw [show (Slot.val (av ρ v)) = avs ρ (.val v) from rfl, setL_avL (by omega) (by omega) h1, Option.bind_some, if_pos (by rw [c2_cat, hv]; rfl)]
  have hlen : i + 1 < (flat L).length := by rw [show (flat L).length = 32 from rfl]; omega
  have e : (flat L1)[i + 1]? = some (flat L)[i + 1] := by rw [h1, List.getElem?_set_ne (by omega), List.getElem?_eq_getElem hlen]
  have e2 : (flat L)[i + 1]? = some (flat L)[i + 1] := List.getElem?_eq_getElem hlen
  rw [avL_get e hi]
  rcases ((flat L)[i + 1]).dest with hx | hx | ⟨q, hx⟩
  · rw [hx]; simp only [avs_unset, avs_second, avs_val]; exact setL_avL (s := .second) (by omega) hi h2
  · rw [hx]; simp only [avs_unset, avs_second, avs_val]; exact setL_avL (s := .second) (by omega) hi h2
  · rw [hx]
    simp only [avs_unset, avs_second, avs_val]
    rw [hx] at e2
    rw [if_neg (by rw [c2_cat, ho q e2]; decide)]
    exact setL_avL (s := .second) (by omega) hi h2
theorem st2_gen {i : Instr} {j p l : Nat} {on : AV → Res → Res} {gf gf1 : (AS → Res) → LT → Res} {sf s1 : AS → (LT → Res) → LT → Res} (hg : GOk (E.2.1 M) j gf) (hg1 : GOk (E.2.1 M) (j + 1) gf1) (hsf : SOk (E.2.1 M) j sf) (hs1 : SOk (E.2.1 M) (j + 1) s1) (h32 : j + 1 < 32) (hq : OnS ρ i true on) (hj : Own.sti i = j) (hl : Own.ilen i = l)
    (hp : ∀ L S, Own.pstep i none pc L S = Own.pS i none pc L S) (hs : Own.sort i [] = 2) (hu : Own.isPure i = true) (hE : E.1 M pc = some (i, none, [], .null)) (hn : pc + l = p) (hc : Sim ρ E M p c) : Sim ρ E M pc (st2F on gf gf1 sf s1 c) := by
  subst hn
  refine sim_p hE hs hu hc fun L S A r h hr => ?_
  obtain ⟨v, t, rfl, h⟩ := hd_ok h hr
  obtain ⟨q1, q2, h⟩ := hq v _ r h hr
  obtain ⟨g1, s, g2, h⟩ := hg _ L r h hr
  have key : ∀ L', Own.stL (avL ρ (E.2.1 M) L) j (av ρ v) = some (avL ρ (E.2.1 M) L') → Own.pstep i none pc (avL ρ (E.2.1 M) L) (avS ρ (v :: t)) = some ([], none, pc + l, avL ρ (E.2.1 M) L', avS ρ t) := by
    intro L' e
    rw [hp]
    show Own.pS i none pc _ (av ρ v :: avS ρ t) = _
    unfold Own.pS
    simp only [q1, if_true, hj, e, Own.forceL_eq, hl]
  have two : ∀ L0 : LT, sf (.val v) (fun L => s1 .second (fun L => c L t A) L) L0 = r → (∀ q, (flat L0)[j + 1]? = some (.val q) → q.c2 = false) → ∃ L', c L' t A = r ∧ Own.stSelf (avL ρ (E.2.1 M) L0) j (av ρ v) = some (avL ρ (E.2.1 M) L') := by
    intro L0 h ho
    obtain ⟨-, L1, e1, h⟩ := hsf _ _ L0 r h hr
    obtain ⟨a1, L', e2, h⟩ := hs1 _ _ L1 r h hr
    exact ⟨L', h, stSelf2 h32 a1 q2 e1 e2 ho⟩
  rcases s.dest with rfl | rfl | ⟨q0, rfl⟩
  rotate_left
  · exact absurd h.symm hr
  rotate_left
  · obtain ⟨b1, s', b2, h⟩ := hg1 _ L r h hr
    have : ∃ L', c L' t A = r ∧ Own.stSelf (avL ρ (E.2.1 M) L) j (av ρ v) = some (avL ρ (E.2.1 M) L') := by
      rcases s'.dest with rfl | rfl | ⟨q9, rfl⟩
      · exact two L h fun q hq => by rw [b2] at hq; exact (unset_val hq).elim
      · exact two L h fun q hq => by rw [b2] at hq; exact (second_val hq).elim
      · obtain ⟨z, h⟩ := brec_f h hr; exact two L h fun q hq => by rw [b2] at hq; rw [← val_inj hq]; exact z
    obtain ⟨L', e1, e2⟩ := this
    refine ⟨L', t, e1, key L' ?_⟩
    unfold Own.stL
    rw [avL_get g2 g1]
    exact e2
  · rcases brec_ok h with ⟨c1, h⟩ | ⟨c1, h⟩
    · obtain ⟨b1, s', b2, h⟩ := hg1 _ L r h hr
      have : ∃ L', c L' t A = r ∧ Own.stSelf (avL ρ (E.2.1 M) L) j (av ρ v) = some (avL ρ (E.2.1 M) L') := by
        rcases s'.dest with rfl | rfl | ⟨q9, rfl⟩
        · exact two L h fun q hq => by rw [b2] at hq; exact (unset_val hq).elim
        · exact two L h fun q hq => by rw [b2] at hq; exact (second_val hq).elim
        · obtain ⟨z, h⟩ := brec_f h hr; exact two L h fun q hq => by rw [b2] at hq; rw [← val_inj hq]; exact z
      obtain ⟨L', e1, e2⟩ := this
      refine ⟨L', t, e1, key L' ?_⟩
      unfold Own.stL
      rw [avL_get g2 g1]
      simp only [avs_unset, avs_second, avs_val]
      rw [if_neg (by rw [c2_cat, c1]; decide)]
      exact e2
    · -- two words over two
      obtain ⟨-, L1, e1, h⟩ := hsf _ _ L r h hr
      obtain ⟨a1, L', e2, h⟩ := hs1 _ _ L1 r h hr
      refine ⟨L', t, h, key L' ?_⟩
      unfold Own.stL
      rw [avL_get g2 g1]
      simp only [avs_unset, avs_second, avs_val]
      rw [if_pos (by rw [c2_cat, c1]; rfl)]
      unfold Own.setL
      rw [if_pos (avL_len a1 h32), Option.bind_some]
      unfold Own.stSelf Own.setL
      rw [if_pos (by rw [List.length_set]; exact avL_len g1 (by omega)), Option.bind_some, if_pos (by rw [c2_cat, q2]; rfl)]
      have hl2 : j + 1 < (avL ρ (E.2.1 M) L).length := avL_len a1 h32
      rw [List.getElem?_set_ne (by omega), List.getElem?_set_self hl2]
      simp only []
      rw [if_pos (by rw [List.length_set, List.length_set]; exact hl2)]
      have z1 := avL_set (ρ := ρ) (ml := E.2.1 M) e1
      have z2 := avL_set (ρ := ρ) (ml := E.2.1 M) e2
      rw [z2, z1]
      congr 1
      rw [List.set_comm _ _ (by omega), List.set_set]
      exact List.set_comm _ _ (by omega)
theorem stI_on (i : Instr) (h : ∀ x, Own.stok i (.int x) = true) : OnS ρ i false onI := fun v k r q hr => by obtain ⟨⟨x, e⟩, z, q⟩ := onI_ok (ρ := ρ) q hr; exact ⟨by rw [e]; exact h x, z, q⟩
theorem stJ_on (i : Instr) (h : ∀ x, Own.stok i (.long x) = true) : OnS ρ i true onJ := fun v k r q hr => by obtain ⟨⟨x, e⟩, z, q⟩ := onJ_ok (ρ := ρ) q hr; exact ⟨by rw [e]; exact h x, z, q⟩
theorem stD_on (i : Instr) (h : ∀ x, Own.stok i (.double x) = true) : OnS ρ i true onD := fun v k r q hr => by obtain ⟨⟨x, e⟩, z, q⟩ := onD_ok (ρ := ρ) q hr; exact ⟨by rw [e]; exact h x, z, q⟩
theorem stA_on (i : Instr) (h : ∀ x, Own.stok i (.ref x) = true) (h0 : Own.stok i .null = true) : OnS ρ i false onA := fun v k r q hr => by
  obtain ⟨e, z, q⟩ := onA_ok (ρ := ρ) q hr
  rcases e with ⟨x, e⟩ | e
  · exact ⟨by rw [e]; exact h x, z, q⟩
  · exact ⟨by rw [e]; exact h0, z, q⟩
theorem stI_ok {j : Nat} {p : Nat} {gf : (AS → Res) → LT → Res} {sf s1 sm : AS → (LT → Res) → LT → Res} (hg : GOk (E.2.1 M) j gf) (hsf : SOk (E.2.1 M) j sf) (hs1 : SOk (E.2.1 M) (j + 1) s1) (hsm : SOk (E.2.1 M) (j - 1) sm) (h32 : j + 1 < 32) (hE : E.1 M pc = some (.istore j, none, [], .null)) (hn : pc + 2 = p) (hc : Sim ρ E M p c) : Sim ρ E M pc (st1F onI gf sf s1 sm c) :=
  st1_gen hg hsf hs1 hsm h32 (stI_on _ (fun _ => rfl)) rfl rfl (fun _ _ => rfl) rfl rfl hE hn hc
theorem stI_n_ok {j : Fin 4} {p : Nat} {gf : (AS → Res) → LT → Res} {sf s1 sm : AS → (LT → Res) → LT → Res} (hg : GOk (E.2.1 M) j.val gf) (hsf : SOk (E.2.1 M) j.val sf) (hs1 : SOk (E.2.1 M) (j.val + 1) s1) (hsm : SOk (E.2.1 M) (j.val - 1) sm) (h32 : j.val + 1 < 32) (hE : E.1 M pc = some (.istore_n j, none, [], .null)) (hn : pc + 1 = p) (hc : Sim ρ E M p c) : Sim ρ E M pc (st1F onI gf sf s1 sm c) :=
  st1_gen hg hsf hs1 hsm h32 (stI_on _ (fun _ => rfl)) rfl rfl (fun _ _ => rfl) rfl rfl hE hn hc
theorem stA_ok {j : Nat} {p : Nat} {gf : (AS → Res) → LT → Res} {sf s1 sm : AS → (LT → Res) → LT → Res} (hg : GOk (E.2.1 M) j gf) (hsf : SOk (E.2.1 M) j sf) (hs1 : SOk (E.2.1 M) (j + 1) s1) (hsm : SOk (E.2.1 M) (j - 1) sm) (h32 : j + 1 < 32) (hE : E.1 M pc = some (.astore j, none, [], .null)) (hn : pc + 2 = p) (hc : Sim ρ E M p c) : Sim ρ E M pc (st1F onA gf sf s1 sm c) :=
  st1_gen hg hsf hs1 hsm h32 (stA_on _ (fun _ => rfl) rfl) rfl rfl (fun _ _ => rfl) rfl rfl hE hn hc
theorem stA_n_ok {j : Fin 4} {p : Nat} {gf : (AS → Res) → LT → Res} {sf s1 sm : AS → (LT → Res) → LT → Res} (hg : GOk (E.2.1 M) j.val gf) (hsf : SOk (E.2.1 M) j.val sf) (hs1 : SOk (E.2.1 M) (j.val + 1) s1) (hsm : SOk (E.2.1 M) (j.val - 1) sm) (h32 : j.val + 1 < 32) (hE : E.1 M pc = some (.astore_n j, none, [], .null)) (hn : pc + 1 = p) (hc : Sim ρ E M p c) : Sim ρ E M pc (st1F onA gf sf s1 sm c) :=
  st1_gen hg hsf hs1 hsm h32 (stA_on _ (fun _ => rfl) rfl) rfl rfl (fun _ _ => rfl) rfl rfl hE hn hc
theorem stJ_ok {j : Nat} {p : Nat} {gf gf1 : (AS → Res) → LT → Res} {sf s1 : AS → (LT → Res) → LT → Res} (hg : GOk (E.2.1 M) j gf) (hg1 : GOk (E.2.1 M) (j + 1) gf1) (hsf : SOk (E.2.1 M) j sf) (hs1 : SOk (E.2.1 M) (j + 1) s1) (h32 : j + 1 < 32) (hE : E.1 M pc = some (.lstore j, none, [], .null)) (hn : pc + 2 = p) (hc : Sim ρ E M p c) : Sim ρ E M pc (st2F onJ gf gf1 sf s1 c) :=
  st2_gen hg hg1 hsf hs1 h32 (stJ_on _ (fun _ => rfl)) rfl rfl (fun _ _ => rfl) rfl rfl hE hn hc
theorem stJ_n_ok {j : Fin 4} {p : Nat} {gf gf1 : (AS → Res) → LT → Res} {sf s1 : AS → (LT → Res) → LT → Res} (hg : GOk (E.2.1 M) j.val gf) (hg1 : GOk (E.2.1 M) (j.val + 1) gf1) (hsf : SOk (E.2.1 M) j.val sf) (hs1 : SOk (E.2.1 M) (j.val + 1) s1) (h32 : j.val + 1 < 32) (hE : E.1 M pc = some (.lstore_n j, none, [], .null)) (hn : pc + 1 = p) (hc : Sim ρ E M p c) : Sim ρ E M pc (st2F onJ gf gf1 sf s1 c) :=
  st2_gen hg hg1 hsf hs1 h32 (stJ_on _ (fun _ => rfl)) rfl rfl (fun _ _ => rfl) rfl rfl hE hn hc
theorem stD_ok {j : Nat} {p : Nat} {gf gf1 : (AS → Res) → LT → Res} {sf s1 : AS → (LT → Res) → LT → Res} (hg : GOk (E.2.1 M) j gf) (hg1 : GOk (E.2.1 M) (j + 1) gf1) (hsf : SOk (E.2.1 M) j sf) (hs1 : SOk (E.2.1 M) (j + 1) s1) (h32 : j + 1 < 32) (hE : E.1 M pc = some (.dstore j, none, [], .null)) (hn : pc + 2 = p) (hc : Sim ρ E M p c) : Sim ρ E M pc (st2F onD gf gf1 sf s1 c) :=
  st2_gen hg hg1 hsf hs1 h32 (stD_on _ (fun _ => rfl)) rfl rfl (fun _ _ => rfl) rfl rfl hE hn hc
theorem stD_n_ok {j : Fin 4} {p : Nat} {gf gf1 : (AS → Res) → LT → Res} {sf s1 : AS → (LT → Res) → LT → Res} (hg : GOk (E.2.1 M) j.val gf) (hg1 : GOk (E.2.1 M) (j.val + 1) gf1) (hsf : SOk (E.2.1 M) j.val sf) (hs1 : SOk (E.2.1 M) (j.val + 1) s1) (h32 : j.val + 1 < 32) (hE : E.1 M pc = some (.dstore_n j, none, [], .null)) (hn : pc + 1 = p) (hc : Sim ρ E M p c) : Sim ρ E M pc (st2F onD gf gf1 sf s1 c) :=
  st2_gen hg hg1 hsf hs1 h32 (stD_on _ (fun _ => rfl)) rfl rfl (fun _ _ => rfl) rfl rfl hE hn hc
/-! constants -/
theorem cst_gen {i : Instr} {v : AV} {p l : Nat} (hv : Own.cst i = some (av ρ v)) (hl : Own.ilen i = l) (hp : ∀ L S, Own.pstep i none pc L S = Own.pC i none pc L S) (hs : Own.sort i [] = 2) (hu : Own.isPure i = true) (hE : E.1 M pc = some (i, none, [], .null)) (hn : pc + l = p) (hc : Sim ρ E M p c) : Sim ρ E M pc (cstF v c) := by
  subst hn
  refine sim_p hE hs hu hc fun L S A r h hr => ⟨L, v :: S, h, ?_⟩
  rw [hp]
  unfold Own.pC
  rw [hv, hl]
  rfl
theorem iconst_ok {z : Int} {n p : Nat} (hz : Int32.ofInt z = Int32.ofNat n) (hE : E.1 M pc = some (.iconst z, none, [], .null)) (hn : pc + 1 = p) (hc : Sim ρ E M p c) : Sim ρ E M pc (cstF (.int n) c) := cst_gen (by show some (Value.int _) = some (Value.int _); rw [hz]) rfl (fun _ _ => rfl) rfl rfl hE hn hc
theorem bipush_ok {z : Int} {n p : Nat} (hz : (Int8.ofInt z).toInt32 = Int32.ofNat n) (hE : E.1 M pc = some (.bipush z, none, [], .null)) (hn : pc + 2 = p) (hc : Sim ρ E M p c) : Sim ρ E M pc (cstF (.int n) c) := cst_gen (by show some (Value.int _) = some (Value.int _); rw [hz]) rfl (fun _ _ => rfl) rfl rfl hE hn hc
theorem sipush_ok {z : Int} {n p : Nat} (hz : (Int16.ofInt z).toInt32 = Int32.ofNat n) (hE : E.1 M pc = some (.sipush z, none, [], .null)) (hn : pc + 3 = p) (hc : Sim ρ E M p c) : Sim ρ E M pc (cstF (.int n) c) := cst_gen (by show some (Value.int _) = some (Value.int _); rw [hz]) rfl (fun _ _ => rfl) rfl rfl hE hn hc
theorem lconst0_ok {p : Nat} (hE : E.1 M pc = some (.lconst 0, none, [], .null)) (hn : pc + 1 = p) (hc : Sim ρ E M p c) : Sim ρ E M pc (cstF (.long 0) c) := cst_gen rfl rfl (fun _ _ => rfl) rfl rfl hE hn hc
theorem lconst1_ok {p : Nat} (hE : E.1 M pc = some (.lconst 1, none, [], .null)) (hn : pc + 1 = p) (hc : Sim ρ E M p c) : Sim ρ E M pc (cstF (.long 1) c) := cst_gen rfl rfl (fun _ _ => rfl) rfl rfl hE hn hc
theorem dconst0_ok {p : Nat} (hE : E.1 M pc = some (.dconst 0, none, [], .null)) (hn : pc + 1 = p) (hc : Sim ρ E M p c) : Sim ρ E M pc (cstF (.double 0) c) := cst_gen rfl rfl (fun _ _ => rfl) rfl rfl hE hn hc
theorem dconst1_ok {p : Nat} (hE : E.1 M pc = some (.dconst 1, none, [], .null)) (hn : pc + 1 = p) (hc : Sim ρ E M p c) : Sim ρ E M pc (cstF (.double 4607182418800017408) c) := cst_gen rfl rfl (fun _ _ => rfl) rfl rfl hE hn hc
theorem anull_ok {p : Nat} (hE : E.1 M pc = some (.aconst_null, none, [], .null)) (hn : pc + 1 = p) (hc : Sim ρ E M p c) : Sim ρ E M pc (cstF .null c) := cst_gen rfl rfl (fun _ _ => rfl) rfl rfl hE hn hc
theorem iinc_ok {j : Nat} {z : Int} {m p : Nat} {gf : (AS → Res) → LT → Res} {sf : AS → (LT → Res) → LT → Res} (hg : GOk (E.2.1 M) j gf) (hsf : SOk (E.2.1 M) j sf) (h32 : j < 32) (hz : Int32.ofInt z = Int32.ofNat m) (hE : E.1 M pc = some (.iinc j z, none, [], .null)) (hn : pc + 3 = p) (hc : Sim ρ E M p c) : Sim ρ E M pc (incF m gf sf c) := by
  subst hn
  refine sim_p (i := .iinc j z) hE rfl rfl hc fun L S A r h hr => ?_
  obtain ⟨g1, s, g2, h⟩ := hg _ L r h hr
  rcases s.dest with rfl | rfl | ⟨v, rfl⟩
  · exact absurd h.symm hr
  · exact absurd h.symm hr
  · rcases v with ((_ | _) | (_ | _)) | ((_ | _) | (_ | _)) <;> first | exact absurd h.symm hr | skip
    rename_i n
    have h : (nf (Nat.mod (Nat.add n m) 4294967296) fun n => sf (.val (.int n)) (fun L => c L S A) L) = r := h
    rw [nf_eq] at h
    obtain ⟨-, L', e1, e2⟩ := hsf _ _ L r h hr
    refine ⟨L', S, e2, ?_⟩
    have gg : (avL ρ (E.2.1 M) L)[j]? = some (.val (.int (Int32.ofNat n))) := avL_get (ρ := ρ) g2 g1
    show Own.pI none pc _ _ j z = _
    unfold Own.pI
    rw [gg]
    simp only []
    rw [hz, b_add]
    unfold Own.stL
    rw [gg]
    simp only []
    rw [if_neg (by show ¬ (1 : Nat) = 2; decide)]
    have this : Own.stSelf (avL ρ (E.2.1 M) L) j (.int (Int32.ofNat (Nat.mod (Nat.add n m) 4294967296))) = some (avL ρ (E.2.1 M) L') := stSelf1 (ρ := ρ) (by omega) g1 (v := .int (Nat.mod (Nat.add n m) 4294967296)) rfl e1
    rw [this]
    simp only [Own.forceL_eq]
/-! reckoning -/
theorem tabC_ok {o : Nat} {x y : AV} {k : AV → Res} {r : Res} (h : tabC T o x y k = r) (hr : r ≠ .bad) : ∃ v, T o x y = some v ∧ k v = r := by
  unfold tabC at h
  cases hq : T o x y with
  | none => rw [hq] at h; exact absurd h.symm hr
  | some v => rw [hq] at h; exact ⟨v, rfl, h⟩
theorem ii_ok {o : Nat} {x y : AV} {hk : Nat → Nat → Res} {k : AV → Res} {r : Res} (h : ii T o y x hk k = r) (hr : r ≠ .bad) : (∃ a b, x = .int a ∧ y = .int b ∧ hk a b = r) ∨ ∃ v, T o x y = some v ∧ k v = r := by
  rcases y with ((_ | _) | (_ | _)) | ((_ | _) | (_ | _)) <;> first | exact absurd h.symm hr | skip
  · rename_i b
    rcases x with ((_ | _) | (_ | _)) | ((_ | _) | (_ | _)) <;> first | exact absurd h.symm hr | skip
    · exact Or.inl ⟨_, _, rfl, rfl, h⟩
    · exact Or.inr (tabC_ok h hr)
  · exact Or.inr (tabC_ok h hr)
theorem jj_ok {o : Nat} {x y : AV} {hk : Nat → Nat → Res} {k : AV → Res} {r : Res} (h : jj T o y x hk k = r) (hr : r ≠ .bad) : (∃ a b, x = .long a ∧ y = .long b ∧ hk a b = r) ∨ ∃ v, T o x y = some v ∧ k v = r := by
  rcases y with ((_ | _) | (_ | _)) | ((_ | _) | (_ | _)) <;> first | exact absurd h.symm hr | skip
  · rename_i b
    rcases x with ((_ | _) | (_ | _)) | ((_ | _) | (_ | _)) <;> first | exact absurd h.symm hr | skip
    · exact Or.inl ⟨_, _, rfl, rfl, h⟩
    · exact Or.inr (tabC_ok h hr)
  · exact Or.inr (tabC_ok h hr)
theorem sem_bin {o : Nat} (h : o < 22) (x y : Value) : sem E o x y = Own.bin (opI o) x y := by unfold sem; rw [if_pos h]
theorem bin_step {i : Instr} {x y v : AV} {r : List AV} {Ls : List Slot} (hp : ∀ L S, Own.pstep i none pc L S = Own.pB i none pc L S) (h : Own.bin i (av ρ x) (av ρ y) = some (av ρ v)) : Own.pstep i none pc Ls (avS ρ (y :: x :: r)) = some ([], none, pc + 1, Ls, avS ρ (v :: r)) := by
  rw [hp]
  show Own.pB i none pc Ls (av ρ y :: av ρ x :: avS ρ r) = _
  unfold Own.pB
  simp only [h]
  rfl
theorem bI_gen {i : Instr} {o p : Nat} {h : Nat → Nat → Nat} (hT : TOk ρ E T) (ho : o < 22) (hi : opI o = i) (hh : ∀ a b, Own.bin i (.int (Int32.ofNat a)) (.int (Int32.ofNat b)) = some (.int (Int32.ofNat (h a b)))) (hp : ∀ L S, Own.pstep i none pc L S = Own.pB i none pc L S) (hs : Own.sort i [] = 2) (hu : Own.isPure i = true)
    (hE : E.1 M pc = some (i, none, [], .null)) (hn : pc + 1 = p) (hc : Sim ρ E M p c) : Sim ρ E M pc (bI T o h c) := by
  subst hn
  refine sim_p hE hs hu hc fun L S A r q hr => ?_
  obtain ⟨y, S1, rfl, q1⟩ := hd_ok q hr
  obtain ⟨x, S2, rfl, q2⟩ := hd_ok q1 hr
  rcases ii_ok q2 hr with ⟨a, b, rfl, rfl, q3⟩ | ⟨v, q4, q3⟩
  · have q5 : (nf (h a b) fun n => c L (.int n :: S2) A) = r := q3
    rw [nf_eq] at q5
    exact ⟨L, _, q5, bin_step hp (hh a b)⟩
  · have := hT o x y v q4
    rw [sem_bin ho, hi] at this
    exact ⟨L, _, q3, bin_step hp this⟩
theorem bJ_gen {i : Instr} {o p : Nat} {h : Nat → Nat → Nat} (hT : TOk ρ E T) (ho : o < 22) (hi : opI o = i) (hh : ∀ a b, Own.bin i (.long (Int64.ofNat a)) (.long (Int64.ofNat b)) = some (.long (Int64.ofNat (h a b)))) (hp : ∀ L S, Own.pstep i none pc L S = Own.pB i none pc L S) (hs : Own.sort i [] = 2) (hu : Own.isPure i = true)
    (hE : E.1 M pc = some (i, none, [], .null)) (hn : pc + 1 = p) (hc : Sim ρ E M p c) : Sim ρ E M pc (bJ T o h c) := by
  subst hn
  refine sim_p hE hs hu hc fun L S A r q hr => ?_
  obtain ⟨y, S1, rfl, q1⟩ := hd_ok q hr
  obtain ⟨x, S2, rfl, q2⟩ := hd_ok q1 hr
  rcases jj_ok q2 hr with ⟨a, b, rfl, rfl, q3⟩ | ⟨v, q4, q3⟩
  · have q5 : (nf (h a b) fun n => c L (.long n :: S2) A) = r := q3
    rw [nf_eq] at q5
    exact ⟨L, _, q5, bin_step hp (hh a b)⟩
  · have := hT o x y v q4
    rw [sem_bin ho, hi] at this
    exact ⟨L, _, q3, bin_step hp this⟩
theorem iadd_ok {p : Nat} (hT : TOk ρ E T) (hE : E.1 M pc = some (.iadd, none, [], .null)) (hn : pc + 1 = p) (hc : Sim ρ E M p c) : Sim ρ E M pc (bI T 0 hadd c) :=
  bI_gen hT (by decide) rfl (fun a b => by show some (Value.int _) = some (Value.int _); rw [b_add]; try rfl) (fun _ _ => rfl) rfl rfl hE hn hc
theorem isub_ok {p : Nat} (hT : TOk ρ E T) (hE : E.1 M pc = some (.isub, none, [], .null)) (hn : pc + 1 = p) (hc : Sim ρ E M p c) : Sim ρ E M pc (bI T 1 hsub c) :=
  bI_gen hT (by decide) rfl (fun a b => by show some (Value.int _) = some (Value.int _); rw [b_sub]; try rfl) (fun _ _ => rfl) rfl rfl hE hn hc
theorem imul_ok {p : Nat} (hT : TOk ρ E T) (hE : E.1 M pc = some (.imul, none, [], .null)) (hn : pc + 1 = p) (hc : Sim ρ E M p c) : Sim ρ E M pc (bI T 2 hmul c) :=
  bI_gen hT (by decide) rfl (fun a b => by show some (Value.int _) = some (Value.int _); rw [b_mul]; try rfl) (fun _ _ => rfl) rfl rfl hE hn hc
theorem iand_ok {p : Nat} (hT : TOk ρ E T) (hE : E.1 M pc = some (.iand, none, [], .null)) (hn : pc + 1 = p) (hc : Sim ρ E M p c) : Sim ρ E M pc (bI T 3 Nat.land c) :=
  bI_gen hT (by decide) rfl (fun a b => by show some (Value.int _) = some (Value.int _); rw [b_and]; try rfl) (fun _ _ => rfl) rfl rfl hE hn hc
theorem ior_ok {p : Nat} (hT : TOk ρ E T) (hE : E.1 M pc = some (.ior, none, [], .null)) (hn : pc + 1 = p) (hc : Sim ρ E M p c) : Sim ρ E M pc (bI T 4 Nat.lor c) :=
  bI_gen hT (by decide) rfl (fun a b => by show some (Value.int _) = some (Value.int _); rw [b_or]; try rfl) (fun _ _ => rfl) rfl rfl hE hn hc
theorem ixor_ok {p : Nat} (hT : TOk ρ E T) (hE : E.1 M pc = some (.ixor, none, [], .null)) (hn : pc + 1 = p) (hc : Sim ρ E M p c) : Sim ρ E M pc (bI T 5 Nat.xor c) :=
  bI_gen hT (by decide) rfl (fun a b => by show some (Value.int _) = some (Value.int _); rw [b_xor]; try rfl) (fun _ _ => rfl) rfl rfl hE hn hc
theorem ladd_ok {p : Nat} (hT : TOk ρ E T) (hE : E.1 M pc = some (.ladd, none, [], .null)) (hn : pc + 1 = p) (hc : Sim ρ E M p c) : Sim ρ E M pc (bJ T 10 haddL c) :=
  bJ_gen hT (by decide) rfl (fun a b => by show some (Value.long _) = some (Value.long _); rw [bl_add]; try rfl) (fun _ _ => rfl) rfl rfl hE hn hc
theorem lsub_ok {p : Nat} (hT : TOk ρ E T) (hE : E.1 M pc = some (.lsub, none, [], .null)) (hn : pc + 1 = p) (hc : Sim ρ E M p c) : Sim ρ E M pc (bJ T 11 hsubL c) :=
  bJ_gen hT (by decide) rfl (fun a b => by show some (Value.long _) = some (Value.long _); rw [bl_sub]; try rfl) (fun _ _ => rfl) rfl rfl hE hn hc
theorem lmul_ok {p : Nat} (hT : TOk ρ E T) (hE : E.1 M pc = some (.lmul, none, [], .null)) (hn : pc + 1 = p) (hc : Sim ρ E M p c) : Sim ρ E M pc (bJ T 12 hmulL c) :=
  bJ_gen hT (by decide) rfl (fun a b => by show some (Value.long _) = some (Value.long _); rw [bl_mul]; try rfl) (fun _ _ => rfl) rfl rfl hE hn hc
theorem land_ok {p : Nat} (hT : TOk ρ E T) (hE : E.1 M pc = some (.land, none, [], .null)) (hn : pc + 1 = p) (hc : Sim ρ E M p c) : Sim ρ E M pc (bJ T 13 Nat.land c) :=
  bJ_gen hT (by decide) rfl (fun a b => by show some (Value.long _) = some (Value.long _); rw [bl_and]; try rfl) (fun _ _ => rfl) rfl rfl hE hn hc
theorem lor_ok {p : Nat} (hT : TOk ρ E T) (hE : E.1 M pc = some (.lor, none, [], .null)) (hn : pc + 1 = p) (hc : Sim ρ E M p c) : Sim ρ E M pc (bJ T 14 Nat.lor c) :=
  bJ_gen hT (by decide) rfl (fun a b => by show some (Value.long _) = some (Value.long _); rw [bl_or]; try rfl) (fun _ _ => rfl) rfl rfl hE hn hc
theorem lxor_ok {p : Nat} (hT : TOk ρ E T) (hE : E.1 M pc = some (.lxor, none, [], .null)) (hn : pc + 1 = p) (hc : Sim ρ E M p c) : Sim ρ E M pc (bJ T 15 Nat.xor c) :=
  bJ_gen hT (by decide) rfl (fun a b => by show some (Value.long _) = some (Value.long _); rw [bl_xor]; try rfl) (fun _ _ => rfl) rfl rfl hE hn hc
theorem blt_lt {a b : Nat} (h : Nat.blt a b = true) : a < b := Nat.le_of_ble_eq_true h
theorem and3 {a b d : Bool} (h : and a (and b d) = true) : a = true ∧ b = true ∧ d = true := by cases a <;> cases b <;> cases d <;> first | exact ⟨rfl, rfl, rfl⟩ | cases h
theorem and2 {a b : Bool} (h : and a b = true) : a = true ∧ b = true := by cases a <;> cases b <;> first | exact ⟨rfl, rfl⟩ | cases h
theorem bP_gen {i : Instr} {o p : Nat} {qf : Nat → Nat → Bool} {h : Nat → Nat → Nat} (hT : TOk ρ E T) (hs : Own.sort i [] = 2) (hu : Own.isPure i = true) (hh : ∀ a b Ls r, qf a b = true → Own.pstep i none pc Ls (.int (Int32.ofNat b) :: .int (Int32.ofNat a) :: r) = some ([], none, pc + 1, Ls, .int (Int32.ofNat (h a b)) :: r))
    (ht : ∀ x y v Ls r, sem E o x y = some v → Own.pstep i none pc Ls (y :: x :: r) = some ([], none, pc + 1, Ls, v :: r)) (hE : E.1 M pc = some (i, none, [], .null)) (hn : pc + 1 = p) (hc : Sim ρ E M p c) : Sim ρ E M pc (bP T o qf h c) := by
  subst hn
  refine sim_p hE hs hu hc fun L S A r q hr => ?_
  obtain ⟨y, S1, rfl, q1⟩ := hd_ok q hr
  obtain ⟨x, S2, rfl, q2⟩ := hd_ok q1 hr
  rcases ii_ok q2 hr with ⟨a, b, rfl, rfl, q3⟩ | ⟨v, q4, q3⟩
  · obtain ⟨z, q5⟩ := brec_t q3 hr
    rw [nf_eq] at q5
    exact ⟨L, _, q5, hh a b _ _ z⟩
  · exact ⟨L, _, q3, ht _ _ _ _ _ (hT o x y v q4)⟩
theorem nz {b : Nat} (h0 : 0 < b) (hb : b < 2147483648) : Int32.ofNat b ≠ 0 := fun e => by
  have := congrArg Int32.toInt e
  rw [small b hb] at this
  simp at this
  omega
theorem sem_div (o : Nat) (ho : o = 22 ∨ o = 23 ∨ o = 24 ∨ o = 25) {x y v : Value} {Ls : List Slot} {r : List Value} (h : sem E o x y = some v) : Own.pstep (opI o) none pc Ls (y :: x :: r) = some ([], none, pc + 1, Ls, v :: r) := by
  rcases ho with rfl | rfl | rfl | rfl <;> (
    unfold sem at h
    simp only [Nat.reduceLT, if_false, if_true] at h
    split at h
    all_goals first | (rename_i e _ _; cases e; done) | (rename_i e; cases e; done) | skip
    all_goals first | (cases h; done) | skip
    all_goals
      split at h
      · rename_i hz
        cases h
        simp only [opI, Own.pstep, Own.pZ, Own.need, hz, if_true, ne_eq, not_false_eq_true]
      · cases h)
theorem idiv_ok {p : Nat} (hT : TOk ρ E T) (hE : E.1 M pc = some (.idiv, none, [], .null)) (hn : pc + 1 = p) (hc : Sim ρ E M p c) : Sim ρ E M pc (bP T 22 qdiv Nat.div c) :=
  bP_gen (i := .idiv) hT rfl rfl (fun a b Ls r z => by
    obtain ⟨z1, z2, z3⟩ := and3 z
    have hp : ∀ Ls S, Own.pstep .idiv none pc Ls S = Own.pZ .idiv none pc Ls S := fun _ _ => rfl
    rw [hp]
    unfold Own.pZ
    simp only [Own.need, if_pos (nz (blt_lt z2) (blt_lt z3)), b_div a b (blt_lt z1) (blt_lt z3)]) (fun x y v Ls r h => sem_div (pc := pc) 22 (by decide) h) hE hn hc
theorem irem_ok {p : Nat} (hT : TOk ρ E T) (hE : E.1 M pc = some (.irem, none, [], .null)) (hn : pc + 1 = p) (hc : Sim ρ E M p c) : Sim ρ E M pc (bP T 23 qdiv Nat.mod c) :=
  bP_gen (i := .irem) hT rfl rfl (fun a b Ls r z => by
    obtain ⟨z1, z2, z3⟩ := and3 z
    have hp : ∀ Ls S, Own.pstep .irem none pc Ls S = Own.pZ .irem none pc Ls S := fun _ _ => rfl
    rw [hp]
    unfold Own.pZ
    simp only [Own.need, if_pos (nz (blt_lt z2) (blt_lt z3)), b_rem a b (blt_lt z1) (blt_lt z3)]) (fun x y v Ls r h => sem_div (pc := pc) 23 (by decide) h) hE hn hc
theorem bin_st {i : Instr} {x y v : Value} {Ls : List Slot} {r : List Value} (hp : ∀ L S, Own.pstep i none pc L S = Own.pB i none pc L S) (h : Own.bin i x y = some v) : Own.pstep i none pc Ls (y :: x :: r) = some ([], none, pc + 1, Ls, v :: r) := by
  rw [hp]; unfold Own.pB; simp only [h]
theorem ishl_ok {p : Nat} (hT : TOk ρ E T) (hE : E.1 M pc = some (.ishl, none, [], .null)) (hn : pc + 1 = p) (hc : Sim ρ E M p c) : Sim ρ E M pc (bP T 6 qshl hshl c) :=
  bP_gen hT rfl rfl (fun a b Ls r z => bin_st (fun _ _ => rfl) (by show some (Value.int _) = some (Value.int _); rw [b_shl a b (blt_lt z)]; try rfl)) (fun x y v Ls r h => bin_st (fun _ _ => rfl) (by rw [sem_bin (by decide)] at h; exact h)) hE hn hc
theorem ishr_ok {p : Nat} (hT : TOk ρ E T) (hE : E.1 M pc = some (.ishr, none, [], .null)) (hn : pc + 1 = p) (hc : Sim ρ E M p c) : Sim ρ E M pc (bP T 7 qshr Nat.shiftRight c) :=
  bP_gen hT rfl rfl (fun a b Ls r z => bin_st (fun _ _ => rfl) (by show some (Value.int _) = some (Value.int _); rw [b_shr a b (blt_lt (and2 z).1) (blt_lt (and2 z).2)])) (fun x y v Ls r h => bin_st (fun _ _ => rfl) (by rw [sem_bin (by decide)] at h; exact h)) hE hn hc
theorem iushr_ok {p : Nat} (hT : TOk ρ E T) (hE : E.1 M pc = some (.iushr, none, [], .null)) (hn : pc + 1 = p) (hc : Sim ρ E M p c) : Sim ρ E M pc (bP T 8 qshr Nat.shiftRight c) :=
  bP_gen hT rfl rfl (fun a b Ls r z => bin_st (fun _ _ => rfl) (by show some (Value.int _) = some (Value.int _); rw [b_ushr a b (blt_lt (and2 z).1) (blt_lt (and2 z).2)])) (fun x y v Ls r h => bin_st (fun _ _ => rfl) (by rw [sem_bin (by decide)] at h; exact h)) hE hn hc
/-- by the table alone -/
theorem bT_gen {i : Instr} {o p : Nat} (hT : TOk ρ E T) (hs : Own.sort i [] = 2) (hu : Own.isPure i = true) (ht : ∀ x y v Ls r, sem E o x y = some v → Own.pstep i none pc Ls (y :: x :: r) = some ([], none, pc + 1, Ls, v :: r)) (hE : E.1 M pc = some (i, none, [], .null)) (hn : pc + 1 = p) (hc : Sim ρ E M p c) : Sim ρ E M pc (bT T o c) := by
  subst hn
  refine sim_p hE hs hu hc fun L S A r q hr => ?_
  obtain ⟨y, S1, rfl, q1⟩ := hd_ok q hr
  obtain ⟨x, S2, rfl, q2⟩ := hd_ok q1 hr
  obtain ⟨v, q4, q3⟩ := tabC_ok q2 hr
  exact ⟨L, _, q3, ht _ _ _ _ _ (hT o x y v q4)⟩
theorem bT_ok {i : Instr} {o p : Nat} (hT : TOk ρ E T) (hi : opI o = i) (ho : o < 22) (hp : ∀ L S, Own.pstep i none pc L S = Own.pB i none pc L S) (hs : Own.sort i [] = 2) (hu : Own.isPure i = true) (hE : E.1 M pc = some (i, none, [], .null)) (hn : pc + 1 = p) (hc : Sim ρ E M p c) : Sim ρ E M pc (bT T o c) :=
  bT_gen hT hs hu (fun x y v Ls r h => bin_st hp (by rw [sem_bin ho, hi] at h; exact h)) hE hn hc
theorem bTz_ok {i : Instr} {o p : Nat} (hT : TOk ρ E T) (hi : opI o = i) (ho : o = 22 ∨ o = 23 ∨ o = 24 ∨ o = 25) (hs : Own.sort i [] = 2) (hu : Own.isPure i = true) (hE : E.1 M pc = some (i, none, [], .null)) (hn : pc + 1 = p) (hc : Sim ρ E M p c) : Sim ρ E M pc (bT T o c) :=
  bT_gen hT hs hu (fun x y v Ls r h => by rw [← hi]; exact sem_div o ho h) hE hn hc
theorem sem_d (o : Nat) (ho : o = 26 ∨ o = 27 ∨ o = 28 ∨ o = 29) {x y v : Value} {Ls : List Slot} {r : List Value} (h : sem E o x y = some v) : Own.pstep (opI o) none pc Ls (y :: x :: r) = some ([], none, pc + 1, Ls, v :: r) := by
  rcases ho with rfl | rfl | rfl | rfl <;> (
    unfold sem at h
    simp only [Nat.reduceLT, if_false, if_true] at h
    split at h
    · split at h
      · rename_i hz
        cases h
        simp only [dv] at hz
        simp only [opI, Own.pstep, Own.pD, Own.dbin, Own.need, hz, if_true, dv]
      · cases h
    · cases h)
theorem bTd_ok {i : Instr} {o p : Nat} (hT : TOk ρ E T) (hi : opI o = i) (ho : o = 26 ∨ o = 27 ∨ o = 28 ∨ o = 29) (hs : Own.sort i [] = 2) (hu : Own.isPure i = true) (hE : E.1 M pc = some (i, none, [], .null)) (hn : pc + 1 = p) (hc : Sim ρ E M p c) : Sim ρ E M pc (bT T o c) :=
  bT_gen hT hs hu (fun x y v Ls r h => by rw [← hi]; exact sem_d o ho h) hE hn hc
theorem sem_un {o : Nat} (h1 : 30 ≤ o) (h2 : o < 42) (x y : Value) : sem E o x y = Own.un (opI o) x := by
  unfold sem; rw [if_neg (by omega), if_neg (by omega), if_neg (by omega), if_pos h2]
theorem un_st {i : Instr} {x v : Value} {Ls : List Slot} {r : List Value} (hp : ∀ L S, Own.pstep i none pc L S = Own.pU i none pc L S) (h : Own.un i x = some v) : Own.pstep i none pc Ls (x :: r) = some ([], none, pc + 1, Ls, v :: r) := by
  rw [hp]; unfold Own.pU; simp only [h]
theorem uT_ok {i : Instr} {o p : Nat} (hT : TOk ρ E T) (hi : opI o = i) (h1 : 30 ≤ o) (h2 : o < 42) (hp : ∀ L S, Own.pstep i none pc L S = Own.pU i none pc L S) (hs : Own.sort i [] = 2) (hu : Own.isPure i = true) (hE : E.1 M pc = some (i, none, [], .null)) (hn : pc + 1 = p) (hc : Sim ρ E M p c) : Sim ρ E M pc (uT T o c) := by
  subst hn
  refine sim_p hE hs hu hc fun L S A r q hr => ?_
  obtain ⟨x, S1, rfl, q1⟩ := hd_ok q hr
  obtain ⟨v, q4, q3⟩ := tabC_ok q1 hr
  have := hT o x .null v q4
  rw [sem_un h1 h2, hi] at this
  exact ⟨L, _, q3, un_st hp this⟩
theorem i2l_ok {p : Nat} (hT : TOk ρ E T) (hE : E.1 M pc = some (.i2l, none, [], .null)) (hn : pc + 1 = p) (hc : Sim ρ E M p c) : Sim ρ E M pc (i2lF T c) := by
  subst hn
  refine sim_p (i := .i2l) hE rfl rfl hc fun L S A r q hr => ?_
  obtain ⟨x, S1, rfl, q1⟩ := hd_ok q hr
  clear q
  rcases x with ((_ | _) | (_ | _)) | ((_ | _) | (_ | _)) <;> first | exact absurd q1.symm hr | skip
  · rename_i n
    obtain ⟨z, q⟩ := brec_t q1 hr
    exact ⟨L, _, q, un_st (fun _ _ => rfl) (by show some (Value.long _) = some (Value.long _); rw [b_i2l n (blt_lt z)])⟩
  · rename_i n
    obtain ⟨v, q4, q⟩ := tabC_ok q1 hr
    have := hT _ _ _ v q4
    rw [sem_un (by decide) (by decide)] at this
    exact ⟨L, _, q, un_st (fun _ _ => rfl) this⟩
theorem l2i_ok {p : Nat} (hT : TOk ρ E T) (hE : E.1 M pc = some (.l2i, none, [], .null)) (hn : pc + 1 = p) (hc : Sim ρ E M p c) : Sim ρ E M pc (l2iF T c) := by
  subst hn
  refine sim_p (i := .l2i) hE rfl rfl hc fun L S A r q hr => ?_
  obtain ⟨x, S1, rfl, q1⟩ := hd_ok q hr
  clear q
  rcases x with ((_ | _) | (_ | _)) | ((_ | _) | (_ | _)) <;> first | exact absurd q1.symm hr | skip
  · rename_i n
    have q : (nf (Nat.mod n 4294967296) fun n => c L (.int n :: S1) A) = r := q1
    rw [nf_eq] at q
    exact ⟨L, _, q, un_st (fun _ _ => rfl) (by show some (Value.int _) = some (Value.int _); rw [b_l2i n])⟩
  · rename_i n
    obtain ⟨v, q4, q⟩ := tabC_ok q1 hr
    have := hT _ _ _ v q4
    rw [sem_un (by decide) (by decide)] at this
    exact ⟨L, _, q, un_st (fun _ _ => rfl) this⟩
/-! the stack -/
theorem cat1 {v : AV} (h : v.c2 = false) : (av ρ v).category = 1 := by rw [c2_cat, h]; rfl
theorem cat2 {v : AV} (h : v.c2 = true) : (av ρ v).category = 2 := by rw [c2_cat, h]; rfl
theorem orF {a b : Bool} (h : or a b = false) : a = false ∧ b = false := by cases a <;> cases b <;> first | exact ⟨rfl, rfl⟩ | cases h
theorem dupF_ok {p : Nat} (hE : E.1 M pc = some (.dup, none, [], .null)) (hn : pc + 1 = p) (hc : Sim ρ E M p c) : Sim ρ E M pc (dupF c) := by
  subst hn
  refine sim_p (i := .dup) hE rfl rfl hc fun L S A r q hr => ?_
  obtain ⟨x, S1, rfl, q1⟩ := hd_ok q hr
  obtain ⟨z, q2⟩ := brec_f q1 hr
  exact ⟨L, _, q2, if_pos (cat1 z)⟩
theorem popF_ok {p : Nat} (hE : E.1 M pc = some (.pop, none, [], .null)) (hn : pc + 1 = p) (hc : Sim ρ E M p c) : Sim ρ E M pc (popF c) := by
  subst hn
  refine sim_p (i := .pop) hE rfl rfl hc fun L S A r q hr => ?_
  obtain ⟨x, S1, rfl, q1⟩ := hd_ok q hr
  obtain ⟨z, q2⟩ := brec_f q1 hr
  exact ⟨L, _, q2, if_pos (cat1 z)⟩
theorem pop2F_ok {p : Nat} (hE : E.1 M pc = some (.pop2, none, [], .null)) (hn : pc + 1 = p) (hc : Sim ρ E M p c) : Sim ρ E M pc (pop2F c) := by
  subst hn
  refine sim_p (i := .pop2) hE rfl rfl hc fun L S A r q hr => ?_
  obtain ⟨x, S1, rfl, q1⟩ := hd_ok q hr
  obtain ⟨z, q2⟩ := brec_t q1 hr
  exact ⟨L, _, q2, if_pos (cat2 z)⟩
theorem dupX1F_ok {p : Nat} (hE : E.1 M pc = some (.dup_x1, none, [], .null)) (hn : pc + 1 = p) (hc : Sim ρ E M p c) : Sim ρ E M pc (dupX1F c) := by
  subst hn
  refine sim_p (i := .dup_x1) hE rfl rfl hc fun L S A r q hr => ?_
  obtain ⟨x, S1, rfl, q1⟩ := hd_ok q hr
  obtain ⟨y, S2, rfl, q2⟩ := hd_ok q1 hr
  obtain ⟨z, q3⟩ := brec_f q2 hr
  exact ⟨L, _, q3, if_pos ⟨cat1 (orF z).1, cat1 (orF z).2⟩⟩
theorem dupX2F_ok {p : Nat} (hE : E.1 M pc = some (.dup_x2, none, [], .null)) (hn : pc + 1 = p) (hc : Sim ρ E M p c) : Sim ρ E M pc (dupX2F c) := by
  subst hn
  refine sim_p (i := .dup_x2) hE rfl rfl hc fun L S A r q hr => ?_
  obtain ⟨x, S1, rfl, q1⟩ := hd_ok q hr
  obtain ⟨y, S2, rfl, q2⟩ := hd_ok q1 hr
  obtain ⟨w, S3, rfl, q3⟩ := hd_ok q2 hr
  obtain ⟨z, q4⟩ := brec_f q3 hr
  exact ⟨L, _, q4, if_pos ⟨cat1 (orF z).1, cat1 (orF (orF z).2).1, cat1 (orF (orF z).2).2⟩⟩
theorem dup2F_ok {p : Nat} (hE : E.1 M pc = some (.dup2, none, [], .null)) (hn : pc + 1 = p) (hc : Sim ρ E M p c) : Sim ρ E M pc (dup2F c) := by
  subst hn
  refine sim_p (i := .dup2) hE rfl rfl hc fun L S A r q hr => ?_
  obtain ⟨x, S1, rfl, q1⟩ := hd_ok q hr
  rcases brec_ok q1 with ⟨z, q2⟩ | ⟨z, q2⟩
  · obtain ⟨y, S2, rfl, q3⟩ := hd_ok q2 hr
    obtain ⟨z2, q4⟩ := brec_f q3 hr
    refine ⟨L, _, q4, ?_⟩
    show Own.pT .dup2 none pc _ (av ρ x :: av ρ y :: avS ρ S2) = _
    rcases x with ((_ | _) | (_ | _)) | ((_ | _) | (_ | _)) <;> first | (cases z; done) | skip
    all_goals (unfold Own.pT; simp only [av]; exact if_pos ⟨rfl, cat1 z2⟩)
  · refine ⟨L, _, q2, ?_⟩
    show Own.pT .dup2 none pc _ (av ρ x :: avS ρ S1) = _
    rcases x with ((_ | _) | (_ | _)) | ((_ | _) | (_ | _)) <;> first | (cases z; done) | rfl
/-! branches -/
theorem sim_b {i : Instr} {c' : Cont} {p tg : Nat} (hE : E.1 M pc = some (i, none, [], .null)) (hs : Own.sort i [] = 2) (hp : Own.isPure i = true) (ht : Sim ρ E M tg t) (hc : Sim ρ E M p c)
    (h : ∀ L S A r, c' L S A = r → r ≠ .bad → ∃ S1, (t L S1 A = r ∧ Own.pstep i none pc (avL ρ (E.2.1 M) L) (avS ρ S) = some ([], none, tg, avL ρ (E.2.1 M) L, avS ρ S1)) ∨ (c L S1 A = r ∧ Own.pstep i none pc (avL ρ (E.2.1 M) L) (avS ρ S) = some ([], none, p, avL ρ (E.2.1 M) L, avS ρ S1))) : Sim ρ E M pc c' := by
  refine sim_step hE hs fun L S A v A' k n f w hq => ?_
  obtain ⟨S1, ⟨h1, h2⟩ | ⟨h1, h2⟩⟩ := h L S A _ hq bad_ne
  · exact ⟨_, t, L, S1, A, 0, 0, 0, 0, k, n, f, w, ht, by simp only [Own.step, hp, h2], h1, by omega, by omega, by omega, by omega⟩
  · exact ⟨_, c, L, S1, A, 0, 0, 0, 0, k, n, f, w, hc, by simp only [Own.step, hp, h2], h1, by omega, by omega, by omega, by omega⟩
theorem goto_ok {off : Int} {tg : Nat} (hE : E.1 M pc = some (.goto off, none, [], .null)) (ho : 0 ≤ (pc : Int) + off ∧ ((pc : Int) + off).toNat = tg) (ht : Sim ρ E M tg t) : Sim ρ E M pc t := by
  refine sim_b (i := .goto off) hE rfl rfl ht ht fun L S A r q hr => ⟨S, Or.inl ⟨q, ?_⟩⟩
  show Own.jmp [] none pc _ _ off = _
  unfold Own.jmp
  rw [if_pos ho.1, ho.2]
theorem pJ_none {b : Bool} {off : Int} {Ls : List Slot} {r : List Value} {tg : Nat} (ho : 0 ≤ (pc : Int) + off ∧ ((pc : Int) + off).toNat = tg) : Own.pJ none pc Ls r b off = some ([], none, bif b then tg else pc + 3, Ls, r) := by
  unfold Own.pJ Own.ask Own.jmp
  cases b
  · rfl
  · simp only [if_pos ho.1, ho.2, cond_true]
theorem tabB_ok {o : Nat} {x y : AV} {a b r : Res} (h : tabB T o x y a b = r) (hr : r ≠ .bad) : ∃ n, T o x y = some (.int n) ∧ ((n = 1 ∧ a = r) ∨ (n ≠ 1 ∧ b = r)) := by
  unfold tabB at h
  cases hq : T o x y with
  | none => rw [hq] at h; exact absurd h.symm hr
  | some v =>
    rw [hq] at h
    rcases v with ((_ | _) | (_ | _)) | ((_ | _) | (_ | _)) <;> first | exact absurd h.symm hr | skip
    rename_i n
    rcases brec_ok h with ⟨z, q⟩ | ⟨z, q⟩
    · exact ⟨n, rfl, Or.inr ⟨fun e => (by subst e; cases z), q⟩⟩
    · exact ⟨n, rfl, Or.inl ⟨Nat.eq_of_beq_eq_true z, q⟩⟩
theorem one_nat {n : Nat} {b : Bool} (h : (Int32.ofNat n) = if b then (1 : Int32) else 0) (hn : n < 2) : (n = 1 ↔ b = true) := by
  cases b <;> (constructor <;> intro q)
  · subst q; exact absurd h (by decide)
  · cases q
  · rfl
  · have : n ≠ 0 := fun e => by subst e; exact absurd h (by decide)
    omega
/-- a known int's answer, and the table's -/
def ZOk (cd : ClassFile.Cond) (h : Nat → Bool) : Prop := ∀ a, ifCond.holds cd (Int32.ofNat a) = h a
def COk (cd : ClassFile.Cond) (h : Nat → Nat → Bool) : Prop := ∀ a b, if_icmp.holds cd (Int32.ofNat a) (Int32.ofNat b) = h a b
def T01 (T : Tab) : Prop := ∀ o x y n, 42 ≤ o → o < 54 → T o x y = some (.int n) → n < 2
theorem if_ok {cd : ClassFile.Cond} {off : Int} {o p tg : Nat} {h : Nat → Bool} (hT : TOk ρ E T ∧ T01 T) (hcd : cdI (o - 42) = cd) (h1 : 42 ≤ o) (h2 : o < 48) (hz : ZOk cd h) (hE : E.1 M pc = some (.ifCond cd off, none, [], .null)) (ho : 0 ≤ (pc : Int) + off ∧ ((pc : Int) + off).toNat = tg) (hn : pc + 3 = p) (ht : Sim ρ E M tg t) (hc : Sim ρ E M p c) : Sim ρ E M pc (b0 T o h t c) := by
  subst hn
  refine sim_b (i := .ifCond cd off) hE rfl rfl ht hc fun L S A r q hr => ?_
  obtain ⟨x, S1, rfl, q1⟩ := hd_ok q hr
  clear q
  have step : ∀ (y : Int32) (Ls : List Slot), av ρ x = .int y → Own.pstep (.ifCond cd off) none pc Ls (avS ρ (x :: S1)) = some ([], none, bif ifCond.holds cd y then tg else pc + 3, Ls, avS ρ S1) := by
    intro y Ls e
    show Own.pG _ none pc Ls (av ρ x :: avS ρ S1) = _
    rw [e]
    exact pJ_none ho
  rcases x with ((_ | _) | (_ | _)) | ((_ | _) | (_ | _)) <;> first | exact absurd q1.symm hr | skip
  · rename_i a
    rcases brec_ok q1 with ⟨z, q2⟩ | ⟨z, q2⟩
    · exact ⟨S1, Or.inr ⟨q2, by rw [step _ _ rfl, hz, z]; rfl⟩⟩
    · exact ⟨S1, Or.inl ⟨q2, by rw [step _ _ rfl, hz, z]; rfl⟩⟩
  · rename_i a
    obtain ⟨n, q2, q3⟩ := tabB_ok q1 hr
    have := hT.1 _ _ _ _ q2
    unfold sem at this
    rw [if_neg (by omega), if_neg (by omega), if_neg (by omega), if_neg (by omega), if_pos h2, hcd] at this
    have this : (some (Value.int (if ifCond.holds cd (ρ.1 a) = true then 1 else 0)) : Option Value) = some (.int (Int32.ofNat n)) := this
    simp only [Option.some.injEq, Value.int.injEq] at this
    have key := one_nat this.symm (hT.2 o _ _ n h1 (by omega) q2)
    rcases q3 with ⟨z, q4⟩ | ⟨z, q4⟩
    · exact ⟨S1, Or.inl ⟨q4, by rw [step _ _ rfl, key.mp z]; rfl⟩⟩
    · refine ⟨S1, Or.inr ⟨q4, ?_⟩⟩
      rw [step _ _ rfl]
      cases hb : ifCond.holds cd (ρ.1 a) with
      | true => exact absurd (key.mpr hb) z
      | false => rfl
theorem icmp_ok {cd : ClassFile.Cond} {off : Int} {o p tg : Nat} {h : Nat → Nat → Bool} (hT : TOk ρ E T ∧ T01 T) (hcd : cdI (o - 48) = cd) (h1 : 48 ≤ o) (h2 : o < 54) (hz : COk cd h) (hE : E.1 M pc = some (.if_icmp cd off, none, [], .null)) (ho : 0 ≤ (pc : Int) + off ∧ ((pc : Int) + off).toNat = tg) (hn : pc + 3 = p) (ht : Sim ρ E M tg t) (hc : Sim ρ E M p c) : Sim ρ E M pc (b2 T o h t c) := by
  subst hn
  refine sim_b (i := .if_icmp cd off) hE rfl rfl ht hc fun L S A r q hr => ?_
  obtain ⟨y, S0, rfl, q0⟩ := hd_ok q hr
  obtain ⟨x, S1, rfl, q1⟩ := hd_ok q0 hr
  clear q q0
  have step : ∀ (y' x' : Int32) (Ls : List Slot), av ρ y = .int y' → av ρ x = .int x' → Own.pstep (.if_icmp cd off) none pc Ls (avS ρ (y :: x :: S1)) = some ([], none, bif if_icmp.holds cd x' y' then tg else pc + 3, Ls, avS ρ S1) := by
    intro y' x' Ls e e'
    show Own.pG _ none pc Ls (av ρ y :: av ρ x :: avS ρ S1) = _
    rw [e, e']
    exact pJ_none ho
  have tab : tabB T o x y (t L S1 A) (c L S1 A) = r → ∃ S1', (t L S1' A = r ∧ Own.pstep (.if_icmp cd off) none pc (avL ρ (E.2.1 M) L) (avS ρ (y :: x :: S1)) = some ([], none, tg, avL ρ (E.2.1 M) L, avS ρ S1')) ∨ (c L S1' A = r ∧ Own.pstep (.if_icmp cd off) none pc (avL ρ (E.2.1 M) L) (avS ρ (y :: x :: S1)) = some ([], none, pc + 3, avL ρ (E.2.1 M) L, avS ρ S1')) := by
    intro q1
    obtain ⟨n, q2, q3⟩ := tabB_ok q1 hr
    have := hT.1 _ _ _ _ q2
    unfold sem at this
    rw [if_neg (by omega), if_neg (by omega), if_neg (by omega), if_neg (by omega), if_neg (by omega), if_pos h2, hcd] at this
    split at this
    · rename_i x' y' ex ey
      have this : (some (Value.int (if if_icmp.holds cd x' y' = true then 1 else 0)) : Option Value) = some (.int (Int32.ofNat n)) := this
      simp only [Option.some.injEq, Value.int.injEq] at this
      have key := one_nat this.symm (hT.2 o _ _ n (by omega) h2 q2)
      rcases q3 with ⟨z, q4⟩ | ⟨z, q4⟩
      · exact ⟨S1, Or.inl ⟨q4, by rw [step _ _ _ ey ex, key.mp z]; rfl⟩⟩
      · refine ⟨S1, Or.inr ⟨q4, ?_⟩⟩
        rw [step _ _ _ ey ex]
        cases hb : if_icmp.holds cd x' y' with
        | true => exact absurd (key.mpr hb) z
        | false => rfl
    · cases this
  rcases y with ((_ | _) | (_ | _)) | ((_ | _) | (_ | _)) <;> first | exact absurd q1.symm hr | skip
  · rename_i b
    rcases x with ((_ | _) | (_ | _)) | ((_ | _) | (_ | _)) <;> first | exact absurd q1.symm hr | skip
    · rename_i a
      rcases brec_ok q1 with ⟨z, q2⟩ | ⟨z, q2⟩
      · exact ⟨S1, Or.inr ⟨q2, by rw [step _ _ _ rfl rfl, hz, z]; rfl⟩⟩
      · exact ⟨S1, Or.inl ⟨q2, by rw [step _ _ _ rfl rfl, hz, z]; rfl⟩⟩
    · exact tab q1
  · exact tab q1
theorem sgI (a : Nat) : ((sg a : Nat) : Int) = (Int32.ofNat a).toInt + 2147483648 := by
  rw [toInt_nat]
  show (((a + 2147483648) % 4294967296 : Nat) : Int) = _
  omega
theorem eqI {a b : Nat} : Int32.ofNat a = Int32.ofNat b ↔ a % 4294967296 = b % 4294967296 := by
  rw [← Int32.toInt_inj, toInt_nat, toInt_nat]
  omega
theorem decB {P : Prop} [Decidable P] {b : Bool} (h : P ↔ b = true) : decide P = b := by
  cases b
  · exact decide_eq_false fun p => by cases h.mp p
  · exact decide_eq_true (h.mpr rfl)
theorem beq_i {a b : Nat} : Nat.beq a b = true ↔ a = b := ⟨Nat.eq_of_beq_eq_true, fun e => by subst e; exact Nat.beq_refl a⟩
theorem blt_i {a b : Nat} : Nat.blt a b = true ↔ a < b := ⟨blt_lt, fun h => Nat.ble_eq_true_of_le h⟩
theorem not_i {P : Prop} {b : Bool} (h : P ↔ b = true) : ¬ P ↔ (not b) = true := by cases b <;> simp_all
theorem cEq_i (a b : Nat) : Int32.ofNat a = Int32.ofNat b ↔ cEq a b = true := eqI.trans beq_i.symm
theorem cLt_i (a b : Nat) : (Int32.ofNat a).toInt < (Int32.ofNat b).toInt ↔ cLt a b = true := by
  refine Iff.trans ?_ blt_i.symm
  have h1 := sgI a
  have h2 := sgI b
  omega
theorem cEq_ok : COk .eq cEq := fun a b => decB (cEq_i a b)
theorem cNe_ok : COk .ne cNe := fun a b => by
  have : if_icmp.holds .ne (Int32.ofNat a) (Int32.ofNat b) = !(if_icmp.holds .eq (Int32.ofNat a) (Int32.ofNat b)) := rfl
  rw [this, cEq_ok]; rfl
theorem cLt_ok : COk .lt cLt := fun a b => decB (by rw [Int32.lt_iff_toInt_lt]; exact cLt_i a b)
theorem cGe_ok : COk .ge cGe := fun a b => decB (by rw [ge_iff_le, Int32.le_iff_toInt_le, ← Int.not_lt]; exact not_i (cLt_i a b))
theorem cGt_ok : COk .gt cGt := fun a b => decB (by rw [gt_iff_lt, Int32.lt_iff_toInt_lt]; exact cLt_i b a)
theorem cLe_ok : COk .le cLe := fun a b => decB (by rw [Int32.le_iff_toInt_le, ← Int.not_lt]; exact not_i (cLt_i b a))
theorem zEq_i (a : Nat) : Int32.ofNat a = 0 ↔ zEq a = true := (cEq_i a 0).trans Iff.rfl
theorem zLt_i (a : Nat) : (Int32.ofNat a).toInt < 0 ↔ zLt a = true := by
  unfold zLt
  refine Iff.trans ?_ (⟨Nat.le_of_ble_eq_true, Nat.ble_eq_true_of_le⟩ : Nat.ble 2147483648 (Nat.mod a 4294967296) = true ↔ _).symm
  rw [toInt_nat]
  show _ ↔ 2147483648 ≤ a % 4294967296
  omega
theorem zGt_i (a : Nat) : 0 < (Int32.ofNat a).toInt ↔ zGt a = true := by
  refine Iff.trans ?_ blt_i.symm
  have h1 := sgI a
  omega
theorem zEq_ok : ZOk .eq zEq := fun a => decB (zEq_i a)
theorem zNe_ok : ZOk .ne zNe := fun a => by
  have : ifCond.holds .ne (Int32.ofNat a) = !(ifCond.holds .eq (Int32.ofNat a)) := rfl
  rw [this, zEq_ok]; rfl
theorem zLt_ok : ZOk .lt zLt := fun a => decB (by rw [Int32.lt_iff_toInt_lt]; exact zLt_i a)
theorem zGe_ok : ZOk .ge zGe := fun a => decB (by rw [ge_iff_le, Int32.le_iff_toInt_le, ← Int.not_lt]; exact not_i (zLt_i a))
theorem zGt_ok : ZOk .gt zGt := fun a => decB (by rw [gt_iff_lt, Int32.lt_iff_toInt_lt]; exact zGt_i a)
theorem zLe_ok : ZOk .le zLe := fun a => decB (by rw [Int32.le_iff_toInt_le, ← Int.not_lt]; exact not_i (zGt_i a))
theorem null_ok {off : Int} {p tg : Nat} (hE : E.1 M pc = some (.ifnull off, none, [], .null)) (ho : 0 ≤ (pc : Int) + off ∧ ((pc : Int) + off).toNat = tg) (hn : pc + 3 = p) (ht : Sim ρ E M tg t) (hc : Sim ρ E M p c) : Sim ρ E M pc (nullF t c) := by
  subst hn
  refine sim_b (i := .ifnull off) hE rfl rfl ht hc fun L S A r q hr => ?_
  obtain ⟨x, S1, rfl, q1⟩ := hd_ok q hr
  clear q
  rcases x with ((_ | _) | (_ | _)) | ((_ | _) | (_ | _)) <;> first | exact absurd q1.symm hr | skip
  · exact ⟨S1, Or.inr ⟨q1, rfl⟩⟩
  · refine ⟨S1, Or.inl ⟨q1, ?_⟩⟩
    show Own.jmp [] none pc _ _ off = _
    unfold Own.jmp
    rw [if_pos ho.1, ho.2]; rfl
theorem nonnull_ok {off : Int} {p tg : Nat} (hE : E.1 M pc = some (.ifnonnull off, none, [], .null)) (ho : 0 ≤ (pc : Int) + off ∧ ((pc : Int) + off).toNat = tg) (hn : pc + 3 = p) (ht : Sim ρ E M tg t) (hc : Sim ρ E M p c) : Sim ρ E M pc (nullF c t) := by
  subst hn
  refine sim_b (i := .ifnonnull off) hE rfl rfl ht hc fun L S A r q hr => ?_
  obtain ⟨x, S1, rfl, q1⟩ := hd_ok q hr
  clear q
  rcases x with ((_ | _) | (_ | _)) | ((_ | _) | (_ | _)) <;> first | exact absurd q1.symm hr | skip
  · refine ⟨S1, Or.inl ⟨q1, ?_⟩⟩
    show Own.jmp [] none pc _ _ off = _
    unfold Own.jmp
    rw [if_pos ho.1, ho.2]; rfl
  · exact ⟨S1, Or.inr ⟨q1, rfl⟩⟩
/-! the heap -/
theorem sim_h {i : Instr} {nums : List Nat} {val : Value} {c' : Cont} {p : Nat} (hE : E.1 M pc = some (i, none, nums, val)) (hs : Own.sort i nums = 2) (hp : Own.isPure i = false) (hc : Sim ρ E M p c)
    (h : ∀ L S A r, c' L S A = r → r ≠ .bad → ∃ S1 A1, c L S1 A1 = r ∧ Own.hstep E.2.2.2.2.2.2 E.2.2.2.1 E.2.2.2.2.1 E.2.2.2.2.2.1 i nums val none pc (avL ρ (E.2.1 M) L) (avS ρ S) (avA ρ A) = some ([], none, p, avL ρ (E.2.1 M) L, avS ρ S1, avA ρ A1, 0, 0, 0, 0)) : Sim ρ E M pc c' := by
  refine sim_step hE hs fun L S A v A' k n f w hq => ?_
  obtain ⟨S1, A1, h1, h2⟩ := h L S A _ hq bad_ne
  exact ⟨_, c, L, S1, A1, 0, 0, 0, 0, k, n, f, w, hc, by simp only [Own.step, hp, h2], h1, by omega, by omega, by omega, by omega⟩
theorem sim_k {i : Instr} {nums : List Nat} {val : Value} {c' : Cont} {p : Nat} (hE : E.1 M pc = some (i, none, nums, val)) (hs : Own.sort i nums = 2) (hp : Own.isPure i = false) (hc : Sim ρ E M p c)
    (h : ∀ L S A r, c' L S A = r → r ≠ .bad → ∃ S1 A1 k1 n1 f1 w1, addC k1 n1 f1 w1 (c L S1 A1) = r ∧ Own.hstep E.2.2.2.2.2.2 E.2.2.2.1 E.2.2.2.2.1 E.2.2.2.2.2.1 i nums val none pc (avL ρ (E.2.1 M) L) (avS ρ S) (avA ρ A) = some ([], none, p, avL ρ (E.2.1 M) L, avS ρ S1, avA ρ A1, k1, n1, f1, w1)) : Sim ρ E M pc c' := by
  refine sim_step hE hs fun L S A v A' k n f w hq => ?_
  obtain ⟨S1, A1, k1, n1, f1, w1, h1, h2⟩ := h L S A _ hq bad_ne
  obtain ⟨k2, n2, f2, w2, h3, h4⟩ := addC_ok h1
  exact ⟨_, c, L, S1, A1, k1, n1, f1, w1, k2, n2, f2, w2, hc, by simp only [Own.step, hp, h2], h3, h4⟩
theorem ldc_int_ok {ix p n : Nat} {z : Int32} (hz : z = Int32.ofNat n) (hE : E.1 M pc = some (.ldc ix, none, [], .int z)) (hn : pc + 2 = p) (hc : Sim ρ E M p c) : Sim ρ E M pc (cstF (.int n) c) := by
  subst hn hz
  exact sim_h (i := .ldc ix) hE rfl rfl hc fun L S A r q hr => ⟨_, A, q, rfl⟩
theorem ldc_w_int_ok {ix p n : Nat} {z : Int32} (hz : z = Int32.ofNat n) (hE : E.1 M pc = some (.ldc_w ix, none, [], .int z)) (hn : pc + 3 = p) (hc : Sim ρ E M p c) : Sim ρ E M pc (cstF (.int n) c) := by
  subst hn hz
  exact sim_h (i := .ldc_w ix) hE rfl rfl hc fun L S A r q hr => ⟨_, A, q, rfl⟩
theorem ldc2_w_long_ok {ix p n : Nat} {z : Int64} (hz : z = Int64.ofNat n) (hE : E.1 M pc = some (.ldc2_w ix, none, [], .long z)) (hn : pc + 3 = p) (hc : Sim ρ E M p c) : Sim ρ E M pc (cstF (.long n) c) := by
  subst hn hz
  exact sim_h (i := .ldc2_w ix) hE rfl rfl hc fun L S A r q hr => ⟨_, A, q, rfl⟩
theorem ldc2_w_double_ok {ix p n : Nat} {z : UInt64} (hz : z = UInt64.ofNat n) (hE : E.1 M pc = some (.ldc2_w ix, none, [], .double z)) (hn : pc + 3 = p) (hc : Sim ρ E M p c) : Sim ρ E M pc (cstF (.double n) c) := by
  subst hn hz
  exact sim_h (i := .ldc2_w ix) hE rfl rfl hc fun L S A r q hr => ⟨_, A, q, rfl⟩
theorem stat_ok {ix p : Nat} {v : AV} {z : Value} (hz : z = av ρ v) (hE : E.1 M pc = some (.getstatic ix, none, [], z)) (hn : pc + 3 = p) (hc : Sim ρ E M p c) : Sim ρ E M pc (cstF v c) := by
  subst hn hz
  exact sim_h (i := .getstatic ix) hE rfl rfl hc fun L S A r q hr => ⟨_, A, q, rfl⟩
theorem onR_ok {v : AV} {k : Nat → Res} {r : Res} (h : onR v k = r) (hr : r ≠ .bad) : ∃ a, v = .ref a ∧ k a = r := by
  rcases v with ((_ | _) | (_ | _)) | ((_ | _) | (_ | _)) <;> first | exact ⟨_, rfl, h⟩ | exact absurd h.symm hr
theorem obj_ok {A : XH} {a : Nat} {k : Nat → List AV → Res} {r : Res} (h : obj A a k = r) (hr : r ≠ .bad) : ∃ kd vs, A[a]? = some (kd, vs) ∧ k kd vs = r := by
  obtain ⟨⟨kd, vs⟩, h1, h2⟩ := nth_ok h hr
  exact ⟨kd, vs, h1, h2⟩
theorem kind_ok {A : XH} {a kd : Nat} {k : List AV → Res} {r : Res} (h : kind A a kd k = r) (hr : r ≠ .bad) : ∃ vs, A[a]? = some (kd, vs) ∧ k vs = r := by
  obtain ⟨kd', vs, h1, h2⟩ := obj_ok h hr
  obtain ⟨z, h3⟩ := brec_t h2 hr
  have := Nat.eq_of_beq_eq_true z
  subst this
  exact ⟨vs, h1, h3⟩
theorem avA_get {A : XH} {a : Nat} {o : XO} (h : A[a]? = some o) : (avA ρ A)[a]? = some (o.1, avS ρ o.2) := by
  unfold avA; rw [List.getElem?_map, h]; rfl
theorem avS_get {S : List AV} {a : Nat} {v : AV} (h : S[a]? = some v) : (avS ρ S)[a]? = some (av ρ v) := by
  unfold avS; rw [List.getElem?_map, h]; rfl
theorem avA_set {A : XH} {a : Nat} {o : XO} : avA ρ (A.set a o) = (avA ρ A).set a (avO ρ o) := by unfold avA; rw [List.map_set]
theorem avS_set {S : List AV} {a : Nat} {v : AV} : avS ρ (S.set a v) = (avS ρ S).set a (av ρ v) := by unfold avS; rw [List.map_set]
theorem avS_len {S : List AV} : (avS ρ S).length = S.length := by unfold avS; rw [List.length_map]
theorem avA_len {A : XH} : (avA ρ A).length = A.length := by unfold avA; rw [List.length_map]
theorem avA_app {A : XH} {o : XO} : avA ρ (A ++ [o]) = avA ρ A ++ [avO ρ o] := by unfold avA; rw [List.map_append]; rfl
theorem idx_ok {j : AV} {k : Nat → Res} {r : Res} (hT : TOk ρ E T) (h : idx T j k = r) (hr : r ≠ .bad) : ∃ n, n < 2147483648 ∧ av ρ j = .int (Int32.ofNat n) ∧ k n = r := by
  rcases j with ((_ | _) | (_ | _)) | ((_ | _) | (_ | _)) <;> first | exact absurd h.symm hr | skip
  · rename_i n
    obtain ⟨z, h⟩ := brec_t h hr
    exact ⟨n, blt_lt z, rfl, h⟩
  · rename_i m
    obtain ⟨v, q1, q2⟩ := tabC_ok h hr
    rcases v with ((_ | _) | (_ | _)) | ((_ | _) | (_ | _)) <;> first | exact absurd q2.symm hr | skip
    rename_i n
    obtain ⟨z, q3⟩ := brec_t q2 hr
    have := hT _ _ _ _ q1
    unfold sem at this
    simp only [Nat.reduceLT, if_false, if_true] at this
    exact ⟨n, blt_lt z, Option.some.inj this, q3⟩
theorem notNeg {n : Nat} (h : n < 2147483648) : ¬ Int32.ofNat n < 0 := by
  rw [Int32.lt_iff_toInt_lt, small n h]
  show ¬ (n : Int) < 0
  omega
theorem alF_ok {i : Instr} {kd p : Nat} (hT : TOk ρ E T) (hk : Own.alK i kd = true) (hp : ∀ L S A, Own.hstep E.2.2.2.2.2.2 E.2.2.2.1 E.2.2.2.2.1 E.2.2.2.2.2.1 i [] .null none pc L S A = Own.hAl i none pc L S A) (hs : Own.sort i [] = 2) (hu : Own.isPure i = false)
    (hE : E.1 M pc = some (i, none, [], .null)) (hn : pc + 1 = p) (hc : Sim ρ E M p c) : Sim ρ E M pc (alF T kd c) := by
  subst hn
  refine sim_h hE hs hu hc fun L S A r q hr => ?_
  obtain ⟨j, S1, rfl, q1⟩ := hd_ok q hr
  obtain ⟨a, S2, rfl, q2⟩ := hd_ok q1 hr
  obtain ⟨a, rfl, q3⟩ := onR_ok q2 hr
  obtain ⟨n, n1, n2, q4⟩ := idx_ok hT q3 hr
  obtain ⟨vs, o1, q5⟩ := kind_ok q4 hr
  obtain ⟨v, v1, q6⟩ := nth_ok q5 hr
  refine ⟨_, A, q6, ?_⟩
  rw [hp]
  show Own.hAl i none pc _ (av ρ j :: .ref a :: avS ρ S2) _ = _
  rw [n2]
  unfold Own.hAl
  simp only [avA_get o1, hk, if_true, Own.need, if_pos (notNeg n1), clamp n n1, avS_get v1]
  rfl
/-- what an array or a field takes -/
def OnF (ρ : Rho) (P : Value → Prop) (on : AV → Res → Res) : Prop := ∀ v k r, on v k = r → r ≠ .bad → P (av ρ v) ∧ k = r
theorem asF_ok {i : Instr} {kd p k0 : Nat} {on : AV → Res → Res} (hT : TOk ρ E T) (hk : OnF ρ (fun v => Own.asV i kd v = some v) on) (h0 : E.2.2.2.2.2.2 = k0) (hp : ∀ L S A, Own.hstep E.2.2.2.2.2.2 E.2.2.2.1 E.2.2.2.2.1 E.2.2.2.2.2.1 i [] .null none pc L S A = Own.hAs E.2.2.2.2.2.2 i none pc L S A) (hs : Own.sort i [] = 2) (hu : Own.isPure i = false)
    (hE : E.1 M pc = some (i, none, [], .null)) (hn : pc + 1 = p) (hc : Sim ρ E M p c) : Sim ρ E M pc (asF T k0 kd on c) := by
  subst hn h0
  refine sim_h hE hs hu hc fun L S A r q hr => ?_
  obtain ⟨v, S0, rfl, q0⟩ := hd_ok q hr
  obtain ⟨j, S1, rfl, q1⟩ := hd_ok q0 hr
  obtain ⟨a, S2, rfl, q2⟩ := hd_ok q1 hr
  obtain ⟨a, rfl, q3⟩ := onR_ok q2 hr
  obtain ⟨u1, q4⟩ := hk v _ r q3 hr
  obtain ⟨z, q5⟩ := brec_t q4 hr
  obtain ⟨n, n1, n2, q6⟩ := idx_ok hT q5 hr
  obtain ⟨vs, o1, q7⟩ := kind_ok q6 hr
  obtain ⟨l1, q8⟩ := setC_ok q7 hr
  obtain ⟨l2, q9⟩ := setC_ok q8 hr
  refine ⟨_, _, q9, ?_⟩
  rw [hp]
  show Own.hAs _ i none pc _ (av ρ v :: av ρ j :: .ref a :: avS ρ S2) _ = _
  rw [n2]
  unfold Own.hAs
  simp only [avA_get o1, u1, clamp n n1, avS_len]
  rw [if_pos ⟨Nat.le_of_ble_eq_true z, l1⟩]
  simp only [Own.need, if_pos (notNeg n1), Own.forceL_eq]
  rw [avA_set]
  show some _ = some _
  rw [show avO ρ (kd, vs.set n v) = (kd, (avS ρ vs).set n (av ρ v)) by unfold avO; rw [avS_set]]
theorem iastore_on : OnF ρ (fun v => Own.asV .iastore 0 v = some v) onI := fun v k r q hr => by obtain ⟨⟨x, e⟩, -, q⟩ := onI_ok (ρ := ρ) q hr; exact ⟨by rw [e]; rfl, q⟩
theorem lastore_on : OnF ρ (fun v => Own.asV .lastore 1 v = some v) onJ := fun v k r q hr => by obtain ⟨⟨x, e⟩, -, q⟩ := onJ_ok (ρ := ρ) q hr; exact ⟨by rw [e]; rfl, q⟩
theorem dastore_on : OnF ρ (fun v => Own.asV .dastore 2 v = some v) onD := fun v k r q hr => by obtain ⟨⟨x, e⟩, -, q⟩ := onD_ok (ρ := ρ) q hr; exact ⟨by rw [e]; rfl, q⟩
theorem arT_le {kd : Nat} (h : kd ≤ 4) : (Own.arT kd).isSome = true := by
  have : kd = 0 ∨ kd = 1 ∨ kd = 2 ∨ kd = 3 ∨ kd = 4 := by omega
  rcases this with rfl | rfl | rfl | rfl | rfl <;> rfl
theorem alenF_ok {p : Nat} (hE : E.1 M pc = some (.arraylength, none, [], .null)) (hn : pc + 1 = p) (hc : Sim ρ E M p c) : Sim ρ E M pc (alenF c) := by
  subst hn
  refine sim_h (i := .arraylength) hE rfl rfl hc fun L S A r q hr => ?_
  obtain ⟨a, S2, rfl, q2⟩ := hd_ok q hr
  obtain ⟨a, rfl, q3⟩ := onR_ok q2 hr
  obtain ⟨kd, vs, o1, q4⟩ := obj_ok q3 hr
  obtain ⟨z, q5⟩ := brec_t q4 hr
  rw [lenC_eq] at q5
  obtain ⟨z2, q6⟩ := brec_t q5 hr
  refine ⟨_, A, q6, ?_⟩
  show Own.hstep _ _ _ _ .arraylength [] .null none pc _ (.ref a :: avS ρ S2) _ = _
  unfold Own.hstep
  simp only [avA_get o1, arT_le (Nat.le_of_ble_eq_true z), if_true, avS_len]
  rw [len32, Nat.zero_add]
  rfl
theorem getF_ok {ix kd j p : Nat} (hE : E.1 M pc = some (.getfield ix, none, [kd, j], .null)) (hn : pc + 3 = p) (hc : Sim ρ E M p c) : Sim ρ E M pc (getF kd j c) := by
  subst hn
  refine sim_h (i := .getfield ix) hE rfl rfl hc fun L S A r q hr => ?_
  obtain ⟨a, S2, rfl, q2⟩ := hd_ok q hr
  obtain ⟨a, rfl, q3⟩ := onR_ok q2 hr
  obtain ⟨vs, o1, q4⟩ := kind_ok q3 hr
  obtain ⟨v, v1, q5⟩ := nth_ok q4 hr
  refine ⟨_, A, q5, ?_⟩
  show Own.hstep _ _ _ _ (.getfield ix) [kd, j] .null none pc _ (.ref a :: avS ρ S2) _ = _
  unfold Own.hstep
  simp only [avA_get o1, if_true, avS_get v1]
  rfl
theorem putF_ok {ix kd j t p k0 : Nat} {on : AV → Res → Res} (hk : OnF ρ (fun v => Own.fitT none t v = some []) on) (h0 : E.2.2.2.2.2.2 = k0) (hE : E.1 M pc = some (.putfield ix, none, [kd, j, t], .null)) (hn : pc + 3 = p) (hc : Sim ρ E M p c) : Sim ρ E M pc (putF k0 kd j on c) := by
  subst hn h0
  refine sim_h (i := .putfield ix) hE rfl rfl hc fun L S A r q hr => ?_
  obtain ⟨v, S1, rfl, q1⟩ := hd_ok q hr
  obtain ⟨a, S2, rfl, q2⟩ := hd_ok q1 hr
  obtain ⟨a, rfl, q3⟩ := onR_ok q2 hr
  obtain ⟨u1, q4⟩ := hk v _ r q3 hr
  obtain ⟨z, q5⟩ := brec_t q4 hr
  obtain ⟨vs, o1, q6⟩ := kind_ok q5 hr
  obtain ⟨l1, q8⟩ := setC_ok q6 hr
  obtain ⟨l2, q9⟩ := setC_ok q8 hr
  refine ⟨_, _, q9, ?_⟩
  show Own.hstep _ _ _ _ (.putfield ix) [kd, j, t] .null none pc _ (av ρ v :: .ref a :: avS ρ S2) _ = _
  unfold Own.hstep
  simp only [avA_get o1]
  rw [if_pos ⟨trivial, Nat.le_of_ble_eq_true z⟩]
  simp only [u1, Own.forceL_eq]
  rw [avA_set, show avO ρ (kd, vs.set j v) = (kd, (avS ρ vs).set j (av ρ v)) by unfold avO; rw [avS_set]]
theorem fitI : OnF ρ (fun v => Own.fitT none 0 v = some []) onI := fun v k r q hr => by obtain ⟨⟨x, e⟩, -, q⟩ := onI_ok (ρ := ρ) q hr; exact ⟨by rw [e]; rfl, q⟩
theorem fitJ : OnF ρ (fun v => Own.fitT none 1 v = some []) onJ := fun v k r q hr => by obtain ⟨⟨x, e⟩, -, q⟩ := onJ_ok (ρ := ρ) q hr; exact ⟨by rw [e]; rfl, q⟩
theorem fitD : OnF ρ (fun v => Own.fitT none 2 v = some []) onD := fun v k r q hr => by obtain ⟨⟨x, e⟩, -, q⟩ := onD_ok (ρ := ρ) q hr; exact ⟨by rw [e]; rfl, q⟩
theorem fitA : OnF ρ (fun v => Own.fitT none 3 v = some []) onA := fun v k r q hr => by
  obtain ⟨e, -, q⟩ := onA_ok (ρ := ρ) q hr
  rcases e with ⟨x, e⟩ | e
  · exact ⟨by rw [e]; rfl, q⟩
  · exact ⟨by rw [e]; rfl, q⟩
theorem fit01 : OnF ρ (fun v => Own.fitT none 4 v = some []) on01 := fun v k r q hr => by
  obtain ⟨e, q⟩ := on01_ok q hr
  rcases e with rfl | rfl
  · exact ⟨(if_pos (by decide) : (if (Int32.ofNat 0 = 0 ∨ Int32.ofNat 0 = 1) then some ([] : List Prop) else none) = some []), q⟩
  · exact ⟨(if_pos (by decide) : (if (Int32.ofNat 1 = 0 ∨ Int32.ofNat 1 = 1) then some ([] : List Prop) else none) = some []), q⟩
theorem newF_ok {ix kd sz p : Nat} {vs : List AV} (hv : E.2.2.2.1 kd = (avS ρ vs, sz)) (hE : E.1 M pc = some (.new ix, none, [kd], .null)) (hn : pc + 3 = p) (hc : Sim ρ E M p c) : Sim ρ E M pc (newF kd sz vs c) := by
  subst hn
  refine sim_k (i := .new ix) hE rfl rfl hc fun L S A r q hr => ?_
  have q : snocC (kd, vs) A 0 (fun A' a => addC 1 sz 0 0 (c L (.ref a :: S) A')) = r := q
  rw [snocC_eq] at q
  refine ⟨_, _, _, _, _, _, q, ?_⟩
  show Own.hstep _ _ _ _ (.new ix) [kd] .null none pc _ (avS ρ S) _ = _
  unfold Own.hstep
  simp only [hv, Own.forceL_eq, Own.forceN_eq, avA_len, avA_app, Nat.zero_add]
  rfl
theorem newaF_ok {t : ArrayType} {kd p : Nat} {v : AV} (hT : TOk ρ E T) (hk : Own.naK t kd = true) (hv : Own.dvK kd = av ρ v) (hE : E.1 M pc = some (.newarray t, none, [kd], .null)) (hn : pc + 2 = p) (hc : Sim ρ E M p c) : Sim ρ E M pc (newaF T kd v c) := by
  subst hn
  refine sim_k (i := .newarray t) hE rfl rfl hc fun L S A r q hr => ?_
  obtain ⟨j, S1, rfl, q1⟩ := hd_ok q hr
  obtain ⟨n, n1, n2, q2⟩ := idx_ok hT q1 hr
  obtain ⟨z, q3⟩ := brec_t q2 hr
  rw [repC_eq, snocC_eq] at q3
  refine ⟨_, _, _, _, _, _, q3, ?_⟩
  show Own.hstep _ _ _ _ (.newarray t) [kd] .null none pc _ (av ρ j :: avS ρ S1) _ = _
  rw [n2]
  unfold Own.hstep
  simp only [hk, if_true, Own.need, clamp n n1]
  rw [if_pos ⟨notNeg n1, Nat.le_of_ble_eq_true z⟩]
  simp only [Own.forceL_eq, Own.forceN_eq, avA_len, avA_app, Nat.zero_add, hv]
  rw [show avO ρ (kd, List.replicate n v) = (kd, List.replicate n (av ρ v)) by unfold avO avS; rw [List.map_replicate]]
  rfl
theorem cloneF_ok {ix kd p : Nat} (hE : E.1 M pc = some (.invokevirtual ix, none, [0, kd], .null)) (hn : pc + 3 = p) (hc : Sim ρ E M p c) : Sim ρ E M pc (cloneF kd c) := by
  subst hn
  refine sim_k (i := .invokevirtual ix) hE rfl rfl hc fun L S A r q hr => ?_
  obtain ⟨a, S2, rfl, q2⟩ := hd_ok q hr
  obtain ⟨a, rfl, q3⟩ := onR_ok q2 hr
  obtain ⟨vs, o1, q4⟩ := kind_ok q3 hr
  rw [snocC_eq, lenC_eq] at q4
  refine ⟨_, _, _, _, _, _, q4, ?_⟩
  show Own.hstep _ _ _ _ (.invokevirtual ix) [0, kd] .null none pc _ (.ref a :: avS ρ S2) _ = _
  unfold Own.hstep
  simp only [avA_get o1, if_true, Own.forceL_eq, Own.forceN_eq, avA_len, avA_app, Nat.zero_add, avS_len, xcs_eq]
  rfl
theorem castF_ok {ix p : Nat} {ks : List Nat} {kf : Nat → Bool} (hk : ∀ k, kf k = true → ks.contains k = true) (hE : E.1 M pc = some (.checkcast ix, none, ks, .null)) (hn : pc + 3 = p) (hc : Sim ρ E M p c) : Sim ρ E M pc (castF kf c) := by
  subst hn
  refine sim_h (i := .checkcast ix) hE rfl rfl hc fun L S A r q hr => ?_
  obtain ⟨x, S2, rfl, q2⟩ := hd_ok q hr
  clear q
  rcases x with ((_ | _) | (_ | _)) | ((_ | _) | (_ | _)) <;> first | exact absurd q2.symm hr | skip
  rename_i a
  obtain ⟨kd, vs, o1, q4⟩ := obj_ok q2 hr
  obtain ⟨z, q5⟩ := brec_t q4 hr
  refine ⟨_, A, q5, ?_⟩
  show Own.hstep _ _ _ _ (.checkcast ix) ks .null none pc _ (.ref a :: avS ρ S2) _ = _
  unfold Own.hstep
  simp only [avA_get o1, hk kd z, if_true]
  rfl
theorem oinitF_ok {ix p : Nat} (hE : E.1 M pc = some (.invokespecial ix, none, [0], .null)) (hn : pc + 3 = p) (hc : Sim ρ E M p c) : Sim ρ E M pc (oinitF c) := by
  subst hn
  refine sim_k (i := .invokespecial ix) hE rfl rfl hc fun L S A r q hr => ?_
  obtain ⟨a, S2, rfl, q2⟩ := hd_ok q hr
  obtain ⟨a, rfl, q3⟩ := onR_ok q2 hr
  refine ⟨_, _, _, _, _, _, q3, ?_⟩
  show some (([] : List Prop), (none : Own.Orc), pc + 3, avL ρ (E.2.1 M) L, avS ρ S2, avA ρ A, 0, 0, 1, Own.csum (avS ρ S2) + 12) = _
  rw [xcs_eq]
theorem ext1F_ok {ix x f w p o : Nat} (hT : TOk ρ E T) (ho : o = 100 + x) (hw : E.2.2.2.2.2.1 x = (f, w)) (hE : E.1 M pc = some (.invokestatic ix, none, [0, x, 1], .null)) (hn : pc + 3 = p) (hc : Sim ρ E M p c) : Sim ρ E M pc (ext1F T o f w c) := by
  subst hn ho
  refine sim_k (i := .invokestatic ix) hE rfl rfl hc fun L S A r q hr => ?_
  obtain ⟨a, S2, rfl, q2⟩ := hd_ok q hr
  obtain ⟨v, v1, q3⟩ := tabC_ok q2 hr
  refine ⟨_, _, _, _, _, _, q3, ?_⟩
  have := hT _ _ _ _ v1
  unfold sem at this
  rw [if_neg (by omega), if_neg (by omega), if_neg (by omega), if_neg (by omega), if_neg (by omega), if_neg (by omega), if_neg (by omega), if_pos (by omega), show 100 + x - 100 = x by omega] at this
  show Own.hstep _ _ _ _ (.invokestatic ix) [0, x, 1] .null none pc _ (av ρ a :: avS ρ S2) _ = _
  unfold Own.hstep
  simp only [List.length_cons, Nat.le_add_left, if_true, List.take_succ_cons, List.take_zero, List.reverse_cons, List.reverse_nil, List.nil_append, List.drop_succ_cons, List.drop_zero]
  split at this
  · rename_i v' hx
    cases this
    simp only [hx, Own.need, if_true, hw, xcs_eq]
    rfl
  · cases this
/-! returns and calls -/
theorem sim_r {i : Instr} {c' : Cont} (hE : E.1 M pc = some (i, none, [], .null)) (hs : Own.sort i [] = 0) (h : ∀ L S A r, c' L S A = r → r ≠ .bad → ∃ v, r = .ok v A 0 0 0 0 ∧ Own.retV i (E.2.2.1 M) (avS ρ S) = some (v.map (av ρ))) : Sim ρ E M pc c' := by
  intro L S A v A' k n f w hc
  obtain ⟨v', e, h1⟩ := h L S A _ hc bad_ne
  obtain ⟨rfl, rfl, rfl, rfl, rfl, rfl⟩ := ok_inj e
  refine ⟨1, fun fuel hf => ?_⟩
  obtain ⟨m, rfl⟩ : ∃ m, fuel = m + 1 := ⟨fuel - 1, by omega⟩
  rw [Own.run]
  simp only [hE, Own.pinS, hs, h1]
theorem stop_ok : Sim ρ E M pc stop := fun L S A v A' k n f w h => by cases h
theorem retI_ok (ht : E.2.2.1 M = some .int) (hE : E.1 M pc = some (.ireturn, none, [], .null)) : Sim ρ E M pc (retF onI) := by
  refine sim_r (i := .ireturn) hE rfl fun L S A r q hr => ?_
  obtain ⟨v, S1, rfl, q1⟩ := hd_ok q hr
  obtain ⟨⟨x, e⟩, -, q2⟩ := onI_ok (ρ := ρ) q1 hr
  refine ⟨some v, q2.symm, ?_⟩
  rw [ht]
  show Own.retV .ireturn (some .int) (av ρ v :: avS ρ S1) = some (some (av ρ v))
  rw [e]; rfl
theorem retJ_ok (ht : E.2.2.1 M = some .long) (hE : E.1 M pc = some (.lreturn, none, [], .null)) : Sim ρ E M pc (retF onJ) := by
  refine sim_r (i := .lreturn) hE rfl fun L S A r q hr => ?_
  obtain ⟨v, S1, rfl, q1⟩ := hd_ok q hr
  obtain ⟨⟨x, e⟩, -, q2⟩ := onJ_ok (ρ := ρ) q1 hr
  refine ⟨some v, q2.symm, ?_⟩
  rw [ht]
  show Own.retV .lreturn (some .long) (av ρ v :: avS ρ S1) = some (some (av ρ v))
  rw [e]; rfl
theorem retD_ok (ht : E.2.2.1 M = some .double) (hE : E.1 M pc = some (.dreturn, none, [], .null)) : Sim ρ E M pc (retF onD) := by
  refine sim_r (i := .dreturn) hE rfl fun L S A r q hr => ?_
  obtain ⟨v, S1, rfl, q1⟩ := hd_ok q hr
  obtain ⟨⟨x, e⟩, -, q2⟩ := onD_ok (ρ := ρ) q1 hr
  refine ⟨some v, q2.symm, ?_⟩
  rw [ht]
  show Own.retV .dreturn (some .double) (av ρ v :: avS ρ S1) = some (some (av ρ v))
  rw [e]; rfl
theorem retA_ok {ty : FieldType} (ht : E.2.2.1 M = some ty) (hty : (∃ C, ty = .object C) ∨ ∃ u, ty = .array u) (hE : E.1 M pc = some (.areturn, none, [], .null)) : Sim ρ E M pc (retF onA) := by
  refine sim_r (i := .areturn) hE rfl fun L S A r q hr => ?_
  obtain ⟨v, S1, rfl, q1⟩ := hd_ok q hr
  obtain ⟨e, -, q2⟩ := onA_ok (ρ := ρ) q1 hr
  refine ⟨some v, q2.symm, ?_⟩
  rw [ht]
  show Own.retV .areturn (some ty) (av ρ v :: avS ρ S1) = some (some (av ρ v))
  rcases hty with ⟨C, rfl⟩ | ⟨u, rfl⟩ <;> rcases e with ⟨x, e⟩ | e <;> (rw [e]; rfl)
theorem retZ_ok (ht : E.2.2.1 M = some .boolean) (hE : E.1 M pc = some (.ireturn, none, [], .null)) : Sim ρ E M pc (retF on01) := by
  refine sim_r (i := .ireturn) hE rfl fun L S A r q hr => ?_
  obtain ⟨v, S1, rfl, q1⟩ := hd_ok q hr
  obtain ⟨e, q2⟩ := on01_ok q1 hr
  refine ⟨some v, q2.symm, ?_⟩
  rw [ht]
  rcases e with rfl | rfl <;> rfl
theorem retN_ok (ht : E.2.2.1 M = none) (hE : E.1 M pc = some (.return_, none, [], .null)) : Sim ρ E M pc xretV := by
  refine sim_r (i := .return_) hE rfl fun L S A r q hr => ?_
  cases S with
  | cons v t => exact absurd q.symm hr
  | nil =>
    refine ⟨none, q.symm, ?_⟩
    rw [ht]; rfl
/-- what a callee's run must be -/
def SimR (ρ : Rho) (E : Own.EV) (R : Cal) : Prop := ∀ b L A v A' k n f w, R b L A = .ok v A' k n f w → ∃ N, ∀ fuel, N ≤ fuel → Own.run E fuel b 0 (avL ρ (E.2.1 b) L) [] (avA ρ A) none = some ([], none, v.map (av ρ), avA ρ A', k, n, f, w)
theorem sim_c {R : Cal} {i : Instr} {nums : List Nat} {c' : Cont} {p : Nat} (hR : SimR ρ E R) (hE : E.1 M pc = some (i, none, nums, .null)) (hs : Own.sort i nums = 1) (hn : pc + 3 = p) (hc : Sim ρ E M p c)
    (h : ∀ L S A r, c' L S A = r → r ≠ .bad → ∃ b ml as rest L', callF R b ml rest L A c L' = r ∧ ml = E.2.1 b ∧ Own.callee i nums (avS ρ S) (avA ρ A) = some (b, avS ρ as, avS ρ rest) ∧ (Own.aFill (avS ρ as)).length ≤ E.2.1 b ∧ Own.aL (avS ρ as) (E.2.1 b) = avL ρ (E.2.1 b) L') : Sim ρ E M pc c' := by
  subst hn
  intro L S A v A' k n f w hq
  obtain ⟨b, ml, as, rest, L', h1, rfl, h2, h3, h4⟩ := h L S A _ hq bad_ne
  unfold callF at h1
  rcases (R b L' A).dest with hcal | ⟨v1, A1, k1, n1, f1, w1, hcal⟩
  · rw [hcal] at h1; cases h1
  · rw [hcal] at h1
    have h1 : addC k1 n1 (Nat.succ f1) (Nat.add (Nat.add (xcs rest) (Nat.add (E.2.1 b) 11)) w1) (orc (c L rest A1) (fun u => c L (u :: rest) A1) v1) = _ := h1
    obtain ⟨k2, n2, f2, w2, h5, rfl, rfl, rfl, rfl⟩ := addC_ok h1
    have h6 : c L (v1.toList ++ rest) A1 = .ok v A' k2 n2 f2 w2 := by cases v1 <;> exact h5
    obtain ⟨N1, hN1⟩ := hR b L' A _ _ _ _ _ _ hcal
    obtain ⟨N2, hN2⟩ := hc L _ A1 v A' k2 n2 f2 w2 h6
    refine ⟨N1 + N2 + 1, fun fuel hf => ?_⟩
    obtain ⟨m, rfl⟩ : ∃ m, fuel = m + 1 := ⟨fuel - 1, by omega⟩
    have a1 := hN1 m (by omega)
    have a2 := hN2 m (by omega)
    have e1 : (v1.map (av ρ)).toList ++ avS ρ rest = avS ρ (v1.toList ++ rest) := by
      cases v1 <;> simp [avS]
    rw [Own.run]
    simp only [hE, Own.pinS, hs, h2, if_pos h3, Own.forceL_eq, Own.forceN_eq, h4, a1, e1, a2, List.nil_append, xcs_eq]
    rfl
/-- how a callee's arguments lie: the word of each -/
def Lay (as : List AV) (ml : Nat) (L' : LT) : Prop := ∀ ρ : Rho, (Own.aFill (avS ρ as)).length ≤ ml ∧ Own.aL (avS ρ as) ml = avL ρ ml L'
def StatC (R : Cal) (b ml na : Nat) (F : Cont → Cont) : Prop := ∀ c L S A r, F c L S A = r → r ≠ .bad → ∃ as rest L', S = as.reverse ++ rest ∧ as.length = na ∧ callF R b ml rest L A c L' = r ∧ Lay as ml L'
theorem statF_ok {R : Cal} {F : Cont → Cont} {ix b na p ml : Nat} (hF : StatC R b ml na F) (hR : SimR ρ E R) (hm : ml = E.2.1 b) (hE : E.1 M pc = some (.invokestatic ix, none, [1, b, na], .null)) (hn : pc + 3 = p) (hc : Sim ρ E M p c) : Sim ρ E M pc (F c) := by
  refine sim_c (i := .invokestatic ix) hR hE rfl hn hc fun L S A r q hr => ?_
  obtain ⟨as, rest, L', rfl, rfl, h1, h2⟩ := hF c L S A r q hr
  refine ⟨b, ml, as, rest, L', h1, hm, ?_, hm ▸ (h2 ρ).1, hm ▸ (h2 ρ).2⟩
  have e1 : avS ρ (as.reverse ++ rest) = (avS ρ as).reverse ++ avS ρ rest := by simp [avS]
  have e2 : as.length = ((avS ρ as).reverse).length := by simp [avS]
  show (if as.length ≤ (avS ρ (as.reverse ++ rest)).length then some (b, ((avS ρ (as.reverse ++ rest)).take as.length).reverse, (avS ρ (as.reverse ++ rest)).drop as.length) else none) = _
  rw [e1, if_pos (by simp [avS]), e2, List.take_left, List.drop_left, List.reverse_reverse]
def SpecC (R : Cal) (b ml na : Nat) (F : Cont → Cont) : Prop := ∀ c L S A r, F c L S A = r → r ≠ .bad → ∃ a as rest L', S = as.reverse ++ .ref a :: rest ∧ as.length = na ∧ callF R b ml rest L A c L' = r ∧ Lay (.ref a :: as) ml L'
theorem drop_at {α : Type} {as : List α} {x : α} {r : List α} : (as.reverse ++ x :: r).drop as.length = x :: r := by
  rw [show as.length = as.reverse.length by simp, List.drop_left]
theorem take_at {α : Type} {as : List α} {x : α} {r : List α} : ((as.reverse ++ x :: r).take as.length).reverse = as := by
  rw [show as.length = as.reverse.length by simp, List.take_left, List.reverse_reverse]
theorem specF_ok {R : Cal} {F : Cont → Cont} {ix b na p ml : Nat} (hF : SpecC R b ml na F) (hR : SimR ρ E R) (hm : ml = E.2.1 b) (hE : E.1 M pc = some (.invokespecial ix, none, [1, b, na], .null)) (hn : pc + 3 = p) (hc : Sim ρ E M p c) : Sim ρ E M pc (F c) := by
  refine sim_c (i := .invokespecial ix) hR hE rfl hn hc fun L S A r q hr => ?_
  obtain ⟨a, as, rest, L', rfl, rfl, h1, h2⟩ := hF c L S A r q hr
  refine ⟨b, ml, .ref a :: as, rest, L', h1, hm, ?_, hm ▸ (h2 ρ).1, hm ▸ (h2 ρ).2⟩
  have e1 : avS ρ (as.reverse ++ .ref a :: rest) = (avS ρ as).reverse ++ .ref a :: avS ρ rest := by simp [avS, show av ρ (.ref a) = Value.ref a from rfl]
  have e2 : as.length = (avS ρ as).length := by simp [avS]
  show (match (avS ρ (as.reverse ++ AV.ref a :: rest)).drop as.length with
      | .ref a' :: rest' => some (b, Value.ref a' :: ((avS ρ (as.reverse ++ AV.ref a :: rest)).take as.length).reverse, rest')
      | _ => none) = _
  rw [e1, e2, drop_at]
  simp only []
  rw [take_at]
  rfl
def VirtC (R : Cal) (na : Nat) (lk : Nat → Option (Nat × Nat)) (F : Cont → Cont) : Prop := ∀ c L S A r, F c L S A = r → r ≠ .bad → ∃ a as rest L' kd vs b ml, S = as.reverse ++ .ref a :: rest ∧ as.length = na ∧ A[a]? = some (kd, vs) ∧ lk kd = some (b, ml) ∧ callF R b ml rest L A c L' = r ∧ Lay (.ref a :: as) ml L'
theorem virtF_ok {R : Cal} {F : Cont → Cont} {ix na p : Nat} {tb : List Nat} {lk : Nat → Option (Nat × Nat)} (hF : VirtC R na lk F) (hR : SimR ρ E R) (hl : ∀ k b ml, lk k = some (b, ml) → Own.look tb k = some b ∧ ml = E.2.1 b) (hE : E.1 M pc = some (.invokevirtual ix, none, 1 :: na :: tb, .null)) (hn : pc + 3 = p) (hc : Sim ρ E M p c) : Sim ρ E M pc (F c) := by
  refine sim_c (i := .invokevirtual ix) hR hE rfl hn hc fun L S A r q hr => ?_
  obtain ⟨a, as, rest, L', kd, vs, b, ml, rfl, rfl, h0, h00, h1, h2⟩ := hF c L S A r q hr
  obtain ⟨l1, rfl⟩ := hl kd b ml h00
  refine ⟨b, _, .ref a :: as, rest, L', h1, rfl, ?_, (h2 ρ).1, (h2 ρ).2⟩
  have e1 : avS ρ (as.reverse ++ .ref a :: rest) = (avS ρ as).reverse ++ .ref a :: avS ρ rest := by simp [avS, show av ρ (.ref a) = Value.ref a from rfl]
  have e2 : as.length = (avS ρ as).length := by simp [avS]
  show (match (avS ρ (as.reverse ++ AV.ref a :: rest)).drop as.length with
      | .ref a' :: rest' => (match (avA ρ A)[a']? with
        | some (k, _) => (match Own.look tb k with
          | some b => some (b, Value.ref a' :: ((avS ρ (as.reverse ++ AV.ref a :: rest)).take as.length).reverse, rest')
          | none => none)
        | none => none)
      | _ => none) = _
  rw [e1, e2, drop_at]
  simp only [avA_get h0, l1]
  rw [take_at]
  rfl
/-- the run -/
theorem xrun_sim {B : Cal → Nat → Jmp → Nat → Cont} (hB : ∀ R J M, SimR ρ E R → (∀ pc, Sim ρ E M pc (J pc)) → ∀ pc, Sim ρ E M pc (B R M J pc)) : ∀ n M pc, Sim ρ E M pc (xrun B n M pc)
  | 0, M, pc => fun L S A v A' k n f w h => by cases h
  | n + 1, M, pc => by
    have ih := xrun_sim hB n
    exact hB (fun b L A => xrun B n b 0 L [] A) (xrun B n M) M (fun b L A v A' k n f w h => ih b 0 L [] A v A' k n f w h) (ih M) pc
theorem brec_sim {b : Bool} {x y : Cont} (h1 : b = false → Sim ρ E M pc x) (h2 : b = true → Sim ρ E M pc y) : Sim ρ E M pc (brc x y b) := by
  cases b
  · exact h1 rfl
  · exact h2 rfl
theorem w1_ok {v : AV} {k r : Res} (h : w1 v k = r) (hr : r ≠ .bad) : v.c2 = false ∧ k = r := brec_f h hr
theorem w2_ok {v : AV} {k r : Res} (h : w2 v k = r) (hr : r ≠ .bad) : v.c2 = true ∧ k = r := brec_t h hr
theorem fill1 {v : AV} {r : List AV} (h : v.c2 = false) (ρ : Rho) : Own.aFill (avS ρ (v :: r)) = avs ρ (.val v) :: Own.aFill (avS ρ r) := by
  show (if (av ρ v).category = 2 then _ else _) = _
  rw [if_neg (by rw [c2_cat, h]; decide)]; rfl
theorem fill2 {v : AV} {r : List AV} (h : v.c2 = true) (ρ : Rho) : Own.aFill (avS ρ (v :: r)) = avs ρ (.val v) :: .second :: Own.aFill (avS ρ r) := by
  show (if (av ρ v).category = 2 then _ else _) = _
  rw [if_pos (by rw [c2_cat, h]; rfl)]; rfl
theorem look1x {kk bb ml : Nat} {r : List Nat} (h : ml = E.2.1 bb) : ∀ k b m, (fun k => if k = kk then some (bb, ml) else none) k = some (b, m) → Own.look (kk :: bb :: r) k = some b ∧ m = E.2.1 b := by
  intro k b m q
  by_cases e : k = kk
  · simp only [e, if_true, Option.some.injEq, Prod.mk.injEq] at q
    obtain ⟨rfl, rfl⟩ := q
    refine ⟨?_, h⟩
    rw [e]
    unfold Own.look
    rw [if_pos rfl]
  · simp only [e, if_false] at q
    cases q
theorem xok_ok {K N F W : Nat} {r : Res} (h : xok K N F W r = true) : ∃ A' k m f w, r = .ok (some (.int 1)) A' k m f w ∧ k ≤ K ∧ m ≤ N ∧ f ≤ F ∧ w ≤ W := by
  rcases r.dest with rfl | ⟨v, A', k, m, f, w, rfl⟩
  · cases h
  · cases v with
    | none => cases h
    | some v =>
      rcases v with ((_ | _) | (_ | _)) | ((_ | _) | (_ | _)) <;> first | (cases h; done) | skip
      rename_i n
      have h : and (Nat.beq n 1) (and (Nat.ble k K) (and (Nat.ble m N) (and (Nat.ble f F) (Nat.ble w W)))) = true := h
      obtain ⟨h1, h⟩ := and2 h
      obtain ⟨h2, h⟩ := and2 h
      obtain ⟨h3, h⟩ := and2 h
      obtain ⟨h4, h5⟩ := and2 h
      have := Nat.eq_of_beq_eq_true h1
      subst this
      exact ⟨A', k, m, f, w, rfl, Nat.le_of_ble_eq_true h2, Nat.le_of_ble_eq_true h3, Nat.le_of_ble_eq_true h4, Nat.le_of_ble_eq_true h5⟩
theorem good_of {B : Cal → Nat → Jmp → Nat → Cont} (hB : ∀ R J M, SimR ρ E R → (∀ pc, Sim ρ E M pc (J pc)) → ∀ pc, Sim ρ E M pc (B R M J pc)) {n K N F W : Nat} {L : LT} {as : List AV} {A0 : XH} (h : xok K N F W (xrun B n 0 0 L [] A0) = true) (hL : Own.aL (avS ρ as) (E.2.1 0) = avL ρ (E.2.1 0) L) : ∃ fuel, Own.Good E fuel (avS ρ as) (avA ρ A0) K N F W := by
  obtain ⟨A', k, m, f, w, h1, h2⟩ := xok_ok h
  obtain ⟨fu, hf⟩ := xrun_sim hB n 0 0 L [] A0 _ _ _ _ _ _ h1
  refine ⟨fu, none, none, [], avA ρ A', k, m, f, w, ?_, fun P hP => (nomatch hP), h2⟩
  rw [hL]
  exact hf fu (Nat.le_refl _)
theorem or_i {a b : Bool} (h : or a b = true) : a = true ∨ b = true := by cases a <;> cases b <;> first | exact Or.inl rfl | exact Or.inr rfl | cases h
theorem tkC_ok {α : Type} {n : Nat} : ∀ {l : List α} {k : List α → Res} {r : Res}, tkC n l k = r → r ≠ .bad → n ≤ l.length ∧ k (l.take n) = r := by
  induction n with
  | zero => intro l k r h _; exact ⟨Nat.zero_le _, h⟩
  | succ n ih =>
    intro l k r h hr
    obtain ⟨v, t, rfl, h1⟩ := hd_ok h hr
    obtain ⟨h2, h3⟩ := ih (k := fun r => k (v :: r)) h1 hr
    exact ⟨by simp only [List.length_cons]; omega, h3⟩
theorem runC_ok {us : List AV} : ∀ {p : Nat} {ws : List AV} {k : List AV → Res} {r : Res}, runC us p ws k = r → r ≠ .bad → ∃ ws', k ws' = r ∧ avS ρ ws' = Own.setRun (avS ρ ws) p (avS ρ us) := by
  induction us with
  | nil => intro p ws k r h _; exact ⟨ws, h, rfl⟩
  | cons u t ih =>
    intro p ws k r h hr
    obtain ⟨-, h1⟩ := setC_ok h hr
    obtain ⟨ws', h2, h3⟩ := ih h1 hr
    refine ⟨ws', h2, ?_⟩
    rw [h3, avS_set]
    rfl
theorem acpF_ok {ix p k0 : Nat} (hT : TOk ρ E T) (h0 : E.2.2.2.2.2.2 = k0) (hE : E.1 M pc = some (.invokestatic ix, none, [2], .null)) (hn : pc + 3 = p) (hc : Sim ρ E M p c) : Sim ρ E M pc (acpF T k0 c) := by
  subst hn h0
  refine sim_k (i := .invokestatic ix) hE rfl rfl hc fun L S A r q hr => ?_
  obtain ⟨n, S1, rfl, q1⟩ := hd_ok q hr
  obtain ⟨dp, S2, rfl, q2⟩ := hd_ok q1 hr
  obtain ⟨d, S3, rfl, q3⟩ := hd_ok q2 hr
  obtain ⟨sp, S4, rfl, q4⟩ := hd_ok q3 hr
  obtain ⟨a, S5, rfl, q5⟩ := hd_ok q4 hr
  obtain ⟨d, rfl, q6⟩ := onR_ok q5 hr
  obtain ⟨a, rfl, q7⟩ := onR_ok q6 hr
  obtain ⟨n', n1, n2, q8⟩ := idx_ok hT q7 hr
  obtain ⟨dp', d1, d2, q9⟩ := idx_ok hT q8 hr
  obtain ⟨sp', s1, s2, q10⟩ := idx_ok hT q9 hr
  obtain ⟨kd, vs, o1, q11⟩ := obj_ok q10 hr
  obtain ⟨z1, q12⟩ := brec_t q11 hr
  obtain ⟨ws, o2, q13⟩ := kind_ok q12 hr
  rw [lenC_eq, lenC_eq] at q13
  obtain ⟨z2, q14⟩ := brec_t q13 hr
  obtain ⟨l1, q15⟩ := tkC_ok q14 hr
  obtain ⟨ws', q16, e1⟩ := runC_ok (ρ := ρ) q15 hr
  obtain ⟨l2, q17⟩ := setC_ok q16 hr
  refine ⟨_, _, _, _, _, _, q17, ?_⟩
  show Own.hCp _ none pc _ (av ρ n :: av ρ dp :: .ref d :: av ρ sp :: .ref a :: avS ρ S5) _ = _
  rw [n2, d2, s2]
  unfold Own.hCp
  simp only [avA_get o1, avA_get o2, clamp n' n1, clamp dp' d1, clamp sp' s1, avS_len]
  have z3 : dp' + n' ≤ 0 + ws.length := Nat.le_of_ble_eq_true (and2 z2).1
  have z4 : sp' + n' ≤ 0 + vs.length := Nat.le_of_ble_eq_true (and2 z2).2
  rw [if_pos ⟨trivial, Nat.le_of_ble_eq_true (and2 z1).1, Nat.le_of_ble_eq_true (and2 z1).2⟩]
  simp only [Own.need, Own.forceL_eq]
  rw [if_pos ⟨notNeg s1, notNeg d1, notNeg n1, by omega, by omega⟩]
  simp only []
  rw [avA_set, xcs_eq]
  have e2 : avO ρ (kd, ws') = (kd, Own.setRun (avS ρ ws) dp' (((avS ρ vs).drop sp').take n')) := by
    unfold avO
    rw [e1]
    simp only [avS, List.map_take, List.map_drop]
  rw [e2]
end Sim
end Jvm.Fx
namespace Jvm.Pilot.@@N@@
open Jvm Jvm.ClassFile Sem Op Lib Jvm.Free Jvm.Stand Jvm.LawKit Jvm.RoadKit Bundle Jvm.Pilot.@@N@@.Jvm.D Jvm.Own
/-- 0: the code of law -/
def c_0 : List (Nat × List (Nat × Ent)) := [(9, [(0, (.iconst 4), none, [], .null), (1, (.newarray .int), none, [0], .null), (3, (.dup), none, [], .null), (4, (.iconst 0), none, [], .null), (5, (.iconst 0), none, [], .null), (6, (.iastore), none, [], .null), (7, (.dup), none, [], .null), (8, (.iconst 1), none, [], .null)]),
  (17, [(9, (.iconst 1), none, [], .null), (10, (.iastore), none, [], .null), (11, (.dup), none, [], .null), (12, (.iconst 2), none, [], .null), (13, (.iconst 2), none, [], .null), (14, (.iastore), none, [], .null), (15, (.dup), none, [], .null), (16, (.iconst 3), none, [], .null)]),
  (27, [(17, (.iconst 3), none, [], .null), (18, (.iastore), none, [], .null), (19, (.astore 6), none, [], .null), (21, (.iload_n 0), none, [], .null), (22, (.ldc 7), none, [], (.int (2147483647))), (24, (.iand), none, [], .null), (25, (.iconst 4), none, [], .null), (26, (.irem), none, [], .null)]),
  (39, [(27, (.istore 7), none, [], .null), (29, (.aload 6), none, [], .null), (31, (.iconst 3), none, [], .null), (32, (.iaload), none, [], .null), (33, (.istore 8), none, [], .null), (35, (.aload 6), none, [], .null), (37, (.iconst 3), none, [], .null), (38, (.aload 6), none, [], .null)]),
  (52, [(40, (.iload 7), none, [], .null), (42, (.iaload), none, [], .null), (43, (.iastore), none, [], .null), (44, (.aload 6), none, [], .null), (46, (.iload 7), none, [], .null), (48, (.iload 8), none, [], .null), (50, (.iastore), none, [], .null), (51, (.iload_n 1), none, [], .null)]),
  (63, [(52, (.ldc 7), none, [], (.int (2147483647))), (54, (.iand), none, [], .null), (55, (.iconst 3), none, [], .null), (56, (.irem), none, [], .null), (57, (.istore 7), none, [], .null), (59, (.aload 6), none, [], .null), (61, (.iconst 2), none, [], .null), (62, (.iaload), none, [], .null)]),
  (75, [(63, (.istore 8), none, [], .null), (65, (.aload 6), none, [], .null), (67, (.iconst 2), none, [], .null), (68, (.aload 6), none, [], .null), (70, (.iload 7), none, [], .null), (72, (.iaload), none, [], .null), (73, (.iastore), none, [], .null), (74, (.aload 6), none, [], .null)]),
  (87, [(76, (.iload 7), none, [], .null), (78, (.iload 8), none, [], .null), (80, (.iastore), none, [], .null), (81, (.iload_n 2), none, [], .null), (82, (.ldc 7), none, [], (.int (2147483647))), (84, (.iand), none, [], .null), (85, (.iconst 2), none, [], .null), (86, (.irem), none, [], .null)]),
  (99, [(87, (.istore 7), none, [], .null), (89, (.aload 6), none, [], .null), (91, (.iconst 1), none, [], .null), (92, (.iaload), none, [], .null), (93, (.istore 8), none, [], .null), (95, (.aload 6), none, [], .null), (97, (.iconst 1), none, [], .null), (98, (.aload 6), none, [], .null)]),
  (112, [(100, (.iload 7), none, [], .null), (102, (.iaload), none, [], .null), (103, (.iastore), none, [], .null), (104, (.aload 6), none, [], .null), (106, (.iload 7), none, [], .null), (108, (.iload 8), none, [], .null), (110, (.iastore), none, [], .null), (111, (.iload_n 3), none, [], .null)]),
  (124, [(112, (.ldc 7), none, [], (.int (2147483647))), (114, (.iand), none, [], .null), (115, (.iconst 2), none, [], .null), (116, (.irem), none, [], .null), (117, (.istore 9), none, [], .null), (119, (.iload 4), none, [], .null), (121, (.ldc 7), none, [], (.int (2147483647))), (123, (.iand), none, [], .null)]),
  (135, [(124, (.iconst 3), none, [], .null), (125, (.irem), none, [], .null), (126, (.istore 10), none, [], .null), (128, (.iconst 4), none, [], .null), (129, (.newarray .int), none, [0], .null), (131, (.astore 11), none, [], .null), (133, (.iconst 4), none, [], .null), (134, (.newarray .double), none, [2], .null)]),
  (149, [(136, (.astore 12), none, [], .null), (138, (.iconst 4), none, [], .null), (139, (.newarray .int), none, [0], .null), (141, (.astore 13), none, [], .null), (143, (.aload 11), none, [], .null), (145, (.aload 6), none, [], .null), (147, (.iconst 0), none, [], .null), (148, (.iaload), none, [], .null)]),
  (159, [(149, (.iconst (-1)), none, [], .null), (150, (.iastore), none, [], .null), (151, (.aload 12), none, [], .null), (153, (.aload 6), none, [], .null), (155, (.iconst 0), none, [], .null), (156, (.iaload), none, [], .null), (157, (.dconst 0), none, [], .null), (158, (.dastore), none, [], .null)]),
  (170, [(159, (.aload 13), none, [], .null), (161, (.aload 6), none, [], .null), (163, (.iconst 0), none, [], .null), (164, (.iaload), none, [], .null), (165, (.iconst 0), none, [], .null), (166, (.iastore), none, [], .null), (167, (.aload 11), none, [], .null), (169, (.aload 6), none, [], .null)]),
  (181, [(171, (.iconst 1), none, [], .null), (172, (.iaload), none, [], .null), (173, (.aload 6), none, [], .null), (175, (.iconst 0), none, [], .null), (176, (.iaload), none, [], .null), (177, (.iastore), none, [], .null), (178, (.aload 12), none, [], .null), (180, (.aload 6), none, [], .null)]),
  (192, [(182, (.iconst 1), none, [], .null), (183, (.iaload), none, [], .null), (184, (.dconst 1), none, [], .null), (185, (.dastore), none, [], .null), (186, (.aload 13), none, [], .null), (188, (.aload 6), none, [], .null), (190, (.iconst 1), none, [], .null), (191, (.iaload), none, [], .null)]),
  (203, [(192, (.iconst 1), none, [], .null), (193, (.iastore), none, [], .null), (194, (.aload 11), none, [], .null), (196, (.aload 6), none, [], .null), (198, (.iconst 2), none, [], .null), (199, (.iaload), none, [], .null), (200, (.aload 6), none, [], .null), (202, (.iload 9), none, [], .null)]),
  (216, [(204, (.iaload), none, [], .null), (205, (.iastore), none, [], .null), (206, (.aload 12), none, [], .null), (208, (.aload 6), none, [], .null), (210, (.iconst 2), none, [], .null), (211, (.iaload), none, [], .null), (212, (.ldc2_w 8), none, [], (.double (4611686018427387904))), (215, (.dastore), none, [], .null)]),
  (229, [(216, (.aload 13), none, [], .null), (218, (.aload 6), none, [], .null), (220, (.iconst 2), none, [], .null), (221, (.iaload), none, [], .null), (222, (.aload 13), none, [], .null), (224, (.aload 6), none, [], .null), (226, (.iload 9), none, [], .null), (228, (.iaload), none, [], .null)]),
  (239, [(229, (.iaload), none, [], .null), (230, (.iconst 1), none, [], .null), (231, (.iadd), none, [], .null), (232, (.iastore), none, [], .null), (233, (.aload 11), none, [], .null), (235, (.aload 6), none, [], .null), (237, (.iconst 3), none, [], .null), (238, (.iaload), none, [], .null)]),
  (251, [(239, (.aload 6), none, [], .null), (241, (.iload 10), none, [], .null), (243, (.iaload), none, [], .null), (244, (.iastore), none, [], .null), (245, (.aload 12), none, [], .null), (247, (.aload 6), none, [], .null), (249, (.iconst 3), none, [], .null), (250, (.iaload), none, [], .null)]),
  (264, [(251, (.ldc2_w 10), none, [], (.double (4613937818241073152))), (254, (.dastore), none, [], .null), (255, (.aload 13), none, [], .null), (257, (.aload 6), none, [], .null), (259, (.iconst 3), none, [], .null), (260, (.iaload), none, [], .null), (261, (.aload 13), none, [], .null), (263, (.aload 6), none, [], .null)]),
  (275, [(265, (.iload 10), none, [], .null), (267, (.iaload), none, [], .null), (268, (.iaload), none, [], .null), (269, (.iconst 1), none, [], .null), (270, (.iadd), none, [], .null), (271, (.iastore), none, [], .null), (272, (.iload 5), none, [], .null), (274, (.ldc 7), none, [], (.int (2147483647)))]),
  (288, [(276, (.iand), none, [], .null), (277, (.iconst 5), none, [], .null), (278, (.irem), none, [], .null), (279, (.istore 14), none, [], .null), (281, (.new 12), none, [8], .null), (284, (.dup), none, [], .null), (285, (.iload 14), none, [], .null), (287, (.aload 11), none, [], .null)]),
  (306, [(289, (.aload 12), none, [], .null), (291, (.invokespecial 14), none, [1, 1, 3], .null), (294, (.astore 15), none, [], .null), (296, (.aload 15), none, [], .null), (298, (.invokevirtual 17), none, [1, 0, 8, 6], .null), (301, (.astore 16), none, [], .null), (303, (.aload 16), none, [], .null), (305, (.arraylength), none, [], .null)]),
  (318, [(306, (.iconst 4), none, [], .null), (307, (.if_icmp .eq 5), none, [], .null), (310, (.iconst 0), none, [], .null), (311, (.ireturn), none, [], .null), (312, (.aload 16), none, [], .null), (314, (.aload 13), none, [], .null), (316, (.iconst 0), none, [], .null), (317, (.invokestatic 21), none, [1, 7, 2], .null)]),
  (334, [(320, (.iaload), none, [], .null), (321, (.ifCond .ne 46), none, [], .null), (324, (.aload 16), none, [], .null), (326, (.aload 13), none, [], .null), (328, (.iconst 1), none, [], .null), (329, (.invokestatic 21), none, [1, 7, 2], .null), (332, (.iaload), none, [], .null), (333, (.iconst 1), none, [], .null)]),
  (348, [(334, (.if_icmp .ne 33), none, [], .null), (337, (.aload 16), none, [], .null), (339, (.aload 13), none, [], .null), (341, (.iconst 2), none, [], .null), (342, (.invokestatic 21), none, [1, 7, 2], .null), (345, (.iaload), none, [], .null), (346, (.iconst 2), none, [], .null), (347, (.if_icmp .ne 20), none, [], .null)]),
  (364, [(350, (.aload 16), none, [], .null), (352, (.aload 13), none, [], .null), (354, (.iconst 3), none, [], .null), (355, (.invokestatic 21), none, [1, 7, 2], .null), (358, (.iaload), none, [], .null), (359, (.iconst 3), none, [], .null), (360, (.if_icmp .ne 7), none, [], .null), (363, (.iconst 1), none, [], .null)]),
  (369, [(364, (.goto 4), none, [], .null), (367, (.iconst 0), none, [], .null), (368, (.ireturn), none, [], .null)])]
/-- 1: the code of init -/
def c_1 : List (Nat × List (Nat × Ent)) := [(11, [(0, (.aload_n 0), none, [], .null), (1, (.invokespecial 1), none, [0], .null), (4, (.aload_n 2), none, [], .null), (5, (.arraylength), none, [], .null), (6, (.istore 4), none, [], .null), (8, (.aload_n 3), none, [], .null), (9, (.arraylength), none, [], .null), (10, (.iload 4), none, [], .null)]),
  (37, [(12, (.if_icmp .eq 20), none, [], .null), (18, (.dup), none, [], .null), (19, (.iload 4), none, [], .null), (21, (.aload_n 3), none, [], .null), (22, (.arraylength), none, [], .null), (32, (.iload_n 1), none, [], .null), (33, (.ifCond .lt 9), none, [], .null), (36, (.iload_n 1), none, [], .null)]),
  (62, [(37, (.iload 4), none, [], .null), (39, (.if_icmp .le 19), none, [], .null), (45, (.dup), none, [], .null), (46, (.iload_n 1), none, [], .null), (47, (.iload 4), none, [], .null), (58, (.iconst (-1)), none, [], .null), (59, (.istore 5), none, [], .null), (61, (.iconst 0), none, [], .null)]),
  (76, [(62, (.istore 6), none, [], .null), (64, (.iload 6), none, [], .null), (66, (.iload 4), none, [], .null), (68, (.if_icmp .ge 123), none, [], .null), (71, (.aload_n 2), none, [], .null), (72, (.iload 6), none, [], .null), (74, (.iaload), none, [], .null), (75, (.iconst (-1)), none, [], .null)]),
  (104, [(76, (.if_icmp .ne 32), none, [], .null), (79, (.iload 5), none, [], .null), (81, (.ifCond .lt 20), none, [], .null), (87, (.dup), none, [], .null), (88, (.iload 5), none, [], .null), (90, (.iload 6), none, [], .null), (101, (.iload 6), none, [], .null), (103, (.istore 5), none, [], .null)]),
  (119, [(105, (.goto 42), none, [], .null), (108, (.aload_n 2), none, [], .null), (109, (.iload 6), none, [], .null), (111, (.iaload), none, [], .null), (112, (.ifCond .lt 12), none, [], .null), (115, (.aload_n 2), none, [], .null), (116, (.iload 6), none, [], .null), (118, (.iaload), none, [], .null)]),
  (135, [(119, (.iload 4), none, [], .null), (121, (.if_icmp .lt 26), none, [], .null), (127, (.dup), none, [], .null), (128, (.aload_n 2), none, [], .null), (129, (.iload 6), none, [], .null), (131, (.iaload), none, [], .null), (132, (.iload 6), none, [], .null), (134, (.iload 4), none, [], .null)]),
  (158, [(136, (.iconst 1), none, [], .null), (137, (.isub), none, [], .null), (147, (.aload_n 3), none, [], .null), (148, (.iload 6), none, [], .null), (150, (.daload), none, [], .null), (151, (.invokestatic 21), none, [1, 2, 1], .null), (154, (.ifCond .eq 12), none, [], .null), (157, (.aload_n 3), none, [], .null)]),
  (172, [(158, (.iload 6), none, [], .null), (160, (.daload), none, [], .null), (161, (.dconst 0), none, [], .null), (162, (.dcmp .g), none, [], .null), (163, (.ifCond .ge 22), none, [], .null), (169, (.dup), none, [], .null), (170, (.aload_n 3), none, [], .null), (171, (.iload 6), none, [], .null)]),
  (207, [(173, (.daload), none, [], .null), (174, (.iload 6), none, [], .null), (185, (.iinc 6 1), none, [], .null), (188, (.goto (-124)), none, [], .null), (191, (.iload 5), none, [], .null), (193, (.ifCond .ge 13), none, [], .null), (199, (.dup), none, [], .null), (206, (.aload_n 3), none, [], .null)]),
  (222, [(207, (.iload 5), none, [], .null), (209, (.daload), none, [], .null), (210, (.dconst 0), none, [], .null), (211, (.dcmp .l), none, [], .null), (212, (.ifCond .eq 22), none, [], .null), (218, (.dup), none, [], .null), (219, (.iload 5), none, [], .null), (221, (.aload_n 3), none, [], .null)]),
  (242, [(222, (.iload 5), none, [], .null), (224, (.daload), none, [], .null), (234, (.aload_n 0), none, [], .null), (235, (.iload_n 1), none, [], .null), (236, (.putfield 35), none, [8, 0, 0], .null), (239, (.aload_n 0), none, [], .null), (240, (.aload_n 2), none, [], .null), (241, (.invokevirtual 41), none, [0, 0], .null)]),
  (262, [(244, (.checkcast 42), none, [0], .null), (247, (.putfield 47), none, [8, 1, 3], .null), (250, (.aload_n 0), none, [], .null), (251, (.aload_n 3), none, [], .null), (252, (.invokevirtual 50), none, [0, 2], .null), (255, (.checkcast 51), none, [2], .null), (258, (.putfield 53), none, [8, 2, 3], .null), (261, (.aload_n 0), none, [], .null)]),
  (278, [(262, (.iload 5), none, [], .null), (264, (.putfield 56), none, [8, 3, 0], .null), (267, (.aload_n 0), none, [], .null), (268, (.aload_n 0), none, [], .null), (269, (.getfield 47), none, [8, 1], .null), (272, (.iload 5), none, [], .null), (274, (.invokestatic 59), none, [1, 3, 2], .null), (277, (.putfield 63), none, [8, 4, 3], .null)]),
  (293, [(280, (.iconst 0), none, [], .null), (281, (.istore 6), none, [], .null), (283, (.aload_n 0), none, [], .null), (284, (.getfield 63), none, [8, 4], .null), (287, (.astore 7), none, [], .null), (289, (.aload 7), none, [], .null), (291, (.arraylength), none, [], .null), (292, (.istore 8), none, [], .null)]),
  (309, [(294, (.iconst 0), none, [], .null), (295, (.istore 9), none, [], .null), (297, (.iload 9), none, [], .null), (299, (.iload 8), none, [], .null), (301, (.if_icmp .ge 25), none, [], .null), (304, (.aload 7), none, [], .null), (306, (.iload 9), none, [], .null), (308, (.iaload), none, [], .null)]),
  (327, [(309, (.istore 10), none, [], .null), (311, (.iload 6), none, [], .null), (313, (.iload 10), none, [], .null), (315, (.invokestatic 66), none, [1, 5, 2], .null), (318, (.istore 6), none, [], .null), (320, (.iinc 9 1), none, [], .null), (323, (.goto (-26)), none, [], .null), (326, (.aload_n 0), none, [], .null)]),
  (335, [(327, (.iload 6), none, [], .null), (329, (.iconst 1), none, [], .null), (330, (.iadd), none, [], .null), (331, (.putfield 72), none, [8, 5, 0], .null), (334, (.return_), none, [], .null)])]
/-- 2: the code of isFinite -/
def c_2 : List (Nat × List (Nat × Ent)) := [(16, [(0, (.dload_n 0), none, [], .null), (1, (.invokestatic 38), none, [0, 0, 1], .null), (4, (.ldc2_w 111), none, [], (.double (9218868437227405311))), (7, (.dcmp .g), none, [], .null), (8, (.ifCond .gt 7), none, [], .null), (11, (.iconst 1), none, [], .null), (12, (.goto 4), none, [], .null), (15, (.iconst 0), none, [], .null)]),
  (17, [(16, (.ireturn), none, [], .null)])]
/-- 3: the code of depths -/
def c_3 : List (Nat × List (Nat × Ent)) := [(11, [(0, (.aload_n 0), none, [], .null), (1, (.arraylength), none, [], .null), (2, (.newarray .int), none, [0], .null), (4, (.astore_n 2), none, [], .null), (5, (.aload_n 2), none, [], .null), (6, (.iconst (-1)), none, [], .null), (7, (.invokestatic 75), none, [1, 4, 2], .null), (10, (.aload_n 2), none, [], .null)]),
  (20, [(11, (.iload_n 1), none, [], .null), (12, (.iconst 0), none, [], .null), (13, (.iastore), none, [], .null), (14, (.aload_n 0), none, [], .null), (15, (.arraylength), none, [], .null), (16, (.newarray .int), none, [0], .null), (18, (.astore_n 3), none, [], .null), (19, (.iconst 0), none, [], .null)]),
  (33, [(20, (.istore 4), none, [], .null), (22, (.iload 4), none, [], .null), (24, (.aload_n 0), none, [], .null), (25, (.arraylength), none, [], .null), (26, (.if_icmp .ge 100), none, [], .null), (29, (.iconst 0), none, [], .null), (30, (.istore 5), none, [], .null), (32, (.iload 4), none, [], .null)]),
  (46, [(34, (.istore 6), none, [], .null), (36, (.aload_n 2), none, [], .null), (37, (.iload 6), none, [], .null), (39, (.iaload), none, [], .null), (40, (.iconst (-1)), none, [], .null), (41, (.if_icmp .ne 27), none, [], .null), (44, (.aload_n 2), none, [], .null), (45, (.iload 6), none, [], .null)]),
  (60, [(47, (.bipush (-2)), none, [], .null), (49, (.iastore), none, [], .null), (50, (.aload_n 3), none, [], .null), (51, (.iload 5), none, [], .null), (53, (.iinc 5 1), none, [], .null), (56, (.iload 6), none, [], .null), (58, (.iastore), none, [], .null), (59, (.aload_n 0), none, [], .null)]),
  (73, [(60, (.iload 6), none, [], .null), (62, (.iaload), none, [], .null), (63, (.istore 6), none, [], .null), (65, (.goto (-29)), none, [], .null), (68, (.aload_n 2), none, [], .null), (69, (.iload 6), none, [], .null), (71, (.iaload), none, [], .null), (72, (.bipush (-2)), none, [], .null)]),
  (99, [(74, (.if_icmp .ne 18), none, [], .null), (80, (.dup), none, [], .null), (81, (.iload 6), none, [], .null), (92, (.aload_n 2), none, [], .null), (93, (.iload 6), none, [], .null), (95, (.iaload), none, [], .null), (96, (.istore 7), none, [], .null), (98, (.iload 5), none, [], .null)]),
  (115, [(100, (.ifCond .le 20), none, [], .null), (103, (.aload_n 2), none, [], .null), (104, (.aload_n 3), none, [], .null), (105, (.iinc 5 (-1)), none, [], .null), (108, (.iload 5), none, [], .null), (110, (.iaload), none, [], .null), (111, (.iinc 7 1), none, [], .null), (114, (.iload 7), none, [], .null)]),
  (128, [(116, (.iastore), none, [], .null), (117, (.goto (-19)), none, [], .null), (120, (.iinc 4 1), none, [], .null), (123, (.goto (-101)), none, [], .null), (126, (.aload_n 2), none, [], .null), (127, (.areturn), none, [], .null)])]
/-- 4: the code of fill -/
def c_4 : List (Nat × List (Nat × Ent)) := [(8, [(0, (.iconst 0), none, [], .null), (1, (.istore_n 2), none, [], .null), (2, (.aload_n 0), none, [], .null), (3, (.arraylength), none, [], .null), (4, (.istore_n 3), none, [], .null), (5, (.iload_n 2), none, [], .null), (6, (.iload_n 3), none, [], .null), (7, (.if_icmp .ge 13), none, [], .null)]),
  (21, [(10, (.aload_n 0), none, [], .null), (11, (.iload_n 2), none, [], .null), (12, (.iload_n 1), none, [], .null), (13, (.iastore), none, [], .null), (14, (.iinc 2 1), none, [], .null), (17, (.goto (-12)), none, [], .null), (20, (.return_), none, [], .null)])]
/-- 5: the code of max -/
def c_5 : List (Nat × List (Nat × Ent)) := [(11, [(0, (.iload_n 0), none, [], .null), (1, (.iload_n 1), none, [], .null), (2, (.if_icmp .lt 7), none, [], .null), (5, (.iload_n 0), none, [], .null), (6, (.goto 4), none, [], .null), (9, (.iload_n 1), none, [], .null), (10, (.ireturn), none, [], .null)])]
/-- 6: the code of topDown -/
def c_6 : List (Nat × List (Nat × Ent)) := [(11, [(0, (.aload_n 0), none, [], .null), (1, (.getfield 72), none, [8, 5], .null), (4, (.iconst 1), none, [], .null), (5, (.iadd), none, [], .null), (6, (.newarray .int), none, [0], .null), (8, (.astore_n 1), none, [], .null), (9, (.aload_n 0), none, [], .null), (10, (.getfield 63), none, [8, 4], .null)]),
  (23, [(13, (.astore_n 2), none, [], .null), (14, (.aload_n 2), none, [], .null), (15, (.arraylength), none, [], .null), (16, (.istore_n 3), none, [], .null), (17, (.iconst 0), none, [], .null), (18, (.istore 4), none, [], .null), (20, (.iload 4), none, [], .null), (22, (.iload_n 3), none, [], .null)]),
  (36, [(23, (.if_icmp .ge 25), none, [], .null), (26, (.aload_n 2), none, [], .null), (27, (.iload 4), none, [], .null), (29, (.iaload), none, [], .null), (30, (.istore 5), none, [], .null), (32, (.aload_n 1), none, [], .null), (33, (.iload 5), none, [], .null), (35, (.iconst 1), none, [], .null)]),
  (46, [(36, (.iadd), none, [], .null), (37, (.dup2), none, [], .null), (38, (.iaload), none, [], .null), (39, (.iconst 1), none, [], .null), (40, (.iadd), none, [], .null), (41, (.iastore), none, [], .null), (42, (.iinc 4 1), none, [], .null), (45, (.goto (-25)), none, [], .null)]),
  (60, [(48, (.iconst 1), none, [], .null), (49, (.istore_n 2), none, [], .null), (50, (.iload_n 2), none, [], .null), (51, (.aload_n 0), none, [], .null), (52, (.getfield 72), none, [8, 5], .null), (55, (.if_icmp .gt 20), none, [], .null), (58, (.aload_n 1), none, [], .null), (59, (.iload_n 2), none, [], .null)]),
  (68, [(60, (.dup2), none, [], .null), (61, (.iaload), none, [], .null), (62, (.aload_n 1), none, [], .null), (63, (.iload_n 2), none, [], .null), (64, (.iconst 1), none, [], .null), (65, (.isub), none, [], .null), (66, (.iaload), none, [], .null), (67, (.iadd), none, [], .null)]),
  (83, [(68, (.iastore), none, [], .null), (69, (.iinc 2 1), none, [], .null), (72, (.goto (-22)), none, [], .null), (75, (.aload_n 0), none, [], .null), (76, (.getfield 47), none, [8, 1], .null), (79, (.arraylength), none, [], .null), (80, (.newarray .int), none, [0], .null), (82, (.astore_n 2), none, [], .null)]),
  (95, [(83, (.iconst 0), none, [], .null), (84, (.istore_n 3), none, [], .null), (85, (.iload_n 3), none, [], .null), (86, (.aload_n 0), none, [], .null), (87, (.getfield 47), none, [8, 1], .null), (90, (.arraylength), none, [], .null), (91, (.if_icmp .ge 25), none, [], .null), (94, (.aload_n 2), none, [], .null)]),
  (105, [(95, (.aload_n 1), none, [], .null), (96, (.aload_n 0), none, [], .null), (97, (.getfield 63), none, [8, 4], .null), (100, (.iload_n 3), none, [], .null), (101, (.iaload), none, [], .null), (102, (.dup2), none, [], .null), (103, (.iaload), none, [], .null), (104, (.dup_x2), none, [], .null)]),
  (117, [(105, (.iconst 1), none, [], .null), (106, (.iadd), none, [], .null), (107, (.iastore), none, [], .null), (108, (.iload_n 3), none, [], .null), (109, (.iastore), none, [], .null), (110, (.iinc 3 1), none, [], .null), (113, (.goto (-28)), none, [], .null), (116, (.aload_n 2), none, [], .null)]),
  (118, [(117, (.areturn), none, [], .null)])]
/-- 7: the code of pos -/
def c_7 : List (Nat × List (Nat × Ent)) := [(10, [(0, (.aload_n 0), none, [], .null), (1, (.iconst 0), none, [], .null), (2, (.iload_n 1), none, [], .null), (3, (.invokestatic 27), none, [1, 8, 3], .null), (6, (.aload_n 0), none, [], .null), (7, (.iconst 1), none, [], .null), (8, (.iload_n 1), none, [], .null), (9, (.invokestatic 27), none, [1, 8, 3], .null)]),
  (22, [(12, (.iadd), none, [], .null), (13, (.aload_n 0), none, [], .null), (14, (.iconst 2), none, [], .null), (15, (.iload_n 1), none, [], .null), (16, (.invokestatic 27), none, [1, 8, 3], .null), (19, (.iadd), none, [], .null), (20, (.aload_n 0), none, [], .null), (21, (.iconst 3), none, [], .null)]),
  (28, [(22, (.iload_n 1), none, [], .null), (23, (.invokestatic 27), none, [1, 8, 3], .null), (26, (.iadd), none, [], .null), (27, (.ireturn), none, [], .null)])]
/-- 8: the code of before -/
def c_8 : List (Nat × List (Nat × Ent)) := [(10, [(0, (.aload_n 0), none, [], .null), (1, (.iload_n 1), none, [], .null), (2, (.iaload), none, [], .null), (3, (.aload_n 0), none, [], .null), (4, (.iload_n 2), none, [], .null), (5, (.iaload), none, [], .null), (6, (.if_icmp .ge 5), none, [], .null), (9, (.iconst 1), none, [], .null)]),
  (18, [(10, (.ireturn), none, [], .null), (11, (.aload_n 0), none, [], .null), (12, (.iload_n 1), none, [], .null), (13, (.iaload), none, [], .null), (14, (.aload_n 0), none, [], .null), (15, (.iload_n 2), none, [], .null), (16, (.iaload), none, [], .null), (17, (.if_icmp .ne 10), none, [], .null)]),
  (29, [(20, (.iload_n 1), none, [], .null), (21, (.iload_n 2), none, [], .null), (22, (.if_icmp .ge 5), none, [], .null), (25, (.iconst 1), none, [], .null), (26, (.ireturn), none, [], .null), (27, (.iconst 0), none, [], .null), (28, (.ireturn), none, [], .null)])]
def nm_ : Nat → MethodName
  | 0 => x
  | 1 => ⟨"com/example/copse/copse/solver/TreeEmbedding", "<init>", "(I[I[D)V"⟩
  | 2 => ⟨"java/lang/Double", "isFinite", "(D)Z"⟩
  | 3 => ⟨"com/example/copse/copse/solver/TreeEmbedding", "depths", "([II)[I"⟩
  | 4 => ⟨"java/util/Arrays", "fill", "([II)V"⟩
  | 5 => ⟨"java/lang/Math", "max", "(II)I"⟩
  | 6 => ⟨"com/example/copse/copse/solver/TreeEmbedding", "topDown", "()[I"⟩
  | 7 => ⟨"com/example/copse/copse/solver/TreeEmbeddingTopDownPinLaw", "pos", "([II)I"⟩
  | 8 => ⟨"com/example/copse/copse/solver/TreeEmbeddingTopDownPinLaw", "before", "([III)I"⟩
  | _ => x
def by_ : Nat → ByteArray
  | 0 => code
  | 1 => prog_63_method_1_code
  | 2 => jdk_117_method_8_code
  | 3 => prog_63_method_2_code
  | 4 => jdk_65_method_103_code
  | 5 => jdk_29_method_65_code
  | 6 => prog_63_method_17_code
  | 7 => method_4_code
  | 8 => method_3_code
  | _ => code
def ml_ : Nat → Nat
  | 0 => 17
  | 1 => 11
  | 2 => 2
  | 3 => 8
  | 4 => 4
  | 5 => 2
  | 6 => 6
  | 7 => 2
  | 8 => 3
  | _ => 0
def rt_ : Nat → Option FieldType
  | 0 => some .boolean
  | 1 => none
  | 2 => (some Jvm.ClassFile.FieldType.boolean)
  | 3 => (some (Jvm.ClassFile.FieldType.array Jvm.ClassFile.FieldType.int))
  | 4 => none
  | 5 => (some Jvm.ClassFile.FieldType.int)
  | 6 => (some (Jvm.ClassFile.FieldType.array Jvm.ClassFile.FieldType.int))
  | 7 => (some Jvm.ClassFile.FieldType.int)
  | 8 => (some Jvm.ClassFile.FieldType.int)
  | _ => none
def code_ : Nat → Nat → Option Ent
  | 0, pc => fetch2 c_0 pc
  | 1, pc => fetch2 c_1 pc
  | 2, pc => fetch2 c_2 pc
  | 3, pc => fetch2 c_3 pc
  | 4, pc => fetch2 c_4 pc
  | 5, pc => fetch2 c_5 pc
  | 6, pc => fetch2 c_6 pc
  | 7, pc => fetch2 c_7 pc
  | 8, pc => fetch2 c_8 pc
  | _, _ => none
def kc_ : KTy
  | 8 => some ("com/example/copse/copse/solver/TreeEmbedding", [("com/example/copse/copse/solver/TreeEmbedding", "vertexCount", "I", .int), ("com/example/copse/copse/solver/TreeEmbedding", "parent", "[I", (.array .int)), ("com/example/copse/copse/solver/TreeEmbedding", "length", "[D", (.array .double)), ("com/example/copse/copse/solver/TreeEmbedding", "root", "I", .int), ("com/example/copse/copse/solver/TreeEmbedding", "depth", "[I", (.array .int)), ("com/example/copse/copse/solver/TreeEmbedding", "levels", "I", .int)])
  | _ => none
def kd_ : Nat → List Value × Nat
  | 8 => ([.int 0, .null, .null, .int 0, .null, .int 0], 6)
  | _ => ([], 0)
def exf_0 : List Value → Option (Bool × Value)
  | [.double a] => some (!FP.dIsNaN a, .double (a &&& 0x7fffffffffffffff))
  | _ => none
def ext_ : Nat → List Value → Option (Bool × Value)
  | 0, as => exf_0 as
  | _, _ => none
def exw_ : Nat → Nat × Nat
  | 0 => (1, 13)
  | _ => (0, 0)
theorem abs_ok : ∀ (as : List Value) (v : Value), ext_ 0 as = some (true, v) → (∀ g, gS g as = as) ∧ (∀ g, gv g v = v) ∧ ∀ (l : Launch) (R : Room) (p : Program) (e : Env) (below : List Frame) (s : State) (sargs : Array Value) (W : Nat), (∀ d ∈ [Jvm.Cond.code (⟨"java/lang/Math", "abs", "(D)D"⟩ : MethodName) jdk_29_method_64_code 2 (some .double)], d.before sargs s = true) → (exw_ 0).1 ≤ R.frames → W + (exw_ 0).2 ≤ R.locals →
        Back l R p e below s sargs (⟨"java/lang/Math", "abs", "(D)D"⟩ : MethodName) 3 W (fun A a' => A.cells ≤ R.cells ∧ A.slots ≤ R.slots ∧ a' = as.toArray) (fun A _ v' B => v' = some v ∧ B = A) := by
  intro as v h
  replace h : exf_0 as = some (true, v) := h
  unfold exf_0 at h
  split at h
  · rename_i a
    simp only [Option.some.injEq, Prod.mk.injEq, Bool.not_eq_true'] at h
    obtain ⟨h1, rfl⟩ := h
    refine ⟨fun _ => rfl, fun _ => rfl, fun l R p e below s sargs W hc hf hw m meth c A g ig mk a' X q1 q2 q3 q4 q5 q6 => ?_⟩
    exact Jvm.Free.Fl.Abs.absD_pays a (hc _ (List.mem_cons_self ..)) hf hw m meth c A g ig mk a' X q1 q2 q3 q4 q5 ⟨q6.1, q6.2.1, q6.2.2, Jvm.Free.Fl.noNaN64_no.mpr h1⟩
  · cases h
def E_ : EV := (code_, ml_, rt_, kd_, ext_, exw_, 0)
def sl_ : SL := []
theorem pl_0 : plainFor (nm_ 0) = true := plainFor_of_name (by first | (simp [plainName, overriddenIn, nm_, x]; done) | decide +kernel)
theorem pl_1 : plainFor (nm_ 1) = true := plainFor_of_name (by first | (simp [plainName, overriddenIn, nm_, x]; done) | decide +kernel)
theorem pl_2 : plainFor (nm_ 2) = true := plainFor_of_name (by first | (simp [plainName, overriddenIn, nm_, x]; done) | decide +kernel)
theorem pl_3 : plainFor (nm_ 3) = true := plainFor_of_name (by first | (simp [plainName, overriddenIn, nm_, x]; done) | decide +kernel)
theorem pl_4 : plainFor (nm_ 4) = true := plainFor_of_name (by first | (simp [plainName, overriddenIn, nm_, x]; done) | decide +kernel)
theorem pl_5 : plainFor (nm_ 5) = true := Jvm.Free.JP.mathPlain rfl (by decide +kernel)
theorem pl_6 : plainFor (nm_ 6) = true := plainFor_of_name (by first | (simp [plainName, overriddenIn, nm_, x]; done) | decide +kernel)
theorem pl_7 : plainFor (nm_ 7) = true := plainFor_of_name (by first | (simp [plainName, overriddenIn, nm_, x]; done) | decide +kernel)
theorem pl_8 : plainFor (nm_ 8) = true := plainFor_of_name (by first | (simp [plainName, overriddenIn, nm_, x]; done) | decide +kernel)
def Vd (Z : State) (a0 : Array Value) (M : Nat) (q : Nat × Ent) : Prop := VI Z a0 kc_ sl_ E_.2.2.2.1 E_.2.2.2.2.1 E_.2.2.2.2.2.1 (nm_ M).cls (nm_ M).name q.2.1 q.2.2.2.1 q.2.2.2.2 ∧ VC Z a0 kc_ E_ nm_ by_ (nm_ M).cls q.2.1 q.2.2.2.1
set_option maxRecDepth 65536 in
theorem dc_0 : ∀ ch ∈ c_0, ∀ q ∈ ch.2, decode (by_ 0) q.1 = .ok (q.2.1, ilen q.2.1) := by decide +kernel
set_option maxRecDepth 65536 in
theorem v_0 {Z : State} {a0 : Array Value} (hw : ∀ d ∈ tables_1, d.before a0 Z = true) : ∀ ch ∈ c_0, ∀ q ∈ ch.2, Vd Z a0 0 q :=
  fc (P := fun ch : Nat × List (Nat × Ent) => ∀ q ∈ ch.2, Vd Z a0 0 q) (fc (P := fun q => Vd Z a0 0 q) ⟨trivial, trivial⟩
    (fc (P := fun q => Vd Z a0 0 q) ⟨⟨(hw _ (List.mem_of_getElem? (i := 0) rfl)), rfl⟩, trivial⟩
    (fc (P := fun q => Vd Z a0 0 q) ⟨trivial, trivial⟩
    (fc (P := fun q => Vd Z a0 0 q) ⟨trivial, trivial⟩
    (fc (P := fun q => Vd Z a0 0 q) ⟨trivial, trivial⟩
    (fc (P := fun q => Vd Z a0 0 q) ⟨trivial, trivial⟩
    (fc (P := fun q => Vd Z a0 0 q) ⟨trivial, trivial⟩
    (fc (P := fun q => Vd Z a0 0 q) ⟨trivial, trivial⟩
    (fn)))))))))
  (fc (P := fun ch : Nat × List (Nat × Ent) => ∀ q ∈ ch.2, Vd Z a0 0 q) (fc (P := fun q => Vd Z a0 0 q) ⟨trivial, trivial⟩
    (fc (P := fun q => Vd Z a0 0 q) ⟨trivial, trivial⟩
    (fc (P := fun q => Vd Z a0 0 q) ⟨trivial, trivial⟩
    (fc (P := fun q => Vd Z a0 0 q) ⟨trivial, trivial⟩
    (fc (P := fun q => Vd Z a0 0 q) ⟨trivial, trivial⟩
    (fc (P := fun q => Vd Z a0 0 q) ⟨trivial, trivial⟩
    (fc (P := fun q => Vd Z a0 0 q) ⟨trivial, trivial⟩
    (fc (P := fun q => Vd Z a0 0 q) ⟨trivial, trivial⟩
    (fn)))))))))
  (fc (P := fun ch : Nat × List (Nat × Ent) => ∀ q ∈ ch.2, Vd Z a0 0 q) (fc (P := fun q => Vd Z a0 0 q) ⟨trivial, trivial⟩
    (fc (P := fun q => Vd Z a0 0 q) ⟨trivial, trivial⟩
    (fc (P := fun q => Vd Z a0 0 q) ⟨trivial, trivial⟩
    (fc (P := fun q => Vd Z a0 0 q) ⟨trivial, trivial⟩
    (fc (P := fun q => Vd Z a0 0 q) ⟨(hw _ (List.mem_of_getElem? (i := 1) rfl)), trivial⟩
    (fc (P := fun q => Vd Z a0 0 q) ⟨trivial, trivial⟩
    (fc (P := fun q => Vd Z a0 0 q) ⟨trivial, trivial⟩
    (fc (P := fun q => Vd Z a0 0 q) ⟨trivial, trivial⟩
    (fn)))))))))
  (fc (P := fun ch : Nat × List (Nat × Ent) => ∀ q ∈ ch.2, Vd Z a0 0 q) (fc (P := fun q => Vd Z a0 0 q) ⟨trivial, trivial⟩
    (fc (P := fun q => Vd Z a0 0 q) ⟨trivial, trivial⟩
    (fc (P := fun q => Vd Z a0 0 q) ⟨trivial, trivial⟩
    (fc (P := fun q => Vd Z a0 0 q) ⟨trivial, trivial⟩
    (fc (P := fun q => Vd Z a0 0 q) ⟨trivial, trivial⟩
    (fc (P := fun q => Vd Z a0 0 q) ⟨trivial, trivial⟩
    (fc (P := fun q => Vd Z a0 0 q) ⟨trivial, trivial⟩
    (fc (P := fun q => Vd Z a0 0 q) ⟨trivial, trivial⟩
    (fn)))))))))
  (fc (P := fun ch : Nat × List (Nat × Ent) => ∀ q ∈ ch.2, Vd Z a0 0 q) (fc (P := fun q => Vd Z a0 0 q) ⟨trivial, trivial⟩
    (fc (P := fun q => Vd Z a0 0 q) ⟨trivial, trivial⟩
    (fc (P := fun q => Vd Z a0 0 q) ⟨trivial, trivial⟩
    (fc (P := fun q => Vd Z a0 0 q) ⟨trivial, trivial⟩
    (fc (P := fun q => Vd Z a0 0 q) ⟨trivial, trivial⟩
    (fc (P := fun q => Vd Z a0 0 q) ⟨trivial, trivial⟩
    (fc (P := fun q => Vd Z a0 0 q) ⟨trivial, trivial⟩
    (fc (P := fun q => Vd Z a0 0 q) ⟨trivial, trivial⟩
    (fn)))))))))
  (fc (P := fun ch : Nat × List (Nat × Ent) => ∀ q ∈ ch.2, Vd Z a0 0 q) (fc (P := fun q => Vd Z a0 0 q) ⟨(hw _ (List.mem_of_getElem? (i := 1) rfl)), trivial⟩
    (fc (P := fun q => Vd Z a0 0 q) ⟨trivial, trivial⟩
    (fc (P := fun q => Vd Z a0 0 q) ⟨trivial, trivial⟩
    (fc (P := fun q => Vd Z a0 0 q) ⟨trivial, trivial⟩
    (fc (P := fun q => Vd Z a0 0 q) ⟨trivial, trivial⟩
    (fc (P := fun q => Vd Z a0 0 q) ⟨trivial, trivial⟩
    (fc (P := fun q => Vd Z a0 0 q) ⟨trivial, trivial⟩
    (fc (P := fun q => Vd Z a0 0 q) ⟨trivial, trivial⟩
    (fn)))))))))
  (fc (P := fun ch : Nat × List (Nat × Ent) => ∀ q ∈ ch.2, Vd Z a0 0 q) (fc (P := fun q => Vd Z a0 0 q) ⟨trivial, trivial⟩
    (fc (P := fun q => Vd Z a0 0 q) ⟨trivial, trivial⟩
    (fc (P := fun q => Vd Z a0 0 q) ⟨trivial, trivial⟩
    (fc (P := fun q => Vd Z a0 0 q) ⟨trivial, trivial⟩
    (fc (P := fun q => Vd Z a0 0 q) ⟨trivial, trivial⟩
    (fc (P := fun q => Vd Z a0 0 q) ⟨trivial, trivial⟩
    (fc (P := fun q => Vd Z a0 0 q) ⟨trivial, trivial⟩
    (fc (P := fun q => Vd Z a0 0 q) ⟨trivial, trivial⟩
    (fn)))))))))
  (fc (P := fun ch : Nat × List (Nat × Ent) => ∀ q ∈ ch.2, Vd Z a0 0 q) (fc (P := fun q => Vd Z a0 0 q) ⟨trivial, trivial⟩
    (fc (P := fun q => Vd Z a0 0 q) ⟨trivial, trivial⟩
    (fc (P := fun q => Vd Z a0 0 q) ⟨trivial, trivial⟩
    (fc (P := fun q => Vd Z a0 0 q) ⟨trivial, trivial⟩
    (fc (P := fun q => Vd Z a0 0 q) ⟨(hw _ (List.mem_of_getElem? (i := 1) rfl)), trivial⟩
    (fc (P := fun q => Vd Z a0 0 q) ⟨trivial, trivial⟩
    (fc (P := fun q => Vd Z a0 0 q) ⟨trivial, trivial⟩
    (fc (P := fun q => Vd Z a0 0 q) ⟨trivial, trivial⟩
    (fn)))))))))
  (fc (P := fun ch : Nat × List (Nat × Ent) => ∀ q ∈ ch.2, Vd Z a0 0 q) (fc (P := fun q => Vd Z a0 0 q) ⟨trivial, trivial⟩
    (fc (P := fun q => Vd Z a0 0 q) ⟨trivial, trivial⟩
    (fc (P := fun q => Vd Z a0 0 q) ⟨trivial, trivial⟩
    (fc (P := fun q => Vd Z a0 0 q) ⟨trivial, trivial⟩
    (fc (P := fun q => Vd Z a0 0 q) ⟨trivial, trivial⟩
    (fc (P := fun q => Vd Z a0 0 q) ⟨trivial, trivial⟩
    (fc (P := fun q => Vd Z a0 0 q) ⟨trivial, trivial⟩
    (fc (P := fun q => Vd Z a0 0 q) ⟨trivial, trivial⟩
    (fn)))))))))
  (fc (P := fun ch : Nat × List (Nat × Ent) => ∀ q ∈ ch.2, Vd Z a0 0 q) (fc (P := fun q => Vd Z a0 0 q) ⟨trivial, trivial⟩
    (fc (P := fun q => Vd Z a0 0 q) ⟨trivial, trivial⟩
    (fc (P := fun q => Vd Z a0 0 q) ⟨trivial, trivial⟩
    (fc (P := fun q => Vd Z a0 0 q) ⟨trivial, trivial⟩
    (fc (P := fun q => Vd Z a0 0 q) ⟨trivial, trivial⟩
    (fc (P := fun q => Vd Z a0 0 q) ⟨trivial, trivial⟩
    (fc (P := fun q => Vd Z a0 0 q) ⟨trivial, trivial⟩
    (fc (P := fun q => Vd Z a0 0 q) ⟨trivial, trivial⟩
    (fn)))))))))
  (fc (P := fun ch : Nat × List (Nat × Ent) => ∀ q ∈ ch.2, Vd Z a0 0 q) (fc (P := fun q => Vd Z a0 0 q) ⟨(hw _ (List.mem_of_getElem? (i := 1) rfl)), trivial⟩
    (fc (P := fun q => Vd Z a0 0 q) ⟨trivial, trivial⟩
    (fc (P := fun q => Vd Z a0 0 q) ⟨trivial, trivial⟩
    (fc (P := fun q => Vd Z a0 0 q) ⟨trivial, trivial⟩
    (fc (P := fun q => Vd Z a0 0 q) ⟨trivial, trivial⟩
    (fc (P := fun q => Vd Z a0 0 q) ⟨trivial, trivial⟩
    (fc (P := fun q => Vd Z a0 0 q) ⟨(hw _ (List.mem_of_getElem? (i := 1) rfl)), trivial⟩
    (fc (P := fun q => Vd Z a0 0 q) ⟨trivial, trivial⟩
    (fn)))))))))
  (fc (P := fun ch : Nat × List (Nat × Ent) => ∀ q ∈ ch.2, Vd Z a0 0 q) (fc (P := fun q => Vd Z a0 0 q) ⟨trivial, trivial⟩
    (fc (P := fun q => Vd Z a0 0 q) ⟨trivial, trivial⟩
    (fc (P := fun q => Vd Z a0 0 q) ⟨trivial, trivial⟩
    (fc (P := fun q => Vd Z a0 0 q) ⟨trivial, trivial⟩
    (fc (P := fun q => Vd Z a0 0 q) ⟨⟨(hw _ (List.mem_of_getElem? (i := 0) rfl)), rfl⟩, trivial⟩
    (fc (P := fun q => Vd Z a0 0 q) ⟨trivial, trivial⟩
    (fc (P := fun q => Vd Z a0 0 q) ⟨trivial, trivial⟩
    (fc (P := fun q => Vd Z a0 0 q) ⟨⟨(hw _ (List.mem_of_getElem? (i := 2) rfl)), rfl⟩, trivial⟩
    (fn)))))))))
  (fc (P := fun ch : Nat × List (Nat × Ent) => ∀ q ∈ ch.2, Vd Z a0 0 q) (fc (P := fun q => Vd Z a0 0 q) ⟨trivial, trivial⟩
    (fc (P := fun q => Vd Z a0 0 q) ⟨trivial, trivial⟩
    (fc (P := fun q => Vd Z a0 0 q) ⟨⟨(hw _ (List.mem_of_getElem? (i := 0) rfl)), rfl⟩, trivial⟩
    (fc (P := fun q => Vd Z a0 0 q) ⟨trivial, trivial⟩
    (fc (P := fun q => Vd Z a0 0 q) ⟨trivial, trivial⟩
    (fc (P := fun q => Vd Z a0 0 q) ⟨trivial, trivial⟩
    (fc (P := fun q => Vd Z a0 0 q) ⟨trivial, trivial⟩
    (fc (P := fun q => Vd Z a0 0 q) ⟨trivial, trivial⟩
    (fn)))))))))
  (fc (P := fun ch : Nat × List (Nat × Ent) => ∀ q ∈ ch.2, Vd Z a0 0 q) (fc (P := fun q => Vd Z a0 0 q) ⟨trivial, trivial⟩
    (fc (P := fun q => Vd Z a0 0 q) ⟨trivial, trivial⟩
    (fc (P := fun q => Vd Z a0 0 q) ⟨trivial, trivial⟩
    (fc (P := fun q => Vd Z a0 0 q) ⟨trivial, trivial⟩
    (fc (P := fun q => Vd Z a0 0 q) ⟨trivial, trivial⟩
    (fc (P := fun q => Vd Z a0 0 q) ⟨trivial, trivial⟩
    (fc (P := fun q => Vd Z a0 0 q) ⟨trivial, trivial⟩
    (fc (P := fun q => Vd Z a0 0 q) ⟨trivial, trivial⟩
    (fn)))))))))
  (fc (P := fun ch : Nat × List (Nat × Ent) => ∀ q ∈ ch.2, Vd Z a0 0 q) (fc (P := fun q => Vd Z a0 0 q) ⟨trivial, trivial⟩
    (fc (P := fun q => Vd Z a0 0 q) ⟨trivial, trivial⟩
    (fc (P := fun q => Vd Z a0 0 q) ⟨trivial, trivial⟩
    (fc (P := fun q => Vd Z a0 0 q) ⟨trivial, trivial⟩
    (fc (P := fun q => Vd Z a0 0 q) ⟨trivial, trivial⟩
    (fc (P := fun q => Vd Z a0 0 q) ⟨trivial, trivial⟩
    (fc (P := fun q => Vd Z a0 0 q) ⟨trivial, trivial⟩
    (fc (P := fun q => Vd Z a0 0 q) ⟨trivial, trivial⟩
    (fn)))))))))
  (fc (P := fun ch : Nat × List (Nat × Ent) => ∀ q ∈ ch.2, Vd Z a0 0 q) (fc (P := fun q => Vd Z a0 0 q) ⟨trivial, trivial⟩
    (fc (P := fun q => Vd Z a0 0 q) ⟨trivial, trivial⟩
    (fc (P := fun q => Vd Z a0 0 q) ⟨trivial, trivial⟩
    (fc (P := fun q => Vd Z a0 0 q) ⟨trivial, trivial⟩
    (fc (P := fun q => Vd Z a0 0 q) ⟨trivial, trivial⟩
    (fc (P := fun q => Vd Z a0 0 q) ⟨trivial, trivial⟩
    (fc (P := fun q => Vd Z a0 0 q) ⟨trivial, trivial⟩
    (fc (P := fun q => Vd Z a0 0 q) ⟨trivial, trivial⟩
    (fn)))))))))
  (fc (P := fun ch : Nat × List (Nat × Ent) => ∀ q ∈ ch.2, Vd Z a0 0 q) (fc (P := fun q => Vd Z a0 0 q) ⟨trivial, trivial⟩
    (fc (P := fun q => Vd Z a0 0 q) ⟨trivial, trivial⟩
    (fc (P := fun q => Vd Z a0 0 q) ⟨trivial, trivial⟩
    (fc (P := fun q => Vd Z a0 0 q) ⟨trivial, trivial⟩
    (fc (P := fun q => Vd Z a0 0 q) ⟨trivial, trivial⟩
    (fc (P := fun q => Vd Z a0 0 q) ⟨trivial, trivial⟩
    (fc (P := fun q => Vd Z a0 0 q) ⟨trivial, trivial⟩
    (fc (P := fun q => Vd Z a0 0 q) ⟨trivial, trivial⟩
    (fn)))))))))
  (fc (P := fun ch : Nat × List (Nat × Ent) => ∀ q ∈ ch.2, Vd Z a0 0 q) (fc (P := fun q => Vd Z a0 0 q) ⟨trivial, trivial⟩
    (fc (P := fun q => Vd Z a0 0 q) ⟨trivial, trivial⟩
    (fc (P := fun q => Vd Z a0 0 q) ⟨trivial, trivial⟩
    (fc (P := fun q => Vd Z a0 0 q) ⟨trivial, trivial⟩
    (fc (P := fun q => Vd Z a0 0 q) ⟨trivial, trivial⟩
    (fc (P := fun q => Vd Z a0 0 q) ⟨trivial, trivial⟩
    (fc (P := fun q => Vd Z a0 0 q) ⟨trivial, trivial⟩
    (fc (P := fun q => Vd Z a0 0 q) ⟨trivial, trivial⟩
    (fn)))))))))
  (fc (P := fun ch : Nat × List (Nat × Ent) => ∀ q ∈ ch.2, Vd Z a0 0 q) (fc (P := fun q => Vd Z a0 0 q) ⟨trivial, trivial⟩
    (fc (P := fun q => Vd Z a0 0 q) ⟨trivial, trivial⟩
    (fc (P := fun q => Vd Z a0 0 q) ⟨trivial, trivial⟩
    (fc (P := fun q => Vd Z a0 0 q) ⟨trivial, trivial⟩
    (fc (P := fun q => Vd Z a0 0 q) ⟨trivial, trivial⟩
    (fc (P := fun q => Vd Z a0 0 q) ⟨trivial, trivial⟩
    (fc (P := fun q => Vd Z a0 0 q) ⟨(hw _ (List.mem_of_getElem? (i := 3) rfl)), trivial⟩
    (fc (P := fun q => Vd Z a0 0 q) ⟨trivial, trivial⟩
    (fn)))))))))
  (fc (P := fun ch : Nat × List (Nat × Ent) => ∀ q ∈ ch.2, Vd Z a0 0 q) (fc (P := fun q => Vd Z a0 0 q) ⟨trivial, trivial⟩
    (fc (P := fun q => Vd Z a0 0 q) ⟨trivial, trivial⟩
    (fc (P := fun q => Vd Z a0 0 q) ⟨trivial, trivial⟩
    (fc (P := fun q => Vd Z a0 0 q) ⟨trivial, trivial⟩
    (fc (P := fun q => Vd Z a0 0 q) ⟨trivial, trivial⟩
    (fc (P := fun q => Vd Z a0 0 q) ⟨trivial, trivial⟩
    (fc (P := fun q => Vd Z a0 0 q) ⟨trivial, trivial⟩
    (fc (P := fun q => Vd Z a0 0 q) ⟨trivial, trivial⟩
    (fn)))))))))
  (fc (P := fun ch : Nat × List (Nat × Ent) => ∀ q ∈ ch.2, Vd Z a0 0 q) (fc (P := fun q => Vd Z a0 0 q) ⟨trivial, trivial⟩
    (fc (P := fun q => Vd Z a0 0 q) ⟨trivial, trivial⟩
    (fc (P := fun q => Vd Z a0 0 q) ⟨trivial, trivial⟩
    (fc (P := fun q => Vd Z a0 0 q) ⟨trivial, trivial⟩
    (fc (P := fun q => Vd Z a0 0 q) ⟨trivial, trivial⟩
    (fc (P := fun q => Vd Z a0 0 q) ⟨trivial, trivial⟩
    (fc (P := fun q => Vd Z a0 0 q) ⟨trivial, trivial⟩
    (fc (P := fun q => Vd Z a0 0 q) ⟨trivial, trivial⟩
    (fn)))))))))
  (fc (P := fun ch : Nat × List (Nat × Ent) => ∀ q ∈ ch.2, Vd Z a0 0 q) (fc (P := fun q => Vd Z a0 0 q) ⟨trivial, trivial⟩
    (fc (P := fun q => Vd Z a0 0 q) ⟨trivial, trivial⟩
    (fc (P := fun q => Vd Z a0 0 q) ⟨trivial, trivial⟩
    (fc (P := fun q => Vd Z a0 0 q) ⟨trivial, trivial⟩
    (fc (P := fun q => Vd Z a0 0 q) ⟨trivial, trivial⟩
    (fc (P := fun q => Vd Z a0 0 q) ⟨trivial, trivial⟩
    (fc (P := fun q => Vd Z a0 0 q) ⟨trivial, trivial⟩
    (fc (P := fun q => Vd Z a0 0 q) ⟨trivial, trivial⟩
    (fn)))))))))
  (fc (P := fun ch : Nat × List (Nat × Ent) => ∀ q ∈ ch.2, Vd Z a0 0 q) (fc (P := fun q => Vd Z a0 0 q) ⟨(hw _ (List.mem_of_getElem? (i := 4) rfl)), trivial⟩
    (fc (P := fun q => Vd Z a0 0 q) ⟨trivial, trivial⟩
    (fc (P := fun q => Vd Z a0 0 q) ⟨trivial, trivial⟩
    (fc (P := fun q => Vd Z a0 0 q) ⟨trivial, trivial⟩
    (fc (P := fun q => Vd Z a0 0 q) ⟨trivial, trivial⟩
    (fc (P := fun q => Vd Z a0 0 q) ⟨trivial, trivial⟩
    (fc (P := fun q => Vd Z a0 0 q) ⟨trivial, trivial⟩
    (fc (P := fun q => Vd Z a0 0 q) ⟨trivial, trivial⟩
    (fn)))))))))
  (fc (P := fun ch : Nat × List (Nat × Ent) => ∀ q ∈ ch.2, Vd Z a0 0 q) (fc (P := fun q => Vd Z a0 0 q) ⟨trivial, trivial⟩
    (fc (P := fun q => Vd Z a0 0 q) ⟨trivial, trivial⟩
    (fc (P := fun q => Vd Z a0 0 q) ⟨trivial, trivial⟩
    (fc (P := fun q => Vd Z a0 0 q) ⟨trivial, trivial⟩
    (fc (P := fun q => Vd Z a0 0 q) ⟨trivial, trivial⟩
    (fc (P := fun q => Vd Z a0 0 q) ⟨trivial, trivial⟩
    (fc (P := fun q => Vd Z a0 0 q) ⟨trivial, trivial⟩
    (fc (P := fun q => Vd Z a0 0 q) ⟨(hw _ (List.mem_of_getElem? (i := 1) rfl)), trivial⟩
    (fn)))))))))
  (fc (P := fun ch : Nat × List (Nat × Ent) => ∀ q ∈ ch.2, Vd Z a0 0 q) (fc (P := fun q => Vd Z a0 0 q) ⟨trivial, trivial⟩
    (fc (P := fun q => Vd Z a0 0 q) ⟨trivial, trivial⟩
    (fc (P := fun q => Vd Z a0 0 q) ⟨trivial, trivial⟩
    (fc (P := fun q => Vd Z a0 0 q) ⟨trivial, trivial⟩
    (fc (P := fun q => Vd Z a0 0 q) ⟨⟨_, _, rfl, (hw _ (List.mem_of_getElem? (i := 5) rfl)), (hw _ (List.mem_of_getElem? (i := 6) rfl)), (hw _ (List.mem_of_getElem? (i := 7) rfl)), rfl⟩, trivial⟩
    (fc (P := fun q => Vd Z a0 0 q) ⟨trivial, trivial⟩
    (fc (P := fun q => Vd Z a0 0 q) ⟨trivial, trivial⟩
    (fc (P := fun q => Vd Z a0 0 q) ⟨trivial, trivial⟩
    (fn)))))))))
  (fc (P := fun ch : Nat × List (Nat × Ent) => ∀ q ∈ ch.2, Vd Z a0 0 q) (fc (P := fun q => Vd Z a0 0 q) ⟨trivial, trivial⟩
    (fc (P := fun q => Vd Z a0 0 q) ⟨trivial, ⟨rfl, (hw _ (List.mem_of_getElem? (i := 8) rfl)), (hw _ (List.mem_of_getElem? (i := 9) rfl)), (hw _ (List.mem_of_getElem? (i := 7) rfl)), (hw _ (List.mem_of_getElem? (i := 10) rfl)), rfl, ⟨by decide, by decide⟩, ⟨_, _, rfl, rfl⟩, pl_1⟩⟩
    (fc (P := fun q => Vd Z a0 0 q) ⟨trivial, trivial⟩
    (fc (P := fun q => Vd Z a0 0 q) ⟨trivial, trivial⟩
    (fc (P := fun q => Vd Z a0 0 q) ⟨trivial, ⟨_, (hw _ (List.mem_of_getElem? (i := 60) rfl)), (hw _ (List.mem_of_getElem? (i := 61) rfl)), fun s hZ => notFace_of_selects (args := #[]) (mvT hZ (hw _ (List.mem_of_getElem? (i := 63) rfl))), ⟨by decide, by decide⟩, ⟨_, _, rfl, rfl⟩, fun k b hl => by obtain ⟨rfl, rfl⟩ := look1 hl; exact ⟨_, _, rfl, (hw _ (List.mem_of_getElem? (i := 63) rfl)), (hw _ (List.mem_of_getElem? (i := 62) rfl)), (hw _ (List.mem_of_getElem? (i := 64) rfl)), (hw _ (List.mem_of_getElem? (i := 7) rfl)), pl_6⟩⟩⟩
    (fc (P := fun q => Vd Z a0 0 q) ⟨trivial, trivial⟩
    (fc (P := fun q => Vd Z a0 0 q) ⟨trivial, trivial⟩
    (fc (P := fun q => Vd Z a0 0 q) ⟨trivial, trivial⟩
    (fn)))))))))
  (fc (P := fun ch : Nat × List (Nat × Ent) => ∀ q ∈ ch.2, Vd Z a0 0 q) (fc (P := fun q => Vd Z a0 0 q) ⟨trivial, trivial⟩
    (fc (P := fun q => Vd Z a0 0 q) ⟨trivial, trivial⟩
    (fc (P := fun q => Vd Z a0 0 q) ⟨trivial, trivial⟩
    (fc (P := fun q => Vd Z a0 0 q) ⟨trivial, trivial⟩
    (fc (P := fun q => Vd Z a0 0 q) ⟨trivial, trivial⟩
    (fc (P := fun q => Vd Z a0 0 q) ⟨trivial, trivial⟩
    (fc (P := fun q => Vd Z a0 0 q) ⟨trivial, trivial⟩
    (fc (P := fun q => Vd Z a0 0 q) ⟨trivial, ⟨(hw _ (List.mem_of_getElem? (i := 65) rfl)), (hw _ (List.mem_of_getElem? (i := 66) rfl)), (hw _ (List.mem_of_getElem? (i := 67) rfl)), (hw _ (List.mem_of_getElem? (i := 68) rfl)), ⟨by decide, by decide⟩, ⟨_, _, rfl, rfl⟩, pl_7⟩⟩
    (fn)))))))))
  (fc (P := fun ch : Nat × List (Nat × Ent) => ∀ q ∈ ch.2, Vd Z a0 0 q) (fc (P := fun q => Vd Z a0 0 q) ⟨trivial, trivial⟩
    (fc (P := fun q => Vd Z a0 0 q) ⟨trivial, trivial⟩
    (fc (P := fun q => Vd Z a0 0 q) ⟨trivial, trivial⟩
    (fc (P := fun q => Vd Z a0 0 q) ⟨trivial, trivial⟩
    (fc (P := fun q => Vd Z a0 0 q) ⟨trivial, trivial⟩
    (fc (P := fun q => Vd Z a0 0 q) ⟨trivial, ⟨(hw _ (List.mem_of_getElem? (i := 65) rfl)), (hw _ (List.mem_of_getElem? (i := 66) rfl)), (hw _ (List.mem_of_getElem? (i := 67) rfl)), (hw _ (List.mem_of_getElem? (i := 68) rfl)), ⟨by decide, by decide⟩, ⟨_, _, rfl, rfl⟩, pl_7⟩⟩
    (fc (P := fun q => Vd Z a0 0 q) ⟨trivial, trivial⟩
    (fc (P := fun q => Vd Z a0 0 q) ⟨trivial, trivial⟩
    (fn)))))))))
  (fc (P := fun ch : Nat × List (Nat × Ent) => ∀ q ∈ ch.2, Vd Z a0 0 q) (fc (P := fun q => Vd Z a0 0 q) ⟨trivial, trivial⟩
    (fc (P := fun q => Vd Z a0 0 q) ⟨trivial, trivial⟩
    (fc (P := fun q => Vd Z a0 0 q) ⟨trivial, trivial⟩
    (fc (P := fun q => Vd Z a0 0 q) ⟨trivial, trivial⟩
    (fc (P := fun q => Vd Z a0 0 q) ⟨trivial, ⟨(hw _ (List.mem_of_getElem? (i := 65) rfl)), (hw _ (List.mem_of_getElem? (i := 66) rfl)), (hw _ (List.mem_of_getElem? (i := 67) rfl)), (hw _ (List.mem_of_getElem? (i := 68) rfl)), ⟨by decide, by decide⟩, ⟨_, _, rfl, rfl⟩, pl_7⟩⟩
    (fc (P := fun q => Vd Z a0 0 q) ⟨trivial, trivial⟩
    (fc (P := fun q => Vd Z a0 0 q) ⟨trivial, trivial⟩
    (fc (P := fun q => Vd Z a0 0 q) ⟨trivial, trivial⟩
    (fn)))))))))
  (fc (P := fun ch : Nat × List (Nat × Ent) => ∀ q ∈ ch.2, Vd Z a0 0 q) (fc (P := fun q => Vd Z a0 0 q) ⟨trivial, trivial⟩
    (fc (P := fun q => Vd Z a0 0 q) ⟨trivial, trivial⟩
    (fc (P := fun q => Vd Z a0 0 q) ⟨trivial, trivial⟩
    (fc (P := fun q => Vd Z a0 0 q) ⟨trivial, ⟨(hw _ (List.mem_of_getElem? (i := 65) rfl)), (hw _ (List.mem_of_getElem? (i := 66) rfl)), (hw _ (List.mem_of_getElem? (i := 67) rfl)), (hw _ (List.mem_of_getElem? (i := 68) rfl)), ⟨by decide, by decide⟩, ⟨_, _, rfl, rfl⟩, pl_7⟩⟩
    (fc (P := fun q => Vd Z a0 0 q) ⟨trivial, trivial⟩
    (fc (P := fun q => Vd Z a0 0 q) ⟨trivial, trivial⟩
    (fc (P := fun q => Vd Z a0 0 q) ⟨trivial, trivial⟩
    (fc (P := fun q => Vd Z a0 0 q) ⟨trivial, trivial⟩
    (fn)))))))))
  (fc (P := fun ch : Nat × List (Nat × Ent) => ∀ q ∈ ch.2, Vd Z a0 0 q) (fc (P := fun q => Vd Z a0 0 q) ⟨trivial, trivial⟩
    (fc (P := fun q => Vd Z a0 0 q) ⟨trivial, trivial⟩
    (fc (P := fun q => Vd Z a0 0 q) ⟨trivial, trivial⟩
    (fn))))
  (fn)))))))))))))))))))))))))))))))
set_option maxRecDepth 65536 in
theorem dc_1 : ∀ ch ∈ c_1, ∀ q ∈ ch.2, decode (by_ 1) q.1 = .ok (q.2.1, ilen q.2.1) := by decide +kernel
set_option maxRecDepth 65536 in
theorem v_1 {Z : State} {a0 : Array Value} (hw : ∀ d ∈ tables_1, d.before a0 Z = true) : ∀ ch ∈ c_1, ∀ q ∈ ch.2, Vd Z a0 1 q :=
  fc (P := fun ch : Nat × List (Nat × Ent) => ∀ q ∈ ch.2, Vd Z a0 1 q) (fc (P := fun q => Vd Z a0 1 q) ⟨trivial, trivial⟩
    (fc (P := fun q => Vd Z a0 1 q) ⟨⟨(hw _ (List.mem_of_getElem? (i := 11) rfl)), (hw _ (List.mem_of_getElem? (i := 12) rfl)), (hw _ (List.mem_of_getElem? (i := 13) rfl))⟩, trivial⟩
    (fc (P := fun q => Vd Z a0 1 q) ⟨trivial, trivial⟩
    (fc (P := fun q => Vd Z a0 1 q) ⟨trivial, trivial⟩
    (fc (P := fun q => Vd Z a0 1 q) ⟨trivial, trivial⟩
    (fc (P := fun q => Vd Z a0 1 q) ⟨trivial, trivial⟩
    (fc (P := fun q => Vd Z a0 1 q) ⟨trivial, trivial⟩
    (fc (P := fun q => Vd Z a0 1 q) ⟨trivial, trivial⟩
    (fn)))))))))
  (fc (P := fun ch : Nat × List (Nat × Ent) => ∀ q ∈ ch.2, Vd Z a0 1 q) (fc (P := fun q => Vd Z a0 1 q) ⟨trivial, trivial⟩
    (fc (P := fun q => Vd Z a0 1 q) ⟨trivial, trivial⟩
    (fc (P := fun q => Vd Z a0 1 q) ⟨trivial, trivial⟩
    (fc (P := fun q => Vd Z a0 1 q) ⟨trivial, trivial⟩
    (fc (P := fun q => Vd Z a0 1 q) ⟨trivial, trivial⟩
    (fc (P := fun q => Vd Z a0 1 q) ⟨trivial, trivial⟩
    (fc (P := fun q => Vd Z a0 1 q) ⟨trivial, trivial⟩
    (fc (P := fun q => Vd Z a0 1 q) ⟨trivial, trivial⟩
    (fn)))))))))
  (fc (P := fun ch : Nat × List (Nat × Ent) => ∀ q ∈ ch.2, Vd Z a0 1 q) (fc (P := fun q => Vd Z a0 1 q) ⟨trivial, trivial⟩
    (fc (P := fun q => Vd Z a0 1 q) ⟨trivial, trivial⟩
    (fc (P := fun q => Vd Z a0 1 q) ⟨trivial, trivial⟩
    (fc (P := fun q => Vd Z a0 1 q) ⟨trivial, trivial⟩
    (fc (P := fun q => Vd Z a0 1 q) ⟨trivial, trivial⟩
    (fc (P := fun q => Vd Z a0 1 q) ⟨trivial, trivial⟩
    (fc (P := fun q => Vd Z a0 1 q) ⟨trivial, trivial⟩
    (fc (P := fun q => Vd Z a0 1 q) ⟨trivial, trivial⟩
    (fn)))))))))
  (fc (P := fun ch : Nat × List (Nat × Ent) => ∀ q ∈ ch.2, Vd Z a0 1 q) (fc (P := fun q => Vd Z a0 1 q) ⟨trivial, trivial⟩
    (fc (P := fun q => Vd Z a0 1 q) ⟨trivial, trivial⟩
    (fc (P := fun q => Vd Z a0 1 q) ⟨trivial, trivial⟩
    (fc (P := fun q => Vd Z a0 1 q) ⟨trivial, trivial⟩
    (fc (P := fun q => Vd Z a0 1 q) ⟨trivial, trivial⟩
    (fc (P := fun q => Vd Z a0 1 q) ⟨trivial, trivial⟩
    (fc (P := fun q => Vd Z a0 1 q) ⟨trivial, trivial⟩
    (fc (P := fun q => Vd Z a0 1 q) ⟨trivial, trivial⟩
    (fn)))))))))
  (fc (P := fun ch : Nat × List (Nat × Ent) => ∀ q ∈ ch.2, Vd Z a0 1 q) (fc (P := fun q => Vd Z a0 1 q) ⟨trivial, trivial⟩
    (fc (P := fun q => Vd Z a0 1 q) ⟨trivial, trivial⟩
    (fc (P := fun q => Vd Z a0 1 q) ⟨trivial, trivial⟩
    (fc (P := fun q => Vd Z a0 1 q) ⟨trivial, trivial⟩
    (fc (P := fun q => Vd Z a0 1 q) ⟨trivial, trivial⟩
    (fc (P := fun q => Vd Z a0 1 q) ⟨trivial, trivial⟩
    (fc (P := fun q => Vd Z a0 1 q) ⟨trivial, trivial⟩
    (fc (P := fun q => Vd Z a0 1 q) ⟨trivial, trivial⟩
    (fn)))))))))
  (fc (P := fun ch : Nat × List (Nat × Ent) => ∀ q ∈ ch.2, Vd Z a0 1 q) (fc (P := fun q => Vd Z a0 1 q) ⟨trivial, trivial⟩
    (fc (P := fun q => Vd Z a0 1 q) ⟨trivial, trivial⟩
    (fc (P := fun q => Vd Z a0 1 q) ⟨trivial, trivial⟩
    (fc (P := fun q => Vd Z a0 1 q) ⟨trivial, trivial⟩
    (fc (P := fun q => Vd Z a0 1 q) ⟨trivial, trivial⟩
    (fc (P := fun q => Vd Z a0 1 q) ⟨trivial, trivial⟩
    (fc (P := fun q => Vd Z a0 1 q) ⟨trivial, trivial⟩
    (fc (P := fun q => Vd Z a0 1 q) ⟨trivial, trivial⟩
    (fn)))))))))
  (fc (P := fun ch : Nat × List (Nat × Ent) => ∀ q ∈ ch.2, Vd Z a0 1 q) (fc (P := fun q => Vd Z a0 1 q) ⟨trivial, trivial⟩
    (fc (P := fun q => Vd Z a0 1 q) ⟨trivial, trivial⟩
    (fc (P := fun q => Vd Z a0 1 q) ⟨trivial, trivial⟩
    (fc (P := fun q => Vd Z a0 1 q) ⟨trivial, trivial⟩
    (fc (P := fun q => Vd Z a0 1 q) ⟨trivial, trivial⟩
    (fc (P := fun q => Vd Z a0 1 q) ⟨trivial, trivial⟩
    (fc (P := fun q => Vd Z a0 1 q) ⟨trivial, trivial⟩
    (fc (P := fun q => Vd Z a0 1 q) ⟨trivial, trivial⟩
    (fn)))))))))
  (fc (P := fun ch : Nat × List (Nat × Ent) => ∀ q ∈ ch.2, Vd Z a0 1 q) (fc (P := fun q => Vd Z a0 1 q) ⟨trivial, trivial⟩
    (fc (P := fun q => Vd Z a0 1 q) ⟨trivial, trivial⟩
    (fc (P := fun q => Vd Z a0 1 q) ⟨trivial, trivial⟩
    (fc (P := fun q => Vd Z a0 1 q) ⟨trivial, trivial⟩
    (fc (P := fun q => Vd Z a0 1 q) ⟨trivial, trivial⟩
    (fc (P := fun q => Vd Z a0 1 q) ⟨trivial, ⟨(hw _ (List.mem_of_getElem? (i := 14) rfl)), (hw _ (List.mem_of_getElem? (i := 15) rfl)), (hw _ (List.mem_of_getElem? (i := 16) rfl)), (hw _ (List.mem_of_getElem? (i := 17) rfl)), ⟨by decide, by decide⟩, ⟨_, _, rfl, rfl⟩, pl_2⟩⟩
    (fc (P := fun q => Vd Z a0 1 q) ⟨trivial, trivial⟩
    (fc (P := fun q => Vd Z a0 1 q) ⟨trivial, trivial⟩
    (fn)))))))))
  (fc (P := fun ch : Nat × List (Nat × Ent) => ∀ q ∈ ch.2, Vd Z a0 1 q) (fc (P := fun q => Vd Z a0 1 q) ⟨trivial, trivial⟩
    (fc (P := fun q => Vd Z a0 1 q) ⟨trivial, trivial⟩
    (fc (P := fun q => Vd Z a0 1 q) ⟨trivial, trivial⟩
    (fc (P := fun q => Vd Z a0 1 q) ⟨trivial, trivial⟩
    (fc (P := fun q => Vd Z a0 1 q) ⟨trivial, trivial⟩
    (fc (P := fun q => Vd Z a0 1 q) ⟨trivial, trivial⟩
    (fc (P := fun q => Vd Z a0 1 q) ⟨trivial, trivial⟩
    (fc (P := fun q => Vd Z a0 1 q) ⟨trivial, trivial⟩
    (fn)))))))))
  (fc (P := fun ch : Nat × List (Nat × Ent) => ∀ q ∈ ch.2, Vd Z a0 1 q) (fc (P := fun q => Vd Z a0 1 q) ⟨trivial, trivial⟩
    (fc (P := fun q => Vd Z a0 1 q) ⟨trivial, trivial⟩
    (fc (P := fun q => Vd Z a0 1 q) ⟨trivial, trivial⟩
    (fc (P := fun q => Vd Z a0 1 q) ⟨trivial, trivial⟩
    (fc (P := fun q => Vd Z a0 1 q) ⟨trivial, trivial⟩
    (fc (P := fun q => Vd Z a0 1 q) ⟨trivial, trivial⟩
    (fc (P := fun q => Vd Z a0 1 q) ⟨trivial, trivial⟩
    (fc (P := fun q => Vd Z a0 1 q) ⟨trivial, trivial⟩
    (fn)))))))))
  (fc (P := fun ch : Nat × List (Nat × Ent) => ∀ q ∈ ch.2, Vd Z a0 1 q) (fc (P := fun q => Vd Z a0 1 q) ⟨trivial, trivial⟩
    (fc (P := fun q => Vd Z a0 1 q) ⟨trivial, trivial⟩
    (fc (P := fun q => Vd Z a0 1 q) ⟨trivial, trivial⟩
    (fc (P := fun q => Vd Z a0 1 q) ⟨trivial, trivial⟩
    (fc (P := fun q => Vd Z a0 1 q) ⟨trivial, trivial⟩
    (fc (P := fun q => Vd Z a0 1 q) ⟨trivial, trivial⟩
    (fc (P := fun q => Vd Z a0 1 q) ⟨trivial, trivial⟩
    (fc (P := fun q => Vd Z a0 1 q) ⟨trivial, trivial⟩
    (fn)))))))))
  (fc (P := fun ch : Nat × List (Nat × Ent) => ∀ q ∈ ch.2, Vd Z a0 1 q) (fc (P := fun q => Vd Z a0 1 q) ⟨trivial, trivial⟩
    (fc (P := fun q => Vd Z a0 1 q) ⟨trivial, trivial⟩
    (fc (P := fun q => Vd Z a0 1 q) ⟨trivial, trivial⟩
    (fc (P := fun q => Vd Z a0 1 q) ⟨trivial, trivial⟩
    (fc (P := fun q => Vd Z a0 1 q) ⟨⟨_, _, _, _, _, rfl, rfl, (hw _ (List.mem_of_getElem? (i := 23) rfl)), Via.refl, Or.inr ⟨(hw _ (List.mem_of_getElem? (i := 24) rfl)), rfl, rfl⟩, (hw _ (List.mem_of_getElem? (i := 6) rfl)), rfl⟩, trivial⟩
    (fc (P := fun q => Vd Z a0 1 q) ⟨trivial, trivial⟩
    (fc (P := fun q => Vd Z a0 1 q) ⟨trivial, trivial⟩
    (fc (P := fun q => Vd Z a0 1 q) ⟨⟨_, _, rfl, rfl, (hw _ (List.mem_of_getElem? (i := 25) rfl)), (hw _ (List.mem_of_getElem? (i := 26) rfl)), (hw _ (List.mem_of_getElem? (i := 30) rfl)), (hw _ (List.mem_of_getElem? (i := 28) rfl)), (hw _ (List.mem_of_getElem? (i := 29) rfl)), (hw _ (List.mem_of_getElem? (i := 31) rfl))⟩, trivial⟩
    (fn)))))))))
  (fc (P := fun ch : Nat × List (Nat × Ent) => ∀ q ∈ ch.2, Vd Z a0 1 q) (fc (P := fun q => Vd Z a0 1 q) ⟨⟨_, (hw _ (List.mem_of_getElem? (i := 32) rfl)), fc (⟨_, rfl, (hw _ (List.mem_of_getElem? (i := 33) rfl))⟩) (fn)⟩, trivial⟩
    (fc (P := fun q => Vd Z a0 1 q) ⟨⟨_, _, _, _, _, rfl, rfl, (hw _ (List.mem_of_getElem? (i := 34) rfl)), Via.refl, Or.inr ⟨(hw _ (List.mem_of_getElem? (i := 35) rfl)), rfl, rfl⟩, (hw _ (List.mem_of_getElem? (i := 6) rfl)), rfl⟩, trivial⟩
    (fc (P := fun q => Vd Z a0 1 q) ⟨trivial, trivial⟩
    (fc (P := fun q => Vd Z a0 1 q) ⟨trivial, trivial⟩
    (fc (P := fun q => Vd Z a0 1 q) ⟨⟨_, _, rfl, rfl, (hw _ (List.mem_of_getElem? (i := 36) rfl)), (hw _ (List.mem_of_getElem? (i := 37) rfl)), (hw _ (List.mem_of_getElem? (i := 30) rfl)), (hw _ (List.mem_of_getElem? (i := 28) rfl)), (hw _ (List.mem_of_getElem? (i := 38) rfl)), (hw _ (List.mem_of_getElem? (i := 39) rfl))⟩, trivial⟩
    (fc (P := fun q => Vd Z a0 1 q) ⟨⟨_, (hw _ (List.mem_of_getElem? (i := 40) rfl)), fc (⟨_, rfl, (hw _ (List.mem_of_getElem? (i := 41) rfl))⟩) (fn)⟩, trivial⟩
    (fc (P := fun q => Vd Z a0 1 q) ⟨⟨_, _, _, _, _, rfl, rfl, (hw _ (List.mem_of_getElem? (i := 42) rfl)), Via.refl, Or.inr ⟨(hw _ (List.mem_of_getElem? (i := 43) rfl)), rfl, rfl⟩, (hw _ (List.mem_of_getElem? (i := 6) rfl)), rfl⟩, trivial⟩
    (fc (P := fun q => Vd Z a0 1 q) ⟨trivial, trivial⟩
    (fn)))))))))
  (fc (P := fun ch : Nat × List (Nat × Ent) => ∀ q ∈ ch.2, Vd Z a0 1 q) (fc (P := fun q => Vd Z a0 1 q) ⟨trivial, trivial⟩
    (fc (P := fun q => Vd Z a0 1 q) ⟨⟨_, _, _, _, _, rfl, rfl, (hw _ (List.mem_of_getElem? (i := 44) rfl)), Via.refl, Or.inr ⟨(hw _ (List.mem_of_getElem? (i := 45) rfl)), rfl, rfl⟩, (hw _ (List.mem_of_getElem? (i := 6) rfl)), rfl⟩, trivial⟩
    (fc (P := fun q => Vd Z a0 1 q) ⟨trivial, trivial⟩
    (fc (P := fun q => Vd Z a0 1 q) ⟨trivial, trivial⟩
    (fc (P := fun q => Vd Z a0 1 q) ⟨⟨_, _, _, _, rfl, rfl, (hw _ (List.mem_of_getElem? (i := 34) rfl)), Via.refl⟩, trivial⟩
    (fc (P := fun q => Vd Z a0 1 q) ⟨trivial, trivial⟩
    (fc (P := fun q => Vd Z a0 1 q) ⟨trivial, ⟨(hw _ (List.mem_of_getElem? (i := 46) rfl)), (hw _ (List.mem_of_getElem? (i := 47) rfl)), (hw _ (List.mem_of_getElem? (i := 7) rfl)), (hw _ (List.mem_of_getElem? (i := 48) rfl)), ⟨by decide, by decide⟩, ⟨_, _, rfl, rfl⟩, pl_3⟩⟩
    (fc (P := fun q => Vd Z a0 1 q) ⟨⟨_, _, _, _, _, rfl, rfl, (hw _ (List.mem_of_getElem? (i := 53) rfl)), Via.refl, Or.inr ⟨(hw _ (List.mem_of_getElem? (i := 54) rfl)), rfl, rfl⟩, (hw _ (List.mem_of_getElem? (i := 6) rfl)), rfl⟩, trivial⟩
    (fn)))))))))
  (fc (P := fun ch : Nat × List (Nat × Ent) => ∀ q ∈ ch.2, Vd Z a0 1 q) (fc (P := fun q => Vd Z a0 1 q) ⟨trivial, trivial⟩
    (fc (P := fun q => Vd Z a0 1 q) ⟨trivial, trivial⟩
    (fc (P := fun q => Vd Z a0 1 q) ⟨trivial, trivial⟩
    (fc (P := fun q => Vd Z a0 1 q) ⟨⟨_, _, _, _, rfl, rfl, (hw _ (List.mem_of_getElem? (i := 53) rfl)), Via.refl⟩, trivial⟩
    (fc (P := fun q => Vd Z a0 1 q) ⟨trivial, trivial⟩
    (fc (P := fun q => Vd Z a0 1 q) ⟨trivial, trivial⟩
    (fc (P := fun q => Vd Z a0 1 q) ⟨trivial, trivial⟩
    (fc (P := fun q => Vd Z a0 1 q) ⟨trivial, trivial⟩
    (fn)))))))))
  (fc (P := fun ch : Nat × List (Nat × Ent) => ∀ q ∈ ch.2, Vd Z a0 1 q) (fc (P := fun q => Vd Z a0 1 q) ⟨trivial, trivial⟩
    (fc (P := fun q => Vd Z a0 1 q) ⟨trivial, trivial⟩
    (fc (P := fun q => Vd Z a0 1 q) ⟨trivial, trivial⟩
    (fc (P := fun q => Vd Z a0 1 q) ⟨trivial, trivial⟩
    (fc (P := fun q => Vd Z a0 1 q) ⟨trivial, trivial⟩
    (fc (P := fun q => Vd Z a0 1 q) ⟨trivial, trivial⟩
    (fc (P := fun q => Vd Z a0 1 q) ⟨trivial, trivial⟩
    (fc (P := fun q => Vd Z a0 1 q) ⟨trivial, trivial⟩
    (fn)))))))))
  (fc (P := fun ch : Nat × List (Nat × Ent) => ∀ q ∈ ch.2, Vd Z a0 1 q) (fc (P := fun q => Vd Z a0 1 q) ⟨trivial, trivial⟩
    (fc (P := fun q => Vd Z a0 1 q) ⟨trivial, trivial⟩
    (fc (P := fun q => Vd Z a0 1 q) ⟨trivial, trivial⟩
    (fc (P := fun q => Vd Z a0 1 q) ⟨trivial, ⟨(hw _ (List.mem_of_getElem? (i := 55) rfl)), (hw _ (List.mem_of_getElem? (i := 56) rfl)), (hw _ (List.mem_of_getElem? (i := 20) rfl)), (hw _ (List.mem_of_getElem? (i := 57) rfl)), ⟨by decide, by decide⟩, ⟨_, _, rfl, rfl⟩, pl_5⟩⟩
    (fc (P := fun q => Vd Z a0 1 q) ⟨trivial, trivial⟩
    (fc (P := fun q => Vd Z a0 1 q) ⟨trivial, trivial⟩
    (fc (P := fun q => Vd Z a0 1 q) ⟨trivial, trivial⟩
    (fc (P := fun q => Vd Z a0 1 q) ⟨trivial, trivial⟩
    (fn)))))))))
  (fc (P := fun ch : Nat × List (Nat × Ent) => ∀ q ∈ ch.2, Vd Z a0 1 q) (fc (P := fun q => Vd Z a0 1 q) ⟨trivial, trivial⟩
    (fc (P := fun q => Vd Z a0 1 q) ⟨trivial, trivial⟩
    (fc (P := fun q => Vd Z a0 1 q) ⟨trivial, trivial⟩
    (fc (P := fun q => Vd Z a0 1 q) ⟨⟨_, _, _, _, _, rfl, rfl, (hw _ (List.mem_of_getElem? (i := 58) rfl)), Via.refl, Or.inr ⟨(hw _ (List.mem_of_getElem? (i := 59) rfl)), rfl, rfl⟩, (hw _ (List.mem_of_getElem? (i := 6) rfl)), rfl⟩, trivial⟩
    (fc (P := fun q => Vd Z a0 1 q) ⟨trivial, trivial⟩
    (fn))))))
  (fn))))))))))))))))))
set_option maxRecDepth 65536 in
theorem dc_2 : ∀ ch ∈ c_2, ∀ q ∈ ch.2, decode (by_ 2) q.1 = .ok (q.2.1, ilen q.2.1) := by decide +kernel
set_option maxRecDepth 65536 in
theorem v_2 {Z : State} {a0 : Array Value} (hw : ∀ d ∈ tables_1, d.before a0 Z = true) : ∀ ch ∈ c_2, ∀ q ∈ ch.2, Vd Z a0 2 q :=
  fc (P := fun ch : Nat × List (Nat × Ent) => ∀ q ∈ ch.2, Vd Z a0 2 q) (fc (P := fun q => Vd Z a0 2 q) ⟨trivial, trivial⟩
    (fc (P := fun q => Vd Z a0 2 q) ⟨⟨_, _, _, (hw _ (List.mem_of_getElem? (i := 18) rfl)), (hw _ (List.mem_of_getElem? (i := 19) rfl)), (hw _ (List.mem_of_getElem? (i := 20) rfl)), fc (⟨rfl, (hw _ (List.mem_of_getElem? (i := 21) rfl))⟩) (fn), List.mem_cons_self .., Or.inl ⟨_, _, _, rfl⟩, ⟨by decide, by decide⟩, ⟨_, _, rfl, rfl⟩, abs_ok⟩, trivial⟩
    (fc (P := fun q => Vd Z a0 2 q) ⟨(hw _ (List.mem_of_getElem? (i := 22) rfl)), trivial⟩
    (fc (P := fun q => Vd Z a0 2 q) ⟨trivial, trivial⟩
    (fc (P := fun q => Vd Z a0 2 q) ⟨trivial, trivial⟩
    (fc (P := fun q => Vd Z a0 2 q) ⟨trivial, trivial⟩
    (fc (P := fun q => Vd Z a0 2 q) ⟨trivial, trivial⟩
    (fc (P := fun q => Vd Z a0 2 q) ⟨trivial, trivial⟩
    (fn)))))))))
  (fc (P := fun ch : Nat × List (Nat × Ent) => ∀ q ∈ ch.2, Vd Z a0 2 q) (fc (P := fun q => Vd Z a0 2 q) ⟨trivial, trivial⟩
    (fn))
  (fn))
set_option maxRecDepth 65536 in
theorem dc_3 : ∀ ch ∈ c_3, ∀ q ∈ ch.2, decode (by_ 3) q.1 = .ok (q.2.1, ilen q.2.1) := by decide +kernel
set_option maxRecDepth 65536 in
theorem v_3 {Z : State} {a0 : Array Value} (hw : ∀ d ∈ tables_1, d.before a0 Z = true) : ∀ ch ∈ c_3, ∀ q ∈ ch.2, Vd Z a0 3 q :=
  fc (P := fun ch : Nat × List (Nat × Ent) => ∀ q ∈ ch.2, Vd Z a0 3 q) (fc (P := fun q => Vd Z a0 3 q) ⟨trivial, trivial⟩
    (fc (P := fun q => Vd Z a0 3 q) ⟨trivial, trivial⟩
    (fc (P := fun q => Vd Z a0 3 q) ⟨⟨(hw _ (List.mem_of_getElem? (i := 0) rfl)), rfl⟩, trivial⟩
    (fc (P := fun q => Vd Z a0 3 q) ⟨trivial, trivial⟩
    (fc (P := fun q => Vd Z a0 3 q) ⟨trivial, trivial⟩
    (fc (P := fun q => Vd Z a0 3 q) ⟨trivial, trivial⟩
    (fc (P := fun q => Vd Z a0 3 q) ⟨trivial, ⟨(hw _ (List.mem_of_getElem? (i := 49) rfl)), (hw _ (List.mem_of_getElem? (i := 50) rfl)), (hw _ (List.mem_of_getElem? (i := 51) rfl)), (hw _ (List.mem_of_getElem? (i := 52) rfl)), ⟨by decide, by decide⟩, ⟨_, _, rfl, rfl⟩, pl_4⟩⟩
    (fc (P := fun q => Vd Z a0 3 q) ⟨trivial, trivial⟩
    (fn)))))))))
  (fc (P := fun ch : Nat × List (Nat × Ent) => ∀ q ∈ ch.2, Vd Z a0 3 q) (fc (P := fun q => Vd Z a0 3 q) ⟨trivial, trivial⟩
    (fc (P := fun q => Vd Z a0 3 q) ⟨trivial, trivial⟩
    (fc (P := fun q => Vd Z a0 3 q) ⟨trivial, trivial⟩
    (fc (P := fun q => Vd Z a0 3 q) ⟨trivial, trivial⟩
    (fc (P := fun q => Vd Z a0 3 q) ⟨trivial, trivial⟩
    (fc (P := fun q => Vd Z a0 3 q) ⟨⟨(hw _ (List.mem_of_getElem? (i := 0) rfl)), rfl⟩, trivial⟩
    (fc (P := fun q => Vd Z a0 3 q) ⟨trivial, trivial⟩
    (fc (P := fun q => Vd Z a0 3 q) ⟨trivial, trivial⟩
    (fn)))))))))
  (fc (P := fun ch : Nat × List (Nat × Ent) => ∀ q ∈ ch.2, Vd Z a0 3 q) (fc (P := fun q => Vd Z a0 3 q) ⟨trivial, trivial⟩
    (fc (P := fun q => Vd Z a0 3 q) ⟨trivial, trivial⟩
    (fc (P := fun q => Vd Z a0 3 q) ⟨trivial, trivial⟩
    (fc (P := fun q => Vd Z a0 3 q) ⟨trivial, trivial⟩
    (fc (P := fun q => Vd Z a0 3 q) ⟨trivial, trivial⟩
    (fc (P := fun q => Vd Z a0 3 q) ⟨trivial, trivial⟩
    (fc (P := fun q => Vd Z a0 3 q) ⟨trivial, trivial⟩
    (fc (P := fun q => Vd Z a0 3 q) ⟨trivial, trivial⟩
    (fn)))))))))
  (fc (P := fun ch : Nat × List (Nat × Ent) => ∀ q ∈ ch.2, Vd Z a0 3 q) (fc (P := fun q => Vd Z a0 3 q) ⟨trivial, trivial⟩
    (fc (P := fun q => Vd Z a0 3 q) ⟨trivial, trivial⟩
    (fc (P := fun q => Vd Z a0 3 q) ⟨trivial, trivial⟩
    (fc (P := fun q => Vd Z a0 3 q) ⟨trivial, trivial⟩
    (fc (P := fun q => Vd Z a0 3 q) ⟨trivial, trivial⟩
    (fc (P := fun q => Vd Z a0 3 q) ⟨trivial, trivial⟩
    (fc (P := fun q => Vd Z a0 3 q) ⟨trivial, trivial⟩
    (fc (P := fun q => Vd Z a0 3 q) ⟨trivial, trivial⟩
    (fn)))))))))
  (fc (P := fun ch : Nat × List (Nat × Ent) => ∀ q ∈ ch.2, Vd Z a0 3 q) (fc (P := fun q => Vd Z a0 3 q) ⟨trivial, trivial⟩
    (fc (P := fun q => Vd Z a0 3 q) ⟨trivial, trivial⟩
    (fc (P := fun q => Vd Z a0 3 q) ⟨trivial, trivial⟩
    (fc (P := fun q => Vd Z a0 3 q) ⟨trivial, trivial⟩
    (fc (P := fun q => Vd Z a0 3 q) ⟨trivial, trivial⟩
    (fc (P := fun q => Vd Z a0 3 q) ⟨trivial, trivial⟩
    (fc (P := fun q => Vd Z a0 3 q) ⟨trivial, trivial⟩
    (fc (P := fun q => Vd Z a0 3 q) ⟨trivial, trivial⟩
    (fn)))))))))
  (fc (P := fun ch : Nat × List (Nat × Ent) => ∀ q ∈ ch.2, Vd Z a0 3 q) (fc (P := fun q => Vd Z a0 3 q) ⟨trivial, trivial⟩
    (fc (P := fun q => Vd Z a0 3 q) ⟨trivial, trivial⟩
    (fc (P := fun q => Vd Z a0 3 q) ⟨trivial, trivial⟩
    (fc (P := fun q => Vd Z a0 3 q) ⟨trivial, trivial⟩
    (fc (P := fun q => Vd Z a0 3 q) ⟨trivial, trivial⟩
    (fc (P := fun q => Vd Z a0 3 q) ⟨trivial, trivial⟩
    (fc (P := fun q => Vd Z a0 3 q) ⟨trivial, trivial⟩
    (fc (P := fun q => Vd Z a0 3 q) ⟨trivial, trivial⟩
    (fn)))))))))
  (fc (P := fun ch : Nat × List (Nat × Ent) => ∀ q ∈ ch.2, Vd Z a0 3 q) (fc (P := fun q => Vd Z a0 3 q) ⟨trivial, trivial⟩
    (fc (P := fun q => Vd Z a0 3 q) ⟨trivial, trivial⟩
    (fc (P := fun q => Vd Z a0 3 q) ⟨trivial, trivial⟩
    (fc (P := fun q => Vd Z a0 3 q) ⟨trivial, trivial⟩
    (fc (P := fun q => Vd Z a0 3 q) ⟨trivial, trivial⟩
    (fc (P := fun q => Vd Z a0 3 q) ⟨trivial, trivial⟩
    (fc (P := fun q => Vd Z a0 3 q) ⟨trivial, trivial⟩
    (fc (P := fun q => Vd Z a0 3 q) ⟨trivial, trivial⟩
    (fn)))))))))
  (fc (P := fun ch : Nat × List (Nat × Ent) => ∀ q ∈ ch.2, Vd Z a0 3 q) (fc (P := fun q => Vd Z a0 3 q) ⟨trivial, trivial⟩
    (fc (P := fun q => Vd Z a0 3 q) ⟨trivial, trivial⟩
    (fc (P := fun q => Vd Z a0 3 q) ⟨trivial, trivial⟩
    (fc (P := fun q => Vd Z a0 3 q) ⟨trivial, trivial⟩
    (fc (P := fun q => Vd Z a0 3 q) ⟨trivial, trivial⟩
    (fc (P := fun q => Vd Z a0 3 q) ⟨trivial, trivial⟩
    (fc (P := fun q => Vd Z a0 3 q) ⟨trivial, trivial⟩
    (fc (P := fun q => Vd Z a0 3 q) ⟨trivial, trivial⟩
    (fn)))))))))
  (fc (P := fun ch : Nat × List (Nat × Ent) => ∀ q ∈ ch.2, Vd Z a0 3 q) (fc (P := fun q => Vd Z a0 3 q) ⟨trivial, trivial⟩
    (fc (P := fun q => Vd Z a0 3 q) ⟨trivial, trivial⟩
    (fc (P := fun q => Vd Z a0 3 q) ⟨trivial, trivial⟩
    (fc (P := fun q => Vd Z a0 3 q) ⟨trivial, trivial⟩
    (fc (P := fun q => Vd Z a0 3 q) ⟨trivial, trivial⟩
    (fc (P := fun q => Vd Z a0 3 q) ⟨trivial, trivial⟩
    (fn)))))))
  (fn)))))))))
set_option maxRecDepth 65536 in
theorem dc_4 : ∀ ch ∈ c_4, ∀ q ∈ ch.2, decode (by_ 4) q.1 = .ok (q.2.1, ilen q.2.1) := by decide +kernel
set_option maxRecDepth 65536 in
theorem v_4 {Z : State} {a0 : Array Value} (hw : ∀ d ∈ tables_1, d.before a0 Z = true) : ∀ ch ∈ c_4, ∀ q ∈ ch.2, Vd Z a0 4 q :=
  fc (P := fun ch : Nat × List (Nat × Ent) => ∀ q ∈ ch.2, Vd Z a0 4 q) (fc (P := fun q => Vd Z a0 4 q) ⟨trivial, trivial⟩
    (fc (P := fun q => Vd Z a0 4 q) ⟨trivial, trivial⟩
    (fc (P := fun q => Vd Z a0 4 q) ⟨trivial, trivial⟩
    (fc (P := fun q => Vd Z a0 4 q) ⟨trivial, trivial⟩
    (fc (P := fun q => Vd Z a0 4 q) ⟨trivial, trivial⟩
    (fc (P := fun q => Vd Z a0 4 q) ⟨trivial, trivial⟩
    (fc (P := fun q => Vd Z a0 4 q) ⟨trivial, trivial⟩
    (fc (P := fun q => Vd Z a0 4 q) ⟨trivial, trivial⟩
    (fn)))))))))
  (fc (P := fun ch : Nat × List (Nat × Ent) => ∀ q ∈ ch.2, Vd Z a0 4 q) (fc (P := fun q => Vd Z a0 4 q) ⟨trivial, trivial⟩
    (fc (P := fun q => Vd Z a0 4 q) ⟨trivial, trivial⟩
    (fc (P := fun q => Vd Z a0 4 q) ⟨trivial, trivial⟩
    (fc (P := fun q => Vd Z a0 4 q) ⟨trivial, trivial⟩
    (fc (P := fun q => Vd Z a0 4 q) ⟨trivial, trivial⟩
    (fc (P := fun q => Vd Z a0 4 q) ⟨trivial, trivial⟩
    (fc (P := fun q => Vd Z a0 4 q) ⟨trivial, trivial⟩
    (fn))))))))
  (fn))
set_option maxRecDepth 65536 in
theorem dc_5 : ∀ ch ∈ c_5, ∀ q ∈ ch.2, decode (by_ 5) q.1 = .ok (q.2.1, ilen q.2.1) := by decide +kernel
set_option maxRecDepth 65536 in
theorem v_5 {Z : State} {a0 : Array Value} (hw : ∀ d ∈ tables_1, d.before a0 Z = true) : ∀ ch ∈ c_5, ∀ q ∈ ch.2, Vd Z a0 5 q :=
  fc (P := fun ch : Nat × List (Nat × Ent) => ∀ q ∈ ch.2, Vd Z a0 5 q) (fc (P := fun q => Vd Z a0 5 q) ⟨trivial, trivial⟩
    (fc (P := fun q => Vd Z a0 5 q) ⟨trivial, trivial⟩
    (fc (P := fun q => Vd Z a0 5 q) ⟨trivial, trivial⟩
    (fc (P := fun q => Vd Z a0 5 q) ⟨trivial, trivial⟩
    (fc (P := fun q => Vd Z a0 5 q) ⟨trivial, trivial⟩
    (fc (P := fun q => Vd Z a0 5 q) ⟨trivial, trivial⟩
    (fc (P := fun q => Vd Z a0 5 q) ⟨trivial, trivial⟩
    (fn))))))))
  (fn)
set_option maxRecDepth 65536 in
theorem dc_6 : ∀ ch ∈ c_6, ∀ q ∈ ch.2, decode (by_ 6) q.1 = .ok (q.2.1, ilen q.2.1) := by decide +kernel
set_option maxRecDepth 65536 in
theorem v_6 {Z : State} {a0 : Array Value} (hw : ∀ d ∈ tables_1, d.before a0 Z = true) : ∀ ch ∈ c_6, ∀ q ∈ ch.2, Vd Z a0 6 q :=
  fc (P := fun ch : Nat × List (Nat × Ent) => ∀ q ∈ ch.2, Vd Z a0 6 q) (fc (P := fun q => Vd Z a0 6 q) ⟨trivial, trivial⟩
    (fc (P := fun q => Vd Z a0 6 q) ⟨⟨_, _, _, _, rfl, rfl, (hw _ (List.mem_of_getElem? (i := 58) rfl)), Via.refl⟩, trivial⟩
    (fc (P := fun q => Vd Z a0 6 q) ⟨trivial, trivial⟩
    (fc (P := fun q => Vd Z a0 6 q) ⟨trivial, trivial⟩
    (fc (P := fun q => Vd Z a0 6 q) ⟨⟨(hw _ (List.mem_of_getElem? (i := 0) rfl)), rfl⟩, trivial⟩
    (fc (P := fun q => Vd Z a0 6 q) ⟨trivial, trivial⟩
    (fc (P := fun q => Vd Z a0 6 q) ⟨trivial, trivial⟩
    (fc (P := fun q => Vd Z a0 6 q) ⟨⟨_, _, _, _, rfl, rfl, (hw _ (List.mem_of_getElem? (i := 53) rfl)), Via.refl⟩, trivial⟩
    (fn)))))))))
  (fc (P := fun ch : Nat × List (Nat × Ent) => ∀ q ∈ ch.2, Vd Z a0 6 q) (fc (P := fun q => Vd Z a0 6 q) ⟨trivial, trivial⟩
    (fc (P := fun q => Vd Z a0 6 q) ⟨trivial, trivial⟩
    (fc (P := fun q => Vd Z a0 6 q) ⟨trivial, trivial⟩
    (fc (P := fun q => Vd Z a0 6 q) ⟨trivial, trivial⟩
    (fc (P := fun q => Vd Z a0 6 q) ⟨trivial, trivial⟩
    (fc (P := fun q => Vd Z a0 6 q) ⟨trivial, trivial⟩
    (fc (P := fun q => Vd Z a0 6 q) ⟨trivial, trivial⟩
    (fc (P := fun q => Vd Z a0 6 q) ⟨trivial, trivial⟩
    (fn)))))))))
  (fc (P := fun ch : Nat × List (Nat × Ent) => ∀ q ∈ ch.2, Vd Z a0 6 q) (fc (P := fun q => Vd Z a0 6 q) ⟨trivial, trivial⟩
    (fc (P := fun q => Vd Z a0 6 q) ⟨trivial, trivial⟩
    (fc (P := fun q => Vd Z a0 6 q) ⟨trivial, trivial⟩
    (fc (P := fun q => Vd Z a0 6 q) ⟨trivial, trivial⟩
    (fc (P := fun q => Vd Z a0 6 q) ⟨trivial, trivial⟩
    (fc (P := fun q => Vd Z a0 6 q) ⟨trivial, trivial⟩
    (fc (P := fun q => Vd Z a0 6 q) ⟨trivial, trivial⟩
    (fc (P := fun q => Vd Z a0 6 q) ⟨trivial, trivial⟩
    (fn)))))))))
  (fc (P := fun ch : Nat × List (Nat × Ent) => ∀ q ∈ ch.2, Vd Z a0 6 q) (fc (P := fun q => Vd Z a0 6 q) ⟨trivial, trivial⟩
    (fc (P := fun q => Vd Z a0 6 q) ⟨trivial, trivial⟩
    (fc (P := fun q => Vd Z a0 6 q) ⟨trivial, trivial⟩
    (fc (P := fun q => Vd Z a0 6 q) ⟨trivial, trivial⟩
    (fc (P := fun q => Vd Z a0 6 q) ⟨trivial, trivial⟩
    (fc (P := fun q => Vd Z a0 6 q) ⟨trivial, trivial⟩
    (fc (P := fun q => Vd Z a0 6 q) ⟨trivial, trivial⟩
    (fc (P := fun q => Vd Z a0 6 q) ⟨trivial, trivial⟩
    (fn)))))))))
  (fc (P := fun ch : Nat × List (Nat × Ent) => ∀ q ∈ ch.2, Vd Z a0 6 q) (fc (P := fun q => Vd Z a0 6 q) ⟨trivial, trivial⟩
    (fc (P := fun q => Vd Z a0 6 q) ⟨trivial, trivial⟩
    (fc (P := fun q => Vd Z a0 6 q) ⟨trivial, trivial⟩
    (fc (P := fun q => Vd Z a0 6 q) ⟨trivial, trivial⟩
    (fc (P := fun q => Vd Z a0 6 q) ⟨⟨_, _, _, _, rfl, rfl, (hw _ (List.mem_of_getElem? (i := 58) rfl)), Via.refl⟩, trivial⟩
    (fc (P := fun q => Vd Z a0 6 q) ⟨trivial, trivial⟩
    (fc (P := fun q => Vd Z a0 6 q) ⟨trivial, trivial⟩
    (fc (P := fun q => Vd Z a0 6 q) ⟨trivial, trivial⟩
    (fn)))))))))
  (fc (P := fun ch : Nat × List (Nat × Ent) => ∀ q ∈ ch.2, Vd Z a0 6 q) (fc (P := fun q => Vd Z a0 6 q) ⟨trivial, trivial⟩
    (fc (P := fun q => Vd Z a0 6 q) ⟨trivial, trivial⟩
    (fc (P := fun q => Vd Z a0 6 q) ⟨trivial, trivial⟩
    (fc (P := fun q => Vd Z a0 6 q) ⟨trivial, trivial⟩
    (fc (P := fun q => Vd Z a0 6 q) ⟨trivial, trivial⟩
    (fc (P := fun q => Vd Z a0 6 q) ⟨trivial, trivial⟩
    (fc (P := fun q => Vd Z a0 6 q) ⟨trivial, trivial⟩
    (fc (P := fun q => Vd Z a0 6 q) ⟨trivial, trivial⟩
    (fn)))))))))
  (fc (P := fun ch : Nat × List (Nat × Ent) => ∀ q ∈ ch.2, Vd Z a0 6 q) (fc (P := fun q => Vd Z a0 6 q) ⟨trivial, trivial⟩
    (fc (P := fun q => Vd Z a0 6 q) ⟨trivial, trivial⟩
    (fc (P := fun q => Vd Z a0 6 q) ⟨trivial, trivial⟩
    (fc (P := fun q => Vd Z a0 6 q) ⟨trivial, trivial⟩
    (fc (P := fun q => Vd Z a0 6 q) ⟨⟨_, _, _, _, rfl, rfl, (hw _ (List.mem_of_getElem? (i := 34) rfl)), Via.refl⟩, trivial⟩
    (fc (P := fun q => Vd Z a0 6 q) ⟨trivial, trivial⟩
    (fc (P := fun q => Vd Z a0 6 q) ⟨⟨(hw _ (List.mem_of_getElem? (i := 0) rfl)), rfl⟩, trivial⟩
    (fc (P := fun q => Vd Z a0 6 q) ⟨trivial, trivial⟩
    (fn)))))))))
  (fc (P := fun ch : Nat × List (Nat × Ent) => ∀ q ∈ ch.2, Vd Z a0 6 q) (fc (P := fun q => Vd Z a0 6 q) ⟨trivial, trivial⟩
    (fc (P := fun q => Vd Z a0 6 q) ⟨trivial, trivial⟩
    (fc (P := fun q => Vd Z a0 6 q) ⟨trivial, trivial⟩
    (fc (P := fun q => Vd Z a0 6 q) ⟨trivial, trivial⟩
    (fc (P := fun q => Vd Z a0 6 q) ⟨⟨_, _, _, _, rfl, rfl, (hw _ (List.mem_of_getElem? (i := 34) rfl)), Via.refl⟩, trivial⟩
    (fc (P := fun q => Vd Z a0 6 q) ⟨trivial, trivial⟩
    (fc (P := fun q => Vd Z a0 6 q) ⟨trivial, trivial⟩
    (fc (P := fun q => Vd Z a0 6 q) ⟨trivial, trivial⟩
    (fn)))))))))
  (fc (P := fun ch : Nat × List (Nat × Ent) => ∀ q ∈ ch.2, Vd Z a0 6 q) (fc (P := fun q => Vd Z a0 6 q) ⟨trivial, trivial⟩
    (fc (P := fun q => Vd Z a0 6 q) ⟨trivial, trivial⟩
    (fc (P := fun q => Vd Z a0 6 q) ⟨⟨_, _, _, _, rfl, rfl, (hw _ (List.mem_of_getElem? (i := 53) rfl)), Via.refl⟩, trivial⟩
    (fc (P := fun q => Vd Z a0 6 q) ⟨trivial, trivial⟩
    (fc (P := fun q => Vd Z a0 6 q) ⟨trivial, trivial⟩
    (fc (P := fun q => Vd Z a0 6 q) ⟨trivial, trivial⟩
    (fc (P := fun q => Vd Z a0 6 q) ⟨trivial, trivial⟩
    (fc (P := fun q => Vd Z a0 6 q) ⟨trivial, trivial⟩
    (fn)))))))))
  (fc (P := fun ch : Nat × List (Nat × Ent) => ∀ q ∈ ch.2, Vd Z a0 6 q) (fc (P := fun q => Vd Z a0 6 q) ⟨trivial, trivial⟩
    (fc (P := fun q => Vd Z a0 6 q) ⟨trivial, trivial⟩
    (fc (P := fun q => Vd Z a0 6 q) ⟨trivial, trivial⟩
    (fc (P := fun q => Vd Z a0 6 q) ⟨trivial, trivial⟩
    (fc (P := fun q => Vd Z a0 6 q) ⟨trivial, trivial⟩
    (fc (P := fun q => Vd Z a0 6 q) ⟨trivial, trivial⟩
    (fc (P := fun q => Vd Z a0 6 q) ⟨trivial, trivial⟩
    (fc (P := fun q => Vd Z a0 6 q) ⟨trivial, trivial⟩
    (fn)))))))))
  (fc (P := fun ch : Nat × List (Nat × Ent) => ∀ q ∈ ch.2, Vd Z a0 6 q) (fc (P := fun q => Vd Z a0 6 q) ⟨trivial, trivial⟩
    (fn))
  (fn)))))))))))
set_option maxRecDepth 65536 in
theorem dc_7 : ∀ ch ∈ c_7, ∀ q ∈ ch.2, decode (by_ 7) q.1 = .ok (q.2.1, ilen q.2.1) := by decide +kernel
set_option maxRecDepth 65536 in
theorem v_7 {Z : State} {a0 : Array Value} (hw : ∀ d ∈ tables_1, d.before a0 Z = true) : ∀ ch ∈ c_7, ∀ q ∈ ch.2, Vd Z a0 7 q :=
  fc (P := fun ch : Nat × List (Nat × Ent) => ∀ q ∈ ch.2, Vd Z a0 7 q) (fc (P := fun q => Vd Z a0 7 q) ⟨trivial, trivial⟩
    (fc (P := fun q => Vd Z a0 7 q) ⟨trivial, trivial⟩
    (fc (P := fun q => Vd Z a0 7 q) ⟨trivial, trivial⟩
    (fc (P := fun q => Vd Z a0 7 q) ⟨trivial, ⟨(hw _ (List.mem_of_getElem? (i := 69) rfl)), (hw _ (List.mem_of_getElem? (i := 70) rfl)), (hw _ (List.mem_of_getElem? (i := 67) rfl)), (hw _ (List.mem_of_getElem? (i := 71) rfl)), ⟨by decide, by decide⟩, ⟨_, _, rfl, rfl⟩, pl_8⟩⟩
    (fc (P := fun q => Vd Z a0 7 q) ⟨trivial, trivial⟩
    (fc (P := fun q => Vd Z a0 7 q) ⟨trivial, trivial⟩
    (fc (P := fun q => Vd Z a0 7 q) ⟨trivial, trivial⟩
    (fc (P := fun q => Vd Z a0 7 q) ⟨trivial, ⟨(hw _ (List.mem_of_getElem? (i := 69) rfl)), (hw _ (List.mem_of_getElem? (i := 70) rfl)), (hw _ (List.mem_of_getElem? (i := 67) rfl)), (hw _ (List.mem_of_getElem? (i := 71) rfl)), ⟨by decide, by decide⟩, ⟨_, _, rfl, rfl⟩, pl_8⟩⟩
    (fn)))))))))
  (fc (P := fun ch : Nat × List (Nat × Ent) => ∀ q ∈ ch.2, Vd Z a0 7 q) (fc (P := fun q => Vd Z a0 7 q) ⟨trivial, trivial⟩
    (fc (P := fun q => Vd Z a0 7 q) ⟨trivial, trivial⟩
    (fc (P := fun q => Vd Z a0 7 q) ⟨trivial, trivial⟩
    (fc (P := fun q => Vd Z a0 7 q) ⟨trivial, trivial⟩
    (fc (P := fun q => Vd Z a0 7 q) ⟨trivial, ⟨(hw _ (List.mem_of_getElem? (i := 69) rfl)), (hw _ (List.mem_of_getElem? (i := 70) rfl)), (hw _ (List.mem_of_getElem? (i := 67) rfl)), (hw _ (List.mem_of_getElem? (i := 71) rfl)), ⟨by decide, by decide⟩, ⟨_, _, rfl, rfl⟩, pl_8⟩⟩
    (fc (P := fun q => Vd Z a0 7 q) ⟨trivial, trivial⟩
    (fc (P := fun q => Vd Z a0 7 q) ⟨trivial, trivial⟩
    (fc (P := fun q => Vd Z a0 7 q) ⟨trivial, trivial⟩
    (fn)))))))))
  (fc (P := fun ch : Nat × List (Nat × Ent) => ∀ q ∈ ch.2, Vd Z a0 7 q) (fc (P := fun q => Vd Z a0 7 q) ⟨trivial, trivial⟩
    (fc (P := fun q => Vd Z a0 7 q) ⟨trivial, ⟨(hw _ (List.mem_of_getElem? (i := 69) rfl)), (hw _ (List.mem_of_getElem? (i := 70) rfl)), (hw _ (List.mem_of_getElem? (i := 67) rfl)), (hw _ (List.mem_of_getElem? (i := 71) rfl)), ⟨by decide, by decide⟩, ⟨_, _, rfl, rfl⟩, pl_8⟩⟩
    (fc (P := fun q => Vd Z a0 7 q) ⟨trivial, trivial⟩
    (fc (P := fun q => Vd Z a0 7 q) ⟨trivial, trivial⟩
    (fn)))))
  (fn)))
set_option maxRecDepth 65536 in
theorem dc_8 : ∀ ch ∈ c_8, ∀ q ∈ ch.2, decode (by_ 8) q.1 = .ok (q.2.1, ilen q.2.1) := by decide +kernel
set_option maxRecDepth 65536 in
theorem v_8 {Z : State} {a0 : Array Value} (hw : ∀ d ∈ tables_1, d.before a0 Z = true) : ∀ ch ∈ c_8, ∀ q ∈ ch.2, Vd Z a0 8 q :=
  fc (P := fun ch : Nat × List (Nat × Ent) => ∀ q ∈ ch.2, Vd Z a0 8 q) (fc (P := fun q => Vd Z a0 8 q) ⟨trivial, trivial⟩
    (fc (P := fun q => Vd Z a0 8 q) ⟨trivial, trivial⟩
    (fc (P := fun q => Vd Z a0 8 q) ⟨trivial, trivial⟩
    (fc (P := fun q => Vd Z a0 8 q) ⟨trivial, trivial⟩
    (fc (P := fun q => Vd Z a0 8 q) ⟨trivial, trivial⟩
    (fc (P := fun q => Vd Z a0 8 q) ⟨trivial, trivial⟩
    (fc (P := fun q => Vd Z a0 8 q) ⟨trivial, trivial⟩
    (fc (P := fun q => Vd Z a0 8 q) ⟨trivial, trivial⟩
    (fn)))))))))
  (fc (P := fun ch : Nat × List (Nat × Ent) => ∀ q ∈ ch.2, Vd Z a0 8 q) (fc (P := fun q => Vd Z a0 8 q) ⟨trivial, trivial⟩
    (fc (P := fun q => Vd Z a0 8 q) ⟨trivial, trivial⟩
    (fc (P := fun q => Vd Z a0 8 q) ⟨trivial, trivial⟩
    (fc (P := fun q => Vd Z a0 8 q) ⟨trivial, trivial⟩
    (fc (P := fun q => Vd Z a0 8 q) ⟨trivial, trivial⟩
    (fc (P := fun q => Vd Z a0 8 q) ⟨trivial, trivial⟩
    (fc (P := fun q => Vd Z a0 8 q) ⟨trivial, trivial⟩
    (fc (P := fun q => Vd Z a0 8 q) ⟨trivial, trivial⟩
    (fn)))))))))
  (fc (P := fun ch : Nat × List (Nat × Ent) => ∀ q ∈ ch.2, Vd Z a0 8 q) (fc (P := fun q => Vd Z a0 8 q) ⟨trivial, trivial⟩
    (fc (P := fun q => Vd Z a0 8 q) ⟨trivial, trivial⟩
    (fc (P := fun q => Vd Z a0 8 q) ⟨trivial, trivial⟩
    (fc (P := fun q => Vd Z a0 8 q) ⟨trivial, trivial⟩
    (fc (P := fun q => Vd Z a0 8 q) ⟨trivial, trivial⟩
    (fc (P := fun q => Vd Z a0 8 q) ⟨trivial, trivial⟩
    (fc (P := fun q => Vd Z a0 8 q) ⟨trivial, trivial⟩
    (fn))))))))
  (fn)))
theorem mok1 {Z : State} {a0 : Array Value} {M pc : Nat} {i : Instr} {pin : Option Bool} {nums : List Nat} {val : Value} (h : decode (by_ M) pc = .ok (i, ilen i)) (v : Vd Z a0 M (pc, i, pin, nums, val)) : decode (by_ M) pc = .ok (i, ilen i) ∧ VI Z a0 kc_ sl_ E_.2.2.2.1 E_.2.2.2.2.1 E_.2.2.2.2.2.1 (nm_ M).cls (nm_ M).name i nums val ∧ VC Z a0 kc_ E_ nm_ by_ (nm_ M).cls i nums := ⟨h, v.1, v.2⟩
theorem mok_ {Z : State} {a0 : Array Value} (hw : ∀ d ∈ tables_1, d.before a0 Z = true) : MOk Z a0 kc_ sl_ E_ nm_ by_ := by
  intro M pc i pin nums val h
  have h : code_ M pc = some (i, pin, nums, val) := h
  unfold code_ at h
  split at h
  · obtain ⟨ch, h1, h2⟩ := fetch2_mem h; exact mok1 (M := 0) (dc_0 ch h1 (pc, i, pin, nums, val) h2) (v_0 hw ch h1 (pc, i, pin, nums, val) h2)
  · obtain ⟨ch, h1, h2⟩ := fetch2_mem h; exact mok1 (M := 1) (dc_1 ch h1 (pc, i, pin, nums, val) h2) (v_1 hw ch h1 (pc, i, pin, nums, val) h2)
  · obtain ⟨ch, h1, h2⟩ := fetch2_mem h; exact mok1 (M := 2) (dc_2 ch h1 (pc, i, pin, nums, val) h2) (v_2 hw ch h1 (pc, i, pin, nums, val) h2)
  · obtain ⟨ch, h1, h2⟩ := fetch2_mem h; exact mok1 (M := 3) (dc_3 ch h1 (pc, i, pin, nums, val) h2) (v_3 hw ch h1 (pc, i, pin, nums, val) h2)
  · obtain ⟨ch, h1, h2⟩ := fetch2_mem h; exact mok1 (M := 4) (dc_4 ch h1 (pc, i, pin, nums, val) h2) (v_4 hw ch h1 (pc, i, pin, nums, val) h2)
  · obtain ⟨ch, h1, h2⟩ := fetch2_mem h; exact mok1 (M := 5) (dc_5 ch h1 (pc, i, pin, nums, val) h2) (v_5 hw ch h1 (pc, i, pin, nums, val) h2)
  · obtain ⟨ch, h1, h2⟩ := fetch2_mem h; exact mok1 (M := 6) (dc_6 ch h1 (pc, i, pin, nums, val) h2) (v_6 hw ch h1 (pc, i, pin, nums, val) h2)
  · obtain ⟨ch, h1, h2⟩ := fetch2_mem h; exact mok1 (M := 7) (dc_7 ch h1 (pc, i, pin, nums, val) h2) (v_7 hw ch h1 (pc, i, pin, nums, val) h2)
  · obtain ⟨ch, h1, h2⟩ := fetch2_mem h; exact mok1 (M := 8) (dc_8 ch h1 (pc, i, pin, nums, val) h2) (v_8 hw ch h1 (pc, i, pin, nums, val) h2)
  · cases h
theorem kok_ {Z : State} {a0 : Array Value} (hw : ∀ d ∈ tables_1, d.before a0 Z = true) : KOk Z a0 kc_ := by
  intro k C fs h
  unfold kc_ at h
  split at h
  · cases h; exact ⟨rfl, fc (⟨Or.inr (hw _ (List.mem_of_getElem? (i := 24) rfl)), rfl⟩) (fc (⟨Or.inr (hw _ (List.mem_of_getElem? (i := 35) rfl)), rfl⟩) (fc (⟨Or.inr (hw _ (List.mem_of_getElem? (i := 43) rfl)), rfl⟩) (fc (⟨Or.inr (hw _ (List.mem_of_getElem? (i := 45) rfl)), rfl⟩) (fc (⟨Or.inr (hw _ (List.mem_of_getElem? (i := 54) rfl)), rfl⟩) (fc (⟨Or.inr (hw _ (List.mem_of_getElem? (i := 59) rfl)), rfl⟩) (fn)))))), nodup_ne (by decide)⟩
  · cases h

def CS_0 (R : Fx.Cal) (c : Fx.Cont) : Fx.Cont := fun L S A => Fx.hd S fun x5 S => Fx.hd S fun x4 S => Fx.hd S fun x3 S => Fx.hd S fun x2 S => Fx.hd S fun x1 S => Fx.hd S fun x0 r => Fx.w1 x0 (Fx.w1 x1 (Fx.w1 x2 (Fx.w1 x3 (Fx.w1 x4 (Fx.w1 x5 (Fx.callF R 0 17 r L A c ((((((.val x0), (.val x1)), ((.val x2), (.val x3))), (((.val x4), (.val x5)), (.unset, .unset))), (((.unset, .unset), (.unset, .unset)), ((.unset, .unset), (.unset, .unset)))), ((((.unset, .unset), (.unset, .unset)), ((.unset, .unset), (.unset, .unset))), (((.unset, .unset), (.unset, .unset)), ((.unset, .unset), (.unset, .unset)))))))))))
theorem CS_0_ok (R : Fx.Cal) : Fx.StatC R 0 17 6 (CS_0 R) := by
  intro c L S A r q hr
  obtain ⟨x5, S0, rfl, q0⟩ := Fx.hd_ok q hr
  obtain ⟨x4, S1, rfl, q1⟩ := Fx.hd_ok q0 hr
  obtain ⟨x3, S2, rfl, q2⟩ := Fx.hd_ok q1 hr
  obtain ⟨x2, S3, rfl, q3⟩ := Fx.hd_ok q2 hr
  obtain ⟨x1, S4, rfl, q4⟩ := Fx.hd_ok q3 hr
  obtain ⟨x0, S5, rfl, q5⟩ := Fx.hd_ok q4 hr
  obtain ⟨ex0, px0⟩ := Fx.w1_ok q5 hr
  obtain ⟨ex1, px1⟩ := Fx.w1_ok px0 hr
  obtain ⟨ex2, px2⟩ := Fx.w1_ok px1 hr
  obtain ⟨ex3, px3⟩ := Fx.w1_ok px2 hr
  obtain ⟨ex4, px4⟩ := Fx.w1_ok px3 hr
  obtain ⟨ex5, px5⟩ := Fx.w1_ok px4 hr
  exact ⟨[x0, x1, x2, x3, x4, x5], S5, _, rfl, rfl, px5, fun ρ => by
    have e : Own.aFill (Fx.avS ρ [x0, x1, x2, x3, x4, x5]) = [Fx.avs ρ (.val x0), Fx.avs ρ (.val x1), Fx.avs ρ (.val x2), Fx.avs ρ (.val x3), Fx.avs ρ (.val x4), Fx.avs ρ (.val x5)] := by
      rw [Fx.fill1 ex0, Fx.fill1 ex1, Fx.fill1 ex2, Fx.fill1 ex3, Fx.fill1 ex4, Fx.fill1 ex5]
      rfl
    exact ⟨by rw [e]; exact Nat.le_of_ble_eq_true rfl, by unfold Own.aL; rw [e]; rfl⟩⟩
def CI_0 (R : Fx.Cal) (c : Fx.Cont) : Fx.Cont := fun L S A => Fx.hd S fun x5 S => Fx.hd S fun x4 S => Fx.hd S fun x3 S => Fx.hd S fun x2 S => Fx.hd S fun x1 S => Fx.hd S fun x0 S => Fx.hd S fun q r => Fx.onR q fun a => Fx.w1 x0 (Fx.w1 x1 (Fx.w1 x2 (Fx.w1 x3 (Fx.w1 x4 (Fx.w1 x5 (Fx.callF R 0 17 r L A c ((((((.val (.ref a)), (.val x0)), ((.val x1), (.val x2))), (((.val x3), (.val x4)), ((.val x5), .unset))), (((.unset, .unset), (.unset, .unset)), ((.unset, .unset), (.unset, .unset)))), ((((.unset, .unset), (.unset, .unset)), ((.unset, .unset), (.unset, .unset))), (((.unset, .unset), (.unset, .unset)), ((.unset, .unset), (.unset, .unset)))))))))))
theorem CI_0_ok (R : Fx.Cal) : Fx.SpecC R 0 17 6 (CI_0 R) := by
  intro c L S A r q hr
  obtain ⟨x5, S0, rfl, q0⟩ := Fx.hd_ok q hr
  obtain ⟨x4, S1, rfl, q1⟩ := Fx.hd_ok q0 hr
  obtain ⟨x3, S2, rfl, q2⟩ := Fx.hd_ok q1 hr
  obtain ⟨x2, S3, rfl, q3⟩ := Fx.hd_ok q2 hr
  obtain ⟨x1, S4, rfl, q4⟩ := Fx.hd_ok q3 hr
  obtain ⟨x0, S5, rfl, q5⟩ := Fx.hd_ok q4 hr
  obtain ⟨aq, SR, rfl, qr⟩ := Fx.hd_ok q5 hr
  obtain ⟨a, rfl, qa⟩ := Fx.onR_ok qr hr
  obtain ⟨ex0, px0⟩ := Fx.w1_ok qa hr
  obtain ⟨ex1, px1⟩ := Fx.w1_ok px0 hr
  obtain ⟨ex2, px2⟩ := Fx.w1_ok px1 hr
  obtain ⟨ex3, px3⟩ := Fx.w1_ok px2 hr
  obtain ⟨ex4, px4⟩ := Fx.w1_ok px3 hr
  obtain ⟨ex5, px5⟩ := Fx.w1_ok px4 hr
  exact ⟨a, [x0, x1, x2, x3, x4, x5], SR, _, rfl, rfl, px5, fun ρ => by
    have e : Own.aFill (Fx.avS ρ [.ref a, x0, x1, x2, x3, x4, x5]) = [Fx.avs ρ (.val (.ref a)), Fx.avs ρ (.val x0), Fx.avs ρ (.val x1), Fx.avs ρ (.val x2), Fx.avs ρ (.val x3), Fx.avs ρ (.val x4), Fx.avs ρ (.val x5)] := by
      rw [Fx.fill1 rfl, Fx.fill1 ex0, Fx.fill1 ex1, Fx.fill1 ex2, Fx.fill1 ex3, Fx.fill1 ex4, Fx.fill1 ex5]
      rfl
    exact ⟨by rw [e]; exact Nat.le_of_ble_eq_true rfl, by unfold Own.aL; rw [e]; rfl⟩⟩
def CS_1 (R : Fx.Cal) (c : Fx.Cont) : Fx.Cont := fun L S A => Fx.hd S fun x2 S => Fx.hd S fun x1 S => Fx.hd S fun x0 r => Fx.w1 x0 (Fx.w1 x1 (Fx.w1 x2 (Fx.callF R 1 11 r L A c ((((((.val x0), (.val x1)), ((.val x2), .unset)), ((.unset, .unset), (.unset, .unset))), (((.unset, .unset), (.unset, .unset)), ((.unset, .unset), (.unset, .unset)))), ((((.unset, .unset), (.unset, .unset)), ((.unset, .unset), (.unset, .unset))), (((.unset, .unset), (.unset, .unset)), ((.unset, .unset), (.unset, .unset))))))))
theorem CS_1_ok (R : Fx.Cal) : Fx.StatC R 1 11 3 (CS_1 R) := by
  intro c L S A r q hr
  obtain ⟨x2, S0, rfl, q0⟩ := Fx.hd_ok q hr
  obtain ⟨x1, S1, rfl, q1⟩ := Fx.hd_ok q0 hr
  obtain ⟨x0, S2, rfl, q2⟩ := Fx.hd_ok q1 hr
  obtain ⟨ex0, px0⟩ := Fx.w1_ok q2 hr
  obtain ⟨ex1, px1⟩ := Fx.w1_ok px0 hr
  obtain ⟨ex2, px2⟩ := Fx.w1_ok px1 hr
  exact ⟨[x0, x1, x2], S2, _, rfl, rfl, px2, fun ρ => by
    have e : Own.aFill (Fx.avS ρ [x0, x1, x2]) = [Fx.avs ρ (.val x0), Fx.avs ρ (.val x1), Fx.avs ρ (.val x2)] := by
      rw [Fx.fill1 ex0, Fx.fill1 ex1, Fx.fill1 ex2]
      rfl
    exact ⟨by rw [e]; exact Nat.le_of_ble_eq_true rfl, by unfold Own.aL; rw [e]; rfl⟩⟩
def CI_1 (R : Fx.Cal) (c : Fx.Cont) : Fx.Cont := fun L S A => Fx.hd S fun x2 S => Fx.hd S fun x1 S => Fx.hd S fun x0 S => Fx.hd S fun q r => Fx.onR q fun a => Fx.w1 x0 (Fx.w1 x1 (Fx.w1 x2 (Fx.callF R 1 11 r L A c ((((((.val (.ref a)), (.val x0)), ((.val x1), (.val x2))), ((.unset, .unset), (.unset, .unset))), (((.unset, .unset), (.unset, .unset)), ((.unset, .unset), (.unset, .unset)))), ((((.unset, .unset), (.unset, .unset)), ((.unset, .unset), (.unset, .unset))), (((.unset, .unset), (.unset, .unset)), ((.unset, .unset), (.unset, .unset))))))))
theorem CI_1_ok (R : Fx.Cal) : Fx.SpecC R 1 11 3 (CI_1 R) := by
  intro c L S A r q hr
  obtain ⟨x2, S0, rfl, q0⟩ := Fx.hd_ok q hr
  obtain ⟨x1, S1, rfl, q1⟩ := Fx.hd_ok q0 hr
  obtain ⟨x0, S2, rfl, q2⟩ := Fx.hd_ok q1 hr
  obtain ⟨aq, SR, rfl, qr⟩ := Fx.hd_ok q2 hr
  obtain ⟨a, rfl, qa⟩ := Fx.onR_ok qr hr
  obtain ⟨ex0, px0⟩ := Fx.w1_ok qa hr
  obtain ⟨ex1, px1⟩ := Fx.w1_ok px0 hr
  obtain ⟨ex2, px2⟩ := Fx.w1_ok px1 hr
  exact ⟨a, [x0, x1, x2], SR, _, rfl, rfl, px2, fun ρ => by
    have e : Own.aFill (Fx.avS ρ [.ref a, x0, x1, x2]) = [Fx.avs ρ (.val (.ref a)), Fx.avs ρ (.val x0), Fx.avs ρ (.val x1), Fx.avs ρ (.val x2)] := by
      rw [Fx.fill1 rfl, Fx.fill1 ex0, Fx.fill1 ex1, Fx.fill1 ex2]
      rfl
    exact ⟨by rw [e]; exact Nat.le_of_ble_eq_true rfl, by unfold Own.aL; rw [e]; rfl⟩⟩
def CS_2 (R : Fx.Cal) (c : Fx.Cont) : Fx.Cont := fun L S A => Fx.hd S fun x0 r => Fx.w2 x0 (Fx.callF R 2 2 r L A c ((((((.val x0), .second), (.unset, .unset)), ((.unset, .unset), (.unset, .unset))), (((.unset, .unset), (.unset, .unset)), ((.unset, .unset), (.unset, .unset)))), ((((.unset, .unset), (.unset, .unset)), ((.unset, .unset), (.unset, .unset))), (((.unset, .unset), (.unset, .unset)), ((.unset, .unset), (.unset, .unset))))))
theorem CS_2_ok (R : Fx.Cal) : Fx.StatC R 2 2 1 (CS_2 R) := by
  intro c L S A r q hr
  obtain ⟨x0, S0, rfl, q0⟩ := Fx.hd_ok q hr
  obtain ⟨ex0, px0⟩ := Fx.w2_ok q0 hr
  exact ⟨[x0], S0, _, rfl, rfl, px0, fun ρ => by
    have e : Own.aFill (Fx.avS ρ [x0]) = [Fx.avs ρ (.val x0), .second] := by
      rw [Fx.fill2 ex0]
      rfl
    exact ⟨by rw [e]; exact Nat.le_of_ble_eq_true rfl, by unfold Own.aL; rw [e]; rfl⟩⟩
def CS_3 (R : Fx.Cal) (c : Fx.Cont) : Fx.Cont := fun L S A => Fx.hd S fun x1 S => Fx.hd S fun x0 r => Fx.w1 x0 (Fx.w1 x1 (Fx.callF R 3 8 r L A c ((((((.val x0), (.val x1)), (.unset, .unset)), ((.unset, .unset), (.unset, .unset))), (((.unset, .unset), (.unset, .unset)), ((.unset, .unset), (.unset, .unset)))), ((((.unset, .unset), (.unset, .unset)), ((.unset, .unset), (.unset, .unset))), (((.unset, .unset), (.unset, .unset)), ((.unset, .unset), (.unset, .unset)))))))
theorem CS_3_ok (R : Fx.Cal) : Fx.StatC R 3 8 2 (CS_3 R) := by
  intro c L S A r q hr
  obtain ⟨x1, S0, rfl, q0⟩ := Fx.hd_ok q hr
  obtain ⟨x0, S1, rfl, q1⟩ := Fx.hd_ok q0 hr
  obtain ⟨ex0, px0⟩ := Fx.w1_ok q1 hr
  obtain ⟨ex1, px1⟩ := Fx.w1_ok px0 hr
  exact ⟨[x0, x1], S1, _, rfl, rfl, px1, fun ρ => by
    have e : Own.aFill (Fx.avS ρ [x0, x1]) = [Fx.avs ρ (.val x0), Fx.avs ρ (.val x1)] := by
      rw [Fx.fill1 ex0, Fx.fill1 ex1]
      rfl
    exact ⟨by rw [e]; exact Nat.le_of_ble_eq_true rfl, by unfold Own.aL; rw [e]; rfl⟩⟩
def CI_3 (R : Fx.Cal) (c : Fx.Cont) : Fx.Cont := fun L S A => Fx.hd S fun x1 S => Fx.hd S fun x0 S => Fx.hd S fun q r => Fx.onR q fun a => Fx.w1 x0 (Fx.w1 x1 (Fx.callF R 3 8 r L A c ((((((.val (.ref a)), (.val x0)), ((.val x1), .unset)), ((.unset, .unset), (.unset, .unset))), (((.unset, .unset), (.unset, .unset)), ((.unset, .unset), (.unset, .unset)))), ((((.unset, .unset), (.unset, .unset)), ((.unset, .unset), (.unset, .unset))), (((.unset, .unset), (.unset, .unset)), ((.unset, .unset), (.unset, .unset)))))))
theorem CI_3_ok (R : Fx.Cal) : Fx.SpecC R 3 8 2 (CI_3 R) := by
  intro c L S A r q hr
  obtain ⟨x1, S0, rfl, q0⟩ := Fx.hd_ok q hr
  obtain ⟨x0, S1, rfl, q1⟩ := Fx.hd_ok q0 hr
  obtain ⟨aq, SR, rfl, qr⟩ := Fx.hd_ok q1 hr
  obtain ⟨a, rfl, qa⟩ := Fx.onR_ok qr hr
  obtain ⟨ex0, px0⟩ := Fx.w1_ok qa hr
  obtain ⟨ex1, px1⟩ := Fx.w1_ok px0 hr
  exact ⟨a, [x0, x1], SR, _, rfl, rfl, px1, fun ρ => by
    have e : Own.aFill (Fx.avS ρ [.ref a, x0, x1]) = [Fx.avs ρ (.val (.ref a)), Fx.avs ρ (.val x0), Fx.avs ρ (.val x1)] := by
      rw [Fx.fill1 rfl, Fx.fill1 ex0, Fx.fill1 ex1]
      rfl
    exact ⟨by rw [e]; exact Nat.le_of_ble_eq_true rfl, by unfold Own.aL; rw [e]; rfl⟩⟩
def CS_4 (R : Fx.Cal) (c : Fx.Cont) : Fx.Cont := fun L S A => Fx.hd S fun x1 S => Fx.hd S fun x0 r => Fx.w1 x0 (Fx.w1 x1 (Fx.callF R 4 4 r L A c ((((((.val x0), (.val x1)), (.unset, .unset)), ((.unset, .unset), (.unset, .unset))), (((.unset, .unset), (.unset, .unset)), ((.unset, .unset), (.unset, .unset)))), ((((.unset, .unset), (.unset, .unset)), ((.unset, .unset), (.unset, .unset))), (((.unset, .unset), (.unset, .unset)), ((.unset, .unset), (.unset, .unset)))))))
theorem CS_4_ok (R : Fx.Cal) : Fx.StatC R 4 4 2 (CS_4 R) := by
  intro c L S A r q hr
  obtain ⟨x1, S0, rfl, q0⟩ := Fx.hd_ok q hr
  obtain ⟨x0, S1, rfl, q1⟩ := Fx.hd_ok q0 hr
  obtain ⟨ex0, px0⟩ := Fx.w1_ok q1 hr
  obtain ⟨ex1, px1⟩ := Fx.w1_ok px0 hr
  exact ⟨[x0, x1], S1, _, rfl, rfl, px1, fun ρ => by
    have e : Own.aFill (Fx.avS ρ [x0, x1]) = [Fx.avs ρ (.val x0), Fx.avs ρ (.val x1)] := by
      rw [Fx.fill1 ex0, Fx.fill1 ex1]
      rfl
    exact ⟨by rw [e]; exact Nat.le_of_ble_eq_true rfl, by unfold Own.aL; rw [e]; rfl⟩⟩
def CI_4 (R : Fx.Cal) (c : Fx.Cont) : Fx.Cont := fun L S A => Fx.hd S fun x1 S => Fx.hd S fun x0 S => Fx.hd S fun q r => Fx.onR q fun a => Fx.w1 x0 (Fx.w1 x1 (Fx.callF R 4 4 r L A c ((((((.val (.ref a)), (.val x0)), ((.val x1), .unset)), ((.unset, .unset), (.unset, .unset))), (((.unset, .unset), (.unset, .unset)), ((.unset, .unset), (.unset, .unset)))), ((((.unset, .unset), (.unset, .unset)), ((.unset, .unset), (.unset, .unset))), (((.unset, .unset), (.unset, .unset)), ((.unset, .unset), (.unset, .unset)))))))
theorem CI_4_ok (R : Fx.Cal) : Fx.SpecC R 4 4 2 (CI_4 R) := by
  intro c L S A r q hr
  obtain ⟨x1, S0, rfl, q0⟩ := Fx.hd_ok q hr
  obtain ⟨x0, S1, rfl, q1⟩ := Fx.hd_ok q0 hr
  obtain ⟨aq, SR, rfl, qr⟩ := Fx.hd_ok q1 hr
  obtain ⟨a, rfl, qa⟩ := Fx.onR_ok qr hr
  obtain ⟨ex0, px0⟩ := Fx.w1_ok qa hr
  obtain ⟨ex1, px1⟩ := Fx.w1_ok px0 hr
  exact ⟨a, [x0, x1], SR, _, rfl, rfl, px1, fun ρ => by
    have e : Own.aFill (Fx.avS ρ [.ref a, x0, x1]) = [Fx.avs ρ (.val (.ref a)), Fx.avs ρ (.val x0), Fx.avs ρ (.val x1)] := by
      rw [Fx.fill1 rfl, Fx.fill1 ex0, Fx.fill1 ex1]
      rfl
    exact ⟨by rw [e]; exact Nat.le_of_ble_eq_true rfl, by unfold Own.aL; rw [e]; rfl⟩⟩
def CS_5 (R : Fx.Cal) (c : Fx.Cont) : Fx.Cont := fun L S A => Fx.hd S fun x1 S => Fx.hd S fun x0 r => Fx.w1 x0 (Fx.w1 x1 (Fx.callF R 5 2 r L A c ((((((.val x0), (.val x1)), (.unset, .unset)), ((.unset, .unset), (.unset, .unset))), (((.unset, .unset), (.unset, .unset)), ((.unset, .unset), (.unset, .unset)))), ((((.unset, .unset), (.unset, .unset)), ((.unset, .unset), (.unset, .unset))), (((.unset, .unset), (.unset, .unset)), ((.unset, .unset), (.unset, .unset)))))))
theorem CS_5_ok (R : Fx.Cal) : Fx.StatC R 5 2 2 (CS_5 R) := by
  intro c L S A r q hr
  obtain ⟨x1, S0, rfl, q0⟩ := Fx.hd_ok q hr
  obtain ⟨x0, S1, rfl, q1⟩ := Fx.hd_ok q0 hr
  obtain ⟨ex0, px0⟩ := Fx.w1_ok q1 hr
  obtain ⟨ex1, px1⟩ := Fx.w1_ok px0 hr
  exact ⟨[x0, x1], S1, _, rfl, rfl, px1, fun ρ => by
    have e : Own.aFill (Fx.avS ρ [x0, x1]) = [Fx.avs ρ (.val x0), Fx.avs ρ (.val x1)] := by
      rw [Fx.fill1 ex0, Fx.fill1 ex1]
      rfl
    exact ⟨by rw [e]; exact Nat.le_of_ble_eq_true rfl, by unfold Own.aL; rw [e]; rfl⟩⟩
def CS_6 (R : Fx.Cal) (c : Fx.Cont) : Fx.Cont := fun L S A => Fx.callF R 6 6 S L A c (((((.unset, .unset), (.unset, .unset)), ((.unset, .unset), (.unset, .unset))), (((.unset, .unset), (.unset, .unset)), ((.unset, .unset), (.unset, .unset)))), ((((.unset, .unset), (.unset, .unset)), ((.unset, .unset), (.unset, .unset))), (((.unset, .unset), (.unset, .unset)), ((.unset, .unset), (.unset, .unset)))))
theorem CS_6_ok (R : Fx.Cal) : Fx.StatC R 6 6 0 (CS_6 R) := by
  intro c L S A r q hr
  exact ⟨[], S, _, rfl, rfl, q, fun ρ => by
    have e : Own.aFill (Fx.avS ρ []) = [] := by
      rfl
    exact ⟨by rw [e]; exact Nat.le_of_ble_eq_true rfl, by unfold Own.aL; rw [e]; rfl⟩⟩
def CI_6 (R : Fx.Cal) (c : Fx.Cont) : Fx.Cont := fun L S A => Fx.hd S fun q r => Fx.onR q fun a => Fx.callF R 6 6 r L A c ((((((.val (.ref a)), .unset), (.unset, .unset)), ((.unset, .unset), (.unset, .unset))), (((.unset, .unset), (.unset, .unset)), ((.unset, .unset), (.unset, .unset)))), ((((.unset, .unset), (.unset, .unset)), ((.unset, .unset), (.unset, .unset))), (((.unset, .unset), (.unset, .unset)), ((.unset, .unset), (.unset, .unset)))))
theorem CI_6_ok (R : Fx.Cal) : Fx.SpecC R 6 6 0 (CI_6 R) := by
  intro c L S A r q hr
  obtain ⟨aq, SR, rfl, qr⟩ := Fx.hd_ok q hr
  obtain ⟨a, rfl, qa⟩ := Fx.onR_ok qr hr
  exact ⟨a, [], SR, _, rfl, rfl, qa, fun ρ => by
    have e : Own.aFill (Fx.avS ρ [.ref a]) = [Fx.avs ρ (.val (.ref a))] := by
      rw [Fx.fill1 rfl]
      rfl
    exact ⟨by rw [e]; exact Nat.le_of_ble_eq_true rfl, by unfold Own.aL; rw [e]; rfl⟩⟩
def CV_8_6 (R : Fx.Cal) (c : Fx.Cont) : Fx.Cont := fun L S A => Fx.hd S fun q r => Fx.onR q fun a => Fx.kind A a 8 fun _ => Fx.callF R 6 6 r L A c ((((((.val (.ref a)), .unset), (.unset, .unset)), ((.unset, .unset), (.unset, .unset))), (((.unset, .unset), (.unset, .unset)), ((.unset, .unset), (.unset, .unset)))), ((((.unset, .unset), (.unset, .unset)), ((.unset, .unset), (.unset, .unset))), (((.unset, .unset), (.unset, .unset)), ((.unset, .unset), (.unset, .unset)))))
theorem CV_8_6_ok (R : Fx.Cal) : Fx.VirtC R 0 (fun k => if k = 8 then some (6, 6) else none) (CV_8_6 R) := by
  intro c L S A r q hr
  obtain ⟨aq, SR, rfl, qr⟩ := Fx.hd_ok q hr
  obtain ⟨a, rfl, qa⟩ := Fx.onR_ok qr hr
  obtain ⟨vs, ha, qk⟩ := Fx.kind_ok qa hr
  exact ⟨a, [], SR, _, 8, vs, 6, 6, rfl, rfl, ha, if_pos rfl, qk, fun ρ => by
    have e : Own.aFill (Fx.avS ρ [.ref a]) = [Fx.avs ρ (.val (.ref a))] := by
      rw [Fx.fill1 rfl]
      rfl
    exact ⟨by rw [e]; exact Nat.le_of_ble_eq_true rfl, by unfold Own.aL; rw [e]; rfl⟩⟩
def CS_7 (R : Fx.Cal) (c : Fx.Cont) : Fx.Cont := fun L S A => Fx.hd S fun x1 S => Fx.hd S fun x0 r => Fx.w1 x0 (Fx.w1 x1 (Fx.callF R 7 2 r L A c ((((((.val x0), (.val x1)), (.unset, .unset)), ((.unset, .unset), (.unset, .unset))), (((.unset, .unset), (.unset, .unset)), ((.unset, .unset), (.unset, .unset)))), ((((.unset, .unset), (.unset, .unset)), ((.unset, .unset), (.unset, .unset))), (((.unset, .unset), (.unset, .unset)), ((.unset, .unset), (.unset, .unset)))))))
theorem CS_7_ok (R : Fx.Cal) : Fx.StatC R 7 2 2 (CS_7 R) := by
  intro c L S A r q hr
  obtain ⟨x1, S0, rfl, q0⟩ := Fx.hd_ok q hr
  obtain ⟨x0, S1, rfl, q1⟩ := Fx.hd_ok q0 hr
  obtain ⟨ex0, px0⟩ := Fx.w1_ok q1 hr
  obtain ⟨ex1, px1⟩ := Fx.w1_ok px0 hr
  exact ⟨[x0, x1], S1, _, rfl, rfl, px1, fun ρ => by
    have e : Own.aFill (Fx.avS ρ [x0, x1]) = [Fx.avs ρ (.val x0), Fx.avs ρ (.val x1)] := by
      rw [Fx.fill1 ex0, Fx.fill1 ex1]
      rfl
    exact ⟨by rw [e]; exact Nat.le_of_ble_eq_true rfl, by unfold Own.aL; rw [e]; rfl⟩⟩
def CS_8 (R : Fx.Cal) (c : Fx.Cont) : Fx.Cont := fun L S A => Fx.hd S fun x2 S => Fx.hd S fun x1 S => Fx.hd S fun x0 r => Fx.w1 x0 (Fx.w1 x1 (Fx.w1 x2 (Fx.callF R 8 3 r L A c ((((((.val x0), (.val x1)), ((.val x2), .unset)), ((.unset, .unset), (.unset, .unset))), (((.unset, .unset), (.unset, .unset)), ((.unset, .unset), (.unset, .unset)))), ((((.unset, .unset), (.unset, .unset)), ((.unset, .unset), (.unset, .unset))), (((.unset, .unset), (.unset, .unset)), ((.unset, .unset), (.unset, .unset))))))))
theorem CS_8_ok (R : Fx.Cal) : Fx.StatC R 8 3 3 (CS_8 R) := by
  intro c L S A r q hr
  obtain ⟨x2, S0, rfl, q0⟩ := Fx.hd_ok q hr
  obtain ⟨x1, S1, rfl, q1⟩ := Fx.hd_ok q0 hr
  obtain ⟨x0, S2, rfl, q2⟩ := Fx.hd_ok q1 hr
  obtain ⟨ex0, px0⟩ := Fx.w1_ok q2 hr
  obtain ⟨ex1, px1⟩ := Fx.w1_ok px0 hr
  obtain ⟨ex2, px2⟩ := Fx.w1_ok px1 hr
  exact ⟨[x0, x1, x2], S2, _, rfl, rfl, px2, fun ρ => by
    have e : Own.aFill (Fx.avS ρ [x0, x1, x2]) = [Fx.avs ρ (.val x0), Fx.avs ρ (.val x1), Fx.avs ρ (.val x2)] := by
      rw [Fx.fill1 ex0, Fx.fill1 ex1, Fx.fill1 ex2]
      rfl
    exact ⟨by rw [e]; exact Nat.le_of_ble_eq_true rfl, by unfold Own.aL; rw [e]; rfl⟩⟩
def B_0_368 (T : Fx.Tab) (R : Fx.Cal) (J : Fx.Jmp) : Fx.Cont :=
  Fx.retF Fx.on01
def B_0_367 (T : Fx.Tab) (R : Fx.Cal) (J : Fx.Jmp) : Fx.Cont :=
  Fx.cstF (.int 0) (B_0_368 T R J)
def B_0_312 (T : Fx.Tab) (R : Fx.Cal) (J : Fx.Jmp) : Fx.Cont :=
  Fx.ldF Fx.onA Fx.g16 (Fx.ldF Fx.onA Fx.g13 (Fx.cstF (.int 0) (CS_7 R (Fx.alF T 0 (Fx.b0 T 43 Fx.zNe (B_0_367 T R J) (Fx.ldF Fx.onA Fx.g16 (Fx.ldF Fx.onA Fx.g13 (Fx.cstF (.int 1) (CS_7 R (Fx.alF T 0 (Fx.cstF (.int 1) (Fx.b2 T 49 Fx.cNe (B_0_367 T R J) (Fx.ldF Fx.onA Fx.g16 (Fx.ldF Fx.onA Fx.g13 (Fx.cstF (.int 2) (CS_7 R (Fx.alF T 0 (Fx.cstF (.int 2) (Fx.b2 T 49 Fx.cNe (B_0_367 T R J) (Fx.ldF Fx.onA Fx.g16 (Fx.ldF Fx.onA Fx.g13 (Fx.cstF (.int 3) (CS_7 R (Fx.alF T 0 (Fx.cstF (.int 3) (Fx.b2 T 49 Fx.cNe (B_0_367 T R J) (Fx.cstF (.int 1) (B_0_368 T R J))))))))))))))))))))))))))))
def B_0_289 (T : Fx.Tab) (R : Fx.Cal) (J : Fx.Jmp) : Fx.Cont :=
  Fx.ldF Fx.onA Fx.g12 (CI_1 R (Fx.st1F Fx.onA Fx.g15 Fx.s15 Fx.s16 Fx.s14 (Fx.ldF Fx.onA Fx.g15 (CV_8_6 R (Fx.st1F Fx.onA Fx.g16 Fx.s16 Fx.sBad Fx.s15 (Fx.ldF Fx.onA Fx.g16 (Fx.alenF (Fx.cstF (.int 4) (Fx.b2 T 48 Fx.cEq (B_0_312 T R J) (Fx.cstF (.int 0) (Fx.retF Fx.on01)))))))))))
def B_0_229 (T : Fx.Tab) (R : Fx.Cal) (J : Fx.Jmp) : Fx.Cont :=
  Fx.alF T 0 (Fx.cstF (.int 1) (Fx.bI T 0 Fx.hadd (Fx.asF T 0 0 Fx.onI (Fx.ldF Fx.onA Fx.g11 (Fx.ldF Fx.onA Fx.g6 (Fx.cstF (.int 3) (Fx.alF T 0 (Fx.ldF Fx.onA Fx.g6 (Fx.ldF Fx.onI Fx.g10 (Fx.alF T 0 (Fx.asF T 0 0 Fx.onI (Fx.ldF Fx.onA Fx.g12 (Fx.ldF Fx.onA Fx.g6 (Fx.cstF (.int 3) (Fx.alF T 0 (Fx.cstF (.double 4613937818241073152) (Fx.asF T 0 2 Fx.onD (Fx.ldF Fx.onA Fx.g13 (Fx.ldF Fx.onA Fx.g6 (Fx.cstF (.int 3) (Fx.alF T 0 (Fx.ldF Fx.onA Fx.g13 (Fx.ldF Fx.onA Fx.g6 (Fx.ldF Fx.onI Fx.g10 (Fx.alF T 0 (Fx.alF T 0 (Fx.cstF (.int 1) (Fx.bI T 0 Fx.hadd (Fx.asF T 0 0 Fx.onI (Fx.ldF Fx.onI Fx.g5 (Fx.cstF (.int 2147483647) (Fx.bI T 3 Nat.land (Fx.cstF (.int 5) (Fx.bP T 23 Fx.qdiv Nat.mod (Fx.st1F Fx.onI Fx.g14 Fx.s14 Fx.s15 Fx.s13 (Fx.newF 8 6 [.int 0, .null, .null, .int 0, .null, .int 0] (Fx.dupF (Fx.ldF Fx.onI Fx.g14 (Fx.ldF Fx.onA Fx.g11 (B_0_289 T R J))))))))))))))))))))))))))))))))))))))))
def B_0_171 (T : Fx.Tab) (R : Fx.Cal) (J : Fx.Jmp) : Fx.Cont :=
  Fx.cstF (.int 1) (Fx.alF T 0 (Fx.ldF Fx.onA Fx.g6 (Fx.cstF (.int 0) (Fx.alF T 0 (Fx.asF T 0 0 Fx.onI (Fx.ldF Fx.onA Fx.g12 (Fx.ldF Fx.onA Fx.g6 (Fx.cstF (.int 1) (Fx.alF T 0 (Fx.cstF (.double 4607182418800017408) (Fx.asF T 0 2 Fx.onD (Fx.ldF Fx.onA Fx.g13 (Fx.ldF Fx.onA Fx.g6 (Fx.cstF (.int 1) (Fx.alF T 0 (Fx.cstF (.int 1) (Fx.asF T 0 0 Fx.onI (Fx.ldF Fx.onA Fx.g11 (Fx.ldF Fx.onA Fx.g6 (Fx.cstF (.int 2) (Fx.alF T 0 (Fx.ldF Fx.onA Fx.g6 (Fx.ldF Fx.onI Fx.g9 (Fx.alF T 0 (Fx.asF T 0 0 Fx.onI (Fx.ldF Fx.onA Fx.g12 (Fx.ldF Fx.onA Fx.g6 (Fx.cstF (.int 2) (Fx.alF T 0 (Fx.cstF (.double 4611686018427387904) (Fx.asF T 0 2 Fx.onD (Fx.ldF Fx.onA Fx.g13 (Fx.ldF Fx.onA Fx.g6 (Fx.cstF (.int 2) (Fx.alF T 0 (Fx.ldF Fx.onA Fx.g13 (Fx.ldF Fx.onA Fx.g6 (Fx.ldF Fx.onI Fx.g9 (Fx.alF T 0 (B_0_229 T R J))))))))))))))))))))))))))))))))))))))))
def B_0_112 (T : Fx.Tab) (R : Fx.Cal) (J : Fx.Jmp) : Fx.Cont :=
  Fx.cstF (.int 2147483647) (Fx.bI T 3 Nat.land (Fx.cstF (.int 2) (Fx.bP T 23 Fx.qdiv Nat.mod (Fx.st1F Fx.onI Fx.g9 Fx.s9 Fx.s10 Fx.s8 (Fx.ldF Fx.onI Fx.g4 (Fx.cstF (.int 2147483647) (Fx.bI T 3 Nat.land (Fx.cstF (.int 3) (Fx.bP T 23 Fx.qdiv Nat.mod (Fx.st1F Fx.onI Fx.g10 Fx.s10 Fx.s11 Fx.s9 (Fx.cstF (.int 4) (Fx.newaF T 0 (.int 0) (Fx.st1F Fx.onA Fx.g11 Fx.s11 Fx.s12 Fx.s10 (Fx.cstF (.int 4) (Fx.newaF T 2 (.double 0) (Fx.st1F Fx.onA Fx.g12 Fx.s12 Fx.s13 Fx.s11 (Fx.cstF (.int 4) (Fx.newaF T 0 (.int 0) (Fx.st1F Fx.onA Fx.g13 Fx.s13 Fx.s14 Fx.s12 (Fx.ldF Fx.onA Fx.g11 (Fx.ldF Fx.onA Fx.g6 (Fx.cstF (.int 0) (Fx.alF T 0 (Fx.cstF (.int 4294967295) (Fx.asF T 0 0 Fx.onI (Fx.ldF Fx.onA Fx.g12 (Fx.ldF Fx.onA Fx.g6 (Fx.cstF (.int 0) (Fx.alF T 0 (Fx.cstF (.double 0) (Fx.asF T 0 2 Fx.onD (Fx.ldF Fx.onA Fx.g13 (Fx.ldF Fx.onA Fx.g6 (Fx.cstF (.int 0) (Fx.alF T 0 (Fx.cstF (.int 0) (Fx.asF T 0 0 Fx.onI (Fx.ldF Fx.onA Fx.g11 (Fx.ldF Fx.onA Fx.g6 (B_0_171 T R J))))))))))))))))))))))))))))))))))))))))
def B_0_52 (T : Fx.Tab) (R : Fx.Cal) (J : Fx.Jmp) : Fx.Cont :=
  Fx.cstF (.int 2147483647) (Fx.bI T 3 Nat.land (Fx.cstF (.int 3) (Fx.bP T 23 Fx.qdiv Nat.mod (Fx.st1F Fx.onI Fx.g7 Fx.s7 Fx.s8 Fx.s6 (Fx.ldF Fx.onA Fx.g6 (Fx.cstF (.int 2) (Fx.alF T 0 (Fx.st1F Fx.onI Fx.g8 Fx.s8 Fx.s9 Fx.s7 (Fx.ldF Fx.onA Fx.g6 (Fx.cstF (.int 2) (Fx.ldF Fx.onA Fx.g6 (Fx.ldF Fx.onI Fx.g7 (Fx.alF T 0 (Fx.asF T 0 0 Fx.onI (Fx.ldF Fx.onA Fx.g6 (Fx.ldF Fx.onI Fx.g7 (Fx.ldF Fx.onI Fx.g8 (Fx.asF T 0 0 Fx.onI (Fx.ldF Fx.onI Fx.g2 (Fx.cstF (.int 2147483647) (Fx.bI T 3 Nat.land (Fx.cstF (.int 2) (Fx.bP T 23 Fx.qdiv Nat.mod (Fx.st1F Fx.onI Fx.g7 Fx.s7 Fx.s8 Fx.s6 (Fx.ldF Fx.onA Fx.g6 (Fx.cstF (.int 1) (Fx.alF T 0 (Fx.st1F Fx.onI Fx.g8 Fx.s8 Fx.s9 Fx.s7 (Fx.ldF Fx.onA Fx.g6 (Fx.cstF (.int 1) (Fx.ldF Fx.onA Fx.g6 (Fx.ldF Fx.onI Fx.g7 (Fx.alF T 0 (Fx.asF T 0 0 Fx.onI (Fx.ldF Fx.onA Fx.g6 (Fx.ldF Fx.onI Fx.g7 (Fx.ldF Fx.onI Fx.g8 (Fx.asF T 0 0 Fx.onI (Fx.ldF Fx.onI Fx.g3 (B_0_112 T R J))))))))))))))))))))))))))))))))))))))))
def B_0_0 (T : Fx.Tab) (R : Fx.Cal) (J : Fx.Jmp) : Fx.Cont :=
  Fx.cstF (.int 4) (Fx.newaF T 0 (.int 0) (Fx.dupF (Fx.cstF (.int 0) (Fx.cstF (.int 0) (Fx.asF T 0 0 Fx.onI (Fx.dupF (Fx.cstF (.int 1) (Fx.cstF (.int 1) (Fx.asF T 0 0 Fx.onI (Fx.dupF (Fx.cstF (.int 2) (Fx.cstF (.int 2) (Fx.asF T 0 0 Fx.onI (Fx.dupF (Fx.cstF (.int 3) (Fx.cstF (.int 3) (Fx.asF T 0 0 Fx.onI (Fx.st1F Fx.onA Fx.g6 Fx.s6 Fx.s7 Fx.s5 (Fx.ldF Fx.onI Fx.g0 (Fx.cstF (.int 2147483647) (Fx.bI T 3 Nat.land (Fx.cstF (.int 4) (Fx.bP T 23 Fx.qdiv Nat.mod (Fx.st1F Fx.onI Fx.g7 Fx.s7 Fx.s8 Fx.s6 (Fx.ldF Fx.onA Fx.g6 (Fx.cstF (.int 3) (Fx.alF T 0 (Fx.st1F Fx.onI Fx.g8 Fx.s8 Fx.s9 Fx.s7 (Fx.ldF Fx.onA Fx.g6 (Fx.cstF (.int 3) (Fx.ldF Fx.onA Fx.g6 (Fx.ldF Fx.onI Fx.g7 (Fx.alF T 0 (Fx.asF T 0 0 Fx.onI (Fx.ldF Fx.onA Fx.g6 (Fx.ldF Fx.onI Fx.g7 (Fx.ldF Fx.onI Fx.g8 (Fx.asF T 0 0 Fx.onI (Fx.ldF Fx.onI Fx.g1 (B_0_52 T R J))))))))))))))))))))))))))))))))))))))))
def BM_0 (T : Fx.Tab) (R : Fx.Cal) (J : Fx.Jmp) (pc : Nat) : Fx.Cont := Fx.brc Fx.stop (B_0_0 T R J) (Nat.beq pc 0)
def B_1_326 (T : Fx.Tab) (R : Fx.Cal) (J : Fx.Jmp) : Fx.Cont :=
  Fx.ldF Fx.onA Fx.g0 (Fx.ldF Fx.onI Fx.g6 (Fx.cstF (.int 1) (Fx.bI T 0 Fx.hadd (Fx.putF 0 8 5 Fx.onI (Fx.xretV)))))
def B_1_297 (T : Fx.Tab) (R : Fx.Cal) (J : Fx.Jmp) : Fx.Cont :=
  Fx.ldF Fx.onI Fx.g9 (Fx.ldF Fx.onI Fx.g8 (Fx.b2 T 51 Fx.cGe (B_1_326 T R J) (Fx.ldF Fx.onA Fx.g7 (Fx.ldF Fx.onI Fx.g9 (Fx.alF T 0 (Fx.st1F Fx.onI Fx.g10 Fx.s10 Fx.sBad Fx.s9 (Fx.ldF Fx.onI Fx.g6 (Fx.ldF Fx.onI Fx.g10 (CS_5 R (Fx.st1F Fx.onI Fx.g6 Fx.s6 Fx.s7 Fx.s5 (Fx.incF 1 Fx.g9 Fx.s9 (J 297))))))))))))
def B_1_234 (T : Fx.Tab) (R : Fx.Cal) (J : Fx.Jmp) : Fx.Cont :=
  Fx.ldF Fx.onA Fx.g0 (Fx.ldF Fx.onI Fx.g1 (Fx.putF 0 8 0 Fx.onI (Fx.ldF Fx.onA Fx.g0 (Fx.ldF Fx.onA Fx.g2 (Fx.cloneF 0 (Fx.castF (fun k => Nat.beq k 0) (Fx.putF 0 8 1 Fx.onA (Fx.ldF Fx.onA Fx.g0 (Fx.ldF Fx.onA Fx.g3 (Fx.cloneF 2 (Fx.castF (fun k => Nat.beq k 2) (Fx.putF 0 8 2 Fx.onA (Fx.ldF Fx.onA Fx.g0 (Fx.ldF Fx.onI Fx.g5 (Fx.putF 0 8 3 Fx.onI (Fx.ldF Fx.onA Fx.g0 (Fx.ldF Fx.onA Fx.g0 (Fx.getF 8 1 (Fx.ldF Fx.onI Fx.g5 (CS_3 R (Fx.putF 0 8 4 Fx.onA (Fx.cstF (.int 0) (Fx.st1F Fx.onI Fx.g6 Fx.s6 Fx.s7 Fx.s5 (Fx.ldF Fx.onA Fx.g0 (Fx.getF 8 4 (Fx.st1F Fx.onA Fx.g7 Fx.s7 Fx.s8 Fx.s6 (Fx.ldF Fx.onA Fx.g7 (Fx.alenF (Fx.st1F Fx.onI Fx.g8 Fx.s8 Fx.s9 Fx.s7 (Fx.cstF (.int 0) (Fx.st1F Fx.onI Fx.g9 Fx.s9 Fx.s10 Fx.s8 (B_1_297 T R J))))))))))))))))))))))))))))))))
def B_1_206 (T : Fx.Tab) (R : Fx.Cal) (J : Fx.Jmp) : Fx.Cont :=
  Fx.ldF Fx.onA Fx.g3 (Fx.ldF Fx.onI Fx.g5 (Fx.alF T 2 (Fx.cstF (.double 0) (Fx.bT T 20 (Fx.b0 T 42 Fx.zEq (B_1_234 T R J) (Fx.stop))))))
def B_1_191 (T : Fx.Tab) (R : Fx.Cal) (J : Fx.Jmp) : Fx.Cont :=
  Fx.ldF Fx.onI Fx.g5 (Fx.b0 T 45 Fx.zGe (B_1_206 T R J) (Fx.stop))
def B_1_185 (T : Fx.Tab) (R : Fx.Cal) (J : Fx.Jmp) : Fx.Cont :=
  Fx.incF 1 Fx.g6 Fx.s6 (J 64)
def B_1_166 (T : Fx.Tab) (R : Fx.Cal) (J : Fx.Jmp) : Fx.Cont :=
  Fx.stop
def B_1_147 (T : Fx.Tab) (R : Fx.Cal) (J : Fx.Jmp) : Fx.Cont :=
  Fx.ldF Fx.onA Fx.g3 (Fx.ldF Fx.onI Fx.g6 (Fx.alF T 2 (CS_2 R (Fx.b0 T 42 Fx.zEq (B_1_166 T R J) (Fx.ldF Fx.onA Fx.g3 (Fx.ldF Fx.onI Fx.g6 (Fx.alF T 2 (Fx.cstF (.double 0) (Fx.bT T 21 (Fx.b0 T 45 Fx.zGe (B_1_185 T R J) (B_1_166 T R J)))))))))))
def B_1_124 (T : Fx.Tab) (R : Fx.Cal) (J : Fx.Jmp) : Fx.Cont :=
  Fx.stop
def B_1_108 (T : Fx.Tab) (R : Fx.Cal) (J : Fx.Jmp) : Fx.Cont :=
  Fx.ldF Fx.onA Fx.g2 (Fx.ldF Fx.onI Fx.g6 (Fx.alF T 0 (Fx.b0 T 44 Fx.zLt (B_1_124 T R J) (Fx.ldF Fx.onA Fx.g2 (Fx.ldF Fx.onI Fx.g6 (Fx.alF T 0 (Fx.ldF Fx.onI Fx.g4 (Fx.b2 T 50 Fx.cLt (B_1_147 T R J) (B_1_124 T R J)))))))))
def B_1_101 (T : Fx.Tab) (R : Fx.Cal) (J : Fx.Jmp) : Fx.Cont :=
  Fx.ldF Fx.onI Fx.g6 (Fx.st1F Fx.onI Fx.g5 Fx.s5 Fx.s6 Fx.s4 (B_1_147 T R J))
def B_1_64 (T : Fx.Tab) (R : Fx.Cal) (J : Fx.Jmp) : Fx.Cont :=
  Fx.ldF Fx.onI Fx.g6 (Fx.ldF Fx.onI Fx.g4 (Fx.b2 T 51 Fx.cGe (B_1_191 T R J) (Fx.ldF Fx.onA Fx.g2 (Fx.ldF Fx.onI Fx.g6 (Fx.alF T 0 (Fx.cstF (.int 4294967295) (Fx.b2 T 49 Fx.cNe (B_1_108 T R J) (Fx.ldF Fx.onI Fx.g5 (Fx.b0 T 44 Fx.zLt (B_1_101 T R J) (Fx.stop))))))))))
def B_1_58 (T : Fx.Tab) (R : Fx.Cal) (J : Fx.Jmp) : Fx.Cont :=
  Fx.cstF (.int 4294967295) (Fx.st1F Fx.onI Fx.g5 Fx.s5 Fx.s6 Fx.s4 (Fx.cstF (.int 0) (Fx.st1F Fx.onI Fx.g6 Fx.s6 Fx.s7 Fx.s5 (B_1_64 T R J))))
def B_1_42 (T : Fx.Tab) (R : Fx.Cal) (J : Fx.Jmp) : Fx.Cont :=
  Fx.stop
def B_1_32 (T : Fx.Tab) (R : Fx.Cal) (J : Fx.Jmp) : Fx.Cont :=
  Fx.ldF Fx.onI Fx.g1 (Fx.b0 T 44 Fx.zLt (B_1_42 T R J) (Fx.ldF Fx.onI Fx.g1 (Fx.ldF Fx.onI Fx.g4 (Fx.b2 T 53 Fx.cLe (B_1_58 T R J) (B_1_42 T R J)))))
def B_1_0 (T : Fx.Tab) (R : Fx.Cal) (J : Fx.Jmp) : Fx.Cont :=
  Fx.ldF Fx.onA Fx.g0 (Fx.oinitF (Fx.ldF Fx.onA Fx.g2 (Fx.alenF (Fx.st1F Fx.onI Fx.g4 Fx.s4 Fx.s5 Fx.s3 (Fx.ldF Fx.onA Fx.g3 (Fx.alenF (Fx.ldF Fx.onI Fx.g4 (Fx.b2 T 48 Fx.cEq (B_1_32 T R J) (Fx.stop)))))))))
def BM_1 (T : Fx.Tab) (R : Fx.Cal) (J : Fx.Jmp) (pc : Nat) : Fx.Cont := Fx.brc (Fx.brc (Fx.brc Fx.stop (B_1_297 T R J) (Nat.beq pc 297)) (Fx.brc Fx.stop (B_1_64 T R J) (Nat.beq pc 64)) (Nat.blt pc 297)) (Fx.brc Fx.stop (B_1_0 T R J) (Nat.beq pc 0)) (Nat.blt pc 64)
def B_2_16 (T : Fx.Tab) (R : Fx.Cal) (J : Fx.Jmp) : Fx.Cont :=
  Fx.retF Fx.on01
def B_2_15 (T : Fx.Tab) (R : Fx.Cal) (J : Fx.Jmp) : Fx.Cont :=
  Fx.cstF (.int 0) (B_2_16 T R J)
def B_2_0 (T : Fx.Tab) (R : Fx.Cal) (J : Fx.Jmp) : Fx.Cont :=
  Fx.ldF Fx.onD Fx.g0 (Fx.ext1F T 100 1 13 (Fx.cstF (.double 9218868437227405311) (Fx.bT T 21 (Fx.b0 T 46 Fx.zGt (B_2_15 T R J) (Fx.cstF (.int 1) (B_2_16 T R J))))))
def BM_2 (T : Fx.Tab) (R : Fx.Cal) (J : Fx.Jmp) (pc : Nat) : Fx.Cont := Fx.brc Fx.stop (B_2_0 T R J) (Nat.beq pc 0)
def B_3_126 (T : Fx.Tab) (R : Fx.Cal) (J : Fx.Jmp) : Fx.Cont :=
  Fx.ldF Fx.onA Fx.g2 (Fx.retF Fx.onA)
def B_3_120 (T : Fx.Tab) (R : Fx.Cal) (J : Fx.Jmp) : Fx.Cont :=
  Fx.incF 1 Fx.g4 Fx.s4 (J 22)
def B_3_98 (T : Fx.Tab) (R : Fx.Cal) (J : Fx.Jmp) : Fx.Cont :=
  Fx.ldF Fx.onI Fx.g5 (Fx.b0 T 47 Fx.zLe (B_3_120 T R J) (Fx.ldF Fx.onA Fx.g2 (Fx.ldF Fx.onA Fx.g3 (Fx.incF 4294967295 Fx.g5 Fx.s5 (Fx.ldF Fx.onI Fx.g5 (Fx.alF T 0 (Fx.incF 1 Fx.g7 Fx.s7 (Fx.ldF Fx.onI Fx.g7 (Fx.asF T 0 0 Fx.onI (J 98))))))))))
def B_3_92 (T : Fx.Tab) (R : Fx.Cal) (J : Fx.Jmp) : Fx.Cont :=
  Fx.ldF Fx.onA Fx.g2 (Fx.ldF Fx.onI Fx.g6 (Fx.alF T 0 (Fx.st1F Fx.onI Fx.g7 Fx.s7 Fx.sBad Fx.s6 (B_3_98 T R J))))
def B_3_68 (T : Fx.Tab) (R : Fx.Cal) (J : Fx.Jmp) : Fx.Cont :=
  Fx.ldF Fx.onA Fx.g2 (Fx.ldF Fx.onI Fx.g6 (Fx.alF T 0 (Fx.cstF (.int 4294967294) (Fx.b2 T 49 Fx.cNe (B_3_92 T R J) (Fx.stop)))))
def B_3_36 (T : Fx.Tab) (R : Fx.Cal) (J : Fx.Jmp) : Fx.Cont :=
  Fx.ldF Fx.onA Fx.g2 (Fx.ldF Fx.onI Fx.g6 (Fx.alF T 0 (Fx.cstF (.int 4294967295) (Fx.b2 T 49 Fx.cNe (B_3_68 T R J) (Fx.ldF Fx.onA Fx.g2 (Fx.ldF Fx.onI Fx.g6 (Fx.cstF (.int 4294967294) (Fx.asF T 0 0 Fx.onI (Fx.ldF Fx.onA Fx.g3 (Fx.ldF Fx.onI Fx.g5 (Fx.incF 1 Fx.g5 Fx.s5 (Fx.ldF Fx.onI Fx.g6 (Fx.asF T 0 0 Fx.onI (Fx.ldF Fx.onA Fx.g0 (Fx.ldF Fx.onI Fx.g6 (Fx.alF T 0 (Fx.st1F Fx.onI Fx.g6 Fx.s6 Fx.s7 Fx.s5 (J 36))))))))))))))))))
def B_3_22 (T : Fx.Tab) (R : Fx.Cal) (J : Fx.Jmp) : Fx.Cont :=
  Fx.ldF Fx.onI Fx.g4 (Fx.ldF Fx.onA Fx.g0 (Fx.alenF (Fx.b2 T 51 Fx.cGe (B_3_126 T R J) (Fx.cstF (.int 0) (Fx.st1F Fx.onI Fx.g5 Fx.s5 Fx.s6 Fx.s4 (Fx.ldF Fx.onI Fx.g4 (Fx.st1F Fx.onI Fx.g6 Fx.s6 Fx.s7 Fx.s5 (B_3_36 T R J))))))))
def B_3_0 (T : Fx.Tab) (R : Fx.Cal) (J : Fx.Jmp) : Fx.Cont :=
  Fx.ldF Fx.onA Fx.g0 (Fx.alenF (Fx.newaF T 0 (.int 0) (Fx.st1F Fx.onA Fx.g2 Fx.s2 Fx.s3 Fx.s1 (Fx.ldF Fx.onA Fx.g2 (Fx.cstF (.int 4294967295) (CS_4 R (Fx.ldF Fx.onA Fx.g2 (Fx.ldF Fx.onI Fx.g1 (Fx.cstF (.int 0) (Fx.asF T 0 0 Fx.onI (Fx.ldF Fx.onA Fx.g0 (Fx.alenF (Fx.newaF T 0 (.int 0) (Fx.st1F Fx.onA Fx.g3 Fx.s3 Fx.s4 Fx.s2 (Fx.cstF (.int 0) (Fx.st1F Fx.onI Fx.g4 Fx.s4 Fx.s5 Fx.s3 (B_3_22 T R J)))))))))))))))))
def BM_3 (T : Fx.Tab) (R : Fx.Cal) (J : Fx.Jmp) (pc : Nat) : Fx.Cont := Fx.brc (Fx.brc (Fx.brc Fx.stop (B_3_98 T R J) (Nat.beq pc 98)) (Fx.brc Fx.stop (B_3_36 T R J) (Nat.beq pc 36)) (Nat.blt pc 98)) (Fx.brc (Fx.brc Fx.stop (B_3_22 T R J) (Nat.beq pc 22)) (Fx.brc Fx.stop (B_3_0 T R J) (Nat.beq pc 0)) (Nat.blt pc 22)) (Nat.blt pc 36)
def B_4_20 (T : Fx.Tab) (R : Fx.Cal) (J : Fx.Jmp) : Fx.Cont :=
  Fx.xretV
def B_4_5 (T : Fx.Tab) (R : Fx.Cal) (J : Fx.Jmp) : Fx.Cont :=
  Fx.ldF Fx.onI Fx.g2 (Fx.ldF Fx.onI Fx.g3 (Fx.b2 T 51 Fx.cGe (B_4_20 T R J) (Fx.ldF Fx.onA Fx.g0 (Fx.ldF Fx.onI Fx.g2 (Fx.ldF Fx.onI Fx.g1 (Fx.asF T 0 0 Fx.onI (Fx.incF 1 Fx.g2 Fx.s2 (J 5))))))))
def B_4_0 (T : Fx.Tab) (R : Fx.Cal) (J : Fx.Jmp) : Fx.Cont :=
  Fx.cstF (.int 0) (Fx.st1F Fx.onI Fx.g2 Fx.s2 Fx.s3 Fx.s1 (Fx.ldF Fx.onA Fx.g0 (Fx.alenF (Fx.st1F Fx.onI Fx.g3 Fx.s3 Fx.sBad Fx.s2 (B_4_5 T R J)))))
def BM_4 (T : Fx.Tab) (R : Fx.Cal) (J : Fx.Jmp) (pc : Nat) : Fx.Cont := Fx.brc (Fx.brc Fx.stop (B_4_5 T R J) (Nat.beq pc 5)) (Fx.brc Fx.stop (B_4_0 T R J) (Nat.beq pc 0)) (Nat.blt pc 5)
def B_5_10 (T : Fx.Tab) (R : Fx.Cal) (J : Fx.Jmp) : Fx.Cont :=
  Fx.retF Fx.onI
def B_5_9 (T : Fx.Tab) (R : Fx.Cal) (J : Fx.Jmp) : Fx.Cont :=
  Fx.ldF Fx.onI Fx.g1 (B_5_10 T R J)
def B_5_0 (T : Fx.Tab) (R : Fx.Cal) (J : Fx.Jmp) : Fx.Cont :=
  Fx.ldF Fx.onI Fx.g0 (Fx.ldF Fx.onI Fx.g1 (Fx.b2 T 50 Fx.cLt (B_5_9 T R J) (Fx.ldF Fx.onI Fx.g0 (B_5_10 T R J))))
def BM_5 (T : Fx.Tab) (R : Fx.Cal) (J : Fx.Jmp) (pc : Nat) : Fx.Cont := Fx.brc Fx.stop (B_5_0 T R J) (Nat.beq pc 0)
def B_6_116 (T : Fx.Tab) (R : Fx.Cal) (J : Fx.Jmp) : Fx.Cont :=
  Fx.ldF Fx.onA Fx.g2 (Fx.retF Fx.onA)
def B_6_85 (T : Fx.Tab) (R : Fx.Cal) (J : Fx.Jmp) : Fx.Cont :=
  Fx.ldF Fx.onI Fx.g3 (Fx.ldF Fx.onA Fx.g0 (Fx.getF 8 1 (Fx.alenF (Fx.b2 T 51 Fx.cGe (B_6_116 T R J) (Fx.ldF Fx.onA Fx.g2 (Fx.ldF Fx.onA Fx.g1 (Fx.ldF Fx.onA Fx.g0 (Fx.getF 8 4 (Fx.ldF Fx.onI Fx.g3 (Fx.alF T 0 (Fx.dup2F (Fx.alF T 0 (Fx.dupX2F (Fx.cstF (.int 1) (Fx.bI T 0 Fx.hadd (Fx.asF T 0 0 Fx.onI (Fx.ldF Fx.onI Fx.g3 (Fx.asF T 0 0 Fx.onI (Fx.incF 1 Fx.g3 Fx.s3 (J 85))))))))))))))))))))
def B_6_75 (T : Fx.Tab) (R : Fx.Cal) (J : Fx.Jmp) : Fx.Cont :=
  Fx.ldF Fx.onA Fx.g0 (Fx.getF 8 1 (Fx.alenF (Fx.newaF T 0 (.int 0) (Fx.st1F Fx.onA Fx.g2 Fx.s2 Fx.s3 Fx.s1 (Fx.cstF (.int 0) (Fx.st1F Fx.onI Fx.g3 Fx.s3 Fx.s4 Fx.s2 (B_6_85 T R J)))))))
def B_6_50 (T : Fx.Tab) (R : Fx.Cal) (J : Fx.Jmp) : Fx.Cont :=
  Fx.ldF Fx.onI Fx.g2 (Fx.ldF Fx.onA Fx.g0 (Fx.getF 8 5 (Fx.b2 T 52 Fx.cGt (B_6_75 T R J) (Fx.ldF Fx.onA Fx.g1 (Fx.ldF Fx.onI Fx.g2 (Fx.dup2F (Fx.alF T 0 (Fx.ldF Fx.onA Fx.g1 (Fx.ldF Fx.onI Fx.g2 (Fx.cstF (.int 1) (Fx.bI T 1 Fx.hsub (Fx.alF T 0 (Fx.bI T 0 Fx.hadd (Fx.asF T 0 0 Fx.onI (Fx.incF 1 Fx.g2 Fx.s2 (J 50))))))))))))))))
def B_6_48 (T : Fx.Tab) (R : Fx.Cal) (J : Fx.Jmp) : Fx.Cont :=
  Fx.cstF (.int 1) (Fx.st1F Fx.onI Fx.g2 Fx.s2 Fx.s3 Fx.s1 (B_6_50 T R J))
def B_6_20 (T : Fx.Tab) (R : Fx.Cal) (J : Fx.Jmp) : Fx.Cont :=
  Fx.ldF Fx.onI Fx.g4 (Fx.ldF Fx.onI Fx.g3 (Fx.b2 T 51 Fx.cGe (B_6_48 T R J) (Fx.ldF Fx.onA Fx.g2 (Fx.ldF Fx.onI Fx.g4 (Fx.alF T 0 (Fx.st1F Fx.onI Fx.g5 Fx.s5 Fx.sBad Fx.s4 (Fx.ldF Fx.onA Fx.g1 (Fx.ldF Fx.onI Fx.g5 (Fx.cstF (.int 1) (Fx.bI T 0 Fx.hadd (Fx.dup2F (Fx.alF T 0 (Fx.cstF (.int 1) (Fx.bI T 0 Fx.hadd (Fx.asF T 0 0 Fx.onI (Fx.incF 1 Fx.g4 Fx.s4 (J 20)))))))))))))))))
def B_6_0 (T : Fx.Tab) (R : Fx.Cal) (J : Fx.Jmp) : Fx.Cont :=
  Fx.ldF Fx.onA Fx.g0 (Fx.getF 8 5 (Fx.cstF (.int 1) (Fx.bI T 0 Fx.hadd (Fx.newaF T 0 (.int 0) (Fx.st1F Fx.onA Fx.g1 Fx.s1 Fx.s2 Fx.s0 (Fx.ldF Fx.onA Fx.g0 (Fx.getF 8 4 (Fx.st1F Fx.onA Fx.g2 Fx.s2 Fx.s3 Fx.s1 (Fx.ldF Fx.onA Fx.g2 (Fx.alenF (Fx.st1F Fx.onI Fx.g3 Fx.s3 Fx.s4 Fx.s2 (Fx.cstF (.int 0) (Fx.st1F Fx.onI Fx.g4 Fx.s4 Fx.s5 Fx.s3 (B_6_20 T R J))))))))))))))
def BM_6 (T : Fx.Tab) (R : Fx.Cal) (J : Fx.Jmp) (pc : Nat) : Fx.Cont := Fx.brc (Fx.brc (Fx.brc Fx.stop (B_6_85 T R J) (Nat.beq pc 85)) (Fx.brc Fx.stop (B_6_50 T R J) (Nat.beq pc 50)) (Nat.blt pc 85)) (Fx.brc (Fx.brc Fx.stop (B_6_20 T R J) (Nat.beq pc 20)) (Fx.brc Fx.stop (B_6_0 T R J) (Nat.beq pc 0)) (Nat.blt pc 20)) (Nat.blt pc 50)
def B_7_0 (T : Fx.Tab) (R : Fx.Cal) (J : Fx.Jmp) : Fx.Cont :=
  Fx.ldF Fx.onA Fx.g0 (Fx.cstF (.int 0) (Fx.ldF Fx.onI Fx.g1 (CS_8 R (Fx.ldF Fx.onA Fx.g0 (Fx.cstF (.int 1) (Fx.ldF Fx.onI Fx.g1 (CS_8 R (Fx.bI T 0 Fx.hadd (Fx.ldF Fx.onA Fx.g0 (Fx.cstF (.int 2) (Fx.ldF Fx.onI Fx.g1 (CS_8 R (Fx.bI T 0 Fx.hadd (Fx.ldF Fx.onA Fx.g0 (Fx.cstF (.int 3) (Fx.ldF Fx.onI Fx.g1 (CS_8 R (Fx.bI T 0 Fx.hadd (Fx.retF Fx.onI)))))))))))))))))))
def BM_7 (T : Fx.Tab) (R : Fx.Cal) (J : Fx.Jmp) (pc : Nat) : Fx.Cont := Fx.brc Fx.stop (B_7_0 T R J) (Nat.beq pc 0)
def B_8_27 (T : Fx.Tab) (R : Fx.Cal) (J : Fx.Jmp) : Fx.Cont :=
  Fx.cstF (.int 0) (Fx.retF Fx.onI)
def B_8_11 (T : Fx.Tab) (R : Fx.Cal) (J : Fx.Jmp) : Fx.Cont :=
  Fx.ldF Fx.onA Fx.g0 (Fx.ldF Fx.onI Fx.g1 (Fx.alF T 0 (Fx.ldF Fx.onA Fx.g0 (Fx.ldF Fx.onI Fx.g2 (Fx.alF T 0 (Fx.b2 T 49 Fx.cNe (B_8_27 T R J) (Fx.ldF Fx.onI Fx.g1 (Fx.ldF Fx.onI Fx.g2 (Fx.b2 T 51 Fx.cGe (B_8_27 T R J) (Fx.cstF (.int 1) (Fx.retF Fx.onI)))))))))))
def B_8_0 (T : Fx.Tab) (R : Fx.Cal) (J : Fx.Jmp) : Fx.Cont :=
  Fx.ldF Fx.onA Fx.g0 (Fx.ldF Fx.onI Fx.g1 (Fx.alF T 0 (Fx.ldF Fx.onA Fx.g0 (Fx.ldF Fx.onI Fx.g2 (Fx.alF T 0 (Fx.b2 T 51 Fx.cGe (B_8_11 T R J) (Fx.cstF (.int 1) (Fx.retF Fx.onI))))))))
def BM_8 (T : Fx.Tab) (R : Fx.Cal) (J : Fx.Jmp) (pc : Nat) : Fx.Cont := Fx.brc Fx.stop (B_8_0 T R J) (Nat.beq pc 0)
def BB (T : Fx.Tab) (R : Fx.Cal) (M : Nat) (J : Fx.Jmp) (pc : Nat) : Fx.Cont := Fx.brc (Fx.brc (Fx.brc (Fx.brc (Fx.brc Fx.stop (BM_8 T R J pc) (Nat.beq M 8)) (Fx.brc Fx.stop (BM_7 T R J pc) (Nat.beq M 7)) (Nat.blt M 8)) (Fx.brc Fx.stop (BM_6 T R J pc) (Nat.beq M 6)) (Nat.blt M 7)) (Fx.brc (Fx.brc Fx.stop (BM_5 T R J pc) (Nat.beq M 5)) (Fx.brc Fx.stop (BM_4 T R J pc) (Nat.beq M 4)) (Nat.blt M 5)) (Nat.blt M 6)) (Fx.brc (Fx.brc (Fx.brc Fx.stop (BM_3 T R J pc) (Nat.beq M 3)) (Fx.brc Fx.stop (BM_2 T R J pc) (Nat.beq M 2)) (Nat.blt M 3)) (Fx.brc (Fx.brc Fx.stop (BM_1 T R J pc) (Nat.beq M 1)) (Fx.brc Fx.stop (BM_0 T R J pc) (Nat.beq M 0)) (Nat.blt M 1)) (Nat.blt M 2)) (Nat.blt M 4)
set_option maxRecDepth 65536 in
theorem bok_0_368 {ρ : Fx.Rho} {T : Fx.Tab} {R : Fx.Cal} {J : Fx.Jmp} (hT : Fx.TOk ρ E_ T ∧ Fx.T01 T) (hR : Fx.SimR ρ E_ R) (hJ : ∀ pc, Fx.Sim ρ E_ 0 pc (J pc)) : Fx.Sim ρ E_ 0 368 (B_0_368 T R J) := by
  unfold B_0_368
  exact Fx.retZ_ok rfl rfl
set_option maxRecDepth 65536 in
theorem bok_0_367 {ρ : Fx.Rho} {T : Fx.Tab} {R : Fx.Cal} {J : Fx.Jmp} (hT : Fx.TOk ρ E_ T ∧ Fx.T01 T) (hR : Fx.SimR ρ E_ R) (hJ : ∀ pc, Fx.Sim ρ E_ 0 pc (J pc)) : Fx.Sim ρ E_ 0 367 (B_0_367 T R J) := by
  unfold B_0_367
  exact Fx.iconst_ok (p := 368) (z := 0) (by decide) rfl rfl (bok_0_368 hT hR hJ)
set_option maxRecDepth 65536 in
theorem bok_0_312 {ρ : Fx.Rho} {T : Fx.Tab} {R : Fx.Cal} {J : Fx.Jmp} (hT : Fx.TOk ρ E_ T ∧ Fx.T01 T) (hR : Fx.SimR ρ E_ R) (hJ : ∀ pc, Fx.Sim ρ E_ 0 pc (J pc)) : Fx.Sim ρ E_ 0 312 (B_0_312 T R J) := by
  unfold B_0_312
  exact Fx.ldA_ok (p := 314) (j := 16) (Fx.g16_ok (by decide)) rfl rfl (Fx.ldA_ok (p := 316) (j := 13) (Fx.g13_ok (by decide)) rfl rfl (Fx.iconst_ok (p := 317) (z := 0) (by decide) rfl rfl (Fx.statF_ok (p := 320) (CS_7_ok R) hR rfl rfl rfl (Fx.alF_ok (p := 321) (i := .iaload) hT.1 rfl (fun _ _ _ => rfl) rfl rfl rfl rfl (Fx.if_ok (p := 324) (tg := 367) (cd := .ne) hT rfl (by decide) (by decide) Fx.zNe_ok rfl ⟨by decide, rfl⟩ rfl (bok_0_367 hT hR hJ) (Fx.ldA_ok (p := 326) (j := 16) (Fx.g16_ok (by decide)) rfl rfl (Fx.ldA_ok (p := 328) (j := 13) (Fx.g13_ok (by decide)) rfl rfl (Fx.iconst_ok (p := 329) (z := 1) (by decide) rfl rfl (Fx.statF_ok (p := 332) (CS_7_ok R) hR rfl rfl rfl (Fx.alF_ok (p := 333) (i := .iaload) hT.1 rfl (fun _ _ _ => rfl) rfl rfl rfl rfl (Fx.iconst_ok (p := 334) (z := 1) (by decide) rfl rfl (Fx.icmp_ok (p := 337) (tg := 367) (cd := .ne) hT rfl (by decide) (by decide) Fx.cNe_ok rfl ⟨by decide, rfl⟩ rfl (bok_0_367 hT hR hJ) (Fx.ldA_ok (p := 339) (j := 16) (Fx.g16_ok (by decide)) rfl rfl (Fx.ldA_ok (p := 341) (j := 13) (Fx.g13_ok (by decide)) rfl rfl (Fx.iconst_ok (p := 342) (z := 2) (by decide) rfl rfl (Fx.statF_ok (p := 345) (CS_7_ok R) hR rfl rfl rfl (Fx.alF_ok (p := 346) (i := .iaload) hT.1 rfl (fun _ _ _ => rfl) rfl rfl rfl rfl (Fx.iconst_ok (p := 347) (z := 2) (by decide) rfl rfl (Fx.icmp_ok (p := 350) (tg := 367) (cd := .ne) hT rfl (by decide) (by decide) Fx.cNe_ok rfl ⟨by decide, rfl⟩ rfl (bok_0_367 hT hR hJ) (Fx.ldA_ok (p := 352) (j := 16) (Fx.g16_ok (by decide)) rfl rfl (Fx.ldA_ok (p := 354) (j := 13) (Fx.g13_ok (by decide)) rfl rfl (Fx.iconst_ok (p := 355) (z := 3) (by decide) rfl rfl (Fx.statF_ok (p := 358) (CS_7_ok R) hR rfl rfl rfl (Fx.alF_ok (p := 359) (i := .iaload) hT.1 rfl (fun _ _ _ => rfl) rfl rfl rfl rfl (Fx.iconst_ok (p := 360) (z := 3) (by decide) rfl rfl (Fx.icmp_ok (p := 363) (tg := 367) (cd := .ne) hT rfl (by decide) (by decide) Fx.cNe_ok rfl ⟨by decide, rfl⟩ rfl (bok_0_367 hT hR hJ) (Fx.iconst_ok (p := 364) (z := 1) (by decide) rfl rfl (Fx.goto_ok (tg := 368) rfl ⟨by decide, rfl⟩ (bok_0_368 hT hR hJ))
   ))))))
   )))
   ))))))))
   )
   )))
   ))))))
set_option maxRecDepth 65536 in
theorem bok_0_289 {ρ : Fx.Rho} {T : Fx.Tab} {R : Fx.Cal} {J : Fx.Jmp} (hT : Fx.TOk ρ E_ T ∧ Fx.T01 T) (hR : Fx.SimR ρ E_ R) (hJ : ∀ pc, Fx.Sim ρ E_ 0 pc (J pc)) : Fx.Sim ρ E_ 0 289 (B_0_289 T R J) := by
  unfold B_0_289
  exact Fx.ldA_ok (p := 291) (j := 12) (Fx.g12_ok (by decide)) rfl rfl (Fx.specF_ok (p := 294) (CI_1_ok R) hR rfl rfl rfl (Fx.stA_ok (p := 296) (j := 15) (Fx.g15_ok (by decide)) (Fx.s15_ok (by decide)) (Fx.s16_ok (by decide)) (Fx.s14_ok (by decide)) (by decide) rfl rfl (Fx.ldA_ok (p := 298) (j := 15) (Fx.g15_ok (by decide)) rfl rfl (Fx.virtF_ok (p := 301) (CV_8_6_ok R) hR (Fx.look1x rfl) rfl rfl (Fx.stA_ok (p := 303) (j := 16) (Fx.g16_ok (by decide)) (Fx.s16_ok (by decide)) Fx.sBad_ok (Fx.s15_ok (by decide)) (by decide) rfl rfl (Fx.ldA_ok (p := 305) (j := 16) (Fx.g16_ok (by decide)) rfl rfl (Fx.alenF_ok (p := 306)  rfl rfl (Fx.iconst_ok (p := 307) (z := 4) (by decide) rfl rfl (Fx.icmp_ok (p := 310) (tg := 312) (cd := .eq) hT rfl (by decide) (by decide) Fx.cEq_ok rfl ⟨by decide, rfl⟩ rfl (bok_0_312 hT hR hJ) (Fx.iconst_ok (p := 311) (z := 0) (by decide) rfl rfl (Fx.retZ_ok rfl rfl)))))))))))
set_option maxRecDepth 65536 in
theorem bok_0_229 {ρ : Fx.Rho} {T : Fx.Tab} {R : Fx.Cal} {J : Fx.Jmp} (hT : Fx.TOk ρ E_ T ∧ Fx.T01 T) (hR : Fx.SimR ρ E_ R) (hJ : ∀ pc, Fx.Sim ρ E_ 0 pc (J pc)) : Fx.Sim ρ E_ 0 229 (B_0_229 T R J) := by
  unfold B_0_229
  exact Fx.alF_ok (p := 230) (i := .iaload) hT.1 rfl (fun _ _ _ => rfl) rfl rfl rfl rfl (Fx.iconst_ok (p := 231) (z := 1) (by decide) rfl rfl (Fx.iadd_ok (p := 232) hT.1 rfl rfl (Fx.asF_ok (p := 233) (i := .iastore) hT.1 Fx.iastore_on rfl (fun _ _ _ => rfl) rfl rfl rfl rfl (Fx.ldA_ok (p := 235) (j := 11) (Fx.g11_ok (by decide)) rfl rfl (Fx.ldA_ok (p := 237) (j := 6) (Fx.g6_ok (by decide)) rfl rfl (Fx.iconst_ok (p := 238) (z := 3) (by decide) rfl rfl (Fx.alF_ok (p := 239) (i := .iaload) hT.1 rfl (fun _ _ _ => rfl) rfl rfl rfl rfl (Fx.ldA_ok (p := 241) (j := 6) (Fx.g6_ok (by decide)) rfl rfl (Fx.ldI_ok (p := 243) (j := 10) (Fx.g10_ok (by decide)) rfl rfl (Fx.alF_ok (p := 244) (i := .iaload) hT.1 rfl (fun _ _ _ => rfl) rfl rfl rfl rfl (Fx.asF_ok (p := 245) (i := .iastore) hT.1 Fx.iastore_on rfl (fun _ _ _ => rfl) rfl rfl rfl rfl (Fx.ldA_ok (p := 247) (j := 12) (Fx.g12_ok (by decide)) rfl rfl (Fx.ldA_ok (p := 249) (j := 6) (Fx.g6_ok (by decide)) rfl rfl (Fx.iconst_ok (p := 250) (z := 3) (by decide) rfl rfl (Fx.alF_ok (p := 251) (i := .iaload) hT.1 rfl (fun _ _ _ => rfl) rfl rfl rfl rfl (Fx.ldc2_w_double_ok (p := 254) (z := 4613937818241073152) (by decide) rfl rfl (Fx.asF_ok (p := 255) (i := .dastore) hT.1 Fx.dastore_on rfl (fun _ _ _ => rfl) rfl rfl rfl rfl (Fx.ldA_ok (p := 257) (j := 13) (Fx.g13_ok (by decide)) rfl rfl (Fx.ldA_ok (p := 259) (j := 6) (Fx.g6_ok (by decide)) rfl rfl (Fx.iconst_ok (p := 260) (z := 3) (by decide) rfl rfl (Fx.alF_ok (p := 261) (i := .iaload) hT.1 rfl (fun _ _ _ => rfl) rfl rfl rfl rfl (Fx.ldA_ok (p := 263) (j := 13) (Fx.g13_ok (by decide)) rfl rfl (Fx.ldA_ok (p := 265) (j := 6) (Fx.g6_ok (by decide)) rfl rfl (Fx.ldI_ok (p := 267) (j := 10) (Fx.g10_ok (by decide)) rfl rfl (Fx.alF_ok (p := 268) (i := .iaload) hT.1 rfl (fun _ _ _ => rfl) rfl rfl rfl rfl (Fx.alF_ok (p := 269) (i := .iaload) hT.1 rfl (fun _ _ _ => rfl) rfl rfl rfl rfl (Fx.iconst_ok (p := 270) (z := 1) (by decide) rfl rfl (Fx.iadd_ok (p := 271) hT.1 rfl rfl (Fx.asF_ok (p := 272) (i := .iastore) hT.1 Fx.iastore_on rfl (fun _ _ _ => rfl) rfl rfl rfl rfl (Fx.ldI_ok (p := 274) (j := 5) (Fx.g5_ok (by decide)) rfl rfl (Fx.ldc_int_ok (p := 276) (z := 2147483647) (by decide) rfl rfl (Fx.iand_ok (p := 277) hT.1 rfl rfl (Fx.iconst_ok (p := 278) (z := 5) (by decide) rfl rfl (Fx.irem_ok (p := 279) hT.1 rfl rfl (Fx.stI_ok (p := 281) (j := 14) (Fx.g14_ok (by decide)) (Fx.s14_ok (by decide)) (Fx.s15_ok (by decide)) (Fx.s13_ok (by decide)) (by decide) rfl rfl (Fx.newF_ok (p := 284) rfl rfl rfl (Fx.dupF_ok (p := 285)  rfl rfl (Fx.ldI_ok (p := 287) (j := 14) (Fx.g14_ok (by decide)) rfl rfl (Fx.ldA_ok (p := 289) (j := 11) (Fx.g11_ok (by decide)) rfl rfl (bok_0_289 hT hR hJ))))
   )))
   ))))
   )))))))))))))))))))))))))))))
set_option maxRecDepth 65536 in
theorem bok_0_171 {ρ : Fx.Rho} {T : Fx.Tab} {R : Fx.Cal} {J : Fx.Jmp} (hT : Fx.TOk ρ E_ T ∧ Fx.T01 T) (hR : Fx.SimR ρ E_ R) (hJ : ∀ pc, Fx.Sim ρ E_ 0 pc (J pc)) : Fx.Sim ρ E_ 0 171 (B_0_171 T R J) := by
  unfold B_0_171
  exact Fx.iconst_ok (p := 172) (z := 1) (by decide) rfl rfl (Fx.alF_ok (p := 173) (i := .iaload) hT.1 rfl (fun _ _ _ => rfl) rfl rfl rfl rfl (Fx.ldA_ok (p := 175) (j := 6) (Fx.g6_ok (by decide)) rfl rfl (Fx.iconst_ok (p := 176) (z := 0) (by decide) rfl rfl (Fx.alF_ok (p := 177) (i := .iaload) hT.1 rfl (fun _ _ _ => rfl) rfl rfl rfl rfl (Fx.asF_ok (p := 178) (i := .iastore) hT.1 Fx.iastore_on rfl (fun _ _ _ => rfl) rfl rfl rfl rfl (Fx.ldA_ok (p := 180) (j := 12) (Fx.g12_ok (by decide)) rfl rfl (Fx.ldA_ok (p := 182) (j := 6) (Fx.g6_ok (by decide)) rfl rfl (Fx.iconst_ok (p := 183) (z := 1) (by decide) rfl rfl (Fx.alF_ok (p := 184) (i := .iaload) hT.1 rfl (fun _ _ _ => rfl) rfl rfl rfl rfl (Fx.dconst1_ok (p := 185)  rfl rfl (Fx.asF_ok (p := 186) (i := .dastore) hT.1 Fx.dastore_on rfl (fun _ _ _ => rfl) rfl rfl rfl rfl (Fx.ldA_ok (p := 188) (j := 13) (Fx.g13_ok (by decide)) rfl rfl (Fx.ldA_ok (p := 190) (j := 6) (Fx.g6_ok (by decide)) rfl rfl (Fx.iconst_ok (p := 191) (z := 1) (by decide) rfl rfl (Fx.alF_ok (p := 192) (i := .iaload) hT.1 rfl (fun _ _ _ => rfl) rfl rfl rfl rfl (Fx.iconst_ok (p := 193) (z := 1) (by decide) rfl rfl (Fx.asF_ok (p := 194) (i := .iastore) hT.1 Fx.iastore_on rfl (fun _ _ _ => rfl) rfl rfl rfl rfl (Fx.ldA_ok (p := 196) (j := 11) (Fx.g11_ok (by decide)) rfl rfl (Fx.ldA_ok (p := 198) (j := 6) (Fx.g6_ok (by decide)) rfl rfl (Fx.iconst_ok (p := 199) (z := 2) (by decide) rfl rfl (Fx.alF_ok (p := 200) (i := .iaload) hT.1 rfl (fun _ _ _ => rfl) rfl rfl rfl rfl (Fx.ldA_ok (p := 202) (j := 6) (Fx.g6_ok (by decide)) rfl rfl (Fx.ldI_ok (p := 204) (j := 9) (Fx.g9_ok (by decide)) rfl rfl (Fx.alF_ok (p := 205) (i := .iaload) hT.1 rfl (fun _ _ _ => rfl) rfl rfl rfl rfl (Fx.asF_ok (p := 206) (i := .iastore) hT.1 Fx.iastore_on rfl (fun _ _ _ => rfl) rfl rfl rfl rfl (Fx.ldA_ok (p := 208) (j := 12) (Fx.g12_ok (by decide)) rfl rfl (Fx.ldA_ok (p := 210) (j := 6) (Fx.g6_ok (by decide)) rfl rfl (Fx.iconst_ok (p := 211) (z := 2) (by decide) rfl rfl (Fx.alF_ok (p := 212) (i := .iaload) hT.1 rfl (fun _ _ _ => rfl) rfl rfl rfl rfl (Fx.ldc2_w_double_ok (p := 215) (z := 4611686018427387904) (by decide) rfl rfl (Fx.asF_ok (p := 216) (i := .dastore) hT.1 Fx.dastore_on rfl (fun _ _ _ => rfl) rfl rfl rfl rfl (Fx.ldA_ok (p := 218) (j := 13) (Fx.g13_ok (by decide)) rfl rfl (Fx.ldA_ok (p := 220) (j := 6) (Fx.g6_ok (by decide)) rfl rfl (Fx.iconst_ok (p := 221) (z := 2) (by decide) rfl rfl (Fx.alF_ok (p := 222) (i := .iaload) hT.1 rfl (fun _ _ _ => rfl) rfl rfl rfl rfl (Fx.ldA_ok (p := 224) (j := 13) (Fx.g13_ok (by decide)) rfl rfl (Fx.ldA_ok (p := 226) (j := 6) (Fx.g6_ok (by decide)) rfl rfl (Fx.ldI_ok (p := 228) (j := 9) (Fx.g9_ok (by decide)) rfl rfl (Fx.alF_ok (p := 229) (i := .iaload) hT.1 rfl (fun _ _ _ => rfl) rfl rfl rfl rfl (bok_0_229 hT hR hJ))))))))))))))))))))))
   )))
   ))))))))))))
   )))
set_option maxRecDepth 65536 in
theorem bok_0_112 {ρ : Fx.Rho} {T : Fx.Tab} {R : Fx.Cal} {J : Fx.Jmp} (hT : Fx.TOk ρ E_ T ∧ Fx.T01 T) (hR : Fx.SimR ρ E_ R) (hJ : ∀ pc, Fx.Sim ρ E_ 0 pc (J pc)) : Fx.Sim ρ E_ 0 112 (B_0_112 T R J) := by
  unfold B_0_112
  exact Fx.ldc_int_ok (p := 114) (z := 2147483647) (by decide) rfl rfl (Fx.iand_ok (p := 115) hT.1 rfl rfl (Fx.iconst_ok (p := 116) (z := 2) (by decide) rfl rfl (Fx.irem_ok (p := 117) hT.1 rfl rfl (Fx.stI_ok (p := 119) (j := 9) (Fx.g9_ok (by decide)) (Fx.s9_ok (by decide)) (Fx.s10_ok (by decide)) (Fx.s8_ok (by decide)) (by decide) rfl rfl (Fx.ldI_ok (p := 121) (j := 4) (Fx.g4_ok (by decide)) rfl rfl (Fx.ldc_int_ok (p := 123) (z := 2147483647) (by decide) rfl rfl (Fx.iand_ok (p := 124) hT.1 rfl rfl (Fx.iconst_ok (p := 125) (z := 3) (by decide) rfl rfl (Fx.irem_ok (p := 126) hT.1 rfl rfl (Fx.stI_ok (p := 128) (j := 10) (Fx.g10_ok (by decide)) (Fx.s10_ok (by decide)) (Fx.s11_ok (by decide)) (Fx.s9_ok (by decide)) (by decide) rfl rfl (Fx.iconst_ok (p := 129) (z := 4) (by decide) rfl rfl (Fx.newaF_ok (p := 131) hT.1 rfl rfl rfl rfl (Fx.stA_ok (p := 133) (j := 11) (Fx.g11_ok (by decide)) (Fx.s11_ok (by decide)) (Fx.s12_ok (by decide)) (Fx.s10_ok (by decide)) (by decide) rfl rfl (Fx.iconst_ok (p := 134) (z := 4) (by decide) rfl rfl (Fx.newaF_ok (p := 136) hT.1 rfl rfl rfl rfl (Fx.stA_ok (p := 138) (j := 12) (Fx.g12_ok (by decide)) (Fx.s12_ok (by decide)) (Fx.s13_ok (by decide)) (Fx.s11_ok (by decide)) (by decide) rfl rfl (Fx.iconst_ok (p := 139) (z := 4) (by decide) rfl rfl (Fx.newaF_ok (p := 141) hT.1 rfl rfl rfl rfl (Fx.stA_ok (p := 143) (j := 13) (Fx.g13_ok (by decide)) (Fx.s13_ok (by decide)) (Fx.s14_ok (by decide)) (Fx.s12_ok (by decide)) (by decide) rfl rfl (Fx.ldA_ok (p := 145) (j := 11) (Fx.g11_ok (by decide)) rfl rfl (Fx.ldA_ok (p := 147) (j := 6) (Fx.g6_ok (by decide)) rfl rfl (Fx.iconst_ok (p := 148) (z := 0) (by decide) rfl rfl (Fx.alF_ok (p := 149) (i := .iaload) hT.1 rfl (fun _ _ _ => rfl) rfl rfl rfl rfl (Fx.iconst_ok (p := 150) (z := (-1)) (by decide) rfl rfl (Fx.asF_ok (p := 151) (i := .iastore) hT.1 Fx.iastore_on rfl (fun _ _ _ => rfl) rfl rfl rfl rfl (Fx.ldA_ok (p := 153) (j := 12) (Fx.g12_ok (by decide)) rfl rfl (Fx.ldA_ok (p := 155) (j := 6) (Fx.g6_ok (by decide)) rfl rfl (Fx.iconst_ok (p := 156) (z := 0) (by decide) rfl rfl (Fx.alF_ok (p := 157) (i := .iaload) hT.1 rfl (fun _ _ _ => rfl) rfl rfl rfl rfl (Fx.dconst0_ok (p := 158)  rfl rfl (Fx.asF_ok (p := 159) (i := .dastore) hT.1 Fx.dastore_on rfl (fun _ _ _ => rfl) rfl rfl rfl rfl (Fx.ldA_ok (p := 161) (j := 13) (Fx.g13_ok (by decide)) rfl rfl (Fx.ldA_ok (p := 163) (j := 6) (Fx.g6_ok (by decide)) rfl rfl (Fx.iconst_ok (p := 164) (z := 0) (by decide) rfl rfl (Fx.alF_ok (p := 165) (i := .iaload) hT.1 rfl (fun _ _ _ => rfl) rfl rfl rfl rfl (Fx.iconst_ok (p := 166) (z := 0) (by decide) rfl rfl (Fx.asF_ok (p := 167) (i := .iastore) hT.1 Fx.iastore_on rfl (fun _ _ _ => rfl) rfl rfl rfl rfl (Fx.ldA_ok (p := 169) (j := 11) (Fx.g11_ok (by decide)) rfl rfl (Fx.ldA_ok (p := 171) (j := 6) (Fx.g6_ok (by decide)) rfl rfl (bok_0_171 hT hR hJ))))))))))))
   ))))
   )))))))))
   )))))))))
   ))))))
set_option maxRecDepth 65536 in
theorem bok_0_52 {ρ : Fx.Rho} {T : Fx.Tab} {R : Fx.Cal} {J : Fx.Jmp} (hT : Fx.TOk ρ E_ T ∧ Fx.T01 T) (hR : Fx.SimR ρ E_ R) (hJ : ∀ pc, Fx.Sim ρ E_ 0 pc (J pc)) : Fx.Sim ρ E_ 0 52 (B_0_52 T R J) := by
  unfold B_0_52
  exact Fx.ldc_int_ok (p := 54) (z := 2147483647) (by decide) rfl rfl (Fx.iand_ok (p := 55) hT.1 rfl rfl (Fx.iconst_ok (p := 56) (z := 3) (by decide) rfl rfl (Fx.irem_ok (p := 57) hT.1 rfl rfl (Fx.stI_ok (p := 59) (j := 7) (Fx.g7_ok (by decide)) (Fx.s7_ok (by decide)) (Fx.s8_ok (by decide)) (Fx.s6_ok (by decide)) (by decide) rfl rfl (Fx.ldA_ok (p := 61) (j := 6) (Fx.g6_ok (by decide)) rfl rfl (Fx.iconst_ok (p := 62) (z := 2) (by decide) rfl rfl (Fx.alF_ok (p := 63) (i := .iaload) hT.1 rfl (fun _ _ _ => rfl) rfl rfl rfl rfl (Fx.stI_ok (p := 65) (j := 8) (Fx.g8_ok (by decide)) (Fx.s8_ok (by decide)) (Fx.s9_ok (by decide)) (Fx.s7_ok (by decide)) (by decide) rfl rfl (Fx.ldA_ok (p := 67) (j := 6) (Fx.g6_ok (by decide)) rfl rfl (Fx.iconst_ok (p := 68) (z := 2) (by decide) rfl rfl (Fx.ldA_ok (p := 70) (j := 6) (Fx.g6_ok (by decide)) rfl rfl (Fx.ldI_ok (p := 72) (j := 7) (Fx.g7_ok (by decide)) rfl rfl (Fx.alF_ok (p := 73) (i := .iaload) hT.1 rfl (fun _ _ _ => rfl) rfl rfl rfl rfl (Fx.asF_ok (p := 74) (i := .iastore) hT.1 Fx.iastore_on rfl (fun _ _ _ => rfl) rfl rfl rfl rfl (Fx.ldA_ok (p := 76) (j := 6) (Fx.g6_ok (by decide)) rfl rfl (Fx.ldI_ok (p := 78) (j := 7) (Fx.g7_ok (by decide)) rfl rfl (Fx.ldI_ok (p := 80) (j := 8) (Fx.g8_ok (by decide)) rfl rfl (Fx.asF_ok (p := 81) (i := .iastore) hT.1 Fx.iastore_on rfl (fun _ _ _ => rfl) rfl rfl rfl rfl (Fx.ldI_n_ok (p := 82) (j := 2) (Fx.g2_ok (by decide)) rfl rfl (Fx.ldc_int_ok (p := 84) (z := 2147483647) (by decide) rfl rfl (Fx.iand_ok (p := 85) hT.1 rfl rfl (Fx.iconst_ok (p := 86) (z := 2) (by decide) rfl rfl (Fx.irem_ok (p := 87) hT.1 rfl rfl (Fx.stI_ok (p := 89) (j := 7) (Fx.g7_ok (by decide)) (Fx.s7_ok (by decide)) (Fx.s8_ok (by decide)) (Fx.s6_ok (by decide)) (by decide) rfl rfl (Fx.ldA_ok (p := 91) (j := 6) (Fx.g6_ok (by decide)) rfl rfl (Fx.iconst_ok (p := 92) (z := 1) (by decide) rfl rfl (Fx.alF_ok (p := 93) (i := .iaload) hT.1 rfl (fun _ _ _ => rfl) rfl rfl rfl rfl (Fx.stI_ok (p := 95) (j := 8) (Fx.g8_ok (by decide)) (Fx.s8_ok (by decide)) (Fx.s9_ok (by decide)) (Fx.s7_ok (by decide)) (by decide) rfl rfl (Fx.ldA_ok (p := 97) (j := 6) (Fx.g6_ok (by decide)) rfl rfl (Fx.iconst_ok (p := 98) (z := 1) (by decide) rfl rfl (Fx.ldA_ok (p := 100) (j := 6) (Fx.g6_ok (by decide)) rfl rfl (Fx.ldI_ok (p := 102) (j := 7) (Fx.g7_ok (by decide)) rfl rfl (Fx.alF_ok (p := 103) (i := .iaload) hT.1 rfl (fun _ _ _ => rfl) rfl rfl rfl rfl (Fx.asF_ok (p := 104) (i := .iastore) hT.1 Fx.iastore_on rfl (fun _ _ _ => rfl) rfl rfl rfl rfl (Fx.ldA_ok (p := 106) (j := 6) (Fx.g6_ok (by decide)) rfl rfl (Fx.ldI_ok (p := 108) (j := 7) (Fx.g7_ok (by decide)) rfl rfl (Fx.ldI_ok (p := 110) (j := 8) (Fx.g8_ok (by decide)) rfl rfl (Fx.asF_ok (p := 111) (i := .iastore) hT.1 Fx.iastore_on rfl (fun _ _ _ => rfl) rfl rfl rfl rfl (Fx.ldI_n_ok (p := 112) (j := 3) (Fx.g3_ok (by decide)) rfl rfl (bok_0_112 hT hR hJ))))))))))
   )))))
   )
   ))))))))))))))))))))))))
set_option maxRecDepth 65536 in
theorem bok_0_0 {ρ : Fx.Rho} {T : Fx.Tab} {R : Fx.Cal} {J : Fx.Jmp} (hT : Fx.TOk ρ E_ T ∧ Fx.T01 T) (hR : Fx.SimR ρ E_ R) (hJ : ∀ pc, Fx.Sim ρ E_ 0 pc (J pc)) : Fx.Sim ρ E_ 0 0 (B_0_0 T R J) := by
  unfold B_0_0
  exact Fx.iconst_ok (p := 1) (z := 4) (by decide) rfl rfl (Fx.newaF_ok (p := 3) hT.1 rfl rfl rfl rfl (Fx.dupF_ok (p := 4)  rfl rfl (Fx.iconst_ok (p := 5) (z := 0) (by decide) rfl rfl (Fx.iconst_ok (p := 6) (z := 0) (by decide) rfl rfl (Fx.asF_ok (p := 7) (i := .iastore) hT.1 Fx.iastore_on rfl (fun _ _ _ => rfl) rfl rfl rfl rfl (Fx.dupF_ok (p := 8)  rfl rfl (Fx.iconst_ok (p := 9) (z := 1) (by decide) rfl rfl (Fx.iconst_ok (p := 10) (z := 1) (by decide) rfl rfl (Fx.asF_ok (p := 11) (i := .iastore) hT.1 Fx.iastore_on rfl (fun _ _ _ => rfl) rfl rfl rfl rfl (Fx.dupF_ok (p := 12)  rfl rfl (Fx.iconst_ok (p := 13) (z := 2) (by decide) rfl rfl (Fx.iconst_ok (p := 14) (z := 2) (by decide) rfl rfl (Fx.asF_ok (p := 15) (i := .iastore) hT.1 Fx.iastore_on rfl (fun _ _ _ => rfl) rfl rfl rfl rfl (Fx.dupF_ok (p := 16)  rfl rfl (Fx.iconst_ok (p := 17) (z := 3) (by decide) rfl rfl (Fx.iconst_ok (p := 18) (z := 3) (by decide) rfl rfl (Fx.asF_ok (p := 19) (i := .iastore) hT.1 Fx.iastore_on rfl (fun _ _ _ => rfl) rfl rfl rfl rfl (Fx.stA_ok (p := 21) (j := 6) (Fx.g6_ok (by decide)) (Fx.s6_ok (by decide)) (Fx.s7_ok (by decide)) (Fx.s5_ok (by decide)) (by decide) rfl rfl (Fx.ldI_n_ok (p := 22) (j := 0) (Fx.g0_ok (by decide)) rfl rfl (Fx.ldc_int_ok (p := 24) (z := 2147483647) (by decide) rfl rfl (Fx.iand_ok (p := 25) hT.1 rfl rfl (Fx.iconst_ok (p := 26) (z := 4) (by decide) rfl rfl (Fx.irem_ok (p := 27) hT.1 rfl rfl (Fx.stI_ok (p := 29) (j := 7) (Fx.g7_ok (by decide)) (Fx.s7_ok (by decide)) (Fx.s8_ok (by decide)) (Fx.s6_ok (by decide)) (by decide) rfl rfl (Fx.ldA_ok (p := 31) (j := 6) (Fx.g6_ok (by decide)) rfl rfl (Fx.iconst_ok (p := 32) (z := 3) (by decide) rfl rfl (Fx.alF_ok (p := 33) (i := .iaload) hT.1 rfl (fun _ _ _ => rfl) rfl rfl rfl rfl (Fx.stI_ok (p := 35) (j := 8) (Fx.g8_ok (by decide)) (Fx.s8_ok (by decide)) (Fx.s9_ok (by decide)) (Fx.s7_ok (by decide)) (by decide) rfl rfl (Fx.ldA_ok (p := 37) (j := 6) (Fx.g6_ok (by decide)) rfl rfl (Fx.iconst_ok (p := 38) (z := 3) (by decide) rfl rfl (Fx.ldA_ok (p := 40) (j := 6) (Fx.g6_ok (by decide)) rfl rfl (Fx.ldI_ok (p := 42) (j := 7) (Fx.g7_ok (by decide)) rfl rfl (Fx.alF_ok (p := 43) (i := .iaload) hT.1 rfl (fun _ _ _ => rfl) rfl rfl rfl rfl (Fx.asF_ok (p := 44) (i := .iastore) hT.1 Fx.iastore_on rfl (fun _ _ _ => rfl) rfl rfl rfl rfl (Fx.ldA_ok (p := 46) (j := 6) (Fx.g6_ok (by decide)) rfl rfl (Fx.ldI_ok (p := 48) (j := 7) (Fx.g7_ok (by decide)) rfl rfl (Fx.ldI_ok (p := 50) (j := 8) (Fx.g8_ok (by decide)) rfl rfl (Fx.asF_ok (p := 51) (i := .iastore) hT.1 Fx.iastore_on rfl (fun _ _ _ => rfl) rfl rfl rfl rfl (Fx.ldI_n_ok (p := 52) (j := 1) (Fx.g1_ok (by decide)) rfl rfl (bok_0_52 hT hR hJ))))
   )))))))
   )
   ))))))
   )))
   )
   ))
   )))))
   ))))))))))
   )
theorem bm_0 {ρ : Fx.Rho} {T : Fx.Tab} {R : Fx.Cal} {J : Fx.Jmp} (hT : Fx.TOk ρ E_ T ∧ Fx.T01 T) (hR : Fx.SimR ρ E_ R) (hJ : ∀ pc, Fx.Sim ρ E_ 0 pc (J pc)) (pc : Nat) : Fx.Sim ρ E_ 0 pc (BM_0 T R J pc) := by
  unfold BM_0
  exact Fx.brec_sim (fun _ => Fx.stop_ok) (fun e => by have := Nat.eq_of_beq_eq_true e; subst this; exact bok_0_0 hT hR hJ)
set_option maxRecDepth 65536 in
theorem bok_1_326 {ρ : Fx.Rho} {T : Fx.Tab} {R : Fx.Cal} {J : Fx.Jmp} (hT : Fx.TOk ρ E_ T ∧ Fx.T01 T) (hR : Fx.SimR ρ E_ R) (hJ : ∀ pc, Fx.Sim ρ E_ 1 pc (J pc)) : Fx.Sim ρ E_ 1 326 (B_1_326 T R J) := by
  unfold B_1_326
  exact Fx.ldA_n_ok (p := 327) (j := 0) (Fx.g0_ok (by decide)) rfl rfl (Fx.ldI_ok (p := 329) (j := 6) (Fx.g6_ok (by decide)) rfl rfl (Fx.iconst_ok (p := 330) (z := 1) (by decide) rfl rfl (Fx.iadd_ok (p := 331) hT.1 rfl rfl (Fx.putF_ok (p := 334) Fx.fitI rfl rfl rfl (Fx.retN_ok rfl rfl)))
   ))
set_option maxRecDepth 65536 in
theorem bok_1_297 {ρ : Fx.Rho} {T : Fx.Tab} {R : Fx.Cal} {J : Fx.Jmp} (hT : Fx.TOk ρ E_ T ∧ Fx.T01 T) (hR : Fx.SimR ρ E_ R) (hJ : ∀ pc, Fx.Sim ρ E_ 1 pc (J pc)) : Fx.Sim ρ E_ 1 297 (B_1_297 T R J) := by
  unfold B_1_297
  exact Fx.ldI_ok (p := 299) (j := 9) (Fx.g9_ok (by decide)) rfl rfl (Fx.ldI_ok (p := 301) (j := 8) (Fx.g8_ok (by decide)) rfl rfl (Fx.icmp_ok (p := 304) (tg := 326) (cd := .ge) hT rfl (by decide) (by decide) Fx.cGe_ok rfl ⟨by decide, rfl⟩ rfl (bok_1_326 hT hR hJ) (Fx.ldA_ok (p := 306) (j := 7) (Fx.g7_ok (by decide)) rfl rfl (Fx.ldI_ok (p := 308) (j := 9) (Fx.g9_ok (by decide)) rfl rfl (Fx.alF_ok (p := 309) (i := .iaload) hT.1 rfl (fun _ _ _ => rfl) rfl rfl rfl rfl (Fx.stI_ok (p := 311) (j := 10) (Fx.g10_ok (by decide)) (Fx.s10_ok (by decide)) Fx.sBad_ok (Fx.s9_ok (by decide)) (by decide) rfl rfl (Fx.ldI_ok (p := 313) (j := 6) (Fx.g6_ok (by decide)) rfl rfl (Fx.ldI_ok (p := 315) (j := 10) (Fx.g10_ok (by decide)) rfl rfl (Fx.statF_ok (p := 318) (CS_5_ok R) hR rfl rfl rfl (Fx.stI_ok (p := 320) (j := 6) (Fx.g6_ok (by decide)) (Fx.s6_ok (by decide)) (Fx.s7_ok (by decide)) (Fx.s5_ok (by decide)) (by decide) rfl rfl (Fx.iinc_ok (p := 323) (j := 9) (z := 1) (Fx.g9_ok (by decide)) (Fx.s9_ok (by decide)) (by decide) (by decide) rfl rfl (Fx.goto_ok (tg := 297) rfl ⟨by decide, rfl⟩ (hJ 297)))))))))))))
set_option maxRecDepth 65536 in
theorem bok_1_234 {ρ : Fx.Rho} {T : Fx.Tab} {R : Fx.Cal} {J : Fx.Jmp} (hT : Fx.TOk ρ E_ T ∧ Fx.T01 T) (hR : Fx.SimR ρ E_ R) (hJ : ∀ pc, Fx.Sim ρ E_ 1 pc (J pc)) : Fx.Sim ρ E_ 1 234 (B_1_234 T R J) := by
  unfold B_1_234
  exact Fx.ldA_n_ok (p := 235) (j := 0) (Fx.g0_ok (by decide)) rfl rfl (Fx.ldI_n_ok (p := 236) (j := 1) (Fx.g1_ok (by decide)) rfl rfl (Fx.putF_ok (p := 239) Fx.fitI rfl rfl rfl (Fx.ldA_n_ok (p := 240) (j := 0) (Fx.g0_ok (by decide)) rfl rfl (Fx.ldA_n_ok (p := 241) (j := 2) (Fx.g2_ok (by decide)) rfl rfl (Fx.cloneF_ok (p := 244)  rfl rfl (Fx.castF_ok (p := 247) (fun k h => by have := Nat.eq_of_beq_eq_true h; subst this; rfl) rfl rfl (Fx.putF_ok (p := 250) Fx.fitA rfl rfl rfl (Fx.ldA_n_ok (p := 251) (j := 0) (Fx.g0_ok (by decide)) rfl rfl (Fx.ldA_n_ok (p := 252) (j := 3) (Fx.g3_ok (by decide)) rfl rfl (Fx.cloneF_ok (p := 255)  rfl rfl (Fx.castF_ok (p := 258) (fun k h => by have := Nat.eq_of_beq_eq_true h; subst this; rfl) rfl rfl (Fx.putF_ok (p := 261) Fx.fitA rfl rfl rfl (Fx.ldA_n_ok (p := 262) (j := 0) (Fx.g0_ok (by decide)) rfl rfl (Fx.ldI_ok (p := 264) (j := 5) (Fx.g5_ok (by decide)) rfl rfl (Fx.putF_ok (p := 267) Fx.fitI rfl rfl rfl (Fx.ldA_n_ok (p := 268) (j := 0) (Fx.g0_ok (by decide)) rfl rfl (Fx.ldA_n_ok (p := 269) (j := 0) (Fx.g0_ok (by decide)) rfl rfl (Fx.getF_ok (p := 272)  rfl rfl (Fx.ldI_ok (p := 274) (j := 5) (Fx.g5_ok (by decide)) rfl rfl (Fx.statF_ok (p := 277) (CS_3_ok R) hR rfl rfl rfl (Fx.putF_ok (p := 280) Fx.fitA rfl rfl rfl (Fx.iconst_ok (p := 281) (z := 0) (by decide) rfl rfl (Fx.stI_ok (p := 283) (j := 6) (Fx.g6_ok (by decide)) (Fx.s6_ok (by decide)) (Fx.s7_ok (by decide)) (Fx.s5_ok (by decide)) (by decide) rfl rfl (Fx.ldA_n_ok (p := 284) (j := 0) (Fx.g0_ok (by decide)) rfl rfl (Fx.getF_ok (p := 287)  rfl rfl (Fx.stA_ok (p := 289) (j := 7) (Fx.g7_ok (by decide)) (Fx.s7_ok (by decide)) (Fx.s8_ok (by decide)) (Fx.s6_ok (by decide)) (by decide) rfl rfl (Fx.ldA_ok (p := 291) (j := 7) (Fx.g7_ok (by decide)) rfl rfl (Fx.alenF_ok (p := 292)  rfl rfl (Fx.stI_ok (p := 294) (j := 8) (Fx.g8_ok (by decide)) (Fx.s8_ok (by decide)) (Fx.s9_ok (by decide)) (Fx.s7_ok (by decide)) (by decide) rfl rfl (Fx.iconst_ok (p := 295) (z := 0) (by decide) rfl rfl (Fx.stI_ok (p := 297) (j := 9) (Fx.g9_ok (by decide)) (Fx.s9_ok (by decide)) (Fx.s10_ok (by decide)) (Fx.s8_ok (by decide)) (by decide) rfl rfl (bok_1_297 hT hR hJ))))))))))))))
   ))))))
   )))))))))
   )))
set_option maxRecDepth 65536 in
theorem bok_1_206 {ρ : Fx.Rho} {T : Fx.Tab} {R : Fx.Cal} {J : Fx.Jmp} (hT : Fx.TOk ρ E_ T ∧ Fx.T01 T) (hR : Fx.SimR ρ E_ R) (hJ : ∀ pc, Fx.Sim ρ E_ 1 pc (J pc)) : Fx.Sim ρ E_ 1 206 (B_1_206 T R J) := by
  unfold B_1_206
  exact Fx.ldA_n_ok (p := 207) (j := 3) (Fx.g3_ok (by decide)) rfl rfl (Fx.ldI_ok (p := 209) (j := 5) (Fx.g5_ok (by decide)) rfl rfl (Fx.alF_ok (p := 210) (i := .daload) hT.1 rfl (fun _ _ _ => rfl) rfl rfl rfl rfl (Fx.dconst0_ok (p := 211)  rfl rfl (Fx.bT_ok (p := 212) (i := .dcmp .l) hT.1 rfl (by decide) (fun _ _ => rfl) rfl rfl rfl rfl (Fx.if_ok (p := 215) (tg := 234) (cd := .eq) hT rfl (by decide) (by decide) Fx.zEq_ok rfl ⟨by decide, rfl⟩ rfl (bok_1_234 hT hR hJ) (Fx.stop_ok))))))
set_option maxRecDepth 65536 in
theorem bok_1_191 {ρ : Fx.Rho} {T : Fx.Tab} {R : Fx.Cal} {J : Fx.Jmp} (hT : Fx.TOk ρ E_ T ∧ Fx.T01 T) (hR : Fx.SimR ρ E_ R) (hJ : ∀ pc, Fx.Sim ρ E_ 1 pc (J pc)) : Fx.Sim ρ E_ 1 191 (B_1_191 T R J) := by
  unfold B_1_191
  exact Fx.ldI_ok (p := 193) (j := 5) (Fx.g5_ok (by decide)) rfl rfl (Fx.if_ok (p := 196) (tg := 206) (cd := .ge) hT rfl (by decide) (by decide) Fx.zGe_ok rfl ⟨by decide, rfl⟩ rfl (bok_1_206 hT hR hJ) (Fx.stop_ok))
set_option maxRecDepth 65536 in
theorem bok_1_185 {ρ : Fx.Rho} {T : Fx.Tab} {R : Fx.Cal} {J : Fx.Jmp} (hT : Fx.TOk ρ E_ T ∧ Fx.T01 T) (hR : Fx.SimR ρ E_ R) (hJ : ∀ pc, Fx.Sim ρ E_ 1 pc (J pc)) : Fx.Sim ρ E_ 1 185 (B_1_185 T R J) := by
  unfold B_1_185
  exact Fx.iinc_ok (p := 188) (j := 6) (z := 1) (Fx.g6_ok (by decide)) (Fx.s6_ok (by decide)) (by decide) (by decide) rfl rfl (Fx.goto_ok (tg := 64) rfl ⟨by decide, rfl⟩ (hJ 64))
set_option maxRecDepth 65536 in
theorem bok_1_166 {ρ : Fx.Rho} {T : Fx.Tab} {R : Fx.Cal} {J : Fx.Jmp} (hT : Fx.TOk ρ E_ T ∧ Fx.T01 T) (hR : Fx.SimR ρ E_ R) (hJ : ∀ pc, Fx.Sim ρ E_ 1 pc (J pc)) : Fx.Sim ρ E_ 1 166 (B_1_166 T R J) := by
  unfold B_1_166
  exact Fx.stop_ok
set_option maxRecDepth 65536 in
theorem bok_1_147 {ρ : Fx.Rho} {T : Fx.Tab} {R : Fx.Cal} {J : Fx.Jmp} (hT : Fx.TOk ρ E_ T ∧ Fx.T01 T) (hR : Fx.SimR ρ E_ R) (hJ : ∀ pc, Fx.Sim ρ E_ 1 pc (J pc)) : Fx.Sim ρ E_ 1 147 (B_1_147 T R J) := by
  unfold B_1_147
  exact Fx.ldA_n_ok (p := 148) (j := 3) (Fx.g3_ok (by decide)) rfl rfl (Fx.ldI_ok (p := 150) (j := 6) (Fx.g6_ok (by decide)) rfl rfl (Fx.alF_ok (p := 151) (i := .daload) hT.1 rfl (fun _ _ _ => rfl) rfl rfl rfl rfl (Fx.statF_ok (p := 154) (CS_2_ok R) hR rfl rfl rfl (Fx.if_ok (p := 157) (tg := 166) (cd := .eq) hT rfl (by decide) (by decide) Fx.zEq_ok rfl ⟨by decide, rfl⟩ rfl (bok_1_166 hT hR hJ) (Fx.ldA_n_ok (p := 158) (j := 3) (Fx.g3_ok (by decide)) rfl rfl (Fx.ldI_ok (p := 160) (j := 6) (Fx.g6_ok (by decide)) rfl rfl (Fx.alF_ok (p := 161) (i := .daload) hT.1 rfl (fun _ _ _ => rfl) rfl rfl rfl rfl (Fx.dconst0_ok (p := 162)  rfl rfl (Fx.bT_ok (p := 163) (i := .dcmp .g) hT.1 rfl (by decide) (fun _ _ => rfl) rfl rfl rfl rfl (Fx.if_ok (p := 166) (tg := 185) (cd := .ge) hT rfl (by decide) (by decide) Fx.zGe_ok rfl ⟨by decide, rfl⟩ rfl (bok_1_185 hT hR hJ) (bok_1_166 hT hR hJ)))))))))
   ))
set_option maxRecDepth 65536 in
theorem bok_1_124 {ρ : Fx.Rho} {T : Fx.Tab} {R : Fx.Cal} {J : Fx.Jmp} (hT : Fx.TOk ρ E_ T ∧ Fx.T01 T) (hR : Fx.SimR ρ E_ R) (hJ : ∀ pc, Fx.Sim ρ E_ 1 pc (J pc)) : Fx.Sim ρ E_ 1 124 (B_1_124 T R J) := by
  unfold B_1_124
  exact Fx.stop_ok
set_option maxRecDepth 65536 in
theorem bok_1_108 {ρ : Fx.Rho} {T : Fx.Tab} {R : Fx.Cal} {J : Fx.Jmp} (hT : Fx.TOk ρ E_ T ∧ Fx.T01 T) (hR : Fx.SimR ρ E_ R) (hJ : ∀ pc, Fx.Sim ρ E_ 1 pc (J pc)) : Fx.Sim ρ E_ 1 108 (B_1_108 T R J) := by
  unfold B_1_108
  exact Fx.ldA_n_ok (p := 109) (j := 2) (Fx.g2_ok (by decide)) rfl rfl (Fx.ldI_ok (p := 111) (j := 6) (Fx.g6_ok (by decide)) rfl rfl (Fx.alF_ok (p := 112) (i := .iaload) hT.1 rfl (fun _ _ _ => rfl) rfl rfl rfl rfl (Fx.if_ok (p := 115) (tg := 124) (cd := .lt) hT rfl (by decide) (by decide) Fx.zLt_ok rfl ⟨by decide, rfl⟩ rfl (bok_1_124 hT hR hJ) (Fx.ldA_n_ok (p := 116) (j := 2) (Fx.g2_ok (by decide)) rfl rfl (Fx.ldI_ok (p := 118) (j := 6) (Fx.g6_ok (by decide)) rfl rfl (Fx.alF_ok (p := 119) (i := .iaload) hT.1 rfl (fun _ _ _ => rfl) rfl rfl rfl rfl (Fx.ldI_ok (p := 121) (j := 4) (Fx.g4_ok (by decide)) rfl rfl (Fx.icmp_ok (p := 124) (tg := 147) (cd := .lt) hT rfl (by decide) (by decide) Fx.cLt_ok rfl ⟨by decide, rfl⟩ rfl (bok_1_147 hT hR hJ) (bok_1_124 hT hR hJ)))))))))
set_option maxRecDepth 65536 in
theorem bok_1_101 {ρ : Fx.Rho} {T : Fx.Tab} {R : Fx.Cal} {J : Fx.Jmp} (hT : Fx.TOk ρ E_ T ∧ Fx.T01 T) (hR : Fx.SimR ρ E_ R) (hJ : ∀ pc, Fx.Sim ρ E_ 1 pc (J pc)) : Fx.Sim ρ E_ 1 101 (B_1_101 T R J) := by
  unfold B_1_101
  exact Fx.ldI_ok (p := 103) (j := 6) (Fx.g6_ok (by decide)) rfl rfl (Fx.stI_ok (p := 105) (j := 5) (Fx.g5_ok (by decide)) (Fx.s5_ok (by decide)) (Fx.s6_ok (by decide)) (Fx.s4_ok (by decide)) (by decide) rfl rfl (Fx.goto_ok (tg := 147) rfl ⟨by decide, rfl⟩ (bok_1_147 hT hR hJ)))
set_option maxRecDepth 65536 in
theorem bok_1_64 {ρ : Fx.Rho} {T : Fx.Tab} {R : Fx.Cal} {J : Fx.Jmp} (hT : Fx.TOk ρ E_ T ∧ Fx.T01 T) (hR : Fx.SimR ρ E_ R) (hJ : ∀ pc, Fx.Sim ρ E_ 1 pc (J pc)) : Fx.Sim ρ E_ 1 64 (B_1_64 T R J) := by
  unfold B_1_64
  exact Fx.ldI_ok (p := 66) (j := 6) (Fx.g6_ok (by decide)) rfl rfl (Fx.ldI_ok (p := 68) (j := 4) (Fx.g4_ok (by decide)) rfl rfl (Fx.icmp_ok (p := 71) (tg := 191) (cd := .ge) hT rfl (by decide) (by decide) Fx.cGe_ok rfl ⟨by decide, rfl⟩ rfl (bok_1_191 hT hR hJ) (Fx.ldA_n_ok (p := 72) (j := 2) (Fx.g2_ok (by decide)) rfl rfl (Fx.ldI_ok (p := 74) (j := 6) (Fx.g6_ok (by decide)) rfl rfl (Fx.alF_ok (p := 75) (i := .iaload) hT.1 rfl (fun _ _ _ => rfl) rfl rfl rfl rfl (Fx.iconst_ok (p := 76) (z := (-1)) (by decide) rfl rfl (Fx.icmp_ok (p := 79) (tg := 108) (cd := .ne) hT rfl (by decide) (by decide) Fx.cNe_ok rfl ⟨by decide, rfl⟩ rfl (bok_1_108 hT hR hJ) (Fx.ldI_ok (p := 81) (j := 5) (Fx.g5_ok (by decide)) rfl rfl (Fx.if_ok (p := 84) (tg := 101) (cd := .lt) hT rfl (by decide) (by decide) Fx.zLt_ok rfl ⟨by decide, rfl⟩ rfl (bok_1_101 hT hR hJ) (Fx.stop_ok)))))
   )))))
set_option maxRecDepth 65536 in
theorem bok_1_58 {ρ : Fx.Rho} {T : Fx.Tab} {R : Fx.Cal} {J : Fx.Jmp} (hT : Fx.TOk ρ E_ T ∧ Fx.T01 T) (hR : Fx.SimR ρ E_ R) (hJ : ∀ pc, Fx.Sim ρ E_ 1 pc (J pc)) : Fx.Sim ρ E_ 1 58 (B_1_58 T R J) := by
  unfold B_1_58
  exact Fx.iconst_ok (p := 59) (z := (-1)) (by decide) rfl rfl (Fx.stI_ok (p := 61) (j := 5) (Fx.g5_ok (by decide)) (Fx.s5_ok (by decide)) (Fx.s6_ok (by decide)) (Fx.s4_ok (by decide)) (by decide) rfl rfl (Fx.iconst_ok (p := 62) (z := 0) (by decide) rfl rfl (Fx.stI_ok (p := 64) (j := 6) (Fx.g6_ok (by decide)) (Fx.s6_ok (by decide)) (Fx.s7_ok (by decide)) (Fx.s5_ok (by decide)) (by decide) rfl rfl (bok_1_64 hT hR hJ)))
   )
set_option maxRecDepth 65536 in
theorem bok_1_42 {ρ : Fx.Rho} {T : Fx.Tab} {R : Fx.Cal} {J : Fx.Jmp} (hT : Fx.TOk ρ E_ T ∧ Fx.T01 T) (hR : Fx.SimR ρ E_ R) (hJ : ∀ pc, Fx.Sim ρ E_ 1 pc (J pc)) : Fx.Sim ρ E_ 1 42 (B_1_42 T R J) := by
  unfold B_1_42
  exact Fx.stop_ok
set_option maxRecDepth 65536 in
theorem bok_1_32 {ρ : Fx.Rho} {T : Fx.Tab} {R : Fx.Cal} {J : Fx.Jmp} (hT : Fx.TOk ρ E_ T ∧ Fx.T01 T) (hR : Fx.SimR ρ E_ R) (hJ : ∀ pc, Fx.Sim ρ E_ 1 pc (J pc)) : Fx.Sim ρ E_ 1 32 (B_1_32 T R J) := by
  unfold B_1_32
  exact Fx.ldI_n_ok (p := 33) (j := 1) (Fx.g1_ok (by decide)) rfl rfl (Fx.if_ok (p := 36) (tg := 42) (cd := .lt) hT rfl (by decide) (by decide) Fx.zLt_ok rfl ⟨by decide, rfl⟩ rfl (bok_1_42 hT hR hJ) (Fx.ldI_n_ok (p := 37) (j := 1) (Fx.g1_ok (by decide)) rfl rfl (Fx.ldI_ok (p := 39) (j := 4) (Fx.g4_ok (by decide)) rfl rfl (Fx.icmp_ok (p := 42) (tg := 58) (cd := .le) hT rfl (by decide) (by decide) Fx.cLe_ok rfl ⟨by decide, rfl⟩ rfl (bok_1_58 hT hR hJ) (bok_1_42 hT hR hJ)))))
set_option maxRecDepth 65536 in
theorem bok_1_0 {ρ : Fx.Rho} {T : Fx.Tab} {R : Fx.Cal} {J : Fx.Jmp} (hT : Fx.TOk ρ E_ T ∧ Fx.T01 T) (hR : Fx.SimR ρ E_ R) (hJ : ∀ pc, Fx.Sim ρ E_ 1 pc (J pc)) : Fx.Sim ρ E_ 1 0 (B_1_0 T R J) := by
  unfold B_1_0
  exact Fx.ldA_n_ok (p := 1) (j := 0) (Fx.g0_ok (by decide)) rfl rfl (Fx.oinitF_ok (p := 4)  rfl rfl (Fx.ldA_n_ok (p := 5) (j := 2) (Fx.g2_ok (by decide)) rfl rfl (Fx.alenF_ok (p := 6)  rfl rfl (Fx.stI_ok (p := 8) (j := 4) (Fx.g4_ok (by decide)) (Fx.s4_ok (by decide)) (Fx.s5_ok (by decide)) (Fx.s3_ok (by decide)) (by decide) rfl rfl (Fx.ldA_n_ok (p := 9) (j := 3) (Fx.g3_ok (by decide)) rfl rfl (Fx.alenF_ok (p := 10)  rfl rfl (Fx.ldI_ok (p := 12) (j := 4) (Fx.g4_ok (by decide)) rfl rfl (Fx.icmp_ok (p := 15) (tg := 32) (cd := .eq) hT rfl (by decide) (by decide) Fx.cEq_ok rfl ⟨by decide, rfl⟩ rfl (bok_1_32 hT hR hJ) (Fx.stop_ok)))))))))
theorem bm_1 {ρ : Fx.Rho} {T : Fx.Tab} {R : Fx.Cal} {J : Fx.Jmp} (hT : Fx.TOk ρ E_ T ∧ Fx.T01 T) (hR : Fx.SimR ρ E_ R) (hJ : ∀ pc, Fx.Sim ρ E_ 1 pc (J pc)) (pc : Nat) : Fx.Sim ρ E_ 1 pc (BM_1 T R J pc) := by
  unfold BM_1
  exact Fx.brec_sim (fun _ => Fx.brec_sim (fun _ => Fx.brec_sim (fun _ => Fx.stop_ok) (fun e => by have := Nat.eq_of_beq_eq_true e; subst this; exact bok_1_297 hT hR hJ)) (fun _ => Fx.brec_sim (fun _ => Fx.stop_ok) (fun e => by have := Nat.eq_of_beq_eq_true e; subst this; exact bok_1_64 hT hR hJ))) (fun _ => Fx.brec_sim (fun _ => Fx.stop_ok) (fun e => by have := Nat.eq_of_beq_eq_true e; subst this; exact bok_1_0 hT hR hJ))
set_option maxRecDepth 65536 in
theorem bok_2_16 {ρ : Fx.Rho} {T : Fx.Tab} {R : Fx.Cal} {J : Fx.Jmp} (hT : Fx.TOk ρ E_ T ∧ Fx.T01 T) (hR : Fx.SimR ρ E_ R) (hJ : ∀ pc, Fx.Sim ρ E_ 2 pc (J pc)) : Fx.Sim ρ E_ 2 16 (B_2_16 T R J) := by
  unfold B_2_16
  exact Fx.retZ_ok rfl rfl
set_option maxRecDepth 65536 in
theorem bok_2_15 {ρ : Fx.Rho} {T : Fx.Tab} {R : Fx.Cal} {J : Fx.Jmp} (hT : Fx.TOk ρ E_ T ∧ Fx.T01 T) (hR : Fx.SimR ρ E_ R) (hJ : ∀ pc, Fx.Sim ρ E_ 2 pc (J pc)) : Fx.Sim ρ E_ 2 15 (B_2_15 T R J) := by
  unfold B_2_15
  exact Fx.iconst_ok (p := 16) (z := 0) (by decide) rfl rfl (bok_2_16 hT hR hJ)
set_option maxRecDepth 65536 in
theorem bok_2_0 {ρ : Fx.Rho} {T : Fx.Tab} {R : Fx.Cal} {J : Fx.Jmp} (hT : Fx.TOk ρ E_ T ∧ Fx.T01 T) (hR : Fx.SimR ρ E_ R) (hJ : ∀ pc, Fx.Sim ρ E_ 2 pc (J pc)) : Fx.Sim ρ E_ 2 0 (B_2_0 T R J) := by
  unfold B_2_0
  exact Fx.ldD_n_ok (p := 1) (j := 0) (Fx.g0_ok (by decide)) rfl rfl (Fx.ext1F_ok (p := 4) (x := 0) hT.1 rfl rfl rfl rfl (Fx.ldc2_w_double_ok (p := 7) (z := 9218868437227405311) (by decide) rfl rfl (Fx.bT_ok (p := 8) (i := .dcmp .g) hT.1 rfl (by decide) (fun _ _ => rfl) rfl rfl rfl rfl (Fx.if_ok (p := 11) (tg := 15) (cd := .gt) hT rfl (by decide) (by decide) Fx.zGt_ok rfl ⟨by decide, rfl⟩ rfl (bok_2_15 hT hR hJ) (Fx.iconst_ok (p := 12) (z := 1) (by decide) rfl rfl (Fx.goto_ok (tg := 16) rfl ⟨by decide, rfl⟩ (bok_2_16 hT hR hJ))))
   )))
theorem bm_2 {ρ : Fx.Rho} {T : Fx.Tab} {R : Fx.Cal} {J : Fx.Jmp} (hT : Fx.TOk ρ E_ T ∧ Fx.T01 T) (hR : Fx.SimR ρ E_ R) (hJ : ∀ pc, Fx.Sim ρ E_ 2 pc (J pc)) (pc : Nat) : Fx.Sim ρ E_ 2 pc (BM_2 T R J pc) := by
  unfold BM_2
  exact Fx.brec_sim (fun _ => Fx.stop_ok) (fun e => by have := Nat.eq_of_beq_eq_true e; subst this; exact bok_2_0 hT hR hJ)
set_option maxRecDepth 65536 in
theorem bok_3_126 {ρ : Fx.Rho} {T : Fx.Tab} {R : Fx.Cal} {J : Fx.Jmp} (hT : Fx.TOk ρ E_ T ∧ Fx.T01 T) (hR : Fx.SimR ρ E_ R) (hJ : ∀ pc, Fx.Sim ρ E_ 3 pc (J pc)) : Fx.Sim ρ E_ 3 126 (B_3_126 T R J) := by
  unfold B_3_126
  exact Fx.ldA_n_ok (p := 127) (j := 2) (Fx.g2_ok (by decide)) rfl rfl (Fx.retA_ok rfl (Or.inr ⟨_, rfl⟩) rfl)
set_option maxRecDepth 65536 in
theorem bok_3_120 {ρ : Fx.Rho} {T : Fx.Tab} {R : Fx.Cal} {J : Fx.Jmp} (hT : Fx.TOk ρ E_ T ∧ Fx.T01 T) (hR : Fx.SimR ρ E_ R) (hJ : ∀ pc, Fx.Sim ρ E_ 3 pc (J pc)) : Fx.Sim ρ E_ 3 120 (B_3_120 T R J) := by
  unfold B_3_120
  exact Fx.iinc_ok (p := 123) (j := 4) (z := 1) (Fx.g4_ok (by decide)) (Fx.s4_ok (by decide)) (by decide) (by decide) rfl rfl (Fx.goto_ok (tg := 22) rfl ⟨by decide, rfl⟩ (hJ 22))
set_option maxRecDepth 65536 in
theorem bok_3_98 {ρ : Fx.Rho} {T : Fx.Tab} {R : Fx.Cal} {J : Fx.Jmp} (hT : Fx.TOk ρ E_ T ∧ Fx.T01 T) (hR : Fx.SimR ρ E_ R) (hJ : ∀ pc, Fx.Sim ρ E_ 3 pc (J pc)) : Fx.Sim ρ E_ 3 98 (B_3_98 T R J) := by
  unfold B_3_98
  exact Fx.ldI_ok (p := 100) (j := 5) (Fx.g5_ok (by decide)) rfl rfl (Fx.if_ok (p := 103) (tg := 120) (cd := .le) hT rfl (by decide) (by decide) Fx.zLe_ok rfl ⟨by decide, rfl⟩ rfl (bok_3_120 hT hR hJ) (Fx.ldA_n_ok (p := 104) (j := 2) (Fx.g2_ok (by decide)) rfl rfl (Fx.ldA_n_ok (p := 105) (j := 3) (Fx.g3_ok (by decide)) rfl rfl (Fx.iinc_ok (p := 108) (j := 5) (z := (-1)) (Fx.g5_ok (by decide)) (Fx.s5_ok (by decide)) (by decide) (by decide) rfl rfl (Fx.ldI_ok (p := 110) (j := 5) (Fx.g5_ok (by decide)) rfl rfl (Fx.alF_ok (p := 111) (i := .iaload) hT.1 rfl (fun _ _ _ => rfl) rfl rfl rfl rfl (Fx.iinc_ok (p := 114) (j := 7) (z := 1) (Fx.g7_ok (by decide)) (Fx.s7_ok (by decide)) (by decide) (by decide) rfl rfl (Fx.ldI_ok (p := 116) (j := 7) (Fx.g7_ok (by decide)) rfl rfl (Fx.asF_ok (p := 117) (i := .iastore) hT.1 Fx.iastore_on rfl (fun _ _ _ => rfl) rfl rfl rfl rfl (Fx.goto_ok (tg := 98) rfl ⟨by decide, rfl⟩ (hJ 98))
   )))))
   ))))
set_option maxRecDepth 65536 in
theorem bok_3_92 {ρ : Fx.Rho} {T : Fx.Tab} {R : Fx.Cal} {J : Fx.Jmp} (hT : Fx.TOk ρ E_ T ∧ Fx.T01 T) (hR : Fx.SimR ρ E_ R) (hJ : ∀ pc, Fx.Sim ρ E_ 3 pc (J pc)) : Fx.Sim ρ E_ 3 92 (B_3_92 T R J) := by
  unfold B_3_92
  exact Fx.ldA_n_ok (p := 93) (j := 2) (Fx.g2_ok (by decide)) rfl rfl (Fx.ldI_ok (p := 95) (j := 6) (Fx.g6_ok (by decide)) rfl rfl (Fx.alF_ok (p := 96) (i := .iaload) hT.1 rfl (fun _ _ _ => rfl) rfl rfl rfl rfl (Fx.stI_ok (p := 98) (j := 7) (Fx.g7_ok (by decide)) (Fx.s7_ok (by decide)) Fx.sBad_ok (Fx.s6_ok (by decide)) (by decide) rfl rfl (bok_3_98 hT hR hJ))))
set_option maxRecDepth 65536 in
theorem bok_3_68 {ρ : Fx.Rho} {T : Fx.Tab} {R : Fx.Cal} {J : Fx.Jmp} (hT : Fx.TOk ρ E_ T ∧ Fx.T01 T) (hR : Fx.SimR ρ E_ R) (hJ : ∀ pc, Fx.Sim ρ E_ 3 pc (J pc)) : Fx.Sim ρ E_ 3 68 (B_3_68 T R J) := by
  unfold B_3_68
  exact Fx.ldA_n_ok (p := 69) (j := 2) (Fx.g2_ok (by decide)) rfl rfl (Fx.ldI_ok (p := 71) (j := 6) (Fx.g6_ok (by decide)) rfl rfl (Fx.alF_ok (p := 72) (i := .iaload) hT.1 rfl (fun _ _ _ => rfl) rfl rfl rfl rfl (Fx.bipush_ok (p := 74) (z := (-2)) (by decide) rfl rfl (Fx.icmp_ok (p := 77) (tg := 92) (cd := .ne) hT rfl (by decide) (by decide) Fx.cNe_ok rfl ⟨by decide, rfl⟩ rfl (bok_3_92 hT hR hJ) (Fx.stop_ok)))
   ))
set_option maxRecDepth 65536 in
theorem bok_3_36 {ρ : Fx.Rho} {T : Fx.Tab} {R : Fx.Cal} {J : Fx.Jmp} (hT : Fx.TOk ρ E_ T ∧ Fx.T01 T) (hR : Fx.SimR ρ E_ R) (hJ : ∀ pc, Fx.Sim ρ E_ 3 pc (J pc)) : Fx.Sim ρ E_ 3 36 (B_3_36 T R J) := by
  unfold B_3_36
  exact Fx.ldA_n_ok (p := 37) (j := 2) (Fx.g2_ok (by decide)) rfl rfl (Fx.ldI_ok (p := 39) (j := 6) (Fx.g6_ok (by decide)) rfl rfl (Fx.alF_ok (p := 40) (i := .iaload) hT.1 rfl (fun _ _ _ => rfl) rfl rfl rfl rfl (Fx.iconst_ok (p := 41) (z := (-1)) (by decide) rfl rfl (Fx.icmp_ok (p := 44) (tg := 68) (cd := .ne) hT rfl (by decide) (by decide) Fx.cNe_ok rfl ⟨by decide, rfl⟩ rfl (bok_3_68 hT hR hJ) (Fx.ldA_n_ok (p := 45) (j := 2) (Fx.g2_ok (by decide)) rfl rfl (Fx.ldI_ok (p := 47) (j := 6) (Fx.g6_ok (by decide)) rfl rfl (Fx.bipush_ok (p := 49) (z := (-2)) (by decide) rfl rfl (Fx.asF_ok (p := 50) (i := .iastore) hT.1 Fx.iastore_on rfl (fun _ _ _ => rfl) rfl rfl rfl rfl (Fx.ldA_n_ok (p := 51) (j := 3) (Fx.g3_ok (by decide)) rfl rfl (Fx.ldI_ok (p := 53) (j := 5) (Fx.g5_ok (by decide)) rfl rfl (Fx.iinc_ok (p := 56) (j := 5) (z := 1) (Fx.g5_ok (by decide)) (Fx.s5_ok (by decide)) (by decide) (by decide) rfl rfl (Fx.ldI_ok (p := 58) (j := 6) (Fx.g6_ok (by decide)) rfl rfl (Fx.asF_ok (p := 59) (i := .iastore) hT.1 Fx.iastore_on rfl (fun _ _ _ => rfl) rfl rfl rfl rfl (Fx.ldA_n_ok (p := 60) (j := 0) (Fx.g0_ok (by decide)) rfl rfl (Fx.ldI_ok (p := 62) (j := 6) (Fx.g6_ok (by decide)) rfl rfl (Fx.alF_ok (p := 63) (i := .iaload) hT.1 rfl (fun _ _ _ => rfl) rfl rfl rfl rfl (Fx.stI_ok (p := 65) (j := 6) (Fx.g6_ok (by decide)) (Fx.s6_ok (by decide)) (Fx.s7_ok (by decide)) (Fx.s5_ok (by decide)) (by decide) rfl rfl (Fx.goto_ok (tg := 36) rfl ⟨by decide, rfl⟩ (hJ 36))))
   )))))))
   ))))))))
set_option maxRecDepth 65536 in
theorem bok_3_22 {ρ : Fx.Rho} {T : Fx.Tab} {R : Fx.Cal} {J : Fx.Jmp} (hT : Fx.TOk ρ E_ T ∧ Fx.T01 T) (hR : Fx.SimR ρ E_ R) (hJ : ∀ pc, Fx.Sim ρ E_ 3 pc (J pc)) : Fx.Sim ρ E_ 3 22 (B_3_22 T R J) := by
  unfold B_3_22
  exact Fx.ldI_ok (p := 24) (j := 4) (Fx.g4_ok (by decide)) rfl rfl (Fx.ldA_n_ok (p := 25) (j := 0) (Fx.g0_ok (by decide)) rfl rfl (Fx.alenF_ok (p := 26)  rfl rfl (Fx.icmp_ok (p := 29) (tg := 126) (cd := .ge) hT rfl (by decide) (by decide) Fx.cGe_ok rfl ⟨by decide, rfl⟩ rfl (bok_3_126 hT hR hJ) (Fx.iconst_ok (p := 30) (z := 0) (by decide) rfl rfl (Fx.stI_ok (p := 32) (j := 5) (Fx.g5_ok (by decide)) (Fx.s5_ok (by decide)) (Fx.s6_ok (by decide)) (Fx.s4_ok (by decide)) (by decide) rfl rfl (Fx.ldI_ok (p := 34) (j := 4) (Fx.g4_ok (by decide)) rfl rfl (Fx.stI_ok (p := 36) (j := 6) (Fx.g6_ok (by decide)) (Fx.s6_ok (by decide)) (Fx.s7_ok (by decide)) (Fx.s5_ok (by decide)) (by decide) rfl rfl (bok_3_36 hT hR hJ)))))
   )))
set_option maxRecDepth 65536 in
theorem bok_3_0 {ρ : Fx.Rho} {T : Fx.Tab} {R : Fx.Cal} {J : Fx.Jmp} (hT : Fx.TOk ρ E_ T ∧ Fx.T01 T) (hR : Fx.SimR ρ E_ R) (hJ : ∀ pc, Fx.Sim ρ E_ 3 pc (J pc)) : Fx.Sim ρ E_ 3 0 (B_3_0 T R J) := by
  unfold B_3_0
  exact Fx.ldA_n_ok (p := 1) (j := 0) (Fx.g0_ok (by decide)) rfl rfl (Fx.alenF_ok (p := 2)  rfl rfl (Fx.newaF_ok (p := 4) hT.1 rfl rfl rfl rfl (Fx.stA_n_ok (p := 5) (j := 2) (Fx.g2_ok (by decide)) (Fx.s2_ok (by decide)) (Fx.s3_ok (by decide)) (Fx.s1_ok (by decide)) (by decide) rfl rfl (Fx.ldA_n_ok (p := 6) (j := 2) (Fx.g2_ok (by decide)) rfl rfl (Fx.iconst_ok (p := 7) (z := (-1)) (by decide) rfl rfl (Fx.statF_ok (p := 10) (CS_4_ok R) hR rfl rfl rfl (Fx.ldA_n_ok (p := 11) (j := 2) (Fx.g2_ok (by decide)) rfl rfl (Fx.ldI_n_ok (p := 12) (j := 1) (Fx.g1_ok (by decide)) rfl rfl (Fx.iconst_ok (p := 13) (z := 0) (by decide) rfl rfl (Fx.asF_ok (p := 14) (i := .iastore) hT.1 Fx.iastore_on rfl (fun _ _ _ => rfl) rfl rfl rfl rfl (Fx.ldA_n_ok (p := 15) (j := 0) (Fx.g0_ok (by decide)) rfl rfl (Fx.alenF_ok (p := 16)  rfl rfl (Fx.newaF_ok (p := 18) hT.1 rfl rfl rfl rfl (Fx.stA_n_ok (p := 19) (j := 3) (Fx.g3_ok (by decide)) (Fx.s3_ok (by decide)) (Fx.s4_ok (by decide)) (Fx.s2_ok (by decide)) (by decide) rfl rfl (Fx.iconst_ok (p := 20) (z := 0) (by decide) rfl rfl (Fx.stI_ok (p := 22) (j := 4) (Fx.g4_ok (by decide)) (Fx.s4_ok (by decide)) (Fx.s5_ok (by decide)) (Fx.s3_ok (by decide)) (by decide) rfl rfl (bok_3_22 hT hR hJ))))))))
   )))))))
   ))
theorem bm_3 {ρ : Fx.Rho} {T : Fx.Tab} {R : Fx.Cal} {J : Fx.Jmp} (hT : Fx.TOk ρ E_ T ∧ Fx.T01 T) (hR : Fx.SimR ρ E_ R) (hJ : ∀ pc, Fx.Sim ρ E_ 3 pc (J pc)) (pc : Nat) : Fx.Sim ρ E_ 3 pc (BM_3 T R J pc) := by
  unfold BM_3
  exact Fx.brec_sim (fun _ => Fx.brec_sim (fun _ => Fx.brec_sim (fun _ => Fx.stop_ok) (fun e => by have := Nat.eq_of_beq_eq_true e; subst this; exact bok_3_98 hT hR hJ)) (fun _ => Fx.brec_sim (fun _ => Fx.stop_ok) (fun e => by have := Nat.eq_of_beq_eq_true e; subst this; exact bok_3_36 hT hR hJ))) (fun _ => Fx.brec_sim (fun _ => Fx.brec_sim (fun _ => Fx.stop_ok) (fun e => by have := Nat.eq_of_beq_eq_true e; subst this; exact bok_3_22 hT hR hJ)) (fun _ => Fx.brec_sim (fun _ => Fx.stop_ok) (fun e => by have := Nat.eq_of_beq_eq_true e; subst this; exact bok_3_0 hT hR hJ)))
set_option maxRecDepth 65536 in
theorem bok_4_20 {ρ : Fx.Rho} {T : Fx.Tab} {R : Fx.Cal} {J : Fx.Jmp} (hT : Fx.TOk ρ E_ T ∧ Fx.T01 T) (hR : Fx.SimR ρ E_ R) (hJ : ∀ pc, Fx.Sim ρ E_ 4 pc (J pc)) : Fx.Sim ρ E_ 4 20 (B_4_20 T R J) := by
  unfold B_4_20
  exact Fx.retN_ok rfl rfl
set_option maxRecDepth 65536 in
theorem bok_4_5 {ρ : Fx.Rho} {T : Fx.Tab} {R : Fx.Cal} {J : Fx.Jmp} (hT : Fx.TOk ρ E_ T ∧ Fx.T01 T) (hR : Fx.SimR ρ E_ R) (hJ : ∀ pc, Fx.Sim ρ E_ 4 pc (J pc)) : Fx.Sim ρ E_ 4 5 (B_4_5 T R J) := by
  unfold B_4_5
  exact Fx.ldI_n_ok (p := 6) (j := 2) (Fx.g2_ok (by decide)) rfl rfl (Fx.ldI_n_ok (p := 7) (j := 3) (Fx.g3_ok (by decide)) rfl rfl (Fx.icmp_ok (p := 10) (tg := 20) (cd := .ge) hT rfl (by decide) (by decide) Fx.cGe_ok rfl ⟨by decide, rfl⟩ rfl (bok_4_20 hT hR hJ) (Fx.ldA_n_ok (p := 11) (j := 0) (Fx.g0_ok (by decide)) rfl rfl (Fx.ldI_n_ok (p := 12) (j := 2) (Fx.g2_ok (by decide)) rfl rfl (Fx.ldI_n_ok (p := 13) (j := 1) (Fx.g1_ok (by decide)) rfl rfl (Fx.asF_ok (p := 14) (i := .iastore) hT.1 Fx.iastore_on rfl (fun _ _ _ => rfl) rfl rfl rfl rfl (Fx.iinc_ok (p := 17) (j := 2) (z := 1) (Fx.g2_ok (by decide)) (Fx.s2_ok (by decide)) (by decide) (by decide) rfl rfl (Fx.goto_ok (tg := 5) rfl ⟨by decide, rfl⟩ (hJ 5))))))
   )))
set_option maxRecDepth 65536 in
theorem bok_4_0 {ρ : Fx.Rho} {T : Fx.Tab} {R : Fx.Cal} {J : Fx.Jmp} (hT : Fx.TOk ρ E_ T ∧ Fx.T01 T) (hR : Fx.SimR ρ E_ R) (hJ : ∀ pc, Fx.Sim ρ E_ 4 pc (J pc)) : Fx.Sim ρ E_ 4 0 (B_4_0 T R J) := by
  unfold B_4_0
  exact Fx.iconst_ok (p := 1) (z := 0) (by decide) rfl rfl (Fx.stI_n_ok (p := 2) (j := 2) (Fx.g2_ok (by decide)) (Fx.s2_ok (by decide)) (Fx.s3_ok (by decide)) (Fx.s1_ok (by decide)) (by decide) rfl rfl (Fx.ldA_n_ok (p := 3) (j := 0) (Fx.g0_ok (by decide)) rfl rfl (Fx.alenF_ok (p := 4)  rfl rfl (Fx.stI_n_ok (p := 5) (j := 3) (Fx.g3_ok (by decide)) (Fx.s3_ok (by decide)) Fx.sBad_ok (Fx.s2_ok (by decide)) (by decide) rfl rfl (bok_4_5 hT hR hJ)))))
theorem bm_4 {ρ : Fx.Rho} {T : Fx.Tab} {R : Fx.Cal} {J : Fx.Jmp} (hT : Fx.TOk ρ E_ T ∧ Fx.T01 T) (hR : Fx.SimR ρ E_ R) (hJ : ∀ pc, Fx.Sim ρ E_ 4 pc (J pc)) (pc : Nat) : Fx.Sim ρ E_ 4 pc (BM_4 T R J pc) := by
  unfold BM_4
  exact Fx.brec_sim (fun _ => Fx.brec_sim (fun _ => Fx.stop_ok) (fun e => by have := Nat.eq_of_beq_eq_true e; subst this; exact bok_4_5 hT hR hJ)) (fun _ => Fx.brec_sim (fun _ => Fx.stop_ok) (fun e => by have := Nat.eq_of_beq_eq_true e; subst this; exact bok_4_0 hT hR hJ))
set_option maxRecDepth 65536 in
theorem bok_5_10 {ρ : Fx.Rho} {T : Fx.Tab} {R : Fx.Cal} {J : Fx.Jmp} (hT : Fx.TOk ρ E_ T ∧ Fx.T01 T) (hR : Fx.SimR ρ E_ R) (hJ : ∀ pc, Fx.Sim ρ E_ 5 pc (J pc)) : Fx.Sim ρ E_ 5 10 (B_5_10 T R J) := by
  unfold B_5_10
  exact Fx.retI_ok rfl rfl
set_option maxRecDepth 65536 in
theorem bok_5_9 {ρ : Fx.Rho} {T : Fx.Tab} {R : Fx.Cal} {J : Fx.Jmp} (hT : Fx.TOk ρ E_ T ∧ Fx.T01 T) (hR : Fx.SimR ρ E_ R) (hJ : ∀ pc, Fx.Sim ρ E_ 5 pc (J pc)) : Fx.Sim ρ E_ 5 9 (B_5_9 T R J) := by
  unfold B_5_9
  exact Fx.ldI_n_ok (p := 10) (j := 1) (Fx.g1_ok (by decide)) rfl rfl (bok_5_10 hT hR hJ)
set_option maxRecDepth 65536 in
theorem bok_5_0 {ρ : Fx.Rho} {T : Fx.Tab} {R : Fx.Cal} {J : Fx.Jmp} (hT : Fx.TOk ρ E_ T ∧ Fx.T01 T) (hR : Fx.SimR ρ E_ R) (hJ : ∀ pc, Fx.Sim ρ E_ 5 pc (J pc)) : Fx.Sim ρ E_ 5 0 (B_5_0 T R J) := by
  unfold B_5_0
  exact Fx.ldI_n_ok (p := 1) (j := 0) (Fx.g0_ok (by decide)) rfl rfl (Fx.ldI_n_ok (p := 2) (j := 1) (Fx.g1_ok (by decide)) rfl rfl (Fx.icmp_ok (p := 5) (tg := 9) (cd := .lt) hT rfl (by decide) (by decide) Fx.cLt_ok rfl ⟨by decide, rfl⟩ rfl (bok_5_9 hT hR hJ) (Fx.ldI_n_ok (p := 6) (j := 0) (Fx.g0_ok (by decide)) rfl rfl (Fx.goto_ok (tg := 10) rfl ⟨by decide, rfl⟩ (bok_5_10 hT hR hJ)))))
theorem bm_5 {ρ : Fx.Rho} {T : Fx.Tab} {R : Fx.Cal} {J : Fx.Jmp} (hT : Fx.TOk ρ E_ T ∧ Fx.T01 T) (hR : Fx.SimR ρ E_ R) (hJ : ∀ pc, Fx.Sim ρ E_ 5 pc (J pc)) (pc : Nat) : Fx.Sim ρ E_ 5 pc (BM_5 T R J pc) := by
  unfold BM_5
  exact Fx.brec_sim (fun _ => Fx.stop_ok) (fun e => by have := Nat.eq_of_beq_eq_true e; subst this; exact bok_5_0 hT hR hJ)
set_option maxRecDepth 65536 in
theorem bok_6_116 {ρ : Fx.Rho} {T : Fx.Tab} {R : Fx.Cal} {J : Fx.Jmp} (hT : Fx.TOk ρ E_ T ∧ Fx.T01 T) (hR : Fx.SimR ρ E_ R) (hJ : ∀ pc, Fx.Sim ρ E_ 6 pc (J pc)) : Fx.Sim ρ E_ 6 116 (B_6_116 T R J) := by
  unfold B_6_116
  exact Fx.ldA_n_ok (p := 117) (j := 2) (Fx.g2_ok (by decide)) rfl rfl (Fx.retA_ok rfl (Or.inr ⟨_, rfl⟩) rfl)
set_option maxRecDepth 65536 in
theorem bok_6_85 {ρ : Fx.Rho} {T : Fx.Tab} {R : Fx.Cal} {J : Fx.Jmp} (hT : Fx.TOk ρ E_ T ∧ Fx.T01 T) (hR : Fx.SimR ρ E_ R) (hJ : ∀ pc, Fx.Sim ρ E_ 6 pc (J pc)) : Fx.Sim ρ E_ 6 85 (B_6_85 T R J) := by
  unfold B_6_85
  exact Fx.ldI_n_ok (p := 86) (j := 3) (Fx.g3_ok (by decide)) rfl rfl (Fx.ldA_n_ok (p := 87) (j := 0) (Fx.g0_ok (by decide)) rfl rfl (Fx.getF_ok (p := 90)  rfl rfl (Fx.alenF_ok (p := 91)  rfl rfl (Fx.icmp_ok (p := 94) (tg := 116) (cd := .ge) hT rfl (by decide) (by decide) Fx.cGe_ok rfl ⟨by decide, rfl⟩ rfl (bok_6_116 hT hR hJ) (Fx.ldA_n_ok (p := 95) (j := 2) (Fx.g2_ok (by decide)) rfl rfl (Fx.ldA_n_ok (p := 96) (j := 1) (Fx.g1_ok (by decide)) rfl rfl (Fx.ldA_n_ok (p := 97) (j := 0) (Fx.g0_ok (by decide)) rfl rfl (Fx.getF_ok (p := 100)  rfl rfl (Fx.ldI_n_ok (p := 101) (j := 3) (Fx.g3_ok (by decide)) rfl rfl (Fx.alF_ok (p := 102) (i := .iaload) hT.1 rfl (fun _ _ _ => rfl) rfl rfl rfl rfl (Fx.dup2F_ok (p := 103)  rfl rfl (Fx.alF_ok (p := 104) (i := .iaload) hT.1 rfl (fun _ _ _ => rfl) rfl rfl rfl rfl (Fx.dupX2F_ok (p := 105)  rfl rfl (Fx.iconst_ok (p := 106) (z := 1) (by decide) rfl rfl (Fx.iadd_ok (p := 107) hT.1 rfl rfl (Fx.asF_ok (p := 108) (i := .iastore) hT.1 Fx.iastore_on rfl (fun _ _ _ => rfl) rfl rfl rfl rfl (Fx.ldI_n_ok (p := 109) (j := 3) (Fx.g3_ok (by decide)) rfl rfl (Fx.asF_ok (p := 110) (i := .iastore) hT.1 Fx.iastore_on rfl (fun _ _ _ => rfl) rfl rfl rfl rfl (Fx.iinc_ok (p := 113) (j := 3) (z := 1) (Fx.g3_ok (by decide)) (Fx.s3_ok (by decide)) (by decide) (by decide) rfl rfl (Fx.goto_ok (tg := 85) rfl ⟨by decide, rfl⟩ (hJ 85))))))))))
   )))))))))))
set_option maxRecDepth 65536 in
theorem bok_6_75 {ρ : Fx.Rho} {T : Fx.Tab} {R : Fx.Cal} {J : Fx.Jmp} (hT : Fx.TOk ρ E_ T ∧ Fx.T01 T) (hR : Fx.SimR ρ E_ R) (hJ : ∀ pc, Fx.Sim ρ E_ 6 pc (J pc)) : Fx.Sim ρ E_ 6 75 (B_6_75 T R J) := by
  unfold B_6_75
  exact Fx.ldA_n_ok (p := 76) (j := 0) (Fx.g0_ok (by decide)) rfl rfl (Fx.getF_ok (p := 79)  rfl rfl (Fx.alenF_ok (p := 80)  rfl rfl (Fx.newaF_ok (p := 82) hT.1 rfl rfl rfl rfl (Fx.stA_n_ok (p := 83) (j := 2) (Fx.g2_ok (by decide)) (Fx.s2_ok (by decide)) (Fx.s3_ok (by decide)) (Fx.s1_ok (by decide)) (by decide) rfl rfl (Fx.iconst_ok (p := 84) (z := 0) (by decide) rfl rfl (Fx.stI_n_ok (p := 85) (j := 3) (Fx.g3_ok (by decide)) (Fx.s3_ok (by decide)) (Fx.s4_ok (by decide)) (Fx.s2_ok (by decide)) (by decide) rfl rfl (bok_6_85 hT hR hJ))))
   )))
set_option maxRecDepth 65536 in
theorem bok_6_50 {ρ : Fx.Rho} {T : Fx.Tab} {R : Fx.Cal} {J : Fx.Jmp} (hT : Fx.TOk ρ E_ T ∧ Fx.T01 T) (hR : Fx.SimR ρ E_ R) (hJ : ∀ pc, Fx.Sim ρ E_ 6 pc (J pc)) : Fx.Sim ρ E_ 6 50 (B_6_50 T R J) := by
  unfold B_6_50
  exact Fx.ldI_n_ok (p := 51) (j := 2) (Fx.g2_ok (by decide)) rfl rfl (Fx.ldA_n_ok (p := 52) (j := 0) (Fx.g0_ok (by decide)) rfl rfl (Fx.getF_ok (p := 55)  rfl rfl (Fx.icmp_ok (p := 58) (tg := 75) (cd := .gt) hT rfl (by decide) (by decide) Fx.cGt_ok rfl ⟨by decide, rfl⟩ rfl (bok_6_75 hT hR hJ) (Fx.ldA_n_ok (p := 59) (j := 1) (Fx.g1_ok (by decide)) rfl rfl (Fx.ldI_n_ok (p := 60) (j := 2) (Fx.g2_ok (by decide)) rfl rfl (Fx.dup2F_ok (p := 61)  rfl rfl (Fx.alF_ok (p := 62) (i := .iaload) hT.1 rfl (fun _ _ _ => rfl) rfl rfl rfl rfl (Fx.ldA_n_ok (p := 63) (j := 1) (Fx.g1_ok (by decide)) rfl rfl (Fx.ldI_n_ok (p := 64) (j := 2) (Fx.g2_ok (by decide)) rfl rfl (Fx.iconst_ok (p := 65) (z := 1) (by decide) rfl rfl (Fx.isub_ok (p := 66) hT.1 rfl rfl (Fx.alF_ok (p := 67) (i := .iaload) hT.1 rfl (fun _ _ _ => rfl) rfl rfl rfl rfl (Fx.iadd_ok (p := 68) hT.1 rfl rfl (Fx.asF_ok (p := 69) (i := .iastore) hT.1 Fx.iastore_on rfl (fun _ _ _ => rfl) rfl rfl rfl rfl (Fx.iinc_ok (p := 72) (j := 2) (z := 1) (Fx.g2_ok (by decide)) (Fx.s2_ok (by decide)) (by decide) (by decide) rfl rfl (Fx.goto_ok (tg := 50) rfl ⟨by decide, rfl⟩ (hJ 50))))
   )))
   )))))))))
   )
set_option maxRecDepth 65536 in
theorem bok_6_48 {ρ : Fx.Rho} {T : Fx.Tab} {R : Fx.Cal} {J : Fx.Jmp} (hT : Fx.TOk ρ E_ T ∧ Fx.T01 T) (hR : Fx.SimR ρ E_ R) (hJ : ∀ pc, Fx.Sim ρ E_ 6 pc (J pc)) : Fx.Sim ρ E_ 6 48 (B_6_48 T R J) := by
  unfold B_6_48
  exact Fx.iconst_ok (p := 49) (z := 1) (by decide) rfl rfl (Fx.stI_n_ok (p := 50) (j := 2) (Fx.g2_ok (by decide)) (Fx.s2_ok (by decide)) (Fx.s3_ok (by decide)) (Fx.s1_ok (by decide)) (by decide) rfl rfl (bok_6_50 hT hR hJ))
set_option maxRecDepth 65536 in
theorem bok_6_20 {ρ : Fx.Rho} {T : Fx.Tab} {R : Fx.Cal} {J : Fx.Jmp} (hT : Fx.TOk ρ E_ T ∧ Fx.T01 T) (hR : Fx.SimR ρ E_ R) (hJ : ∀ pc, Fx.Sim ρ E_ 6 pc (J pc)) : Fx.Sim ρ E_ 6 20 (B_6_20 T R J) := by
  unfold B_6_20
  exact Fx.ldI_ok (p := 22) (j := 4) (Fx.g4_ok (by decide)) rfl rfl (Fx.ldI_n_ok (p := 23) (j := 3) (Fx.g3_ok (by decide)) rfl rfl (Fx.icmp_ok (p := 26) (tg := 48) (cd := .ge) hT rfl (by decide) (by decide) Fx.cGe_ok rfl ⟨by decide, rfl⟩ rfl (bok_6_48 hT hR hJ) (Fx.ldA_n_ok (p := 27) (j := 2) (Fx.g2_ok (by decide)) rfl rfl (Fx.ldI_ok (p := 29) (j := 4) (Fx.g4_ok (by decide)) rfl rfl (Fx.alF_ok (p := 30) (i := .iaload) hT.1 rfl (fun _ _ _ => rfl) rfl rfl rfl rfl (Fx.stI_ok (p := 32) (j := 5) (Fx.g5_ok (by decide)) (Fx.s5_ok (by decide)) Fx.sBad_ok (Fx.s4_ok (by decide)) (by decide) rfl rfl (Fx.ldA_n_ok (p := 33) (j := 1) (Fx.g1_ok (by decide)) rfl rfl (Fx.ldI_ok (p := 35) (j := 5) (Fx.g5_ok (by decide)) rfl rfl (Fx.iconst_ok (p := 36) (z := 1) (by decide) rfl rfl (Fx.iadd_ok (p := 37) hT.1 rfl rfl (Fx.dup2F_ok (p := 38)  rfl rfl (Fx.alF_ok (p := 39) (i := .iaload) hT.1 rfl (fun _ _ _ => rfl) rfl rfl rfl rfl (Fx.iconst_ok (p := 40) (z := 1) (by decide) rfl rfl (Fx.iadd_ok (p := 41) hT.1 rfl rfl (Fx.asF_ok (p := 42) (i := .iastore) hT.1 Fx.iastore_on rfl (fun _ _ _ => rfl) rfl rfl rfl rfl (Fx.iinc_ok (p := 45) (j := 4) (z := 1) (Fx.g4_ok (by decide)) (Fx.s4_ok (by decide)) (by decide) (by decide) rfl rfl (Fx.goto_ok (tg := 20) rfl ⟨by decide, rfl⟩ (hJ 20))))
   ))))))))))))))
set_option maxRecDepth 65536 in
theorem bok_6_0 {ρ : Fx.Rho} {T : Fx.Tab} {R : Fx.Cal} {J : Fx.Jmp} (hT : Fx.TOk ρ E_ T ∧ Fx.T01 T) (hR : Fx.SimR ρ E_ R) (hJ : ∀ pc, Fx.Sim ρ E_ 6 pc (J pc)) : Fx.Sim ρ E_ 6 0 (B_6_0 T R J) := by
  unfold B_6_0
  exact Fx.ldA_n_ok (p := 1) (j := 0) (Fx.g0_ok (by decide)) rfl rfl (Fx.getF_ok (p := 4)  rfl rfl (Fx.iconst_ok (p := 5) (z := 1) (by decide) rfl rfl (Fx.iadd_ok (p := 6) hT.1 rfl rfl (Fx.newaF_ok (p := 8) hT.1 rfl rfl rfl rfl (Fx.stA_n_ok (p := 9) (j := 1) (Fx.g1_ok (by decide)) (Fx.s1_ok (by decide)) (Fx.s2_ok (by decide)) (Fx.s0_ok (by decide)) (by decide) rfl rfl (Fx.ldA_n_ok (p := 10) (j := 0) (Fx.g0_ok (by decide)) rfl rfl (Fx.getF_ok (p := 13)  rfl rfl (Fx.stA_n_ok (p := 14) (j := 2) (Fx.g2_ok (by decide)) (Fx.s2_ok (by decide)) (Fx.s3_ok (by decide)) (Fx.s1_ok (by decide)) (by decide) rfl rfl (Fx.ldA_n_ok (p := 15) (j := 2) (Fx.g2_ok (by decide)) rfl rfl (Fx.alenF_ok (p := 16)  rfl rfl (Fx.stI_n_ok (p := 17) (j := 3) (Fx.g3_ok (by decide)) (Fx.s3_ok (by decide)) (Fx.s4_ok (by decide)) (Fx.s2_ok (by decide)) (by decide) rfl rfl (Fx.iconst_ok (p := 18) (z := 0) (by decide) rfl rfl (Fx.stI_ok (p := 20) (j := 4) (Fx.g4_ok (by decide)) (Fx.s4_ok (by decide)) (Fx.s5_ok (by decide)) (Fx.s3_ok (by decide)) (by decide) rfl rfl (bok_6_20 hT hR hJ))))
   )))
   )))))))
theorem bm_6 {ρ : Fx.Rho} {T : Fx.Tab} {R : Fx.Cal} {J : Fx.Jmp} (hT : Fx.TOk ρ E_ T ∧ Fx.T01 T) (hR : Fx.SimR ρ E_ R) (hJ : ∀ pc, Fx.Sim ρ E_ 6 pc (J pc)) (pc : Nat) : Fx.Sim ρ E_ 6 pc (BM_6 T R J pc) := by
  unfold BM_6
  exact Fx.brec_sim (fun _ => Fx.brec_sim (fun _ => Fx.brec_sim (fun _ => Fx.stop_ok) (fun e => by have := Nat.eq_of_beq_eq_true e; subst this; exact bok_6_85 hT hR hJ)) (fun _ => Fx.brec_sim (fun _ => Fx.stop_ok) (fun e => by have := Nat.eq_of_beq_eq_true e; subst this; exact bok_6_50 hT hR hJ))) (fun _ => Fx.brec_sim (fun _ => Fx.brec_sim (fun _ => Fx.stop_ok) (fun e => by have := Nat.eq_of_beq_eq_true e; subst this; exact bok_6_20 hT hR hJ)) (fun _ => Fx.brec_sim (fun _ => Fx.stop_ok) (fun e => by have := Nat.eq_of_beq_eq_true e; subst this; exact bok_6_0 hT hR hJ)))
set_option maxRecDepth 65536 in
theorem bok_7_0 {ρ : Fx.Rho} {T : Fx.Tab} {R : Fx.Cal} {J : Fx.Jmp} (hT : Fx.TOk ρ E_ T ∧ Fx.T01 T) (hR : Fx.SimR ρ E_ R) (hJ : ∀ pc, Fx.Sim ρ E_ 7 pc (J pc)) : Fx.Sim ρ E_ 7 0 (B_7_0 T R J) := by
  unfold B_7_0
  exact Fx.ldA_n_ok (p := 1) (j := 0) (Fx.g0_ok (by decide)) rfl rfl (Fx.iconst_ok (p := 2) (z := 0) (by decide) rfl rfl (Fx.ldI_n_ok (p := 3) (j := 1) (Fx.g1_ok (by decide)) rfl rfl (Fx.statF_ok (p := 6) (CS_8_ok R) hR rfl rfl rfl (Fx.ldA_n_ok (p := 7) (j := 0) (Fx.g0_ok (by decide)) rfl rfl (Fx.iconst_ok (p := 8) (z := 1) (by decide) rfl rfl (Fx.ldI_n_ok (p := 9) (j := 1) (Fx.g1_ok (by decide)) rfl rfl (Fx.statF_ok (p := 12) (CS_8_ok R) hR rfl rfl rfl (Fx.iadd_ok (p := 13) hT.1 rfl rfl (Fx.ldA_n_ok (p := 14) (j := 0) (Fx.g0_ok (by decide)) rfl rfl (Fx.iconst_ok (p := 15) (z := 2) (by decide) rfl rfl (Fx.ldI_n_ok (p := 16) (j := 1) (Fx.g1_ok (by decide)) rfl rfl (Fx.statF_ok (p := 19) (CS_8_ok R) hR rfl rfl rfl (Fx.iadd_ok (p := 20) hT.1 rfl rfl (Fx.ldA_n_ok (p := 21) (j := 0) (Fx.g0_ok (by decide)) rfl rfl (Fx.iconst_ok (p := 22) (z := 3) (by decide) rfl rfl (Fx.ldI_n_ok (p := 23) (j := 1) (Fx.g1_ok (by decide)) rfl rfl (Fx.statF_ok (p := 26) (CS_8_ok R) hR rfl rfl rfl (Fx.iadd_ok (p := 27) hT.1 rfl rfl (Fx.retI_ok rfl rfl))
   )))))
   )))))
   )))))))
theorem bm_7 {ρ : Fx.Rho} {T : Fx.Tab} {R : Fx.Cal} {J : Fx.Jmp} (hT : Fx.TOk ρ E_ T ∧ Fx.T01 T) (hR : Fx.SimR ρ E_ R) (hJ : ∀ pc, Fx.Sim ρ E_ 7 pc (J pc)) (pc : Nat) : Fx.Sim ρ E_ 7 pc (BM_7 T R J pc) := by
  unfold BM_7
  exact Fx.brec_sim (fun _ => Fx.stop_ok) (fun e => by have := Nat.eq_of_beq_eq_true e; subst this; exact bok_7_0 hT hR hJ)
set_option maxRecDepth 65536 in
theorem bok_8_27 {ρ : Fx.Rho} {T : Fx.Tab} {R : Fx.Cal} {J : Fx.Jmp} (hT : Fx.TOk ρ E_ T ∧ Fx.T01 T) (hR : Fx.SimR ρ E_ R) (hJ : ∀ pc, Fx.Sim ρ E_ 8 pc (J pc)) : Fx.Sim ρ E_ 8 27 (B_8_27 T R J) := by
  unfold B_8_27
  exact Fx.iconst_ok (p := 28) (z := 0) (by decide) rfl rfl (Fx.retI_ok rfl rfl)
set_option maxRecDepth 65536 in
theorem bok_8_11 {ρ : Fx.Rho} {T : Fx.Tab} {R : Fx.Cal} {J : Fx.Jmp} (hT : Fx.TOk ρ E_ T ∧ Fx.T01 T) (hR : Fx.SimR ρ E_ R) (hJ : ∀ pc, Fx.Sim ρ E_ 8 pc (J pc)) : Fx.Sim ρ E_ 8 11 (B_8_11 T R J) := by
  unfold B_8_11
  exact Fx.ldA_n_ok (p := 12) (j := 0) (Fx.g0_ok (by decide)) rfl rfl (Fx.ldI_n_ok (p := 13) (j := 1) (Fx.g1_ok (by decide)) rfl rfl (Fx.alF_ok (p := 14) (i := .iaload) hT.1 rfl (fun _ _ _ => rfl) rfl rfl rfl rfl (Fx.ldA_n_ok (p := 15) (j := 0) (Fx.g0_ok (by decide)) rfl rfl (Fx.ldI_n_ok (p := 16) (j := 2) (Fx.g2_ok (by decide)) rfl rfl (Fx.alF_ok (p := 17) (i := .iaload) hT.1 rfl (fun _ _ _ => rfl) rfl rfl rfl rfl (Fx.icmp_ok (p := 20) (tg := 27) (cd := .ne) hT rfl (by decide) (by decide) Fx.cNe_ok rfl ⟨by decide, rfl⟩ rfl (bok_8_27 hT hR hJ) (Fx.ldI_n_ok (p := 21) (j := 1) (Fx.g1_ok (by decide)) rfl rfl (Fx.ldI_n_ok (p := 22) (j := 2) (Fx.g2_ok (by decide)) rfl rfl (Fx.icmp_ok (p := 25) (tg := 27) (cd := .ge) hT rfl (by decide) (by decide) Fx.cGe_ok rfl ⟨by decide, rfl⟩ rfl (bok_8_27 hT hR hJ) (Fx.iconst_ok (p := 26) (z := 1) (by decide) rfl rfl (Fx.retI_ok rfl rfl)))))))
   ))))
set_option maxRecDepth 65536 in
theorem bok_8_0 {ρ : Fx.Rho} {T : Fx.Tab} {R : Fx.Cal} {J : Fx.Jmp} (hT : Fx.TOk ρ E_ T ∧ Fx.T01 T) (hR : Fx.SimR ρ E_ R) (hJ : ∀ pc, Fx.Sim ρ E_ 8 pc (J pc)) : Fx.Sim ρ E_ 8 0 (B_8_0 T R J) := by
  unfold B_8_0
  exact Fx.ldA_n_ok (p := 1) (j := 0) (Fx.g0_ok (by decide)) rfl rfl (Fx.ldI_n_ok (p := 2) (j := 1) (Fx.g1_ok (by decide)) rfl rfl (Fx.alF_ok (p := 3) (i := .iaload) hT.1 rfl (fun _ _ _ => rfl) rfl rfl rfl rfl (Fx.ldA_n_ok (p := 4) (j := 0) (Fx.g0_ok (by decide)) rfl rfl (Fx.ldI_n_ok (p := 5) (j := 2) (Fx.g2_ok (by decide)) rfl rfl (Fx.alF_ok (p := 6) (i := .iaload) hT.1 rfl (fun _ _ _ => rfl) rfl rfl rfl rfl (Fx.icmp_ok (p := 9) (tg := 11) (cd := .ge) hT rfl (by decide) (by decide) Fx.cGe_ok rfl ⟨by decide, rfl⟩ rfl (bok_8_11 hT hR hJ) (Fx.iconst_ok (p := 10) (z := 1) (by decide) rfl rfl (Fx.retI_ok rfl rfl))
   )
   )))
   ))
theorem bm_8 {ρ : Fx.Rho} {T : Fx.Tab} {R : Fx.Cal} {J : Fx.Jmp} (hT : Fx.TOk ρ E_ T ∧ Fx.T01 T) (hR : Fx.SimR ρ E_ R) (hJ : ∀ pc, Fx.Sim ρ E_ 8 pc (J pc)) (pc : Nat) : Fx.Sim ρ E_ 8 pc (BM_8 T R J pc) := by
  unfold BM_8
  exact Fx.brec_sim (fun _ => Fx.stop_ok) (fun e => by have := Nat.eq_of_beq_eq_true e; subst this; exact bok_8_0 hT hR hJ)
theorem bb_ {ρ : Fx.Rho} {T : Fx.Tab} (hT : Fx.TOk ρ E_ T ∧ Fx.T01 T) : ∀ R J M, Fx.SimR ρ E_ R → (∀ pc, Fx.Sim ρ E_ M pc (J pc)) → ∀ pc, Fx.Sim ρ E_ M pc (BB T R M J pc) := by
  intro R J M hR hJ pc
  unfold BB
  exact Fx.brec_sim (fun _ => Fx.brec_sim (fun _ => Fx.brec_sim (fun _ => Fx.brec_sim (fun _ => Fx.brec_sim (fun _ => Fx.stop_ok) (fun e => by have := Nat.eq_of_beq_eq_true e; subst this; exact bm_8 hT hR hJ pc)) (fun _ => Fx.brec_sim (fun _ => Fx.stop_ok) (fun e => by have := Nat.eq_of_beq_eq_true e; subst this; exact bm_7 hT hR hJ pc))) (fun _ => Fx.brec_sim (fun _ => Fx.stop_ok) (fun e => by have := Nat.eq_of_beq_eq_true e; subst this; exact bm_6 hT hR hJ pc))) (fun _ => Fx.brec_sim (fun _ => Fx.brec_sim (fun _ => Fx.stop_ok) (fun e => by have := Nat.eq_of_beq_eq_true e; subst this; exact bm_5 hT hR hJ pc)) (fun _ => Fx.brec_sim (fun _ => Fx.stop_ok) (fun e => by have := Nat.eq_of_beq_eq_true e; subst this; exact bm_4 hT hR hJ pc)))) (fun _ => Fx.brec_sim (fun _ => Fx.brec_sim (fun _ => Fx.brec_sim (fun _ => Fx.stop_ok) (fun e => by have := Nat.eq_of_beq_eq_true e; subst this; exact bm_3 hT hR hJ pc)) (fun _ => Fx.brec_sim (fun _ => Fx.stop_ok) (fun e => by have := Nat.eq_of_beq_eq_true e; subst this; exact bm_2 hT hR hJ pc))) (fun _ => Fx.brec_sim (fun _ => Fx.brec_sim (fun _ => Fx.stop_ok) (fun e => by have := Nat.eq_of_beq_eq_true e; subst this; exact bm_1 hT hR hJ pc)) (fun _ => Fx.brec_sim (fun _ => Fx.stop_ok) (fun e => by have := Nat.eq_of_beq_eq_true e; subst this; exact bm_0 hT hR hJ pc))))
/-- the table: tokens 0..5 the arguments, 6..11 them without sign, 12 the last one mod 5 -/
def T_ (za zb zc zd ze : Nat) : Fx.Tab := fun o x y => match o, x, y with
  | 3, Sum.inl (Sum.inr (Sum.inl 0)), Sum.inl (Sum.inl (Sum.inl 2147483647)) => some (.si 6)
  | 3, Sum.inl (Sum.inr (Sum.inl 1)), Sum.inl (Sum.inl (Sum.inl 2147483647)) => some (.si 7)
  | 3, Sum.inl (Sum.inr (Sum.inl 2)), Sum.inl (Sum.inl (Sum.inl 2147483647)) => some (.si 8)
  | 3, Sum.inl (Sum.inr (Sum.inl 3)), Sum.inl (Sum.inl (Sum.inl 2147483647)) => some (.si 9)
  | 3, Sum.inl (Sum.inr (Sum.inl 4)), Sum.inl (Sum.inl (Sum.inl 2147483647)) => some (.si 10)
  | 3, Sum.inl (Sum.inr (Sum.inl 5)), Sum.inl (Sum.inl (Sum.inl 2147483647)) => some (.si 11)
  | 23, Sum.inl (Sum.inr (Sum.inl 6)), Sum.inl (Sum.inl (Sum.inl 4)) => some (.int za)
  | 23, Sum.inl (Sum.inr (Sum.inl 7)), Sum.inl (Sum.inl (Sum.inl 3)) => some (.int zb)
  | 23, Sum.inl (Sum.inr (Sum.inl 8)), Sum.inl (Sum.inl (Sum.inl 2)) => some (.int zc)
  | 23, Sum.inl (Sum.inr (Sum.inl 9)), Sum.inl (Sum.inl (Sum.inl 2)) => some (.int zd)
  | 23, Sum.inl (Sum.inr (Sum.inl 10)), Sum.inl (Sum.inl (Sum.inl 3)) => some (.int ze)
  | 23, Sum.inl (Sum.inr (Sum.inl 11)), Sum.inl (Sum.inl (Sum.inl 5)) => some (.si 12)
  | 44, Sum.inl (Sum.inr (Sum.inl 12)), Sum.inl (Sum.inr (Sum.inr ())) => some (.int 0)
  | 53, Sum.inl (Sum.inr (Sum.inl 12)), Sum.inl (Sum.inl (Sum.inl 4)) => some (.int 1)
  | 100, Sum.inr (Sum.inl (Sum.inl 0)), Sum.inl (Sum.inr (Sum.inr ())) => some (.double 0)
  | 100, Sum.inr (Sum.inl (Sum.inl 4607182418800017408)), Sum.inl (Sum.inr (Sum.inr ())) => some (.double 4607182418800017408)
  | 100, Sum.inr (Sum.inl (Sum.inl 4611686018427387904)), Sum.inl (Sum.inr (Sum.inr ())) => some (.double 4611686018427387904)
  | 100, Sum.inr (Sum.inl (Sum.inl 4613937818241073152)), Sum.inl (Sum.inr (Sum.inr ())) => some (.double 4613937818241073152)
  | 20, Sum.inr (Sum.inl (Sum.inl 0)), Sum.inr (Sum.inl (Sum.inl 0)) => some (.int 0)
  | 21, Sum.inr (Sum.inl (Sum.inl 0)), Sum.inr (Sum.inl (Sum.inl 0)) => some (.int 0)
  | 21, Sum.inr (Sum.inl (Sum.inl 0)), Sum.inr (Sum.inl (Sum.inl 9218868437227405311)) => some (.int 4294967295)
  | 21, Sum.inr (Sum.inl (Sum.inl 4607182418800017408)), Sum.inr (Sum.inl (Sum.inl 0)) => some (.int 1)
  | 21, Sum.inr (Sum.inl (Sum.inl 4607182418800017408)), Sum.inr (Sum.inl (Sum.inl 9218868437227405311)) => some (.int 4294967295)
  | 21, Sum.inr (Sum.inl (Sum.inl 4611686018427387904)), Sum.inr (Sum.inl (Sum.inl 0)) => some (.int 1)
  | 21, Sum.inr (Sum.inl (Sum.inl 4611686018427387904)), Sum.inr (Sum.inl (Sum.inl 9218868437227405311)) => some (.int 4294967295)
  | 21, Sum.inr (Sum.inl (Sum.inl 4613937818241073152)), Sum.inr (Sum.inl (Sum.inl 0)) => some (.int 1)
  | 21, Sum.inr (Sum.inl (Sum.inl 4613937818241073152)), Sum.inr (Sum.inl (Sum.inl 9218868437227405311)) => some (.int 4294967295)
  | _, _, _ => none
def rho (i0 i1 i2 i3 i4 i5 : Int32) : Fx.Rho := (fun n => match n with
  | 0 => i0 | 1 => i1 | 2 => i2 | 3 => i3 | 4 => i4 | 5 => i5
  | 6 => i0 &&& Int32.ofNat 2147483647 | 7 => i1 &&& Int32.ofNat 2147483647 | 8 => i2 &&& Int32.ofNat 2147483647 | 9 => i3 &&& Int32.ofNat 2147483647 | 10 => i4 &&& Int32.ofNat 2147483647 | 11 => i5 &&& Int32.ofNat 2147483647
  | 12 => (i5 &&& Int32.ofNat 2147483647) % Int32.ofNat 5 | _ => 0, fun _ => 0, fun _ => 0)
theorem rem_ok {x y z : Int32} (hy : y ≠ 0) (h : x % y = z) : Fx.sem E_ 23 (.int x) (.int y) = some (.int z) := by
  show (if y ≠ 0 then some (Value.int (x % y)) else none) = _
  rw [if_pos hy, h]
theorem if_ok {x : Int32} {b : Bool} (h : ifCond.holds .lt x = b) : Fx.sem E_ 44 (.int x) .null = some (.int (if b then 1 else 0)) := by rw [← h]; rfl
theorem ic_ok {x y : Int32} {b : Bool} (h : if_icmp.holds .le x y = b) : Fx.sem E_ 53 (.int x) (.int y) = some (.int (if b then 1 else 0)) := by rw [← h]; rfl
theorem abs_row {a : UInt64} (h1 : FP.dIsNaN a = false) (h2 : a &&& 0x7fffffffffffffff = a) : Fx.sem E_ 100 (.double a) .null = some (.double a) := by
  show (match (some (!FP.dIsNaN a, Value.double (a &&& 0x7fffffffffffffff)) : Option (Bool × Value)) with
    | some (true, v) => some v
    | _ => none) = _
  rw [h1, h2]; rfl
theorem dc_ok {o : Nat} {a b : UInt64} {z : Int32} {cd : CmpOp} (h : cmpValue (FP.dcmp a b) cd = z) (ho : o < 22 := by decide) (hi : Fx.opI o = .dcmp cd := by rfl) : Fx.sem E_ o (.double a) (.double b) = some (.int z) := by
  rw [Fx.sem_bin ho, hi, ← h]; rfl
theorem tok_ {i0 i1 i2 i3 i4 i5 : Int32} {za zb zc zd ze : Nat} (hza : (i0 &&& Int32.ofNat 2147483647) % Int32.ofNat 4 = Int32.ofNat za) (hzb : (i1 &&& Int32.ofNat 2147483647) % Int32.ofNat 3 = Int32.ofNat zb) (hzc : (i2 &&& Int32.ofNat 2147483647) % Int32.ofNat 2 = Int32.ofNat zc) (hzd : (i3 &&& Int32.ofNat 2147483647) % Int32.ofNat 2 = Int32.ofNat zd) (hze : (i4 &&& Int32.ofNat 2147483647) % Int32.ofNat 3 = Int32.ofNat ze)
    (hv1 : ifCond.holds .lt ((i5 &&& Int32.ofNat 2147483647) % Int32.ofNat 5) = false) (hv2 : if_icmp.holds .le ((i5 &&& Int32.ofNat 2147483647) % Int32.ofNat 5) (Int32.ofNat 4) = true) : Fx.TOk (rho i0 i1 i2 i3 i4 i5) E_ (T_ za zb zc zd ze) ∧ Fx.T01 (T_ za zb zc zd ze) := by
  refine ⟨fun o x y v h => ?_, fun o x y n h1 h2 h => ?_⟩
  · unfold T_ at h
    split at h
    · cases h; exact rfl
    · cases h; exact rfl
    · cases h; exact rfl
    · cases h; exact rfl
    · cases h; exact rfl
    · cases h; exact rfl
    · cases h; exact (rem_ok (by decide) hza)
    · cases h; exact (rem_ok (by decide) hzb)
    · cases h; exact (rem_ok (by decide) hzc)
    · cases h; exact (rem_ok (by decide) hzd)
    · cases h; exact (rem_ok (by decide) hze)
    · cases h; exact (rem_ok (by decide) rfl)
    · cases h; exact (if_ok (b := false) hv1)
    · cases h; exact (ic_ok (b := true) hv2)
    · cases h; exact (abs_row (by decide +kernel) (by decide +kernel))
    · cases h; exact (abs_row (by decide +kernel) (by decide +kernel))
    · cases h; exact (abs_row (by decide +kernel) (by decide +kernel))
    · cases h; exact (abs_row (by decide +kernel) (by decide +kernel))
    · cases h; exact (dc_ok (cd := .l) (by decide +kernel))
    · cases h; exact (dc_ok (cd := .g) (by decide +kernel))
    · cases h; exact (dc_ok (cd := .g) (by decide +kernel))
    · cases h; exact (dc_ok (cd := .g) (by decide +kernel))
    · cases h; exact (dc_ok (cd := .g) (by decide +kernel))
    · cases h; exact (dc_ok (cd := .g) (by decide +kernel))
    · cases h; exact (dc_ok (cd := .g) (by decide +kernel))
    · cases h; exact (dc_ok (cd := .g) (by decide +kernel))
    · cases h; exact (dc_ok (cd := .g) (by decide +kernel))
    · cases h
  · unfold T_ at h
    split at h
    all_goals first | (cases h; omega) | (cases h; done) | omega
def go (za zb zc zd ze : Nat) : Bool := Fx.xok 32 192 6 160 (Fx.xrun (BB (T_ za zb zc zd ze)) 400 0 0 ((((((.val (.si 0)), (.val (.si 1))), ((.val (.si 2)), (.val (.si 3)))), (((.val (.si 4)), (.val (.si 5))), (.unset, .unset))), (((.unset, .unset), (.unset, .unset)), ((.unset, .unset), (.unset, .unset)))), ((((.unset, .unset), (.unset, .unset)), ((.unset, .unset), (.unset, .unset))), (((.unset, .unset), (.unset, .unset)), ((.unset, .unset), (.unset, .unset))))) [] [])
set_option maxRecDepth 100000 in
theorem all_0_0 : ((List.range 2).all fun c => (List.range 2).all fun d => (List.range 3).all fun e => go 0 0 c d e) = true := by decide +kernel
set_option maxRecDepth 100000 in
theorem all_0_1 : ((List.range 2).all fun c => (List.range 2).all fun d => (List.range 3).all fun e => go 0 1 c d e) = true := by decide +kernel
set_option maxRecDepth 100000 in
theorem all_0_2 : ((List.range 2).all fun c => (List.range 2).all fun d => (List.range 3).all fun e => go 0 2 c d e) = true := by decide +kernel
set_option maxRecDepth 100000 in
theorem all_1_0 : ((List.range 2).all fun c => (List.range 2).all fun d => (List.range 3).all fun e => go 1 0 c d e) = true := by decide +kernel
set_option maxRecDepth 100000 in
theorem all_1_1 : ((List.range 2).all fun c => (List.range 2).all fun d => (List.range 3).all fun e => go 1 1 c d e) = true := by decide +kernel
set_option maxRecDepth 100000 in
theorem all_1_2 : ((List.range 2).all fun c => (List.range 2).all fun d => (List.range 3).all fun e => go 1 2 c d e) = true := by decide +kernel
set_option maxRecDepth 100000 in
theorem all_2_0 : ((List.range 2).all fun c => (List.range 2).all fun d => (List.range 3).all fun e => go 2 0 c d e) = true := by decide +kernel
set_option maxRecDepth 100000 in
theorem all_2_1 : ((List.range 2).all fun c => (List.range 2).all fun d => (List.range 3).all fun e => go 2 1 c d e) = true := by decide +kernel
set_option maxRecDepth 100000 in
theorem all_2_2 : ((List.range 2).all fun c => (List.range 2).all fun d => (List.range 3).all fun e => go 2 2 c d e) = true := by decide +kernel
set_option maxRecDepth 100000 in
theorem all_3_0 : ((List.range 2).all fun c => (List.range 2).all fun d => (List.range 3).all fun e => go 3 0 c d e) = true := by decide +kernel
set_option maxRecDepth 100000 in
theorem all_3_1 : ((List.range 2).all fun c => (List.range 2).all fun d => (List.range 3).all fun e => go 3 1 c d e) = true := by decide +kernel
set_option maxRecDepth 100000 in
theorem all_3_2 : ((List.range 2).all fun c => (List.range 2).all fun d => (List.range 3).all fun e => go 3 2 c d e) = true := by decide +kernel
theorem pick_ {a b c d e : Nat} (h : ((List.range 2).all fun c => (List.range 2).all fun d => (List.range 3).all fun e => go a b c d e) = true) (hc : c < 2) (hd : d < 2) (he : e < 3) : go a b c d e = true :=
  List.all_eq_true.mp (List.all_eq_true.mp (List.all_eq_true.mp h c (List.mem_range.mpr hc)) d (List.mem_range.mpr hd)) e (List.mem_range.mpr he)
theorem all_ {a b c d e : Nat} (ha : a < 4) (hb : b < 3) : c < 2 → d < 2 → e < 3 → go a b c d e = true := by
  have h1 : a = 0 ∨ a = 1 ∨ a = 2 ∨ a = 3 := by omega
  have h2 : b = 0 ∨ b = 1 ∨ b = 2 := by omega
  rcases h1 with rfl | rfl | rfl | rfl <;> rcases h2 with rfl | rfl | rfl
  · exact pick_ all_0_0
  · exact pick_ all_0_1
  · exact pick_ all_0_2
  · exact pick_ all_1_0
  · exact pick_ all_1_1
  · exact pick_ all_1_2
  · exact pick_ all_2_0
  · exact pick_ all_2_1
  · exact pick_ all_2_2
  · exact pick_ all_3_0
  · exact pick_ all_3_1
  · exact pick_ all_3_2
theorem good (i0 i1 i2 i3 i4 i5 : Int32) : ∃ fuel, Good E_ fuel [.int i0, .int i1, .int i2, .int i3, .int i4, .int i5] [] 32 192 6 160 := by
  obtain ⟨za, a1, a2⟩ := Fx.md 4 (by decide) (by decide) i0
  obtain ⟨zb, b1, b2⟩ := Fx.md 3 (by decide) (by decide) i1
  obtain ⟨zc, c1, c2⟩ := Fx.md 2 (by decide) (by decide) i2
  obtain ⟨zd, d1, d2⟩ := Fx.md 2 (by decide) (by decide) i3
  obtain ⟨ze, e1, e2⟩ := Fx.md 3 (by decide) (by decide) i4
  obtain ⟨zf, f1, f2⟩ := Fx.md 5 (by decide) (by decide) i5
  have v1 : ifCond.holds .lt ((i5 &&& Int32.ofNat 2147483647) % Int32.ofNat 5) = false := by
    have : zf = 0 ∨ zf = 1 ∨ zf = 2 ∨ zf = 3 ∨ zf = 4 := by omega
    rw [f2]; rcases this with rfl | rfl | rfl | rfl | rfl <;> rfl
  have v2 : if_icmp.holds .le ((i5 &&& Int32.ofNat 2147483647) % Int32.ofNat 5) (Int32.ofNat 4) = true := by
    have : zf = 0 ∨ zf = 1 ∨ zf = 2 ∨ zf = 3 ∨ zf = 4 := by omega
    rw [f2]; rcases this with rfl | rfl | rfl | rfl | rfl <;> rfl
  exact Fx.good_of (ρ := rho i0 i1 i2 i3 i4 i5) (E := E_) (bb_ (tok_ a2 b2 c2 d2 e2 v1 v2)) (as := [.si 0, .si 1, .si 2, .si 3, .si 4, .si 5]) (A0 := []) (all_ a1 b1 c1 d1 e1) rfl

set_option maxRecDepth 65536 in
set_option maxHeartbeats 40000000 in
theorem comes_1 {Post : Tables → Env → Array Value → State → Outcome → State → Prop} (hpost : ∀ tb e args s v u, (limb_1_1.after args s (.returned v) u = true ∧ limb_1_2.after args s (.returned v) u = true ∧ True) → FrameEnd s (.returned v) u (Jvm.fieldLocs frame_1_writes args s ++ Jvm.arrayLocs frame_1_arrays args s ++ Jvm.staticLocs frame_1_statics s) 32 192 → Post tb e args s (.returned v) u) :
    ArmFor flags0 classFile x code maxLocals ret World_1 tables_1 room_1 Calls_1 rest_1 Pre_1 Post := by
  intro l hfl _ _ p e ha hc hk s m args below hf hA hF happ hP
  obtain ⟨hcalls, hrest, hpre⟩ := hP
  obtain ⟨-, -, -, hnamed, -, -, -, hat⟩ := (Spec.applies_iff hf).mp happ
  obtain ⟨hg, hn⟩ := and_e (Cond.before_iff.mp (show (Jvm.Cond.and given_1 narrow_1).before args s = true from hpre))
  obtain ⟨h1, h2⟩ := and_e hg
  obtain ⟨q0, r0⟩ := and_e h2
  obtain ⟨q1, r1⟩ := and_e r0
  obtain ⟨q2, r2⟩ := and_e r1
  obtain ⟨q3, r3⟩ := and_e r2
  obtain ⟨q4, r4⟩ := and_e r3
  obtain ⟨w0, w1, w2, w3, w4, w5, rfl⟩ : ∃ w0 w1 w2 w3 w4 w5 : Value, args = #[w0, w1, w2, w3, w4, w5] := by
    have hs : args.size = 6 := by simpa [Cond.value, given_1] using h1
    obtain ⟨L⟩ := args
    match L, hs with
    | [w0, w1, w2, w3, w4, w5], _ => exact ⟨w0, w1, w2, w3, w4, w5, rfl⟩
  have hw := fun d (hd : d ∈ tables_1) => atoms_spec (ws := Jvm.Cond.code x code maxLocals ret :: tables_1) hat d (List.mem_cons_of_mem _ hd)
  obtain ⟨i0, e0⟩ := is_v q0
  obtain rfl : w0 = (.int i0) := Option.some.inj e0
  obtain ⟨i1, e1⟩ := is_v q1
  obtain rfl : w1 = (.int i1) := Option.some.inj e1
  obtain ⟨i2, e2⟩ := is_v q2
  obtain rfl : w2 = (.int i2) := Option.some.inj e2
  obtain ⟨i3, e3⟩ := is_v q3
  obtain rfl : w3 = (.int i3) := Option.some.inj e3
  obtain ⟨i4, e4⟩ := is_v q4
  obtain rfl : w4 = (.int i4) := Option.some.inj e4
  obtain ⟨i5, e5⟩ := is_v r4
  obtain rfl : w5 = (.int i5) := Option.some.inj e5

  obtain ⟨fuel_, o1, o2, cs, A1, k1, n1, f1, w1, hrun, hcs, hk1, hn1, hf1, hw1⟩ := good i0 i1 i2 i3 i4 i5
  have Rp := (Rep.start (Z := s) (kc := kc_) (Nat.le_refl s.heap.size) (fun _ => 0))
  have met := (run_sound (n0 := s.heap.size) (kok_ hw) (mok_ hw) fuel_).met (M := 0) (as := [.int i0, .int i1, .int i2, .int i3, .int i4, .int i5]) hrun hcs (Nat.le_of_ble_eq_true rfl) pl_0 Rp (fc (trivial) (fc (trivial) (fc (trivial) (fc (trivial) (fc (trivial) (fc (trivial) (fn))))))) l tables_1 room_1 hk1 hn1 hf1 hw1
  obtain ⟨n, o, h1, h2, h3, _, L, rfl, ⟨g1, rfl, -, N, -⟩, hq⟩ := met p e ha hc hk s m _ below hf ((Spec.applies_iff_loose hf).mp happ).1 ⟨rfl, State.Warmed39.refl s, rfl⟩ trivial
  refine ⟨n, _, h1, h2, h3, hpost _ _ _ _ _ _ ⟨Cond.after_iff.mpr rfl, Cond.after_iff.mpr (eq_i res_at (Term.int_eval (1)) rfl), trivial⟩ ⟨hq.1, hq.2.1, (hq.2.2.sift fun y hy => Or.inr (N y hy)).mono hk1 hn1⟩⟩
theorem main_1_1 : Claimed_1_1 := comes_1 fun _ _ _ _ _ _ h hF => ⟨h.1, hF⟩
theorem main_1_2 : Claimed_1_2 := comes_1 fun _ _ _ _ _ _ h hF => ⟨h.2.1, hF⟩
end Jvm.Pilot.@@N@@
namespace Jvm.Pilot.@@N@@
open Jvm Jvm.ClassFile Sem Op Lib Jvm.Free Jvm.Stand Jvm.Pilot.@@N@@.Jvm.D
/-! MADE BY PROGRAM (witnessworld.py) out of the Statement's table words and the real class files: 18 classes; the members and pool entries that the words name. The judged class is class 1, her method 1. -/
namespace start1
open Jvm.ClassFile
def u (s : String) : CpInfo := .utf8 (stringToUtf16 s)
/-- a pool by its gaps: so many unusable entries, then the entry; so many at the end -/
def gap : Nat → List CpInfo → List CpInfo
  | 0, r => r
  | n + 1, r => .unusable :: gap n r
def poolList (es : List (Nat × CpInfo)) (last : Nat) : List CpInfo := es.foldr (fun e r => gap e.1 (e.2 :: r)) (gap last [])
def pool (es : List (Nat × CpInfo)) (last : Nat) : Array CpInfo := ⟨poolList es last⟩
def fileOf (pool : Array CpInfo) (this : Nat) (attrs : Array Attribute := #[]) (ms : Array MethodInfo := #[]) (fl : Nat := 33) (sup : Nat := 0) (ifs : Array Nat := #[]) (fds : Array FieldInfo := #[]) : ClassFile where
  minorVersion := 0
  majorVersion := 65
  constantPool := pool
  accessFlags := fl
  thisClass := this
  superClass := sup
  interfaces := ifs
  fields := fds
  methods := ms
  attributes := attrs
def plain (name : String) (sup : Option ClassId) : Class where
  name := name
  kind := .ordinary
  loader := none
  accessFlags := 33
  super := sup
  interfaces := #[]
  cf := none
  fields := #[]
  methods := #[]
  instanceTypes := #[]
  staticTypes := #[]
  resolved := #[]
  callSites := []
  init := .initialized
  statics := none
  mirror := none

def pool0 : Array CpInfo := pool [(5, u "<init>"), (0, u "()V"), (1, .class_ 10), (1, u "java/lang/Object"), (85, u "clone"), (0, u "()Ljava/lang/Object;")] 26

def k0c0 : Code := { maxStack := 0, maxLocals := 1, code := object_method_1_code, exceptionTable := #[], attributes := #[] }
def k0m0 : Method := { name := "<init>", desc := "()V", sig := { parameters := [], returnType := none }, accessFlags := 1, code := some k0c0 }
def k0m1 : Method := { name := "clone", desc := "()Ljava/lang/Object;", sig := { parameters := [], returnType := some (.object "java/lang/Object") }, accessFlags := 260, code := none }
/-- java/lang/Object -/
def k0 : Class := { plain "java/lang/Object" none with
  accessFlags := 33
  interfaces := #[]
  cf := some (fileOf pool0 8 #[] #[{ accessFlags := 1, nameIndex := 5, descriptorIndex := 6, attributes := #[] }, { accessFlags := 260, nameIndex := 96, descriptorIndex := 97, attributes := #[] }] 33 0 #[] #[])
  fields := #[]
  methods := #[k0m0, k0m1]
  instanceTypes := #[]
  staticTypes := #[]
  resolved := Array.replicate 124 none
  statics := none }

def pool1 : Array CpInfo := pool [(2, .class_ 4), (1, u "java/lang/Object"), (0, u "<init>"), (0, u "()V"), (0, .integer 2147483647), (0, .double 4611686018427387904), (1, .double 4613937818241073152), (1, .class_ 13), (0, u "com/example/copse/copse/solver/TreeEmbedding"), (0, .methodref 12 15), (0, .nameAndType 5 16), (0, u "(I[I[D)V"), (0, .methodref 12 18), (0, .nameAndType 19 20), (0, u "topDown"), (0, u "()[I"), (0, .methodref 22 23), (0, .class_ 24), (0, .nameAndType 25 26), (0, u "com/example/copse/copse/solver/TreeEmbeddingTopDownPinLaw"), (0, u "pos"), (0, u "([II)I"), (0, .methodref 22 28), (0, .nameAndType 29 30), (0, u "before"), (0, u "([III)I"), (2, u "law"), (0, u "(IIIIII)Z")] 7

def k1m0 : Method := { name := "<init>", desc := "()V", sig := { parameters := [], returnType := none }, accessFlags := 1, code := none }
def k1c1 : Code := { maxStack := 5, maxLocals := 17, code := code, exceptionTable := #[], attributes := #[] }
def k1m1 : Method := { name := "law", desc := "(IIIIII)Z", sig := { parameters := [.int, .int, .int, .int, .int, .int], returnType := some .boolean }, accessFlags := 9, code := some k1c1 }
def k1c2 : Code := { maxStack := 3, maxLocals := 3, code := method_3_code, exceptionTable := #[], attributes := #[] }
def k1m2 : Method := { name := "before", desc := "([III)I", sig := { parameters := [(.array .int), .int, .int], returnType := some .int }, accessFlags := 10, code := some k1c2 }
def k1c3 : Code := { maxStack := 4, maxLocals := 2, code := method_4_code, exceptionTable := #[], attributes := #[] }
def k1m3 : Method := { name := "pos", desc := "([II)I", sig := { parameters := [(.array .int), .int], returnType := some .int }, accessFlags := 10, code := some k1c3 }
/-- com/example/copse/copse/solver/TreeEmbeddingTopDownPinLaw -/
def k1 : Class := { plain "com/example/copse/copse/solver/TreeEmbeddingTopDownPinLaw" (some 0) with
  accessFlags := 49
  interfaces := #[]
  cf := some (fileOf pool1 22 #[] #[{ accessFlags := 1, nameIndex := 5, descriptorIndex := 6, attributes := #[] }, { accessFlags := 9, nameIndex := 33, descriptorIndex := 34, attributes := #[] }, { accessFlags := 10, nameIndex := 29, descriptorIndex := 30, attributes := #[] }, { accessFlags := 10, nameIndex := 25, descriptorIndex := 26, attributes := #[] }] 49 2 #[] #[])
  fields := #[]
  methods := #[k1m0, k1m1, k1m2, k1m3]
  instanceTypes := #[]
  staticTypes := #[]
  resolved := Array.replicate 42 none
  statics := none }

def pool2 : Array CpInfo := pool [(1, .methodref 2 3), (0, .class_ 4), (0, .nameAndType 5 6), (0, u "java/lang/Object"), (0, u "<init>"), (0, u "()V"), (14, .methodref 22 23), (0, .class_ 24), (0, .nameAndType 25 26), (0, u "java/lang/Double"), (0, u "isFinite"), (0, u "(D)Z"), (8, .fieldref 36 37), (0, .class_ 38), (0, .nameAndType 39 40), (0, u "com/example/copse/copse/solver/TreeEmbedding"), (0, u "vertexCount"), (0, u "I"), (0, .methodref 42 43), (0, .class_ 44), (0, .nameAndType 45 46), (0, u "[I"), (0, u "clone"), (0, u "()Ljava/lang/Object;"), (0, .fieldref 36 48), (0, .nameAndType 49 44), (0, u "parent"), (0, .methodref 51 43), (0, .class_ 52), (0, u "[D"), (0, .fieldref 36 54), (0, .nameAndType 55 52), (0, u "length"), (0, .fieldref 36 57), (0, .nameAndType 58 40), (0, u "root"), (0, .methodref 36 60), (0, .nameAndType 61 62), (0, u "depths"), (0, u "([II)[I"), (0, .fieldref 36 64), (0, .nameAndType 65 44), (0, u "depth"), (0, .methodref 67 68), (0, .class_ 69), (0, .nameAndType 70 71), (0, u "java/lang/Math"), (0, u "max"), (0, u "(II)I"), (0, .fieldref 36 73), (0, .nameAndType 74 40), (0, u "levels"), (0, .methodref 76 77), (0, .class_ 78), (0, .nameAndType 79 80), (0, u "java/util/Arrays"), (0, u "fill"), (0, u "([II)V"), (57, u "(I[I[D)V"), (0, u "LENGTHS_TOO_LARGE"), (0, u "Ljava/lang/String;"), (1, u "NOT_REACHED"), (1, u "ON_WALK"), (10, u "()[I"), (9, u "topDown")] 45

def k2c0 : Code := { maxStack := 6, maxLocals := 11, code := prog_63_method_1_code, exceptionTable := #[], attributes := #[] }
def k2m0 : Method := { name := "<init>", desc := "(I[I[D)V", sig := { parameters := [.int, (.array .int), (.array .double)], returnType := none }, accessFlags := 1, code := some k2c0 }
def k2c1 : Code := { maxStack := 3, maxLocals := 8, code := prog_63_method_2_code, exceptionTable := #[], attributes := #[] }
def k2m1 : Method := { name := "depths", desc := "([II)[I", sig := { parameters := [(.array .int), .int], returnType := some (.array .int) }, accessFlags := 10, code := some k2c1 }
def k2c2 : Code := { maxStack := 6, maxLocals := 6, code := prog_63_method_17_code, exceptionTable := #[], attributes := #[] }
def k2m2 : Method := { name := "topDown", desc := "()[I", sig := { parameters := [], returnType := some (.array .int) }, accessFlags := 1, code := some k2c2 }
/-- com/example/copse/copse/solver/TreeEmbedding -/
def k2 : Class := { plain "com/example/copse/copse/solver/TreeEmbedding" (some 0) with
  accessFlags := 33
  interfaces := #[]
  cf := some (fileOf pool2 36 #[] #[{ accessFlags := 1, nameIndex := 5, descriptorIndex := 138, attributes := #[] }, { accessFlags := 10, nameIndex := 61, descriptorIndex := 62, attributes := #[] }, { accessFlags := 1, nameIndex := 165, descriptorIndex := 155, attributes := #[] }] 33 2 #[] #[{ accessFlags := 24, nameIndex := 139, descriptorIndex := 140, attributes := #[] }, { accessFlags := 26, nameIndex := 142, descriptorIndex := 40, attributes := #[] }, { accessFlags := 26, nameIndex := 144, descriptorIndex := 40, attributes := #[] }, { accessFlags := 18, nameIndex := 39, descriptorIndex := 40, attributes := #[] }, { accessFlags := 18, nameIndex := 49, descriptorIndex := 44, attributes := #[] }, { accessFlags := 18, nameIndex := 55, descriptorIndex := 52, attributes := #[] }, { accessFlags := 18, nameIndex := 65, descriptorIndex := 44, attributes := #[] }, { accessFlags := 18, nameIndex := 58, descriptorIndex := 40, attributes := #[] }, { accessFlags := 18, nameIndex := 74, descriptorIndex := 40, attributes := #[] }])
  fields := #[{ name := "LENGTHS_TOO_LARGE", type := (.object "java/lang/String"), accessFlags := 24, slot := 0, constantValue := 0 }, { name := "NOT_REACHED", type := .int, accessFlags := 26, slot := 1, constantValue := 0 }, { name := "ON_WALK", type := .int, accessFlags := 26, slot := 2, constantValue := 0 }, { name := "vertexCount", type := .int, accessFlags := 18, slot := 0, constantValue := 0 }, { name := "parent", type := (.array .int), accessFlags := 18, slot := 1, constantValue := 0 }, { name := "length", type := (.array .double), accessFlags := 18, slot := 2, constantValue := 0 }, { name := "depth", type := (.array .int), accessFlags := 18, slot := 3, constantValue := 0 }, { name := "root", type := .int, accessFlags := 18, slot := 4, constantValue := 0 }, { name := "levels", type := .int, accessFlags := 18, slot := 5, constantValue := 0 }]
  methods := #[k2m0, k2m1, k2m2]
  instanceTypes := #[.int, (.array .int), (.array .double), (.array .int), .int, .int]
  staticTypes := #[(.object "java/lang/String"), .int, .int]
  resolved := Array.replicate 211 none
  statics := none }

def pool3 : Array CpInfo := pool [(1, .class_ 2), (0, u "java/io/Serializable"), (0, .class_ 4), (0, u "java/lang/Object")] 2

/-- java/io/Serializable -/
def k3 : Class := { plain "java/io/Serializable" (some 0) with
  accessFlags := 1537
  interfaces := #[]
  cf := some (fileOf pool3 1 #[] #[] 1537 3 #[] #[])
  fields := #[]
  methods := #[]
  instanceTypes := #[]
  staticTypes := #[]
  resolved := Array.replicate 7 none
  statics := none }

def pool4 : Array CpInfo := pool [(2, .class_ 4), (1, u "java/lang/Object"), (0, u "<init>"), (0, u "()V"), (1, .class_ 10), (1, u "java/lang/Number"), (2, .class_ 14), (0, u "java/io/Serializable"), (0, u "serialVersionUID"), (0, u "J")] 20

def k4m0 : Method := { name := "<init>", desc := "()V", sig := { parameters := [], returnType := none }, accessFlags := 1, code := none }
/-- java/lang/Number -/
def k4 : Class := { plain "java/lang/Number" (some 0) with
  accessFlags := 1057
  interfaces := #[3]
  cf := some (fileOf pool4 8 #[] #[{ accessFlags := 1, nameIndex := 5, descriptorIndex := 6, attributes := #[] }] 1057 2 #[13] #[{ accessFlags := 26, nameIndex := 15, descriptorIndex := 16, attributes := #[] }])
  fields := #[{ name := "serialVersionUID", type := .long, accessFlags := 26, slot := 0, constantValue := 0 }]
  methods := #[k4m0]
  instanceTypes := #[]
  staticTypes := #[.long]
  resolved := Array.replicate 37 none
  statics := none }

def pool5 : Array CpInfo := pool [(1, .class_ 2), (0, u "java/lang/Comparable"), (0, .class_ 4), (0, u "java/lang/Object")] 7

/-- java/lang/Comparable -/
def k5 : Class := { plain "java/lang/Comparable" (some 0) with
  accessFlags := 1537
  interfaces := #[]
  cf := some (fileOf pool5 1 #[] #[] 1537 3 #[] #[])
  fields := #[]
  methods := #[]
  instanceTypes := #[]
  staticTypes := #[]
  resolved := Array.replicate 12 none
  statics := none }

def pool6 : Array CpInfo := pool [(1, .class_ 2), (0, u "java/lang/constant/Constable"), (0, .class_ 4), (0, u "java/lang/Object")] 6

/-- java/lang/constant/Constable -/
def k6 : Class := { plain "java/lang/constant/Constable" (some 0) with
  accessFlags := 1537
  interfaces := #[]
  cf := some (fileOf pool6 1 #[] #[] 1537 3 #[] #[])
  fields := #[]
  methods := #[]
  instanceTypes := #[]
  staticTypes := #[]
  resolved := Array.replicate 11 none
  statics := none }

def pool7 : Array CpInfo := pool [(1, .class_ 2), (0, u "java/lang/constant/ConstantDesc"), (0, .class_ 4), (0, u "java/lang/Object")] 32

/-- java/lang/constant/ConstantDesc -/
def k7 : Class := { plain "java/lang/constant/ConstantDesc" (some 0) with
  accessFlags := 1537
  interfaces := #[]
  cf := some (fileOf pool7 1 #[] #[] 1537 3 #[] #[])
  fields := #[]
  methods := #[]
  instanceTypes := #[]
  staticTypes := #[]
  resolved := Array.replicate 37 none
  statics := none }

def pool8 : Array CpInfo := pool [(1, .class_ 2), (0, u "java/lang/Double"), (10, u "isFinite"), (0, u "(D)Z"), (8, .class_ 25), (1, u "java/lang/Math"), (12, .methodref 23 39), (0, .nameAndType 40 41), (0, u "abs"), (0, u "(D)D"), (69, .double 9218868437227405311), (2, .class_ 116), (1, u "java/lang/Number"), (3, u "value"), (0, u "D"), (51, u "TYPE"), (0, u "Ljava/lang/Class;"), (0, .class_ 176), (0, u "java/lang/Comparable"), (0, .class_ 178), (0, u "java/lang/constant/Constable"), (0, .class_ 180), (0, u "java/lang/constant/ConstantDesc"), (0, u "POSITIVE_INFINITY"), (3, u "NEGATIVE_INFINITY"), (2, u "NaN"), (2, u "MAX_VALUE"), (0, u "MIN_NORMAL"), (0, u "MIN_VALUE"), (2, u "SIZE"), (0, u "I"), (1, u "PRECISION"), (1, u "MAX_EXPONENT"), (1, u "MIN_EXPONENT"), (1, u "BYTES"), (3, u "serialVersionUID"), (0, u "J")] 79

def k8c0 : Code := { maxStack := 4, maxLocals := 2, code := jdk_117_method_8_code, exceptionTable := #[], attributes := #[] }
def k8m0 : Method := { name := "isFinite", desc := "(D)Z", sig := { parameters := [.double], returnType := some .boolean }, accessFlags := 9, code := some k8c0 }
/-- java/lang/Double -/
def k8 : Class := { plain "java/lang/Double" (some 4) with
  accessFlags := 49
  interfaces := #[5, 6, 7]
  cf := some (fileOf pool8 1 #[] #[{ accessFlags := 9, nameIndex := 13, descriptorIndex := 14, attributes := #[] }] 49 114 #[175, 177, 179] #[{ accessFlags := 25, nameIndex := 181, descriptorIndex := 121, attributes := #[] }, { accessFlags := 25, nameIndex := 185, descriptorIndex := 121, attributes := #[] }, { accessFlags := 25, nameIndex := 188, descriptorIndex := 121, attributes := #[] }, { accessFlags := 25, nameIndex := 191, descriptorIndex := 121, attributes := #[] }, { accessFlags := 25, nameIndex := 192, descriptorIndex := 121, attributes := #[] }, { accessFlags := 25, nameIndex := 193, descriptorIndex := 121, attributes := #[] }, { accessFlags := 25, nameIndex := 196, descriptorIndex := 197, attributes := #[] }, { accessFlags := 25, nameIndex := 199, descriptorIndex := 197, attributes := #[] }, { accessFlags := 25, nameIndex := 201, descriptorIndex := 197, attributes := #[] }, { accessFlags := 25, nameIndex := 203, descriptorIndex := 197, attributes := #[] }, { accessFlags := 25, nameIndex := 205, descriptorIndex := 197, attributes := #[] }, { accessFlags := 25, nameIndex := 173, descriptorIndex := 174, attributes := #[] }, { accessFlags := 18, nameIndex := 120, descriptorIndex := 121, attributes := #[] }, { accessFlags := 26, nameIndex := 209, descriptorIndex := 210, attributes := #[] }])
  fields := #[{ name := "POSITIVE_INFINITY", type := .double, accessFlags := 25, slot := 0, constantValue := 0 }, { name := "NEGATIVE_INFINITY", type := .double, accessFlags := 25, slot := 1, constantValue := 0 }, { name := "NaN", type := .double, accessFlags := 25, slot := 2, constantValue := 0 }, { name := "MAX_VALUE", type := .double, accessFlags := 25, slot := 3, constantValue := 0 }, { name := "MIN_NORMAL", type := .double, accessFlags := 25, slot := 4, constantValue := 0 }, { name := "MIN_VALUE", type := .double, accessFlags := 25, slot := 5, constantValue := 0 }, { name := "SIZE", type := .int, accessFlags := 25, slot := 6, constantValue := 0 }, { name := "PRECISION", type := .int, accessFlags := 25, slot := 7, constantValue := 0 }, { name := "MAX_EXPONENT", type := .int, accessFlags := 25, slot := 8, constantValue := 0 }, { name := "MIN_EXPONENT", type := .int, accessFlags := 25, slot := 9, constantValue := 0 }, { name := "BYTES", type := .int, accessFlags := 25, slot := 10, constantValue := 0 }, { name := "TYPE", type := (.object "java/lang/Class"), accessFlags := 25, slot := 11, constantValue := 0 }, { name := "value", type := .double, accessFlags := 18, slot := 0, constantValue := 0 }, { name := "serialVersionUID", type := .long, accessFlags := 26, slot := 12, constantValue := 0 }]
  methods := #[k8m0]
  instanceTypes := #[.double]
  staticTypes := #[.double, .double, .double, .double, .double, .double, .int, .int, .int, .int, .int, (.object "java/lang/Class"), .long]
  resolved := Array.replicate 290 none
  statics := none }

def pool9 : Array CpInfo := pool [(1, .class_ 2), (0, u "java/lang/Math"), (1, .class_ 6), (1, u "java/lang/Object"), (0, u "<init>"), (0, u "()V"), (5, u "(D)D"), (83, .class_ 100), (1, u "java/lang/Math$RandomNumberGeneratorHolder"), (23, u "abs"), (47, u "negativeZeroFloatBits"), (0, u "J"), (2, u "negativeZeroDoubleBits"), (21, u "max"), (46, u "$assertionsDisabled"), (0, u "Z"), (88, u "(II)I"), (2, u "twoToTheDoubleScaleDown"), (0, u "D"), (4, u "twoToTheDoubleScaleUp"), (9, u "E"), (3, u "PI"), (2, u "TAU"), (2, u "DEGREES_TO_RADIANS"), (0, u "RADIANS_TO_DEGREES")] 94

def k9m0 : Method := { name := "<init>", desc := "()V", sig := { parameters := [], returnType := none }, accessFlags := 2, code := none }
def k9c1 : Code := { maxStack := 4, maxLocals := 2, code := jdk_29_method_64_code, exceptionTable := #[], attributes := #[] }
def k9m1 : Method := { name := "abs", desc := "(D)D", sig := { parameters := [.double], returnType := some .double }, accessFlags := 9, code := some k9c1 }
def k9c2 : Code := { maxStack := 2, maxLocals := 2, code := jdk_29_method_65_code, exceptionTable := #[], attributes := #[] }
def k9m2 : Method := { name := "max", desc := "(II)I", sig := { parameters := [.int, .int], returnType := some .int }, accessFlags := 9, code := some k9c2 }
/-- java/lang/Math -/
def k9 : Class := { plain "java/lang/Math" (some 0) with
  accessFlags := 49
  interfaces := #[]
  cf := some (fileOf pool9 1 #[.nestMembers #[98]] #[{ accessFlags := 2, nameIndex := 7, descriptorIndex := 8, attributes := #[] }, { accessFlags := 9, nameIndex := 124, descriptorIndex := 14, attributes := #[] }, { accessFlags := 9, nameIndex := 198, descriptorIndex := 335, attributes := #[] }] 49 4 #[] #[{ accessFlags := 25, nameIndex := 354, descriptorIndex := 339, attributes := #[] }, { accessFlags := 25, nameIndex := 358, descriptorIndex := 339, attributes := #[] }, { accessFlags := 25, nameIndex := 361, descriptorIndex := 339, attributes := #[] }, { accessFlags := 26, nameIndex := 364, descriptorIndex := 339, attributes := #[] }, { accessFlags := 26, nameIndex := 365, descriptorIndex := 339, attributes := #[] }, { accessFlags := 26, nameIndex := 172, descriptorIndex := 173, attributes := #[] }, { accessFlags := 26, nameIndex := 176, descriptorIndex := 173, attributes := #[] }, { accessFlags := 8, nameIndex := 344, descriptorIndex := 339, attributes := #[] }, { accessFlags := 8, nameIndex := 338, descriptorIndex := 339, attributes := #[] }, { accessFlags := 4120, nameIndex := 245, descriptorIndex := 246, attributes := #[] }])
  fields := #[{ name := "E", type := .double, accessFlags := 25, slot := 0, constantValue := 0 }, { name := "PI", type := .double, accessFlags := 25, slot := 1, constantValue := 0 }, { name := "TAU", type := .double, accessFlags := 25, slot := 2, constantValue := 0 }, { name := "DEGREES_TO_RADIANS", type := .double, accessFlags := 26, slot := 3, constantValue := 0 }, { name := "RADIANS_TO_DEGREES", type := .double, accessFlags := 26, slot := 4, constantValue := 0 }, { name := "negativeZeroFloatBits", type := .long, accessFlags := 26, slot := 5, constantValue := 0 }, { name := "negativeZeroDoubleBits", type := .long, accessFlags := 26, slot := 6, constantValue := 0 }, { name := "twoToTheDoubleScaleUp", type := .double, accessFlags := 8, slot := 7, constantValue := 0 }, { name := "twoToTheDoubleScaleDown", type := .double, accessFlags := 8, slot := 8, constantValue := 0 }, { name := "$assertionsDisabled", type := .boolean, accessFlags := 4120, slot := 9, constantValue := 0 }]
  methods := #[k9m0, k9m1, k9m2]
  instanceTypes := #[]
  staticTypes := #[.double, .double, .double, .double, .double, .long, .long, .double, .double, .boolean]
  resolved := Array.replicate 460 none
  statics := none }

def pool10 : Array CpInfo := pool [(1, .class_ 2), (0, u "java/lang/Cloneable"), (0, .class_ 4), (0, u "java/lang/Object")] 2

/-- java/lang/Cloneable -/
def k10 : Class := { plain "java/lang/Cloneable" (some 0) with
  accessFlags := 1537
  interfaces := #[]
  cf := some (fileOf pool10 1 #[] #[] 1537 3 #[] #[])
  fields := #[]
  methods := #[]
  instanceTypes := #[]
  staticTypes := #[]
  resolved := Array.replicate 7 none
  statics := none }

def pool11 : Array CpInfo := pool [(2, .class_ 4), (1, u "java/lang/Object"), (0, u "<init>"), (0, u "()V"), (7, .class_ 16), (1, u "java/util/Arrays"), (57, .class_ 76), (1, u "java/util/Arrays$NaturalOrder"), (36, .class_ 115), (1, u "java/util/Arrays$LegacyMergeSort"), (1, u "Z"), (257, .class_ 376), (0, u "java/util/Arrays$ArrayList"), (68, u "$assertionsDisabled"), (269, u "MIN_ARRAY_SORT_GRAN"), (0, u "I"), (2, u "INSERTIONSORT_THRESHOLD"), (120, u "fill"), (4, u "([II)V"), (129, .class_ 976), (0, u "java/util/Arrays$ArrayItr")] 52

def k11m0 : Method := { name := "<init>", desc := "()V", sig := { parameters := [], returnType := none }, accessFlags := 2, code := none }
def k11c1 : Code := { maxStack := 3, maxLocals := 4, code := jdk_65_method_103_code, exceptionTable := #[], attributes := #[] }
def k11m1 : Method := { name := "fill", desc := "([II)V", sig := { parameters := [(.array .int), .int], returnType := none }, accessFlags := 9, code := some k11c1 }
/-- java/util/Arrays -/
def k11 : Class := { plain "java/util/Arrays" (some 0) with
  accessFlags := 49
  interfaces := #[]
  cf := some (fileOf pool11 14 #[.nestMembers #[975, 375, 113, 74]] #[{ accessFlags := 2, nameIndex := 5, descriptorIndex := 6, attributes := #[] }, { accessFlags := 9, nameIndex := 840, descriptorIndex := 845, attributes := #[] }] 49 2 #[] #[{ accessFlags := 26, nameIndex := 715, descriptorIndex := 716, attributes := #[] }, { accessFlags := 26, nameIndex := 719, descriptorIndex := 716, attributes := #[] }, { accessFlags := 4120, nameIndex := 445, descriptorIndex := 117, attributes := #[] }])
  fields := #[{ name := "MIN_ARRAY_SORT_GRAN", type := .int, accessFlags := 26, slot := 0, constantValue := 0 }, { name := "INSERTIONSORT_THRESHOLD", type := .int, accessFlags := 26, slot := 1, constantValue := 0 }, { name := "$assertionsDisabled", type := .boolean, accessFlags := 4120, slot := 2, constantValue := 0 }]
  methods := #[k11m0, k11m1]
  instanceTypes := #[]
  staticTypes := #[.int, .int, .boolean]
  resolved := Array.replicate 1029 none
  statics := none }

/-- the primitive byte -/
def k12 : Class := { plain "byte" none with kind := .primitive 'B', accessFlags := 0x411 }
/-- [B -/
def k13 : Class := { plain "[B" (some 0) with kind := .array 12 .byte, interfaces := #[10, 3], accessFlags := 1041 }

/-- the primitive double -/
def k14 : Class := { plain "double" none with kind := .primitive 'D', accessFlags := 0x411 }
/-- [D -/
def k15 : Class := { plain "[D" (some 0) with kind := .array 14 .double, interfaces := #[10, 3], accessFlags := 1041 }

/-- the primitive int -/
def k16 : Class := { plain "int" none with kind := .primitive 'I', accessFlags := 0x411 }
/-- [I -/
def k17 : Class := { plain "[I" (some 0) with kind := .array 16 .int, interfaces := #[10, 3], accessFlags := 1041 }

def heap : Heap := #[]
def classes : Array Class := #[k0, k1, k2, k3, k4, k5, k6, k7, k8, k9, k10, k11, k12, k13, k14, k15, k16, k17]
def interned : List (Array UInt16 × Addr) := []
def slotsUsed : Nat := 0
def theMethod : MethodId := ⟨1, 1⟩
def args0 : Array Value := #[.int 5, .int 6, .int 7, .int 8, .int 9, .int 10]
def aboutOver (below : List Frame) : State where
  vm := { classes := classes, interned := interned.toArray }
  heap := heap
  slotsUsed := slotsUsed
  threads := #[{ frames := .invoking theMethod args0 :: below }]
def below0 : List Frame := [.native { method := ⟨0, 0⟩, args := #[] }]
def about1 : State := aboutOver below0
def p0 : Program := .bare "" "" ""
def e0 : Env := launch0.env 0 0 0
theorem w_frames : about1.frames = Frame.invoking theMethod args0 :: below0 := rfl
set_option maxRecDepth 65536 in
theorem w_args : argsFit about1.vm theMethod args0 = true := by decide +kernel
set_option maxRecDepth 65536 in
theorem w_heap : heapFits about1 = true := by decide +kernel
set_option maxRecDepth 65536 in
theorem w_runnable : about1.curStatus? = some .runnable := by decide +kernel
set_option maxRecDepth 65536 in
theorem w_alone : about1.alone = true := by decide +kernel
set_option maxRecDepth 65536 in
theorem w_named : about1.methodNamed? x = some theMethod := by decide +kernel
set_option maxRecDepth 65536 in
theorem w_hears : about1.hears theMethod below0 = true := by decide +kernel
set_option maxRecDepth 65536 in
theorem w_ripe : about1.ripe theMethod args0 below0 = true := by decide +kernel
theorem w_running : about1.status = .running := rfl
set_option maxRecDepth 65536 in
theorem w_room : about1.hasRoom e0.platform room_1 = true :=
  launch0.hasRoom_least _ room_1 (by decide +kernel) (by decide +kernel) (by decide +kernel) (by decide +kernel) (by decide +kernel) (by decide +kernel)
theorem allAtoms_all (ts : List Jvm.Cond) (a : Array Jvm.Value) (st : Jvm.State) : (allAtoms ts).before a st = ts.all (fun c => c.before a st) := by
  induction ts with
  | nil => rfl
  | cons c t ih =>
    show (Jvm.Cond.and c (allAtoms t)).before a st = _
    rw [Jvm.Cond.before_and, ih, List.all_cons]
def words1 : List Jvm.Cond := Jvm.Cond.code x code maxLocals ret :: tables_1
/-- a 'code' word, met by the world's own term for the bytes: nothing is compared byte by byte -/
theorem code_word {y : MethodName} {bytes : ByteArray} {mx : Nat} {rt : Option FieldType} {a : Array Value} {s : State} {m : MethodId} {meth : Method} {c : Code} (h1 : s.methodNamed? y = some m) (h2 : s.vm.method? m = some meth) (h3 : meth.code = some c) (h4 : c.code = bytes)
    (h5 : (c.maxLocals == mx && c.exceptionTable.isEmpty && decide (c.maxStack ≤ mostOperands) && decide (meth.sig.returnType = rt) && !meth.locks && decide (parseMethodDescriptor y.desc = some meth.sig)) = true) : (Jvm.Cond.code y bytes mx rt).before a s = true := by
  simp only [Bool.and_eq_true, beq_iff_eq, Bool.not_eq_true', decide_eq_true_eq] at h5
  obtain ⟨⟨⟨⟨⟨g1, g2⟩, g3⟩, g4⟩, g5⟩, g6⟩ := h5
  simp [Cond.before, Cond.holds, Cond.value, h1, h2, h3, h4, g1, g2, g3, g4, g5, g6]
def isCode : Jvm.Cond → Bool
  | .code _ _ _ _ => true
  | _ => false
theorem all_split {L : List Jvm.Cond} {P : Jvm.Cond → Bool} (h1 : L.all (fun c => isCode c || P c) = true) (h2 : ∀ c ∈ L.filter isCode, P c = true) : L.all P = true := by
  refine List.all_eq_true.mpr fun c hc => ?_
  have h := List.all_eq_true.mp h1 c hc
  rcases Bool.eq_false_or_eq_true (isCode c) with hi | hi
  · exact h2 c (List.mem_filter.mpr ⟨hc, hi⟩)
  · simpa [hi] using h
set_option maxRecDepth 65536 in
theorem w_c0 : (Jvm.Cond.code x code maxLocals ret).before args0 about1 = true := code_word (m := ⟨1, 1⟩) (meth := k1m1) (c := k1c1) (by decide +kernel) rfl rfl rfl (by decide +kernel)
set_option maxRecDepth 65536 in
theorem w_c1 : (Jvm.Cond.code ({ cls := "com/example/copse/copse/solver/TreeEmbedding", name := "<init>", desc := "(I[I[D)V" } : Jvm.MethodName) prog_63_method_1_code (11 : Nat) (Option.none : Option Jvm.ClassFile.FieldType)).before args0 about1 = true := code_word (m := ⟨2, 0⟩) (meth := k2m0) (c := k2c0) (by decide +kernel) rfl rfl rfl (by decide +kernel)
set_option maxRecDepth 65536 in
theorem w_c2 : (Jvm.Cond.code ({ cls := "java/lang/Object", name := "<init>", desc := "()V" } : Jvm.MethodName) object_method_1_code (1 : Nat) (Option.none : Option Jvm.ClassFile.FieldType)).before args0 about1 = true := code_word (m := ⟨0, 0⟩) (meth := k0m0) (c := k0c0) (by decide +kernel) rfl rfl rfl (by decide +kernel)
set_option maxRecDepth 65536 in
theorem w_c3 : (Jvm.Cond.code ({ cls := "java/lang/Double", name := "isFinite", desc := "(D)Z" } : Jvm.MethodName) jdk_117_method_8_code (2 : Nat) (Option.some Jvm.ClassFile.FieldType.boolean)).before args0 about1 = true := code_word (m := ⟨8, 0⟩) (meth := k8m0) (c := k8c0) (by decide +kernel) rfl rfl rfl (by decide +kernel)
set_option maxRecDepth 65536 in
theorem w_c4 : (Jvm.Cond.code ({ cls := "java/lang/Math", name := "abs", desc := "(D)D" } : Jvm.MethodName) jdk_29_method_64_code (2 : Nat) (Option.some Jvm.ClassFile.FieldType.double)).before args0 about1 = true := code_word (m := ⟨9, 1⟩) (meth := k9m1) (c := k9c1) (by decide +kernel) rfl rfl rfl (by decide +kernel)
set_option maxRecDepth 65536 in
theorem w_c5 : (Jvm.Cond.code ({ cls := "com/example/copse/copse/solver/TreeEmbedding", name := "depths", desc := "([II)[I" } : Jvm.MethodName) prog_63_method_2_code (8 : Nat) (Option.some (Jvm.ClassFile.FieldType.array Jvm.ClassFile.FieldType.int))).before args0 about1 = true := code_word (m := ⟨2, 1⟩) (meth := k2m1) (c := k2c1) (by decide +kernel) rfl rfl rfl (by decide +kernel)
set_option maxRecDepth 65536 in
theorem w_c6 : (Jvm.Cond.code ({ cls := "java/util/Arrays", name := "fill", desc := "([II)V" } : Jvm.MethodName) jdk_65_method_103_code (4 : Nat) (Option.none : Option Jvm.ClassFile.FieldType)).before args0 about1 = true := code_word (m := ⟨11, 1⟩) (meth := k11m1) (c := k11c1) (by decide +kernel) rfl rfl rfl (by decide +kernel)
set_option maxRecDepth 65536 in
theorem w_c7 : (Jvm.Cond.code ({ cls := "java/lang/Math", name := "max", desc := "(II)I" } : Jvm.MethodName) jdk_29_method_65_code (2 : Nat) (Option.some Jvm.ClassFile.FieldType.int)).before args0 about1 = true := code_word (m := ⟨9, 2⟩) (meth := k9m2) (c := k9c2) (by decide +kernel) rfl rfl rfl (by decide +kernel)
set_option maxRecDepth 65536 in
theorem w_c8 : (Jvm.Cond.code ({ cls := "com/example/copse/copse/solver/TreeEmbedding", name := "topDown", desc := "()[I" } : Jvm.MethodName) prog_63_method_17_code (6 : Nat) (Option.some (Jvm.ClassFile.FieldType.array Jvm.ClassFile.FieldType.int))).before args0 about1 = true := code_word (m := ⟨2, 2⟩) (meth := k2m2) (c := k2c2) (by decide +kernel) rfl rfl rfl (by decide +kernel)
set_option maxRecDepth 65536 in
theorem w_c9 : (Jvm.Cond.code ({ cls := "com/example/copse/copse/solver/TreeEmbeddingTopDownPinLaw", name := "pos", desc := "([II)I" } : Jvm.MethodName) method_4_code (2 : Nat) (Option.some Jvm.ClassFile.FieldType.int)).before args0 about1 = true := code_word (m := ⟨1, 3⟩) (meth := k1m3) (c := k1c3) (by decide +kernel) rfl rfl rfl (by decide +kernel)
set_option maxRecDepth 65536 in
theorem w_c10 : (Jvm.Cond.code ({ cls := "com/example/copse/copse/solver/TreeEmbeddingTopDownPinLaw", name := "before", desc := "([III)I" } : Jvm.MethodName) method_3_code (3 : Nat) (Option.some Jvm.ClassFile.FieldType.int)).before args0 about1 = true := code_word (m := ⟨1, 2⟩) (meth := k1m2) (c := k1c2) (by decide +kernel) rfl rfl rfl (by decide +kernel)
def codes1 : List Jvm.Cond := [Jvm.Cond.code x code maxLocals ret, Jvm.Cond.code ({ cls := "com/example/copse/copse/solver/TreeEmbedding", name := "<init>", desc := "(I[I[D)V" } : Jvm.MethodName) prog_63_method_1_code (11 : Nat) (Option.none : Option Jvm.ClassFile.FieldType), Jvm.Cond.code ({ cls := "java/lang/Object", name := "<init>", desc := "()V" } : Jvm.MethodName) object_method_1_code (1 : Nat) (Option.none : Option Jvm.ClassFile.FieldType), Jvm.Cond.code ({ cls := "java/lang/Double", name := "isFinite", desc := "(D)Z" } : Jvm.MethodName) jdk_117_method_8_code (2 : Nat) (Option.some Jvm.ClassFile.FieldType.boolean), Jvm.Cond.code ({ cls := "java/lang/Math", name := "abs", desc := "(D)D" } : Jvm.MethodName) jdk_29_method_64_code (2 : Nat) (Option.some Jvm.ClassFile.FieldType.double), Jvm.Cond.code ({ cls := "com/example/copse/copse/solver/TreeEmbedding", name := "depths", desc := "([II)[I" } : Jvm.MethodName) prog_63_method_2_code (8 : Nat) (Option.some (Jvm.ClassFile.FieldType.array Jvm.ClassFile.FieldType.int)), Jvm.Cond.code ({ cls := "java/util/Arrays", name := "fill", desc := "([II)V" } : Jvm.MethodName) jdk_65_method_103_code (4 : Nat) (Option.none : Option Jvm.ClassFile.FieldType), Jvm.Cond.code ({ cls := "java/lang/Math", name := "max", desc := "(II)I" } : Jvm.MethodName) jdk_29_method_65_code (2 : Nat) (Option.some Jvm.ClassFile.FieldType.int), Jvm.Cond.code ({ cls := "com/example/copse/copse/solver/TreeEmbedding", name := "topDown", desc := "()[I" } : Jvm.MethodName) prog_63_method_17_code (6 : Nat) (Option.some (Jvm.ClassFile.FieldType.array Jvm.ClassFile.FieldType.int)), Jvm.Cond.code ({ cls := "com/example/copse/copse/solver/TreeEmbeddingTopDownPinLaw", name := "pos", desc := "([II)I" } : Jvm.MethodName) method_4_code (2 : Nat) (Option.some Jvm.ClassFile.FieldType.int), Jvm.Cond.code ({ cls := "com/example/copse/copse/solver/TreeEmbeddingTopDownPinLaw", name := "before", desc := "([III)I" } : Jvm.MethodName) method_3_code (3 : Nat) (Option.some Jvm.ClassFile.FieldType.int)]
set_option maxRecDepth 65536 in
theorem codes_eq : words1.filter isCode = codes1 := rfl
theorem w_codes : ∀ c ∈ words1.filter isCode, c.before args0 about1 = true := by
  rw [codes_eq]
  intro c hc
  simp only [codes1, List.mem_cons, List.not_mem_nil, or_false] at hc
  rcases hc with rfl | rfl | rfl | rfl | rfl | rfl | rfl | rfl | rfl | rfl | rfl
  · exact w_c0
  · exact w_c1
  · exact w_c2
  · exact w_c3
  · exact w_c4
  · exact w_c5
  · exact w_c6
  · exact w_c7
  · exact w_c8
  · exact w_c9
  · exact w_c10
set_option maxRecDepth 65536 in
theorem w_t1 : (words1.take 24).all (fun c => isCode c || c.before args0 about1) = true := by decide +kernel
set_option maxRecDepth 65536 in
theorem w_t2 : ((words1.drop 24).take 24).all (fun c => isCode c || c.before args0 about1) = true := by decide +kernel
set_option maxRecDepth 65536 in
theorem w_t3 : (((words1.drop 24).drop 24).take 24).all (fun c => isCode c || c.before args0 about1) = true := by decide +kernel
set_option maxRecDepth 65536 in
theorem w_t4 : (((words1.drop 24).drop 24).drop 24).all (fun c => isCode c || c.before args0 about1) = true := by decide +kernel
theorem w_tables : (allAtoms (Jvm.Cond.code x code maxLocals ret :: tables_1)).before args0 about1 = true := by
  rw [allAtoms_all]
  show words1.all (fun c => c.before args0 about1) = true
  refine all_split ?_ w_codes
  rw [← List.take_append_drop 24 words1, List.all_append, w_t1, ← List.take_append_drop 24 (words1.drop 24), List.all_append, w_t2, ← List.take_append_drop 24 ((words1.drop 24).drop 24), List.all_append, w_t3, w_t4]
  rfl
set_option maxRecDepth 65536 in
theorem w_case : (Jvm.Cond.and given_1 narrow_1).before args0 about1 = true := by decide +kernel
theorem w_applies : (headSpec (Jvm.Cond.code x code maxLocals ret :: tables_1) room_1).applies x e0.platform about1 = true :=
  (Spec.applies_iff w_frames).mpr ⟨w_running, w_runnable, w_alone, w_named, w_hears, w_ripe, w_room, w_tables⟩
theorem atStart : AtStart classFile x code maxLocals ret World_1 tables_1 room_1 Calls_1 rest_1 Pre_1 launch0 p0 e0 about1 theMethod args0 below0 :=
  ⟨lists_1, trivial, launch0.admits_env _ _ _, launch0.least_env, fairChoices_fair.cas, fairChoices_fair.clock, w_frames, w_args, w_heap, w_applies, trivial, trivial, w_case⟩
end start1
theorem witness_1 : WitnessClaimed_1 := ⟨start1.p0, start1.e0, start1.about1, start1.theMethod, start1.args0, start1.below0, start1.atStart⟩
end Jvm.Pilot.@@N@@
