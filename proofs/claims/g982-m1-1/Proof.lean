import JvmDerived
import JvmDerived.Pilot.@@N@@Statement
import JvmDerived.Pilot.@@N@@Code
set_option linter.unusedVariables false
set_option linter.unusedSimpArgs false
namespace Jvm.Own
open Jvm Jvm.ClassFile Sem Op Lib Jvm.Free Jvm.Stand Jvm.LawKit Jvm.RoadKit Bundle
/-! the abstract machine: values with the objects named by their place in a list -/
abbrev Obj : Type := Nat × List Value
abbrev AH : Type := List Obj
abbrev Orc : Type := Option (List Bool × List Int32)
abbrev Ent : Type := Instr × Option Bool × List Nat × Value
abbrev PR : Type := List Prop × Orc × Nat × List Slot × List Value
def gv (g : Nat → Addr) : Value → Value
  | .ref i => .ref (g i)
  | .int x => .int x
  | .long x => .long x
  | .float x => .float x
  | .double x => .double x
  | .null => .null
  | .retAddr p => .retAddr p
def gs (g : Nat → Addr) : Slot → Slot
  | .val v => .val (gv g v)
  | .unset => .unset
  | .second => .second
abbrev gL (g : Nat → Addr) (L : List Slot) : Array Slot := (L.map (gs g)).toArray
abbrev gS (g : Nat → Addr) (S : List Value) : List Value := S.map (gv g)
theorem gv_cat (g : Nat → Addr) (v : Value) : (gv g v).category = v.category := by cases v <;> rfl
theorem gv_isRef (g : Nat → Addr) (v : Value) : (gv g v).isRef = v.isRef := by cases v <;> rfl
theorem gS_cat (g : Nat → Addr) (S : List Value) : ((gS g S).map fun v => v.category).sum = (S.map fun v => v.category).sum := by
  induction S with
  | nil => rfl
  | cons v r ih => simp only [List.map_cons, List.sum_cons, gv_cat] at ih ⊢; rw [ih]
theorem gL_get {g : Nat → Addr} {L : List Slot} {k : Nat} {s : Slot} (h : L[k]? = some s) : (gL g L)[k]? = some (gs g s) := by simp [gL, h]
theorem gL_len (g : Nat → Addr) (L : List Slot) : (gL g L).size = L.length := by simp [gL]
def ask (o : Orc) (b : Bool) : Option (Bool × Orc × List Prop) :=
  match o with
  | none => some (b, none, [])
  | some ([], _) => none
  | some (x :: r, q) => some (x, some (r, q), [b = x])
def need (o : Orc) (P : Prop) [Decidable P] : Option (List Prop) :=
  match o with
  | none => if P then some [] else none
  | some _ => some [P]
theorem ask_ok {o o' : Orc} {b x : Bool} {cs : List Prop} (h : ask o b = some (x, o', cs)) (hc : ∀ P ∈ cs, P) : b = x := by
  unfold ask at h
  split at h
  · cases h; rfl
  · cases h
  · cases h; exact hc _ (List.mem_singleton.mpr rfl)
theorem need_ok {o : Orc} {P : Prop} [Decidable P] {cs : List Prop} (h : need o P = some cs) (hc : ∀ P ∈ cs, P) : P := by
  unfold need at h
  split at h
  · split at h
    · assumption
    · cases h
  · cases h; exact hc _ (List.mem_singleton.mpr rfl)
/-- an instruction's length -/
def ilen : Instr → Nat
  | .bipush _ | .iload _ | .lload _ | .dload _ | .aload _ | .istore _ | .lstore _ | .dstore _ | .astore _ | .newarray _ | .ldc _ => 2
  | .sipush _ | .iinc _ _ | .goto _ | .ifCond _ _ | .if_icmp _ _ | .if_acmp _ _ | .ifnull _ | .ifnonnull _ | .ldc_w _ | .ldc2_w _ => 3
  | .getfield _ | .putfield _ | .getstatic _ | .new _ | .anewarray _ | .checkcast _ | .instanceof _ | .invokestatic _ | .invokespecial _ | .invokevirtual _ => 3
  | .invokeinterface _ _ => 5
  | _ => 1
/-! constants -/
def cst : Instr → Option Value
  | .iconst i => some (.int (Int32.ofInt i))
  | .bipush i => some (.int (Int8.ofInt i).toInt32)
  | .sipush i => some (.int (Int16.ofInt i).toInt32)
  | .lconst 0 => some (.long 0)
  | .lconst 1 => some (.long 1)
  | .dconst 0 => some (.double 0)
  | .dconst 1 => some (.double 4607182418800017408)
  | .aconst_null => some .null
  | _ => none
/-! loads -/
def ldi : Instr → Nat
  | .iload k => k | .lload k => k | .dload k => k | .aload k => k
  | .iload_n k => k.val | .lload_n k => k.val | .dload_n k => k.val | .aload_n k => k.val
  | _ => 0
/-! stores -/
def sti : Instr → Nat
  | .istore k => k | .lstore k => k | .dstore k => k | .astore k => k
  | .istore_n k => k.val | .lstore_n k => k.val | .dstore_n k => k.val | .astore_n k => k.val
  | _ => 0
def stok : Instr → Value → Bool
  | .istore _, .int _ => true
  | .istore_n _, .int _ => true
  | .lstore _, .long _ => true
  | .lstore_n _, .long _ => true
  | .dstore _, .double _ => true
  | .dstore_n _, .double _ => true
  | .astore _, .ref _ => true
  | .astore _, .null => true
  | .astore_n _, .ref _ => true
  | .astore_n _, .null => true
  | _, _ => false
def ldok : Instr → Value → Bool
  | .iload _, .int _ => true
  | .iload_n _, .int _ => true
  | .lload _, .long _ => true
  | .lload_n _, .long _ => true
  | .dload _, .double _ => true
  | .dload_n _, .double _ => true
  | .aload _, .ref _ => true
  | .aload _, .null => true
  | .aload_n _, .ref _ => true
  | .aload_n _, .null => true
  | _, _ => false
def setL (L : List Slot) (i : Nat) (x : Slot) : Option (List Slot) := if i < L.length then some (L.set i x) else none
def stSelf (L : List Slot) (i : Nat) (v : Value) : Option (List Slot) :=
  (setL L i (.val v)).bind fun L =>
  if v.category = 2 then
    match L[i + 1]? with
    | none => none
    | some (.val old) => if old.category = 2 then (setL L (i + 2) .unset).bind fun L => setL L (i + 1) .second else setL L (i + 1) .second
    | some _ => setL L (i + 1) .second
  else some L
def stL (L : List Slot) (i : Nat) (v : Value) : Option (List Slot) :=
  match L[i]? with
  | none => none
  | some .second => (setL L (i - 1) .unset).bind fun L => stSelf L i v
  | some (.val old) => if old.category = 2 then (setL L (i + 1) .unset).bind fun L => stSelf L i v else stSelf L i v
  | some .unset => stSelf L i v
theorem setL_ok {g : Nat → Addr} {L L' : List Slot} {i : Nat} {x : Slot} (h : setL L i x = some L') : setAt (gL g L) i (gs g x) = some (gL g L') := by
  unfold setL at h
  split at h
  · rename_i q
    cases h
    unfold setAt
    rw [if_pos (by simpa using q)]
    simp [List.map_set]
  · cases h
theorem stSelf_ok {g : Nat → Addr} {L L' : List Slot} {i : Nat} {v : Value} (h : stSelf L i v = some L') : storeSelf (gL g L) i (gv g v) = some (gL g L') := by
  unfold stSelf at h
  obtain ⟨L1, h1, h2⟩ := Option.bind_eq_some_iff.mp h
  have e1 := setL_ok (g := g) h1
  unfold storeSelf
  rw [show (Slot.val (gv g v)) = gs g (.val v) from rfl, e1]
  simp only [Option.bind_eq_bind, Option.bind_some, gv_cat]
  split at h2
  · rename_i hc
    rw [if_pos hc]
    cases hq : L1[i + 1]? with
    | none => rw [hq] at h2; cases h2
    | some y =>
      rw [hq] at h2
      rw [gL_get hq]
      cases y with
      | val old =>
        simp only [gs, Option.bind_some, gv_cat] at h2 ⊢
        split at h2
        · rename_i ho
          rw [if_pos ho]
          obtain ⟨L2, a1, a2⟩ := Option.bind_eq_some_iff.mp h2
          have e2 := setL_ok (g := g) a1
          have e3 := setL_ok (g := g) a2
          simp only [gs] at e2 e3
          rw [e2]; simpa using e3
        · rename_i ho
          rw [if_neg ho]
          exact setL_ok (g := g) h2
      | unset => exact setL_ok (g := g) h2
      | second => exact setL_ok (g := g) h2
  · rename_i hc
    rw [if_neg hc]
    cases h2; rfl
theorem stL_ok {g : Nat → Addr} {L L' : List Slot} {i : Nat} {v : Value} (h : stL L i v = some L') : storeLocals (gL g L) i (gv g v) = some (gL g L') := by
  unfold stL at h
  unfold storeLocals
  cases hq : L[i]? with
  | none => rw [hq] at h; cases h
  | some y =>
    rw [hq] at h
    rw [gL_get hq]
    cases y with
    | second =>
      simp only [gs, Option.bind_eq_bind, Option.bind_some] at h ⊢
      obtain ⟨L1, a1, a2⟩ := Option.bind_eq_some_iff.mp h
      have e2 := setL_ok (g := g) a1
      simp only [gs] at e2
      rw [e2]; exact stSelf_ok a2
    | val old =>
      simp only [gs, Option.bind_eq_bind, Option.bind_some, gv_cat] at h ⊢
      split at h
      · rename_i ho
        rw [if_pos ho]
        obtain ⟨L1, a1, a2⟩ := Option.bind_eq_some_iff.mp h
        have e2 := setL_ok (g := g) a1
        simp only [gs] at e2
        rw [e2]; exact stSelf_ok a2
      · rename_i ho
        rw [if_neg ho]; exact stSelf_ok h
    | unset => exact stSelf_ok h
theorem setL_len {L L' : List Slot} {i : Nat} {x : Slot} (h : setL L i x = some L') : L'.length = L.length := by
  unfold setL at h; split at h
  · cases h; simp
  · cases h
theorem stSelf_len {L L' : List Slot} {i : Nat} {v : Value} (h : stSelf L i v = some L') : L'.length = L.length := by
  unfold stSelf at h
  obtain ⟨L1, h1, h2⟩ := Option.bind_eq_some_iff.mp h
  have e1 := setL_len h1
  split at h2
  · split at h2
    · cases h2
    · split at h2
      · obtain ⟨L2, a1, a2⟩ := Option.bind_eq_some_iff.mp h2
        rw [setL_len a2, setL_len a1, e1]
      · rw [setL_len h2, e1]
    · rw [setL_len h2, e1]
  · cases h2; exact e1
theorem stL_len {L L' : List Slot} {i : Nat} {v : Value} (h : stL L i v = some L') : L'.length = L.length := by
  unfold stL at h
  split at h
  · cases h
  · obtain ⟨L1, a1, a2⟩ := Option.bind_eq_some_iff.mp h
    rw [stSelf_len a2, setL_len a1]
  · split at h
    · obtain ⟨L1, a1, a2⟩ := Option.bind_eq_some_iff.mp h
      rw [stSelf_len a2, setL_len a1]
    · exact stSelf_len h
  · exact stSelf_len h
/-! arithmetic -/
def bin : Instr → Value → Value → Option Value
  | .iadd, .int x, .int y => some (.int (x + y))
  | .isub, .int x, .int y => some (.int (x - y))
  | .imul, .int x, .int y => some (.int (x * y))
  | .iand, .int x, .int y => some (.int (x &&& y))
  | .ior, .int x, .int y => some (.int (x ||| y))
  | .ixor, .int x, .int y => some (.int (x ^^^ y))
  | .ishl, .int x, .int y => some (.int (x <<< (y &&& 31)))
  | .ishr, .int x, .int y => some (.int (x >>> (y &&& 31)))
  | .iushr, .int x, .int y => some (.int (XT.ushr x y))
  | .ladd, .long x, .long y => some (.long (x + y))
  | .lsub, .long x, .long y => some (.long (x - y))
  | .lmul, .long x, .long y => some (.long (x * y))
  | .land, .long x, .long y => some (.long (x &&& y))
  | .lor, .long x, .long y => some (.long (x ||| y))
  | .lxor, .long x, .long y => some (.long (x ^^^ y))
  | .lshl, .long x, .int y => some (.long (x <<< (y.toInt64 &&& 63)))
  | .lshr, .long x, .int y => some (.long (x >>> (y.toInt64 &&& 63)))
  | .lushr, .long x, .int y => some (.long (XT.ushrL x y))
  | .lcmp, .long x, .long y => some (.int (XT.cmpL x y))
  | .dcmp o, .double x, .double y => some (.int (cmpValue (FP.dcmp x y) o))
  | _, _, _ => none
def un : Instr → Value → Option Value
  | .ineg, .int x => some (.int (-x))
  | .lneg, .long x => some (.long (-x))
  | .dneg, .double x => some (.double (FP.dneg x))
  | .i2l, .int x => some (.long x.toInt64)
  | .l2i, .long x => some (.int x.toInt32)
  | .i2b, .int x => some (.int x.toInt8.toInt32)
  | .i2c, .int x => some (.int x.toUInt32.toUInt16.toUInt32.toInt32)
  | .i2s, .int x => some (.int x.toInt16.toInt32)
  | .i2d, .int x => some (.double (FP.i2d x))
  | .l2d, .long x => some (.double (FP.l2d x))
  | .d2i, .double x => some (.int (FP.d2i x))
  | .d2l, .double x => some (.long (FP.d2l x))
  | _, _ => none
def dbin : Instr → UInt64 → UInt64 → Option UInt64
  | .dadd, x, y => some (FP.dadd x y)
  | .dsub, x, y => some (FP.dsub x y)
  | .dmul, x, y => some (FP.dmul x y)
  | .ddiv, x, y => some (FP.ddiv x y)
  | _, _, _ => none
/-! the pure steps; forceL, forceN: nothing but their argument, laid out before it is handed on -/
def forceL {α β : Type} : List α → (List α → β) → β
  | [], k => k []
  | a :: r, k => forceL r fun r' => k (a :: r')
def forceN {β : Type} (n : Nat) (k : Nat → β) : β :=
  match n with
  | 0 => k 0
  | n + 1 => k (n + 1)
theorem forceL_eq {α β : Type} (L : List α) (k : List α → β) : forceL L k = k L := by
  induction L generalizing k with
  | nil => rfl
  | cons a r ih => unfold forceL; rw [ih]
theorem forceN_eq {β : Type} (n : Nat) (k : Nat → β) : forceN n k = k n := by cases n <;> rfl
def pC (i : Instr) (o : Orc) (pc : Nat) (L : List Slot) (S : List Value) : Option PR :=
  match cst i with
  | some v => some ([], o, pc + ilen i, L, v :: S)
  | none => none
def pL (i : Instr) (o : Orc) (pc : Nat) (L : List Slot) (S : List Value) : Option PR :=
  match L[ldi i]? with
  | some (.val v) => if ldok i v then some ([], o, pc + ilen i, L, v :: S) else none
  | _ => none
def pS (i : Instr) (o : Orc) (pc : Nat) (L : List Slot) (S : List Value) : Option PR :=
  match S with
  | v :: r => if stok i v then (match stL L (sti i) v with
    | some L' => forceL L' fun L' => some ([], o, pc + ilen i, L', r)
    | none => none) else none
  | _ => none
def pB (i : Instr) (o : Orc) (pc : Nat) (L : List Slot) (S : List Value) : Option PR :=
  match S with
  | y :: x :: r => (match bin i x y with
    | some v => some ([], o, pc + 1, L, v :: r)
    | none => none)
  | _ => none
def pU (i : Instr) (o : Orc) (pc : Nat) (L : List Slot) (S : List Value) : Option PR :=
  match S with
  | x :: r => (match un i x with
    | some v => some ([], o, pc + 1, L, v :: r)
    | none => none)
  | _ => none
def pD (i : Instr) (o : Orc) (pc : Nat) (L : List Slot) (S : List Value) : Option PR :=
  match S with
  | .double y :: .double x :: r => (match dbin i x y with
    | some v => (match need o (FP.dIsNaN v = false) with
      | some cs => some (cs, o, pc + 1, L, .double v :: r)
      | none => none)
    | none => none)
  | _ => none
def pZ (i : Instr) (o : Orc) (pc : Nat) (L : List Slot) (S : List Value) : Option PR :=
  match i, S with
  | .idiv, .int y :: .int x :: r => (match need o (y ≠ 0) with
    | some cs => some (cs, o, pc + 1, L, .int (x / y) :: r)
    | none => none)
  | .irem, .int y :: .int x :: r => (match need o (y ≠ 0) with
    | some cs => some (cs, o, pc + 1, L, .int (x % y) :: r)
    | none => none)
  | .ldiv, .long y :: .long x :: r => (match need o (y ≠ 0) with
    | some cs => some (cs, o, pc + 1, L, .long (x / y) :: r)
    | none => none)
  | .lrem, .long y :: .long x :: r => (match need o (y ≠ 0) with
    | some cs => some (cs, o, pc + 1, L, .long (x - (x / y) * y) :: r)
    | none => none)
  | _, _ => none
def pT (i : Instr) (o : Orc) (pc : Nat) (L : List Slot) (S : List Value) : Option PR :=
  match i, S with
  | .dup, x :: r => if x.category = 1 then some ([], o, pc + 1, L, x :: x :: r) else none
  | .pop, x :: r => if x.category = 1 then some ([], o, pc + 1, L, r) else none
  | .dup2, .long x :: r => some ([], o, pc + 1, L, .long x :: .long x :: r)
  | .dup2, .double x :: r => some ([], o, pc + 1, L, .double x :: .double x :: r)
  | .dup2, x :: y :: r => if x.category = 1 ∧ y.category = 1 then some ([], o, pc + 1, L, x :: y :: x :: y :: r) else none
  | .pop2, x :: r => if x.category = 2 then some ([], o, pc + 1, L, r) else none
  | .dup_x1, x :: y :: r => if x.category = 1 ∧ y.category = 1 then some ([], o, pc + 1, L, x :: y :: x :: r) else none
  | .dup_x2, x :: y :: z :: r => if x.category = 1 ∧ y.category = 1 ∧ z.category = 1 then some ([], o, pc + 1, L, x :: y :: z :: x :: r) else none
  | _, _ => none
def pI (o : Orc) (pc : Nat) (L : List Slot) (S : List Value) (k : Nat) (cst : Int) : Option PR :=
  match L[k]? with
  | some (.val (.int x)) => (match stL L k (.int (x + Int32.ofInt cst)) with
    | some L' => forceL L' fun L' => some ([], o, pc + 3, L', S)
    | none => none)
  | _ => none
/-- to there, if the offset allows it -/
def jmp (cs : List Prop) (o : Orc) (pc : Nat) (L : List Slot) (r : List Value) (off : Int) : Option PR :=
  if 0 ≤ (pc : Int) + off then some (cs, o, ((pc : Int) + off).toNat, L, r) else none
def pJ (o : Orc) (pc : Nat) (L : List Slot) (r : List Value) (b : Bool) (off : Int) : Option PR :=
  match ask o b with
  | some (true, o', cs) => jmp cs o' pc L r off
  | some (false, o', cs) => some (cs, o', pc + 3, L, r)
  | none => none
def pG (i : Instr) (o : Orc) (pc : Nat) (L : List Slot) (S : List Value) : Option PR :=
  match i, S with
  | .goto off, S => jmp [] o pc L S off
  | .ifCond c off, .int x :: r => pJ o pc L r (ifCond.holds c x) off
  | .if_icmp c off, .int y :: .int x :: r => pJ o pc L r (if_icmp.holds c x y) off
  | .ifnull off, .null :: r => jmp [] o pc L r off
  | .ifnull off, .ref _ :: r => some ([], o, pc + 3, L, r)
  | .ifnonnull off, .ref _ :: r => jmp [] o pc L r off
  | .ifnonnull off, .null :: r => some ([], o, pc + 3, L, r)
  | _, _ => none
def pstep (i : Instr) (o : Orc) (pc : Nat) (L : List Slot) (S : List Value) : Option PR :=
  match i with
  | .iconst _ | .bipush _ | .sipush _ | .lconst _ | .dconst _ | .aconst_null => pC i o pc L S
  | .iload _ | .lload _ | .dload _ | .aload _ | .iload_n _ | .lload_n _ | .dload_n _ | .aload_n _ => pL i o pc L S
  | .istore _ | .lstore _ | .dstore _ | .astore _ | .istore_n _ | .lstore_n _ | .dstore_n _ | .astore_n _ => pS i o pc L S
  | .iinc k cst => pI o pc L S k cst
  | .iadd | .isub | .imul | .iand | .ior | .ixor | .ishl | .ishr | .iushr | .ladd | .lsub | .lmul | .land | .lor | .lxor | .lshl | .lshr | .lushr | .lcmp | .dcmp _ => pB i o pc L S
  | .ineg | .lneg | .dneg | .i2l | .l2i | .i2b | .i2c | .i2s | .i2d | .l2d | .d2i | .d2l => pU i o pc L S
  | .dadd | .dsub | .dmul | .ddiv => pD i o pc L S
  | .idiv | .irem | .ldiv | .lrem => pZ i o pc L S
  | .dup | .pop | .dup2 | .pop2 | .dup_x1 | .dup_x2 => pT i o pc L S
  | .goto _ | .ifCond _ _ | .if_icmp _ _ | .ifnull _ | .ifnonnull _ => pG i o pc L S
  | _ => none
/-- which of them -/
def psort (i : Instr) : Nat :=
  match i with
  | .iconst _ | .bipush _ | .sipush _ | .lconst _ | .dconst _ | .aconst_null => 0
  | .iload _ | .lload _ | .dload _ | .aload _ | .iload_n _ | .lload_n _ | .dload_n _ | .aload_n _ => 1
  | .istore _ | .lstore _ | .dstore _ | .astore _ | .istore_n _ | .lstore_n _ | .dstore_n _ | .astore_n _ => 2
  | .iadd | .isub | .imul | .iand | .ior | .ixor | .ishl | .ishr | .iushr | .ladd | .lsub | .lmul | .land | .lor | .lxor | .lshl | .lshr | .lushr | .lcmp | .dcmp _ => 3
  | .ineg | .lneg | .dneg | .i2l | .l2i | .i2b | .i2c | .i2s | .i2d | .l2d | .d2i | .d2l => 4
  | .dadd | .dsub | .dmul | .ddiv => 5
  | .idiv | .irem | .ldiv | .lrem => 6
  | .dup | .pop | .dup2 | .pop2 | .dup_x1 | .dup_x2 => 7
  | .goto _ | .ifCond _ _ | .if_icmp _ _ | .ifnull _ | .ifnonnull _ => 8
  | .iinc _ _ => 9
  | _ => 10
theorem pstep_sort {i : Instr} {o : Orc} {pc : Nat} {L : List Slot} {S : List Value} {r : PR} (h : pstep i o pc L S = some r) :
    (pC i o pc L S = some r) ∨ (pL i o pc L S = some r) ∨ (pS i o pc L S = some r) ∨ ((∃ k c, i = .iinc k c ∧ pI o pc L S k c = some r)) ∨ (ilen i = 1 ∧ pB i o pc L S = some r) ∨ (ilen i = 1 ∧ pU i o pc L S = some r) ∨ (ilen i = 1 ∧ pD i o pc L S = some r) ∨ (ilen i = 1 ∧ pZ i o pc L S = some r) ∨ (ilen i = 1 ∧ pT i o pc L S = some r) ∨ (ilen i = 3 ∧ pG i o pc L S = some r) := by
  cases i <;> first
    | (cases h; done)
    | exact Or.inl h
    | exact Or.inr (Or.inl h)
    | exact Or.inr (Or.inr (Or.inl h))
    | exact Or.inr (Or.inr (Or.inr (Or.inl ⟨_, _, rfl, h⟩)))
    | exact Or.inr (Or.inr (Or.inr (Or.inr (Or.inl ⟨rfl, h⟩))))
    | exact Or.inr (Or.inr (Or.inr (Or.inr (Or.inr (Or.inl ⟨rfl, h⟩)))))
    | exact Or.inr (Or.inr (Or.inr (Or.inr (Or.inr (Or.inr (Or.inl ⟨rfl, h⟩))))))
    | exact Or.inr (Or.inr (Or.inr (Or.inr (Or.inr (Or.inr (Or.inr (Or.inl ⟨rfl, h⟩)))))))
    | exact Or.inr (Or.inr (Or.inr (Or.inr (Or.inr (Or.inr (Or.inr (Or.inr (Or.inl ⟨rfl, h⟩))))))))
    | exact Or.inr (Or.inr (Or.inr (Or.inr (Or.inr (Or.inr (Or.inr (Or.inr (Or.inr ⟨rfl, h⟩))))))))
section Pure
variable {tb : Tables} [Ours tb] {e : Env} {below : List Frame} {T target : State} {m : MethodId} {c : Code}
theorem bin_ok (h : At T m c below) (hx : tb.exec = Jvm.exec) {i : Instr} {x y v : Value} (hb : bin i x y = some v) {pc : Nat} {Ls : Array Slot} {rest : List Value} (hd : decode c.code pc = .ok (i, 1))
    (hr : Steps tb e below (T.setTop (mkF m (pc + 1) Ls (v :: rest))) target) : Steps tb e below (T.setTop (mkF m pc Ls (y :: x :: rest))) target := by
  unfold bin at hb
  split at hb
  · cases hb; exact XS.iadd h hx rfl hd rfl hr
  · cases hb; exact XS.isub h hx rfl hd rfl hr
  · cases hb; exact XS.imul h hx rfl hd rfl hr
  · cases hb; exact XS.iand h hx rfl hd rfl hr
  · cases hb; exact XT.ior h hx rfl hd rfl hr
  · cases hb; exact XT.ixor h hx rfl hd rfl hr
  · cases hb; exact XT.ishl h hx rfl hd rfl hr
  · cases hb; exact XT.ishr h hx rfl hd rfl hr
  · cases hb; exact XT.iushr h hx rfl hd rfl hr
  · cases hb; exact XT.ladd h hx rfl hd rfl hr
  · cases hb; exact XT.lsub h hx rfl hd rfl hr
  · cases hb; exact XT.lmul h hx rfl hd rfl hr
  · cases hb; exact XT.land h hx rfl hd rfl hr
  · cases hb; exact XT.lor h hx rfl hd rfl hr
  · cases hb; exact XT.lxor h hx rfl hd rfl hr
  · cases hb; exact XT.lshl h hx rfl hd rfl hr
  · cases hb; exact XT.lshr h hx rfl hd rfl hr
  · cases hb; exact XT.lushr h hx rfl hd rfl hr
  · cases hb; exact XT.lcmp h hx rfl hd rfl hr
  · cases hb; exact XS.dcmpS h hx rfl hd rfl rfl hr
  · cases hb
theorem bin_plain {i : Instr} {x y v : Value} (hb : bin i x y = some v) (g : Nat → Addr) : gv g x = x ∧ gv g y = y ∧ gv g v = v := by
  unfold bin at hb
  split at hb <;> first | (cases hb; exact ⟨rfl, rfl, rfl⟩) | cases hb
theorem un_ok (h : At T m c below) (hx : tb.exec = Jvm.exec) {i : Instr} {x v : Value} (hb : un i x = some v) {pc : Nat} {Ls : Array Slot} {rest : List Value} (hd : decode c.code pc = .ok (i, 1))
    (hr : Steps tb e below (T.setTop (mkF m (pc + 1) Ls (v :: rest))) target) : Steps tb e below (T.setTop (mkF m pc Ls (x :: rest))) target := by
  unfold un at hb
  split at hb
  · cases hb; exact XS.ineg h hx rfl hd rfl hr
  · cases hb; exact XT.lneg h hx rfl hd rfl hr
  · cases hb; exact XS.dnegS h hx rfl hd rfl rfl hr
  · cases hb; exact XT.i2l h hx rfl hd rfl hr
  · cases hb; exact XT.l2i h hx rfl hd rfl hr
  · cases hb; exact XT.i2b h hx rfl hd rfl hr
  · cases hb; exact XT.i2c h hx rfl hd rfl hr
  · cases hb; exact XT.i2s h hx rfl hd rfl hr
  · cases hb; exact XS.i2dS h hx rfl hd rfl rfl hr
  · cases hb; exact XS.l2dS h hx rfl hd rfl rfl hr
  · cases hb; exact XS.d2iS h hx rfl hd rfl rfl hr
  · cases hb; exact XS.d2lS h hx rfl hd rfl rfl hr
  · cases hb
theorem un_plain {i : Instr} {x v : Value} (hb : un i x = some v) (g : Nat → Addr) : gv g x = x ∧ gv g v = v := by
  unfold un at hb
  split at hb <;> first | (cases hb; exact ⟨rfl, rfl⟩) | cases hb
theorem dbin_ok (h : At T m c below) (hx : tb.exec = Jvm.exec) {i : Instr} {x y v : UInt64} (hb : dbin i x y = some v) (hn : FP.dIsNaN v = false) {pc : Nat} {Ls : Array Slot} {rest : List Value} (hd : decode c.code pc = .ok (i, 1))
    (hr : Steps tb e below (T.setTop (mkF m (pc + 1) Ls (.double v :: rest))) target) : Steps tb e below (T.setTop (mkF m pc Ls (.double y :: .double x :: rest))) target := by
  unfold dbin at hb
  have hn' := Jvm.Free.Fl.noNaN64_no.mpr hn
  split at hb
  · cases hb; exact XS.daddS h hx rfl hd rfl hn' rfl hr
  · cases hb; exact XS.dsubS h hx rfl hd rfl hn' rfl hr
  · cases hb; exact XS.dmulS h hx rfl hd rfl hn' rfl hr
  · cases hb; exact XS.ddivS h hx rfl hd rfl hn' rfl hr
  · cases hb
theorem cst_ok (h : At T m c below) (hx : tb.exec = Jvm.exec) {i : Instr} {v : Value} (hb : cst i = some v) {pc : Nat} {Ls : Array Slot} {st : List Value} (hd : decode c.code pc = .ok (i, ilen i))
    (hr : Steps tb e below (T.setTop (mkF m (pc + ilen i) Ls (v :: st))) target) : Steps tb e below (T.setTop (mkF m pc Ls st)) target := by
  unfold cst at hb
  split at hb
  · cases hb; exact XS.iconst h hx rfl hd hr
  · cases hb; exact XS.bipush h hx rfl hd hr
  · cases hb; exact XS.sipush h hx rfl hd hr
  · cases hb; exact XT.lconst h hx rfl hd hr
  · cases hb; exact XT.lconst h hx rfl hd hr
  · cases hb; exact XS.dconst0 h hx rfl hd rfl hr
  · cases hb; exact XS.dconst1 h hx rfl hd rfl hr
  · cases hb; exact XS.aconstNull h hx rfl hd hr
  · cases hb
theorem cst_plain {i : Instr} {v : Value} (hb : cst i = some v) (g : Nat → Addr) : gv g v = v := by
  unfold cst at hb
  split at hb <;> first | (cases hb; rfl) | cases hb
theorem ld_ok (h : At T m c below) (hx : tb.exec = Jvm.exec) (g : Nat → Addr) {i : Instr} {v : Value} {L : List Slot} (hl : L[ldi i]? = some (.val v)) (ho : ldok i v = true) {pc : Nat} {st : List Value} (hd : decode c.code pc = .ok (i, ilen i))
    (hr : Steps tb e below (T.setTop (mkF m (pc + ilen i) (gL g L) (gv g v :: st))) target) : Steps tb e below (T.setTop (mkF m pc (gL g L) st)) target := by
  have hl' := gL_get (g := g) hl
  unfold ldok at ho
  split at ho
  · exact XS.iload h hx rfl hd hl' hr
  · exact XS.iloadN h hx rfl hd hl' hr
  · exact XT.lload h hx rfl hd hl' hr
  · exact XT.lloadN h hx rfl hd hl' hr
  · exact XS.dload h hx rfl hd hl' hr
  · exact XS.dloadN h hx rfl hd hl' hr
  · exact XS.aload h hx rfl hd hl' rfl hr
  · exact XS.aload h hx rfl hd hl' rfl hr
  · exact XS.aloadN h hx rfl hd hl' rfl hr
  · exact XS.aloadN h hx rfl hd hl' rfl hr
  · cases ho
theorem st_ok (h : At T m c below) (hx : tb.exec = Jvm.exec) (g : Nat → Addr) {i : Instr} {v : Value} {L L' : List Slot} (hl : stL L (sti i) v = some L') (ho : stok i v = true) {pc : Nat} {st : List Value} (hd : decode c.code pc = .ok (i, ilen i))
    (hr : Steps tb e below (T.setTop (mkF m (pc + ilen i) (gL g L') st)) target) : Steps tb e below (T.setTop (mkF m pc (gL g L) (gv g v :: st))) target := by
  have hl' := stL_ok (g := g) hl
  unfold stok at ho
  split at ho
  · exact XS.istore h hx rfl hd rfl hl' hr
  · exact XS.istoreN h hx rfl hd rfl hl' hr
  · exact XT.lstore h hx rfl hd rfl hl' hr
  · exact XT.lstoreN h hx rfl hd rfl hl' hr
  · exact XS.dstore h hx rfl hd rfl hl' hr
  · exact XS.dstoreN h hx rfl hd rfl hl' hr
  · exact XS.astore h hx rfl hd rfl rfl hl' hr
  · exact XS.astore h hx rfl hd rfl rfl hl' hr
  · exact XS.astoreN h hx rfl hd rfl rfl hl' hr
  · exact XS.astoreN h hx rfl hd rfl rfl hl' hr
  · cases ho
theorem dup2D (h : At T m c below) (hx : tb.exec = Jvm.exec) {pc : Nat} {Ls : Array Slot} {x : UInt64} {rest : List Value} (hd : decode c.code pc = .ok (.dup2, 1))
    (hr : Steps tb e below (T.setTop (mkF m (pc + 1) Ls (.double x :: .double x :: rest))) target) : Steps tb e below (T.setTop (mkF m pc Ls (.double x :: rest))) target := by
  jvm_step h [h.top, hx, hd, Value.category]
  exact hr
theorem pop2C (h : At T m c below) (hx : tb.exec = Jvm.exec) {pc : Nat} {Ls : Array Slot} {x : Value} {rest : List Value} (hd : decode c.code pc = .ok (.pop2, 1)) (hc : x.category = 2)
    (hr : Steps tb e below (T.setTop (mkF m (pc + 1) Ls rest)) target) : Steps tb e below (T.setTop (mkF m pc Ls (x :: rest))) target := by
  jvm_step h [h.top, hx, hd, hc]
  exact hr
theorem dupX2C (h : At T m c below) (hx : tb.exec = Jvm.exec) {pc : Nat} {Ls : Array Slot} {x y z : Value} {rest : List Value} (hd : decode c.code pc = .ok (.dup_x2, 1)) (hc : x.category = 1) (hc' : y.category = 1) (hc'' : z.category = 1)
    (hr : Steps tb e below (T.setTop (mkF m (pc + 1) Ls (x :: y :: z :: x :: rest))) target) : Steps tb e below (T.setTop (mkF m pc Ls (x :: y :: z :: rest))) target := by
  jvm_step h [h.top, hx, hd, hc, hc', hc'']
  exact hr
theorem irem_mod (x y : Int32) : x - x / y * y = x % y := irem_eq_mod x y
theorem jmp_ok (h : At T m c below) {g : Nat → Addr} {cs cs' : List Prop} {o o' : Orc} {pc pc' : Nat} {L L' : List Slot} {r S' : List Value} {off : Int} (hp : jmp cs o pc L r off = some (cs', o', pc', L', S')) : cs' = cs ∧ o' = o ∧ 0 ≤ (pc : Int) + off ∧ ((pc : Int) + off).toNat = pc' ∧ L' = L ∧ S' = r := by
  unfold jmp at hp
  split at hp
  · rename_i q; cases hp; exact ⟨rfl, rfl, q, rfl, rfl, rfl⟩
  · cases hp
theorem pJ_ok (h : At T m c below) {g : Nat → Addr} {cs : List Prop} {o o' : Orc} {pc pc' : Nat} {L L' : List Slot} {r S' : List Value} {b : Bool} {off : Int} (hp : pJ o pc L r b off = some (cs, o', pc', L', S')) (hc : ∀ P ∈ cs, P) : L' = L ∧ S' = r ∧ ((b = true ∧ 0 ≤ (pc : Int) + off ∧ ((pc : Int) + off).toNat = pc') ∨ (b = false ∧ pc' = pc + 3)) := by
  unfold pJ at hp
  split at hp
  · rename_i ha
    obtain ⟨rfl, rfl, h3, h4, rfl, rfl⟩ := jmp_ok (g := g) h hp
    exact ⟨rfl, rfl, Or.inl ⟨ask_ok ha hc, h3, h4⟩⟩
  · rename_i ha
    cases hp
    exact ⟨rfl, rfl, Or.inr ⟨ask_ok ha hc, rfl⟩⟩
  · cases hp
theorem pstep_ok (h : At T m c below) (hx : tb.exec = Jvm.exec) (g : Nat → Addr) {i : Instr} {o o' : Orc} {pc pc' : Nat} {L L' : List Slot} {S S' : List Value} {cs : List Prop}
    (hp : pstep i o pc L S = some (cs, o', pc', L', S')) (hd : decode c.code pc = .ok (i, ilen i)) (hc : ∀ P ∈ cs, P)
    (hr : Steps tb e below (T.setTop (mkF m pc' (gL g L') (gS g S'))) target) : Steps tb e below (T.setTop (mkF m pc (gL g L) (gS g S))) target := by
  rcases pstep_sort hp with hp | hp | hp | ⟨k, cc, rfl, hq⟩ | ⟨hl, hp⟩ | ⟨hl, hp⟩ | ⟨hl, hp⟩ | ⟨hl, hp⟩ | ⟨hl, hp⟩ | ⟨hl, hp⟩
  · unfold pC at hp
    split at hp
    · rename_i v hv
      cases hp
      refine cst_ok h hx hv hd ?_
      have := cst_plain hv g
      simpa [gS, this] using hr
    · cases hp
  · unfold pL at hp
    split at hp
    · rename_i v hv
      split at hp
      · rename_i ho
        cases hp
        exact ld_ok h hx g hv ho hd hr
      · cases hp
    · cases hp
  · unfold pS at hp
    split at hp
    · split at hp
      · rename_i ho
        split at hp
        · rename_i L1 hl
          rw [forceL_eq] at hp
          cases hp
          exact st_ok h hx g hl ho hd hr
        · cases hp
      · cases hp
    · cases hp
  · clear hp
    unfold pI at hq
    split at hq
    · rename_i x hl
      split at hq
      · rename_i L1 hs
        rw [forceL_eq] at hq
        cases hq
        exact XS.iinc h hx rfl hd (gL_get (g := g) hl) (stL_ok (g := g) hs) hr
      · cases hq
    · cases hq
  · rw [hl] at hd
    unfold pB at hp
    split at hp
    · split at hp
      · rename_i v hv
        cases hp
        obtain ⟨e1, e2, e3⟩ := bin_plain hv g
        simp only [gS, List.map_cons, e1, e2, e3] at hr ⊢
        exact bin_ok h hx hv hd hr
      · cases hp
    · cases hp
  · rw [hl] at hd
    unfold pU at hp
    split at hp
    · split at hp
      · rename_i v hv
        cases hp
        obtain ⟨e1, e3⟩ := un_plain hv g
        simp only [gS, List.map_cons, e1, e3] at hr ⊢
        exact un_ok h hx hv hd hr
      · cases hp
    · cases hp
  · rw [hl] at hd
    unfold pD at hp
    split at hp
    · split at hp
      · rename_i v hv
        split at hp
        · rename_i cs1 hn
          cases hp
          exact dbin_ok h hx hv (need_ok hn hc) hd hr
        · cases hp
      · cases hp
    · cases hp
  · rw [hl] at hd
    unfold pZ at hp
    split at hp
    · split at hp
      · rename_i hn
        cases hp
        exact XS.idiv h hx rfl hd rfl (need_ok hn hc) hr
      · cases hp
    · split at hp
      · rename_i hn
        cases hp
        refine XS.irem h hx rfl hd rfl (need_ok hn hc) ?_
        rw [irem_mod]; exact hr
      · cases hp
    · split at hp
      · rename_i hn
        cases hp
        exact XT.ldiv h hx rfl hd rfl (need_ok hn hc) hr
      · cases hp
    · split at hp
      · rename_i hn
        cases hp
        exact XT.lrem h hx rfl hd rfl (need_ok hn hc) hr
      · cases hp
    · cases hp
  · rw [hl] at hd
    unfold pT at hp
    split at hp
    · split at hp
      · rename_i hk
        cases hp
        exact XS.dup h hx rfl hd rfl (by rw [gv_cat]; exact hk) hr
      · cases hp
    · split at hp
      · rename_i hk
        cases hp
        exact XT.pop h hx rfl hd rfl (by rw [gv_cat]; exact hk) hr
      · cases hp
    · cases hp; exact XT.dup2L h hx rfl hd rfl hr
    · cases hp; exact dup2D h hx hd hr
    · split at hp
      · rename_i hk
        cases hp
        exact XT.dup2 h hx rfl hd rfl (by rw [gv_cat]; exact hk.1) (by rw [gv_cat]; exact hk.2) hr
      · cases hp
    · split at hp
      · rename_i hk
        cases hp
        exact pop2C h hx hd (by rw [gv_cat]; exact hk) hr
      · cases hp
    · split at hp
      · rename_i hk
        cases hp
        exact XT.dupX1 h hx rfl hd rfl (by rw [gv_cat]; exact hk.1) (by rw [gv_cat]; exact hk.2) hr
      · cases hp
    · split at hp
      · rename_i hk
        cases hp
        exact dupX2C h hx hd (by rw [gv_cat]; exact hk.1) (by rw [gv_cat]; exact hk.2.1) (by rw [gv_cat]; exact hk.2.2) hr
      · cases hp
    · cases hp
  · rw [hl] at hd
    unfold pG at hp
    split at hp
    · obtain ⟨rfl, rfl, h3, h4, rfl, rfl⟩ := jmp_ok (g := g) h hp
      exact XS.goto h hx rfl rfl hd h3 h4 hr
    · obtain ⟨rfl, rfl, ⟨h1, h2, h3⟩ | ⟨h1, rfl⟩⟩ := pJ_ok (g := g) h hp hc
      · exact XS.ifYes h hx rfl rfl hd rfl h1 h2 h3 hr
      · exact XS.ifNo h hx rfl hd rfl h1 hr
    · obtain ⟨rfl, rfl, ⟨h1, h2, h3⟩ | ⟨h1, rfl⟩⟩ := pJ_ok (g := g) h hp hc
      · exact XS.icmpYes h hx rfl rfl hd rfl h1 h2 h3 hr
      · exact XS.icmpNo h hx rfl hd rfl h1 hr
    · obtain ⟨rfl, rfl, h3, h4, rfl, rfl⟩ := jmp_ok (g := g) h hp
      exact XS.ifnullYes h hx rfl rfl hd rfl h3 h4 hr
    · cases hp
      exact XS.ifnullNo h hx rfl hd rfl hr
    · obtain ⟨rfl, rfl, h3, h4, rfl, rfl⟩ := jmp_ok (g := g) h hp
      exact XT.ifnonnullYes h hx rfl rfl hd rfl h3 h4 hr
    · cases hp
      exact XT.ifnonnullNo h hx rfl hd rfl hr
    · cases hp
end Pure
/-! well-formed: every object named lies in the list -/
def wv (n : Nat) : Value → Prop
  | .ref i => i < n
  | _ => True
def wsl (n : Nat) : Slot → Prop
  | .val v => wv n v
  | _ => True
abbrev wL (n : Nat) (L : List Slot) : Prop := ∀ s ∈ L, wsl n s
abbrev wS (n : Nat) (S : List Value) : Prop := ∀ v ∈ S, wv n v
theorem wv_mono {n n' : Nat} (h : n ≤ n') {v : Value} (w : wv n v) : wv n' v := by
  cases v <;> first | exact trivial | exact Nat.lt_of_lt_of_le w h
theorem wsl_mono {n n' : Nat} (h : n ≤ n') {v : Slot} (w : wsl n v) : wsl n' v := by
  cases v <;> first | exact trivial | exact wv_mono h w
theorem gv_cong {g g' : Nat → Addr} {n : Nat} (h : ∀ i, i < n → g' i = g i) {v : Value} (w : wv n v) : gv g' v = gv g v := by
  cases v <;> first | rfl | exact congrArg Value.ref (h _ w)
theorem gS_cong {g g' : Nat → Addr} {n : Nat} (h : ∀ i, i < n → g' i = g i) {S : List Value} (w : wS n S) : gS g' S = gS g S := by
  refine List.map_congr_left fun v hv => gv_cong h (w v hv)
theorem gs_cong {g g' : Nat → Addr} {n : Nat} (h : ∀ i, i < n → g' i = g i) {v : Slot} (w : wsl n v) : gs g' v = gs g v := by
  cases v <;> first | rfl | exact congrArg Slot.val (gv_cong h w)
theorem gL_cong {g g' : Nat → Addr} {n : Nat} (h : ∀ i, i < n → g' i = g i) {L : List Slot} (w : wL n L) : gL g' L = gL g L := by
  unfold gL
  rw [List.map_congr_left fun v hv => gs_cong h (w v hv)]
theorem setL_wf {n : Nat} {L L' : List Slot} {i : Nat} {x : Slot} (h : setL L i x = some L') (w : wL n L) (wx : wsl n x) : wL n L' := by
  unfold setL at h; split at h
  · cases h
    intro s hs
    rcases List.mem_or_eq_of_mem_set hs with q | q
    · exact w s q
    · subst q; exact wx
  · cases h
theorem stSelf_wf {n : Nat} {L L' : List Slot} {i : Nat} {v : Value} (h : stSelf L i v = some L') (w : wL n L) (wx : wv n v) : wL n L' := by
  unfold stSelf at h
  obtain ⟨L1, h1, h2⟩ := Option.bind_eq_some_iff.mp h
  have e1 : wL n L1 := setL_wf h1 w wx
  split at h2
  · split at h2
    · cases h2
    · split at h2
      · obtain ⟨L2, a1, a2⟩ := Option.bind_eq_some_iff.mp h2
        exact setL_wf a2 (setL_wf a1 e1 trivial) trivial
      · exact setL_wf h2 e1 trivial
    · exact setL_wf h2 e1 trivial
  · cases h2; exact e1
theorem stL_wf {n : Nat} {L L' : List Slot} {i : Nat} {v : Value} (h : stL L i v = some L') (w : wL n L) (wx : wv n v) : wL n L' := by
  unfold stL at h
  split at h
  · cases h
  · obtain ⟨L1, a1, a2⟩ := Option.bind_eq_some_iff.mp h
    exact stSelf_wf a2 (setL_wf a1 w trivial) wx
  · split at h
    · obtain ⟨L1, a1, a2⟩ := Option.bind_eq_some_iff.mp h
      exact stSelf_wf a2 (setL_wf a1 w trivial) wx
    · exact stSelf_wf h w wx
  · exact stSelf_wf h w wx
theorem cst_wf {n : Nat} {i : Instr} {v : Value} (hb : cst i = some v) : wv n v := by
  unfold cst at hb
  split at hb <;> first | (cases hb; exact trivial) | cases hb
theorem bin_wf {n : Nat} {i : Instr} {x y v : Value} (hb : bin i x y = some v) : wv n v := by
  unfold bin at hb
  split at hb <;> first | (cases hb; exact trivial) | cases hb
theorem un_wf {n : Nat} {i : Instr} {x v : Value} (hb : un i x = some v) : wv n v := by
  unfold un at hb
  split at hb <;> first | (cases hb; exact trivial) | cases hb
theorem wS_cons {n : Nat} {v : Value} {S : List Value} : wS n (v :: S) ↔ wv n v ∧ wS n S := by
  constructor
  · exact fun h => ⟨h v (List.mem_cons_self ..), fun x hx => h x (List.mem_cons_of_mem _ hx)⟩
  · rintro ⟨h1, h2⟩ x hx
    rcases List.mem_cons.mp hx with q | q
    · subst q; exact h1
    · exact h2 x q
theorem wL_get {n : Nat} {L : List Slot} (w : wL n L) {k : Nat} {v : Value} (h : L[k]? = some (.val v)) : wv n v := w (.val v) (List.mem_of_getElem? h)
theorem pstep_wf {n : Nat} {i : Instr} {o o' : Orc} {pc pc' : Nat} {L L' : List Slot} {S S' : List Value} {cs : List Prop}
    (hp : pstep i o pc L S = some (cs, o', pc', L', S')) (w1 : wL n L) (w2 : wS n S) : wL n L' ∧ wS n S' ∧ L'.length = L.length := by
  have jw : ∀ {cs cs' : List Prop} {o o' : Orc} {pc' : Nat} {L' : List Slot} {r S' : List Value} {off : Int}, jmp cs o pc L r off = some (cs', o', pc', L', S') → wS n r → wL n L' ∧ wS n S' ∧ L'.length = L.length := by
    intro cs cs' o o' pc' L' r S' off hp w
    unfold jmp at hp
    split at hp
    · cases hp; exact ⟨w1, w, rfl⟩
    · cases hp
  have Jw : ∀ {b : Bool} {r : List Value} {off : Int}, pJ o pc L r b off = some (cs, o', pc', L', S') → wS n r → wL n L' ∧ wS n S' ∧ L'.length = L.length := by
    intro b r off hp w
    unfold pJ at hp
    split at hp
    · exact jw hp w
    · cases hp; exact ⟨w1, w, rfl⟩
    · cases hp
  rcases pstep_sort hp with hp | hp | hp | ⟨k, cc, rfl, hq⟩ | ⟨hl, hp⟩ | ⟨hl, hp⟩ | ⟨hl, hp⟩ | ⟨hl, hp⟩ | ⟨hl, hp⟩ | ⟨hl, hp⟩
  · unfold pC at hp
    split at hp
    · rename_i v hv
      cases hp
      exact ⟨w1, wS_cons.mpr ⟨cst_wf hv, w2⟩, rfl⟩
    · cases hp
  · unfold pL at hp
    split at hp
    · rename_i v hv
      split at hp
      · cases hp
        exact ⟨w1, wS_cons.mpr ⟨wL_get w1 hv, w2⟩, rfl⟩
      · cases hp
    · cases hp
  · unfold pS at hp
    split at hp
    · have w3 := wS_cons.mp w2
      split at hp
      · split at hp
        · rename_i L1 hl
          rw [forceL_eq] at hp
          cases hp
          exact ⟨stL_wf hl w1 w3.1, w3.2, stL_len hl⟩
        · cases hp
      · cases hp
    · cases hp
  · clear hp
    unfold pI at hq
    split at hq
    · split at hq
      · rename_i L1 hs
        rw [forceL_eq] at hq
        cases hq
        exact ⟨stL_wf hs w1 trivial, w2, stL_len hs⟩
      · cases hq
    · cases hq
  · unfold pB at hp
    split at hp
    · have w3 := wS_cons.mp (wS_cons.mp w2).2
      split at hp
      · rename_i v hv
        cases hp
        exact ⟨w1, wS_cons.mpr ⟨bin_wf hv, w3.2⟩, rfl⟩
      · cases hp
    · cases hp
  · unfold pU at hp
    split at hp
    · have w3 := wS_cons.mp w2
      split at hp
      · rename_i v hv
        cases hp
        exact ⟨w1, wS_cons.mpr ⟨un_wf hv, w3.2⟩, rfl⟩
      · cases hp
    · cases hp
  · unfold pD at hp
    split at hp
    · have w3 := wS_cons.mp (wS_cons.mp w2).2
      split at hp
      · split at hp
        · cases hp
          exact ⟨w1, wS_cons.mpr ⟨trivial, w3.2⟩, rfl⟩
        · cases hp
      · cases hp
    · cases hp
  · unfold pZ at hp
    split at hp
    all_goals first | cases hp; done | skip
    all_goals
      split at hp
      · cases hp; exact ⟨w1, wS_cons.mpr ⟨trivial, (wS_cons.mp (wS_cons.mp w2).2).2⟩, rfl⟩
      · cases hp
  · unfold pT at hp
    split at hp
    · split at hp
      · cases hp; exact ⟨w1, wS_cons.mpr ⟨(wS_cons.mp w2).1, w2⟩, rfl⟩
      · cases hp
    · split at hp
      · cases hp; exact ⟨w1, (wS_cons.mp w2).2, rfl⟩
      · cases hp
    · cases hp; exact ⟨w1, wS_cons.mpr ⟨trivial, w2⟩, rfl⟩
    · cases hp; exact ⟨w1, wS_cons.mpr ⟨trivial, w2⟩, rfl⟩
    · split at hp
      · cases hp
        have w3 := wS_cons.mp w2
        exact ⟨w1, wS_cons.mpr ⟨w3.1, wS_cons.mpr ⟨(wS_cons.mp w3.2).1, w2⟩⟩, rfl⟩
      · cases hp
    · split at hp
      · cases hp; exact ⟨w1, (wS_cons.mp w2).2, rfl⟩
      · cases hp
    · split at hp
      · cases hp
        have w3 := wS_cons.mp w2
        have w4 := wS_cons.mp w3.2
        exact ⟨w1, wS_cons.mpr ⟨w3.1, wS_cons.mpr ⟨w4.1, wS_cons.mpr ⟨w3.1, w4.2⟩⟩⟩, rfl⟩
      · cases hp
    · split at hp
      · cases hp
        have w3 := wS_cons.mp w2
        have w4 := wS_cons.mp w3.2
        have w5 := wS_cons.mp w4.2
        exact ⟨w1, wS_cons.mpr ⟨w3.1, wS_cons.mpr ⟨w4.1, wS_cons.mpr ⟨w5.1, wS_cons.mpr ⟨w3.1, w5.2⟩⟩⟩⟩, rfl⟩
      · cases hp
    · cases hp
  · unfold pG at hp
    split at hp
    · exact jw hp w2
    · exact Jw hp (wS_cons.mp w2).2
    · exact Jw hp (wS_cons.mp (wS_cons.mp w2).2).2
    · exact jw hp (wS_cons.mp w2).2
    · cases hp; exact ⟨w1, (wS_cons.mp w2).2, rfl⟩
    · exact jw hp (wS_cons.mp w2).2
    · cases hp; exact ⟨w1, (wS_cons.mp w2).2, rfl⟩
    · cases hp
/-! the heap: class objects with their fields, arrays with their components -/
abbrev Fd : Type := String × String × String × FieldType
abbrev KTy : Type := Nat → Option (String × List Fd)
def arT : Nat → Option (FieldType × String)
  | 0 => some (.int, "[I")
  | 1 => some (.long, "[J")
  | 2 => some (.double, "[D")
  | 3 => some (.boolean, "[Z")
  | 4 => some (.byte, "[B")
  | _ => none
section Heaps
variable {Z : State} {a0 : Array Value} {kc : KTy} {n0 k0 : Nat} {h h' : Heap} {g g' : Nat → Addr} {A : AH}
def OC (Z : State) (kc : KTy) (h : Heap) (g : Nat → Addr) (a : Addr) (ob : Obj) : Prop :=
  ∀ C fs, kc ob.1 = some (C, fs) → Exa Z h a C ∧ ob.2.length = fs.length ∧ ∀ (j : Nat) (f : Fd) (v : Value), fs[j]? = some f → ob.2[j]? = some v → Fld Z h a f.1 f.2.1 f.2.2.1 (gv g v)
def OA (Z : State) (h : Heap) (g : Nat → Addr) (a : Addr) (ob : Obj) : Prop :=
  ∀ ty nm, arT ob.1 = some (ty, nm) → ∃ c : Cell, Arr Z h a c ty ∧ c.slots.toList = gS g ob.2 ∧ ob.2.length < 2 ^ 31 ∧ Z.vm.findClass nm = some c.cls ∧ c.vm = .none ∧ ∀ v ∈ ob.2, fits ty v = true
def OR (Z : State) (kc : KTy) (h : Heap) (g : Nat → Addr) (a : Addr) (ob : Obj) : Prop := OC Z kc h g a ob ∧ OA Z h g a ob
theorem OR.ext {a : Addr} {ob : Obj} (F : OR Z kc h g a ob) (E : Ext h h') : OR Z kc h' g a ob := by
  refine ⟨fun C fs hk => ?_, fun ty nm hk => ?_⟩
  · obtain ⟨q1, q2, q3⟩ := F.1 C fs hk
    exact ⟨q1.ext E, q2, fun j f v a b => (q3 j f v a b).ext E⟩
  · obtain ⟨c, q1, q2⟩ := F.2 ty nm hk
    exact ⟨c, q1.ext E, q2⟩
theorem OR.cong {a : Addr} {ob : Obj} (F : OR Z kc h g a ob) {n : Nat} (e : ∀ i, i < n → g' i = g i) (w : wS n ob.2) : OR Z kc h g' a ob := by
  refine ⟨fun C fs hk => ?_, fun ty nm hk => ?_⟩
  · obtain ⟨q1, q2, q3⟩ := F.1 C fs hk
    exact ⟨q1, q2, fun j f v a b => by rw [gv_cong e (w v (List.mem_of_getElem? b))]; exact q3 j f v a b⟩
  · obtain ⟨c, q1, q2, q3⟩ := F.2 ty nm hk
    exact ⟨c, q1, by rw [gS_cong e w]; exact q2, q3⟩
theorem OR.other {a b : Addr} {sl : Nat} {v : Value} {ob : Obj} (F : OR Z kc h g b ob) (W : Wr h h' a sl v) (ne : b ≠ a) : OR Z kc h' g b ob := by
  refine ⟨fun C fs hk => ?_, fun ty nm hk => ?_⟩
  · obtain ⟨q1, q2, q3⟩ := F.1 C fs hk
    exact ⟨q1.wr W, q2, fun j f v a b => (q3 j f v a b).other W (Or.inl ne)⟩
  · obtain ⟨c, q1, q2⟩ := F.2 ty nm hk
    exact ⟨c, q1.other W ne, q2⟩
/-- what the kinds' table must be: each field laid in its class, no two of one name -/
def KOk (Z : State) (a0 : Array Value) (kc : KTy) : Prop := ∀ k C fs, kc k = some (C, fs) → arT k = none ∧ (∀ f ∈ fs, Laid Z a0 C f.1 f.2.1 f.2.2.1 ∧ parseFieldDescriptor f.2.2.1 = some f.2.2.2) ∧ ∀ (i j : Nat) (f f' : Fd), fs[i]? = some f → fs[j]? = some f' → i ≠ j → f.2.1 ≠ f'.2.1
theorem OR.put {a : Addr} {k : Nat} {vs : List Value} {C : String} {fs : List Fd} {j : Nat} {f : Fd} {v : Value} (K : KOk Z a0 kc) (hk : kc k = some (C, fs)) (hj : fs[j]? = some f)
    (F : OR Z kc h g a (k, vs)) (W : Wr h h' a (RoadKit.slotOf Z f.1 f.2.1 f.2.2.1) (gv g v)) : OR Z kc h' g a (k, vs.set j v) := by
  obtain ⟨k1, k2, k3⟩ := K k C fs hk
  obtain ⟨q1, q2, q3⟩ := F.1 C fs hk
  refine ⟨fun C' fs' hk' => ?_, fun ty nm hk' => (by rw [k1] at hk'; cases hk')⟩
  cases hk.symm.trans hk'
  refine ⟨q1.wr W, by simpa using q2, fun i f' v' hf hv => ?_⟩
  by_cases e : j = i
  · subst e
    cases hj.symm.trans hf
    have hlt : j < vs.length := by
      have := (List.getElem?_eq_some_iff.mp hj).1
      have q2' : vs.length = fs.length := q2
      omega
    rw [List.getElem?_set_self hlt] at hv
    cases hv
    have hv0 : vs[j]? = some vs[j] := List.getElem?_eq_getElem hlt
    exact (q3 j f _ hj hv0).same W
  · rw [List.getElem?_set_ne e] at hv
    refine (q3 i f' v' hf hv).other W (Or.inr ?_)
    have m1 := k2 f (List.mem_of_getElem? hj)
    have m2 := k2 f' (List.mem_of_getElem? hf)
    exact slot_ne m2.1 m1.1 (k3 i j f' f hf hj (Ne.symm e)) m2.2 m1.2
theorem OR.store {a : Addr} {k : Nat} {vs : List Value} {ty : FieldType} {nm : String} {j : Nat} {v : Value} (hk : arT k = some (ty, nm)) (hkc : kc k = none) (hj : j < vs.length) (hf : fits ty v = true)
    (F : OR Z kc h g a (k, vs)) (W : Wr h h' a j (gv g v)) : OR Z kc h' g a (k, vs.set j v) := by
  refine ⟨fun C fs hk' => (by rw [hkc] at hk'; cases hk'), fun ty' nm' hk' => ?_⟩
  cases hk.symm.trans hk'
  obtain ⟨c, q1, q2, q3, q4, q5, q6⟩ := F.2 ty nm hk
  refine ⟨_, q1.same W, ?_, by simpa using q3, q4, q5, fun x hx => ?_⟩
  · have hs : j < c.slots.size := by
      have := congrArg List.length q2
      simp only [Array.length_toList, gS, List.length_map] at this
      omega
    simp only [Cell.setSlot, Array.toList_setIfInBounds, q2, gS, List.map_set]
  · rcases List.mem_or_eq_of_mem_set hx with q | q
    · exact q6 x q
    · subst q; exact hf
abbrev SL : Type := List ((String × String × String) × Value)
def Rep (Z : State) (kc : KTy) (sl : SL) (n0 k0 : Nat) (h : Heap) (g : Nat → Addr) (A : AH) : Prop :=
  (∀ i, i < A.length → g i < h.size ∧ (k0 ≤ i → n0 ≤ g i)) ∧ (∀ i j, i < A.length → j < A.length → g i = g j → i = j) ∧ (∀ i ob, A[i]? = some ob → OR Z kc h g (g i) ob ∧ wS A.length ob.2) ∧ n0 ≤ h.size ∧ k0 ≤ A.length ∧ ∀ x ∈ sl, Sta Z h x.1.1 x.1.2.1 x.1.2.2 (gv g x.2) ∧ wv k0 x.2
variable {sl : SL}
theorem Rep.ob {i : Nat} {ob : Obj} (Rp : Rep Z kc sl n0 k0 h g A) (hi : A[i]? = some ob) : OR Z kc h g (g i) ob := (Rp.2.2.1 i ob hi).1
theorem Rep.wf {i : Nat} {ob : Obj} (Rp : Rep Z kc sl n0 k0 h g A) (hi : A[i]? = some ob) : wS A.length ob.2 := (Rp.2.2.1 i ob hi).2
theorem Rep.lt {i : Nat} {ob : Obj} (hi : A[i]? = some ob) : i < A.length := (List.getElem?_eq_some_iff.mp hi).1
/-- a new object at the heap's end -/
def gnew (g : Nat → Addr) (n : Nat) (a : Addr) : Nat → Addr := fun i => if i = n then a else g i
theorem gnew_old (g : Nat → Addr) (n : Nat) (a : Addr) : ∀ i, i < n → gnew g n a i = g i := fun i hi => if_neg (by omega)
theorem gnew_new (g : Nat → Addr) (n : Nat) (a : Addr) : gnew g n a n = a := if_pos rfl
theorem Rep.new {ob : Obj} (Rp : Rep Z kc sl n0 k0 h g A) (E : Ext h h') (hlt : h.size < h'.size) (hob : OR Z kc h' (gnew g A.length h.size) h.size ob) (w : wS A.length ob.2) : Rep Z kc sl n0 k0 h' (gnew g A.length h.size) (A ++ [ob]) := by
  obtain ⟨r1, r2, r3, r4, r5, r6⟩ := Rp
  have old := gnew_old g A.length h.size
  refine ⟨fun i hi => ?_, fun i j hi hj e => ?_, fun i x hi => ?_, by omega, by simp; omega, fun x hx => ?_⟩
  · simp only [List.length_append, List.length_cons, List.length_nil] at hi
    by_cases q : i = A.length
    · subst q; rw [gnew_new]; exact ⟨hlt, fun _ => r4⟩
    · rw [old i (by omega)]; exact ⟨Nat.lt_trans (r1 i (by omega)).1 hlt, (r1 i (by omega)).2⟩
  · simp only [List.length_append, List.length_cons, List.length_nil] at hi hj
    by_cases q : i = A.length
    · by_cases q' : j = A.length
      · omega
      · subst q; rw [gnew_new, old j (by omega)] at e; exact absurd e.symm (Nat.ne_of_lt (r1 j (by omega)).1)
    · by_cases q' : j = A.length
      · subst q'; rw [gnew_new, old i (by omega)] at e; exact absurd e (Nat.ne_of_lt (r1 i (by omega)).1)
      · rw [old i (by omega), old j (by omega)] at e; exact r2 i j (by omega) (by omega) e
  · by_cases q : i < A.length
    · rw [List.getElem?_append_left q] at hi
      obtain ⟨o1, o2⟩ := r3 i x hi
      rw [old i q]
      exact ⟨(o1.ext E).cong old o2, fun v hv => wv_mono (by simp) (o2 v hv)⟩
    · rw [List.getElem?_append_right (by omega)] at hi
      have hz : i - A.length = 0 := by
        by_cases z : i - A.length = 0
        · exact z
        · rw [List.getElem?_eq_none (by simp; omega)] at hi; cases hi
      rw [hz] at hi
      cases hi
      have : i = A.length := by omega
      subst this
      rw [gnew_new]
      exact ⟨hob, fun v hv => wv_mono (by simp) (w v hv)⟩
  · obtain ⟨s1, s2⟩ := r6 x hx
    exact ⟨by rw [gv_cong old (wv_mono r5 s2)]; exact s1.ext E, s2⟩
theorem Rep.upd {i : Nat} {ob ob' : Obj} {s : Nat} {v : Value} (Rp : Rep Z kc sl n0 k0 h g A) (hi : A[i]? = some ob) (W : Wr h h' (g i) s v) (hob : OR Z kc h' g (g i) ob') (w : wS A.length ob'.2) : Rep Z kc sl n0 k0 h' g (A.set i ob') := by
  obtain ⟨r1, r2, r3, r4, r5, r6⟩ := Rp
  have hlt := Rep.lt hi
  refine ⟨fun j hj => ?_, fun j j' hj hj' e => ?_, fun j x hj => ?_, by rw [W.size]; exact r4, by simpa using r5, fun x hx => ?_⟩
  · rw [W.size]; exact r1 j (by simpa using hj)
  · exact r2 j j' (by simpa using hj) (by simpa using hj') e
  · rw [List.length_set]
    by_cases e : i = j
    · subst e
      rw [List.getElem?_set_self hlt] at hj
      cases hj
      exact ⟨hob, w⟩
    · rw [List.getElem?_set_ne e] at hj
      obtain ⟨o1, o2⟩ := r3 j x hj
      exact ⟨o1.other W (fun q => e (r2 j i (Rep.lt hj) hlt q).symm), o2⟩
  · obtain ⟨s1, s2⟩ := r6 x hx
    exact ⟨s1.wr W, s2⟩
theorem Rep.exa {i k : Nat} {vs : List Value} {C : String} {fs : List Fd} (Rp : Rep Z kc sl n0 k0 h g A) (hi : A[i]? = some (k, vs)) (hk : kc k = some (C, fs)) : Exa Z h (g i) C := ((Rp.ob hi).1 C fs hk).1
theorem Rep.exaA {i k : Nat} {vs : List Value} {ty : FieldType} {nm : String} (Rp : Rep Z kc sl n0 k0 h g A) (hi : A[i]? = some (k, vs)) (hk : arT k = some (ty, nm)) : Exa Z h (g i) nm := by
  obtain ⟨c, q1, q2, q3, q4, q5, q6⟩ := (Rp.ob hi).2 ty nm hk
  exact exa_arr q1 q4 q5
theorem setIf_self {α : Type} {h : Array α} {i : Nat} {c : α} (e : h[i]? = some c) : h.setIfInBounds i c = h := by
  apply Array.toList_inj.mp
  rw [Array.toList_setIfInBounds]
  have e' : h.toList[i]? = some c := by rw [Array.getElem?_toList]; exact e
  apply List.ext_getElem?
  intro j
  by_cases q : i = j
  · subst q
    rw [List.getElem?_set_self (List.getElem?_eq_some_iff.mp e').1, e']
  · rw [List.getElem?_set_ne q]
theorem setL_self {α : Type} {l : List α} {i : Nat} {c : α} (e : l[i]? = some c) : l.set i c = l := by
  apply List.ext_getElem?
  intro j
  by_cases q : i = j
  · subst q
    rw [List.getElem?_set_self (List.getElem?_eq_some_iff.mp e).1, e]
  · rw [List.getElem?_set_ne q]
/-- a stretch of an array written -/
def setRun : List Value → Nat → List Value → List Value
  | ws, _, [] => ws
  | ws, p, u :: r => setRun (ws.set p u) (p + 1) r
theorem setRun_len (us : List Value) : ∀ (ws : List Value) (p : Nat), (setRun ws p us).length = ws.length := by
  induction us with
  | nil => intro ws p; rfl
  | cons u r ih => intro ws p; show (setRun (ws.set p u) (p + 1) r).length = _; rw [ih]; simp
theorem Rep.run {i k : Nat} {ty : FieldType} {nm : String} (hk : arT k = some (ty, nm)) (hkc : kc k = none) (at_ : Nat) (us : List Value) : ∀ (j : Nat) (ws : List Value) (h : Heap) (A : AH) (cell : Cell), Rep Z kc sl n0 k0 h g A → A[i]? = some (k, ws) → h[g i]? = some cell → (∀ u ∈ us, fits ty u = true) → (∀ u ∈ us, wv A.length u) → at_ + j + us.length ≤ ws.length →
    Rep Z kc sl n0 k0 (h.setIfInBounds (g i) (cell.storePairs at_ ((gS g us).zipIdx j))) g (A.set i (k, setRun ws (at_ + j) us)) := by
  induction us with
  | nil =>
    intro j ws h A cell Rp hi hc _ _ _
    have e1 : h.setIfInBounds (g i) (cell.storePairs at_ ((gS g ([] : List Value)).zipIdx j)) = h := setIf_self hc
    have e2 : A.set i (k, setRun ws (at_ + j) []) = A := setL_self hi
    rw [e1, e2]; exact Rp
  | cons u r ih =>
    intro j ws h A cell Rp hi hc hf hwf hl
    obtain ⟨c0, q1, q2, q3, q4, q5, q6⟩ := (Rp.ob hi).2 ty nm hk
    cases hc.symm.trans q1.1
    have q2 : cell.slots.toList = gS g ws := q2
    have hsz : cell.slots.size = ws.length := by have := congrArg List.length q2; simpa using this
    simp only [List.length_cons] at hl
    have W : Wr h (h.setIfInBounds (g i) (cell.setSlot (at_ + j) (gv g u))) (g i) (at_ + j) (gv g u) := ⟨cell, hc, by rw [q5]; rfl, by omega, rfl⟩
    have Rp1 := Rp.upd hi W ((Rp.ob hi).store hk hkc (j := at_ + j) (v := u) (by omega) (hf u (List.mem_cons_self ..)) W) (fun x hx => by
      rcases List.mem_or_eq_of_mem_set hx with q | q
      · exact Rp.wf hi x q
      · subst q; exact hwf _ (List.mem_cons_self ..))
    have hlt := Rep.lt hi
    have hg : g i < h.size := (Array.getElem?_eq_some_iff.mp hc).1
    have := ih (j + 1) (ws.set (at_ + j) u) _ _ (cell.setSlot (at_ + j) (gv g u)) Rp1 (List.getElem?_set_self hlt) (by rw [Array.getElem?_setIfInBounds_self_of_lt hg]) (fun x hx => hf x (List.mem_cons_of_mem _ hx)) (fun x hx => by rw [List.length_set]; exact hwf x (List.mem_cons_of_mem _ hx)) (by rw [List.length_set]; omega)
    rw [Array.setIfInBounds_setIfInBounds, List.set_set] at this
    exact this
end Heaps
/-! the steps that read the tables or the heap -/
abbrev HR : Type := List Prop × Orc × Nat × List Slot × List Value × AH × Nat × Nat × Nat × Nat
abbrev csum (S : List Value) : Nat := (S.map fun v => v.category).sum
def fitT (o : Orc) : Nat → Value → Option (List Prop)
  | 0, .int _ => some []
  | 1, .long _ => some []
  | 2, .double _ => some []
  | 3, .ref _ => some []
  | 3, .null => some []
  | 4, .int x => need o (x = 0 ∨ x = 1)
  | _, _ => none
def tOk : Nat → FieldType → Bool
  | 0, .int => true
  | 1, .long => true
  | 2, .double => true
  | 3, .object _ => true
  | 3, .array _ => true
  | 4, .boolean => true
  | 4, .byte => true
  | _, _ => false
theorem fitT_ok {o : Orc} {t : Nat} {v : Value} {cs : List Prop} {ty : FieldType} (h : fitT o t v = some cs) (hc : ∀ P ∈ cs, P) (ht : tOk t ty = true) (g : Nat → Addr) : narrow ty (gv g v) = gv g v ∧ fits ty (gv g v) = true := by
  unfold fitT at h
  split at h
  case h_7 => cases h
  case h_6 x =>
    have q := need_ok h hc
    unfold tOk at ht
    split at ht <;> first | contradiction | (rcases q with rfl | rfl <;> exact ⟨rfl, rfl⟩)
  all_goals
    cases h
    unfold tOk at ht
    split at ht <;> first | contradiction | exact ⟨rfl, rfl⟩
def dvK : Nat → Value
  | 0 => .int 0
  | 1 => .long 0
  | 2 => .double 0
  | 3 => .int 0
  | 4 => .int 0
  | _ => .null
def alK : Instr → Nat → Bool
  | .iaload, 0 => true
  | .laload, 1 => true
  | .daload, 2 => true
  | .baload, 3 => true
  | .baload, 4 => true
  | _, _ => false
def asV : Instr → Nat → Value → Option Value
  | .iastore, 0, .int x => some (.int x)
  | .lastore, 1, .long x => some (.long x)
  | .dastore, 2, .double x => some (.double x)
  | .bastore, 3, .int x => some (.int (x &&& 1))
  | .bastore, 4, .int x => some (.int x.toInt8.toInt32)
  | _, _, _ => none
def naK : ArrayType → Nat → Bool
  | .int, 0 => true
  | .long, 1 => true
  | .double, 2 => true
  | .boolean, 3 => true
  | .byte, 4 => true
  | _, _ => false
def hAl (i : Instr) (o : Orc) (pc : Nat) (L : List Slot) (S : List Value) (A : AH) : Option HR :=
  match S with
  | .int j :: .ref a :: r => (match A[a]? with
    | some (k, vs) => if alK i k then (match need o (¬ j < 0) with
      | some cs => (match vs[j.toNatClampNeg]? with
        | some v => some (cs, o, pc + 1, L, v :: r, A, 0, 0, 0, 0)
        | none => none)
      | none => none) else none
    | none => none)
  | _ => none
def hAs (k0 : Nat) (i : Instr) (o : Orc) (pc : Nat) (L : List Slot) (S : List Value) (A : AH) : Option HR :=
  match S with
  | v :: .int j :: .ref a :: r => (match A[a]? with
    | some (k, vs) => (match asV i k v with
      | some v' => if k0 ≤ a ∧ j.toNatClampNeg < vs.length then (match need o (¬ j < 0) with
        | some cs => forceL (vs.set j.toNatClampNeg v') fun vs' => forceL (A.set a (k, vs')) fun A' => some (cs, o, pc + 1, L, r, A', 0, 0, 0, 0)
        | none => none) else none
      | none => none)
    | none => none)
  | _ => none
/-- System.arraycopy of one array of numbers into another -/
def hCp (k0 : Nat) (o : Orc) (pc : Nat) (L : List Slot) (S : List Value) (A : AH) : Option HR :=
  match S with
  | .int n :: .int dp :: .ref d :: .int sp :: .ref a :: r => (match A[a]?, A[d]? with
    | some (k, vs), some (k', ws) => if k = k' ∧ k ≤ 2 ∧ k0 ≤ d then (match need o (¬ sp < 0 ∧ ¬ dp < 0 ∧ ¬ n < 0 ∧ sp.toNatClampNeg + n.toNatClampNeg ≤ vs.length ∧ dp.toNatClampNeg + n.toNatClampNeg ≤ ws.length) with
      | some cs => forceL (setRun ws dp.toNatClampNeg ((vs.drop sp.toNatClampNeg).take n.toNatClampNeg)) fun ws' => forceL (A.set d (k, ws')) fun A' => some (cs, o, pc + 3, L, r, A', 0, 0, 1, csum r + 18)
      | none => none) else none
    | _, _ => none)
  | _ => none
def hstep (k0 : Nat) (kd : Nat → List Value × Nat) (ext : Nat → List Value → Option (Bool × Value)) (exw : Nat → Nat × Nat) (i : Instr) (nums : List Nat) (val : Value) (o : Orc) (pc : Nat) (L : List Slot) (S : List Value) (A : AH) : Option HR :=
  match i with
  | .ldc _ =>
    match val with
    | .int x => some ([], o, pc + 2, L, .int x :: S, A, 0, 0, 0, 0)
    | _ => none
  | .ldc2_w _ =>
    match val with
    | .long x => some ([], o, pc + 3, L, .long x :: S, A, 0, 0, 0, 0)
    | .double x => some ([], o, pc + 3, L, .double x :: S, A, 0, 0, 0, 0)
    | _ => none
  | .getstatic _ => some ([], o, pc + 3, L, val :: S, A, 0, 0, 0, 0)
  | .getfield _ =>
    match nums, S with
    | [k, j], .ref a :: r => (match A[a]? with
      | some (k', vs) => if k' = k then (match vs[j]? with
        | some v => some ([], o, pc + 3, L, v :: r, A, 0, 0, 0, 0)
        | none => none) else none
      | none => none)
    | _, _ => none
  | .putfield _ =>
    match nums, S with
    | [k, j, t], v :: .ref a :: r => (match A[a]? with
      | some (k', vs) => if k' = k ∧ k0 ≤ a then (match fitT o t v with
        | some cs => forceL (vs.set j v) fun vs' => forceL (A.set a (k, vs')) fun A' => some (cs, o, pc + 3, L, r, A', 0, 0, 0, 0)
        | none => none) else none
      | none => none)
    | _, _ => none
  | .new _ =>
    match nums with
    | [k] => forceL (A ++ [(k, (kd k).1)]) fun A' => forceN A.length fun n => some ([], o, pc + 3, L, .ref n :: S, A', 1, (kd k).2, 0, 0)
    | _ => none
  | .newarray t =>
    match nums, S with
    | [k], .int n :: r => if naK t k then (match need o (¬ n < 0 ∧ n.toNatClampNeg ≤ 67108864) with
      | some cs => forceL (List.replicate n.toNatClampNeg (dvK k)) fun vs' => forceL (A ++ [(k, vs')]) fun A' => forceN A.length fun m => some (cs, o, pc + 2, L, .ref m :: r, A', 1, n.toNatClampNeg, 0, 0)
      | none => none) else none
    | _, _ => none
  | .arraylength =>
    match S with
    | .ref a :: r => (match A[a]? with
      | some (k, vs) => if (arT k).isSome then some ([], o, pc + 1, L, .int vs.length.toInt32 :: r, A, 0, 0, 0, 0) else none
      | none => none)
    | _ => none
  | .iaload | .laload | .daload | .baload => hAl i o pc L S A
  | .iastore | .lastore | .dastore | .bastore => hAs k0 i o pc L S A
  | .if_acmp c off =>
    match S with
    | y :: x :: r => if x.isRef = true ∧ y.isRef = true then
        (if XT.acmp c x y = true then (if 0 ≤ (pc : Int) + off then some ([], o, ((pc : Int) + off).toNat, L, r, A, 0, 0, 0, 0) else none) else some ([], o, pc + 3, L, r, A, 0, 0, 0, 0))
      else none
    | _ => none
  | .checkcast _ =>
    match S with
    | .ref a :: r => (match A[a]? with
      | some (k, _) => if nums.contains k then some ([], o, pc + 3, L, .ref a :: r, A, 0, 0, 0, 0) else none
      | none => none)
    | _ => none
  | .invokespecial _ =>
    match nums, S with
    | [0], .ref a :: r => some ([], o, pc + 3, L, r, A, 0, 0, 1, csum r + 12)
    | _, _ => none
  | .invokestatic _ =>
    match nums with
    | [0, x, na] => if na ≤ S.length then (match ext x (S.take na).reverse with
      | some (b, v) => (match need o (b = true) with
        | some cs => some (cs, o, pc + 3, L, v :: S.drop na, A, 0, 0, (exw x).1, csum (S.drop na) + (exw x).2)
        | none => none)
      | none => none) else none
    | [2] => hCp k0 o pc L S A
    | _ => none
  | .invokevirtual _ =>
    match nums, S with
    | [0, kk], .ref a :: r => (match A[a]? with
      | some (k, vs) => if k = kk then forceL (A ++ [(k, vs)]) fun A' => forceN A.length fun m => some ([], o, pc + 3, L, .ref m :: r, A', 1, vs.length, 1, csum r + 14) else none
      | none => none)
    | _, _ => none
  | _ => none
/-- a name of a kind -/
def kNm (kc : KTy) (k : Nat) : Option String :=
  match arT k with
  | some (_, nm) => some nm
  | none => (kc k).map (·.1)
def cloneN (ad : String) : MethodName := ⟨ad, "clone", "()Ljava/lang/Object;"⟩
def notMH (y : MethodName) : Prop := y.cls ≠ "java/lang/invoke/MethodHandle" ∧ y.cls ≠ "java/lang/invoke/VarHandle"
def nArgs (y : MethodName) (n : Nat) : Prop := ∃ ps r, parseMethodDescriptor y.desc = some ⟨ps, r⟩ ∧ n = ps.length
def CN (y : MethodName) (d : Cond) : Prop := (∃ b ml rt, d = Cond.code y b ml rt) ∨ d = Cond.native y
/-- what the sheet's words must say of an instruction -/
def VI (Z : State) (a0 : Array Value) (kc : KTy) (sl : SL) (kd : Nat → List Value × Nat) (ext : Nat → List Value → Option (Bool × Value)) (exw : Nat → Nat × Nat) (own mname : String) : Instr → List Nat → Value → Prop
  | .ldc idx, _, .int x => (Cond.constant own idx x).before a0 Z = true
  | .ldc2_w idx, _, .long x => (Cond.constantLong own idx x).before a0 Z = true
  | .ldc2_w idx, _, .double x => (Cond.constantDouble own idx x).before a0 Z = true
  | .getstatic idx, _, v => ∃ R0 C n d, (Cond.fieldLink own idx R0 n d).before a0 Z = true ∧ Via Z R0 C n d ∧ ((C, n, d), v) ∈ sl
  | .getfield idx, [k, j], _ => ∃ C fs f R0, kc k = some (C, fs) ∧ fs[j]? = some f ∧ (Cond.fieldLink own idx R0 f.2.1 f.2.2.1).before a0 Z = true ∧ Via Z R0 f.1 f.2.1 f.2.2.1
  | .putfield idx, [k, j, t], _ => ∃ C fs f R0 kk, kc k = some (C, fs) ∧ fs[j]? = some f ∧ (Cond.fieldLink own idx R0 f.2.1 f.2.2.1).before a0 Z = true ∧ Via Z R0 f.1 f.2.1 f.2.2.1 ∧ ((Cond.lays C f.1 f.2.1 f.2.2.1).before a0 Z = true ∨ ((Cond.laysFinal C f.1 f.2.1 f.2.2.1).before a0 Z = true ∧ own = f.1 ∧ mname = "<init>")) ∧ (Cond.instantiable C kk).before a0 Z = true ∧ tOk t f.2.2.2 = true
  | .new idx, [k], _ => ∃ C fs, kc k = some (C, fs) ∧ (Cond.classLink own idx C).before a0 Z = true ∧ (Cond.instantiable C (kd k).2).before a0 Z = true ∧ (Cond.initialized C).before a0 Z = true ∧ (kd k).1 = fs.map (fun f => defaultValue f.2.2.2)
  | .newarray t, [k], _ => (Cond.arrayClass (newarray.typeOf t)).before a0 Z = true ∧ kc k = none
  | .checkcast idx, ks, _ => ∃ K, (Cond.classLink own idx K).before a0 Z = true ∧ ∀ k ∈ ks, ∃ C, kNm kc k = some C ∧ (Cond.castable C K).before a0 Z = true
  | .invokespecial idx, [0], _ => (Cond.methodLink own idx Lib.objectInit).before a0 Z = true ∧ (Cond.instanceMethod Lib.objectInit).before a0 Z = true ∧ (Cond.code Lib.objectInit ⟨#[0xb1]⟩ 1 none).before a0 Z = true
  | .invokestatic idx, [0, x, na], _ => ∃ (y : MethodName) (ds : List Cond) (d0 : Cond), (Cond.methodLink own idx y).before a0 Z = true ∧ (Cond.static y).before a0 Z = true ∧ (Cond.initialized y.cls).before a0 Z = true ∧ (∀ d ∈ ds, (d.onTables && d.keepsFace) = true ∧ d.before a0 Z = true) ∧ d0 ∈ ds ∧ CN y d0 ∧ notMH y ∧ nArgs y na ∧
      ∀ (as : List Value) (v : Value), ext x as = some (true, v) → (∀ g, gS g as = as) ∧ (∀ g, gv g v = v) ∧ ∀ (l : Launch) (R : Room) (p : Program) (e : Env) (below : List Frame) (s : State) (sargs : Array Value) (W : Nat), (∀ d ∈ ds, d.before sargs s = true) → (exw x).1 ≤ R.frames → W + (exw x).2 ≤ R.locals →
        Back l R p e below s sargs y 3 W (fun A a' => A.cells ≤ R.cells ∧ A.slots ≤ R.slots ∧ a' = as.toArray) (fun A _ v' B => v' = some v ∧ B = A)
  | .invokestatic idx, [2], _ => (∀ k, k ≤ 2 → kc k = none) ∧ (Cond.methodLink own idx Jvm.Stand.acN).before a0 Z = true ∧ (Cond.native Jvm.Stand.acN).before a0 Z = true ∧ (Cond.static Jvm.Stand.acN).before a0 Z = true ∧ (Cond.initialized "java/lang/System").before a0 Z = true
  | .invokevirtual idx, [0, k], _ => ∃ ty ad, arT k = some (ty, ad) ∧ kc k = none ∧ (Cond.methodLink own idx (cloneN ad)).before a0 Z = true ∧ (Cond.sameMethod ad "java/lang/Object" "clone" "()Ljava/lang/Object;").before a0 Z = true ∧ (Cond.native (cloneN "java/lang/Object")).before a0 Z = true ∧ (Cond.instanceMethod (cloneN "java/lang/Object")).before a0 Z = true ∧ (Cond.selects ad (cloneN ad) (cloneN "java/lang/Object")).before a0 Z = true ∧ (Cond.castable ad "java/lang/Cloneable").before a0 Z = true
  | _, _, _ => True
section HeapSteps
variable {p : Program} {l : Launch} {e : Env} {R : Room} {s : State} {m : MethodId} {args : Array Value} {below : List Frame} {meth : Method} {c : Code} {T : State} {locs : List Loc} {cells slots : Nat}
variable {Z : State} {a0 : Array Value} {kc : KTy} {sl : SL} {n0 k0 : Nat} {g : Nat → Addr} {A : AH}
theorem natG (X : Stand p l e R s m args below meth c T locs cells slots) (hx : p.tables.exec = Jvm.exec) (hZ : Z.Warmed39 s.vm) {own : String} {index : Nat} {y : MethodName} (hown : s.vm.findClass own = some m.cls)
    (w1 : (Cond.methodLink own index y).before a0 Z = true) (w2 : (Cond.static y).before a0 Z = true) (w3 : (Cond.initialized y.cls).before a0 Z = true) {d0 : Cond} (c4 : d0.before args s = true) (hcn : CN y d0) (hy : notMH y)
    {h : Heap} (eT : T.heap = h) {W : Nat} {F : Array Value → Prop} {val : Value} (hK : Back l R p e below s args y 3 W (fun A a' => A.cells ≤ R.cells ∧ A.slots ≤ R.slots ∧ F a') (fun A _ v B => v = some val ∧ B = A))
    {g : JFrame} (hg : g.method = m) (hsize : g.locals.size = c.maxLocals) {argsL rest : List Value} (hlen : ∀ sig, parseMethodDescriptor y.desc = some sig → argsL.length = sig.parameters.length) (hst : g.stack = argsL.reverse ++ rest) (hW : 2 * g.monitorRoom + (rest.map fun v => v.category).sum ≤ W)
    (hd : decode c.code g.pc = .ok (.invokestatic index, 3)) (hc : cells ≤ R.cells) (hs : slots ≤ R.slots) (hF : F argsL.toArray) :
    ∃ T', Stand p l e R s m args below meth c T' locs cells slots ∧ T'.heap = h ∧ ∀ target, Steps p.tables e below (T'.setTop { g with pc := g.pc + 3, stack := val :: rest }) target → Steps p.tables e below (T.setTop g) target := by
  obtain ⟨mk, methM, hnamed, hmethM, hsigM⟩ : ∃ mk methM, s.methodNamed? y = some mk ∧ s.vm.method? mk = some methM ∧ parseMethodDescriptor y.desc = some methM.sig := by
    rcases hcn with ⟨b, ml, rt, rfl⟩ | rfl
    · obtain ⟨mk, hnamed⟩ := Cond.code_named c4
      obtain ⟨methM, cM, hmethM, -, -, -, -, -, -, hsigM⟩ := Cond.code_spec hnamed c4
      exact ⟨mk, methM, hnamed, hmethM, hsigM⟩
    · obtain ⟨mk, methM, h1, h2, -, -, -, h3⟩ := Cond.native_spec c4
      exact ⟨mk, methM, h1, h2, h3⟩
  obtain ⟨v, vm1, B, hW1, X', ⟨hv1, hB⟩, st⟩ := Stand.staticBack (args := args) X hx hown (mvT hZ w1) (mvT hZ w2) (mvT hZ w3) hnamed hmethM hsigM hy hK hg hsize (Steps.refl _) hlen hst hW hd (fun vm1 _ => ⟨hc, hs, hF⟩)
  subst hv1 hB
  exact ⟨_, X', eT, fun target k => st.trans k⟩
theorem arr_size {cl : Cell} {vs : List Value} (q : cl.slots.toList = gS g vs) : cl.slots.size = vs.length := by
  have := congrArg List.length q
  simpa using this
theorem arr_get {cl : Cell} {vs : List Value} (q : cl.slots.toList = gS g vs) {j : Nat} {v : Value} (hv : vs[j]? = some v) : cl.slots[j]? = some (gv g v) := by
  rw [← Array.getElem?_toList, q]; simp [hv]
theorem dv_plain (g : Nat → Addr) (t : FieldType) : gv g (defaultValue t) = defaultValue t := by cases t <;> rfl
theorem dv_wf (n : Nat) (t : FieldType) : wv n (defaultValue t) := by cases t <;> exact trivial
/-- an array of primitives made: with her class's name -/
theorem newP2 (X : Stand p l e R s m args below meth c T locs cells slots) (hx : p.tables.exec = Jvm.exec) (hZ : Z.Warmed39 s.vm) {aty : ArrayType} (w : (Cond.arrayClass (newarray.typeOf aty)).before a0 Z = true) {f : JFrame} (hg : f.method = m) (hd : decode c.code f.pc = .ok (.newarray aty, 2)) {n : Int32} {rest : List Value} (hs : f.stack = .int n :: rest)
    (hn : ¬ n < 0) (hb : n.toNatClampNeg ≤ 67108864) (hc : cells + 1 ≤ R.cells) (hl : slots + n.toNatClampNeg ≤ R.slots) :
    ∃ T' cA, Stand p l e R s m args below meth c T' locs (cells + 1) (slots + n.toNatClampNeg) ∧ Ext T.heap T'.heap ∧ Arr Z T'.heap T.heap.size (newA cA (newarray.typeOf aty) n) (newarray.typeOf aty) ∧ Z.vm.findClass ("[" ++ (newarray.typeOf aty).toString) = some cA ∧
      ∀ target, Steps p.tables e below (T'.setTop { f with pc := f.pc + 2, stack := .ref T.heap.size :: rest }) target → Steps p.tables e below (T.setTop f) target := by
  have hcb : componentBytes (newarray.typeOf aty) ≤ 8 := by cases aty <;> decide
  have hb2 : n.toNatClampNeg * componentBytes (newarray.typeOf aty) ≤ 536870912 := Nat.le_trans (Nat.mul_le_mul hb hcb) (by decide)
  obtain ⟨cA, kA, comp, h1, h2, h3, X', st⟩ := X.newarrayPrim hx (mvA hZ w) hg hd hs hn hb2 hc hl
  rw [hZ.alike.findClass] at h1
  obtain ⟨kZ, z1, -⟩ := Vm.findClass_spec h1
  obtain ⟨k', z2, z3⟩ := hZ.alike.2.2 _ _ z1
  cases h2.symm.trans z2
  refine ⟨_, cA, X', ext_of fun a q => ?_, ⟨?_, ⟨fun _ z => by simp [newA] at z, kZ, z1, comp, ?_⟩, fun z => by simp [newA] at z⟩, h1, st⟩
  · exact (Array.getElem?_push_lt q).trans (Array.getElem?_eq_getElem q).symm
  · show (T.heap.push _)[T.heap.size]? = _
    simp [newA]
  · rw [← h3, z3]
theorem naK_ok {t : ArrayType} {k : Nat} (h : naK t k = true) : arT k = some (newarray.typeOf t, "[" ++ (newarray.typeOf t).toString) ∧ dvK k = defaultValue (newarray.typeOf t) ∧ fits (newarray.typeOf t) (dvK k) = true := by
  unfold naK at h
  split at h <;> first | contradiction | exact ⟨by decide, rfl, rfl⟩
theorem alK_ok {i : Instr} {k : Nat} (h : alK i k = true) : ∃ ty nm, arT k = some (ty, nm) ∧ ((i = .iaload ∧ ty = .int) ∨ (i = .laload ∧ ty = .long) ∨ (i = .daload ∧ ty = .double) ∨ (i = .baload ∧ ty = .boolean) ∨ (i = .baload ∧ ty = .byte)) := by
  unfold alK at h
  split at h
  · exact ⟨_, _, rfl, Or.inl ⟨rfl, rfl⟩⟩
  · exact ⟨_, _, rfl, Or.inr (Or.inl ⟨rfl, rfl⟩)⟩
  · exact ⟨_, _, rfl, Or.inr (Or.inr (Or.inl ⟨rfl, rfl⟩))⟩
  · exact ⟨_, _, rfl, Or.inr (Or.inr (Or.inr (Or.inl ⟨rfl, rfl⟩)))⟩
  · exact ⟨_, _, rfl, Or.inr (Or.inr (Or.inr (Or.inr ⟨rfl, rfl⟩)))⟩
  · cases h
/-- a load out of an array -/
theorem al_ok (X : Stand p l e R s m args below meth c T locs cells slots) (hx : p.tables.exec = Jvm.exec) (hZ : Z.Warmed39 s.vm) {i : Instr} {k a : Nat} {vs : List Value} (hk : alK i k = true) (Rp : Rep Z kc sl n0 k0 T.heap g A) (ha : A[a]? = some (k, vs)) {j : Int32} {v : Value} (hj : ¬ j < 0) (hv : vs[j.toNatClampNeg]? = some v)
    {pc : Nat} {Ls : Array Slot} {rest : List Value} (hd : decode c.code pc = .ok (i, 1)) (target : State) (hr : Steps p.tables e below (T.setTop (mkF m (pc + 1) Ls (gv g v :: rest))) target) : Steps p.tables e below (T.setTop (mkF m pc Ls (.int j :: .ref (g a) :: rest))) target := by
  obtain ⟨ty, nm, h1, h2⟩ := alK_ok hk
  obtain ⟨cl, q1, q2, q3, q4, q5, q6⟩ := (Rp.ob ha).2 ty nm h1
  have q2 : cl.slots.toList = gS g vs := q2
  have hin : ¬ (j < 0 ∨ cl.slots.size ≤ j.toNatClampNeg) := by
    have := (List.getElem?_eq_some_iff.mp hv).1
    rw [arr_size q2]
    rintro (q | q)
    · exact hj q
    · omega
  have hv' := arr_get q2 hv
  have harr := State.isArrayOf_alike (T := s) hZ.alike q1.2.1
  rcases h2 with ⟨rfl, rfl⟩ | ⟨rfl, rfl⟩ | ⟨rfl, rfl⟩ | ⟨rfl, rfl⟩ | ⟨rfl, rfl⟩
  · exact X.iaload hx q1.1 harr q1.2.2 hin hv' (g := mkF m pc Ls (.int j :: .ref (g a) :: rest)) rfl rfl hd target hr
  · exact X.laload hx q1.1 harr q1.2.2 hin hv' (g := mkF m pc Ls (.int j :: .ref (g a) :: rest)) rfl rfl hd target hr
  · exact X.daload hx q1.1 harr q1.2.2 hin hv' (g := mkF m pc Ls (.int j :: .ref (g a) :: rest)) rfl rfl hd target hr
  · exact X.baloadBooleans hx q1.1 harr q1.2.2 hin hv' (g := mkF m pc Ls (.int j :: .ref (g a) :: rest)) rfl rfl hd target hr
  · exact X.baloadBytes hx q1.1 harr q1.2.2 hin hv' (g := mkF m pc Ls (.int j :: .ref (g a) :: rest)) rfl rfl hd target hr
/-- a store into an array -/
theorem as_ok (X : Stand p l e R s m args below meth c T locs cells slots) (hx : p.tables.exec = Jvm.exec) (hZ : Z.Warmed39 s.vm) {i : Instr} {k a : Nat} {vs : List Value} {v v' : Value} (hk : asV i k v = some v') (Rp : Rep Z kc sl n0 k0 T.heap g A) (ha : A[a]? = some (k, vs)) {j : Int32} (hj : ¬ j < 0) (hv : j.toNatClampNeg < vs.length)
    {pc : Nat} {Ls : Array Slot} {rest : List Value} (hd : decode c.code pc = .ok (i, 1)) :
    ∃ ty nm, arT k = some (ty, nm) ∧ fits ty v' = true ∧ gv g v' = v' ∧ (∀ n, wv n v') ∧ ∃ T' h', Stand p l e R s m args below meth c T' (locs ++ [⟨g a, j.toNatClampNeg⟩]) cells slots ∧ T'.heap = h' ∧ Wr T.heap h' (g a) j.toNatClampNeg v' ∧ ∀ target, Steps p.tables e below (T'.setTop (mkF m (pc + 1) Ls rest)) target → Steps p.tables e below (T.setTop (mkF m pc Ls (gv g v :: .int j :: .ref (g a) :: rest))) target := by
  unfold asV at hk
  split at hk
  case h_6 => cases hk
  all_goals
    cases hk
    obtain ⟨cl, q1, q2, q3, q4, q5, q6⟩ := (Rp.ob ha).2 _ _ rfl
    have q2 : cl.slots.toList = gS g vs := q2
    have hin : ¬ (j < 0 ∨ cl.slots.size ≤ j.toNatClampNeg) := by
      rw [arr_size q2]
      rintro (q | q)
      · exact hj q
      · omega
  · obtain ⟨T', h', X', e', W', st⟩ := stI X hx hZ rfl q1 hin (g := mkF m pc Ls (_ :: .int j :: .ref (g a) :: rest)) rfl rfl hd
    exact ⟨_, _, rfl, rfl, rfl, fun _ => trivial, T', h', X', e', W', st⟩
  · obtain ⟨T', h', X', e', W', st⟩ := stJ X hx hZ rfl q1 hin (g := mkF m pc Ls (_ :: .int j :: .ref (g a) :: rest)) rfl rfl hd
    exact ⟨_, _, rfl, rfl, rfl, fun _ => trivial, T', h', X', e', W', st⟩
  · obtain ⟨T', h', X', e', W', st⟩ := stD X hx hZ rfl q1 hin (g := mkF m pc Ls (_ :: .int j :: .ref (g a) :: rest)) rfl rfl hd
    exact ⟨_, _, rfl, rfl, rfl, fun _ => trivial, T', h', X', e', W', st⟩
  · obtain ⟨T', h', X', e', W', st⟩ := stZ X hx hZ rfl q1 hin (g := mkF m pc Ls (_ :: .int j :: .ref (g a) :: rest)) rfl rfl hd
    exact ⟨_, _, rfl, fits_nar_bool _, rfl, fun _ => trivial, T', h', X', e', W', st⟩
  · obtain ⟨T', h', X', e', W', st⟩ := stB X hx hZ rfl q1 hin (g := mkF m pc Ls (_ :: .int j :: .ref (g a) :: rest)) rfl rfl hd
    exact ⟨_, _, rfl, fits_nar_byte _, rfl, fun _ => trivial, T', h', X', e', W', st⟩
theorem acmp_g {cd : ACond} {x y : Value} (Rp : Rep Z kc sl n0 k0 T.heap g A) (wx : wv A.length x) (wy : wv A.length y) (hx : x.isRef = true) (hy : y.isRef = true) : XT.acmp cd (gv g x) (gv g y) = XT.acmp cd x y := by
  have key : gv g x = gv g y ↔ x = y := by
    rcases ref_cases hx with rfl | ⟨a, rfl⟩ <;> rcases ref_cases hy with rfl | ⟨b, rfl⟩
    · exact Iff.rfl
    · simp [gv]
    · simp [gv]
    · simp only [gv, Value.ref.injEq]
      exact ⟨fun q => Rp.2.1 a b wx wy q, fun q => by rw [q]⟩
  cases cd <;> simp [XT.acmp, key]
end HeapSteps
section HeapStep
variable {p : Program} {l : Launch} {e : Env} {R : Room} {s : State} {m : MethodId} {args : Array Value} {below : List Frame} {meth : Method} {c : Code} {T : State} {locs : List Loc} {cells slots : Nat}
variable {Z : State} {a0 : Array Value} {kc : KTy} {sl : SL} {n0 k0 : Nat} {g : Nat → Addr} {A : AH} {kd : Nat → List Value × Nat} {ext : Nat → List Value → Option (Bool × Value)} {exw : Nat → Nat × Nat} {own mname : String}
/-- the walk goes on from T's frame at a state that the abstract one tells -/
def Lands (p : Program) (l : Launch) (e : Env) (R : Room) (s : State) (m : MethodId) (args : Array Value) (below : List Frame) (meth : Method) (c : Code) (Z : State) (kc : KTy) (sl : SL) (n0 k0 : Nat) (T : State) (f0 : JFrame) (g : Nat → Addr) (A : AH) (cells slots pc : Nat) (L : List Slot) (S : List Value) (A' : AH) : Prop :=
  ∃ (T' : State) (locs' : List Loc) (g' : Nat → Addr), Stand p l e R s m args below meth c T' locs' cells slots ∧ Rep Z kc sl n0 k0 T'.heap g' A' ∧ Fr n0 locs' ∧ (∀ i, i < A.length → g' i = g i) ∧ A.length ≤ A'.length ∧ wL A'.length L ∧ wS A'.length S ∧
    ∀ target, Steps p.tables e below (T'.setTop (mkF m pc (gL g' L) (gS g' S))) target → Steps p.tables e below (T.setTop f0) target
theorem Lands.same {f0 : JFrame} {pc : Nat} {L : List Slot} {S : List Value} {T' : State} (X : Stand p l e R s m args below meth c T' locs cells slots) (eT : T'.heap = T.heap) (Rp : Rep Z kc sl n0 k0 T.heap g A) (N : Fr n0 locs) (w1 : wL A.length L) (w2 : wS A.length S)
    (st : ∀ target, Steps p.tables e below (T'.setTop (mkF m pc (gL g L) (gS g S))) target → Steps p.tables e below (T.setTop f0) target) : Lands p l e R s m args below meth c Z kc sl n0 k0 T f0 g A (cells + 0) (slots + 0) pc L S A :=
  ⟨T', locs, g, X, by rw [eT]; exact Rp, N, fun _ _ => rfl, Nat.le_refl _, w1, w2, st⟩
theorem hAl_ok (X : Stand p l e R s m args below meth c T locs cells slots) (hx : p.tables.exec = Jvm.exec) (hZ : Z.Warmed39 s.vm) (Rp : Rep Z kc sl n0 k0 T.heap g A) (N : Fr n0 locs)
    {i : Instr} {o o' : Orc} {pc pc' k n f w : Nat} {L L' : List Slot} {S S' : List Value} {A' : AH} {cs : List Prop} (w1 : wL A.length L) (w2 : wS A.length S) (hd : decode c.code pc = .ok (i, 1))
    (hp : hAl i o pc L S A = some (cs, o', pc', L', S', A', k, n, f, w)) (hc : ∀ P ∈ cs, P) :
    Lands p l e R s m args below meth c Z kc sl n0 k0 T (mkF m pc (gL g L) (gS g S)) g A (cells + k) (slots + n) pc' L' S' A' ∧ L'.length = L.length := by
  unfold hAl at hp
  split at hp
  · rename_i j a r
    have w3 := wS_cons.mp (wS_cons.mp w2).2
    split at hp
    · rename_i k1 vs ha
      split at hp
      · rename_i hal
        split at hp
        · rename_i cs1 hq
          split at hp
          · rename_i v hv
            cases hp
            exact ⟨Lands.same X rfl Rp N w1 (wS_cons.mpr ⟨Rp.wf ha v (List.mem_of_getElem? hv), w3.2⟩) fun target hr => al_ok X hx hZ hal Rp ha (need_ok hq hc) hv hd target hr, rfl⟩
          · cases hp
        · cases hp
      · cases hp
    · cases hp
  · cases hp
theorem hAs_ok (X : Stand p l e R s m args below meth c T locs cells slots) (hx : p.tables.exec = Jvm.exec) (hZ : Z.Warmed39 s.vm) (K : KOk Z a0 kc) (Rp : Rep Z kc sl n0 k0 T.heap g A) (N : Fr n0 locs)
    {i : Instr} {o o' : Orc} {pc pc' k n f w : Nat} {L L' : List Slot} {S S' : List Value} {A' : AH} {cs : List Prop} (w1 : wL A.length L) (w2 : wS A.length S) (hd : decode c.code pc = .ok (i, 1))
    (hp : hAs k0 i o pc L S A = some (cs, o', pc', L', S', A', k, n, f, w)) (hc : ∀ P ∈ cs, P) :
    Lands p l e R s m args below meth c Z kc sl n0 k0 T (mkF m pc (gL g L) (gS g S)) g A (cells + k) (slots + n) pc' L' S' A' ∧ L'.length = L.length := by
  unfold hAs at hp
  split at hp
  · rename_i v j a r
    have w3 := wS_cons.mp (wS_cons.mp (wS_cons.mp w2).2).2
    split at hp
    · rename_i k1 vs ha
      split at hp
      · rename_i v' hv
        split at hp
        · rename_i hb
          split at hp
          · rename_i cs1 hq
            simp only [forceL_eq] at hp
            cases hp
            obtain ⟨ty, nm, b1, b2, b3, b4, T', h', X', e', W', st⟩ := as_ok X hx hZ hv Rp ha (need_ok hq hc) hb.2 (Ls := gL g _) (rest := gS g _) hd
            subst e'
            have hkc : kc k1 = none := by
              cases hq2 : kc k1 with
              | none => rfl
              | some z => obtain ⟨C, fs⟩ := z; have := (K k1 C fs hq2).1; rw [b1] at this; cases this
            rw [← b3] at W'
            refine ⟨⟨T', _, g, X', Rp.upd ha W' ((Rp.ob ha).store b1 hkc hb.2 b2 W') ?_, Fr.snoc X' N ((Rp.1 a (Rep.lt ha)).2 hb.1), fun _ _ => rfl, by simp, ?_, ?_, st⟩, rfl⟩
            · intro x hx'
              rcases List.mem_or_eq_of_mem_set hx' with q | q
              · exact Rp.wf ha x q
              · subst q; exact b4 _
            · rw [List.length_set]; exact w1
            · rw [List.length_set]; exact w3.2
          · cases hp
        · cases hp
      · cases hp
    · cases hp
  · cases hp
theorem arT_prim {k : Nat} (h : k ≤ 2) : ∃ ty nm, arT k = some (ty, nm) ∧ refKind ty = false := by
  have : k = 0 ∨ k = 1 ∨ k = 2 := by omega
  rcases this with rfl | rfl | rfl <;> exact ⟨_, _, rfl, rfl⟩
theorem stretch_eq {cl : Cell} {vs : List Value} (q : cl.slots.toList = gS g vs) {sp n : Nat} (h : sp + n ≤ vs.length) : cl.stretch sp n = gS g ((vs.drop sp).take n) := by
  unfold Cell.stretch
  apply List.ext_getElem?
  intro i
  by_cases hi : i < n
  · have h1 : vs[sp + i]? = some vs[sp + i] := List.getElem?_eq_getElem (by omega)
    have h2 := arr_get q h1
    rw [List.getElem?_map, List.getElem?_range hi]
    simp only [Option.map_some, gS, List.getElem?_map, List.getElem?_take, hi, if_true, List.getElem?_drop, h1]
    rw [Array.getD_eq_getD_getElem?, h2]; rfl
  · rw [List.getElem?_eq_none (by simp; omega), List.getElem?_eq_none (by simp [gS]; omega)]
theorem hCp_ok (X : Stand p l e R s m args below meth c T locs cells slots) (hx : p.tables.exec = Jvm.exec) (hZ : Z.Warmed39 s.vm) (hown : s.vm.findClass own = some m.cls) (Rp : Rep Z kc sl n0 k0 T.heap g A) (N : Fr n0 locs)
    {idx : Nat} {o o' : Orc} {pc pc' k n f w : Nat} {L L' : List Slot} {S S' : List Value} {A' : AH} {cs : List Prop} (w1 : wL A.length L) (w2 : wS A.length S) (hd : decode c.code pc = .ok (.invokestatic idx, 3))
    (V : (∀ k, k ≤ 2 → kc k = none) ∧ (Cond.methodLink own idx Jvm.Stand.acN).before a0 Z = true ∧ (Cond.native Jvm.Stand.acN).before a0 Z = true ∧ (Cond.static Jvm.Stand.acN).before a0 Z = true ∧ (Cond.initialized "java/lang/System").before a0 Z = true) (hsz : L.length = c.maxLocals)
    (hp : hCp k0 o pc L S A = some (cs, o', pc', L', S', A', k, n, f, w)) (hc : ∀ P ∈ cs, P) (hf : f ≤ R.frames) (hw : w ≤ R.locals) :
    Lands p l e R s m args below meth c Z kc sl n0 k0 T (mkF m pc (gL g L) (gS g S)) g A (cells + k) (slots + n) pc' L' S' A' ∧ L'.length = L.length := by
  unfold hCp at hp
  split at hp
  · rename_i nn dp d sp a r
    split at hp
    · rename_i k1 vs k2 ws ha hdd
      split at hp
      · rename_i hb
        obtain ⟨rfl, hb1, hb2⟩ := hb
        split at hp
        · rename_i cs1 hq
          simp only [forceL_eq] at hp
          cases hp
          obtain ⟨n1, n2, n3, n4, n5⟩ := need_ok hq hc
          obtain ⟨v0, v1, v2, v3, v4⟩ := V
          obtain ⟨ty, nm, ht, hr⟩ := arT_prim hb1
          obtain ⟨ca, q1, q2, q3, q4, q5, q6⟩ := (Rp.ob ha).2 ty nm ht
          obtain ⟨cd, u1, u2, u3, u4, u5, u6⟩ := (Rp.ob hdd).2 ty nm ht
          have q2 : ca.slots.toList = gS g vs := q2
          have u2 : cd.slots.toList = gS g ws := u2
          obtain ⟨os, ks, hks, sc, hsk⟩ := State.isArrayOf_alike (T := s) hZ.alike q1.2.1
          obtain ⟨od, kd, hkd, dc, hdk⟩ := State.isArrayOf_alike (T := s) hZ.alike u1.2.1
          have nat : ∀ {x : Int32}, ¬ x < 0 → x.toInt = x.toNatClampNeg := fun {x} q => by
            rw [Int32.lt_iff_toInt_lt] at q; have : (0 : Int32).toInt = 0 := rfl
            simp only [Int32.toNatClampNeg]; omega
          have w3 := wS_cons.mp (wS_cons.mp (wS_cons.mp (wS_cons.mp (wS_cons.mp w2).2).2).2).2
          have hnf : nativeFrameWords "java/lang/System" "arraycopy" 5 + 11 = 18 := by rw [nativeFrameWords_plain 5 (by decide)]
          have hus : ∀ u ∈ (vs.drop sp.toNatClampNeg).take nn.toNatClampNeg, u ∈ vs := fun u hu => List.mem_of_mem_drop (List.mem_of_mem_take hu)
          obtain ⟨vm₁, hW₁, X', st⟩ := X.arraycopyK hx hown (mvT hZ v1) (mvT hZ v2) (mvT hZ v3) (mvT hZ v4) q1.1 u1.1 os od q1.2.2 u1.2.2 hks hkd hsk hdk
            (by simp [hr]) n1 n2 n3 (by rw [nat n1, nat n3, arr_size q2]; omega) (by rw [nat n2, nat n3, arr_size u2]; omega) (fun vm₁ hw' i hi => by
              have h1 : vs[sp.toNatClampNeg + i]? = some vs[sp.toNatClampNeg + i] := List.getElem?_eq_getElem (by omega)
              have h2 := arr_get q2 h1
              rw [Array.getD_eq_getD_getElem?, h2]
              have hm := q6 _ (List.mem_of_getElem? h1)
              generalize vs[sp.toNatClampNeg + i] = u at hm
              simp only [Option.getD_some]
              cases u <;> first | exact ⟨hm, trivial⟩ | exact (prim_no_ref hr hm).elim)
            (g := mkF m pc (gL g L) (gS g (.int nn :: .int dp :: .ref d :: .int sp :: .ref a :: S'))) rfl (by rw [gL_len]; exact hsz) (rest := gS g S') rfl hd hf (by show 2 * 0 + csum (gS g S') + _ ≤ _; rw [hnf, show csum (gS g S') = csum S' from gS_cat g S']; omega)
          have es : copied ca cd sp dp nn = cd.storePairs dp.toNatClampNeg ((gS g ((vs.drop sp.toNatClampNeg).take nn.toNatClampNeg)).zipIdx 0) := by
            rw [← stretch_eq q2 n4]; rfl
          have hl : ((vs.drop sp.toNatClampNeg).take nn.toNatClampNeg).length = nn.toNatClampNeg := by rw [List.length_take, List.length_drop]; omega
          have Rp' := Rep.run ht (v0 _ hb1) dp.toNatClampNeg ((vs.drop sp.toNatClampNeg).take nn.toNatClampNeg) 0 ws T.heap A cd Rp hdd u1.1 (fun u hu => q6 u (hus u hu)) (fun u hu => Rp.wf ha u (hus u hu)) (by rw [hl]; omega)
          rw [← es] at Rp'
          refine ⟨⟨_, _, g, X', Rp', Fr.app N fun y hy => by rw [Jvm.Stand.copyLocs_base hy]; exact (Rp.1 d (Rep.lt hdd)).2 hb2, fun _ _ => rfl, by simp, ?_, ?_, st⟩, rfl⟩
          · rw [List.length_set]; exact w1
          · rw [List.length_set]; exact w3.2
        · cases hp
      · cases hp
    · cases hp
  · cases hp
set_option maxHeartbeats 1000000 in
theorem hstep_ok (X : Stand p l e R s m args below meth c T locs cells slots) (hx : p.tables.exec = Jvm.exec) (hZ : Z.Warmed39 s.vm) (hown : s.vm.findClass own = some m.cls) (hnm : meth.name = mname) (K : KOk Z a0 kc) (Rp : Rep Z kc sl n0 k0 T.heap g A) (N : Fr n0 locs)
    {i : Instr} {nums : List Nat} {val : Value} {o o' : Orc} {pc pc' k n f w : Nat} {L L' : List Slot} {S S' : List Value} {A' : AH} {cs : List Prop} (w1 : wL A.length L) (w2 : wS A.length S) (hd : decode c.code pc = .ok (i, ilen i)) (V : VI Z a0 kc sl kd ext exw own mname i nums val) (hsz : L.length = c.maxLocals)
    (hp : hstep k0 kd ext exw i nums val o pc L S A = some (cs, o', pc', L', S', A', k, n, f, w)) (hc : ∀ P ∈ cs, P) (hk : cells + k ≤ R.cells) (hn : slots + n ≤ R.slots) (hf : f ≤ R.frames) (hw : w ≤ R.locals) :
    Lands p l e R s m args below meth c Z kc sl n0 k0 T (mkF m pc (gL g L) (gS g S)) g A (cells + k) (slots + n) pc' L' S' A' ∧ L'.length = L.length := by
  cases i
  case ldc idx =>
    dsimp only [hstep] at hp
    split at hp
    · cases hp
      refine ⟨Lands.same X rfl Rp N w1 (wS_cons.mpr ⟨trivial, w2⟩) ?_, rfl⟩
      exact X.ldcInt hx hown (mv hZ V) (g := mkF m pc (gL g _) (gS g _)) rfl hd
    · cases hp
  case ldc2_w idx =>
    dsimp only [hstep] at hp
    split at hp
    · cases hp
      refine ⟨Lands.same X rfl Rp N w1 (wS_cons.mpr ⟨trivial, w2⟩) ?_, rfl⟩
      exact X.ldc2Long hx hown (mv hZ V) (g := mkF m pc (gL g _) (gS g _)) rfl hd
    · cases hp
      refine ⟨Lands.same X rfl Rp N w1 (wS_cons.mpr ⟨trivial, w2⟩) ?_, rfl⟩
      exact X.ldc2DoubleC hx hown (mv hZ V) (g := mkF m pc (gL g _) (gS g _)) rfl hd
    · cases hp
  case getstatic idx =>
    dsimp only [hstep] at hp
    cases hp
    obtain ⟨R0, C, nn, d, v1, v2, v3⟩ := V
    obtain ⟨q1, q2⟩ := Rp.2.2.2.2.2 _ v3
    obtain ⟨T', X', e', st⟩ := getS (host := "") X hx hZ hown v1 v2 rfl q1 (g := mkF m pc (gL g L) (gS g S)) rfl hd
    exact ⟨Lands.same X' e' Rp N w1 (wS_cons.mpr ⟨wv_mono Rp.2.2.2.2.1 q2, w2⟩) st, rfl⟩
  case getfield idx =>
    dsimp only [hstep] at hp
    split at hp
    · rename_i k1 j a r
      split at hp
      · rename_i k' vs ha
        split at hp
        · rename_i ek
          subst ek
          split at hp
          · rename_i v hv
            cases hp
            obtain ⟨C, fs, fd, R0, h1, h2, h3, h4⟩ := V
            have F := ((Rp.ob ha).1 C fs h1).2.2 j fd v h2 hv
            obtain ⟨T', X', e', st⟩ := getF X hx hZ hown (host := "") (Or.inl h3) h4 rfl F (g := mkF m pc (gL g L) (gS g (.ref a :: r))) rfl rfl hd
            exact ⟨Lands.same X' e' Rp N w1 (wS_cons.mpr ⟨Rp.wf ha v (List.mem_of_getElem? hv), (wS_cons.mp w2).2⟩) st, rfl⟩
          · cases hp
        · cases hp
      · cases hp
    · cases hp
  case putfield idx =>
    dsimp only [hstep] at hp
    split at hp
    · rename_i k1 j t v a r
      split at hp
      · rename_i k' vs ha
        split at hp
        · rename_i ek
          obtain ⟨ek, e0⟩ := ek
          subst ek
          split at hp
          · rename_i cs1 ht
            simp only [forceL_eq] at hp
            cases hp
            obtain ⟨C, fs, fd, R0, kk, h1, h2, h3, h4, h5, h6, h7⟩ := V
            obtain ⟨o1, o2, o3⟩ := (Rp.ob ha).1 C fs h1
            have hlt : j < vs.length := by
              have := (List.getElem?_eq_some_iff.mp h2).1
              have o2' : vs.length = fs.length := o2
              omega
            have F := o3 j fd _ h2 (List.getElem?_eq_getElem hlt)
            obtain ⟨f1, f2⟩ := fitT_ok ht hc h7 g
            obtain ⟨T', h', X', e', W', st⟩ := putF X hx hZ hown (host := "") (Or.inl h3) h4 rfl F o1 (h5.imp id fun ⟨a, b, d⟩ => ⟨a, b, hnm.trans d⟩) h6 ((K k' C fs h1).2.1 fd (List.mem_of_getElem? h2)).2 f1 f2 (g := mkF m pc (gL g L) (gS g (v :: .ref a :: S'))) rfl rfl hd
            subst e'
            have w3 := wS_cons.mp w2
            refine ⟨⟨T', _, g, X', Rp.upd ha W' ((Rp.ob ha).put K h1 h2 W') ?_, Fr.snoc X' N ((Rp.1 a (Rep.lt ha)).2 e0), fun _ _ => rfl, by simp, ?_, ?_, st⟩, rfl⟩
            · intro x hx'
              rcases List.mem_or_eq_of_mem_set hx' with q | q
              · exact Rp.wf ha x q
              · subst q; exact w3.1
            · rw [List.length_set]; exact w1
            · rw [List.length_set]; exact (wS_cons.mp w3.2).2
          · cases hp
        · cases hp
      · cases hp
    · cases hp
  case new idx =>
    dsimp only [hstep] at hp
    split at hp
    · rename_i k1
      simp only [forceL_eq, forceN_eq] at hp
      cases hp
      obtain ⟨C, fs, h1, h2, h3, h4, h5⟩ := V
      obtain ⟨T', h', X', e', E', Ex, D, -, st⟩ := newO X hx hZ hown h2 h3 h4 rfl (g := mkF m pc (gL g L) (gS g S)) rfl hd hk hn
      subst e'
      obtain ⟨q1, q2, q3⟩ := K k1 C fs h1
      have old := gnew_old g A.length T.heap.size
      refine ⟨⟨T', _, gnew g A.length T.heap.size, X', Rp.new E' Ex.lt ⟨fun C' fs' hk' => ?_, fun ty nm hk' => by rw [q1] at hk'; cases hk'⟩ ?_, N, old, by simp, ?_, ?_, ?_⟩, rfl⟩
      · cases h1.symm.trans hk'
        refine ⟨Ex, by rw [h5]; simp, fun j fd v hj hv => ?_⟩
        simp only [h5, List.getElem?_map, hj, Option.map_some, Option.some.injEq] at hv
        subst hv
        rw [dv_plain]
        have m1 := q2 fd (List.mem_of_getElem? hj)
        exact D m1.1 m1.2
      · intro v hv
        simp only [h5, List.mem_map] at hv
        obtain ⟨fd, -, rfl⟩ := hv
        exact dv_wf _ _
      · intro x hx'; exact wsl_mono (by simp) (w1 x hx')
      · refine wS_cons.mpr ⟨by show A.length < (A ++ _).length; simp, fun x hx' => wv_mono (by simp) (w2 x hx')⟩
      · intro target hr
        refine st target ?_
        have e1 : gL (gnew g A.length T.heap.size) L = gL g L := gL_cong old w1
        have e2 : gS (gnew g A.length T.heap.size) S = gS g S := gS_cong old w2
        simp only [gS, List.map_cons] at hr e2
        rw [e1, e2] at hr
        simp only [gv, gnew_new] at hr
        exact hr
    · cases hp
  case newarray t =>
    dsimp only [hstep] at hp
    split at hp
    · rename_i k1 nn r
      split at hp
      · rename_i hna
        split at hp
        · rename_i cs1 hq
          simp only [forceL_eq, forceN_eq] at hp
          cases hp
          obtain ⟨q1, q2⟩ := need_ok hq hc
          obtain ⟨a1, a2, a3⟩ := naK_ok hna
          obtain ⟨v1, v2⟩ := V
          obtain ⟨T', cA, X', E', Ar, fc, st⟩ := newP2 X hx hZ v1 (f := mkF m pc (gL g L) (gS g (.int nn :: r))) rfl hd rfl q1 q2 hk hn
          have old := gnew_old g A.length T.heap.size
          refine ⟨⟨T', _, gnew g A.length T.heap.size, X', Rp.new E' Ar.lt ⟨fun C' fs' hk' => ?_, fun ty nm hk' => ?_⟩ ?_, N, old, by simp, ?_, ?_, ?_⟩, rfl⟩
          · rw [v2] at hk'; cases hk'
          · cases a1.symm.trans hk'
            refine ⟨_, Ar, ?_, by simp; omega, fc, rfl, fun v hv => ?_⟩
            · simp only [newA, gS, List.map_replicate, Array.toList_replicate, a2, dv_plain]
            · rw [List.eq_of_mem_replicate hv]; exact a3
          · intro v hv
            rw [List.eq_of_mem_replicate hv, a2]; exact dv_wf _ _
          · intro x hx'; exact wsl_mono (by simp) (w1 x hx')
          · refine wS_cons.mpr ⟨by show A.length < (A ++ _).length; simp, fun x hx' => wv_mono (by simp) ((wS_cons.mp w2).2 x hx')⟩
          · intro target hr
            refine st target ?_
            have e1 : gL (gnew g A.length T.heap.size) L = gL g L := gL_cong old w1
            have e2 : gS (gnew g A.length T.heap.size) r = gS g r := gS_cong old (wS_cons.mp w2).2
            simp only [gS, List.map_cons] at hr e2
            rw [e1, e2] at hr
            simp only [gv, gnew_new] at hr
            exact hr
        · cases hp
      · cases hp
    · cases hp
  case arraylength =>
    dsimp only [hstep] at hp
    split at hp
    · rename_i a r
      split at hp
      · rename_i k1 vs ha
        split at hp
        · rename_i hs
          cases hp
          obtain ⟨⟨ty, nm⟩, ht⟩ := Option.isSome_iff_exists.mp hs
          obtain ⟨cl, q1, q2, -⟩ := (Rp.ob ha).2 ty nm ht
          refine ⟨Lands.same X rfl Rp N w1 (wS_cons.mpr ⟨trivial, (wS_cons.mp w2).2⟩) fun target hr => ?_, rfl⟩
          have harr := State.isArrayOf_alike (T := s) hZ.alike q1.2.1
          refine X.arraylength hx q1.1 harr (g := mkF m pc (gL g L) (gS g (.ref a :: r))) rfl rfl hd target ?_
          rw [arr_size q2]
          exact hr
        · cases hp
      · cases hp
    · cases hp
  case if_acmp cd off =>
    dsimp only [hstep] at hp
    split at hp
    · rename_i y x r
      have w3 := wS_cons.mp w2
      have w4 := wS_cons.mp w3.2
      split at hp
      · rename_i hr
        have key := acmp_g (cd := cd) Rp w4.1 w3.1 hr.1 hr.2
        split at hp
        · rename_i ha
          split at hp
          · rename_i ho
            cases hp
            refine ⟨Lands.same X rfl Rp N w1 w4.2 fun target hr' => ?_, rfl⟩
            exact XT.acmpYes X.here hx rfl rfl hd rfl (by rw [gv_isRef]; exact hr.1) (by rw [gv_isRef]; exact hr.2) (key.trans ha) ho rfl hr'
          · cases hp
        · rename_i ha
          cases hp
          refine ⟨Lands.same X rfl Rp N w1 w4.2 fun target hr' => ?_, rfl⟩
          exact XT.acmpNo X.here hx rfl hd rfl (by rw [gv_isRef]; exact hr.1) (by rw [gv_isRef]; exact hr.2) (key.trans (by simpa using ha)) hr'
      · cases hp
    · cases hp
  case checkcast idx =>
    dsimp only [hstep] at hp
    split at hp
    · rename_i a r
      split at hp
      · rename_i k1 vs ha
        split at hp
        · rename_i hs
          cases hp
          obtain ⟨KK, v1, v2⟩ := V
          obtain ⟨C, c1, c2⟩ := v2 k1 (by simpa using hs)
          have E : Exa Z T.heap (g a) C := by
            unfold kNm at c1
            split at c1
            · rename_i hq
              cases c1
              exact Rp.exaA ha hq
            · obtain ⟨⟨C', fs⟩, h1, h2⟩ := Option.map_eq_some_iff.mp c1
              cases h2
              exact Rp.exa ha h1
          obtain ⟨T', X', e', st⟩ := castY X hx hZ hown v1 rfl (Ins.of_exa E c2) (g := mkF m pc (gL g L) (gS g (.ref a :: r))) rfl rfl hd
          exact ⟨Lands.same X' e' Rp N w1 w2 st, rfl⟩
        · cases hp
      · cases hp
    · cases hp
  case invokespecial idx =>
    dsimp only [hstep] at hp
    split at hp
    · rename_i a r
      cases hp
      obtain ⟨v1, v2, v3⟩ := V
      obtain ⟨T', X', e', st⟩ := initO X hx hZ hown v1 v2 v3 rfl (g := mkF m pc (gL g L) (gS g (.ref a :: S'))) rfl (by rw [gL_len]; exact hsz) rfl hd hf (W := csum S') (by show 2 * 0 + csum (gS g S') ≤ _; rw [show csum (gS g S') = csum S' from gS_cat g S']; omega) hw
      exact ⟨Lands.same X' e' Rp N w1 (wS_cons.mp w2).2 st, rfl⟩
    · cases hp
  case invokestatic idx =>
    dsimp only [hstep] at hp
    split at hp
    · rename_i x na
      split at hp
      · rename_i hna
        split at hp
        · rename_i bb v hv
          split at hp
          case h_2 => cases hp
          rename_i cs1 hq
          cases hp
          obtain rfl : bb = true := need_ok hq hc
          obtain ⟨y, ds, d0, v1, v2, v3, v4, v40, v41, v5, ⟨ps, rr, v6, v7⟩, v8⟩ := V
          have v4s : ∀ d ∈ ds, d.before args s = true := fun d hd => mv hZ (v4 d hd).2 (v4 d hd).1
          obtain ⟨b1, b2, b3⟩ := v8 _ v hv
          have es : gS g S = (S.take na).reverse.reverse ++ gS g (S.drop na) := by
            have h1 := b1 g
            conv => lhs; rw [← List.take_append_drop na S]
            rw [List.reverse_reverse]
            simp only [gS, List.map_append]
            have h2 : (S.take na).map (gv g) = S.take na := by
              have := congrArg List.reverse h1
              simpa [gS] using this
            rw [h2]
          obtain ⟨T', X', e', st⟩ := natG X hx hZ hown v1 v2 v3 (v4s d0 v40) v41 v5 rfl (W := csum (S.drop na)) (F := fun a' => a' = (S.take na).reverse.toArray) (val := v) (b3 l R p e below s args _ v4s hf hw) (g := mkF m pc (gL g L) (gS g S)) rfl (by rw [gL_len]; exact hsz) (argsL := (S.take na).reverse) (rest := gS g (S.drop na)) (lenOf v6 (by simp; omega)) es (by show 2 * 0 + csum (gS g (S.drop na)) ≤ _; rw [show csum (gS g (S.drop na)) = csum (S.drop na) from gS_cat g _]; omega) hd hk hn rfl
          refine ⟨Lands.same X' e' Rp N w1 (wS_cons.mpr ⟨?_, fun z hz => w2 z (List.mem_of_mem_drop hz)⟩) fun target hr => st target ?_, rfl⟩
          · have := b2 (fun i => i + 1)
            cases v <;> first | trivial | (simp [gv] at this)
          · simp only [gS, List.map_cons, b2 g] at hr
            exact hr
        · cases hp
      · cases hp
    · exact hCp_ok X hx hZ hown Rp N w1 w2 hd V hsz hp hc hf hw
    · cases hp
  case invokevirtual idx =>
    dsimp only [hstep] at hp
    split at hp
    · rename_i kk a r
      split at hp
      · rename_i k1 vs ha
        split at hp
        · rename_i ek
          subst ek
          simp only [forceL_eq, forceN_eq] at hp
          cases hp
          obtain ⟨ty, ad, h0, h00, v1, v2, v3, v4, v5, v6⟩ := V
          obtain ⟨cl, q1, q2, q3, q4, q5, q6⟩ := (Rp.ob ha).2 ty ad h0
          have fc : FitC Z cl := fun i v hv => by
            obtain ⟨hs, kz, hk1, comp, hkind⟩ := q1.2.1
            have hv2 : v ∈ gS g vs := by
              rw [← q2]; exact Array.mem_toList_iff.mpr (Array.mem_of_getElem? hv)
            obtain ⟨u, hu, rfl⟩ := List.mem_map.mp hv2
            have hfu := q6 u hu
            have hfu' : fits ty (gv g u) = true := by cases u <;> first | exact hfu | (cases ty <;> simp_all [fits, gv])
            simp [State.fitsSlot, State.slotType?, hk1, hkind, hfu']
          obtain ⟨T', h', X', e', E', Ar, Ex, st⟩ := cloneA X hx hZ hown v1 v2 v3 v4 v5 v6 rfl q1 (exa_arr q1 q4 q5) fc (g := mkF m pc (gL g L) (gS g (.ref a :: r))) rfl (by rw [gL_len]; exact hsz) rfl hd hf (W := csum r) (cap := vs.length) (by show 2 * 0 + csum (gS g r) ≤ _; rw [show csum (gS g r) = csum r from gS_cat g r]; omega) hw (Nat.le_of_eq (arr_size q2)) hk hn
          subst e'
          have old := gnew_old g A.length T.heap.size
          refine ⟨⟨T', _, gnew g A.length T.heap.size, X', Rp.new E' Ar.lt ⟨fun C' fs' hk' => ?_, fun ty' nm hk' => ?_⟩ (Rp.wf ha), N, old, by simp, ?_, ?_, ?_⟩, rfl⟩
          · rw [h00] at hk'; cases hk'
          · cases h0.symm.trans hk'
            exact ⟨_, Ar, by rw [gS_cong old (Rp.wf ha)]; exact q2, q3, q4, rfl, q6⟩
          · intro x hx'; exact wsl_mono (by simp) (w1 x hx')
          · refine wS_cons.mpr ⟨by show A.length < (A ++ _).length; simp, fun x hx' => wv_mono (by simp) ((wS_cons.mp w2).2 x hx')⟩
          · intro target hr
            refine st target ?_
            have e1 : gL (gnew g A.length T.heap.size) L = gL g L := gL_cong old w1
            have e2 : gS (gnew g A.length T.heap.size) r = gS g r := gS_cong old (wS_cons.mp w2).2
            simp only [gS, List.map_cons] at hr e2
            rw [e1, e2] at hr
            simp only [gv, gnew_new] at hr
            exact hr
        · cases hp
      · cases hp
    · cases hp
  case iaload => exact hAl_ok X hx hZ Rp N w1 w2 hd hp hc
  case laload => exact hAl_ok X hx hZ Rp N w1 w2 hd hp hc
  case daload => exact hAl_ok X hx hZ Rp N w1 w2 hd hp hc
  case baload => exact hAl_ok X hx hZ Rp N w1 w2 hd hp hc
  case iastore => exact hAs_ok X hx hZ K Rp N w1 w2 hd hp hc
  case lastore => exact hAs_ok X hx hZ K Rp N w1 w2 hd hp hc
  case dastore => exact hAs_ok X hx hZ K Rp N w1 w2 hd hp hc
  case bastore => exact hAs_ok X hx hZ K Rp N w1 w2 hd hp hc
  all_goals (cases hp)
end HeapStep
/-! the run of a method -/
abbrev RR : Type := List Prop × Orc × Option Value × AH × Nat × Nat × Nat × Nat
/-- code, max locals, returned type, fields at first and slots, payers and their room, how many objects stood -/
abbrev EV : Type := (Nat → Nat → Option Ent) × (Nat → Nat) × (Nat → Option FieldType) × (Nat → List Value × Nat) × (Nat → List Value → Option (Bool × Value)) × (Nat → Nat × Nat) × Nat
def pinS (b : Option Bool) (o : Orc) (S : List Value) : Option (List Prop × Orc × List Value) :=
  match b with
  | some true => (match o, S with
    | none, S => some ([], none, S)
    | some (bs, x :: r), .int y :: S => some ([y = x], some (bs, r), .int x :: S)
    | _, _ => none)
  | _ => some ([], o, S)
theorem pinS_ok {b : Option Bool} {o o' : Orc} {S S' : List Value} {cs : List Prop} (h : pinS b o S = some (cs, o', S')) (hc : ∀ P ∈ cs, P) : S' = S := by
  unfold pinS at h
  split at h
  · split at h
    · cases h; rfl
    · cases h
      rw [hc _ (List.mem_singleton.mpr rfl)]
    · cases h
  · cases h; rfl
def isPure : Instr → Bool
  | .ldc _ | .ldc2_w _ | .getstatic _ | .getfield _ | .putfield _ | .new _ | .newarray _ | .arraylength | .iaload | .laload | .daload | .baload | .iastore | .lastore | .dastore | .bastore | .if_acmp _ _ | .checkcast _ | .invokespecial _ | .invokestatic _ | .invokevirtual _ => false
  | _ => true
def step (E : EV) (i : Instr) (nums : List Nat) (val : Value) (o : Orc) (pc : Nat) (L : List Slot) (S : List Value) (A : AH) : Option HR :=
  match isPure i with
  | true => (match pstep i o pc L S with
    | some (cs, o', pc', L', S') => some (cs, o', pc', L', S', A, 0, 0, 0, 0)
    | none => none)
  | false => hstep E.2.2.2.2.2.2 E.2.2.2.1 E.2.2.2.2.1 E.2.2.2.2.2.1 i nums val o pc L S A
/-- a step whose numbers are known needs no oracle -/
def stepC (E : EV) (b : Option Bool) (i : Instr) (nums : List Nat) (val : Value) (o : Orc) (pc : Nat) (L : List Slot) (S : List Value) (A : AH) : Option HR :=
  match b with
  | some false => (match step E i nums val none pc L S A with
    | some (cs, _, pc', L', S', A', k, n, f, w) => some (cs, o, pc', L', S', A', k, n, f, w)
    | none => none)
  | _ => step E i nums val o pc L S A
theorem stepC_ok {E : EV} {b : Option Bool} {i : Instr} {nums : List Nat} {val : Value} {o o' : Orc} {pc : Nat} {L : List Slot} {S : List Value} {A : AH} {cs : List Prop} {r : Nat × List Slot × List Value × AH × Nat × Nat × Nat × Nat} (h : stepC E b i nums val o pc L S A = some (cs, o', r)) : ∃ o1 o2, step E i nums val o1 pc L S A = some (cs, o2, r) := by
  unfold stepC at h
  split at h
  · split at h
    · rename_i q; cases h; exact ⟨_, _, q⟩
    · cases h
  · exact ⟨_, _, h⟩
def look : List Nat → Nat → Option Nat
  | k :: m :: r, x => if k = x then some m else look r x
  | _, _ => none
/-- what is called: the body, its arguments, what lies under -/
def callee (i : Instr) (nums : List Nat) (S : List Value) (A : AH) : Option (Nat × List Value × List Value) :=
  match i with
  | .invokestatic _ =>
    match nums with
    | [1, b, na] => if na ≤ S.length then some (b, (S.take na).reverse, S.drop na) else none
    | _ => none
  | .invokespecial _ =>
    match nums with
    | [1, b, na] => (match S.drop na with
      | .ref a :: rest => some (b, .ref a :: (S.take na).reverse, rest)
      | _ => none)
    | _ => none
  | .invokevirtual _ =>
    match nums with
    | 1 :: na :: tb => (match S.drop na with
      | .ref a :: rest => (match A[a]? with
        | some (k, _) => (match look tb k with
          | some b => some (b, .ref a :: (S.take na).reverse, rest)
          | none => none)
        | none => none)
      | _ => none)
    | _ => none
  | _ => none
/-- what is returned -/
def retV (i : Instr) (t : Option FieldType) (S : List Value) : Option (Option Value) :=
  match i, t, S with
  | .ireturn, some .int, .int x :: _ => some (some (.int x))
  | .ireturn, some .boolean, .int x :: _ => some (some (.int (x &&& 1)))
  | .ireturn, some .byte, .int x :: _ => some (some (.int x.toInt8.toInt32))
  | .ireturn, some .char, .int x :: _ => some (some (.int x.toUInt32.toUInt16.toUInt32.toInt32))
  | .lreturn, some .long, .long x :: _ => some (some (.long x))
  | .dreturn, some .double, .double x :: _ => some (some (.double x))
  | .areturn, some (.object _), .ref a :: _ => some (some (.ref a))
  | .areturn, some (.object _), .null :: _ => some (some .null)
  | .areturn, some (.array _), .ref a :: _ => some (some (.ref a))
  | .areturn, some (.array _), .null :: _ => some (some .null)
  | .return_, none, [] => some none
  | _, _, _ => none
def aFill : List Value → List Slot
  | [] => []
  | v :: r => if v.category = 2 then .val v :: .second :: aFill r else .val v :: aFill r
def aL (as : List Value) (n : Nat) : List Slot := aFill as ++ List.replicate (n - (aFill as).length) .unset
/-- a choice of two constants: what is asked -/
def selB (i : Instr) (S : List Value) : Option (Bool × List Value) :=
  match i, S with
  | .ifCond c _, .int x :: r => some (ifCond.holds c x, r)
  | .if_icmp c _, .int y :: .int x :: r => some (if_icmp.holds c x y, r)
  | _, _ => none
/-- and which two: if it is so, if not -/
def selV (i : Instr) (L : List Slot) : Option Int32 :=
  match i with
  | .iconst y => some (Int32.ofInt y)
  | .iload_n k => (match L[k.val]? with
    | some (.val (.int x)) => some x
    | _ => none)
  | _ => none
def selX (E : EV) (M pc : Nat) (L : List Slot) (i : Instr) : Option (Int32 × Int32) :=
  match i, E.1 M (pc + 3), E.1 M (pc + 4), E.1 M (pc + 7) with
  | .ifCond _ 7, some (a, _), some (.goto 4, _), some (b, _) => (match selV a L, selV b L with
    | some y, some x => some (x, y)
    | _, _ => none)
  | .if_icmp _ 7, some (a, _), some (.goto 4, _), some (b, _) => (match selV a L, selV b L with
    | some y, some x => some (x, y)
    | _, _ => none)
  | _, _, _, _ => none
def sort (i : Instr) (nums : List Nat) : Nat :=
  match i with
  | .ifCond _ _ | .if_icmp _ _ => (match nums with
    | 7 :: _ => 3
    | _ => 2)
  | .ireturn | .lreturn | .dreturn | .areturn | .return_ => 0
  | .invokestatic _ | .invokespecial _ | .invokevirtual _ => (match nums with
    | 1 :: _ => 1
    | _ => 2)
  | _ => 2
def run (E : EV) : Nat → Nat → Nat → List Slot → List Value → AH → Orc → Option RR
  | 0, _, _, _, _, _, _ => none
  | fuel + 1, M, pc, L, S, A, o =>
    match E.1 M pc with
    | none => none
    | some (i, pin, nums, val) =>
      match pinS pin o S with
      | none => none
      | some (c0, o, S) =>
        match sort i nums with
        | 0 => (match retV i (E.2.2.1 M) S with
          | some v => some (c0, o, v, A, 0, 0, 0, 0)
          | none => none)
        | 1 => (match callee i nums S A with
          | none => none
          | some (b, as, rest) => if (aFill as).length ≤ E.2.1 b then (match forceL (aL as (E.2.1 b)) (fun L0 => run E fuel b 0 L0 [] A o) with
            | none => none
            | some (c1, o1, v1, A1, k1, n1, f1, w1) => (match forceN (pc + 3) (fun q => forceL (v1.toList ++ rest) (fun S0 => run E fuel M q L S0 A1 o1)) with
              | none => none
              | some (c2, o2, v2, A2, k2, n2, f2, w2) => forceN (k1 + k2) fun k => forceN (n1 + n2) fun n => forceN (max (f1 + 1) f2) fun f => forceN (max (csum rest + (E.2.1 b + 11) + w1) w2) fun w => some (c0 ++ (c1 ++ c2), o2, v2, A2, k, n, f, w))) else none)
        | 3 => (match selX E M pc L i, selB i S with
          | some (x, y), some (b, r) => (match forceN (pc + 8) (fun q => run E fuel M q L (.int (bif b then x else y) :: r) A o) with
            | none => none
            | some (c2, o2, v2, A2, k2, n2, f2, w2) => some (c0 ++ c2, o2, v2, A2, k2, n2, f2, w2))
          | _, _ => none)
        | _ => (match stepC E pin i nums val o pc L S A with
          | none => none
          | some (c1, o1, pc1, L1, S1, A1, k1, n1, f1, w1) => (match forceN pc1 (fun q => run E fuel M q L1 S1 A1 o1) with
            | none => none
            | some (c2, o2, v2, A2, k2, n2, f2, w2) => forceN (k1 + k2) fun k => forceN (n1 + n2) fun n => forceN (max f1 f2) fun f => forceN (max w1 w2) fun w => some (c0 ++ (c1 ++ c2), o2, v2, A2, k, n, f, w)))
section Run
variable {Z : State} {a0 : Array Value} {kc : KTy} {sl : SL} {n0 : Nat} {E : EV} {nm : Nat → MethodName} {by_ : Nat → ByteArray}
def VirtW (Z : State) (a0 : Array Value) (kc : KTy) (E : EV) (nm : Nat → MethodName) (by_ : Nat → ByteArray) (own : String) (idx na : Nat) (tb : List Nat) : Prop := ∃ y : MethodName, (Cond.methodLink own idx y).before a0 Z = true ∧ (Cond.declares y).before a0 Z = true ∧ (∀ s : State, Z.Warmed39 s.vm → NotFace s y) ∧ notMH y ∧ nArgs y na ∧ ∀ k b, look tb k = some b → ∃ C fs, kc k = some (C, fs) ∧ (Cond.selects C y (nm b)).before a0 Z = true ∧ (Cond.instanceMethod (nm b)).before a0 Z = true ∧ (Cond.code (nm b) (by_ b) (E.2.1 b) (E.2.2.1 b)).before a0 Z = true ∧ (Cond.initialized (nm b).cls).before a0 Z = true ∧ plainFor (nm b) = true
/-- of a private method, called on an object of its own class -/
def PrivW (Z : State) (a0 : Array Value) (kc : KTy) (E : EV) (nm : Nat → MethodName) (by_ : Nat → ByteArray) (own : String) (idx na k b : Nat) : Prop :=
  ∃ (fs : List Fd) (kk : Nat), kc k = some ((nm b).cls, fs) ∧ (Cond.methodLink own idx (nm b)).before a0 Z = true ∧ (Cond.instanceMethod (nm b)).before a0 Z = true ∧ (Cond.privateMethod (nm b)).before a0 Z = true ∧ (Cond.instantiable (nm b).cls kk).before a0 Z = true ∧ (Cond.code (nm b) (by_ b) (E.2.1 b) (E.2.2.1 b)).before a0 Z = true ∧ (Cond.initialized (nm b).cls).before a0 Z = true ∧ notMH (nm b) ∧ nArgs (nm b) na ∧ plainFor (nm b) = true
def VC (Z : State) (a0 : Array Value) (kc : KTy) (E : EV) (nm : Nat → MethodName) (by_ : Nat → ByteArray) (own : String) : Instr → List Nat → Prop
  | .invokestatic idx, [1, b, na] => (Cond.methodLink own idx (nm b)).before a0 Z = true ∧ (Cond.static (nm b)).before a0 Z = true ∧ (Cond.initialized (nm b).cls).before a0 Z = true ∧ (Cond.code (nm b) (by_ b) (E.2.1 b) (E.2.2.1 b)).before a0 Z = true ∧ notMH (nm b) ∧ nArgs (nm b) na ∧ plainFor (nm b) = true
  | .invokespecial idx, [1, b, na] => (nm b).name = "<init>" ∧ (Cond.methodLink own idx (nm b)).before a0 Z = true ∧ (Cond.instanceMethod (nm b)).before a0 Z = true ∧ (Cond.initialized (nm b).cls).before a0 Z = true ∧ (Cond.code (nm b) (by_ b) (E.2.1 b) none).before a0 Z = true ∧ E.2.2.1 b = none ∧ notMH (nm b) ∧ nArgs (nm b) na ∧ plainFor (nm b) = true
  | .invokevirtual idx, [1, na, k, b, 7] => PrivW Z a0 kc E nm by_ own idx na k b
  | .invokevirtual idx, 1 :: na :: tb => VirtW Z a0 kc E nm by_ own idx na tb
  | _, _ => True
theorem VC_virt {own : String} {idx na : Nat} {tb : List Nat} (h : VC Z a0 kc E nm by_ own (.invokevirtual idx) (1 :: na :: tb)) : (∃ k b, tb = [k, b, 7] ∧ PrivW Z a0 kc E nm by_ own idx na k b) ∨ VirtW Z a0 kc E nm by_ own idx na tb := by
  unfold VC at h
  split at h
  all_goals first | (rename_i e1 e2; cases e1; done) | skip
  · rename_i e1 e2
    cases e1
    cases e2
    exact Or.inl ⟨_, _, rfl, h⟩
  · rename_i e1 e2
    cases e1
    cases e2
    exact Or.inr h
  · rename_i h3 h4
    exact absurd rfl (h4 idx na tb rfl)
/-- each entry of the code is what the bytes and the sheet's words say -/
def MOk (Z : State) (a0 : Array Value) (kc : KTy) (sl : SL) (E : EV) (nm : Nat → MethodName) (by_ : Nat → ByteArray) : Prop :=
  ∀ M pc i pin nums val, E.1 M pc = some (i, pin, nums, val) → decode (by_ M) pc = .ok (i, ilen i) ∧ VI Z a0 kc sl E.2.2.2.1 E.2.2.2.2.1 E.2.2.2.2.2.1 (nm M).cls (nm M).name i nums val ∧ VC Z a0 kc E nm by_ (nm M).cls i nums
theorem step_ok {p : Program} {l : Launch} {e : Env} {R : Room} {s : State} {m : MethodId} {args : Array Value} {below : List Frame} {meth : Method} {c : Code} {T : State} {locs : List Loc} {cells slots : Nat} {g : Nat → Addr} {A : AH} {own mname : String}
    (X : Stand p l e R s m args below meth c T locs cells slots) (hx : p.tables.exec = Jvm.exec) (hZ : Z.Warmed39 s.vm) (hown : s.vm.findClass own = some m.cls) (hnm : meth.name = mname) (K : KOk Z a0 kc) (Rp : Rep Z kc sl n0 E.2.2.2.2.2.2 T.heap g A) (N : Fr n0 locs)
    {i : Instr} {nums : List Nat} {val : Value} {o o' : Orc} {pc pc' k n f w : Nat} {L L' : List Slot} {S S' : List Value} {A' : AH} {cs : List Prop} (w1 : wL A.length L) (w2 : wS A.length S) (hd : decode c.code pc = .ok (i, ilen i)) (V : VI Z a0 kc sl E.2.2.2.1 E.2.2.2.2.1 E.2.2.2.2.2.1 own mname i nums val) (hsz : L.length = c.maxLocals)
    (hp : step E i nums val o pc L S A = some (cs, o', pc', L', S', A', k, n, f, w)) (hc : ∀ P ∈ cs, P) (hk : cells + k ≤ R.cells) (hn : slots + n ≤ R.slots) (hf : f ≤ R.frames) (hw : w ≤ R.locals) :
    Lands p l e R s m args below meth c Z kc sl n0 E.2.2.2.2.2.2 T (mkF m pc (gL g L) (gS g S)) g A (cells + k) (slots + n) pc' L' S' A' ∧ L'.length = L.length := by
  unfold step at hp
  split at hp
  · split at hp
    · rename_i hq
      cases hp
      obtain ⟨q1, q2, q3⟩ := pstep_wf hq w1 w2
      exact ⟨Lands.same X rfl Rp N q1 q2 fun target hr => pstep_ok X.here hx g hq hd hc hr, q3⟩
    · cases hp
  · exact hstep_ok X hx hZ hown hnm K Rp N w1 w2 hd V hsz hp hc hk hn hf hw
/-- the walk ends: returned -/
def Ends (p : Program) (e : Env) (s : State) (below : List Frame) (Z : State) (kc : KTy) (sl : SL) (n0 k0 : Nat) (T : State) (f0 : JFrame) (g : Nat → Addr) (A : AH) (cells slots : Nat) (v : Option Value) (A' : AH) : Prop :=
  ∃ (V : State) (locs' : List Loc) (g' : Nat → Addr), Steps p.tables e below (T.setTop f0) V ∧ V.status = .running ∧ Ended V below (.returned (v.map (gv g'))) ∧ s.WarmedH V.vm ∧ s.sameButNew ({ V with vm := s.vm } : State) locs' cells slots ∧ Rep Z kc sl n0 k0 V.heap g' A' ∧ Fr n0 locs' ∧ (∀ i, i < A.length → g' i = g i) ∧ A.length ≤ A'.length ∧ ∀ u, v = some u → wv A'.length u
theorem ret_ok {p : Program} {l : Launch} {e : Env} {R : Room} {s : State} {m : MethodId} {args : Array Value} {below : List Frame} {meth : Method} {c : Code} {T : State} {locs : List Loc} {cells slots k0 : Nat} {g : Nat → Addr} {A : AH}
    (X : Stand p l e R s m args below meth c T locs cells slots) (hx : p.tables.exec = Jvm.exec) (hlk : meth.locks = false) (Rp : Rep Z kc sl n0 k0 T.heap g A) (N : Fr n0 locs) {i : Instr} {t : Option FieldType} {S : List Value} {v : Option Value} (w2 : wS A.length S) (hrt : meth.sig.returnType = t) (hv : retV i t S = some v) {pc : Nat} {Ls : Array Slot} (hd : decode c.code pc = .ok (i, ilen i)) :
    Ends p e s below Z kc sl n0 k0 T (mkF m pc Ls (gS g S)) g A cells slots v A := by
  have key : ∀ (hq : meth.sig.returnType = none → v.map (gv g) = none), (∀ fs, (∀ (f : JFrame) (acts : List Action), f.method = m → f.locked = none → f.entered = [] → (doReturn e (T.setTop f) acts (v.map (gv g))).1 = T.setFrames fs) → Steps p.tables e below (T.setTop (mkF m pc Ls (gS g S))) (T.setFrames fs)) → (∀ u, v = some u → wv A.length u) → Ends p e s below Z kc sl n0 k0 T (mkF m pc Ls (gS g S)) g A cells slots v A := by
    intro hq hst hw
    obtain ⟨fs, hr, hrun, hended, hW, hsame⟩ := X.leave (v := v.map (gv g)) hq hlk
    exact ⟨_, locs, g, hst fs hr, hrun, hended, hW, hsame, Rp, N, fun _ _ => rfl, Nat.le_refl _, hw⟩
  unfold retV at hv
  split at hv
  · cases hv
    exact key (fun h => by rw [hrt] at h; cases h) (fun fs hr => retOut X hx hrt rfl (Or.inl ⟨rfl, Or.inl rfl, _, rfl⟩) hd hr) (fun u hu => by cases hu; trivial)
  · cases hv
    exact key (fun h => by rw [hrt] at h; cases h) (fun fs hr => retN X hx (t := .boolean) hrt (by simp) hd hr) (fun u hu => by cases hu; trivial)
  · cases hv
    exact key (fun h => by rw [hrt] at h; cases h) (fun fs hr => retN X hx (t := .byte) hrt (by simp) hd hr) (fun u hu => by cases hu; trivial)
  · cases hv
    exact key (fun h => by rw [hrt] at h; cases h) (fun fs hr => retN X hx (t := .char) hrt (by simp) hd hr) (fun u hu => by cases hu; trivial)
  · cases hv
    exact key (fun h => by rw [hrt] at h; cases h) (fun fs hr => retOut X hx hrt rfl (Or.inr (Or.inl ⟨rfl, rfl, _, rfl⟩)) hd hr) (fun u hu => by cases hu; trivial)
  · cases hv
    exact key (fun h => by rw [hrt] at h; cases h) (fun fs hr => retOut X hx hrt rfl (Or.inr (Or.inr (Or.inl ⟨rfl, rfl, _, rfl⟩))) hd hr) (fun u hu => by cases hu; trivial)
  · cases hv
    exact key (fun h => by rw [hrt] at h; cases h) (fun fs hr => retOut X hx hrt rfl (Or.inr (Or.inr (Or.inr (Or.inr ⟨rfl, rfl, rfl⟩)))) hd hr) (fun u hu => by cases hu; exact (wS_cons.mp w2).1)
  · cases hv
    exact key (fun h => by rw [hrt] at h; cases h) (fun fs hr => retOut X hx hrt rfl (Or.inr (Or.inr (Or.inr (Or.inr ⟨rfl, rfl, rfl⟩)))) hd hr) (fun u hu => by cases hu; trivial)
  · cases hv
    exact key (fun h => by rw [hrt] at h; cases h) (fun fs hr => retOut X hx hrt rfl (Or.inr (Or.inr (Or.inr (Or.inr ⟨rfl, rfl, rfl⟩)))) hd hr) (fun u hu => by cases hu; exact (wS_cons.mp w2).1)
  · cases hv
    exact key (fun h => by rw [hrt] at h; cases h) (fun fs hr => retOut X hx hrt rfl (Or.inr (Or.inr (Or.inr (Or.inr ⟨rfl, rfl, rfl⟩)))) hd hr) (fun u hu => by cases hu; trivial)
  · cases hv
    exact key (fun _ => rfl) (fun fs hr => X.returnOut hx hrt hd hr) (fun u hu => by cases hu)
  · cases hv
theorem aFill_gs (g : Nat → Addr) (as : List Value) : (aFill as).map (gs g) = aFill (gS g as) := by
  induction as with
  | nil => rfl
  | cons v r ih =>
    simp only [aFill, gS, List.map_cons, gv_cat] at ih ⊢
    split <;> simp [gs, ih]
theorem foldl_fill (as : List Value) (acc : Array Slot) : as.foldl (fun acc v => if v.category = 2 then (acc.push (.val v)).push .second else acc.push (.val v)) acc = acc ++ (aFill as).toArray := by
  induction as generalizing acc with
  | nil => simp [aFill]
  | cons v r ih =>
    simp only [List.foldl_cons, aFill]
    rw [ih]
    split <;> simp
theorem entry_gL (m : MethodId) (g : Nat → Addr) (as : List Value) (n : Nat) : entryFrame m (gS g as).toArray n = mkF m 0 (gL g (aL as n)) [] := by
  have h1 : argsToLocals (gS g as).toArray n = gL g (aL as n) := by
    unfold argsToLocals
    simp only [List.foldl_toArray', foldl_fill]
    simp only [gL, aL, List.map_append, aFill_gs, List.map_replicate, gs]
    have : (aFill (gS g as)).length = (aFill as).length := by rw [← aFill_gs]; simp
    simp [this]
  simp [entryFrame, mkF, h1]
theorem aFill_wf {n : Nat} {as : List Value} (w : wS n as) : wL n (aFill as) := by
  induction as with
  | nil => intro s hs; cases hs
  | cons v r ih =>
    have w3 := wS_cons.mp w
    have ih := ih w3.2
    simp only [aFill]
    split
    · intro s hs
      rcases List.mem_cons.mp hs with rfl | hs
      · exact w3.1
      · rcases List.mem_cons.mp hs with rfl | hs
        · trivial
        · exact ih s hs
    · intro s hs
      rcases List.mem_cons.mp hs with rfl | hs
      · exact w3.1
      · exact ih s hs
theorem aL_wf {n k : Nat} {as : List Value} (w : wS n as) : wL n (aL as k) := by
  intro s hs
  rcases List.mem_append.mp hs with q | q
  · exact aFill_wf w s q
  · rw [List.eq_of_mem_replicate q]; trivial
theorem aL_len {k : Nat} {as : List Value} (h : (aFill as).length ≤ k) : (aL as k).length = k := by
  simp [aL]; omega
/-- what a body leaves -/
def Leaves (Z : State) (kc : KTy) (sl : SL) (n0 k0 : Nat) (g : Nat → Addr) (A A' : AH) (v' : Option Value) (v : Option Value) (h : Heap) (L : List Loc) : Prop :=
  ∃ g' : Nat → Addr, v = v'.map (gv g') ∧ Rep Z kc sl n0 k0 h g' A' ∧ Fr n0 L ∧ (∀ i, i < A.length → g' i = g i) ∧ A.length ≤ A'.length ∧ ∀ u, v' = some u → wv A'.length u
/-- that the fuel's runs are sound -/
def Sound (Z : State) (kc : KTy) (sl : SL) (n0 : Nat) (E : EV) (nm : Nat → MethodName) (by_ : Nat → ByteArray) (fuel : Nat) : Prop :=
  ∀ (M pc : Nat) (L : List Slot) (S : List Value) (A : AH) (o o' : Orc) (cs : List Prop) (v : Option Value) (A' : AH) (k n f w : Nat), run E fuel M pc L S A o = some (cs, o', v, A', k, n, f, w) → (∀ P ∈ cs, P) →
    ∀ (p : Program) (l : Launch) (e : Env) (R : Room) (s : State) (m : MethodId) (args : Array Value) (below : List Frame) (meth : Method) (c : Code) (T : State) (locs : List Loc) (cells slots : Nat) (g : Nat → Addr),
      Stand p l e R s m args below meth c T locs cells slots → p.tables.exec = Jvm.exec → Z.Warmed39 s.vm → s.vm.findClass (nm M).cls = some m.cls → c.code = by_ M → c.maxLocals = E.2.1 M → meth.sig.returnType = E.2.2.1 M → meth.name = (nm M).name → meth.locks = false →
      Rep Z kc sl n0 E.2.2.2.2.2.2 T.heap g A → Fr n0 locs → wL A.length L → wS A.length S → L.length = E.2.1 M → cells + k ≤ R.cells → slots + n ≤ R.slots → f ≤ R.frames → w ≤ R.locals →
      Ends p e s below Z kc sl n0 E.2.2.2.2.2.2 T (mkF m pc (gL g L) (gS g S)) g A (cells + k) (slots + n) v A'
/-- a body's contract, of its run -/
theorem Sound.met {fuel : Nat} (H : Sound Z kc sl n0 E nm by_ fuel) {M : Nat} {as : List Value} {A A' : AH} {o o' : Orc} {cs : List Prop} {v : Option Value} {k n f w : Nat} (hrun : run E fuel M 0 (aL as (E.2.1 M)) [] A o = some (cs, o', v, A', k, n, f, w)) (hc : ∀ P ∈ cs, P)
    (hfit : (aFill as).length ≤ E.2.1 M) (hpl : plainFor (nm M) = true) {h0 : Heap} {g : Nat → Addr} (Rp : Rep Z kc sl n0 E.2.2.2.2.2.2 h0 g A) (wf : wS A.length as) (l : Launch) (ws : List Jvm.Cond) (R : Room) (hk : k ≤ R.cells) (hn : n ≤ R.slots) (hf : f ≤ R.frames) (hw : w ≤ R.locals) :
    MetFree l (nm M) (head1 (Jvm.Cond.code (nm M) (by_ M) (E.2.1 M) (E.2.2.1 M) :: ws) R) (fun a U => a = (gS g as).toArray ∧ Z.Warmed39 U.vm ∧ U.heap = h0) (fun _ _ _ _ _ => True) (fun _ U o U' => ∃ v' L, o = .returned v' ∧ Leaves Z kc sl n0 E.2.2.2.2.2.2 g A A' v v' U'.heap L ∧ FrameEnd U o U' L k n) := by
  refine MetFree.of_bodySF hpl hisR ?_
  intro p e s m args below meth c s₁ Bd hml0 hP hK
  obtain ⟨rfl, hZ, hh⟩ := hP
  have hown : s.vm.findClass (nm M).cls = some m.cls := findClass_of_methodNamed Bd.named
  have hnm := (name_of_methodNamed Bd.named Bd.method).1
  have X0 : Stand p l e R s m (gS g as).toArray below meth c s₁ [] 0 0 := Stand.of_body Bd
  have e0 : s₁.heap = h0 := by rw [← hh, Bd.state]; rfl
  obtain ⟨V, locs', g', q1, q2, q3, q4, q5, q6, q7, q8, q9, q10⟩ := H M 0 _ [] A o o' cs v A' k n f w hrun hc p l e R s m _ below meth c s₁ [] 0 0 g X0 Bd.exec hZ hown Bd.bytes hml0 Bd.returns hnm Bd.notSynchronized (by rw [e0]; exact Rp) (Fr.nil n0) (aL_wf wf) (fun _ h => nomatch h) (aL_len hfit) (by omega) (by omega) hf hw
  rw [Nat.zero_add, Nat.zero_add] at q5
  exact ⟨V, _, castTop (entry_gL m g as _) q1, q2, q3, _, _, rfl, ⟨g', rfl, q6, q7, q8, q9, q10⟩, ⟨_, rfl⟩, q4, q5⟩
end Run
section RunSound
variable {Z : State} {a0 : Array Value} {kc : KTy} {sl : SL} {n0 : Nat} {E : EV} {nm : Nat → MethodName} {by_ : Nat → ByteArray}
theorem mem_app {P Q : List Prop} (h : ∀ x ∈ P ++ Q, x) : (∀ x ∈ P, x) ∧ ∀ x ∈ Q, x := ⟨fun x hx => h x (List.mem_append_left _ hx), fun x hx => h x (List.mem_append_right _ hx)⟩
theorem selV_ok {tb : Tables} [Ours tb] {e : Env} {below : List Frame} {T target : State} {m : MethodId} {c : Code} (h : At T m c below) (hx : tb.exec = Jvm.exec) (g : Nat → Addr) {i : Instr} {L : List Slot} {x : Int32} {pc : Nat} {st : List Value} (hv : selV i L = some x) (hd : decode c.code pc = .ok (i, ilen i))
    (hr : Steps tb e below (T.setTop (mkF m (pc + 1) (gL g L) (.int x :: st))) target) : Steps tb e below (T.setTop (mkF m pc (gL g L) st)) target := by
  unfold selV at hv
  split at hv
  · cases hv; exact XS.iconst h hx rfl hd hr
  · split at hv
    · rename_i hl; cases hv; exact XS.iloadN h hx rfl hd (gL_get (g := g) hl) hr
    · cases hv
  · cases hv
theorem sel_ok {tb : Tables} [Ours tb] {e : Env} {below : List Frame} {T target : State} {m : MethodId} {c : Code} (h : At T m c below) (hx : tb.exec = Jvm.exec) (g : Nat → Addr) (MK : MOk Z a0 kc sl E nm by_) {M pc : Nat} {i : Instr} {x y : Int32} {b : Bool} {S r : List Value} {L : List Slot}
    (hby : c.code = by_ M) (hX : selX E M pc L i = some (x, y)) (hB : selB i S = some (b, r)) (hd : decode c.code pc = .ok (i, ilen i))
    (hr : Steps tb e below (T.setTop (mkF m (pc + 8) (gL g L) (.int (bif b then x else y) :: gS g r))) target) : Steps tb e below (T.setTop (mkF m pc (gL g L) (gS g S))) target := by
  have fin : ∀ {y x : Int32} {i3 i7 : Instr} {p3 p4 p7 : Option Bool × List Nat × Value}, E.1 M (pc + 3) = some (i3, p3) → E.1 M (pc + 4) = some (.goto 4, p4) → E.1 M (pc + 7) = some (i7, p7) → selV i3 L = some y → selV i7 L = some x →
      (Steps tb e below (T.setTop (mkF m (pc + 8) (gL g L) (.int x :: gS g r))) target → Steps tb e below (T.setTop (mkF m (pc + 7) (gL g L) (gS g r))) target) ∧ (Steps tb e below (T.setTop (mkF m (pc + 8) (gL g L) (.int y :: gS g r))) target → Steps tb e below (T.setTop (mkF m (pc + 3) (gL g L) (gS g r))) target) := by
    intro y x i3 i7 p3 p4 p7 e3 e4 e7 s3 s7
    obtain ⟨q3, v3, w3⟩ := p3
    obtain ⟨q4, v4, w4⟩ := p4
    obtain ⟨q7, v7, w7⟩ := p7
    have d3 := (MK _ _ _ _ _ _ e3).1
    have d4 := (MK _ _ _ _ _ _ e4).1
    have d7 := (MK _ _ _ _ _ _ e7).1
    rw [← hby] at d3 d4 d7
    refine ⟨fun k => selV_ok h hx g s7 d7 k, fun k => selV_ok h hx g s3 d3 ?_⟩
    exact XS.goto h hx rfl (pc0 := pc + 4) (pc' := pc + 8) rfl d4 (by omega) (by omega) k
  unfold selX at hX
  split at hX
  · rename_i cd i3 p3 p4 i7 p7 e3 e4 e7
    split at hX
    · rename_i y' x' s3 s7
      cases hX
      obtain ⟨f1, f2⟩ := fin e3 e4 e7 s3 s7
      unfold selB at hB
      split at hB
      · rename_i i' S' cd' off xx rr hi
        cases hi
        cases hB
        cases hb : ifCond.holds cd xx with
        | true =>
          rw [hb] at hr
          exact XS.ifYes h hx rfl (pc0 := pc) (pc' := pc + 7) rfl hd rfl hb (by omega) (by omega) (f1 hr)
        | false =>
          rw [hb] at hr
          exact XS.ifNo h hx rfl hd rfl hb (f2 hr)
      · rename_i hi; cases hi
      · cases hB
    · cases hX
  · rename_i cd i3 p3 p4 i7 p7 e3 e4 e7
    split at hX
    · rename_i y' x' s3 s7
      cases hX
      obtain ⟨f1, f2⟩ := fin e3 e4 e7 s3 s7
      unfold selB at hB
      split at hB
      · rename_i hi; cases hi
      · rename_i i' S' cd' off yy xx rr hi
        cases hi
        cases hB
        cases hb : if_icmp.holds cd xx yy with
        | true =>
          rw [hb] at hr
          exact XS.icmpYes h hx rfl (pc0 := pc) (pc' := pc + 7) rfl hd rfl hb (by omega) (by omega) (f1 hr)
        | false =>
          rw [hb] at hr
          exact XS.icmpNo h hx rfl hd rfl hb (f2 hr)
      · cases hB
    · cases hX
  · cases hX
theorem selB_wf {n : Nat} {i : Instr} {S r : List Value} {b : Bool} (hB : selB i S = some (b, r)) (w : wS n S) : wS n r := by
  unfold selB at hB
  split at hB
  · cases hB; exact (wS_cons.mp w).2
  · cases hB; exact (wS_cons.mp (wS_cons.mp w).2).2
  · cases hB
set_option maxHeartbeats 4000000 in
theorem run_sound (K : KOk Z a0 kc) (MK : MOk Z a0 kc sl E nm by_) : ∀ fuel, Sound Z kc sl n0 E nm by_ fuel
  | 0 => fun M pc L S A o o' cs v A' k n f w hrun => by
    rw [run] at hrun; cases hrun
  | fuel + 1 => by
    have IH := run_sound K MK fuel
    intro M pc L S A o o' cs v A' k n f w hrun hc p l e R s m args below meth c T locs cells slots g X hx hZ hown hby hml hrt hnm hlk Rp N w1 w2 hsz hk hn hf hw
    rw [run] at hrun
    simp only [forceL_eq, forceN_eq] at hrun
    split at hrun
    · cases hrun
    rename_i i pin nums val hcode
    obtain ⟨d1, d2, d3⟩ := MK M pc i pin nums val hcode
    have hd : decode c.code pc = .ok (i, ilen i) := by rw [hby]; exact d1
    split at hrun
    · cases hrun
    rename_i c0 o1 S1 hpin
    split at hrun
    · -- a return
      split at hrun
      · rename_i v1 hv
        cases hrun
        have := pinS_ok hpin hc
        subst this
        exact ret_ok X hx hlk Rp N w2 hrt hv hd
      · cases hrun
    · -- a call
      split at hrun
      · cases hrun
      rename_i b as rest hcal
      split at hrun
      · rename_i hfit
        split at hrun
        · cases hrun
        rename_i c1 o2 v1 A1 k1 n1 f1 w1' hr1
        split at hrun
        · cases hrun
        rename_i c2 o3 v2 A2 k2 n2 f2 w2' hr2
        cases hrun
        obtain ⟨hc0, hc12⟩ := mem_app hc
        obtain ⟨hc1, hc2⟩ := mem_app hc12
        have := pinS_ok hpin hc0
        subst this
        have fin : ∀ {T2 : State} {Lc : List Loc} {v' : Option Value}, Stand p l e R s m args below meth c T2 (locs ++ Lc) (cells + k1) (slots + n1) → Leaves Z kc sl n0 E.2.2.2.2.2.2 g A A1 v1 v' T2.heap Lc → wS A.length rest →
            (∀ target, Steps p.tables e below (T2.setTop (mkF m (pc + 3) (gL g L) (v'.toList ++ gS g rest))) target → Steps p.tables e below (T.setTop (mkF m pc (gL g L) (gS g S1))) target) →
            Ends p e s below Z kc sl n0 E.2.2.2.2.2.2 T (mkF m pc (gL g L) (gS g S1)) g A (cells + (k1 + k2)) (slots + (n1 + n2)) v A' := by
          intro T2 Lc v' X2 hQ wr st
          obtain ⟨g1, rfl, r1, r2, r3, r4, r5⟩ := hQ
          have e1 : gL g1 L = gL g L := gL_cong r3 w1
          have e2 : gS g1 rest = gS g rest := gS_cong r3 wr
          have e3 : (v1.map (gv g1)).toList ++ gS g rest = gS g1 (v1.toList ++ rest) := by
            rw [← e2]
            cases v1 <;> simp [gS]
          have wS2 : wS A1.length (v1.toList ++ rest) := by
            intro x hx'
            rcases List.mem_append.mp hx' with q | q
            · cases v1 with
              | none => cases q
              | some u => rw [Option.toList_some, List.mem_singleton] at q; subst q; exact r5 x rfl
            · exact wv_mono r4 (wr x q)
          obtain ⟨V, locs', g', q1, q2, q3, q4, q5, q6, q7, q8, q9, q10⟩ := IH M (pc + 3) L (v1.toList ++ rest) A1 o2 o' c2 v A' k2 n2 f2 w2' hr2 hc2 p l e R s m args below meth c T2 (locs ++ Lc) (cells + k1) (slots + n1) g1 X2 hx hZ hown hby hml hrt hnm hlk r1 (Fr.app N r2) (fun x hx' => wsl_mono r4 (w1 x hx')) wS2 hsz (by omega) (by omega) (by omega) (by omega)
          refine ⟨V, locs', g', st V ?_, q2, q3, q4, ?_, q6, q7, fun j hj => (q8 j (by omega)).trans (r3 j hj), by omega, q10⟩
          · rw [e3, ← e1]; exact q1
          · rw [show cells + (k1 + k2) = cells + k1 + k2 by omega, show slots + (n1 + n2) = slots + n1 + n2 by omega]; exact q5
        have hszc : (gL g L).size = c.maxLocals := by rw [gL_len, hml]; exact hsz
        have hWr : 2 * 0 + csum (gS g rest) ≤ csum rest := by rw [show csum (gS g rest) = csum rest from gS_cat g rest]; omega
        unfold callee at hcal
        split at hcal
        · -- static
          rename_i idx
          split at hcal
          · rename_i b' na
            split at hcal
            · rename_i hna
              cases hcal
              obtain ⟨u1, u2, u3, u4, u5, ⟨ps, rr, u6, u7⟩, u8⟩ := d3
              have was : wS A.length (S1.take na).reverse := fun x hx' => w2 x (List.mem_of_mem_take (List.mem_reverse.mp hx'))
              have wre : wS A.length (S1.drop na) := fun x hx' => w2 x (List.mem_of_mem_drop hx')
              have met := IH.met hr1 hc1 hfit u8 Rp was l [] ({ frames := f1, cells := k1, slots := n1, locals := w1' } : Room) (Nat.le_refl _) (Nat.le_refl _) (Nat.le_refl _) (Nat.le_refl _)
              have hst : gS g S1 = (gS g (S1.take na).reverse).reverse ++ gS g (S1.drop na) := by
                conv => lhs; rw [← List.take_append_drop na S1]
                simp [gS]
              obtain ⟨_, _, ⟨T2, L2, kk2, nn2⟩, -, X2, ⟨Lc, hQ, y1, y2, y3⟩, st⟩ := Jvm.LawKit.callS X hx (y := nm b) hown (mvT hZ u1) (mvT hZ u2) (mvT hZ u3) (mvT hZ u4) u5 (backOf (W := csum (S1.drop na)) met hZ u4 u3 (by show f1 + 1 ≤ _; omega) (by show csum _ + (E.2.1 b + 11) + w1' ≤ _; omega)) (g := mkF m pc (gL g L) (gS g S1)) rfl hszc (argsL := gS g (S1.take na).reverse) (rest := gS g (S1.drop na)) (lenOf u6 (by simp [gS]; omega)) hst hWr hd (fun _ _ => ⟨rfl, rfl, by show cells + k1 ≤ _; omega, by show slots + n1 ≤ _; omega⟩)
              dsimp only [Pt.U, Pt.locs, Pt.cells, Pt.slots] at X2 y1 y2 y3 st hQ
              subst y1 y2 y3
              exact fin X2 hQ wre st
            · cases hcal
          · cases hcal
        · -- a constructor
          rename_i idx
          split at hcal
          · rename_i b' na
            split at hcal
            · rename_i a rest' hdr
              cases hcal
              obtain ⟨u0, u1, u2, u3, u4, u4', u5, ⟨ps, rr, u6, u7⟩, u8⟩ := d3
              have hmem : ∀ x ∈ (.ref a :: rest), x ∈ S1 := fun x hx' => by rw [← hdr] at hx'; exact List.mem_of_mem_drop hx'
              have was : wS A.length (.ref a :: (S1.take na).reverse) := wS_cons.mpr ⟨w2 _ (hmem _ (List.mem_cons_self ..)), fun x hx' => w2 x (List.mem_of_mem_take (List.mem_reverse.mp hx'))⟩
              have wre : wS A.length rest := fun x hx' => w2 x (hmem x (List.mem_cons_of_mem _ hx'))
              have met := IH.met hr1 hc1 hfit u8 Rp was l [] ({ frames := f1, cells := k1, slots := n1, locals := w1' } : Room) (Nat.le_refl _) (Nat.le_refl _) (Nat.le_refl _) (Nat.le_refl _)
              rw [u4'] at met
              have hst : gS g S1 = (gS g (S1.take na).reverse).reverse ++ .ref (g a) :: gS g rest := by
                conv => lhs; rw [← List.take_append_drop na S1, hdr]
                simp [gS, gv]
              have hlen : na ≤ S1.length := by
                have := congrArg List.length hdr
                simp at this
                omega
              obtain ⟨_, _, ⟨T2, L2, kk2, nn2⟩, -, X2, ⟨Lc, hQ, y1, y2, y3⟩, st⟩ := X.specialBack hx (y := nm b) u0 hown (mvT hZ u1) (mvT hZ u2) (mvT hZ u4) u5 (backOf (W := csum rest) met hZ u4 u3 (by show f1 + 1 ≤ _; omega) (by show csum _ + (E.2.1 b + 11) + w1' ≤ _; omega)) (g := mkF m pc (gL g L) (gS g S1)) rfl hszc (Steps.refl _) (a := g a) (argsL := gS g (S1.take na).reverse) (rest := gS g rest) (lenOf u6 (by simp [gS]; omega)) hst hWr hd (fun _ _ => ⟨rfl, rfl, by show cells + k1 ≤ _; omega, by show slots + n1 ≤ _; omega⟩)
              dsimp only [Pt.U, Pt.locs, Pt.cells, Pt.slots] at X2 y1 y2 y3 st hQ
              subst y1 y2 y3
              exact fin X2 hQ wre fun target hr => st.trans hr
            · cases hcal
          · cases hcal
        · -- an instance method
          rename_i idx
          split at hcal
          · rename_i na tb
            split at hcal
            · rename_i a rest' hdr
              split at hcal
              · rename_i kk vs ha
                split at hcal
                · rename_i b' hlook
                  cases hcal
                  have hmem : ∀ x ∈ (.ref a :: rest), x ∈ S1 := fun x hx' => by rw [← hdr] at hx'; exact List.mem_of_mem_drop hx'
                  have was : wS A.length (.ref a :: (S1.take na).reverse) := wS_cons.mpr ⟨w2 _ (hmem _ (List.mem_cons_self ..)), fun x hx' => w2 x (List.mem_of_mem_take (List.mem_reverse.mp hx'))⟩
                  have wre : wS A.length rest := fun x hx' => w2 x (hmem x (List.mem_cons_of_mem _ hx'))
                  have hst : gS g S1 = (gS g (S1.take na).reverse).reverse ++ .ref (g a) :: gS g rest := by
                    conv => lhs; rw [← List.take_append_drop na S1, hdr]
                    simp [gS, gv]
                  have hlen : na ≤ S1.length := by
                    have := congrArg List.length hdr
                    simp at this
                    omega
                  rcases VC_virt d3 with ⟨k0', b0, rfl, d4⟩ | d4
                  · obtain ⟨fs, ki, v1', u1, u2, u3, u4', v4', v5', u5', ⟨ps, rr, u4, u5⟩, v6'⟩ := d4
                    obtain ⟨rfl, rfl⟩ : kk = k0' ∧ b = b0 := by
                      unfold look at hlook
                      split at hlook
                      · rename_i e; cases hlook; exact ⟨e.symm, rfl⟩
                      · cases hlook
                    have met := IH.met hr1 hc1 hfit v6' Rp was l [] ({ frames := f1, cells := k1, slots := n1, locals := w1' } : Room) (Nat.le_refl _) (Nat.le_refl _) (Nat.le_refl _) (Nat.le_refl _)
                    obtain ⟨cq, kq, qa, qb, cell, qc, qd, qe⟩ := isOf (T := T) hZ rfl (Rp.exa ha v1')
                    obtain ⟨c3, k3, i1, i2, i3, i4, -⟩ := Cond.instantiable_spec (mvT (args := args) hZ u4')
                    cases i1.symm.trans qa
                    cases i2.symm.trans qb
                    have hpr := Cond.privateMethod_at (mvP (args := #[]) hZ u3)
                    have hsel := selects_self_of_private (args := args) qa qb (Bool.or_eq_false_iff.mp i4).1 hpr (mvT hZ u2) u5'
                    obtain ⟨_, _, ⟨T2, L2, kk2, nn2⟩, -, X2, ⟨Lc, hQ, y1, y2, y3⟩, st⟩ := X.privateBack hx (y := nm b) hown (mvT hZ u1) (mvT hZ u2) hsel hpr (mvT hZ v4') u5' (backOf (W := csum rest) met hZ v4' v5' (by show f1 + 1 ≤ _; omega) (by show csum _ + (E.2.1 b + 11) + w1' ≤ _; omega)) (g := mkF m pc (gL g L) (gS g S1)) rfl hszc (Steps.refl _) (a := g a) qc (fun q z => by rw [z] at qe; cases qe) (argsL := gS g (S1.take na).reverse) (rest := gS g rest) (lenOf u4 (by simp [gS]; omega)) hst hWr hd (fun _ _ => ⟨rfl, rfl, by show cells + k1 ≤ _; omega, by show slots + n1 ≤ _; omega⟩)
                    dsimp only [Pt.U, Pt.locs, Pt.cells, Pt.slots] at X2 y1 y2 y3 st hQ
                    subst y1 y2 y3
                    exact fin X2 hQ wre fun target hr => st.trans hr
                  · obtain ⟨y, u1, u2, u2', u3, ⟨ps, rr, u4, u5⟩, u6⟩ := d4
                    obtain ⟨C, fs, v1', v2', v3', v4', v5', v6'⟩ := u6 kk b hlook
                    have met := IH.met hr1 hc1 hfit v6' Rp was l [] ({ frames := f1, cells := k1, slots := n1, locals := w1' } : Room) (Nat.le_refl _) (Nat.le_refl _) (Nat.le_refl _) (Nat.le_refl _)
                    obtain ⟨cq, kq, qa, qb, qc⟩ := isOf (T := T) hZ rfl (Rp.exa ha v1')
                    obtain ⟨_, _, ⟨T2, L2, kk2, nn2⟩, -, X2, ⟨Lc, hQ, y1, y2, y3⟩, st⟩ := X.virtualBack hx (y := y) (z := nm b) hown (mvT hZ u1) (mvT hZ u2) (u2' s hZ) (mvT hZ v2') (mvT hZ v3') u3 (backOf (W := csum rest) met hZ v4' v5' (by show f1 + 1 ≤ _; omega) (by show csum _ + (E.2.1 b + 11) + w1' ≤ _; omega)) qa qc (g := mkF m pc (gL g L) (gS g S1)) rfl hszc (Steps.refl _) (argsL := gS g (S1.take na).reverse) (rest := gS g rest) (lenOf u4 (by simp [gS]; omega)) hst hWr hd (fun _ _ => ⟨rfl, rfl, by show cells + k1 ≤ _; omega, by show slots + n1 ≤ _; omega⟩)
                    dsimp only [Pt.U, Pt.locs, Pt.cells, Pt.slots] at X2 y1 y2 y3 st hQ
                    subst y1 y2 y3
                    exact fin X2 hQ wre fun target hr => st.trans hr
                · cases hcal
              · cases hcal
            · cases hcal
          · cases hcal
        · cases hcal
      · cases hrun
    · -- a choice of two constants
      split at hrun
      · rename_i x y b r hX hB
        split at hrun
        · cases hrun
        rename_i c2 o2 v2 A2 k2 n2 f2 w2' hr2
        cases hrun
        obtain ⟨hc0, hc2⟩ := mem_app hc
        have := pinS_ok hpin hc0
        subst this
        obtain ⟨V, locs2, g2, q1, q2, q3, q4, q5, q6, q7, q8, q9, q10⟩ := IH M (pc + 8) L _ A o1 o' c2 v A' k n f w hr2 hc2 p l e R s m args below meth c T locs cells slots g X hx hZ hown hby hml hrt hnm hlk Rp N w1 (wS_cons.mpr ⟨trivial, selB_wf hB w2⟩) hsz hk hn hf hw
        exact ⟨V, locs2, g2, sel_ok X.here hx g MK hby hX hB hd q1, q2, q3, q4, q5, q6, q7, q8, q9, q10⟩
      · cases hrun
    · -- a step
      split at hrun
      · cases hrun
      rename_i c1 o2 pc1 L1 S2 A1 k1 n1 f1 w1' hst
      split at hrun
      · cases hrun
      rename_i c2 o3 v2 A2 k2 n2 f2 w2' hr2
      cases hrun
      obtain ⟨hc0, hc12⟩ := mem_app hc
      obtain ⟨hc1, hc2⟩ := mem_app hc12
      have := pinS_ok hpin hc0
      subst this
      obtain ⟨oa, ob, hst'⟩ := stepC_ok hst
      obtain ⟨⟨T', locs', g', X', Rp', N', e1, e2, e3, e4, st⟩, hL⟩ := step_ok X hx hZ hown hnm K Rp N w1 w2 hd d2 (hsz.trans hml.symm) hst' hc1 (by omega) (by omega) (by omega) (by omega)
      obtain ⟨V, locs2, g2, q1, q2, q3, q4, q5, q6, q7, q8, q9, q10⟩ := IH M pc1 L1 S2 A1 o2 o' c2 v A' k2 n2 f2 w2' hr2 hc2 p l e R s m args below meth c T' locs' (cells + k1) (slots + n1) g' X' hx hZ hown hby hml hrt hnm hlk Rp' N' e3 e4 (hL.trans hsz) (by omega) (by omega) (by omega) (by omega)
      refine ⟨V, locs2, g2, st V q1, q2, q3, q4, ?_, q6, q7, fun j hj => (q8 j (by omega)).trans (e1 j hj), by omega, q10⟩
      rw [show cells + (k1 + k2) = cells + k1 + k2 by omega, show slots + (n1 + n2) = slots + n1 + n2 by omega]; exact q5
end RunSound
/-! tables of entries -/
def fetch : List (Nat × Ent) → Nat → Option Ent
  | [], _ => none
  | (q, e) :: r, pc => bif Nat.beq q pc then some e else fetch r pc
def fetch2 : List (Nat × List (Nat × Ent)) → Nat → Option Ent
  | [], _ => none
  | (b, l) :: r, pc => bif Nat.blt pc b then fetch l pc else fetch2 r pc
theorem fetch_mem {c : List (Nat × Ent)} {pc : Nat} {e : Ent} (h : fetch c pc = some e) : (pc, e) ∈ c := by
  induction c with
  | nil => cases h
  | cons a r ih =>
    obtain ⟨q, e'⟩ := a
    unfold fetch at h
    cases hq : Nat.beq q pc with
    | true =>
      rw [hq] at h
      cases h
      have := Nat.eq_of_beq_eq_true hq
      subst this
      exact List.mem_cons_self ..
    | false =>
      rw [hq] at h
      exact List.mem_cons_of_mem _ (ih h)
theorem fetch2_mem {c : List (Nat × List (Nat × Ent))} {pc : Nat} {e : Ent} (h : fetch2 c pc = some e) : ∃ ch ∈ c, (pc, e) ∈ ch.2 := by
  induction c with
  | nil => cases h
  | cons a r ih =>
    obtain ⟨b, l⟩ := a
    unfold fetch2 at h
    cases hq : Nat.blt pc b with
    | true =>
      rw [hq] at h
      exact ⟨_, List.mem_cons_self .., fetch_mem h⟩
    | false =>
      rw [hq] at h
      obtain ⟨ch, h1, h2⟩ := ih h
      exact ⟨ch, List.mem_cons_of_mem _ h1, h2⟩
theorem fn {α : Type} {P : α → Prop} : ∀ x ∈ ([] : List α), P x := fun _ h => nomatch h
theorem fc {α : Type} {P : α → Prop} {a : α} {l : List α} (h : P a) (r : ∀ x ∈ l, P x) : ∀ x ∈ a :: l, P x := fun x hx => (List.mem_cons.mp hx).elim (fun e => e ▸ h) (r x)
theorem look1 {k' b' k b : Nat} (h : look [k', b'] k = some b) : k = k' ∧ b = b' := by
  unfold look at h
  split at h
  · rename_i e; cases h; exact ⟨e.symm, rfl⟩
  · cases h
theorem look2 {k' b' k2 b2 k b : Nat} (h : look [k', b', k2, b2] k = some b) : (k = k' ∧ b = b') ∨ (k = k2 ∧ b = b2) := by
  unfold look at h
  split at h
  · rename_i e; cases h; exact Or.inl ⟨e.symm, rfl⟩
  · exact Or.inr (look1 h)
theorem nodup_ne {fs : List Fd} (h : ∀ i : Fin fs.length, ∀ j : Fin fs.length, i.val ≠ j.val → fs[i].2.1 ≠ fs[j].2.1) : ∀ (i j : Nat) (f f' : Fd), fs[i]? = some f → fs[j]? = some f' → i ≠ j → f.2.1 ≠ f'.2.1 := by
  intro i j f f' hi hj hne
  obtain ⟨a1, b1⟩ := List.getElem?_eq_some_iff.mp hi
  obtain ⟨a2, b2⟩ := List.getElem?_eq_some_iff.mp hj
  have := h ⟨i, a1⟩ ⟨j, a2⟩ hne
  simp only [Fin.getElem_fin, b1, b2] at this
  exact this
theorem Rep.start {Z : State} {kc : KTy} {h : Heap} {n0 : Nat} (hn : n0 ≤ h.size) (g : Nat → Addr) : Rep Z kc [] n0 0 h g [] :=
  ⟨fun _ hi => absurd hi (Nat.not_lt_zero _), fun _ _ hi => absurd hi (Nat.not_lt_zero _), fun _ _ hi => by simp at hi, hn, Nat.le_refl _, fun _ hx => nomatch hx⟩
/-- the run of the law returns 1, whatever the road's conditions ask being true, and within its room -/
def Good (E : EV) (fuel : Nat) (as : List Value) (A0 : AH) (K N F W : Nat) : Prop :=
  ∃ (o o' : Orc) (cs : List Prop) (A' : AH) (k n f w : Nat), run E fuel 0 0 (aL as (E.2.1 0)) [] A0 o = some (cs, o', some (.int 1), A', k, n, f, w) ∧ (∀ P ∈ cs, P) ∧ k ≤ K ∧ n ≤ N ∧ f ≤ F ∧ w ≤ W
def okR (r : Option RR) (K N F W : Nat) : Option (List Prop) :=
  match r with
  | some (cs, _, some (.int x), _, k, n, f, w) => bif (x == 1) && (Nat.ble k K && (Nat.ble n N && (Nat.ble f F && Nat.ble w W))) then some cs else none
  | _ => none
theorem Good.of {E : EV} {fuel : Nat} {as : List Value} {A0 : AH} {K N F W : Nat} (o : Orc) {cs : List Prop} (h : okR (run E fuel 0 0 (aL as (E.2.1 0)) [] A0 o) K N F W = some cs) (hc : ∀ P ∈ cs, P) : Good E fuel as A0 K N F W := by
  unfold okR at h
  split at h
  · rename_i cs' o' x A' k n f w hr
    cases hb : ((x == 1) && (Nat.ble k K && (Nat.ble n N && (Nat.ble f F && Nat.ble w W)))) with
    | false => rw [hb] at h; cases h
    | true =>
      rw [hb] at h
      cases h
      simp only [Bool.and_eq_true, beq_iff_eq, Nat.ble_eq] at hb
      obtain ⟨rfl, h1, h2, h3, h4⟩ := hb
      exact ⟨o, _, _, _, _, _, _, _, hr, hc, h1, h2, h3, h4⟩
  · cases h
theorem fnP : ∀ P ∈ ([] : List Prop), P := fun _ h => nomatch h
theorem fcP {a : Prop} {l : List Prop} (h : a) (r : ∀ P ∈ l, P) : ∀ P ∈ a :: l, P := fun x hx => (List.mem_cons.mp hx).elim (fun e => by subst e; exact h) (r x)
/-- a road without conditions -/
def okB (r : Option RR) (K N F W : Nat) : Bool :=
  match okR r K N F W with
  | some [] => true
  | _ => false
theorem Good.ofB {E : EV} {fuel : Nat} {as : List Value} {A0 : AH} {K N F W : Nat} (o : Orc) (h : okB (run E fuel 0 0 (aL as (E.2.1 0)) [] A0 o) K N F W = true) : Good E fuel as A0 K N F W := by
  unfold okB at h
  split at h
  · rename_i q; exact Good.of o q fnP
  · cases h
/-! numbers: what the branches ask, in whole numbers -/
section Numbers
open Jvm.FP
theorem i32_0 : (0 : Int32).toInt = 0 := rfl
theorem h_eq (x : Int32) : ifCond.holds .eq x = decide (x.toInt = 0) := by
  have : (x == 0) = decide (x = 0) := rfl
  simp only [ifCond.holds, this, ← Int32.toInt_inj, i32_0]
theorem h_ne (x : Int32) : ifCond.holds .ne x = decide (x.toInt ≠ 0) := by
  have : (x != 0) = !decide (x = 0) := rfl
  simp only [ifCond.holds, this, ← Int32.toInt_inj, i32_0]
  by_cases h : x.toInt = 0 <;> simp [h]
theorem h_lt (x : Int32) : ifCond.holds .lt x = decide (x.toInt < 0) := by
  simp only [ifCond.holds, Int32.lt_iff_toInt_lt, i32_0]
theorem h_ge (x : Int32) : ifCond.holds .ge x = decide (0 ≤ x.toInt) := by
  simp only [ifCond.holds, ge_iff_le, Int32.le_iff_toInt_le, i32_0]
theorem h_gt (x : Int32) : ifCond.holds .gt x = decide (0 < x.toInt) := by
  simp only [ifCond.holds, gt_iff_lt, Int32.lt_iff_toInt_lt, i32_0]
theorem h_le (x : Int32) : ifCond.holds .le x = decide (x.toInt ≤ 0) := by
  simp only [ifCond.holds, Int32.le_iff_toInt_le, i32_0]
theorem k_eq (x y : Int32) : if_icmp.holds .eq x y = decide (x.toInt = y.toInt) := by
  have : (x == y) = decide (x = y) := rfl
  simp only [if_icmp.holds, this, ← Int32.toInt_inj]
theorem k_ne (x y : Int32) : if_icmp.holds .ne x y = decide (x.toInt ≠ y.toInt) := by
  have : (x != y) = !decide (x = y) := rfl
  simp only [if_icmp.holds, this, ← Int32.toInt_inj]
  by_cases h : x.toInt = y.toInt <;> simp [h]
theorem k_lt (x y : Int32) : if_icmp.holds .lt x y = decide (x.toInt < y.toInt) := by
  simp only [if_icmp.holds, Int32.lt_iff_toInt_lt]
theorem k_ge (x y : Int32) : if_icmp.holds .ge x y = decide (y.toInt ≤ x.toInt) := by
  simp only [if_icmp.holds, ge_iff_le, Int32.le_iff_toInt_le]
theorem k_gt (x y : Int32) : if_icmp.holds .gt x y = decide (y.toInt < x.toInt) := by
  simp only [if_icmp.holds, gt_iff_lt, Int32.lt_iff_toInt_lt]
theorem k_le (x y : Int32) : if_icmp.holds .le x y = decide (x.toInt ≤ y.toInt) := by
  simp only [if_icmp.holds, Int32.le_iff_toInt_le]
/-- less, equal, greater -/
def cI (i j : Int) : Int32 := if i < j then -1 else if i = j then 0 else 1
theorem cI_lt {i j : Int} : (cI i j).toInt < 0 ↔ i < j := by
  unfold cI; split
  · rename_i h; simp [h]
  · split <;> rename_i h1 h2 <;> simp <;> omega
theorem cI_eq {i j : Int} : (cI i j).toInt = 0 ↔ i = j := by
  unfold cI; split
  · rename_i h; simp; omega
  · split <;> rename_i h1 h2 <;> simp <;> omega
theorem cI_gt {i j : Int} : 0 < (cI i j).toInt ↔ j < i := by
  unfold cI; split
  · rename_i h; simp; omega
  · split <;> rename_i h1 h2 <;> simp <;> omega
theorem cI_le {i j : Int} : (cI i j).toInt ≤ 0 ↔ i ≤ j := by
  have := @cI_gt i j; omega
theorem cI_ge {i j : Int} : 0 ≤ (cI i j).toInt ↔ j ≤ i := by
  have := @cI_lt i j; omega
theorem cmpL_cI (x y : Int64) : XT.cmpL x y = cI x.toInt y.toInt := by
  unfold XT.cmpL cI
  simp only [Int64.lt_iff_toInt_lt, ← Int64.toInt_inj]
  by_cases h1 : x.toInt < y.toInt
  · simp [h1, show ¬ y.toInt < x.toInt by omega, show ¬ x.toInt = y.toInt by omega]
  · by_cases h2 : x.toInt = y.toInt
    · simp [h2]
    · simp [h1, h2, show y.toInt < x.toInt by omega]
abbrev DI (i : Int) (a : UInt64) : Prop := Core.DInt i a
theorem DI.noNaN {i : Int} {a : UInt64} (h : DI i a) : FP.dIsNaN a = false := (Core.notNaN_iff a).mpr (Core.Whole.ne_nan h)
theorem DI.cmp {i j : Int} {a b : UInt64} (ha : DI i a) (hb : DI j b) (o : CmpOp) : cmpValue (FP.dcmp a b) o = cI i j := by
  rw [show FP.dcmp a b = some (compare i j) from Core.dcmp_int ha hb, Core.compare_ite]
  unfold cI
  by_cases h1 : i < j
  · simp [h1]; cases o <;> rfl
  · by_cases h2 : i = j
    · simp [h2]; cases o <;> rfl
    · simp [h1, h2]; cases o <;> rfl
theorem DI.i2d (x : Int32) : DI x.toInt (FP.i2d x) := Core.i2d_int x
theorem DI.l2d {x : Int64} (h : x.toInt.natAbs ≤ 2 ^ 53) : DI x.toInt (FP.l2d x) := Core.l2d_int h
theorem DI.add {i j : Int} {a b : UInt64} (ha : DI i a) (hb : DI j b) (h : (i + j).natAbs ≤ 2 ^ 53) : DI (i + j) (FP.dadd a b) := Core.dadd_int ha hb h
theorem DI.sub {i j : Int} {a b : UInt64} (ha : DI i a) (hb : DI j b) (h : (i - j).natAbs ≤ 2 ^ 53) : DI (i - j) (FP.dsub a b) := Core.dsub_int ha hb h
theorem DI.mul {i j : Int} {a b : UInt64} (ha : DI i a) (hb : DI j b) (h : (i * j).natAbs ≤ 2 ^ 53) : DI (i * j) (FP.dmul a b) := Core.dmul_int ha hb h
theorem DI.zero : DI 0 0 := by
  have h := DI.i2d 0
  rw [show FP.i2d 0 = 0 by decide +kernel] at h
  exact h
theorem DI.one : DI 1 4607182418800017408 := by
  have h := DI.i2d 1
  rw [show FP.i2d 1 = 4607182418800017408 by decide +kernel] at h
  exact h
theorem ask_lt {i j : Int} {a b : UInt64} (ha : DI i a) (hb : DI j b) (o : CmpOp) : ifCond.holds .lt (cmpValue (FP.dcmp a b) o) = decide (i < j) := by
  rw [DI.cmp ha hb, h_lt]; exact decide_eq_decide.mpr cI_lt
theorem askL_lt (x y : Int64) : ifCond.holds .lt (XT.cmpL x y) = decide (x.toInt < y.toInt) := by
  rw [cmpL_cI, h_lt]; exact decide_eq_decide.mpr cI_lt
theorem ask_ge {i j : Int} {a b : UInt64} (ha : DI i a) (hb : DI j b) (o : CmpOp) : ifCond.holds .ge (cmpValue (FP.dcmp a b) o) = decide (j ≤ i) := by
  rw [DI.cmp ha hb, h_ge]; exact decide_eq_decide.mpr cI_ge
theorem askL_ge (x y : Int64) : ifCond.holds .ge (XT.cmpL x y) = decide (y.toInt ≤ x.toInt) := by
  rw [cmpL_cI, h_ge]; exact decide_eq_decide.mpr cI_ge
theorem ask_gt {i j : Int} {a b : UInt64} (ha : DI i a) (hb : DI j b) (o : CmpOp) : ifCond.holds .gt (cmpValue (FP.dcmp a b) o) = decide (j < i) := by
  rw [DI.cmp ha hb, h_gt]; exact decide_eq_decide.mpr cI_gt
theorem askL_gt (x y : Int64) : ifCond.holds .gt (XT.cmpL x y) = decide (y.toInt < x.toInt) := by
  rw [cmpL_cI, h_gt]; exact decide_eq_decide.mpr cI_gt
theorem ask_le {i j : Int} {a b : UInt64} (ha : DI i a) (hb : DI j b) (o : CmpOp) : ifCond.holds .le (cmpValue (FP.dcmp a b) o) = decide (i ≤ j) := by
  rw [DI.cmp ha hb, h_le]; exact decide_eq_decide.mpr cI_le
theorem askL_le (x y : Int64) : ifCond.holds .le (XT.cmpL x y) = decide (x.toInt ≤ y.toInt) := by
  rw [cmpL_cI, h_le]; exact decide_eq_decide.mpr cI_le
theorem ask_eq {i j : Int} {a b : UInt64} (ha : DI i a) (hb : DI j b) (o : CmpOp) : ifCond.holds .eq (cmpValue (FP.dcmp a b) o) = decide (i = j) := by
  rw [DI.cmp ha hb, h_eq]; exact decide_eq_decide.mpr cI_eq
theorem askL_eq (x y : Int64) : ifCond.holds .eq (XT.cmpL x y) = decide (x.toInt = y.toInt) := by
  rw [cmpL_cI, h_eq]; exact decide_eq_decide.mpr cI_eq
theorem ask_ne {i j : Int} {a b : UInt64} (ha : DI i a) (hb : DI j b) (o : CmpOp) : ifCond.holds .ne (cmpValue (FP.dcmp a b) o) = decide (i ≠ j) := by
  rw [DI.cmp ha hb, h_ne]; exact decide_eq_decide.mpr (not_congr cI_eq)
theorem askL_ne (x y : Int64) : ifCond.holds .ne (XT.cmpL x y) = decide (x.toInt ≠ y.toInt) := by
  rw [cmpL_cI, h_ne]; exact decide_eq_decide.mpr (not_congr cI_eq)
theorem mulb {a b : Int} {A B : Nat} (ha : a.natAbs ≤ A) (hb : b.natAbs ≤ B) : (a * b).natAbs ≤ A * B := by
  rw [Int.natAbs_mul]; exact Nat.mul_le_mul ha hb
theorem tr {b : Bool} {P : Prop} [Decidable P] (h : b = decide P) (hp : P) : b = true := h.trans (decide_eq_true hp)
theorem fl {b : Bool} {P : Prop} [Decidable P] (h : b = decide P) (hp : ¬ P) : b = false := h.trans (decide_eq_false hp)
end Numbers
/-! numbers i * 2^k among the doubles -/
section Dyadic
open Jvm.FP Jvm.FP.Core
def sh (k : Int) : Datum → Datum
  | .fin s c q => .fin s c (q - k)
  | d => d
def Dy (k i : Int) (d : Datum) : Prop := Whole i (sh k d)
abbrev DY (k i : Int) (a : UInt64) : Prop := Dy k i (val64 a)
theorem Dy.fin {k i : Int} {d : Datum} (h : Dy k i d) : ∃ s c q, d = .fin s c q := by
  cases d with
  | nan => exact h.elim
  | inf s => exact h.elim
  | fin s c q => exact ⟨s, c, q, rfl⟩
theorem DY.of_DI {i : Int} {a : UInt64} (h : DI i a) : DY 0 i a := by
  have h' : Whole i (val64 a) := h
  show Whole i (sh 0 (val64 a))
  cases hv : val64 a with
  | nan => rw [hv] at h'; exact h'
  | inf s => rw [hv] at h'; exact h'
  | fin s c q => rw [hv] at h'; simpa [sh] using h'
theorem DY.to_DI {i : Int} {a : UInt64} (h : DY 0 i a) : DI i a := by
  have h' : Whole i (sh 0 (val64 a)) := h
  show Whole i (val64 a)
  cases hv : val64 a with
  | nan => rw [hv] at h'; exact h'
  | inf s => rw [hv] at h'; exact h'
  | fin s c q => rw [hv] at h'; simpa [sh] using h'
theorem DY.noNaN {k i : Int} {a : UInt64} (h : DY k i a) : FP.dIsNaN a = false := by
  refine (notNaN_iff a).mpr fun q => ?_
  obtain ⟨s, c, r, e⟩ := Dy.fin h
  rw [e] at q; cases q
theorem DY.fin64 {k i : Int} {a : UInt64} (h : DY k i a) : Jvm.Free.Fl.Fin64 a := Jvm.Free.Fl.fin64_core.mpr (Dy.fin h)
theorem order_sh (k : Int) (x y : Datum) : order (sh k x) (sh k y) = order x y := by
  cases x <;> cases y <;> try rfl
  rename_i s c q t d r
  simp only [sh, order, inUnits]
  rw [show q - k - min (q - k) (r - k) = q - min q r by omega, show r - k - min (q - k) (r - k) = r - min q r by omega]
theorem DY.cmp {k i j : Int} {a b : UInt64} (ha : DY k i a) (hb : DY k j b) (o : CmpOp) : cmpValue (FP.dcmp a b) o = cI i j := by
  have h : FP.dcmp a b = some (compare i j) := by
    show order (val64 a) (val64 b) = _
    rw [← order_sh k]
    exact order_whole ha hb
  rw [h, compare_ite]
  unfold cI
  by_cases h1 : i < j
  · simp [h1]; cases o <;> rfl
  · by_cases h2 : i = j
    · simp [h2]; cases o <;> rfl
    · simp [h1, h2]; cases o <;> rfl
theorem whole_scale {i : Int} {s : Bool} {c : Nat} {q : Int} (n : Nat) (h : Whole i (.fin s c q)) : Whole (i * ((2 ^ n : Nat) : Int)) (.fin s c (q + n)) := by
  have h1 : signed s (c * 2 ^ q.toNat) = i * ((2 ^ (-q).toNat : Nat) : Int) := h
  show signed s (c * 2 ^ (q + n).toNat) = i * ((2 ^ n : Nat) : Int) * ((2 ^ (-(q + n)).toNat : Nat) : Int)
  by_cases hq : 0 ≤ q
  · rw [show (-q).toNat = 0 by omega] at h1
    rw [show (q + n).toNat = q.toNat + n by omega, show (-(q + n)).toNat = 0 by omega, Nat.pow_add, ← Nat.mul_assoc, signed_mul, h1]
    simp
  · rw [show q.toNat = 0 by omega, Nat.pow_zero, Nat.mul_one] at h1
    by_cases hn : 0 ≤ q + n
    · rw [show (-(q + n)).toNat = 0 by omega, signed_mul, h1, Nat.pow_zero]
      have e : n = (-q).toNat + (q + n).toNat := by omega
      have e2 : ((2 ^ n : Nat) : Int) = ((2 ^ (-q).toNat : Nat) : Int) * ((2 ^ (q + n).toNat : Nat) : Int) := by
        conv => lhs; rw [e]
        rw [Nat.pow_add, Int.natCast_mul]
      rw [e2]
      simp [Int.mul_assoc]
    · rw [show (q + n).toNat = 0 by omega, Nat.pow_zero, Nat.mul_one, h1]
      have e : (-q).toNat = n + (-(q + n)).toNat := by omega
      rw [e, Nat.pow_add, Int.natCast_mul, Int.mul_assoc]
theorem Dy.scale {k i : Int} {d : Datum} (h : Dy k i d) (n : Nat) : Dy (k - n) (i * ((2 ^ n : Nat) : Int)) d := by
  obtain ⟨s, c, q, rfl⟩ := h.fin
  have := whole_scale n (show Whole i (.fin s c (q - k)) from h)
  show Whole _ (.fin s c (q - (k - n)))
  rw [show q - (k - n) = q - k + n by omega]
  exact this
theorem sh_sum (k : Int) (x y : Datum) : sh k (exactSum x y) = exactSum (sh k x) (sh k y) := by
  cases x <;> cases y <;> try rfl
  · rename_i s t
    cases s <;> cases t <;> rfl
  · rename_i s c q t d r
    have e1 : q - k - min (q - k) (r - k) = q - min q r := by omega
    have e2 : r - k - min (q - k) (r - k) = r - min q r := by omega
    have e3 : min (q - k) (r - k) = min q r - k := by omega
    simp only [exactSum, sh, sumUnits, inUnits, e1, e2]
    rw [e3]
theorem sh_product (k l : Int) {s t : Bool} {c d : Nat} {q r : Int} : sh (k + l) (exactProduct (.fin s c q) (.fin t d r)) = exactProduct (sh k (.fin s c q)) (sh l (.fin t d r)) := by
  simp only [exactProduct, sh]
  rw [show q + r - (k + l) = q - k + (r - l) by omega]
theorem sh_negate (k : Int) (x : Datum) : sh k (negate x) = negate (sh k x) := by cases x <;> rfl
theorem Dy.round {k i : Int} {d : Datum} (h : Dy k i d) (hi : i.natAbs ≤ 2 ^ 53) (h1 : -1000 ≤ k) (h2 : k ≤ 900) : Dy k i (round b64 d) := by
  obtain ⟨s, c, q, rfl⟩ := h.fin
  have hw : Whole i (.fin s c (q - k)) := h
  have hn := whole_natAbs hw
  have hr : Core.round b64 (.fin s c q) = roundRatio b64 s i.natAbs 1 k := by
    refine roundRatio_congr (by decide) (by decide) ?_
    rw [show (-(q - k)).toNat = (k - q).toNat by omega] at hn
    simpa using hn
  have T : b64.tails = 2 ^ 52 := by decide
  have Q1 : b64.qmin = -1074 := by decide
  have Q2 : b64.qmax = 971 := by decide
  have P : (2 : Nat) ^ b64.p = 2 ^ 53 := rfl
  by_cases h0 : i = 0
  · subst h0
    rw [hr]
    show Whole 0 (sh k (roundRatio b64 s 0 1 k))
    unfold roundRatio
    rw [if_pos rfl]
    show signed s (0 * _) = 0 * _
    rw [Nat.zero_mul, Int.zero_mul]; exact signed_zero s
  · have hs := whole_sign hw h0
    have hsg : signed s i.natAbs = i := by
      rw [hs]; unfold signed
      by_cases h : i < 0 <;> simp [h] <;> omega
    generalize hN : i.natAbs = N at *
    have hN0 : N ≠ 0 := by omega
    by_cases hp : N = 2 ^ 53
    · have hfit : Core.fits b64 (.fin s (2 ^ 52) (k + 1)) := ⟨by rw [P]; decide, by rw [Q1]; omega, by rw [Q2]; omega, .inr (Nat.le_of_eq T)⟩
      rw [hr, roundRatio_exact good_b64 (by decide) hfit (by rw [hp, show (k - (k + 1)).toNat = 0 by omega, show (k + 1 - k).toNat = 1 by omega])]
      show signed s (2 ^ 52 * 2 ^ (k + 1 - k).toNat) = i * _
      rw [show (k + 1 - k).toNat = 1 by omega, show (-(k + 1 - k)).toNat = 0 by omega, show (2 : Nat) ^ 52 * 2 ^ 1 = N by rw [hp], hsg]
      simp
    · have l1 : 2 ^ N.log2 ≤ N := Nat.log2_self_le hN0
      have l2 : N < 2 ^ (N.log2 + 1) := Nat.lt_log2_self
      have l3 : N.log2 < 53 := (Nat.pow_lt_pow_iff_right (by decide : 1 < 2)).mp (Nat.lt_of_le_of_lt l1 (by omega))
      generalize N.log2 = G at l1 l2 l3
      have hfit : Core.fits b64 (.fin s (N * 2 ^ (52 - G)) (k + G - 52)) := by
        refine ⟨?_, by rw [Q1]; omega, by rw [Q2]; omega, .inr ?_⟩
        · rw [P]
          calc N * 2 ^ (52 - G) < 2 ^ (G + 1) * 2 ^ (52 - G) := Nat.mul_lt_mul_of_pos_right l2 (Nat.two_pow_pos _)
            _ = 2 ^ 53 := by rw [← Nat.pow_add]; congr 1; omega
        · rw [T]
          calc 2 ^ 52 = 2 ^ G * 2 ^ (52 - G) := by rw [← Nat.pow_add]; congr 1; omega
            _ ≤ N * 2 ^ (52 - G) := Nat.mul_le_mul_right _ l1
      rw [hr, roundRatio_exact good_b64 (by decide) hfit (by rw [show (k - (k + G - 52)).toNat = 52 - G by omega, show (k + G - 52 - k).toNat = 0 by omega]; simp)]
      show signed s (N * 2 ^ (52 - G) * 2 ^ (k + G - 52 - k).toNat) = i * ((2 ^ (-(k + G - 52 - k)).toNat : Nat) : Int)
      rw [show (k + G - 52 - k).toNat = 0 by omega, show (-(k + (G : Int) - 52 - k)).toNat = 52 - G by omega, Nat.pow_zero, Nat.mul_one, signed_mul, hsg]
theorem DY.add {k i j : Int} {a b : UInt64} (ha : DY k i a) (hb : DY k j b) (h : (i + j).natAbs ≤ 2 ^ 53) (h1 : -1000 ≤ k) (h2 : k ≤ 900) : DY k (i + j) (FP.dadd a b) := by
  show Dy k (i + j) (val64 (Core.dadd a b))
  rw [val64_dadd]
  refine Dy.round ?_ h h1 h2
  show Whole (i + j) (sh k _)
  rw [sh_sum]
  exact whole_sum ha hb
theorem DY.sub {k i j : Int} {a b : UInt64} (ha : DY k i a) (hb : DY k j b) (h : (i - j).natAbs ≤ 2 ^ 53) (h1 : -1000 ≤ k) (h2 : k ≤ 900) : DY k (i - j) (FP.dsub a b) := by
  show Dy k (i - j) (val64 (Core.dsub a b))
  rw [val64_dsub]
  refine Dy.round ?_ h h1 h2
  show Whole (i - j) (sh k _)
  rw [sh_sum, sh_negate, show i - j = i + -j by omega]
  exact whole_sum ha (whole_negate hb)
theorem DY.mul {k l i j : Int} {a b : UInt64} (ha : DY k i a) (hb : DY l j b) (h : (i * j).natAbs ≤ 2 ^ 53) (h1 : -1000 ≤ k + l) (h2 : k + l ≤ 900) : DY (k + l) (i * j) (FP.dmul a b) := by
  show Dy (k + l) (i * j) (val64 (Core.dmul a b))
  rw [val64_dmul]
  refine Dy.round ?_ h h1 h2
  obtain ⟨s, c, q, e1⟩ := Dy.fin ha
  obtain ⟨t, d, r, e2⟩ := Dy.fin hb
  show Whole (i * j) (sh (k + l) _)
  have ha' : Whole i (sh k (val64 a)) := ha
  have hb' : Whole j (sh l (val64 b)) := hb
  rw [e1] at ha' ⊢
  rw [e2] at hb' ⊢
  rw [sh_product]
  exact whole_product ha' hb'
/-- the quotient by a power of two -/
theorem DY.div2 {k i m : Int} {a b : UInt64} (ha : DY k i a) (hb : val64 b = .fin false (2 ^ 52) (m - 52)) (h : i.natAbs ≤ 2 ^ 53) (h1 : -1000 ≤ k - m) (h2 : k - m ≤ 900) : DY (k - m) i (FP.ddiv a b) := by
  show Dy (k - m) i (val64 (Core.ddiv a b))
  rw [val64_ddiv, hb]
  obtain ⟨s, c, q, e1⟩ := Dy.fin ha
  have ha' : Whole i (sh k (val64 a)) := ha
  rw [e1] at ha' ⊢
  have e : quotient b64 (.fin s c q) (.fin false (2 ^ 52) (m - 52)) = Core.round b64 (.fin s c (q - m)) := by
    show (if (2 : Nat) ^ 52 = 0 then (if c = 0 then Datum.nan else .inf (s != false)) else roundRatio b64 (s != false) c (2 ^ 52) (q - (m - 52))) = roundRatio b64 s c 1 (q - m)
    rw [if_neg (by decide), show (s != false) = s by cases s <;> rfl]
    refine roundRatio_congr (by decide) (by decide) ?_
    rw [show (q - (m - 52) - (q - m)).toNat = 52 by omega, show (q - m - (q - (m - 52))).toNat = 0 by omega]
    simp
  rw [e]
  refine Dy.round ?_ h h1 h2
  show Whole i (.fin s c (q - m - (k - m)))
  rw [show q - m - (k - m) = q - k by omega]
  exact ha'
theorem askY_lt {k i j : Int} {a b : UInt64} (ha : DY k i a) (hb : DY k j b) (o : CmpOp) : ifCond.holds .lt (cmpValue (FP.dcmp a b) o) = decide (i < j) := by
  rw [DY.cmp ha hb, h_lt]; exact decide_eq_decide.mpr cI_lt
theorem askY_ge {k i j : Int} {a b : UInt64} (ha : DY k i a) (hb : DY k j b) (o : CmpOp) : ifCond.holds .ge (cmpValue (FP.dcmp a b) o) = decide (j ≤ i) := by
  rw [DY.cmp ha hb, h_ge]; exact decide_eq_decide.mpr cI_ge
theorem askY_gt {k i j : Int} {a b : UInt64} (ha : DY k i a) (hb : DY k j b) (o : CmpOp) : ifCond.holds .gt (cmpValue (FP.dcmp a b) o) = decide (j < i) := by
  rw [DY.cmp ha hb, h_gt]; exact decide_eq_decide.mpr cI_gt
theorem askY_le {k i j : Int} {a b : UInt64} (ha : DY k i a) (hb : DY k j b) (o : CmpOp) : ifCond.holds .le (cmpValue (FP.dcmp a b) o) = decide (i ≤ j) := by
  rw [DY.cmp ha hb, h_le]; exact decide_eq_decide.mpr cI_le
theorem askY_eq {k i j : Int} {a b : UInt64} (ha : DY k i a) (hb : DY k j b) (o : CmpOp) : ifCond.holds .eq (cmpValue (FP.dcmp a b) o) = decide (i = j) := by
  rw [DY.cmp ha hb, h_eq]; exact decide_eq_decide.mpr cI_eq
theorem askY_ne {k i j : Int} {a b : UInt64} (ha : DY k i a) (hb : DY k j b) (o : CmpOp) : ifCond.holds .ne (cmpValue (FP.dcmp a b) o) = decide (i ≠ j) := by
  rw [DY.cmp ha hb, h_ne]; exact decide_eq_decide.mpr (not_congr cI_eq)
theorem DY.zero (k : Int) : DY k 0 0 := by
  show Whole 0 (sh k (val64 0))
  rw [show val64 0 = .fin false 0 (-1074) by decide +kernel]
  show signed false (0 * _) = 0 * _
  rw [Nat.zero_mul, Int.zero_mul]; rfl
theorem DI.fin64 {i : Int} {a : UInt64} (h : DI i a) : Jvm.Free.Fl.Fin64 a := (DY.of_DI h).fin64
/-- what isFinite asks -/
theorem ask_fin {a : UInt64} (h : Jvm.Free.Fl.Fin64 a) : ifCond.holds .gt (cmpValue (FP.dcmp (a &&& 0x7fffffffffffffff) 9218868437227405311) .g) = false := by
  have q := (Jvm.Free.Fl.le_max_iff h.noNaN).mpr h
  have q' : Jvm.Free.Fl.relLe (FP.dcmp (a &&& 0x7fffffffffffffff) 9218868437227405311) = true := q
  revert q'
  generalize FP.dcmp (a &&& 0x7fffffffffffffff) 9218868437227405311 = r
  intro q'
  rcases r with _ | (_ | _ | _)
  · exact absurd q' (by decide)
  · decide
  · decide
  · exact absurd q' (by decide)
theorem notNaN_fin {a : UInt64} (h : Jvm.Free.Fl.Fin64 a) : (!FP.dIsNaN a) = true := by
  rw [show FP.dIsNaN a = false from Jvm.Free.Fl.noNaN64_no.mp h.noNaN]; rfl
/-- the half of an int -/
theorem DY.half (x : Int32) : DY (-1) x.toInt (FP.ddiv (FP.i2d x) 4611686018427387904) := by
  have h1 := Int32.toInt_lt x
  have h2 := Int32.le_toInt x
  exact (DY.of_DI (DI.i2d x)).div2 (m := 1) (by decide +kernel) (by omega) (by decide) (by decide)
theorem leading1 {n : Nat} (h : 0 < n) : leading n 1 = (n.log2 : Int) := by
  unfold leading
  have h1 : Nat.log2 1 = 0 := by decide
  have h2 : 2 ^ n.log2 ≤ n := Nat.log2_self_le (by omega)
  simp only [h1]
  rw [if_pos]
  · omega
  · rw [show ((n.log2 : Int) - ((0 : Nat) : Int)).toNat = n.log2 by omega, show (-((n.log2 : Int) - ((0 : Nat) : Int))).toNat = 0 by omega]
    omega
/-- the rounding of n * 2^k is that of n, shifted -/
theorem round_sh (s : Bool) {n : Nat} (h : 0 < n) (hn : n < 2 ^ 64) {k : Int} (h1 : -900 ≤ k) (h2 : k ≤ 900) : ∃ c q, c < 2 ^ 53 ∧ -60 ≤ q ∧ q ≤ 20 ∧ roundRatio b64 s n 1 k = .fin s c (q + k) ∧ roundRatio b64 s n 1 0 = .fin s c q := by
  have l3 : n.log2 < 64 := (Nat.log2_lt (by omega)).mpr hn
  have Q1 : b64.qmin = -1074 := by decide
  have Q2 : b64.qmax = 971 := by decide
  have P : (b64.p : Int) = 53 := by decide
  have P2 : (2 : Nat) ^ b64.p = 2 ^ 53 := rfl
  have T : b64.tails = 2 ^ 52 := by decide
  have qu : ∀ j : Int, -900 ≤ j → j ≤ 900 → quantum b64 n 1 j = (n.log2 : Int) - 52 + j := by
    intro j _ _
    unfold quantum
    rw [leading1 h, Q1, P]
    omega
  have key : ∀ j : Int, -900 ≤ j → j ≤ 900 → roundRatio b64 s n 1 j = settle b64 s (nearest (unitsNum n 0 ((n.log2 : Int) - 52)) (unitsDen 1 0 ((n.log2 : Int) - 52))) ((n.log2 : Int) - 52 + j) := by
    intro j a b
    unfold roundRatio
    rw [if_neg (by omega), qu j a b]
    unfold roundAt unitsNum unitsDen
    rw [show j - ((n.log2 : Int) - 52 + j) = 0 - ((n.log2 : Int) - 52) by omega, show (n.log2 : Int) - 52 + j - j = (n.log2 : Int) - 52 - 0 by omega]
  rw [key k h1 h2, key 0 (by decide) (by decide)]
  generalize nearest (unitsNum n 0 ((n.log2 : Int) - 52)) (unitsDen 1 0 ((n.log2 : Int) - 52)) = c
  unfold settle
  rw [P2]
  by_cases hc : c < 2 ^ 53
  · refine ⟨c, (n.log2 : Int) - 52, hc, by omega, by omega, ?_, ?_⟩
    · rw [if_pos hc]; unfold bound; rw [if_pos (by rw [Q2]; omega)]
    · rw [if_pos hc]; unfold bound; rw [if_pos (by rw [Q2]; omega), Int.add_zero]
  · refine ⟨2 ^ 52, (n.log2 : Int) - 51, by decide, by omega, by omega, ?_, ?_⟩
    · rw [if_neg hc]; unfold bound; rw [if_pos (by rw [Q2]; omega), T, show (n.log2 : Int) - 52 + k + 1 = (n.log2 : Int) - 51 + k by omega]
    · rw [if_neg hc]; unfold bound; rw [if_pos (by rw [Q2]; omega), T, show (n.log2 : Int) - 52 + 0 + 1 = (n.log2 : Int) - 51 by omega]
theorem Dy.round_val {k i : Int} {d : Datum} (h : Dy k i d) (h0 : i ≠ 0) : Core.round b64 d = roundRatio b64 (decide (i < 0)) i.natAbs 1 k := by
  obtain ⟨s, c, q, rfl⟩ := h.fin
  have hw : Whole i (.fin s c (q - k)) := h
  have hn := whole_natAbs hw
  have hs := whole_sign hw h0
  rw [← hs]
  refine roundRatio_congr (by decide) (by decide) ?_
  rw [show (-(q - k)).toNat = (k - q).toNat by omega] at hn
  simpa using hn
theorem dy_self (s : Bool) (c : Nat) (q : Int) : Dy q (signed s c) (.fin s c q) := by
  show signed s (c * 2 ^ (q - q).toNat) = signed s c * ((2 ^ (-(q - q)).toNat : Nat) : Int)
  rw [show (q - q).toNat = 0 by omega, show (-(q - q)).toNat = 0 by omega]
  simp
/-- a long, rounded, then divided by a power of two: as if the sum of i * 2^-m were rounded -/
theorem DY.two_ways {x : Int64} {m p' q' : Int} {a b p : UInt64} (ha : DY (-m) p' a) (hb : DY (-m) q' b) (hs : p' + q' = x.toInt) (hp : val64 p = .fin false (2 ^ 52) (m - 52)) (h1 : 0 ≤ m) (h2 : m ≤ 800) : ∃ k j, DY k j (FP.dadd a b) ∧ DY k j (FP.ddiv (FP.l2d x) p) := by
  have b1 := Int64.toInt_lt x
  have b2 := Int64.le_toInt x
  by_cases h53 : x.toInt.natAbs ≤ 2 ^ 53
  · refine ⟨-m, x.toInt, ?_, ?_⟩
    · rw [← hs]; exact ha.add hb (by rw [hs]; exact h53) (by omega) (by omega)
    · have := (DY.of_DI (Core.l2d_int h53)).div2 hp h53 (by omega) (by omega)
      rw [show (0 : Int) - m = -m by omega] at this
      exact this
  · have h0 : x.toInt ≠ 0 := by intro q; rw [q] at h53; exact h53 (by decide)
    obtain ⟨c, q, hc, q1, q2, e1, e2⟩ := round_sh (decide (x.toInt < 0)) (n := x.toInt.natAbs) (by omega) (by omega) (k := -m) (by omega) (by omega)
    refine ⟨q - m, signed (decide (x.toInt < 0)) c, ?_, ?_⟩
    · show Dy (q - m) _ (val64 (Core.dadd a b))
      rw [val64_dadd]
      have hd : Dy (-m) x.toInt (exactSum (val64 a) (val64 b)) := by
        show Whole _ (sh _ _)
        rw [sh_sum, ← hs]
        exact whole_sum ha hb
      rw [hd.round_val h0, e1, show q + -m = q - m by omega]
      exact dy_self _ _ _
    · have hl : DY q (signed (decide (x.toInt < 0)) c) (FP.l2d x) := by
        show Dy q _ (val64 (Core.l2d x))
        rw [val64_l2d]
        have hd : Dy 0 x.toInt (ofInt x.toInt) := by
          show Whole _ (.fin _ _ (0 - 0))
          exact whole_ofInt _
        rw [hd.round_val h0, e2]
        exact dy_self _ _ _
      refine hl.div2 hp ?_ (by omega) (by omega)
      rw [natAbs_signed]; omega
end Dyadic
end Jvm.Own
namespace Jvm.Pilot.@@N@@
open Jvm Jvm.ClassFile Sem Op Lib Jvm.Free Jvm.Stand Jvm.LawKit Jvm.RoadKit Bundle Jvm.Pilot.@@N@@.Jvm.D Jvm.Own
/-- 0: the code of law -/
def c_0 : List (Nat × List (Nat × Ent)) := [(10, [(0, (.iload_n 0), none, [], .null), (1, (.ldc 7), none, [], (.int (2147483647))), (3, (.iand), none, [], .null), (4, (.bipush 7), none, [], .null), (6, (.irem), none, [], .null), (7, (.istore_n 3), some true, [], .null), (8, (.iload_n 3), none, [], .null), (9, (.ifCond .le 13), none, [], .null)]),
  (24, [(12, (.iload_n 1), none, [], .null), (13, (.iconst 1), none, [], .null), (14, (.iand), none, [], .null), (15, (.ifCond .eq 7), none, [], .null), (18, (.iconst 1), none, [], .null), (19, (.goto 4), none, [], .null), (22, (.iconst 0), none, [], .null), (23, (.istore 4), none, [], .null)]),
  (37, [(25, (.iload_n 3), none, [], .null), (26, (.iconst 1), none, [], .null), (27, (.if_icmp .le 13), none, [], .null), (30, (.iload_n 1), none, [], .null), (31, (.iconst 2), none, [], .null), (32, (.iand), none, [], .null), (33, (.ifCond .eq 7), none, [], .null), (36, (.iconst 1), none, [], .null)]),
  (50, [(37, (.goto 4), none, [], .null), (40, (.iconst 0), none, [], .null), (41, (.istore 5), none, [], .null), (43, (.iload_n 3), none, [], .null), (44, (.iconst 2), none, [], .null), (45, (.if_icmp .le 13), none, [], .null), (48, (.iload_n 1), none, [], .null), (49, (.iconst 4), none, [], .null)]),
  (63, [(50, (.iand), none, [], .null), (51, (.ifCond .eq 7), none, [], .null), (54, (.iconst 1), none, [], .null), (55, (.goto 4), none, [], .null), (58, (.iconst 0), none, [], .null), (59, (.istore 6), none, [], .null), (61, (.iload_n 3), none, [], .null), (62, (.iconst 3), none, [], .null)]),
  (78, [(63, (.if_icmp .le 14), none, [], .null), (66, (.iload_n 1), none, [], .null), (67, (.bipush 8), none, [], .null), (69, (.iand), none, [], .null), (70, (.ifCond .eq 7), none, [], .null), (73, (.iconst 1), none, [], .null), (74, (.goto 4), none, [], .null), (77, (.iconst 0), none, [], .null)]),
  (90, [(78, (.istore 7), none, [], .null), (80, (.iload_n 3), none, [], .null), (81, (.iconst 4), none, [], .null), (82, (.if_icmp .le 14), none, [], .null), (85, (.iload_n 1), none, [], .null), (86, (.bipush 16), none, [], .null), (88, (.iand), none, [], .null), (89, (.ifCond .eq 7), none, [], .null)]),
  (105, [(92, (.iconst 1), none, [], .null), (93, (.goto 4), none, [], .null), (96, (.iconst 0), none, [], .null), (97, (.istore 8), none, [], .null), (99, (.iload_n 3), none, [], .null), (100, (.iconst 5), none, [], .null), (101, (.if_icmp .le 14), none, [], .null), (104, (.iload_n 1), none, [], .null)]),
  (119, [(105, (.bipush 32), none, [], .null), (107, (.iand), none, [], .null), (108, (.ifCond .eq 7), none, [], .null), (111, (.iconst 1), none, [], .null), (112, (.goto 4), none, [], .null), (115, (.iconst 0), none, [], .null), (116, (.istore 9), none, [], .null), (118, (.iload_n 3), none, [], .null)]),
  (133, [(119, (.newarray .boolean), none, [3], .null), (121, (.astore 10), none, [], .null), (123, (.iload_n 3), none, [], .null), (124, (.ifCond .le 9), none, [], .null), (127, (.aload 10), none, [], .null), (129, (.iconst 0), none, [], .null), (130, (.iload 4), none, [], .null), (132, (.bastore), none, [], .null)]),
  (145, [(133, (.iload_n 3), none, [], .null), (134, (.iconst 1), none, [], .null), (135, (.if_icmp .le 9), none, [], .null), (138, (.aload 10), none, [], .null), (140, (.iconst 1), none, [], .null), (141, (.iload 5), none, [], .null), (143, (.bastore), none, [], .null), (144, (.iload_n 3), none, [], .null)]),
  (157, [(145, (.iconst 2), none, [], .null), (146, (.if_icmp .le 9), none, [], .null), (149, (.aload 10), none, [], .null), (151, (.iconst 2), none, [], .null), (152, (.iload 6), none, [], .null), (154, (.bastore), none, [], .null), (155, (.iload_n 3), none, [], .null), (156, (.iconst 3), none, [], .null)]),
  (169, [(157, (.if_icmp .le 9), none, [], .null), (160, (.aload 10), none, [], .null), (162, (.iconst 3), none, [], .null), (163, (.iload 7), none, [], .null), (165, (.bastore), none, [], .null), (166, (.iload_n 3), none, [], .null), (167, (.iconst 4), none, [], .null), (168, (.if_icmp .le 9), none, [], .null)]),
  (183, [(171, (.aload 10), none, [], .null), (173, (.iconst 4), none, [], .null), (174, (.iload 8), none, [], .null), (176, (.bastore), none, [], .null), (177, (.iload_n 3), none, [], .null), (178, (.iconst 5), none, [], .null), (179, (.if_icmp .le 9), none, [], .null), (182, (.aload 10), none, [], .null)]),
  (198, [(184, (.iconst 5), none, [], .null), (185, (.iload 9), none, [], .null), (187, (.bastore), none, [], .null), (188, (.iload 4), none, [], .null), (190, (.ifCond .eq 7), none, [], .null), (193, (.iconst 1), none, [], .null), (194, (.goto 4), none, [], .null), (197, (.iconst 0), none, [], .null)]),
  (213, [(198, (.istore 11), none, [], .null), (200, (.iload 11), none, [], .null), (202, (.iload 5), none, [], .null), (204, (.ifCond .eq 7), none, [], .null), (207, (.iconst 1), none, [], .null), (208, (.goto 4), none, [], .null), (211, (.iconst 0), none, [], .null), (212, (.iadd), none, [], .null)]),
  (228, [(213, (.istore 12), none, [], .null), (215, (.iload 12), none, [], .null), (217, (.iload 6), none, [], .null), (219, (.ifCond .eq 7), none, [], .null), (222, (.iconst 1), none, [], .null), (223, (.goto 4), none, [], .null), (226, (.iconst 0), none, [], .null), (227, (.iadd), none, [], .null)]),
  (243, [(228, (.istore 13), none, [], .null), (230, (.iload 13), none, [], .null), (232, (.iload 7), none, [], .null), (234, (.ifCond .eq 7), none, [], .null), (237, (.iconst 1), none, [], .null), (238, (.goto 4), none, [], .null), (241, (.iconst 0), none, [], .null), (242, (.iadd), none, [], .null)]),
  (258, [(243, (.istore 14), none, [], .null), (245, (.iload 14), none, [], .null), (247, (.iload 8), none, [], .null), (249, (.ifCond .eq 7), none, [], .null), (252, (.iconst 1), none, [], .null), (253, (.goto 4), none, [], .null), (256, (.iconst 0), none, [], .null), (257, (.iadd), none, [], .null)]),
  (273, [(258, (.istore 15), none, [], .null), (260, (.iload 15), none, [], .null), (262, (.iload 9), none, [], .null), (264, (.ifCond .eq 7), none, [], .null), (267, (.iconst 1), none, [], .null), (268, (.goto 4), none, [], .null), (271, (.iconst 0), none, [], .null), (272, (.iadd), none, [], .null)]),
  (286, [(273, (.istore 16), none, [], .null), (275, (.iload 16), none, [], .null), (277, (.istore 17), none, [], .null), (279, (.iload 17), none, [], .null), (281, (.iload_n 2), none, [], .null), (282, (.ldc 7), none, [], (.int (2147483647))), (284, (.iand), none, [], .null), (285, (.invokestatic 8), none, [1, 1, 2], .null)]),
  (304, [(288, (.istore 18), none, [], .null), (290, (.new 14), none, [8], .null), (293, (.dup), none, [], .null), (294, (.aload 10), none, [], .null), (296, (.iload 18), none, [], .null), (298, (.invokespecial 16), none, [1, 2, 2], .null), (301, (.astore 19), none, [], .null), (303, (.aload 19), none, [], .null)]),
  (320, [(305, (.invokevirtual 19), none, [1, 0, 8, 3], .null), (308, (.dstore 20), none, [], .null), (310, (.iload 4), none, [], .null), (312, (.ifCond .eq 11), none, [], .null), (315, (.iload 11), none, [], .null), (317, (.i2d), none, [], .null), (318, (.dconst 1), none, [], .null), (319, (.ddiv), none, [], .null)]),
  (335, [(320, (.goto 4), none, [], .null), (323, (.dconst 0), none, [], .null), (324, (.dstore 22), none, [], .null), (326, (.iload 5), none, [], .null), (328, (.ifCond .eq 13), none, [], .null), (331, (.iload 12), none, [], .null), (333, (.i2d), none, [], .null), (334, (.ldc2_w 23), none, [], (.double (4611686018427387904)))]),
  (352, [(337, (.ddiv), none, [], .null), (338, (.goto 4), none, [], .null), (341, (.dconst 0), none, [], .null), (342, (.dstore 24), none, [], .null), (344, (.iload 6), none, [], .null), (346, (.ifCond .eq 13), none, [], .null), (349, (.iload 13), none, [], .null), (351, (.i2d), none, [], .null)]),
  (368, [(352, (.ldc2_w 25), none, [], (.double (4613937818241073152))), (355, (.ddiv), none, [], .null), (356, (.goto 4), none, [], .null), (359, (.dconst 0), none, [], .null), (360, (.dstore 26), none, [], .null), (362, (.iload 7), none, [], .null), (364, (.ifCond .eq 13), none, [], .null), (367, (.iload 14), none, [], .null)]),
  (383, [(369, (.i2d), none, [], .null), (370, (.ldc2_w 27), none, [], (.double (4616189618054758400))), (373, (.ddiv), none, [], .null), (374, (.goto 4), none, [], .null), (377, (.dconst 0), none, [], .null), (378, (.dstore 28), none, [], .null), (380, (.iload 8), none, [], .null), (382, (.ifCond .eq 13), none, [], .null)]),
  (399, [(385, (.iload 15), none, [], .null), (387, (.i2d), none, [], .null), (388, (.ldc2_w 29), none, [], (.double (4617315517961601024))), (391, (.ddiv), none, [], .null), (392, (.goto 4), none, [], .null), (395, (.dconst 0), none, [], .null), (396, (.dstore 30), none, [], .null), (398, (.iload 9), none, [], .null)]),
  (415, [(400, (.ifCond .eq 13), none, [], .null), (403, (.iload 16), none, [], .null), (405, (.i2d), none, [], .null), (406, (.ldc2_w 31), none, [], (.double (4618441417868443648))), (409, (.ddiv), none, [], .null), (410, (.goto 4), none, [], .null), (413, (.dconst 0), none, [], .null), (414, (.dstore 32), none, [], .null)]),
  (427, [(416, (.dconst 0), none, [], .null), (417, (.dload 22), none, [], .null), (419, (.dadd), none, [], .null), (420, (.dload 24), none, [], .null), (422, (.dadd), none, [], .null), (423, (.dload 26), none, [], .null), (425, (.dadd), none, [], .null), (426, (.dload 28), none, [], .null)]),
  (440, [(428, (.dadd), none, [], .null), (429, (.dload 30), none, [], .null), (431, (.dadd), none, [], .null), (432, (.dload 32), none, [], .null), (434, (.dadd), none, [], .null), (435, (.dstore 34), none, [], .null), (437, (.iload 17), none, [], .null), (439, (.ifCond .ne 7), none, [], .null)]),
  (455, [(442, (.dconst 0), none, [], .null), (443, (.goto 9), none, [], .null), (446, (.dload 34), none, [], .null), (448, (.iload 18), none, [], .null), (450, (.i2d), none, [], .null), (451, (.ddiv), none, [], .null), (452, (.dstore 36), none, [], .null), (454, (.dload 20), none, [], .null)]),
  (468, [(456, (.dload 36), none, [], .null), (458, (.dcmp .l), none, [], .null), (459, (.ifCond .ne 7), none, [], .null), (462, (.iconst 1), none, [], .null), (463, (.goto 4), none, [], .null), (466, (.iconst 0), none, [], .null), (467, (.ireturn), none, [], .null)])]
/-- 1: the code of max -/
def c_1 : List (Nat × List (Nat × Ent)) := [(11, [(0, (.iload_n 0), none, [], .null), (1, (.iload_n 1), none, [], .null), (2, (.if_icmp .lt 7), none, [7], .null), (5, (.iload_n 0), none, [], .null), (6, (.goto 4), none, [], .null), (9, (.iload_n 1), none, [], .null), (10, (.ireturn), none, [], .null)])]
/-- 2: the code of init -/
def c_2 : List (Nat × List (Nat × Ent)) := [(12, [(0, (.aload_n 0), none, [], .null), (1, (.invokespecial 1), none, [0], .null), (4, (.aload_n 0), none, [], .null), (5, (.aload_n 1), none, [], .null), (6, (.putfield 7), none, [8, 0, 3], .null), (9, (.aload_n 0), none, [], .null), (10, (.iload_n 2), none, [], .null), (11, (.putfield 13), none, [8, 1, 0], .null)]),
  (15, [(14, (.return_), none, [], .null)])]
/-- 3: the code of averagePrecision -/
def c_3 : List (Nat × List (Nat × Ent)) := [(10, [(0, (.dconst 0), none, [], .null), (1, (.dstore_n 1), none, [], .null), (2, (.iconst 0), none, [], .null), (3, (.istore_n 3), none, [], .null), (4, (.iconst 1), none, [], .null), (5, (.istore 4), none, [], .null), (7, (.iload 4), none, [], .null), (9, (.aload_n 0), none, [], .null)]),
  (25, [(10, (.getfield 7), none, [8, 0], .null), (13, (.arraylength), none, [], .null), (14, (.if_icmp .gt 33), none, [], .null), (17, (.aload_n 0), none, [], .null), (18, (.getfield 7), none, [8, 0], .null), (21, (.iload 4), none, [], .null), (23, (.iconst 1), none, [], .null), (24, (.isub), none, [], .null)]),
  (38, [(25, (.baload), none, [], .null), (26, (.ifCond .eq 15), none, [], .null), (29, (.iinc 3 1), none, [], .null), (32, (.dload_n 1), none, [], .null), (33, (.iload_n 3), none, [], .null), (34, (.i2d), none, [], .null), (35, (.iload 4), none, [], .null), (37, (.i2d), none, [], .null)]),
  (52, [(38, (.ddiv), none, [], .null), (39, (.dadd), none, [], .null), (40, (.dstore_n 1), none, [], .null), (41, (.iinc 4 1), none, [], .null), (44, (.goto (-37)), none, [], .null), (47, (.iload_n 3), none, [], .null), (48, (.ifCond .ne 5), none, [], .null), (51, (.dconst 0), none, [], .null)]),
  (61, [(52, (.dreturn), none, [], .null), (53, (.dload_n 1), none, [], .null), (54, (.aload_n 0), none, [], .null), (55, (.getfield 13), none, [8, 1], .null), (58, (.i2d), none, [], .null), (59, (.ddiv), none, [], .null), (60, (.dreturn), none, [], .null)])]
def nm_ : Nat → MethodName
  | 0 => x
  | 1 => ⟨"java/lang/Math", "max", "(II)I"⟩
  | 2 => ⟨"com/example/brendan/brendan/eval/JudgedRanking", "<init>", "([ZI)V"⟩
  | 3 => ⟨"com/example/brendan/brendan/eval/JudgedRanking", "averagePrecision", "()D"⟩
  | _ => x
def by_ : Nat → ByteArray
  | 0 => code
  | 1 => jdk_29_method_65_code
  | 2 => prog_10_method_1_code
  | 3 => prog_10_method_5_code
  | _ => code
def ml_ : Nat → Nat
  | 0 => 38
  | 1 => 2
  | 2 => 3
  | 3 => 5
  | _ => 0
def rt_ : Nat → Option FieldType
  | 0 => some .boolean
  | 1 => (some Jvm.ClassFile.FieldType.int)
  | 2 => none
  | 3 => (some Jvm.ClassFile.FieldType.double)
  | _ => none
def code_ : Nat → Nat → Option Ent
  | 0, pc => fetch2 c_0 pc
  | 1, pc => fetch2 c_1 pc
  | 2, pc => fetch2 c_2 pc
  | 3, pc => fetch2 c_3 pc
  | _, _ => none
def kc_ : KTy
  | 8 => some ("com/example/brendan/brendan/eval/JudgedRanking", [("com/example/brendan/brendan/eval/JudgedRanking", "relevantAtRank", "[Z", (.array .boolean)), ("com/example/brendan/brendan/eval/JudgedRanking", "relevant", "I", .int)])
  | _ => none
def kd_ : Nat → List Value × Nat
  | 8 => ([.null, .int 0], 2)
  | _ => ([], 0)
def ext_ : Nat → List Value → Option (Bool × Value)
  | _, _ => none
def exw_ : Nat → Nat × Nat
  | _ => (0, 0)
def E_ : EV := (code_, ml_, rt_, kd_, ext_, exw_, 0)
def sl_ : SL := []
theorem pl_0 : plainFor (nm_ 0) = true := plainFor_of_name (by first | (simp [plainName, overriddenIn, nm_, x]; done) | decide +kernel)
theorem pl_1 : plainFor (nm_ 1) = true := Jvm.Free.JP.mathPlain rfl (by decide +kernel)
theorem pl_2 : plainFor (nm_ 2) = true := plainFor_of_name (by first | (simp [plainName, overriddenIn, nm_, x]; done) | decide +kernel)
theorem pl_3 : plainFor (nm_ 3) = true := plainFor_of_name (by first | (simp [plainName, overriddenIn, nm_, x]; done) | decide +kernel)
def Vd (Z : State) (a0 : Array Value) (M : Nat) (q : Nat × Ent) : Prop := VI Z a0 kc_ sl_ E_.2.2.2.1 E_.2.2.2.2.1 E_.2.2.2.2.2.1 (nm_ M).cls (nm_ M).name q.2.1 q.2.2.2.1 q.2.2.2.2 ∧ VC Z a0 kc_ E_ nm_ by_ (nm_ M).cls q.2.1 q.2.2.2.1
set_option maxRecDepth 65536 in
theorem dc_0 : ∀ ch ∈ c_0, ∀ q ∈ ch.2, decode (by_ 0) q.1 = .ok (q.2.1, ilen q.2.1) := by decide +kernel
set_option maxRecDepth 65536 in
theorem v_0 {Z : State} {a0 : Array Value} (hw : ∀ d ∈ tables_1, d.before a0 Z = true) : ∀ ch ∈ c_0, ∀ q ∈ ch.2, Vd Z a0 0 q :=
  fc (P := fun ch : Nat × List (Nat × Ent) => ∀ q ∈ ch.2, Vd Z a0 0 q) (fc (P := fun q => Vd Z a0 0 q) ⟨trivial, trivial⟩
    (fc (P := fun q => Vd Z a0 0 q) ⟨(hw _ (List.mem_of_getElem? (i := 0) rfl)), trivial⟩
    (fc (P := fun q => Vd Z a0 0 q) ⟨trivial, trivial⟩
    (fc (P := fun q => Vd Z a0 0 q) ⟨trivial, trivial⟩
    (fc (P := fun q => Vd Z a0 0 q) ⟨trivial, trivial⟩
    (fc (P := fun q => Vd Z a0 0 q) ⟨trivial, trivial⟩
    (fc (P := fun q => Vd Z a0 0 q) ⟨trivial, trivial⟩
    (fc (P := fun q => Vd Z a0 0 q) ⟨trivial, trivial⟩
    (fn)))))))))
  (fc (P := fun ch : Nat × List (Nat × Ent) => ∀ q ∈ ch.2, Vd Z a0 0 q) (fc (P := fun q => Vd Z a0 0 q) ⟨trivial, trivial⟩
    (fc (P := fun q => Vd Z a0 0 q) ⟨trivial, trivial⟩
    (fc (P := fun q => Vd Z a0 0 q) ⟨trivial, trivial⟩
    (fc (P := fun q => Vd Z a0 0 q) ⟨trivial, trivial⟩
    (fc (P := fun q => Vd Z a0 0 q) ⟨trivial, trivial⟩
    (fc (P := fun q => Vd Z a0 0 q) ⟨trivial, trivial⟩
    (fc (P := fun q => Vd Z a0 0 q) ⟨trivial, trivial⟩
    (fc (P := fun q => Vd Z a0 0 q) ⟨trivial, trivial⟩
    (fn)))))))))
  (fc (P := fun ch : Nat × List (Nat × Ent) => ∀ q ∈ ch.2, Vd Z a0 0 q) (fc (P := fun q => Vd Z a0 0 q) ⟨trivial, trivial⟩
    (fc (P := fun q => Vd Z a0 0 q) ⟨trivial, trivial⟩
    (fc (P := fun q => Vd Z a0 0 q) ⟨trivial, trivial⟩
    (fc (P := fun q => Vd Z a0 0 q) ⟨trivial, trivial⟩
    (fc (P := fun q => Vd Z a0 0 q) ⟨trivial, trivial⟩
    (fc (P := fun q => Vd Z a0 0 q) ⟨trivial, trivial⟩
    (fc (P := fun q => Vd Z a0 0 q) ⟨trivial, trivial⟩
    (fc (P := fun q => Vd Z a0 0 q) ⟨trivial, trivial⟩
    (fn)))))))))
  (fc (P := fun ch : Nat × List (Nat × Ent) => ∀ q ∈ ch.2, Vd Z a0 0 q) (fc (P := fun q => Vd Z a0 0 q) ⟨trivial, trivial⟩
    (fc (P := fun q => Vd Z a0 0 q) ⟨trivial, trivial⟩
    (fc (P := fun q => Vd Z a0 0 q) ⟨trivial, trivial⟩
    (fc (P := fun q => Vd Z a0 0 q) ⟨trivial, trivial⟩
    (fc (P := fun q => Vd Z a0 0 q) ⟨trivial, trivial⟩
    (fc (P := fun q => Vd Z a0 0 q) ⟨trivial, trivial⟩
    (fc (P := fun q => Vd Z a0 0 q) ⟨trivial, trivial⟩
    (fc (P := fun q => Vd Z a0 0 q) ⟨trivial, trivial⟩
    (fn)))))))))
  (fc (P := fun ch : Nat × List (Nat × Ent) => ∀ q ∈ ch.2, Vd Z a0 0 q) (fc (P := fun q => Vd Z a0 0 q) ⟨trivial, trivial⟩
    (fc (P := fun q => Vd Z a0 0 q) ⟨trivial, trivial⟩
    (fc (P := fun q => Vd Z a0 0 q) ⟨trivial, trivial⟩
    (fc (P := fun q => Vd Z a0 0 q) ⟨trivial, trivial⟩
    (fc (P := fun q => Vd Z a0 0 q) ⟨trivial, trivial⟩
    (fc (P := fun q => Vd Z a0 0 q) ⟨trivial, trivial⟩
    (fc (P := fun q => Vd Z a0 0 q) ⟨trivial, trivial⟩
    (fc (P := fun q => Vd Z a0 0 q) ⟨trivial, trivial⟩
    (fn)))))))))
  (fc (P := fun ch : Nat × List (Nat × Ent) => ∀ q ∈ ch.2, Vd Z a0 0 q) (fc (P := fun q => Vd Z a0 0 q) ⟨trivial, trivial⟩
    (fc (P := fun q => Vd Z a0 0 q) ⟨trivial, trivial⟩
    (fc (P := fun q => Vd Z a0 0 q) ⟨trivial, trivial⟩
    (fc (P := fun q => Vd Z a0 0 q) ⟨trivial, trivial⟩
    (fc (P := fun q => Vd Z a0 0 q) ⟨trivial, trivial⟩
    (fc (P := fun q => Vd Z a0 0 q) ⟨trivial, trivial⟩
    (fc (P := fun q => Vd Z a0 0 q) ⟨trivial, trivial⟩
    (fc (P := fun q => Vd Z a0 0 q) ⟨trivial, trivial⟩
    (fn)))))))))
  (fc (P := fun ch : Nat × List (Nat × Ent) => ∀ q ∈ ch.2, Vd Z a0 0 q) (fc (P := fun q => Vd Z a0 0 q) ⟨trivial, trivial⟩
    (fc (P := fun q => Vd Z a0 0 q) ⟨trivial, trivial⟩
    (fc (P := fun q => Vd Z a0 0 q) ⟨trivial, trivial⟩
    (fc (P := fun q => Vd Z a0 0 q) ⟨trivial, trivial⟩
    (fc (P := fun q => Vd Z a0 0 q) ⟨trivial, trivial⟩
    (fc (P := fun q => Vd Z a0 0 q) ⟨trivial, trivial⟩
    (fc (P := fun q => Vd Z a0 0 q) ⟨trivial, trivial⟩
    (fc (P := fun q => Vd Z a0 0 q) ⟨trivial, trivial⟩
    (fn)))))))))
  (fc (P := fun ch : Nat × List (Nat × Ent) => ∀ q ∈ ch.2, Vd Z a0 0 q) (fc (P := fun q => Vd Z a0 0 q) ⟨trivial, trivial⟩
    (fc (P := fun q => Vd Z a0 0 q) ⟨trivial, trivial⟩
    (fc (P := fun q => Vd Z a0 0 q) ⟨trivial, trivial⟩
    (fc (P := fun q => Vd Z a0 0 q) ⟨trivial, trivial⟩
    (fc (P := fun q => Vd Z a0 0 q) ⟨trivial, trivial⟩
    (fc (P := fun q => Vd Z a0 0 q) ⟨trivial, trivial⟩
    (fc (P := fun q => Vd Z a0 0 q) ⟨trivial, trivial⟩
    (fc (P := fun q => Vd Z a0 0 q) ⟨trivial, trivial⟩
    (fn)))))))))
  (fc (P := fun ch : Nat × List (Nat × Ent) => ∀ q ∈ ch.2, Vd Z a0 0 q) (fc (P := fun q => Vd Z a0 0 q) ⟨trivial, trivial⟩
    (fc (P := fun q => Vd Z a0 0 q) ⟨trivial, trivial⟩
    (fc (P := fun q => Vd Z a0 0 q) ⟨trivial, trivial⟩
    (fc (P := fun q => Vd Z a0 0 q) ⟨trivial, trivial⟩
    (fc (P := fun q => Vd Z a0 0 q) ⟨trivial, trivial⟩
    (fc (P := fun q => Vd Z a0 0 q) ⟨trivial, trivial⟩
    (fc (P := fun q => Vd Z a0 0 q) ⟨trivial, trivial⟩
    (fc (P := fun q => Vd Z a0 0 q) ⟨trivial, trivial⟩
    (fn)))))))))
  (fc (P := fun ch : Nat × List (Nat × Ent) => ∀ q ∈ ch.2, Vd Z a0 0 q) (fc (P := fun q => Vd Z a0 0 q) ⟨⟨(hw _ (List.mem_of_getElem? (i := 1) rfl)), rfl⟩, trivial⟩
    (fc (P := fun q => Vd Z a0 0 q) ⟨trivial, trivial⟩
    (fc (P := fun q => Vd Z a0 0 q) ⟨trivial, trivial⟩
    (fc (P := fun q => Vd Z a0 0 q) ⟨trivial, trivial⟩
    (fc (P := fun q => Vd Z a0 0 q) ⟨trivial, trivial⟩
    (fc (P := fun q => Vd Z a0 0 q) ⟨trivial, trivial⟩
    (fc (P := fun q => Vd Z a0 0 q) ⟨trivial, trivial⟩
    (fc (P := fun q => Vd Z a0 0 q) ⟨trivial, trivial⟩
    (fn)))))))))
  (fc (P := fun ch : Nat × List (Nat × Ent) => ∀ q ∈ ch.2, Vd Z a0 0 q) (fc (P := fun q => Vd Z a0 0 q) ⟨trivial, trivial⟩
    (fc (P := fun q => Vd Z a0 0 q) ⟨trivial, trivial⟩
    (fc (P := fun q => Vd Z a0 0 q) ⟨trivial, trivial⟩
    (fc (P := fun q => Vd Z a0 0 q) ⟨trivial, trivial⟩
    (fc (P := fun q => Vd Z a0 0 q) ⟨trivial, trivial⟩
    (fc (P := fun q => Vd Z a0 0 q) ⟨trivial, trivial⟩
    (fc (P := fun q => Vd Z a0 0 q) ⟨trivial, trivial⟩
    (fc (P := fun q => Vd Z a0 0 q) ⟨trivial, trivial⟩
    (fn)))))))))
  (fc (P := fun ch : Nat × List (Nat × Ent) => ∀ q ∈ ch.2, Vd Z a0 0 q) (fc (P := fun q => Vd Z a0 0 q) ⟨trivial, trivial⟩
    (fc (P := fun q => Vd Z a0 0 q) ⟨trivial, trivial⟩
    (fc (P := fun q => Vd Z a0 0 q) ⟨trivial, trivial⟩
    (fc (P := fun q => Vd Z a0 0 q) ⟨trivial, trivial⟩
    (fc (P := fun q => Vd Z a0 0 q) ⟨trivial, trivial⟩
    (fc (P := fun q => Vd Z a0 0 q) ⟨trivial, trivial⟩
    (fc (P := fun q => Vd Z a0 0 q) ⟨trivial, trivial⟩
    (fc (P := fun q => Vd Z a0 0 q) ⟨trivial, trivial⟩
    (fn)))))))))
  (fc (P := fun ch : Nat × List (Nat × Ent) => ∀ q ∈ ch.2, Vd Z a0 0 q) (fc (P := fun q => Vd Z a0 0 q) ⟨trivial, trivial⟩
    (fc (P := fun q => Vd Z a0 0 q) ⟨trivial, trivial⟩
    (fc (P := fun q => Vd Z a0 0 q) ⟨trivial, trivial⟩
    (fc (P := fun q => Vd Z a0 0 q) ⟨trivial, trivial⟩
    (fc (P := fun q => Vd Z a0 0 q) ⟨trivial, trivial⟩
    (fc (P := fun q => Vd Z a0 0 q) ⟨trivial, trivial⟩
    (fc (P := fun q => Vd Z a0 0 q) ⟨trivial, trivial⟩
    (fc (P := fun q => Vd Z a0 0 q) ⟨trivial, trivial⟩
    (fn)))))))))
  (fc (P := fun ch : Nat × List (Nat × Ent) => ∀ q ∈ ch.2, Vd Z a0 0 q) (fc (P := fun q => Vd Z a0 0 q) ⟨trivial, trivial⟩
    (fc (P := fun q => Vd Z a0 0 q) ⟨trivial, trivial⟩
    (fc (P := fun q => Vd Z a0 0 q) ⟨trivial, trivial⟩
    (fc (P := fun q => Vd Z a0 0 q) ⟨trivial, trivial⟩
    (fc (P := fun q => Vd Z a0 0 q) ⟨trivial, trivial⟩
    (fc (P := fun q => Vd Z a0 0 q) ⟨trivial, trivial⟩
    (fc (P := fun q => Vd Z a0 0 q) ⟨trivial, trivial⟩
    (fc (P := fun q => Vd Z a0 0 q) ⟨trivial, trivial⟩
    (fn)))))))))
  (fc (P := fun ch : Nat × List (Nat × Ent) => ∀ q ∈ ch.2, Vd Z a0 0 q) (fc (P := fun q => Vd Z a0 0 q) ⟨trivial, trivial⟩
    (fc (P := fun q => Vd Z a0 0 q) ⟨trivial, trivial⟩
    (fc (P := fun q => Vd Z a0 0 q) ⟨trivial, trivial⟩
    (fc (P := fun q => Vd Z a0 0 q) ⟨trivial, trivial⟩
    (fc (P := fun q => Vd Z a0 0 q) ⟨trivial, trivial⟩
    (fc (P := fun q => Vd Z a0 0 q) ⟨trivial, trivial⟩
    (fc (P := fun q => Vd Z a0 0 q) ⟨trivial, trivial⟩
    (fc (P := fun q => Vd Z a0 0 q) ⟨trivial, trivial⟩
    (fn)))))))))
  (fc (P := fun ch : Nat × List (Nat × Ent) => ∀ q ∈ ch.2, Vd Z a0 0 q) (fc (P := fun q => Vd Z a0 0 q) ⟨trivial, trivial⟩
    (fc (P := fun q => Vd Z a0 0 q) ⟨trivial, trivial⟩
    (fc (P := fun q => Vd Z a0 0 q) ⟨trivial, trivial⟩
    (fc (P := fun q => Vd Z a0 0 q) ⟨trivial, trivial⟩
    (fc (P := fun q => Vd Z a0 0 q) ⟨trivial, trivial⟩
    (fc (P := fun q => Vd Z a0 0 q) ⟨trivial, trivial⟩
    (fc (P := fun q => Vd Z a0 0 q) ⟨trivial, trivial⟩
    (fc (P := fun q => Vd Z a0 0 q) ⟨trivial, trivial⟩
    (fn)))))))))
  (fc (P := fun ch : Nat × List (Nat × Ent) => ∀ q ∈ ch.2, Vd Z a0 0 q) (fc (P := fun q => Vd Z a0 0 q) ⟨trivial, trivial⟩
    (fc (P := fun q => Vd Z a0 0 q) ⟨trivial, trivial⟩
    (fc (P := fun q => Vd Z a0 0 q) ⟨trivial, trivial⟩
    (fc (P := fun q => Vd Z a0 0 q) ⟨trivial, trivial⟩
    (fc (P := fun q => Vd Z a0 0 q) ⟨trivial, trivial⟩
    (fc (P := fun q => Vd Z a0 0 q) ⟨trivial, trivial⟩
    (fc (P := fun q => Vd Z a0 0 q) ⟨trivial, trivial⟩
    (fc (P := fun q => Vd Z a0 0 q) ⟨trivial, trivial⟩
    (fn)))))))))
  (fc (P := fun ch : Nat × List (Nat × Ent) => ∀ q ∈ ch.2, Vd Z a0 0 q) (fc (P := fun q => Vd Z a0 0 q) ⟨trivial, trivial⟩
    (fc (P := fun q => Vd Z a0 0 q) ⟨trivial, trivial⟩
    (fc (P := fun q => Vd Z a0 0 q) ⟨trivial, trivial⟩
    (fc (P := fun q => Vd Z a0 0 q) ⟨trivial, trivial⟩
    (fc (P := fun q => Vd Z a0 0 q) ⟨trivial, trivial⟩
    (fc (P := fun q => Vd Z a0 0 q) ⟨trivial, trivial⟩
    (fc (P := fun q => Vd Z a0 0 q) ⟨trivial, trivial⟩
    (fc (P := fun q => Vd Z a0 0 q) ⟨trivial, trivial⟩
    (fn)))))))))
  (fc (P := fun ch : Nat × List (Nat × Ent) => ∀ q ∈ ch.2, Vd Z a0 0 q) (fc (P := fun q => Vd Z a0 0 q) ⟨trivial, trivial⟩
    (fc (P := fun q => Vd Z a0 0 q) ⟨trivial, trivial⟩
    (fc (P := fun q => Vd Z a0 0 q) ⟨trivial, trivial⟩
    (fc (P := fun q => Vd Z a0 0 q) ⟨trivial, trivial⟩
    (fc (P := fun q => Vd Z a0 0 q) ⟨trivial, trivial⟩
    (fc (P := fun q => Vd Z a0 0 q) ⟨trivial, trivial⟩
    (fc (P := fun q => Vd Z a0 0 q) ⟨trivial, trivial⟩
    (fc (P := fun q => Vd Z a0 0 q) ⟨trivial, trivial⟩
    (fn)))))))))
  (fc (P := fun ch : Nat × List (Nat × Ent) => ∀ q ∈ ch.2, Vd Z a0 0 q) (fc (P := fun q => Vd Z a0 0 q) ⟨trivial, trivial⟩
    (fc (P := fun q => Vd Z a0 0 q) ⟨trivial, trivial⟩
    (fc (P := fun q => Vd Z a0 0 q) ⟨trivial, trivial⟩
    (fc (P := fun q => Vd Z a0 0 q) ⟨trivial, trivial⟩
    (fc (P := fun q => Vd Z a0 0 q) ⟨trivial, trivial⟩
    (fc (P := fun q => Vd Z a0 0 q) ⟨trivial, trivial⟩
    (fc (P := fun q => Vd Z a0 0 q) ⟨trivial, trivial⟩
    (fc (P := fun q => Vd Z a0 0 q) ⟨trivial, trivial⟩
    (fn)))))))))
  (fc (P := fun ch : Nat × List (Nat × Ent) => ∀ q ∈ ch.2, Vd Z a0 0 q) (fc (P := fun q => Vd Z a0 0 q) ⟨trivial, trivial⟩
    (fc (P := fun q => Vd Z a0 0 q) ⟨trivial, trivial⟩
    (fc (P := fun q => Vd Z a0 0 q) ⟨trivial, trivial⟩
    (fc (P := fun q => Vd Z a0 0 q) ⟨trivial, trivial⟩
    (fc (P := fun q => Vd Z a0 0 q) ⟨trivial, trivial⟩
    (fc (P := fun q => Vd Z a0 0 q) ⟨(hw _ (List.mem_of_getElem? (i := 0) rfl)), trivial⟩
    (fc (P := fun q => Vd Z a0 0 q) ⟨trivial, trivial⟩
    (fc (P := fun q => Vd Z a0 0 q) ⟨trivial, ⟨(hw _ (List.mem_of_getElem? (i := 2) rfl)), (hw _ (List.mem_of_getElem? (i := 3) rfl)), (hw _ (List.mem_of_getElem? (i := 4) rfl)), (hw _ (List.mem_of_getElem? (i := 5) rfl)), ⟨by decide, by decide⟩, ⟨_, _, rfl, rfl⟩, pl_1⟩⟩
    (fn)))))))))
  (fc (P := fun ch : Nat × List (Nat × Ent) => ∀ q ∈ ch.2, Vd Z a0 0 q) (fc (P := fun q => Vd Z a0 0 q) ⟨trivial, trivial⟩
    (fc (P := fun q => Vd Z a0 0 q) ⟨⟨_, _, rfl, (hw _ (List.mem_of_getElem? (i := 6) rfl)), (hw _ (List.mem_of_getElem? (i := 7) rfl)), (hw _ (List.mem_of_getElem? (i := 8) rfl)), rfl⟩, trivial⟩
    (fc (P := fun q => Vd Z a0 0 q) ⟨trivial, trivial⟩
    (fc (P := fun q => Vd Z a0 0 q) ⟨trivial, trivial⟩
    (fc (P := fun q => Vd Z a0 0 q) ⟨trivial, trivial⟩
    (fc (P := fun q => Vd Z a0 0 q) ⟨trivial, ⟨rfl, (hw _ (List.mem_of_getElem? (i := 9) rfl)), (hw _ (List.mem_of_getElem? (i := 10) rfl)), (hw _ (List.mem_of_getElem? (i := 8) rfl)), (hw _ (List.mem_of_getElem? (i := 11) rfl)), rfl, ⟨by decide, by decide⟩, ⟨_, _, rfl, rfl⟩, pl_2⟩⟩
    (fc (P := fun q => Vd Z a0 0 q) ⟨trivial, trivial⟩
    (fc (P := fun q => Vd Z a0 0 q) ⟨trivial, trivial⟩
    (fn)))))))))
  (fc (P := fun ch : Nat × List (Nat × Ent) => ∀ q ∈ ch.2, Vd Z a0 0 q) (fc (P := fun q => Vd Z a0 0 q) ⟨trivial, ⟨_, (hw _ (List.mem_of_getElem? (i := 19) rfl)), (hw _ (List.mem_of_getElem? (i := 20) rfl)), fun s hZ => notFace_of_selects (args := #[]) (mvT hZ (hw _ (List.mem_of_getElem? (i := 22) rfl))), ⟨by decide, by decide⟩, ⟨_, _, rfl, rfl⟩, fun k b hl => by obtain ⟨rfl, rfl⟩ := look1 hl; exact ⟨_, _, rfl, (hw _ (List.mem_of_getElem? (i := 22) rfl)), (hw _ (List.mem_of_getElem? (i := 21) rfl)), (hw _ (List.mem_of_getElem? (i := 23) rfl)), (hw _ (List.mem_of_getElem? (i := 8) rfl)), pl_3⟩⟩⟩
    (fc (P := fun q => Vd Z a0 0 q) ⟨trivial, trivial⟩
    (fc (P := fun q => Vd Z a0 0 q) ⟨trivial, trivial⟩
    (fc (P := fun q => Vd Z a0 0 q) ⟨trivial, trivial⟩
    (fc (P := fun q => Vd Z a0 0 q) ⟨trivial, trivial⟩
    (fc (P := fun q => Vd Z a0 0 q) ⟨trivial, trivial⟩
    (fc (P := fun q => Vd Z a0 0 q) ⟨trivial, trivial⟩
    (fc (P := fun q => Vd Z a0 0 q) ⟨trivial, trivial⟩
    (fn)))))))))
  (fc (P := fun ch : Nat × List (Nat × Ent) => ∀ q ∈ ch.2, Vd Z a0 0 q) (fc (P := fun q => Vd Z a0 0 q) ⟨trivial, trivial⟩
    (fc (P := fun q => Vd Z a0 0 q) ⟨trivial, trivial⟩
    (fc (P := fun q => Vd Z a0 0 q) ⟨trivial, trivial⟩
    (fc (P := fun q => Vd Z a0 0 q) ⟨trivial, trivial⟩
    (fc (P := fun q => Vd Z a0 0 q) ⟨trivial, trivial⟩
    (fc (P := fun q => Vd Z a0 0 q) ⟨trivial, trivial⟩
    (fc (P := fun q => Vd Z a0 0 q) ⟨trivial, trivial⟩
    (fc (P := fun q => Vd Z a0 0 q) ⟨(hw _ (List.mem_of_getElem? (i := 24) rfl)), trivial⟩
    (fn)))))))))
  (fc (P := fun ch : Nat × List (Nat × Ent) => ∀ q ∈ ch.2, Vd Z a0 0 q) (fc (P := fun q => Vd Z a0 0 q) ⟨trivial, trivial⟩
    (fc (P := fun q => Vd Z a0 0 q) ⟨trivial, trivial⟩
    (fc (P := fun q => Vd Z a0 0 q) ⟨trivial, trivial⟩
    (fc (P := fun q => Vd Z a0 0 q) ⟨trivial, trivial⟩
    (fc (P := fun q => Vd Z a0 0 q) ⟨trivial, trivial⟩
    (fc (P := fun q => Vd Z a0 0 q) ⟨trivial, trivial⟩
    (fc (P := fun q => Vd Z a0 0 q) ⟨trivial, trivial⟩
    (fc (P := fun q => Vd Z a0 0 q) ⟨trivial, trivial⟩
    (fn)))))))))
  (fc (P := fun ch : Nat × List (Nat × Ent) => ∀ q ∈ ch.2, Vd Z a0 0 q) (fc (P := fun q => Vd Z a0 0 q) ⟨(hw _ (List.mem_of_getElem? (i := 26) rfl)), trivial⟩
    (fc (P := fun q => Vd Z a0 0 q) ⟨trivial, trivial⟩
    (fc (P := fun q => Vd Z a0 0 q) ⟨trivial, trivial⟩
    (fc (P := fun q => Vd Z a0 0 q) ⟨trivial, trivial⟩
    (fc (P := fun q => Vd Z a0 0 q) ⟨trivial, trivial⟩
    (fc (P := fun q => Vd Z a0 0 q) ⟨trivial, trivial⟩
    (fc (P := fun q => Vd Z a0 0 q) ⟨trivial, trivial⟩
    (fc (P := fun q => Vd Z a0 0 q) ⟨trivial, trivial⟩
    (fn)))))))))
  (fc (P := fun ch : Nat × List (Nat × Ent) => ∀ q ∈ ch.2, Vd Z a0 0 q) (fc (P := fun q => Vd Z a0 0 q) ⟨trivial, trivial⟩
    (fc (P := fun q => Vd Z a0 0 q) ⟨(hw _ (List.mem_of_getElem? (i := 27) rfl)), trivial⟩
    (fc (P := fun q => Vd Z a0 0 q) ⟨trivial, trivial⟩
    (fc (P := fun q => Vd Z a0 0 q) ⟨trivial, trivial⟩
    (fc (P := fun q => Vd Z a0 0 q) ⟨trivial, trivial⟩
    (fc (P := fun q => Vd Z a0 0 q) ⟨trivial, trivial⟩
    (fc (P := fun q => Vd Z a0 0 q) ⟨trivial, trivial⟩
    (fc (P := fun q => Vd Z a0 0 q) ⟨trivial, trivial⟩
    (fn)))))))))
  (fc (P := fun ch : Nat × List (Nat × Ent) => ∀ q ∈ ch.2, Vd Z a0 0 q) (fc (P := fun q => Vd Z a0 0 q) ⟨trivial, trivial⟩
    (fc (P := fun q => Vd Z a0 0 q) ⟨trivial, trivial⟩
    (fc (P := fun q => Vd Z a0 0 q) ⟨(hw _ (List.mem_of_getElem? (i := 25) rfl)), trivial⟩
    (fc (P := fun q => Vd Z a0 0 q) ⟨trivial, trivial⟩
    (fc (P := fun q => Vd Z a0 0 q) ⟨trivial, trivial⟩
    (fc (P := fun q => Vd Z a0 0 q) ⟨trivial, trivial⟩
    (fc (P := fun q => Vd Z a0 0 q) ⟨trivial, trivial⟩
    (fc (P := fun q => Vd Z a0 0 q) ⟨trivial, trivial⟩
    (fn)))))))))
  (fc (P := fun ch : Nat × List (Nat × Ent) => ∀ q ∈ ch.2, Vd Z a0 0 q) (fc (P := fun q => Vd Z a0 0 q) ⟨trivial, trivial⟩
    (fc (P := fun q => Vd Z a0 0 q) ⟨trivial, trivial⟩
    (fc (P := fun q => Vd Z a0 0 q) ⟨trivial, trivial⟩
    (fc (P := fun q => Vd Z a0 0 q) ⟨(hw _ (List.mem_of_getElem? (i := 28) rfl)), trivial⟩
    (fc (P := fun q => Vd Z a0 0 q) ⟨trivial, trivial⟩
    (fc (P := fun q => Vd Z a0 0 q) ⟨trivial, trivial⟩
    (fc (P := fun q => Vd Z a0 0 q) ⟨trivial, trivial⟩
    (fc (P := fun q => Vd Z a0 0 q) ⟨trivial, trivial⟩
    (fn)))))))))
  (fc (P := fun ch : Nat × List (Nat × Ent) => ∀ q ∈ ch.2, Vd Z a0 0 q) (fc (P := fun q => Vd Z a0 0 q) ⟨trivial, trivial⟩
    (fc (P := fun q => Vd Z a0 0 q) ⟨trivial, trivial⟩
    (fc (P := fun q => Vd Z a0 0 q) ⟨trivial, trivial⟩
    (fc (P := fun q => Vd Z a0 0 q) ⟨trivial, trivial⟩
    (fc (P := fun q => Vd Z a0 0 q) ⟨trivial, trivial⟩
    (fc (P := fun q => Vd Z a0 0 q) ⟨trivial, trivial⟩
    (fc (P := fun q => Vd Z a0 0 q) ⟨trivial, trivial⟩
    (fc (P := fun q => Vd Z a0 0 q) ⟨trivial, trivial⟩
    (fn)))))))))
  (fc (P := fun ch : Nat × List (Nat × Ent) => ∀ q ∈ ch.2, Vd Z a0 0 q) (fc (P := fun q => Vd Z a0 0 q) ⟨trivial, trivial⟩
    (fc (P := fun q => Vd Z a0 0 q) ⟨trivial, trivial⟩
    (fc (P := fun q => Vd Z a0 0 q) ⟨trivial, trivial⟩
    (fc (P := fun q => Vd Z a0 0 q) ⟨trivial, trivial⟩
    (fc (P := fun q => Vd Z a0 0 q) ⟨trivial, trivial⟩
    (fc (P := fun q => Vd Z a0 0 q) ⟨trivial, trivial⟩
    (fc (P := fun q => Vd Z a0 0 q) ⟨trivial, trivial⟩
    (fc (P := fun q => Vd Z a0 0 q) ⟨trivial, trivial⟩
    (fn)))))))))
  (fc (P := fun ch : Nat × List (Nat × Ent) => ∀ q ∈ ch.2, Vd Z a0 0 q) (fc (P := fun q => Vd Z a0 0 q) ⟨trivial, trivial⟩
    (fc (P := fun q => Vd Z a0 0 q) ⟨trivial, trivial⟩
    (fc (P := fun q => Vd Z a0 0 q) ⟨trivial, trivial⟩
    (fc (P := fun q => Vd Z a0 0 q) ⟨trivial, trivial⟩
    (fc (P := fun q => Vd Z a0 0 q) ⟨trivial, trivial⟩
    (fc (P := fun q => Vd Z a0 0 q) ⟨trivial, trivial⟩
    (fc (P := fun q => Vd Z a0 0 q) ⟨trivial, trivial⟩
    (fc (P := fun q => Vd Z a0 0 q) ⟨trivial, trivial⟩
    (fn)))))))))
  (fc (P := fun ch : Nat × List (Nat × Ent) => ∀ q ∈ ch.2, Vd Z a0 0 q) (fc (P := fun q => Vd Z a0 0 q) ⟨trivial, trivial⟩
    (fc (P := fun q => Vd Z a0 0 q) ⟨trivial, trivial⟩
    (fc (P := fun q => Vd Z a0 0 q) ⟨trivial, trivial⟩
    (fc (P := fun q => Vd Z a0 0 q) ⟨trivial, trivial⟩
    (fc (P := fun q => Vd Z a0 0 q) ⟨trivial, trivial⟩
    (fc (P := fun q => Vd Z a0 0 q) ⟨trivial, trivial⟩
    (fc (P := fun q => Vd Z a0 0 q) ⟨trivial, trivial⟩
    (fn))))))))
  (fn)))))))))))))))))))))))))))))))))
set_option maxRecDepth 65536 in
theorem dc_1 : ∀ ch ∈ c_1, ∀ q ∈ ch.2, decode (by_ 1) q.1 = .ok (q.2.1, ilen q.2.1) := by decide +kernel
set_option maxRecDepth 65536 in
theorem v_1 {Z : State} {a0 : Array Value} (hw : ∀ d ∈ tables_1, d.before a0 Z = true) : ∀ ch ∈ c_1, ∀ q ∈ ch.2, Vd Z a0 1 q :=
  fc (P := fun ch : Nat × List (Nat × Ent) => ∀ q ∈ ch.2, Vd Z a0 1 q) (fc (P := fun q => Vd Z a0 1 q) ⟨trivial, trivial⟩
    (fc (P := fun q => Vd Z a0 1 q) ⟨trivial, trivial⟩
    (fc (P := fun q => Vd Z a0 1 q) ⟨trivial, trivial⟩
    (fc (P := fun q => Vd Z a0 1 q) ⟨trivial, trivial⟩
    (fc (P := fun q => Vd Z a0 1 q) ⟨trivial, trivial⟩
    (fc (P := fun q => Vd Z a0 1 q) ⟨trivial, trivial⟩
    (fc (P := fun q => Vd Z a0 1 q) ⟨trivial, trivial⟩
    (fn))))))))
  (fn)
set_option maxRecDepth 65536 in
theorem dc_2 : ∀ ch ∈ c_2, ∀ q ∈ ch.2, decode (by_ 2) q.1 = .ok (q.2.1, ilen q.2.1) := by decide +kernel
set_option maxRecDepth 65536 in
theorem v_2 {Z : State} {a0 : Array Value} (hw : ∀ d ∈ tables_1, d.before a0 Z = true) : ∀ ch ∈ c_2, ∀ q ∈ ch.2, Vd Z a0 2 q :=
  fc (P := fun ch : Nat × List (Nat × Ent) => ∀ q ∈ ch.2, Vd Z a0 2 q) (fc (P := fun q => Vd Z a0 2 q) ⟨trivial, trivial⟩
    (fc (P := fun q => Vd Z a0 2 q) ⟨⟨(hw _ (List.mem_of_getElem? (i := 12) rfl)), (hw _ (List.mem_of_getElem? (i := 13) rfl)), (hw _ (List.mem_of_getElem? (i := 14) rfl))⟩, trivial⟩
    (fc (P := fun q => Vd Z a0 2 q) ⟨trivial, trivial⟩
    (fc (P := fun q => Vd Z a0 2 q) ⟨trivial, trivial⟩
    (fc (P := fun q => Vd Z a0 2 q) ⟨⟨_, _, _, _, _, rfl, rfl, (hw _ (List.mem_of_getElem? (i := 15) rfl)), Via.refl, Or.inr ⟨(hw _ (List.mem_of_getElem? (i := 16) rfl)), rfl, rfl⟩, (hw _ (List.mem_of_getElem? (i := 7) rfl)), rfl⟩, trivial⟩
    (fc (P := fun q => Vd Z a0 2 q) ⟨trivial, trivial⟩
    (fc (P := fun q => Vd Z a0 2 q) ⟨trivial, trivial⟩
    (fc (P := fun q => Vd Z a0 2 q) ⟨⟨_, _, _, _, _, rfl, rfl, (hw _ (List.mem_of_getElem? (i := 17) rfl)), Via.refl, Or.inr ⟨(hw _ (List.mem_of_getElem? (i := 18) rfl)), rfl, rfl⟩, (hw _ (List.mem_of_getElem? (i := 7) rfl)), rfl⟩, trivial⟩
    (fn)))))))))
  (fc (P := fun ch : Nat × List (Nat × Ent) => ∀ q ∈ ch.2, Vd Z a0 2 q) (fc (P := fun q => Vd Z a0 2 q) ⟨trivial, trivial⟩
    (fn))
  (fn))
set_option maxRecDepth 65536 in
theorem dc_3 : ∀ ch ∈ c_3, ∀ q ∈ ch.2, decode (by_ 3) q.1 = .ok (q.2.1, ilen q.2.1) := by decide +kernel
set_option maxRecDepth 65536 in
theorem v_3 {Z : State} {a0 : Array Value} (hw : ∀ d ∈ tables_1, d.before a0 Z = true) : ∀ ch ∈ c_3, ∀ q ∈ ch.2, Vd Z a0 3 q :=
  fc (P := fun ch : Nat × List (Nat × Ent) => ∀ q ∈ ch.2, Vd Z a0 3 q) (fc (P := fun q => Vd Z a0 3 q) ⟨trivial, trivial⟩
    (fc (P := fun q => Vd Z a0 3 q) ⟨trivial, trivial⟩
    (fc (P := fun q => Vd Z a0 3 q) ⟨trivial, trivial⟩
    (fc (P := fun q => Vd Z a0 3 q) ⟨trivial, trivial⟩
    (fc (P := fun q => Vd Z a0 3 q) ⟨trivial, trivial⟩
    (fc (P := fun q => Vd Z a0 3 q) ⟨trivial, trivial⟩
    (fc (P := fun q => Vd Z a0 3 q) ⟨trivial, trivial⟩
    (fc (P := fun q => Vd Z a0 3 q) ⟨trivial, trivial⟩
    (fn)))))))))
  (fc (P := fun ch : Nat × List (Nat × Ent) => ∀ q ∈ ch.2, Vd Z a0 3 q) (fc (P := fun q => Vd Z a0 3 q) ⟨⟨_, _, _, _, rfl, rfl, (hw _ (List.mem_of_getElem? (i := 15) rfl)), Via.refl⟩, trivial⟩
    (fc (P := fun q => Vd Z a0 3 q) ⟨trivial, trivial⟩
    (fc (P := fun q => Vd Z a0 3 q) ⟨trivial, trivial⟩
    (fc (P := fun q => Vd Z a0 3 q) ⟨trivial, trivial⟩
    (fc (P := fun q => Vd Z a0 3 q) ⟨⟨_, _, _, _, rfl, rfl, (hw _ (List.mem_of_getElem? (i := 15) rfl)), Via.refl⟩, trivial⟩
    (fc (P := fun q => Vd Z a0 3 q) ⟨trivial, trivial⟩
    (fc (P := fun q => Vd Z a0 3 q) ⟨trivial, trivial⟩
    (fc (P := fun q => Vd Z a0 3 q) ⟨trivial, trivial⟩
    (fn)))))))))
  (fc (P := fun ch : Nat × List (Nat × Ent) => ∀ q ∈ ch.2, Vd Z a0 3 q) (fc (P := fun q => Vd Z a0 3 q) ⟨trivial, trivial⟩
    (fc (P := fun q => Vd Z a0 3 q) ⟨trivial, trivial⟩
    (fc (P := fun q => Vd Z a0 3 q) ⟨trivial, trivial⟩
    (fc (P := fun q => Vd Z a0 3 q) ⟨trivial, trivial⟩
    (fc (P := fun q => Vd Z a0 3 q) ⟨trivial, trivial⟩
    (fc (P := fun q => Vd Z a0 3 q) ⟨trivial, trivial⟩
    (fc (P := fun q => Vd Z a0 3 q) ⟨trivial, trivial⟩
    (fc (P := fun q => Vd Z a0 3 q) ⟨trivial, trivial⟩
    (fn)))))))))
  (fc (P := fun ch : Nat × List (Nat × Ent) => ∀ q ∈ ch.2, Vd Z a0 3 q) (fc (P := fun q => Vd Z a0 3 q) ⟨trivial, trivial⟩
    (fc (P := fun q => Vd Z a0 3 q) ⟨trivial, trivial⟩
    (fc (P := fun q => Vd Z a0 3 q) ⟨trivial, trivial⟩
    (fc (P := fun q => Vd Z a0 3 q) ⟨trivial, trivial⟩
    (fc (P := fun q => Vd Z a0 3 q) ⟨trivial, trivial⟩
    (fc (P := fun q => Vd Z a0 3 q) ⟨trivial, trivial⟩
    (fc (P := fun q => Vd Z a0 3 q) ⟨trivial, trivial⟩
    (fc (P := fun q => Vd Z a0 3 q) ⟨trivial, trivial⟩
    (fn)))))))))
  (fc (P := fun ch : Nat × List (Nat × Ent) => ∀ q ∈ ch.2, Vd Z a0 3 q) (fc (P := fun q => Vd Z a0 3 q) ⟨trivial, trivial⟩
    (fc (P := fun q => Vd Z a0 3 q) ⟨trivial, trivial⟩
    (fc (P := fun q => Vd Z a0 3 q) ⟨trivial, trivial⟩
    (fc (P := fun q => Vd Z a0 3 q) ⟨⟨_, _, _, _, rfl, rfl, (hw _ (List.mem_of_getElem? (i := 17) rfl)), Via.refl⟩, trivial⟩
    (fc (P := fun q => Vd Z a0 3 q) ⟨trivial, trivial⟩
    (fc (P := fun q => Vd Z a0 3 q) ⟨trivial, trivial⟩
    (fc (P := fun q => Vd Z a0 3 q) ⟨trivial, trivial⟩
    (fn))))))))
  (fn)))))
theorem mok1 {Z : State} {a0 : Array Value} {M pc : Nat} {i : Instr} {pin : Option Bool} {nums : List Nat} {val : Value} (h : decode (by_ M) pc = .ok (i, ilen i)) (v : Vd Z a0 M (pc, i, pin, nums, val)) : decode (by_ M) pc = .ok (i, ilen i) ∧ VI Z a0 kc_ sl_ E_.2.2.2.1 E_.2.2.2.2.1 E_.2.2.2.2.2.1 (nm_ M).cls (nm_ M).name i nums val ∧ VC Z a0 kc_ E_ nm_ by_ (nm_ M).cls i nums := ⟨h, v.1, v.2⟩
theorem mok_ {Z : State} {a0 : Array Value} (hw : ∀ d ∈ tables_1, d.before a0 Z = true) : MOk Z a0 kc_ sl_ E_ nm_ by_ := by
  intro M pc i pin nums val h
  have h : code_ M pc = some (i, pin, nums, val) := h
  unfold code_ at h
  split at h
  · obtain ⟨ch, h1, h2⟩ := fetch2_mem h; exact mok1 (M := 0) (dc_0 ch h1 (pc, i, pin, nums, val) h2) (v_0 hw ch h1 (pc, i, pin, nums, val) h2)
  · obtain ⟨ch, h1, h2⟩ := fetch2_mem h; exact mok1 (M := 1) (dc_1 ch h1 (pc, i, pin, nums, val) h2) (v_1 hw ch h1 (pc, i, pin, nums, val) h2)
  · obtain ⟨ch, h1, h2⟩ := fetch2_mem h; exact mok1 (M := 2) (dc_2 ch h1 (pc, i, pin, nums, val) h2) (v_2 hw ch h1 (pc, i, pin, nums, val) h2)
  · obtain ⟨ch, h1, h2⟩ := fetch2_mem h; exact mok1 (M := 3) (dc_3 ch h1 (pc, i, pin, nums, val) h2) (v_3 hw ch h1 (pc, i, pin, nums, val) h2)
  · cases h
theorem kok_ {Z : State} {a0 : Array Value} (hw : ∀ d ∈ tables_1, d.before a0 Z = true) : KOk Z a0 kc_ := by
  intro k C fs h
  unfold kc_ at h
  split at h
  · cases h; exact ⟨rfl, fc (⟨Or.inr (hw _ (List.mem_of_getElem? (i := 16) rfl)), rfl⟩) (fc (⟨Or.inr (hw _ (List.mem_of_getElem? (i := 18) rfl)), rfl⟩) (fn)), nodup_ne (by decide)⟩
  · cases h

def fuel_ : Nat := 500
theorem div_nn {s : UInt64} {x : Int32} (h : FP.dIsNaN s = false) (hx : x.toInt ≠ 0) : Jvm.Free.Fl.NoNaN64 (FP.ddiv s (FP.i2d x)) :=
  Jvm.Free.Fl.ddiv_out (Jvm.Free.Fl.noNaN64_no.mpr h) (Jvm.Free.Fl.i2d_fin _) (Jvm.Free.Fl.i2d_nz (fun q => hx (by rw [q]; rfl)))
theorem mx_ne {f : Int32} (x : Int32) (hf : 0 < f.toInt) : (bif (if_icmp.holds .lt f x) then x else f).toInt ≠ 0 := by
  cases h : if_icmp.holds .lt f x with
  | false => show f.toInt ≠ 0; omega
  | true =>
    rw [k_lt] at h
    have := of_decide_eq_true h
    show x.toInt ≠ 0; omega
theorem fin_ne {s t d : UInt64} (h : t = s) (hn : Jvm.Free.Fl.NoNaN64 (FP.ddiv s d)) : ifCond.holds .ne (cmpValue (FP.dcmp (FP.ddiv s d) (FP.ddiv t d)) .l) = false := by
  rw [h, dcmpV_self hn]; rfl
theorem n_in (x : Int32) : ((x &&& (2147483647)) % ((Int8.ofInt (7)).toInt32)) = (0) ∨ ((x &&& (2147483647)) % ((Int8.ofInt (7)).toInt32)) = (1) ∨ ((x &&& (2147483647)) % ((Int8.ofInt (7)).toInt32)) = (2) ∨ ((x &&& (2147483647)) % ((Int8.ofInt (7)).toInt32)) = (3) ∨ ((x &&& (2147483647)) % ((Int8.ofInt (7)).toInt32)) = (4) ∨ ((x &&& (2147483647)) % ((Int8.ofInt (7)).toInt32)) = (5) ∨ ((x &&& (2147483647)) % ((Int8.ofInt (7)).toInt32)) = (6) := by
  have h := c_mask x (2147483647) 31 (by decide) (by decide)
  have e : ((x &&& (2147483647)) % ((Int8.ofInt (7)).toInt32)).toInt = (x &&& (2147483647)).toInt.tmod 7 := Int32.toInt_mod _ _
  rw [Int.tmod_eq_emod_of_nonneg (by omega)] at e
  have h1 : ((x &&& (2147483647)) % ((Int8.ofInt (7)).toInt32)).toInt = 0 ∨ ((x &&& (2147483647)) % ((Int8.ofInt (7)).toInt32)).toInt = 1 ∨ ((x &&& (2147483647)) % ((Int8.ofInt (7)).toInt32)).toInt = 2 ∨ ((x &&& (2147483647)) % ((Int8.ofInt (7)).toInt32)).toInt = 3 ∨ ((x &&& (2147483647)) % ((Int8.ofInt (7)).toInt32)).toInt = 4 ∨ ((x &&& (2147483647)) % ((Int8.ofInt (7)).toInt32)).toInt = 5 ∨ ((x &&& (2147483647)) % ((Int8.ofInt (7)).toInt32)).toInt = 6 := by omega
  rcases h1 with q | q | q | q | q | q | q
  · exact Or.inl (Int32.toInt_inj.mp q)
  · exact Or.inr (Or.inl (Int32.toInt_inj.mp q))
  · exact Or.inr (Or.inr (Or.inl (Int32.toInt_inj.mp q)))
  · exact Or.inr (Or.inr (Or.inr (Or.inl (Int32.toInt_inj.mp q))))
  · exact Or.inr (Or.inr (Or.inr (Or.inr (Or.inl (Int32.toInt_inj.mp q)))))
  · exact Or.inr (Or.inr (Or.inr (Or.inr (Or.inr (Or.inl (Int32.toInt_inj.mp q))))))
  · exact Or.inr (Or.inr (Or.inr (Or.inr (Or.inr (Or.inr ((Int32.toInt_inj.mp q)))))))
set_option smartUnfolding false in
set_option maxRecDepth 100000 in
set_option maxHeartbeats 400000000 in
theorem good (i0 i1 i2 : Int32) : Good E_ fuel_ [.int i0, .int i1, .int i2] [] 16 128 5 112 := by
  rcases (n_in i0 : ((i0 &&& (2147483647)) % ((Int8.ofInt (7)).toInt32)) = (0) ∨ ((i0 &&& (2147483647)) % ((Int8.ofInt (7)).toInt32)) = (1) ∨ ((i0 &&& (2147483647)) % ((Int8.ofInt (7)).toInt32)) = (2) ∨ ((i0 &&& (2147483647)) % ((Int8.ofInt (7)).toInt32)) = (3) ∨ ((i0 &&& (2147483647)) % ((Int8.ofInt (7)).toInt32)) = (4) ∨ ((i0 &&& (2147483647)) % ((Int8.ofInt (7)).toInt32)) = (5) ∨ ((i0 &&& (2147483647)) % ((Int8.ofInt (7)).toInt32)) = (6)) with v0 | v0 | v0 | v0 | v0 | v0 | v0
  · refine Good.of (some ([true, true, true, true, true, true, true, true, true, true, true, true, true, true, true, true, true, true, true, false, true, true, true, true, true, true, false, false], [(0)])) rfl ?_
    simp only [List.nil_append, List.append_nil, List.cons_append]
    exact fcP (by decide) (fcP (by assumption) (fcP rfl (fcP rfl (fcP rfl (fcP rfl (fcP rfl (fcP rfl (fcP (by decide) (fcP rfl (fcP rfl (fcP rfl (fcP rfl (fcP rfl (fcP rfl (fcP rfl (fcP rfl (fcP rfl (fcP rfl (fcP rfl (fcP rfl (fcP rfl (fcP rfl (fcP rfl (fcP rfl (fcP rfl (fcP rfl (fcP rfl (fcP rfl (fcP (by decide +kernel) (fcP (by decide +kernel) (fcP (by decide +kernel) (fcP (by decide +kernel) (fcP (by decide +kernel) (fcP (by decide +kernel) (fcP rfl (fcP (by decide +kernel) (fnP)))))))))))))))))))))))))))))))))))))
  · by_cases pB0 : (i1 &&& (Int32.ofInt (1))).toInt = 0
    · refine Good.of (some ([false, true, true, true, true, true, true, false, true, true, true, true, true, true, true, true, true, true, true, false, true, true, false, true, true, true, true, true, true, false, false], [(1)])) rfl ?_
      simp only [List.nil_append, List.append_nil, List.cons_append]
      exact fcP (by decide) (fcP (by assumption) (fcP rfl (fcP (tr (h_eq _) (by assumption)) (fcP rfl (fcP rfl (fcP rfl (fcP rfl (fcP rfl (fcP (by decide) (fcP rfl (fcP (by decide) (fcP rfl (fcP rfl (fcP rfl (fcP rfl (fcP rfl (fcP rfl (fcP rfl (fcP rfl (fcP rfl (fcP rfl (fcP rfl (fcP rfl (fcP (by decide) (fcP rfl (fcP rfl (fcP rfl (fcP rfl (fcP rfl (fcP rfl (fcP rfl (fcP rfl (fcP rfl (fcP (by decide +kernel) (fcP (by decide +kernel) (fcP (by decide +kernel) (fcP (by decide +kernel) (fcP (by decide +kernel) (fcP (by decide +kernel) (fcP rfl (fcP (by decide +kernel) (fnP))))))))))))))))))))))))))))))))))))))))))
    · refine Good.of (some ([false, false, true, true, true, true, true, false, true, true, true, true, true, false, true, true, true, true, true, false, false, true, true, false, true, true, true, true, true, true, false], [(1)])) rfl ?_
      simp only [List.nil_append, List.append_nil, List.cons_append]
      exact fcP (by decide) (fcP (by assumption) (fcP rfl (fcP (fl (h_eq _) (by assumption)) (fcP rfl (fcP rfl (fcP rfl (fcP rfl (fcP rfl (fcP (by decide) (fcP rfl (fcP (by decide) (fcP rfl (fcP rfl (fcP rfl (fcP rfl (fcP rfl (fcP rfl (fcP rfl (fcP rfl (fcP rfl (fcP rfl (fcP rfl (fcP rfl (fcP (by decide) (fcP rfl (fcP (by decide +kernel) (fcP (by decide +kernel) (fcP rfl (fcP rfl (fcP (Jvm.Free.Fl.noNaN64_no.mp (div_nn (by decide +kernel) (mx_ne _ (by decide)))) (fcP rfl (fcP (by decide +kernel) (fcP rfl (fcP rfl (fcP rfl (fcP rfl (fcP rfl (fcP (by decide +kernel) (fcP (by decide +kernel) (fcP (by decide +kernel) (fcP (by decide +kernel) (fcP (by decide +kernel) (fcP (by decide +kernel) (fcP rfl (fcP (Jvm.Free.Fl.noNaN64_no.mp (div_nn (by decide +kernel) (mx_ne _ (by decide)))) (fcP (fin_ne (by decide +kernel) (div_nn (by decide +kernel) (mx_ne _ (by decide)))) (fnP)))))))))))))))))))))))))))))))))))))))))))))))
  · by_cases pB0 : (i1 &&& (Int32.ofInt (1))).toInt = 0
    · by_cases pB1 : (i1 &&& (Int32.ofInt (2))).toInt = 0
      · refine Good.of (some ([false, true, false, true, true, true, true, true, false, false, true, true, true, true, true, true, true, true, true, true, false, true, false, true, true, false, true, true, true, true, true, true, false, false], [(2)])) rfl ?_
        simp only [List.nil_append, List.append_nil, List.cons_append]
        exact fcP (by decide) (fcP (by assumption) (fcP rfl (fcP (tr (h_eq _) (by assumption)) (fcP rfl (fcP (tr (h_eq _) (by assumption)) (fcP rfl (fcP rfl (fcP rfl (fcP rfl (fcP (by decide) (fcP rfl (fcP (by decide) (fcP rfl (fcP (by decide) (fcP rfl (fcP rfl (fcP rfl (fcP rfl (fcP rfl (fcP rfl (fcP rfl (fcP rfl (fcP rfl (fcP rfl (fcP rfl (fcP (by decide) (fcP rfl (fcP rfl (fcP (by decide) (fcP rfl (fcP rfl (fcP rfl (fcP rfl (fcP rfl (fcP rfl (fcP rfl (fcP rfl (fcP rfl (fcP (by decide +kernel) (fcP (by decide +kernel) (fcP (by decide +kernel) (fcP (by decide +kernel) (fcP (by decide +kernel) (fcP (by decide +kernel) (fcP rfl (fcP (by decide +kernel) (fnP)))))))))))))))))))))))))))))))))))))))))))))))
      · refine Good.of (some ([false, true, false, false, true, true, true, true, false, false, true, true, true, true, true, false, true, true, true, true, false, true, false, false, true, true, true, false, true, true, true, true, true, false], [(2)])) rfl ?_
        simp only [List.nil_append, List.append_nil, List.cons_append]
        exact fcP (by decide) (fcP (by assumption) (fcP rfl (fcP (tr (h_eq _) (by assumption)) (fcP rfl (fcP (fl (h_eq _) (by assumption)) (fcP rfl (fcP rfl (fcP rfl (fcP rfl (fcP (by decide) (fcP rfl (fcP (by decide) (fcP rfl (fcP (by decide) (fcP rfl (fcP rfl (fcP rfl (fcP rfl (fcP rfl (fcP rfl (fcP rfl (fcP rfl (fcP rfl (fcP rfl (fcP rfl (fcP (by decide) (fcP rfl (fcP rfl (fcP (by decide) (fcP rfl (fcP (by decide +kernel) (fcP (by decide +kernel) (fcP rfl (fcP rfl (fcP (Jvm.Free.Fl.noNaN64_no.mp (div_nn (by decide +kernel) (mx_ne _ (by decide)))) (fcP rfl (fcP rfl (fcP (by decide +kernel) (fcP rfl (fcP rfl (fcP rfl (fcP rfl (fcP (by decide +kernel) (fcP (by decide +kernel) (fcP (by decide +kernel) (fcP (by decide +kernel) (fcP (by decide +kernel) (fcP (by decide +kernel) (fcP rfl (fcP (Jvm.Free.Fl.noNaN64_no.mp (div_nn (by decide +kernel) (mx_ne _ (by decide)))) (fcP (fin_ne (by decide +kernel) (div_nn (by decide +kernel) (mx_ne _ (by decide)))) (fnP))))))))))))))))))))))))))))))))))))))))))))))))))))
    · by_cases pB1 : (i1 &&& (Int32.ofInt (2))).toInt = 0
      · refine Good.of (some ([false, false, false, true, true, true, true, true, false, false, true, true, true, true, false, true, true, true, true, true, false, false, false, true, true, true, false, true, true, true, true, true, true, false], [(2)])) rfl ?_
        simp only [List.nil_append, List.append_nil, List.cons_append]
        exact fcP (by decide) (fcP (by assumption) (fcP rfl (fcP (fl (h_eq _) (by assumption)) (fcP rfl (fcP (tr (h_eq _) (by assumption)) (fcP rfl (fcP rfl (fcP rfl (fcP rfl (fcP (by decide) (fcP rfl (fcP (by decide) (fcP rfl (fcP (by decide) (fcP rfl (fcP rfl (fcP rfl (fcP rfl (fcP rfl (fcP rfl (fcP rfl (fcP rfl (fcP rfl (fcP rfl (fcP rfl (fcP (by decide) (fcP rfl (fcP (by decide +kernel) (fcP (by decide +kernel) (fcP rfl (fcP (by decide) (fcP rfl (fcP rfl (fcP rfl (fcP (Jvm.Free.Fl.noNaN64_no.mp (div_nn (by decide +kernel) (mx_ne _ (by decide)))) (fcP rfl (fcP (by decide +kernel) (fcP rfl (fcP rfl (fcP rfl (fcP rfl (fcP rfl (fcP (by decide +kernel) (fcP (by decide +kernel) (fcP (by decide +kernel) (fcP (by decide +kernel) (fcP (by decide +kernel) (fcP (by decide +kernel) (fcP rfl (fcP (Jvm.Free.Fl.noNaN64_no.mp (div_nn (by decide +kernel) (mx_ne _ (by decide)))) (fcP (fin_ne (by decide +kernel) (div_nn (by decide +kernel) (mx_ne _ (by decide)))) (fnP))))))))))))))))))))))))))))))))))))))))))))))))))))
      · refine Good.of (some ([false, false, false, false, true, true, true, true, false, false, true, true, true, true, false, false, true, true, true, true, false, false, false, false, true, true, false, false, true, true, true, true, true, false], [(2)])) rfl ?_
        simp only [List.nil_append, List.append_nil, List.cons_append]
        exact fcP (by decide) (fcP (by assumption) (fcP rfl (fcP (fl (h_eq _) (by assumption)) (fcP rfl (fcP (fl (h_eq _) (by assumption)) (fcP rfl (fcP rfl (fcP rfl (fcP rfl (fcP (by decide) (fcP rfl (fcP (by decide) (fcP rfl (fcP (by decide) (fcP rfl (fcP rfl (fcP rfl (fcP rfl (fcP rfl (fcP rfl (fcP rfl (fcP rfl (fcP rfl (fcP rfl (fcP rfl (fcP (by decide) (fcP rfl (fcP (by decide +kernel) (fcP (by decide +kernel) (fcP rfl (fcP (by decide) (fcP rfl (fcP (by decide +kernel) (fcP (by decide +kernel) (fcP rfl (fcP rfl (fcP (Jvm.Free.Fl.noNaN64_no.mp (div_nn (by decide +kernel) (mx_ne _ (by decide)))) (fcP rfl (fcP (by decide +kernel) (fcP rfl (fcP (by decide +kernel) (fcP rfl (fcP rfl (fcP rfl (fcP rfl (fcP (by decide +kernel) (fcP (by decide +kernel) (fcP (by decide +kernel) (fcP (by decide +kernel) (fcP (by decide +kernel) (fcP (by decide +kernel) (fcP rfl (fcP (Jvm.Free.Fl.noNaN64_no.mp (div_nn (by decide +kernel) (mx_ne _ (by decide)))) (fcP (fin_ne (by decide +kernel) (div_nn (by decide +kernel) (mx_ne _ (by decide)))) (fnP)))))))))))))))))))))))))))))))))))))))))))))))))))))))
  · by_cases pB0 : (i1 &&& (Int32.ofInt (1))).toInt = 0
    · by_cases pB1 : (i1 &&& (Int32.ofInt (2))).toInt = 0
      · by_cases pB2 : (i1 &&& (Int32.ofInt (4))).toInt = 0
        · refine Good.of (some ([false, true, false, true, false, true, true, true, true, false, false, false, true, true, true, true, true, true, true, true, true, false, true, false, true, false, true, true, false, true, true, true, true, true, true, false, false], [(3)])) rfl ?_
          simp only [List.nil_append, List.append_nil, List.cons_append]
          exact fcP (by decide) (fcP (by assumption) (fcP rfl (fcP (tr (h_eq _) (by assumption)) (fcP rfl (fcP (tr (h_eq _) (by assumption)) (fcP rfl (fcP (tr (h_eq _) (by assumption)) (fcP rfl (fcP rfl (fcP rfl (fcP (by decide) (fcP rfl (fcP (by decide) (fcP rfl (fcP (by decide) (fcP rfl (fcP (by decide) (fcP rfl (fcP rfl (fcP rfl (fcP rfl (fcP rfl (fcP rfl (fcP rfl (fcP rfl (fcP rfl (fcP rfl (fcP (by decide) (fcP rfl (fcP rfl (fcP (by decide) (fcP rfl (fcP rfl (fcP (by decide) (fcP rfl (fcP rfl (fcP rfl (fcP rfl (fcP rfl (fcP rfl (fcP rfl (fcP rfl (fcP rfl (fcP (by decide +kernel) (fcP (by decide +kernel) (fcP (by decide +kernel) (fcP (by decide +kernel) (fcP (by decide +kernel) (fcP (by decide +kernel) (fcP rfl (fcP (by decide +kernel) (fnP))))))))))))))))))))))))))))))))))))))))))))))))))))
        · refine Good.of (some ([false, true, false, true, false, false, true, true, true, false, false, false, true, true, true, true, true, false, true, true, true, false, true, false, true, false, false, true, true, true, true, false, true, true, true, true, false], [(3)])) rfl ?_
          simp only [List.nil_append, List.append_nil, List.cons_append]
          exact fcP (by decide) (fcP (by assumption) (fcP rfl (fcP (tr (h_eq _) (by assumption)) (fcP rfl (fcP (tr (h_eq _) (by assumption)) (fcP rfl (fcP (fl (h_eq _) (by assumption)) (fcP rfl (fcP rfl (fcP rfl (fcP (by decide) (fcP rfl (fcP (by decide) (fcP rfl (fcP (by decide) (fcP rfl (fcP (by decide) (fcP rfl (fcP rfl (fcP rfl (fcP rfl (fcP rfl (fcP rfl (fcP rfl (fcP rfl (fcP rfl (fcP rfl (fcP (by decide) (fcP rfl (fcP rfl (fcP (by decide) (fcP rfl (fcP rfl (fcP (by decide) (fcP rfl (fcP (by decide +kernel) (fcP (by decide +kernel) (fcP rfl (fcP rfl (fcP (Jvm.Free.Fl.noNaN64_no.mp (div_nn (by decide +kernel) (mx_ne _ (by decide)))) (fcP rfl (fcP rfl (fcP rfl (fcP (by decide +kernel) (fcP rfl (fcP rfl (fcP rfl (fcP (by decide +kernel) (fcP (by decide +kernel) (fcP (by decide +kernel) (fcP (by decide +kernel) (fcP (by decide +kernel) (fcP (by decide +kernel) (fcP rfl (fcP (Jvm.Free.Fl.noNaN64_no.mp (div_nn (by decide +kernel) (mx_ne _ (by decide)))) (fcP (fin_ne (by decide +kernel) (div_nn (by decide +kernel) (mx_ne _ (by decide)))) (fnP)))))))))))))))))))))))))))))))))))))))))))))))))))))))))
      · by_cases pB2 : (i1 &&& (Int32.ofInt (4))).toInt = 0
        · refine Good.of (some ([false, true, false, false, false, true, true, true, true, false, false, false, true, true, true, true, false, true, true, true, true, false, true, false, false, false, true, true, true, true, false, true, true, true, true, true, false], [(3)])) rfl ?_
          simp only [List.nil_append, List.append_nil, List.cons_append]
          exact fcP (by decide) (fcP (by assumption) (fcP rfl (fcP (tr (h_eq _) (by assumption)) (fcP rfl (fcP (fl (h_eq _) (by assumption)) (fcP rfl (fcP (tr (h_eq _) (by assumption)) (fcP rfl (fcP rfl (fcP rfl (fcP (by decide) (fcP rfl (fcP (by decide) (fcP rfl (fcP (by decide) (fcP rfl (fcP (by decide) (fcP rfl (fcP rfl (fcP rfl (fcP rfl (fcP rfl (fcP rfl (fcP rfl (fcP rfl (fcP rfl (fcP rfl (fcP (by decide) (fcP rfl (fcP rfl (fcP (by decide) (fcP rfl (fcP (by decide +kernel) (fcP (by decide +kernel) (fcP rfl (fcP (by decide) (fcP rfl (fcP rfl (fcP rfl (fcP (Jvm.Free.Fl.noNaN64_no.mp (div_nn (by decide +kernel) (mx_ne _ (by decide)))) (fcP rfl (fcP rfl (fcP (by decide +kernel) (fcP rfl (fcP rfl (fcP rfl (fcP rfl (fcP (by decide +kernel) (fcP (by decide +kernel) (fcP (by decide +kernel) (fcP (by decide +kernel) (fcP (by decide +kernel) (fcP (by decide +kernel) (fcP rfl (fcP (Jvm.Free.Fl.noNaN64_no.mp (div_nn (by decide +kernel) (mx_ne _ (by decide)))) (fcP (fin_ne (by decide +kernel) (div_nn (by decide +kernel) (mx_ne _ (by decide)))) (fnP)))))))))))))))))))))))))))))))))))))))))))))))))))))))))
        · refine Good.of (some ([false, true, false, false, false, false, true, true, true, false, false, false, true, true, true, true, false, false, true, true, true, false, true, false, false, false, false, true, true, true, false, false, true, true, true, true, false], [(3)])) rfl ?_
          simp only [List.nil_append, List.append_nil, List.cons_append]
          exact fcP (by decide) (fcP (by assumption) (fcP rfl (fcP (tr (h_eq _) (by assumption)) (fcP rfl (fcP (fl (h_eq _) (by assumption)) (fcP rfl (fcP (fl (h_eq _) (by assumption)) (fcP rfl (fcP rfl (fcP rfl (fcP (by decide) (fcP rfl (fcP (by decide) (fcP rfl (fcP (by decide) (fcP rfl (fcP (by decide) (fcP rfl (fcP rfl (fcP rfl (fcP rfl (fcP rfl (fcP rfl (fcP rfl (fcP rfl (fcP rfl (fcP rfl (fcP (by decide) (fcP rfl (fcP rfl (fcP (by decide) (fcP rfl (fcP (by decide +kernel) (fcP (by decide +kernel) (fcP rfl (fcP (by decide) (fcP rfl (fcP (by decide +kernel) (fcP (by decide +kernel) (fcP rfl (fcP rfl (fcP (Jvm.Free.Fl.noNaN64_no.mp (div_nn (by decide +kernel) (mx_ne _ (by decide)))) (fcP rfl (fcP rfl (fcP (by decide +kernel) (fcP rfl (fcP (by decide +kernel) (fcP rfl (fcP rfl (fcP rfl (fcP (by decide +kernel) (fcP (by decide +kernel) (fcP (by decide +kernel) (fcP (by decide +kernel) (fcP (by decide +kernel) (fcP (by decide +kernel) (fcP rfl (fcP (Jvm.Free.Fl.noNaN64_no.mp (div_nn (by decide +kernel) (mx_ne _ (by decide)))) (fcP (fin_ne (by decide +kernel) (div_nn (by decide +kernel) (mx_ne _ (by decide)))) (fnP))))))))))))))))))))))))))))))))))))))))))))))))))))))))))))
    · by_cases pB1 : (i1 &&& (Int32.ofInt (2))).toInt = 0
      · by_cases pB2 : (i1 &&& (Int32.ofInt (4))).toInt = 0
        · refine Good.of (some ([false, false, false, true, false, true, true, true, true, false, false, false, true, true, true, false, true, true, true, true, true, false, false, false, true, false, true, true, true, false, true, true, true, true, true, true, false], [(3)])) rfl ?_
          simp only [List.nil_append, List.append_nil, List.cons_append]
          exact fcP (by decide) (fcP (by assumption) (fcP rfl (fcP (fl (h_eq _) (by assumption)) (fcP rfl (fcP (tr (h_eq _) (by assumption)) (fcP rfl (fcP (tr (h_eq _) (by assumption)) (fcP rfl (fcP rfl (fcP rfl (fcP (by decide) (fcP rfl (fcP (by decide) (fcP rfl (fcP (by decide) (fcP rfl (fcP (by decide) (fcP rfl (fcP rfl (fcP rfl (fcP rfl (fcP rfl (fcP rfl (fcP rfl (fcP rfl (fcP rfl (fcP rfl (fcP (by decide) (fcP rfl (fcP (by decide +kernel) (fcP (by decide +kernel) (fcP rfl (fcP (by decide) (fcP rfl (fcP rfl (fcP (by decide) (fcP rfl (fcP rfl (fcP rfl (fcP (Jvm.Free.Fl.noNaN64_no.mp (div_nn (by decide +kernel) (mx_ne _ (by decide)))) (fcP rfl (fcP (by decide +kernel) (fcP rfl (fcP rfl (fcP rfl (fcP rfl (fcP rfl (fcP (by decide +kernel) (fcP (by decide +kernel) (fcP (by decide +kernel) (fcP (by decide +kernel) (fcP (by decide +kernel) (fcP (by decide +kernel) (fcP rfl (fcP (Jvm.Free.Fl.noNaN64_no.mp (div_nn (by decide +kernel) (mx_ne _ (by decide)))) (fcP (fin_ne (by decide +kernel) (div_nn (by decide +kernel) (mx_ne _ (by decide)))) (fnP)))))))))))))))))))))))))))))))))))))))))))))))))))))))))
        · refine Good.of (some ([false, false, false, true, false, false, true, true, true, false, false, false, true, true, true, false, true, false, true, true, true, false, false, false, true, false, false, true, true, false, true, false, true, true, true, true, false], [(3)])) rfl ?_
          simp only [List.nil_append, List.append_nil, List.cons_append]
          exact fcP (by decide) (fcP (by assumption) (fcP rfl (fcP (fl (h_eq _) (by assumption)) (fcP rfl (fcP (tr (h_eq _) (by assumption)) (fcP rfl (fcP (fl (h_eq _) (by assumption)) (fcP rfl (fcP rfl (fcP rfl (fcP (by decide) (fcP rfl (fcP (by decide) (fcP rfl (fcP (by decide) (fcP rfl (fcP (by decide) (fcP rfl (fcP rfl (fcP rfl (fcP rfl (fcP rfl (fcP rfl (fcP rfl (fcP rfl (fcP rfl (fcP rfl (fcP (by decide) (fcP rfl (fcP (by decide +kernel) (fcP (by decide +kernel) (fcP rfl (fcP (by decide) (fcP rfl (fcP rfl (fcP (by decide) (fcP rfl (fcP (by decide +kernel) (fcP (by decide +kernel) (fcP rfl (fcP rfl (fcP (Jvm.Free.Fl.noNaN64_no.mp (div_nn (by decide +kernel) (mx_ne _ (by decide)))) (fcP rfl (fcP (by decide +kernel) (fcP rfl (fcP rfl (fcP (by decide +kernel) (fcP rfl (fcP rfl (fcP rfl (fcP (by decide +kernel) (fcP (by decide +kernel) (fcP (by decide +kernel) (fcP (by decide +kernel) (fcP (by decide +kernel) (fcP (by decide +kernel) (fcP rfl (fcP (Jvm.Free.Fl.noNaN64_no.mp (div_nn (by decide +kernel) (mx_ne _ (by decide)))) (fcP (fin_ne (by decide +kernel) (div_nn (by decide +kernel) (mx_ne _ (by decide)))) (fnP))))))))))))))))))))))))))))))))))))))))))))))))))))))))))))
      · by_cases pB2 : (i1 &&& (Int32.ofInt (4))).toInt = 0
        · refine Good.of (some ([false, false, false, false, false, true, true, true, true, false, false, false, true, true, true, false, false, true, true, true, true, false, false, false, false, false, true, true, true, false, false, true, true, true, true, true, false], [(3)])) rfl ?_
          simp only [List.nil_append, List.append_nil, List.cons_append]
          exact fcP (by decide) (fcP (by assumption) (fcP rfl (fcP (fl (h_eq _) (by assumption)) (fcP rfl (fcP (fl (h_eq _) (by assumption)) (fcP rfl (fcP (tr (h_eq _) (by assumption)) (fcP rfl (fcP rfl (fcP rfl (fcP (by decide) (fcP rfl (fcP (by decide) (fcP rfl (fcP (by decide) (fcP rfl (fcP (by decide) (fcP rfl (fcP rfl (fcP rfl (fcP rfl (fcP rfl (fcP rfl (fcP rfl (fcP rfl (fcP rfl (fcP rfl (fcP (by decide) (fcP rfl (fcP (by decide +kernel) (fcP (by decide +kernel) (fcP rfl (fcP (by decide) (fcP rfl (fcP (by decide +kernel) (fcP (by decide +kernel) (fcP rfl (fcP (by decide) (fcP rfl (fcP rfl (fcP rfl (fcP (Jvm.Free.Fl.noNaN64_no.mp (div_nn (by decide +kernel) (mx_ne _ (by decide)))) (fcP rfl (fcP (by decide +kernel) (fcP rfl (fcP (by decide +kernel) (fcP rfl (fcP rfl (fcP rfl (fcP rfl (fcP (by decide +kernel) (fcP (by decide +kernel) (fcP (by decide +kernel) (fcP (by decide +kernel) (fcP (by decide +kernel) (fcP (by decide +kernel) (fcP rfl (fcP (Jvm.Free.Fl.noNaN64_no.mp (div_nn (by decide +kernel) (mx_ne _ (by decide)))) (fcP (fin_ne (by decide +kernel) (div_nn (by decide +kernel) (mx_ne _ (by decide)))) (fnP))))))))))))))))))))))))))))))))))))))))))))))))))))))))))))
        · refine Good.of (some ([false, false, false, false, false, false, true, true, true, false, false, false, true, true, true, false, false, false, true, true, true, false, false, false, false, false, false, true, true, false, false, false, true, true, true, true, false], [(3)])) rfl ?_
          simp only [List.nil_append, List.append_nil, List.cons_append]
          exact fcP (by decide) (fcP (by assumption) (fcP rfl (fcP (fl (h_eq _) (by assumption)) (fcP rfl (fcP (fl (h_eq _) (by assumption)) (fcP rfl (fcP (fl (h_eq _) (by assumption)) (fcP rfl (fcP rfl (fcP rfl (fcP (by decide) (fcP rfl (fcP (by decide) (fcP rfl (fcP (by decide) (fcP rfl (fcP (by decide) (fcP rfl (fcP rfl (fcP rfl (fcP rfl (fcP rfl (fcP rfl (fcP rfl (fcP rfl (fcP rfl (fcP rfl (fcP (by decide) (fcP rfl (fcP (by decide +kernel) (fcP (by decide +kernel) (fcP rfl (fcP (by decide) (fcP rfl (fcP (by decide +kernel) (fcP (by decide +kernel) (fcP rfl (fcP (by decide) (fcP rfl (fcP (by decide +kernel) (fcP (by decide +kernel) (fcP rfl (fcP rfl (fcP (Jvm.Free.Fl.noNaN64_no.mp (div_nn (by decide +kernel) (mx_ne _ (by decide)))) (fcP rfl (fcP (by decide +kernel) (fcP rfl (fcP (by decide +kernel) (fcP rfl (fcP (by decide +kernel) (fcP rfl (fcP rfl (fcP rfl (fcP (by decide +kernel) (fcP (by decide +kernel) (fcP (by decide +kernel) (fcP (by decide +kernel) (fcP (by decide +kernel) (fcP (by decide +kernel) (fcP rfl (fcP (Jvm.Free.Fl.noNaN64_no.mp (div_nn (by decide +kernel) (mx_ne _ (by decide)))) (fcP (fin_ne (by decide +kernel) (div_nn (by decide +kernel) (mx_ne _ (by decide)))) (fnP)))))))))))))))))))))))))))))))))))))))))))))))))))))))))))))))
  · by_cases pB0 : (i1 &&& (Int32.ofInt (1))).toInt = 0
    · by_cases pB1 : (i1 &&& (Int32.ofInt (2))).toInt = 0
      · by_cases pB2 : (i1 &&& (Int32.ofInt (4))).toInt = 0
        · by_cases pB3 : (i1 &&& ((Int8.ofInt (8)).toInt32)).toInt = 0
          · refine Good.of (some ([false, true, false, true, false, true, false, true, true, true, false, false, false, false, true, true, true, true, true, true, true, true, false, true, false, true, false, true, false, true, true, false, true, true, true, true, true, true, false, false], [(4)])) rfl ?_
            simp only [List.nil_append, List.append_nil, List.cons_append]
            exact fcP (by decide) (fcP (by assumption) (fcP rfl (fcP (tr (h_eq _) (by assumption)) (fcP rfl (fcP (tr (h_eq _) (by assumption)) (fcP rfl (fcP (tr (h_eq _) (by assumption)) (fcP rfl (fcP (tr (h_eq _) (by assumption)) (fcP rfl (fcP rfl (fcP (by decide) (fcP rfl (fcP (by decide) (fcP rfl (fcP (by decide) (fcP rfl (fcP (by decide) (fcP rfl (fcP (by decide) (fcP rfl (fcP rfl (fcP rfl (fcP rfl (fcP rfl (fcP rfl (fcP rfl (fcP rfl (fcP rfl (fcP (by decide) (fcP rfl (fcP rfl (fcP (by decide) (fcP rfl (fcP rfl (fcP (by decide) (fcP rfl (fcP rfl (fcP (by decide) (fcP rfl (fcP rfl (fcP rfl (fcP rfl (fcP rfl (fcP rfl (fcP rfl (fcP rfl (fcP rfl (fcP (by decide +kernel) (fcP (by decide +kernel) (fcP (by decide +kernel) (fcP (by decide +kernel) (fcP (by decide +kernel) (fcP (by decide +kernel) (fcP rfl (fcP (by decide +kernel) (fnP)))))))))))))))))))))))))))))))))))))))))))))))))))))))))
          · refine Good.of (some ([false, true, false, true, false, true, false, false, true, true, false, false, false, false, true, true, true, true, true, false, true, true, false, true, false, true, false, true, false, false, true, true, true, true, true, false, true, true, true, false], [(4)])) rfl ?_
            simp only [List.nil_append, List.append_nil, List.cons_append]
            exact fcP (by decide) (fcP (by assumption) (fcP rfl (fcP (tr (h_eq _) (by assumption)) (fcP rfl (fcP (tr (h_eq _) (by assumption)) (fcP rfl (fcP (tr (h_eq _) (by assumption)) (fcP rfl (fcP (fl (h_eq _) (by assumption)) (fcP rfl (fcP rfl (fcP (by decide) (fcP rfl (fcP (by decide) (fcP rfl (fcP (by decide) (fcP rfl (fcP (by decide) (fcP rfl (fcP (by decide) (fcP rfl (fcP rfl (fcP rfl (fcP rfl (fcP rfl (fcP rfl (fcP rfl (fcP rfl (fcP rfl (fcP (by decide) (fcP rfl (fcP rfl (fcP (by decide) (fcP rfl (fcP rfl (fcP (by decide) (fcP rfl (fcP rfl (fcP (by decide) (fcP rfl (fcP (by decide +kernel) (fcP (by decide +kernel) (fcP rfl (fcP rfl (fcP (Jvm.Free.Fl.noNaN64_no.mp (div_nn (by decide +kernel) (mx_ne _ (by decide)))) (fcP rfl (fcP rfl (fcP rfl (fcP rfl (fcP (by decide +kernel) (fcP rfl (fcP rfl (fcP (by decide +kernel) (fcP (by decide +kernel) (fcP (by decide +kernel) (fcP (by decide +kernel) (fcP (by decide +kernel) (fcP (by decide +kernel) (fcP rfl (fcP (Jvm.Free.Fl.noNaN64_no.mp (div_nn (by decide +kernel) (mx_ne _ (by decide)))) (fcP (fin_ne (by decide +kernel) (div_nn (by decide +kernel) (mx_ne _ (by decide)))) (fnP))))))))))))))))))))))))))))))))))))))))))))))))))))))))))))))
        · by_cases pB3 : (i1 &&& ((Int8.ofInt (8)).toInt32)).toInt = 0
          · refine Good.of (some ([false, true, false, true, false, false, false, true, true, true, false, false, false, false, true, true, true, true, false, true, true, true, false, true, false, true, false, false, false, true, true, true, true, true, false, true, true, true, true, false], [(4)])) rfl ?_
            simp only [List.nil_append, List.append_nil, List.cons_append]
            exact fcP (by decide) (fcP (by assumption) (fcP rfl (fcP (tr (h_eq _) (by assumption)) (fcP rfl (fcP (tr (h_eq _) (by assumption)) (fcP rfl (fcP (fl (h_eq _) (by assumption)) (fcP rfl (fcP (tr (h_eq _) (by assumption)) (fcP rfl (fcP rfl (fcP (by decide) (fcP rfl (fcP (by decide) (fcP rfl (fcP (by decide) (fcP rfl (fcP (by decide) (fcP rfl (fcP (by decide) (fcP rfl (fcP rfl (fcP rfl (fcP rfl (fcP rfl (fcP rfl (fcP rfl (fcP rfl (fcP rfl (fcP (by decide) (fcP rfl (fcP rfl (fcP (by decide) (fcP rfl (fcP rfl (fcP (by decide) (fcP rfl (fcP (by decide +kernel) (fcP (by decide +kernel) (fcP rfl (fcP (by decide) (fcP rfl (fcP rfl (fcP rfl (fcP (Jvm.Free.Fl.noNaN64_no.mp (div_nn (by decide +kernel) (mx_ne _ (by decide)))) (fcP rfl (fcP rfl (fcP rfl (fcP (by decide +kernel) (fcP rfl (fcP rfl (fcP rfl (fcP (by decide +kernel) (fcP (by decide +kernel) (fcP (by decide +kernel) (fcP (by decide +kernel) (fcP (by decide +kernel) (fcP (by decide +kernel) (fcP rfl (fcP (Jvm.Free.Fl.noNaN64_no.mp (div_nn (by decide +kernel) (mx_ne _ (by decide)))) (fcP (fin_ne (by decide +kernel) (div_nn (by decide +kernel) (mx_ne _ (by decide)))) (fnP))))))))))))))))))))))))))))))))))))))))))))))))))))))))))))))
          · refine Good.of (some ([false, true, false, true, false, false, false, false, true, true, false, false, false, false, true, true, true, true, false, false, true, true, false, true, false, true, false, false, false, false, true, true, true, true, false, false, true, true, true, false], [(4)])) rfl ?_
            simp only [List.nil_append, List.append_nil, List.cons_append]
            exact fcP (by decide) (fcP (by assumption) (fcP rfl (fcP (tr (h_eq _) (by assumption)) (fcP rfl (fcP (tr (h_eq _) (by assumption)) (fcP rfl (fcP (fl (h_eq _) (by assumption)) (fcP rfl (fcP (fl (h_eq _) (by assumption)) (fcP rfl (fcP rfl (fcP (by decide) (fcP rfl (fcP (by decide) (fcP rfl (fcP (by decide) (fcP rfl (fcP (by decide) (fcP rfl (fcP (by decide) (fcP rfl (fcP rfl (fcP rfl (fcP rfl (fcP rfl (fcP rfl (fcP rfl (fcP rfl (fcP rfl (fcP (by decide) (fcP rfl (fcP rfl (fcP (by decide) (fcP rfl (fcP rfl (fcP (by decide) (fcP rfl (fcP (by decide +kernel) (fcP (by decide +kernel) (fcP rfl (fcP (by decide) (fcP rfl (fcP (by decide +kernel) (fcP (by decide +kernel) (fcP rfl (fcP rfl (fcP (Jvm.Free.Fl.noNaN64_no.mp (div_nn (by decide +kernel) (mx_ne _ (by decide)))) (fcP rfl (fcP rfl (fcP rfl (fcP (by decide +kernel) (fcP rfl (fcP (by decide +kernel) (fcP rfl (fcP rfl (fcP (by decide +kernel) (fcP (by decide +kernel) (fcP (by decide +kernel) (fcP (by decide +kernel) (fcP (by decide +kernel) (fcP (by decide +kernel) (fcP rfl (fcP (Jvm.Free.Fl.noNaN64_no.mp (div_nn (by decide +kernel) (mx_ne _ (by decide)))) (fcP (fin_ne (by decide +kernel) (div_nn (by decide +kernel) (mx_ne _ (by decide)))) (fnP)))))))))))))))))))))))))))))))))))))))))))))))))))))))))))))))))
      · by_cases pB2 : (i1 &&& (Int32.ofInt (4))).toInt = 0
        · by_cases pB3 : (i1 &&& ((Int8.ofInt (8)).toInt32)).toInt = 0
          · refine Good.of (some ([false, true, false, false, false, true, false, true, true, true, false, false, false, false, true, true, true, false, true, true, true, true, false, true, false, false, false, true, false, true, true, true, true, false, true, true, true, true, true, false], [(4)])) rfl ?_
            simp only [List.nil_append, List.append_nil, List.cons_append]
            exact fcP (by decide) (fcP (by assumption) (fcP rfl (fcP (tr (h_eq _) (by assumption)) (fcP rfl (fcP (fl (h_eq _) (by assumption)) (fcP rfl (fcP (tr (h_eq _) (by assumption)) (fcP rfl (fcP (tr (h_eq _) (by assumption)) (fcP rfl (fcP rfl (fcP (by decide) (fcP rfl (fcP (by decide) (fcP rfl (fcP (by decide) (fcP rfl (fcP (by decide) (fcP rfl (fcP (by decide) (fcP rfl (fcP rfl (fcP rfl (fcP rfl (fcP rfl (fcP rfl (fcP rfl (fcP rfl (fcP rfl (fcP (by decide) (fcP rfl (fcP rfl (fcP (by decide) (fcP rfl (fcP (by decide +kernel) (fcP (by decide +kernel) (fcP rfl (fcP (by decide) (fcP rfl (fcP rfl (fcP (by decide) (fcP rfl (fcP rfl (fcP rfl (fcP (Jvm.Free.Fl.noNaN64_no.mp (div_nn (by decide +kernel) (mx_ne _ (by decide)))) (fcP rfl (fcP rfl (fcP (by decide +kernel) (fcP rfl (fcP rfl (fcP rfl (fcP rfl (fcP (by decide +kernel) (fcP (by decide +kernel) (fcP (by decide +kernel) (fcP (by decide +kernel) (fcP (by decide +kernel) (fcP (by decide +kernel) (fcP rfl (fcP (Jvm.Free.Fl.noNaN64_no.mp (div_nn (by decide +kernel) (mx_ne _ (by decide)))) (fcP (fin_ne (by decide +kernel) (div_nn (by decide +kernel) (mx_ne _ (by decide)))) (fnP))))))))))))))))))))))))))))))))))))))))))))))))))))))))))))))
          · refine Good.of (some ([false, true, false, false, false, true, false, false, true, true, false, false, false, false, true, true, true, false, true, false, true, true, false, true, false, false, false, true, false, false, true, true, true, false, true, false, true, true, true, false], [(4)])) rfl ?_
            simp only [List.nil_append, List.append_nil, List.cons_append]
            exact fcP (by decide) (fcP (by assumption) (fcP rfl (fcP (tr (h_eq _) (by assumption)) (fcP rfl (fcP (fl (h_eq _) (by assumption)) (fcP rfl (fcP (tr (h_eq _) (by assumption)) (fcP rfl (fcP (fl (h_eq _) (by assumption)) (fcP rfl (fcP rfl (fcP (by decide) (fcP rfl (fcP (by decide) (fcP rfl (fcP (by decide) (fcP rfl (fcP (by decide) (fcP rfl (fcP (by decide) (fcP rfl (fcP rfl (fcP rfl (fcP rfl (fcP rfl (fcP rfl (fcP rfl (fcP rfl (fcP rfl (fcP (by decide) (fcP rfl (fcP rfl (fcP (by decide) (fcP rfl (fcP (by decide +kernel) (fcP (by decide +kernel) (fcP rfl (fcP (by decide) (fcP rfl (fcP rfl (fcP (by decide) (fcP rfl (fcP (by decide +kernel) (fcP (by decide +kernel) (fcP rfl (fcP rfl (fcP (Jvm.Free.Fl.noNaN64_no.mp (div_nn (by decide +kernel) (mx_ne _ (by decide)))) (fcP rfl (fcP rfl (fcP (by decide +kernel) (fcP rfl (fcP rfl (fcP (by decide +kernel) (fcP rfl (fcP rfl (fcP (by decide +kernel) (fcP (by decide +kernel) (fcP (by decide +kernel) (fcP (by decide +kernel) (fcP (by decide +kernel) (fcP (by decide +kernel) (fcP rfl (fcP (Jvm.Free.Fl.noNaN64_no.mp (div_nn (by decide +kernel) (mx_ne _ (by decide)))) (fcP (fin_ne (by decide +kernel) (div_nn (by decide +kernel) (mx_ne _ (by decide)))) (fnP)))))))))))))))))))))))))))))))))))))))))))))))))))))))))))))))))
        · by_cases pB3 : (i1 &&& ((Int8.ofInt (8)).toInt32)).toInt = 0
          · refine Good.of (some ([false, true, false, false, false, false, false, true, true, true, false, false, false, false, true, true, true, false, false, true, true, true, false, true, false, false, false, false, false, true, true, true, true, false, false, true, true, true, true, false], [(4)])) rfl ?_
            simp only [List.nil_append, List.append_nil, List.cons_append]
            exact fcP (by decide) (fcP (by assumption) (fcP rfl (fcP (tr (h_eq _) (by assumption)) (fcP rfl (fcP (fl (h_eq _) (by assumption)) (fcP rfl (fcP (fl (h_eq _) (by assumption)) (fcP rfl (fcP (tr (h_eq _) (by assumption)) (fcP rfl (fcP rfl (fcP (by decide) (fcP rfl (fcP (by decide) (fcP rfl (fcP (by decide) (fcP rfl (fcP (by decide) (fcP rfl (fcP (by decide) (fcP rfl (fcP rfl (fcP rfl (fcP rfl (fcP rfl (fcP rfl (fcP rfl (fcP rfl (fcP rfl (fcP (by decide) (fcP rfl (fcP rfl (fcP (by decide) (fcP rfl (fcP (by decide +kernel) (fcP (by decide +kernel) (fcP rfl (fcP (by decide) (fcP rfl (fcP (by decide +kernel) (fcP (by decide +kernel) (fcP rfl (fcP (by decide) (fcP rfl (fcP rfl (fcP rfl (fcP (Jvm.Free.Fl.noNaN64_no.mp (div_nn (by decide +kernel) (mx_ne _ (by decide)))) (fcP rfl (fcP rfl (fcP (by decide +kernel) (fcP rfl (fcP (by decide +kernel) (fcP rfl (fcP rfl (fcP rfl (fcP (by decide +kernel) (fcP (by decide +kernel) (fcP (by decide +kernel) (fcP (by decide +kernel) (fcP (by decide +kernel) (fcP (by decide +kernel) (fcP rfl (fcP (Jvm.Free.Fl.noNaN64_no.mp (div_nn (by decide +kernel) (mx_ne _ (by decide)))) (fcP (fin_ne (by decide +kernel) (div_nn (by decide +kernel) (mx_ne _ (by decide)))) (fnP)))))))))))))))))))))))))))))))))))))))))))))))))))))))))))))))))
          · refine Good.of (some ([false, true, false, false, false, false, false, false, true, true, false, false, false, false, true, true, true, false, false, false, true, true, false, true, false, false, false, false, false, false, true, true, true, false, false, false, true, true, true, false], [(4)])) rfl ?_
            simp only [List.nil_append, List.append_nil, List.cons_append]
            exact fcP (by decide) (fcP (by assumption) (fcP rfl (fcP (tr (h_eq _) (by assumption)) (fcP rfl (fcP (fl (h_eq _) (by assumption)) (fcP rfl (fcP (fl (h_eq _) (by assumption)) (fcP rfl (fcP (fl (h_eq _) (by assumption)) (fcP rfl (fcP rfl (fcP (by decide) (fcP rfl (fcP (by decide) (fcP rfl (fcP (by decide) (fcP rfl (fcP (by decide) (fcP rfl (fcP (by decide) (fcP rfl (fcP rfl (fcP rfl (fcP rfl (fcP rfl (fcP rfl (fcP rfl (fcP rfl (fcP rfl (fcP (by decide) (fcP rfl (fcP rfl (fcP (by decide) (fcP rfl (fcP (by decide +kernel) (fcP (by decide +kernel) (fcP rfl (fcP (by decide) (fcP rfl (fcP (by decide +kernel) (fcP (by decide +kernel) (fcP rfl (fcP (by decide) (fcP rfl (fcP (by decide +kernel) (fcP (by decide +kernel) (fcP rfl (fcP rfl (fcP (Jvm.Free.Fl.noNaN64_no.mp (div_nn (by decide +kernel) (mx_ne _ (by decide)))) (fcP rfl (fcP rfl (fcP (by decide +kernel) (fcP rfl (fcP (by decide +kernel) (fcP rfl (fcP (by decide +kernel) (fcP rfl (fcP rfl (fcP (by decide +kernel) (fcP (by decide +kernel) (fcP (by decide +kernel) (fcP (by decide +kernel) (fcP (by decide +kernel) (fcP (by decide +kernel) (fcP rfl (fcP (Jvm.Free.Fl.noNaN64_no.mp (div_nn (by decide +kernel) (mx_ne _ (by decide)))) (fcP (fin_ne (by decide +kernel) (div_nn (by decide +kernel) (mx_ne _ (by decide)))) (fnP))))))))))))))))))))))))))))))))))))))))))))))))))))))))))))))))))))
    · by_cases pB1 : (i1 &&& (Int32.ofInt (2))).toInt = 0
      · by_cases pB2 : (i1 &&& (Int32.ofInt (4))).toInt = 0
        · by_cases pB3 : (i1 &&& ((Int8.ofInt (8)).toInt32)).toInt = 0
          · refine Good.of (some ([false, false, false, true, false, true, false, true, true, true, false, false, false, false, true, true, false, true, true, true, true, true, false, false, false, true, false, true, false, true, true, true, false, true, true, true, true, true, true, false], [(4)])) rfl ?_
            simp only [List.nil_append, List.append_nil, List.cons_append]
            exact fcP (by decide) (fcP (by assumption) (fcP rfl (fcP (fl (h_eq _) (by assumption)) (fcP rfl (fcP (tr (h_eq _) (by assumption)) (fcP rfl (fcP (tr (h_eq _) (by assumption)) (fcP rfl (fcP (tr (h_eq _) (by assumption)) (fcP rfl (fcP rfl (fcP (by decide) (fcP rfl (fcP (by decide) (fcP rfl (fcP (by decide) (fcP rfl (fcP (by decide) (fcP rfl (fcP (by decide) (fcP rfl (fcP rfl (fcP rfl (fcP rfl (fcP rfl (fcP rfl (fcP rfl (fcP rfl (fcP rfl (fcP (by decide) (fcP rfl (fcP (by decide +kernel) (fcP (by decide +kernel) (fcP rfl (fcP (by decide) (fcP rfl (fcP rfl (fcP (by decide) (fcP rfl (fcP rfl (fcP (by decide) (fcP rfl (fcP rfl (fcP rfl (fcP (Jvm.Free.Fl.noNaN64_no.mp (div_nn (by decide +kernel) (mx_ne _ (by decide)))) (fcP rfl (fcP (by decide +kernel) (fcP rfl (fcP rfl (fcP rfl (fcP rfl (fcP rfl (fcP (by decide +kernel) (fcP (by decide +kernel) (fcP (by decide +kernel) (fcP (by decide +kernel) (fcP (by decide +kernel) (fcP (by decide +kernel) (fcP rfl (fcP (Jvm.Free.Fl.noNaN64_no.mp (div_nn (by decide +kernel) (mx_ne _ (by decide)))) (fcP (fin_ne (by decide +kernel) (div_nn (by decide +kernel) (mx_ne _ (by decide)))) (fnP))))))))))))))))))))))))))))))))))))))))))))))))))))))))))))))
          · refine Good.of (some ([false, false, false, true, false, true, false, false, true, true, false, false, false, false, true, true, false, true, true, false, true, true, false, false, false, true, false, true, false, false, true, true, false, true, true, false, true, true, true, false], [(4)])) rfl ?_
            simp only [List.nil_append, List.append_nil, List.cons_append]
            exact fcP (by decide) (fcP (by assumption) (fcP rfl (fcP (fl (h_eq _) (by assumption)) (fcP rfl (fcP (tr (h_eq _) (by assumption)) (fcP rfl (fcP (tr (h_eq _) (by assumption)) (fcP rfl (fcP (fl (h_eq _) (by assumption)) (fcP rfl (fcP rfl (fcP (by decide) (fcP rfl (fcP (by decide) (fcP rfl (fcP (by decide) (fcP rfl (fcP (by decide) (fcP rfl (fcP (by decide) (fcP rfl (fcP rfl (fcP rfl (fcP rfl (fcP rfl (fcP rfl (fcP rfl (fcP rfl (fcP rfl (fcP (by decide) (fcP rfl (fcP (by decide +kernel) (fcP (by decide +kernel) (fcP rfl (fcP (by decide) (fcP rfl (fcP rfl (fcP (by decide) (fcP rfl (fcP rfl (fcP (by decide) (fcP rfl (fcP (by decide +kernel) (fcP (by decide +kernel) (fcP rfl (fcP rfl (fcP (Jvm.Free.Fl.noNaN64_no.mp (div_nn (by decide +kernel) (mx_ne _ (by decide)))) (fcP rfl (fcP (by decide +kernel) (fcP rfl (fcP rfl (fcP rfl (fcP (by decide +kernel) (fcP rfl (fcP rfl (fcP (by decide +kernel) (fcP (by decide +kernel) (fcP (by decide +kernel) (fcP (by decide +kernel) (fcP (by decide +kernel) (fcP (by decide +kernel) (fcP rfl (fcP (Jvm.Free.Fl.noNaN64_no.mp (div_nn (by decide +kernel) (mx_ne _ (by decide)))) (fcP (fin_ne (by decide +kernel) (div_nn (by decide +kernel) (mx_ne _ (by decide)))) (fnP)))))))))))))))))))))))))))))))))))))))))))))))))))))))))))))))))
        · by_cases pB3 : (i1 &&& ((Int8.ofInt (8)).toInt32)).toInt = 0
          · refine Good.of (some ([false, false, false, true, false, false, false, true, true, true, false, false, false, false, true, true, false, true, false, true, true, true, false, false, false, true, false, false, false, true, true, true, false, true, false, true, true, true, true, false], [(4)])) rfl ?_
            simp only [List.nil_append, List.append_nil, List.cons_append]
            exact fcP (by decide) (fcP (by assumption) (fcP rfl (fcP (fl (h_eq _) (by assumption)) (fcP rfl (fcP (tr (h_eq _) (by assumption)) (fcP rfl (fcP (fl (h_eq _) (by assumption)) (fcP rfl (fcP (tr (h_eq _) (by assumption)) (fcP rfl (fcP rfl (fcP (by decide) (fcP rfl (fcP (by decide) (fcP rfl (fcP (by decide) (fcP rfl (fcP (by decide) (fcP rfl (fcP (by decide) (fcP rfl (fcP rfl (fcP rfl (fcP rfl (fcP rfl (fcP rfl (fcP rfl (fcP rfl (fcP rfl (fcP (by decide) (fcP rfl (fcP (by decide +kernel) (fcP (by decide +kernel) (fcP rfl (fcP (by decide) (fcP rfl (fcP rfl (fcP (by decide) (fcP rfl (fcP (by decide +kernel) (fcP (by decide +kernel) (fcP rfl (fcP (by decide) (fcP rfl (fcP rfl (fcP rfl (fcP (Jvm.Free.Fl.noNaN64_no.mp (div_nn (by decide +kernel) (mx_ne _ (by decide)))) (fcP rfl (fcP (by decide +kernel) (fcP rfl (fcP rfl (fcP (by decide +kernel) (fcP rfl (fcP rfl (fcP rfl (fcP (by decide +kernel) (fcP (by decide +kernel) (fcP (by decide +kernel) (fcP (by decide +kernel) (fcP (by decide +kernel) (fcP (by decide +kernel) (fcP rfl (fcP (Jvm.Free.Fl.noNaN64_no.mp (div_nn (by decide +kernel) (mx_ne _ (by decide)))) (fcP (fin_ne (by decide +kernel) (div_nn (by decide +kernel) (mx_ne _ (by decide)))) (fnP)))))))))))))))))))))))))))))))))))))))))))))))))))))))))))))))))
          · refine Good.of (some ([false, false, false, true, false, false, false, false, true, true, false, false, false, false, true, true, false, true, false, false, true, true, false, false, false, true, false, false, false, false, true, true, false, true, false, false, true, true, true, false], [(4)])) rfl ?_
            simp only [List.nil_append, List.append_nil, List.cons_append]
            exact fcP (by decide) (fcP (by assumption) (fcP rfl (fcP (fl (h_eq _) (by assumption)) (fcP rfl (fcP (tr (h_eq _) (by assumption)) (fcP rfl (fcP (fl (h_eq _) (by assumption)) (fcP rfl (fcP (fl (h_eq _) (by assumption)) (fcP rfl (fcP rfl (fcP (by decide) (fcP rfl (fcP (by decide) (fcP rfl (fcP (by decide) (fcP rfl (fcP (by decide) (fcP rfl (fcP (by decide) (fcP rfl (fcP rfl (fcP rfl (fcP rfl (fcP rfl (fcP rfl (fcP rfl (fcP rfl (fcP rfl (fcP (by decide) (fcP rfl (fcP (by decide +kernel) (fcP (by decide +kernel) (fcP rfl (fcP (by decide) (fcP rfl (fcP rfl (fcP (by decide) (fcP rfl (fcP (by decide +kernel) (fcP (by decide +kernel) (fcP rfl (fcP (by decide) (fcP rfl (fcP (by decide +kernel) (fcP (by decide +kernel) (fcP rfl (fcP rfl (fcP (Jvm.Free.Fl.noNaN64_no.mp (div_nn (by decide +kernel) (mx_ne _ (by decide)))) (fcP rfl (fcP (by decide +kernel) (fcP rfl (fcP rfl (fcP (by decide +kernel) (fcP rfl (fcP (by decide +kernel) (fcP rfl (fcP rfl (fcP (by decide +kernel) (fcP (by decide +kernel) (fcP (by decide +kernel) (fcP (by decide +kernel) (fcP (by decide +kernel) (fcP (by decide +kernel) (fcP rfl (fcP (Jvm.Free.Fl.noNaN64_no.mp (div_nn (by decide +kernel) (mx_ne _ (by decide)))) (fcP (fin_ne (by decide +kernel) (div_nn (by decide +kernel) (mx_ne _ (by decide)))) (fnP))))))))))))))))))))))))))))))))))))))))))))))))))))))))))))))))))))
      · by_cases pB2 : (i1 &&& (Int32.ofInt (4))).toInt = 0
        · by_cases pB3 : (i1 &&& ((Int8.ofInt (8)).toInt32)).toInt = 0
          · refine Good.of (some ([false, false, false, false, false, true, false, true, true, true, false, false, false, false, true, true, false, false, true, true, true, true, false, false, false, false, false, true, false, true, true, true, false, false, true, true, true, true, true, false], [(4)])) rfl ?_
            simp only [List.nil_append, List.append_nil, List.cons_append]
            exact fcP (by decide) (fcP (by assumption) (fcP rfl (fcP (fl (h_eq _) (by assumption)) (fcP rfl (fcP (fl (h_eq _) (by assumption)) (fcP rfl (fcP (tr (h_eq _) (by assumption)) (fcP rfl (fcP (tr (h_eq _) (by assumption)) (fcP rfl (fcP rfl (fcP (by decide) (fcP rfl (fcP (by decide) (fcP rfl (fcP (by decide) (fcP rfl (fcP (by decide) (fcP rfl (fcP (by decide) (fcP rfl (fcP rfl (fcP rfl (fcP rfl (fcP rfl (fcP rfl (fcP rfl (fcP rfl (fcP rfl (fcP (by decide) (fcP rfl (fcP (by decide +kernel) (fcP (by decide +kernel) (fcP rfl (fcP (by decide) (fcP rfl (fcP (by decide +kernel) (fcP (by decide +kernel) (fcP rfl (fcP (by decide) (fcP rfl (fcP rfl (fcP (by decide) (fcP rfl (fcP rfl (fcP rfl (fcP (Jvm.Free.Fl.noNaN64_no.mp (div_nn (by decide +kernel) (mx_ne _ (by decide)))) (fcP rfl (fcP (by decide +kernel) (fcP rfl (fcP (by decide +kernel) (fcP rfl (fcP rfl (fcP rfl (fcP rfl (fcP (by decide +kernel) (fcP (by decide +kernel) (fcP (by decide +kernel) (fcP (by decide +kernel) (fcP (by decide +kernel) (fcP (by decide +kernel) (fcP rfl (fcP (Jvm.Free.Fl.noNaN64_no.mp (div_nn (by decide +kernel) (mx_ne _ (by decide)))) (fcP (fin_ne (by decide +kernel) (div_nn (by decide +kernel) (mx_ne _ (by decide)))) (fnP)))))))))))))))))))))))))))))))))))))))))))))))))))))))))))))))))
          · refine Good.of (some ([false, false, false, false, false, true, false, false, true, true, false, false, false, false, true, true, false, false, true, false, true, true, false, false, false, false, false, true, false, false, true, true, false, false, true, false, true, true, true, false], [(4)])) rfl ?_
            simp only [List.nil_append, List.append_nil, List.cons_append]
            exact fcP (by decide) (fcP (by assumption) (fcP rfl (fcP (fl (h_eq _) (by assumption)) (fcP rfl (fcP (fl (h_eq _) (by assumption)) (fcP rfl (fcP (tr (h_eq _) (by assumption)) (fcP rfl (fcP (fl (h_eq _) (by assumption)) (fcP rfl (fcP rfl (fcP (by decide) (fcP rfl (fcP (by decide) (fcP rfl (fcP (by decide) (fcP rfl (fcP (by decide) (fcP rfl (fcP (by decide) (fcP rfl (fcP rfl (fcP rfl (fcP rfl (fcP rfl (fcP rfl (fcP rfl (fcP rfl (fcP rfl (fcP (by decide) (fcP rfl (fcP (by decide +kernel) (fcP (by decide +kernel) (fcP rfl (fcP (by decide) (fcP rfl (fcP (by decide +kernel) (fcP (by decide +kernel) (fcP rfl (fcP (by decide) (fcP rfl (fcP rfl (fcP (by decide) (fcP rfl (fcP (by decide +kernel) (fcP (by decide +kernel) (fcP rfl (fcP rfl (fcP (Jvm.Free.Fl.noNaN64_no.mp (div_nn (by decide +kernel) (mx_ne _ (by decide)))) (fcP rfl (fcP (by decide +kernel) (fcP rfl (fcP (by decide +kernel) (fcP rfl (fcP rfl (fcP (by decide +kernel) (fcP rfl (fcP rfl (fcP (by decide +kernel) (fcP (by decide +kernel) (fcP (by decide +kernel) (fcP (by decide +kernel) (fcP (by decide +kernel) (fcP (by decide +kernel) (fcP rfl (fcP (Jvm.Free.Fl.noNaN64_no.mp (div_nn (by decide +kernel) (mx_ne _ (by decide)))) (fcP (fin_ne (by decide +kernel) (div_nn (by decide +kernel) (mx_ne _ (by decide)))) (fnP))))))))))))))))))))))))))))))))))))))))))))))))))))))))))))))))))))
        · by_cases pB3 : (i1 &&& ((Int8.ofInt (8)).toInt32)).toInt = 0
          · refine Good.of (some ([false, false, false, false, false, false, false, true, true, true, false, false, false, false, true, true, false, false, false, true, true, true, false, false, false, false, false, false, false, true, true, true, false, false, false, true, true, true, true, false], [(4)])) rfl ?_
            simp only [List.nil_append, List.append_nil, List.cons_append]
            exact fcP (by decide) (fcP (by assumption) (fcP rfl (fcP (fl (h_eq _) (by assumption)) (fcP rfl (fcP (fl (h_eq _) (by assumption)) (fcP rfl (fcP (fl (h_eq _) (by assumption)) (fcP rfl (fcP (tr (h_eq _) (by assumption)) (fcP rfl (fcP rfl (fcP (by decide) (fcP rfl (fcP (by decide) (fcP rfl (fcP (by decide) (fcP rfl (fcP (by decide) (fcP rfl (fcP (by decide) (fcP rfl (fcP rfl (fcP rfl (fcP rfl (fcP rfl (fcP rfl (fcP rfl (fcP rfl (fcP rfl (fcP (by decide) (fcP rfl (fcP (by decide +kernel) (fcP (by decide +kernel) (fcP rfl (fcP (by decide) (fcP rfl (fcP (by decide +kernel) (fcP (by decide +kernel) (fcP rfl (fcP (by decide) (fcP rfl (fcP (by decide +kernel) (fcP (by decide +kernel) (fcP rfl (fcP (by decide) (fcP rfl (fcP rfl (fcP rfl (fcP (Jvm.Free.Fl.noNaN64_no.mp (div_nn (by decide +kernel) (mx_ne _ (by decide)))) (fcP rfl (fcP (by decide +kernel) (fcP rfl (fcP (by decide +kernel) (fcP rfl (fcP (by decide +kernel) (fcP rfl (fcP rfl (fcP rfl (fcP (by decide +kernel) (fcP (by decide +kernel) (fcP (by decide +kernel) (fcP (by decide +kernel) (fcP (by decide +kernel) (fcP (by decide +kernel) (fcP rfl (fcP (Jvm.Free.Fl.noNaN64_no.mp (div_nn (by decide +kernel) (mx_ne _ (by decide)))) (fcP (fin_ne (by decide +kernel) (div_nn (by decide +kernel) (mx_ne _ (by decide)))) (fnP))))))))))))))))))))))))))))))))))))))))))))))))))))))))))))))))))))
          · refine Good.of (some ([false, false, false, false, false, false, false, false, true, true, false, false, false, false, true, true, false, false, false, false, true, true, false, false, false, false, false, false, false, false, true, true, false, false, false, false, true, true, true, false], [(4)])) rfl ?_
            simp only [List.nil_append, List.append_nil, List.cons_append]
            exact fcP (by decide) (fcP (by assumption) (fcP rfl (fcP (fl (h_eq _) (by assumption)) (fcP rfl (fcP (fl (h_eq _) (by assumption)) (fcP rfl (fcP (fl (h_eq _) (by assumption)) (fcP rfl (fcP (fl (h_eq _) (by assumption)) (fcP rfl (fcP rfl (fcP (by decide) (fcP rfl (fcP (by decide) (fcP rfl (fcP (by decide) (fcP rfl (fcP (by decide) (fcP rfl (fcP (by decide) (fcP rfl (fcP rfl (fcP rfl (fcP rfl (fcP rfl (fcP rfl (fcP rfl (fcP rfl (fcP rfl (fcP (by decide) (fcP rfl (fcP (by decide +kernel) (fcP (by decide +kernel) (fcP rfl (fcP (by decide) (fcP rfl (fcP (by decide +kernel) (fcP (by decide +kernel) (fcP rfl (fcP (by decide) (fcP rfl (fcP (by decide +kernel) (fcP (by decide +kernel) (fcP rfl (fcP (by decide) (fcP rfl (fcP (by decide +kernel) (fcP (by decide +kernel) (fcP rfl (fcP rfl (fcP (Jvm.Free.Fl.noNaN64_no.mp (div_nn (by decide +kernel) (mx_ne _ (by decide)))) (fcP rfl (fcP (by decide +kernel) (fcP rfl (fcP (by decide +kernel) (fcP rfl (fcP (by decide +kernel) (fcP rfl (fcP (by decide +kernel) (fcP rfl (fcP rfl (fcP (by decide +kernel) (fcP (by decide +kernel) (fcP (by decide +kernel) (fcP (by decide +kernel) (fcP (by decide +kernel) (fcP (by decide +kernel) (fcP rfl (fcP (Jvm.Free.Fl.noNaN64_no.mp (div_nn (by decide +kernel) (mx_ne _ (by decide)))) (fcP (fin_ne (by decide +kernel) (div_nn (by decide +kernel) (mx_ne _ (by decide)))) (fnP)))))))))))))))))))))))))))))))))))))))))))))))))))))))))))))))))))))))
  · by_cases pB0 : (i1 &&& (Int32.ofInt (1))).toInt = 0
    · by_cases pB1 : (i1 &&& (Int32.ofInt (2))).toInt = 0
      · by_cases pB2 : (i1 &&& (Int32.ofInt (4))).toInt = 0
        · by_cases pB3 : (i1 &&& ((Int8.ofInt (8)).toInt32)).toInt = 0
          · by_cases pB4 : (i1 &&& ((Int8.ofInt (16)).toInt32)).toInt = 0
            · refine Good.of (some ([false, true, false, true, false, true, false, true, false, true, true, false, false, false, false, false, true, true, true, true, true, true, true, false, true, false, true, false, true, false, true, false, true, true, false, true, true, true, true, true, true, false, false], [(5)])) rfl ?_
              simp only [List.nil_append, List.append_nil, List.cons_append]
              exact fcP (by decide) (fcP (by assumption) (fcP rfl (fcP (tr (h_eq _) (by assumption)) (fcP rfl (fcP (tr (h_eq _) (by assumption)) (fcP rfl (fcP (tr (h_eq _) (by assumption)) (fcP rfl (fcP (tr (h_eq _) (by assumption)) (fcP rfl (fcP (tr (h_eq _) (by assumption)) (fcP rfl (fcP (by decide) (fcP rfl (fcP (by decide) (fcP rfl (fcP (by decide) (fcP rfl (fcP (by decide) (fcP rfl (fcP (by decide) (fcP rfl (fcP (by decide) (fcP rfl (fcP rfl (fcP rfl (fcP rfl (fcP rfl (fcP rfl (fcP rfl (fcP rfl (fcP (by decide) (fcP rfl (fcP rfl (fcP (by decide) (fcP rfl (fcP rfl (fcP (by decide) (fcP rfl (fcP rfl (fcP (by decide) (fcP rfl (fcP rfl (fcP (by decide) (fcP rfl (fcP rfl (fcP rfl (fcP rfl (fcP rfl (fcP rfl (fcP rfl (fcP rfl (fcP rfl (fcP (by decide +kernel) (fcP (by decide +kernel) (fcP (by decide +kernel) (fcP (by decide +kernel) (fcP (by decide +kernel) (fcP (by decide +kernel) (fcP rfl (fcP (by decide +kernel) (fnP))))))))))))))))))))))))))))))))))))))))))))))))))))))))))))))
            · refine Good.of (some ([false, true, false, true, false, true, false, true, false, false, true, false, false, false, false, false, true, true, true, true, true, false, true, false, true, false, true, false, true, false, true, false, false, true, true, true, true, true, true, false, true, true, false], [(5)])) rfl ?_
              simp only [List.nil_append, List.append_nil, List.cons_append]
              exact fcP (by decide) (fcP (by assumption) (fcP rfl (fcP (tr (h_eq _) (by assumption)) (fcP rfl (fcP (tr (h_eq _) (by assumption)) (fcP rfl (fcP (tr (h_eq _) (by assumption)) (fcP rfl (fcP (tr (h_eq _) (by assumption)) (fcP rfl (fcP (fl (h_eq _) (by assumption)) (fcP rfl (fcP (by decide) (fcP rfl (fcP (by decide) (fcP rfl (fcP (by decide) (fcP rfl (fcP (by decide) (fcP rfl (fcP (by decide) (fcP rfl (fcP (by decide) (fcP rfl (fcP rfl (fcP rfl (fcP rfl (fcP rfl (fcP rfl (fcP rfl (fcP rfl (fcP (by decide) (fcP rfl (fcP rfl (fcP (by decide) (fcP rfl (fcP rfl (fcP (by decide) (fcP rfl (fcP rfl (fcP (by decide) (fcP rfl (fcP rfl (fcP (by decide) (fcP rfl (fcP (by decide +kernel) (fcP (by decide +kernel) (fcP rfl (fcP rfl (fcP (Jvm.Free.Fl.noNaN64_no.mp (div_nn (by decide +kernel) (mx_ne _ (by decide)))) (fcP rfl (fcP rfl (fcP rfl (fcP rfl (fcP rfl (fcP (by decide +kernel) (fcP rfl (fcP (by decide +kernel) (fcP (by decide +kernel) (fcP (by decide +kernel) (fcP (by decide +kernel) (fcP (by decide +kernel) (fcP (by decide +kernel) (fcP rfl (fcP (Jvm.Free.Fl.noNaN64_no.mp (div_nn (by decide +kernel) (mx_ne _ (by decide)))) (fcP (fin_ne (by decide +kernel) (div_nn (by decide +kernel) (mx_ne _ (by decide)))) (fnP)))))))))))))))))))))))))))))))))))))))))))))))))))))))))))))))))))
          · by_cases pB4 : (i1 &&& ((Int8.ofInt (16)).toInt32)).toInt = 0
            · refine Good.of (some ([false, true, false, true, false, true, false, false, false, true, true, false, false, false, false, false, true, true, true, true, false, true, true, false, true, false, true, false, true, false, false, false, true, true, true, true, true, true, false, true, true, true, false], [(5)])) rfl ?_
              simp only [List.nil_append, List.append_nil, List.cons_append]
              exact fcP (by decide) (fcP (by assumption) (fcP rfl (fcP (tr (h_eq _) (by assumption)) (fcP rfl (fcP (tr (h_eq _) (by assumption)) (fcP rfl (fcP (tr (h_eq _) (by assumption)) (fcP rfl (fcP (fl (h_eq _) (by assumption)) (fcP rfl (fcP (tr (h_eq _) (by assumption)) (fcP rfl (fcP (by decide) (fcP rfl (fcP (by decide) (fcP rfl (fcP (by decide) (fcP rfl (fcP (by decide) (fcP rfl (fcP (by decide) (fcP rfl (fcP (by decide) (fcP rfl (fcP rfl (fcP rfl (fcP rfl (fcP rfl (fcP rfl (fcP rfl (fcP rfl (fcP (by decide) (fcP rfl (fcP rfl (fcP (by decide) (fcP rfl (fcP rfl (fcP (by decide) (fcP rfl (fcP rfl (fcP (by decide) (fcP rfl (fcP (by decide +kernel) (fcP (by decide +kernel) (fcP rfl (fcP (by decide) (fcP rfl (fcP rfl (fcP rfl (fcP (Jvm.Free.Fl.noNaN64_no.mp (div_nn (by decide +kernel) (mx_ne _ (by decide)))) (fcP rfl (fcP rfl (fcP rfl (fcP rfl (fcP (by decide +kernel) (fcP rfl (fcP rfl (fcP (by decide +kernel) (fcP (by decide +kernel) (fcP (by decide +kernel) (fcP (by decide +kernel) (fcP (by decide +kernel) (fcP (by decide +kernel) (fcP rfl (fcP (Jvm.Free.Fl.noNaN64_no.mp (div_nn (by decide +kernel) (mx_ne _ (by decide)))) (fcP (fin_ne (by decide +kernel) (div_nn (by decide +kernel) (mx_ne _ (by decide)))) (fnP)))))))))))))))))))))))))))))))))))))))))))))))))))))))))))))))))))
            · refine Good.of (some ([false, true, false, true, false, true, false, false, false, false, true, false, false, false, false, false, true, true, true, true, false, false, true, false, true, false, true, false, true, false, false, false, false, true, true, true, true, true, false, false, true, true, false], [(5)])) rfl ?_
              simp only [List.nil_append, List.append_nil, List.cons_append]
              exact fcP (by decide) (fcP (by assumption) (fcP rfl (fcP (tr (h_eq _) (by assumption)) (fcP rfl (fcP (tr (h_eq _) (by assumption)) (fcP rfl (fcP (tr (h_eq _) (by assumption)) (fcP rfl (fcP (fl (h_eq _) (by assumption)) (fcP rfl (fcP (fl (h_eq _) (by assumption)) (fcP rfl (fcP (by decide) (fcP rfl (fcP (by decide) (fcP rfl (fcP (by decide) (fcP rfl (fcP (by decide) (fcP rfl (fcP (by decide) (fcP rfl (fcP (by decide) (fcP rfl (fcP rfl (fcP rfl (fcP rfl (fcP rfl (fcP rfl (fcP rfl (fcP rfl (fcP (by decide) (fcP rfl (fcP rfl (fcP (by decide) (fcP rfl (fcP rfl (fcP (by decide) (fcP rfl (fcP rfl (fcP (by decide) (fcP rfl (fcP (by decide +kernel) (fcP (by decide +kernel) (fcP rfl (fcP (by decide) (fcP rfl (fcP (by decide +kernel) (fcP (by decide +kernel) (fcP rfl (fcP rfl (fcP (Jvm.Free.Fl.noNaN64_no.mp (div_nn (by decide +kernel) (mx_ne _ (by decide)))) (fcP rfl (fcP rfl (fcP rfl (fcP rfl (fcP (by decide +kernel) (fcP rfl (fcP (by decide +kernel) (fcP rfl (fcP (by decide +kernel) (fcP (by decide +kernel) (fcP (by decide +kernel) (fcP (by decide +kernel) (fcP (by decide +kernel) (fcP (by decide +kernel) (fcP rfl (fcP (Jvm.Free.Fl.noNaN64_no.mp (div_nn (by decide +kernel) (mx_ne _ (by decide)))) (fcP (fin_ne (by decide +kernel) (div_nn (by decide +kernel) (mx_ne _ (by decide)))) (fnP))))))))))))))))))))))))))))))))))))))))))))))))))))))))))))))))))))))
        · by_cases pB3 : (i1 &&& ((Int8.ofInt (8)).toInt32)).toInt = 0
          · by_cases pB4 : (i1 &&& ((Int8.ofInt (16)).toInt32)).toInt = 0
            · refine Good.of (some ([false, true, false, true, false, false, false, true, false, true, true, false, false, false, false, false, true, true, true, false, true, true, true, false, true, false, true, false, false, false, true, false, true, true, true, true, true, false, true, true, true, true, false], [(5)])) rfl ?_
              simp only [List.nil_append, List.append_nil, List.cons_append]
              exact fcP (by decide) (fcP (by assumption) (fcP rfl (fcP (tr (h_eq _) (by assumption)) (fcP rfl (fcP (tr (h_eq _) (by assumption)) (fcP rfl (fcP (fl (h_eq _) (by assumption)) (fcP rfl (fcP (tr (h_eq _) (by assumption)) (fcP rfl (fcP (tr (h_eq _) (by assumption)) (fcP rfl (fcP (by decide) (fcP rfl (fcP (by decide) (fcP rfl (fcP (by decide) (fcP rfl (fcP (by decide) (fcP rfl (fcP (by decide) (fcP rfl (fcP (by decide) (fcP rfl (fcP rfl (fcP rfl (fcP rfl (fcP rfl (fcP rfl (fcP rfl (fcP rfl (fcP (by decide) (fcP rfl (fcP rfl (fcP (by decide) (fcP rfl (fcP rfl (fcP (by decide) (fcP rfl (fcP (by decide +kernel) (fcP (by decide +kernel) (fcP rfl (fcP (by decide) (fcP rfl (fcP rfl (fcP (by decide) (fcP rfl (fcP rfl (fcP rfl (fcP (Jvm.Free.Fl.noNaN64_no.mp (div_nn (by decide +kernel) (mx_ne _ (by decide)))) (fcP rfl (fcP rfl (fcP rfl (fcP (by decide +kernel) (fcP rfl (fcP rfl (fcP rfl (fcP (by decide +kernel) (fcP (by decide +kernel) (fcP (by decide +kernel) (fcP (by decide +kernel) (fcP (by decide +kernel) (fcP (by decide +kernel) (fcP rfl (fcP (Jvm.Free.Fl.noNaN64_no.mp (div_nn (by decide +kernel) (mx_ne _ (by decide)))) (fcP (fin_ne (by decide +kernel) (div_nn (by decide +kernel) (mx_ne _ (by decide)))) (fnP)))))))))))))))))))))))))))))))))))))))))))))))))))))))))))))))))))
            · refine Good.of (some ([false, true, false, true, false, false, false, true, false, false, true, false, false, false, false, false, true, true, true, false, true, false, true, false, true, false, true, false, false, false, true, false, false, true, true, true, true, false, true, false, true, true, false], [(5)])) rfl ?_
              simp only [List.nil_append, List.append_nil, List.cons_append]
              exact fcP (by decide) (fcP (by assumption) (fcP rfl (fcP (tr (h_eq _) (by assumption)) (fcP rfl (fcP (tr (h_eq _) (by assumption)) (fcP rfl (fcP (fl (h_eq _) (by assumption)) (fcP rfl (fcP (tr (h_eq _) (by assumption)) (fcP rfl (fcP (fl (h_eq _) (by assumption)) (fcP rfl (fcP (by decide) (fcP rfl (fcP (by decide) (fcP rfl (fcP (by decide) (fcP rfl (fcP (by decide) (fcP rfl (fcP (by decide) (fcP rfl (fcP (by decide) (fcP rfl (fcP rfl (fcP rfl (fcP rfl (fcP rfl (fcP rfl (fcP rfl (fcP rfl (fcP (by decide) (fcP rfl (fcP rfl (fcP (by decide) (fcP rfl (fcP rfl (fcP (by decide) (fcP rfl (fcP (by decide +kernel) (fcP (by decide +kernel) (fcP rfl (fcP (by decide) (fcP rfl (fcP rfl (fcP (by decide) (fcP rfl (fcP (by decide +kernel) (fcP (by decide +kernel) (fcP rfl (fcP rfl (fcP (Jvm.Free.Fl.noNaN64_no.mp (div_nn (by decide +kernel) (mx_ne _ (by decide)))) (fcP rfl (fcP rfl (fcP rfl (fcP (by decide +kernel) (fcP rfl (fcP rfl (fcP (by decide +kernel) (fcP rfl (fcP (by decide +kernel) (fcP (by decide +kernel) (fcP (by decide +kernel) (fcP (by decide +kernel) (fcP (by decide +kernel) (fcP (by decide +kernel) (fcP rfl (fcP (Jvm.Free.Fl.noNaN64_no.mp (div_nn (by decide +kernel) (mx_ne _ (by decide)))) (fcP (fin_ne (by decide +kernel) (div_nn (by decide +kernel) (mx_ne _ (by decide)))) (fnP))))))))))))))))))))))))))))))))))))))))))))))))))))))))))))))))))))))
          · by_cases pB4 : (i1 &&& ((Int8.ofInt (16)).toInt32)).toInt = 0
            · refine Good.of (some ([false, true, false, true, false, false, false, false, false, true, true, false, false, false, false, false, true, true, true, false, false, true, true, false, true, false, true, false, false, false, false, false, true, true, true, true, true, false, false, true, true, true, false], [(5)])) rfl ?_
              simp only [List.nil_append, List.append_nil, List.cons_append]
              exact fcP (by decide) (fcP (by assumption) (fcP rfl (fcP (tr (h_eq _) (by assumption)) (fcP rfl (fcP (tr (h_eq _) (by assumption)) (fcP rfl (fcP (fl (h_eq _) (by assumption)) (fcP rfl (fcP (fl (h_eq _) (by assumption)) (fcP rfl (fcP (tr (h_eq _) (by assumption)) (fcP rfl (fcP (by decide) (fcP rfl (fcP (by decide) (fcP rfl (fcP (by decide) (fcP rfl (fcP (by decide) (fcP rfl (fcP (by decide) (fcP rfl (fcP (by decide) (fcP rfl (fcP rfl (fcP rfl (fcP rfl (fcP rfl (fcP rfl (fcP rfl (fcP rfl (fcP (by decide) (fcP rfl (fcP rfl (fcP (by decide) (fcP rfl (fcP rfl (fcP (by decide) (fcP rfl (fcP (by decide +kernel) (fcP (by decide +kernel) (fcP rfl (fcP (by decide) (fcP rfl (fcP (by decide +kernel) (fcP (by decide +kernel) (fcP rfl (fcP (by decide) (fcP rfl (fcP rfl (fcP rfl (fcP (Jvm.Free.Fl.noNaN64_no.mp (div_nn (by decide +kernel) (mx_ne _ (by decide)))) (fcP rfl (fcP rfl (fcP rfl (fcP (by decide +kernel) (fcP rfl (fcP (by decide +kernel) (fcP rfl (fcP rfl (fcP (by decide +kernel) (fcP (by decide +kernel) (fcP (by decide +kernel) (fcP (by decide +kernel) (fcP (by decide +kernel) (fcP (by decide +kernel) (fcP rfl (fcP (Jvm.Free.Fl.noNaN64_no.mp (div_nn (by decide +kernel) (mx_ne _ (by decide)))) (fcP (fin_ne (by decide +kernel) (div_nn (by decide +kernel) (mx_ne _ (by decide)))) (fnP))))))))))))))))))))))))))))))))))))))))))))))))))))))))))))))))))))))
            · refine Good.of (some ([false, true, false, true, false, false, false, false, false, false, true, false, false, false, false, false, true, true, true, false, false, false, true, false, true, false, true, false, false, false, false, false, false, true, true, true, true, false, false, false, true, true, false], [(5)])) rfl ?_
              simp only [List.nil_append, List.append_nil, List.cons_append]
              exact fcP (by decide) (fcP (by assumption) (fcP rfl (fcP (tr (h_eq _) (by assumption)) (fcP rfl (fcP (tr (h_eq _) (by assumption)) (fcP rfl (fcP (fl (h_eq _) (by assumption)) (fcP rfl (fcP (fl (h_eq _) (by assumption)) (fcP rfl (fcP (fl (h_eq _) (by assumption)) (fcP rfl (fcP (by decide) (fcP rfl (fcP (by decide) (fcP rfl (fcP (by decide) (fcP rfl (fcP (by decide) (fcP rfl (fcP (by decide) (fcP rfl (fcP (by decide) (fcP rfl (fcP rfl (fcP rfl (fcP rfl (fcP rfl (fcP rfl (fcP rfl (fcP rfl (fcP (by decide) (fcP rfl (fcP rfl (fcP (by decide) (fcP rfl (fcP rfl (fcP (by decide) (fcP rfl (fcP (by decide +kernel) (fcP (by decide +kernel) (fcP rfl (fcP (by decide) (fcP rfl (fcP (by decide +kernel) (fcP (by decide +kernel) (fcP rfl (fcP (by decide) (fcP rfl (fcP (by decide +kernel) (fcP (by decide +kernel) (fcP rfl (fcP rfl (fcP (Jvm.Free.Fl.noNaN64_no.mp (div_nn (by decide +kernel) (mx_ne _ (by decide)))) (fcP rfl (fcP rfl (fcP rfl (fcP (by decide +kernel) (fcP rfl (fcP (by decide +kernel) (fcP rfl (fcP (by decide +kernel) (fcP rfl (fcP (by decide +kernel) (fcP (by decide +kernel) (fcP (by decide +kernel) (fcP (by decide +kernel) (fcP (by decide +kernel) (fcP (by decide +kernel) (fcP rfl (fcP (Jvm.Free.Fl.noNaN64_no.mp (div_nn (by decide +kernel) (mx_ne _ (by decide)))) (fcP (fin_ne (by decide +kernel) (div_nn (by decide +kernel) (mx_ne _ (by decide)))) (fnP)))))))))))))))))))))))))))))))))))))))))))))))))))))))))))))))))))))))))
      · by_cases pB2 : (i1 &&& (Int32.ofInt (4))).toInt = 0
        · by_cases pB3 : (i1 &&& ((Int8.ofInt (8)).toInt32)).toInt = 0
          · by_cases pB4 : (i1 &&& ((Int8.ofInt (16)).toInt32)).toInt = 0
            · refine Good.of (some ([false, true, false, false, false, true, false, true, false, true, true, false, false, false, false, false, true, true, false, true, true, true, true, false, true, false, false, false, true, false, true, false, true, true, true, true, false, true, true, true, true, true, false], [(5)])) rfl ?_
              simp only [List.nil_append, List.append_nil, List.cons_append]
              exact fcP (by decide) (fcP (by assumption) (fcP rfl (fcP (tr (h_eq _) (by assumption)) (fcP rfl (fcP (fl (h_eq _) (by assumption)) (fcP rfl (fcP (tr (h_eq _) (by assumption)) (fcP rfl (fcP (tr (h_eq _) (by assumption)) (fcP rfl (fcP (tr (h_eq _) (by assumption)) (fcP rfl (fcP (by decide) (fcP rfl (fcP (by decide) (fcP rfl (fcP (by decide) (fcP rfl (fcP (by decide) (fcP rfl (fcP (by decide) (fcP rfl (fcP (by decide) (fcP rfl (fcP rfl (fcP rfl (fcP rfl (fcP rfl (fcP rfl (fcP rfl (fcP rfl (fcP (by decide) (fcP rfl (fcP rfl (fcP (by decide) (fcP rfl (fcP (by decide +kernel) (fcP (by decide +kernel) (fcP rfl (fcP (by decide) (fcP rfl (fcP rfl (fcP (by decide) (fcP rfl (fcP rfl (fcP (by decide) (fcP rfl (fcP rfl (fcP rfl (fcP (Jvm.Free.Fl.noNaN64_no.mp (div_nn (by decide +kernel) (mx_ne _ (by decide)))) (fcP rfl (fcP rfl (fcP (by decide +kernel) (fcP rfl (fcP rfl (fcP rfl (fcP rfl (fcP (by decide +kernel) (fcP (by decide +kernel) (fcP (by decide +kernel) (fcP (by decide +kernel) (fcP (by decide +kernel) (fcP (by decide +kernel) (fcP rfl (fcP (Jvm.Free.Fl.noNaN64_no.mp (div_nn (by decide +kernel) (mx_ne _ (by decide)))) (fcP (fin_ne (by decide +kernel) (div_nn (by decide +kernel) (mx_ne _ (by decide)))) (fnP)))))))))))))))))))))))))))))))))))))))))))))))))))))))))))))))))))
            · refine Good.of (some ([false, true, false, false, false, true, false, true, false, false, true, false, false, false, false, false, true, true, false, true, true, false, true, false, true, false, false, false, true, false, true, false, false, true, true, true, false, true, true, false, true, true, false], [(5)])) rfl ?_
              simp only [List.nil_append, List.append_nil, List.cons_append]
              exact fcP (by decide) (fcP (by assumption) (fcP rfl (fcP (tr (h_eq _) (by assumption)) (fcP rfl (fcP (fl (h_eq _) (by assumption)) (fcP rfl (fcP (tr (h_eq _) (by assumption)) (fcP rfl (fcP (tr (h_eq _) (by assumption)) (fcP rfl (fcP (fl (h_eq _) (by assumption)) (fcP rfl (fcP (by decide) (fcP rfl (fcP (by decide) (fcP rfl (fcP (by decide) (fcP rfl (fcP (by decide) (fcP rfl (fcP (by decide) (fcP rfl (fcP (by decide) (fcP rfl (fcP rfl (fcP rfl (fcP rfl (fcP rfl (fcP rfl (fcP rfl (fcP rfl (fcP (by decide) (fcP rfl (fcP rfl (fcP (by decide) (fcP rfl (fcP (by decide +kernel) (fcP (by decide +kernel) (fcP rfl (fcP (by decide) (fcP rfl (fcP rfl (fcP (by decide) (fcP rfl (fcP rfl (fcP (by decide) (fcP rfl (fcP (by decide +kernel) (fcP (by decide +kernel) (fcP rfl (fcP rfl (fcP (Jvm.Free.Fl.noNaN64_no.mp (div_nn (by decide +kernel) (mx_ne _ (by decide)))) (fcP rfl (fcP rfl (fcP (by decide +kernel) (fcP rfl (fcP rfl (fcP rfl (fcP (by decide +kernel) (fcP rfl (fcP (by decide +kernel) (fcP (by decide +kernel) (fcP (by decide +kernel) (fcP (by decide +kernel) (fcP (by decide +kernel) (fcP (by decide +kernel) (fcP rfl (fcP (Jvm.Free.Fl.noNaN64_no.mp (div_nn (by decide +kernel) (mx_ne _ (by decide)))) (fcP (fin_ne (by decide +kernel) (div_nn (by decide +kernel) (mx_ne _ (by decide)))) (fnP))))))))))))))))))))))))))))))))))))))))))))))))))))))))))))))))))))))
          · by_cases pB4 : (i1 &&& ((Int8.ofInt (16)).toInt32)).toInt = 0
            · refine Good.of (some ([false, true, false, false, false, true, false, false, false, true, true, false, false, false, false, false, true, true, false, true, false, true, true, false, true, false, false, false, true, false, false, false, true, true, true, true, false, true, false, true, true, true, false], [(5)])) rfl ?_
              simp only [List.nil_append, List.append_nil, List.cons_append]
              exact fcP (by decide) (fcP (by assumption) (fcP rfl (fcP (tr (h_eq _) (by assumption)) (fcP rfl (fcP (fl (h_eq _) (by assumption)) (fcP rfl (fcP (tr (h_eq _) (by assumption)) (fcP rfl (fcP (fl (h_eq _) (by assumption)) (fcP rfl (fcP (tr (h_eq _) (by assumption)) (fcP rfl (fcP (by decide) (fcP rfl (fcP (by decide) (fcP rfl (fcP (by decide) (fcP rfl (fcP (by decide) (fcP rfl (fcP (by decide) (fcP rfl (fcP (by decide) (fcP rfl (fcP rfl (fcP rfl (fcP rfl (fcP rfl (fcP rfl (fcP rfl (fcP rfl (fcP (by decide) (fcP rfl (fcP rfl (fcP (by decide) (fcP rfl (fcP (by decide +kernel) (fcP (by decide +kernel) (fcP rfl (fcP (by decide) (fcP rfl (fcP rfl (fcP (by decide) (fcP rfl (fcP (by decide +kernel) (fcP (by decide +kernel) (fcP rfl (fcP (by decide) (fcP rfl (fcP rfl (fcP rfl (fcP (Jvm.Free.Fl.noNaN64_no.mp (div_nn (by decide +kernel) (mx_ne _ (by decide)))) (fcP rfl (fcP rfl (fcP (by decide +kernel) (fcP rfl (fcP rfl (fcP (by decide +kernel) (fcP rfl (fcP rfl (fcP (by decide +kernel) (fcP (by decide +kernel) (fcP (by decide +kernel) (fcP (by decide +kernel) (fcP (by decide +kernel) (fcP (by decide +kernel) (fcP rfl (fcP (Jvm.Free.Fl.noNaN64_no.mp (div_nn (by decide +kernel) (mx_ne _ (by decide)))) (fcP (fin_ne (by decide +kernel) (div_nn (by decide +kernel) (mx_ne _ (by decide)))) (fnP))))))))))))))))))))))))))))))))))))))))))))))))))))))))))))))))))))))
            · refine Good.of (some ([false, true, false, false, false, true, false, false, false, false, true, false, false, false, false, false, true, true, false, true, false, false, true, false, true, false, false, false, true, false, false, false, false, true, true, true, false, true, false, false, true, true, false], [(5)])) rfl ?_
              simp only [List.nil_append, List.append_nil, List.cons_append]
              exact fcP (by decide) (fcP (by assumption) (fcP rfl (fcP (tr (h_eq _) (by assumption)) (fcP rfl (fcP (fl (h_eq _) (by assumption)) (fcP rfl (fcP (tr (h_eq _) (by assumption)) (fcP rfl (fcP (fl (h_eq _) (by assumption)) (fcP rfl (fcP (fl (h_eq _) (by assumption)) (fcP rfl (fcP (by decide) (fcP rfl (fcP (by decide) (fcP rfl (fcP (by decide) (fcP rfl (fcP (by decide) (fcP rfl (fcP (by decide) (fcP rfl (fcP (by decide) (fcP rfl (fcP rfl (fcP rfl (fcP rfl (fcP rfl (fcP rfl (fcP rfl (fcP rfl (fcP (by decide) (fcP rfl (fcP rfl (fcP (by decide) (fcP rfl (fcP (by decide +kernel) (fcP (by decide +kernel) (fcP rfl (fcP (by decide) (fcP rfl (fcP rfl (fcP (by decide) (fcP rfl (fcP (by decide +kernel) (fcP (by decide +kernel) (fcP rfl (fcP (by decide) (fcP rfl (fcP (by decide +kernel) (fcP (by decide +kernel) (fcP rfl (fcP rfl (fcP (Jvm.Free.Fl.noNaN64_no.mp (div_nn (by decide +kernel) (mx_ne _ (by decide)))) (fcP rfl (fcP rfl (fcP (by decide +kernel) (fcP rfl (fcP rfl (fcP (by decide +kernel) (fcP rfl (fcP (by decide +kernel) (fcP rfl (fcP (by decide +kernel) (fcP (by decide +kernel) (fcP (by decide +kernel) (fcP (by decide +kernel) (fcP (by decide +kernel) (fcP (by decide +kernel) (fcP rfl (fcP (Jvm.Free.Fl.noNaN64_no.mp (div_nn (by decide +kernel) (mx_ne _ (by decide)))) (fcP (fin_ne (by decide +kernel) (div_nn (by decide +kernel) (mx_ne _ (by decide)))) (fnP)))))))))))))))))))))))))))))))))))))))))))))))))))))))))))))))))))))))))
        · by_cases pB3 : (i1 &&& ((Int8.ofInt (8)).toInt32)).toInt = 0
          · by_cases pB4 : (i1 &&& ((Int8.ofInt (16)).toInt32)).toInt = 0
            · refine Good.of (some ([false, true, false, false, false, false, false, true, false, true, true, false, false, false, false, false, true, true, false, false, true, true, true, false, true, false, false, false, false, false, true, false, true, true, true, true, false, false, true, true, true, true, false], [(5)])) rfl ?_
              simp only [List.nil_append, List.append_nil, List.cons_append]
              exact fcP (by decide) (fcP (by assumption) (fcP rfl (fcP (tr (h_eq _) (by assumption)) (fcP rfl (fcP (fl (h_eq _) (by assumption)) (fcP rfl (fcP (fl (h_eq _) (by assumption)) (fcP rfl (fcP (tr (h_eq _) (by assumption)) (fcP rfl (fcP (tr (h_eq _) (by assumption)) (fcP rfl (fcP (by decide) (fcP rfl (fcP (by decide) (fcP rfl (fcP (by decide) (fcP rfl (fcP (by decide) (fcP rfl (fcP (by decide) (fcP rfl (fcP (by decide) (fcP rfl (fcP rfl (fcP rfl (fcP rfl (fcP rfl (fcP rfl (fcP rfl (fcP rfl (fcP (by decide) (fcP rfl (fcP rfl (fcP (by decide) (fcP rfl (fcP (by decide +kernel) (fcP (by decide +kernel) (fcP rfl (fcP (by decide) (fcP rfl (fcP (by decide +kernel) (fcP (by decide +kernel) (fcP rfl (fcP (by decide) (fcP rfl (fcP rfl (fcP (by decide) (fcP rfl (fcP rfl (fcP rfl (fcP (Jvm.Free.Fl.noNaN64_no.mp (div_nn (by decide +kernel) (mx_ne _ (by decide)))) (fcP rfl (fcP rfl (fcP (by decide +kernel) (fcP rfl (fcP (by decide +kernel) (fcP rfl (fcP rfl (fcP rfl (fcP (by decide +kernel) (fcP (by decide +kernel) (fcP (by decide +kernel) (fcP (by decide +kernel) (fcP (by decide +kernel) (fcP (by decide +kernel) (fcP rfl (fcP (Jvm.Free.Fl.noNaN64_no.mp (div_nn (by decide +kernel) (mx_ne _ (by decide)))) (fcP (fin_ne (by decide +kernel) (div_nn (by decide +kernel) (mx_ne _ (by decide)))) (fnP))))))))))))))))))))))))))))))))))))))))))))))))))))))))))))))))))))))
            · refine Good.of (some ([false, true, false, false, false, false, false, true, false, false, true, false, false, false, false, false, true, true, false, false, true, false, true, false, true, false, false, false, false, false, true, false, false, true, true, true, false, false, true, false, true, true, false], [(5)])) rfl ?_
              simp only [List.nil_append, List.append_nil, List.cons_append]
              exact fcP (by decide) (fcP (by assumption) (fcP rfl (fcP (tr (h_eq _) (by assumption)) (fcP rfl (fcP (fl (h_eq _) (by assumption)) (fcP rfl (fcP (fl (h_eq _) (by assumption)) (fcP rfl (fcP (tr (h_eq _) (by assumption)) (fcP rfl (fcP (fl (h_eq _) (by assumption)) (fcP rfl (fcP (by decide) (fcP rfl (fcP (by decide) (fcP rfl (fcP (by decide) (fcP rfl (fcP (by decide) (fcP rfl (fcP (by decide) (fcP rfl (fcP (by decide) (fcP rfl (fcP rfl (fcP rfl (fcP rfl (fcP rfl (fcP rfl (fcP rfl (fcP rfl (fcP (by decide) (fcP rfl (fcP rfl (fcP (by decide) (fcP rfl (fcP (by decide +kernel) (fcP (by decide +kernel) (fcP rfl (fcP (by decide) (fcP rfl (fcP (by decide +kernel) (fcP (by decide +kernel) (fcP rfl (fcP (by decide) (fcP rfl (fcP rfl (fcP (by decide) (fcP rfl (fcP (by decide +kernel) (fcP (by decide +kernel) (fcP rfl (fcP rfl (fcP (Jvm.Free.Fl.noNaN64_no.mp (div_nn (by decide +kernel) (mx_ne _ (by decide)))) (fcP rfl (fcP rfl (fcP (by decide +kernel) (fcP rfl (fcP (by decide +kernel) (fcP rfl (fcP rfl (fcP (by decide +kernel) (fcP rfl (fcP (by decide +kernel) (fcP (by decide +kernel) (fcP (by decide +kernel) (fcP (by decide +kernel) (fcP (by decide +kernel) (fcP (by decide +kernel) (fcP rfl (fcP (Jvm.Free.Fl.noNaN64_no.mp (div_nn (by decide +kernel) (mx_ne _ (by decide)))) (fcP (fin_ne (by decide +kernel) (div_nn (by decide +kernel) (mx_ne _ (by decide)))) (fnP)))))))))))))))))))))))))))))))))))))))))))))))))))))))))))))))))))))))))
          · by_cases pB4 : (i1 &&& ((Int8.ofInt (16)).toInt32)).toInt = 0
            · refine Good.of (some ([false, true, false, false, false, false, false, false, false, true, true, false, false, false, false, false, true, true, false, false, false, true, true, false, true, false, false, false, false, false, false, false, true, true, true, true, false, false, false, true, true, true, false], [(5)])) rfl ?_
              simp only [List.nil_append, List.append_nil, List.cons_append]
              exact fcP (by decide) (fcP (by assumption) (fcP rfl (fcP (tr (h_eq _) (by assumption)) (fcP rfl (fcP (fl (h_eq _) (by assumption)) (fcP rfl (fcP (fl (h_eq _) (by assumption)) (fcP rfl (fcP (fl (h_eq _) (by assumption)) (fcP rfl (fcP (tr (h_eq _) (by assumption)) (fcP rfl (fcP (by decide) (fcP rfl (fcP (by decide) (fcP rfl (fcP (by decide) (fcP rfl (fcP (by decide) (fcP rfl (fcP (by decide) (fcP rfl (fcP (by decide) (fcP rfl (fcP rfl (fcP rfl (fcP rfl (fcP rfl (fcP rfl (fcP rfl (fcP rfl (fcP (by decide) (fcP rfl (fcP rfl (fcP (by decide) (fcP rfl (fcP (by decide +kernel) (fcP (by decide +kernel) (fcP rfl (fcP (by decide) (fcP rfl (fcP (by decide +kernel) (fcP (by decide +kernel) (fcP rfl (fcP (by decide) (fcP rfl (fcP (by decide +kernel) (fcP (by decide +kernel) (fcP rfl (fcP (by decide) (fcP rfl (fcP rfl (fcP rfl (fcP (Jvm.Free.Fl.noNaN64_no.mp (div_nn (by decide +kernel) (mx_ne _ (by decide)))) (fcP rfl (fcP rfl (fcP (by decide +kernel) (fcP rfl (fcP (by decide +kernel) (fcP rfl (fcP (by decide +kernel) (fcP rfl (fcP rfl (fcP (by decide +kernel) (fcP (by decide +kernel) (fcP (by decide +kernel) (fcP (by decide +kernel) (fcP (by decide +kernel) (fcP (by decide +kernel) (fcP rfl (fcP (Jvm.Free.Fl.noNaN64_no.mp (div_nn (by decide +kernel) (mx_ne _ (by decide)))) (fcP (fin_ne (by decide +kernel) (div_nn (by decide +kernel) (mx_ne _ (by decide)))) (fnP)))))))))))))))))))))))))))))))))))))))))))))))))))))))))))))))))))))))))
            · refine Good.of (some ([false, true, false, false, false, false, false, false, false, false, true, false, false, false, false, false, true, true, false, false, false, false, true, false, true, false, false, false, false, false, false, false, false, true, true, true, false, false, false, false, true, true, false], [(5)])) rfl ?_
              simp only [List.nil_append, List.append_nil, List.cons_append]
              exact fcP (by decide) (fcP (by assumption) (fcP rfl (fcP (tr (h_eq _) (by assumption)) (fcP rfl (fcP (fl (h_eq _) (by assumption)) (fcP rfl (fcP (fl (h_eq _) (by assumption)) (fcP rfl (fcP (fl (h_eq _) (by assumption)) (fcP rfl (fcP (fl (h_eq _) (by assumption)) (fcP rfl (fcP (by decide) (fcP rfl (fcP (by decide) (fcP rfl (fcP (by decide) (fcP rfl (fcP (by decide) (fcP rfl (fcP (by decide) (fcP rfl (fcP (by decide) (fcP rfl (fcP rfl (fcP rfl (fcP rfl (fcP rfl (fcP rfl (fcP rfl (fcP rfl (fcP (by decide) (fcP rfl (fcP rfl (fcP (by decide) (fcP rfl (fcP (by decide +kernel) (fcP (by decide +kernel) (fcP rfl (fcP (by decide) (fcP rfl (fcP (by decide +kernel) (fcP (by decide +kernel) (fcP rfl (fcP (by decide) (fcP rfl (fcP (by decide +kernel) (fcP (by decide +kernel) (fcP rfl (fcP (by decide) (fcP rfl (fcP (by decide +kernel) (fcP (by decide +kernel) (fcP rfl (fcP rfl (fcP (Jvm.Free.Fl.noNaN64_no.mp (div_nn (by decide +kernel) (mx_ne _ (by decide)))) (fcP rfl (fcP rfl (fcP (by decide +kernel) (fcP rfl (fcP (by decide +kernel) (fcP rfl (fcP (by decide +kernel) (fcP rfl (fcP (by decide +kernel) (fcP rfl (fcP (by decide +kernel) (fcP (by decide +kernel) (fcP (by decide +kernel) (fcP (by decide +kernel) (fcP (by decide +kernel) (fcP (by decide +kernel) (fcP rfl (fcP (Jvm.Free.Fl.noNaN64_no.mp (div_nn (by decide +kernel) (mx_ne _ (by decide)))) (fcP (fin_ne (by decide +kernel) (div_nn (by decide +kernel) (mx_ne _ (by decide)))) (fnP))))))))))))))))))))))))))))))))))))))))))))))))))))))))))))))))))))))))))))
    · by_cases pB1 : (i1 &&& (Int32.ofInt (2))).toInt = 0
      · by_cases pB2 : (i1 &&& (Int32.ofInt (4))).toInt = 0
        · by_cases pB3 : (i1 &&& ((Int8.ofInt (8)).toInt32)).toInt = 0
          · by_cases pB4 : (i1 &&& ((Int8.ofInt (16)).toInt32)).toInt = 0
            · refine Good.of (some ([false, false, false, true, false, true, false, true, false, true, true, false, false, false, false, false, true, false, true, true, true, true, true, false, false, false, true, false, true, false, true, false, true, true, true, false, true, true, true, true, true, true, false], [(5)])) rfl ?_
              simp only [List.nil_append, List.append_nil, List.cons_append]
              exact fcP (by decide) (fcP (by assumption) (fcP rfl (fcP (fl (h_eq _) (by assumption)) (fcP rfl (fcP (tr (h_eq _) (by assumption)) (fcP rfl (fcP (tr (h_eq _) (by assumption)) (fcP rfl (fcP (tr (h_eq _) (by assumption)) (fcP rfl (fcP (tr (h_eq _) (by assumption)) (fcP rfl (fcP (by decide) (fcP rfl (fcP (by decide) (fcP rfl (fcP (by decide) (fcP rfl (fcP (by decide) (fcP rfl (fcP (by decide) (fcP rfl (fcP (by decide) (fcP rfl (fcP rfl (fcP rfl (fcP rfl (fcP rfl (fcP rfl (fcP rfl (fcP rfl (fcP (by decide) (fcP rfl (fcP (by decide +kernel) (fcP (by decide +kernel) (fcP rfl (fcP (by decide) (fcP rfl (fcP rfl (fcP (by decide) (fcP rfl (fcP rfl (fcP (by decide) (fcP rfl (fcP rfl (fcP (by decide) (fcP rfl (fcP rfl (fcP rfl (fcP (Jvm.Free.Fl.noNaN64_no.mp (div_nn (by decide +kernel) (mx_ne _ (by decide)))) (fcP rfl (fcP (by decide +kernel) (fcP rfl (fcP rfl (fcP rfl (fcP rfl (fcP rfl (fcP (by decide +kernel) (fcP (by decide +kernel) (fcP (by decide +kernel) (fcP (by decide +kernel) (fcP (by decide +kernel) (fcP (by decide +kernel) (fcP rfl (fcP (Jvm.Free.Fl.noNaN64_no.mp (div_nn (by decide +kernel) (mx_ne _ (by decide)))) (fcP (fin_ne (by decide +kernel) (div_nn (by decide +kernel) (mx_ne _ (by decide)))) (fnP)))))))))))))))))))))))))))))))))))))))))))))))))))))))))))))))))))
            · refine Good.of (some ([false, false, false, true, false, true, false, true, false, false, true, false, false, false, false, false, true, false, true, true, true, false, true, false, false, false, true, false, true, false, true, false, false, true, true, false, true, true, true, false, true, true, false], [(5)])) rfl ?_
              simp only [List.nil_append, List.append_nil, List.cons_append]
              exact fcP (by decide) (fcP (by assumption) (fcP rfl (fcP (fl (h_eq _) (by assumption)) (fcP rfl (fcP (tr (h_eq _) (by assumption)) (fcP rfl (fcP (tr (h_eq _) (by assumption)) (fcP rfl (fcP (tr (h_eq _) (by assumption)) (fcP rfl (fcP (fl (h_eq _) (by assumption)) (fcP rfl (fcP (by decide) (fcP rfl (fcP (by decide) (fcP rfl (fcP (by decide) (fcP rfl (fcP (by decide) (fcP rfl (fcP (by decide) (fcP rfl (fcP (by decide) (fcP rfl (fcP rfl (fcP rfl (fcP rfl (fcP rfl (fcP rfl (fcP rfl (fcP rfl (fcP (by decide) (fcP rfl (fcP (by decide +kernel) (fcP (by decide +kernel) (fcP rfl (fcP (by decide) (fcP rfl (fcP rfl (fcP (by decide) (fcP rfl (fcP rfl (fcP (by decide) (fcP rfl (fcP rfl (fcP (by decide) (fcP rfl (fcP (by decide +kernel) (fcP (by decide +kernel) (fcP rfl (fcP rfl (fcP (Jvm.Free.Fl.noNaN64_no.mp (div_nn (by decide +kernel) (mx_ne _ (by decide)))) (fcP rfl (fcP (by decide +kernel) (fcP rfl (fcP rfl (fcP rfl (fcP rfl (fcP (by decide +kernel) (fcP rfl (fcP (by decide +kernel) (fcP (by decide +kernel) (fcP (by decide +kernel) (fcP (by decide +kernel) (fcP (by decide +kernel) (fcP (by decide +kernel) (fcP rfl (fcP (Jvm.Free.Fl.noNaN64_no.mp (div_nn (by decide +kernel) (mx_ne _ (by decide)))) (fcP (fin_ne (by decide +kernel) (div_nn (by decide +kernel) (mx_ne _ (by decide)))) (fnP))))))))))))))))))))))))))))))))))))))))))))))))))))))))))))))))))))))
          · by_cases pB4 : (i1 &&& ((Int8.ofInt (16)).toInt32)).toInt = 0
            · refine Good.of (some ([false, false, false, true, false, true, false, false, false, true, true, false, false, false, false, false, true, false, true, true, false, true, true, false, false, false, true, false, true, false, false, false, true, true, true, false, true, true, false, true, true, true, false], [(5)])) rfl ?_
              simp only [List.nil_append, List.append_nil, List.cons_append]
              exact fcP (by decide) (fcP (by assumption) (fcP rfl (fcP (fl (h_eq _) (by assumption)) (fcP rfl (fcP (tr (h_eq _) (by assumption)) (fcP rfl (fcP (tr (h_eq _) (by assumption)) (fcP rfl (fcP (fl (h_eq _) (by assumption)) (fcP rfl (fcP (tr (h_eq _) (by assumption)) (fcP rfl (fcP (by decide) (fcP rfl (fcP (by decide) (fcP rfl (fcP (by decide) (fcP rfl (fcP (by decide) (fcP rfl (fcP (by decide) (fcP rfl (fcP (by decide) (fcP rfl (fcP rfl (fcP rfl (fcP rfl (fcP rfl (fcP rfl (fcP rfl (fcP rfl (fcP (by decide) (fcP rfl (fcP (by decide +kernel) (fcP (by decide +kernel) (fcP rfl (fcP (by decide) (fcP rfl (fcP rfl (fcP (by decide) (fcP rfl (fcP rfl (fcP (by decide) (fcP rfl (fcP (by decide +kernel) (fcP (by decide +kernel) (fcP rfl (fcP (by decide) (fcP rfl (fcP rfl (fcP rfl (fcP (Jvm.Free.Fl.noNaN64_no.mp (div_nn (by decide +kernel) (mx_ne _ (by decide)))) (fcP rfl (fcP (by decide +kernel) (fcP rfl (fcP rfl (fcP rfl (fcP (by decide +kernel) (fcP rfl (fcP rfl (fcP (by decide +kernel) (fcP (by decide +kernel) (fcP (by decide +kernel) (fcP (by decide +kernel) (fcP (by decide +kernel) (fcP (by decide +kernel) (fcP rfl (fcP (Jvm.Free.Fl.noNaN64_no.mp (div_nn (by decide +kernel) (mx_ne _ (by decide)))) (fcP (fin_ne (by decide +kernel) (div_nn (by decide +kernel) (mx_ne _ (by decide)))) (fnP))))))))))))))))))))))))))))))))))))))))))))))))))))))))))))))))))))))
            · refine Good.of (some ([false, false, false, true, false, true, false, false, false, false, true, false, false, false, false, false, true, false, true, true, false, false, true, false, false, false, true, false, true, false, false, false, false, true, true, false, true, true, false, false, true, true, false], [(5)])) rfl ?_
              simp only [List.nil_append, List.append_nil, List.cons_append]
              exact fcP (by decide) (fcP (by assumption) (fcP rfl (fcP (fl (h_eq _) (by assumption)) (fcP rfl (fcP (tr (h_eq _) (by assumption)) (fcP rfl (fcP (tr (h_eq _) (by assumption)) (fcP rfl (fcP (fl (h_eq _) (by assumption)) (fcP rfl (fcP (fl (h_eq _) (by assumption)) (fcP rfl (fcP (by decide) (fcP rfl (fcP (by decide) (fcP rfl (fcP (by decide) (fcP rfl (fcP (by decide) (fcP rfl (fcP (by decide) (fcP rfl (fcP (by decide) (fcP rfl (fcP rfl (fcP rfl (fcP rfl (fcP rfl (fcP rfl (fcP rfl (fcP rfl (fcP (by decide) (fcP rfl (fcP (by decide +kernel) (fcP (by decide +kernel) (fcP rfl (fcP (by decide) (fcP rfl (fcP rfl (fcP (by decide) (fcP rfl (fcP rfl (fcP (by decide) (fcP rfl (fcP (by decide +kernel) (fcP (by decide +kernel) (fcP rfl (fcP (by decide) (fcP rfl (fcP (by decide +kernel) (fcP (by decide +kernel) (fcP rfl (fcP rfl (fcP (Jvm.Free.Fl.noNaN64_no.mp (div_nn (by decide +kernel) (mx_ne _ (by decide)))) (fcP rfl (fcP (by decide +kernel) (fcP rfl (fcP rfl (fcP rfl (fcP (by decide +kernel) (fcP rfl (fcP (by decide +kernel) (fcP rfl (fcP (by decide +kernel) (fcP (by decide +kernel) (fcP (by decide +kernel) (fcP (by decide +kernel) (fcP (by decide +kernel) (fcP (by decide +kernel) (fcP rfl (fcP (Jvm.Free.Fl.noNaN64_no.mp (div_nn (by decide +kernel) (mx_ne _ (by decide)))) (fcP (fin_ne (by decide +kernel) (div_nn (by decide +kernel) (mx_ne _ (by decide)))) (fnP)))))))))))))))))))))))))))))))))))))))))))))))))))))))))))))))))))))))))
        · by_cases pB3 : (i1 &&& ((Int8.ofInt (8)).toInt32)).toInt = 0
          · by_cases pB4 : (i1 &&& ((Int8.ofInt (16)).toInt32)).toInt = 0
            · refine Good.of (some ([false, false, false, true, false, false, false, true, false, true, true, false, false, false, false, false, true, false, true, false, true, true, true, false, false, false, true, false, false, false, true, false, true, true, true, false, true, false, true, true, true, true, false], [(5)])) rfl ?_
              simp only [List.nil_append, List.append_nil, List.cons_append]
              exact fcP (by decide) (fcP (by assumption) (fcP rfl (fcP (fl (h_eq _) (by assumption)) (fcP rfl (fcP (tr (h_eq _) (by assumption)) (fcP rfl (fcP (fl (h_eq _) (by assumption)) (fcP rfl (fcP (tr (h_eq _) (by assumption)) (fcP rfl (fcP (tr (h_eq _) (by assumption)) (fcP rfl (fcP (by decide) (fcP rfl (fcP (by decide) (fcP rfl (fcP (by decide) (fcP rfl (fcP (by decide) (fcP rfl (fcP (by decide) (fcP rfl (fcP (by decide) (fcP rfl (fcP rfl (fcP rfl (fcP rfl (fcP rfl (fcP rfl (fcP rfl (fcP rfl (fcP (by decide) (fcP rfl (fcP (by decide +kernel) (fcP (by decide +kernel) (fcP rfl (fcP (by decide) (fcP rfl (fcP rfl (fcP (by decide) (fcP rfl (fcP (by decide +kernel) (fcP (by decide +kernel) (fcP rfl (fcP (by decide) (fcP rfl (fcP rfl (fcP (by decide) (fcP rfl (fcP rfl (fcP rfl (fcP (Jvm.Free.Fl.noNaN64_no.mp (div_nn (by decide +kernel) (mx_ne _ (by decide)))) (fcP rfl (fcP (by decide +kernel) (fcP rfl (fcP rfl (fcP (by decide +kernel) (fcP rfl (fcP rfl (fcP rfl (fcP (by decide +kernel) (fcP (by decide +kernel) (fcP (by decide +kernel) (fcP (by decide +kernel) (fcP (by decide +kernel) (fcP (by decide +kernel) (fcP rfl (fcP (Jvm.Free.Fl.noNaN64_no.mp (div_nn (by decide +kernel) (mx_ne _ (by decide)))) (fcP (fin_ne (by decide +kernel) (div_nn (by decide +kernel) (mx_ne _ (by decide)))) (fnP))))))))))))))))))))))))))))))))))))))))))))))))))))))))))))))))))))))
            · refine Good.of (some ([false, false, false, true, false, false, false, true, false, false, true, false, false, false, false, false, true, false, true, false, true, false, true, false, false, false, true, false, false, false, true, false, false, true, true, false, true, false, true, false, true, true, false], [(5)])) rfl ?_
              simp only [List.nil_append, List.append_nil, List.cons_append]
              exact fcP (by decide) (fcP (by assumption) (fcP rfl (fcP (fl (h_eq _) (by assumption)) (fcP rfl (fcP (tr (h_eq _) (by assumption)) (fcP rfl (fcP (fl (h_eq _) (by assumption)) (fcP rfl (fcP (tr (h_eq _) (by assumption)) (fcP rfl (fcP (fl (h_eq _) (by assumption)) (fcP rfl (fcP (by decide) (fcP rfl (fcP (by decide) (fcP rfl (fcP (by decide) (fcP rfl (fcP (by decide) (fcP rfl (fcP (by decide) (fcP rfl (fcP (by decide) (fcP rfl (fcP rfl (fcP rfl (fcP rfl (fcP rfl (fcP rfl (fcP rfl (fcP rfl (fcP (by decide) (fcP rfl (fcP (by decide +kernel) (fcP (by decide +kernel) (fcP rfl (fcP (by decide) (fcP rfl (fcP rfl (fcP (by decide) (fcP rfl (fcP (by decide +kernel) (fcP (by decide +kernel) (fcP rfl (fcP (by decide) (fcP rfl (fcP rfl (fcP (by decide) (fcP rfl (fcP (by decide +kernel) (fcP (by decide +kernel) (fcP rfl (fcP rfl (fcP (Jvm.Free.Fl.noNaN64_no.mp (div_nn (by decide +kernel) (mx_ne _ (by decide)))) (fcP rfl (fcP (by decide +kernel) (fcP rfl (fcP rfl (fcP (by decide +kernel) (fcP rfl (fcP rfl (fcP (by decide +kernel) (fcP rfl (fcP (by decide +kernel) (fcP (by decide +kernel) (fcP (by decide +kernel) (fcP (by decide +kernel) (fcP (by decide +kernel) (fcP (by decide +kernel) (fcP rfl (fcP (Jvm.Free.Fl.noNaN64_no.mp (div_nn (by decide +kernel) (mx_ne _ (by decide)))) (fcP (fin_ne (by decide +kernel) (div_nn (by decide +kernel) (mx_ne _ (by decide)))) (fnP)))))))))))))))))))))))))))))))))))))))))))))))))))))))))))))))))))))))))
          · by_cases pB4 : (i1 &&& ((Int8.ofInt (16)).toInt32)).toInt = 0
            · refine Good.of (some ([false, false, false, true, false, false, false, false, false, true, true, false, false, false, false, false, true, false, true, false, false, true, true, false, false, false, true, false, false, false, false, false, true, true, true, false, true, false, false, true, true, true, false], [(5)])) rfl ?_
              simp only [List.nil_append, List.append_nil, List.cons_append]
              exact fcP (by decide) (fcP (by assumption) (fcP rfl (fcP (fl (h_eq _) (by assumption)) (fcP rfl (fcP (tr (h_eq _) (by assumption)) (fcP rfl (fcP (fl (h_eq _) (by assumption)) (fcP rfl (fcP (fl (h_eq _) (by assumption)) (fcP rfl (fcP (tr (h_eq _) (by assumption)) (fcP rfl (fcP (by decide) (fcP rfl (fcP (by decide) (fcP rfl (fcP (by decide) (fcP rfl (fcP (by decide) (fcP rfl (fcP (by decide) (fcP rfl (fcP (by decide) (fcP rfl (fcP rfl (fcP rfl (fcP rfl (fcP rfl (fcP rfl (fcP rfl (fcP rfl (fcP (by decide) (fcP rfl (fcP (by decide +kernel) (fcP (by decide +kernel) (fcP rfl (fcP (by decide) (fcP rfl (fcP rfl (fcP (by decide) (fcP rfl (fcP (by decide +kernel) (fcP (by decide +kernel) (fcP rfl (fcP (by decide) (fcP rfl (fcP (by decide +kernel) (fcP (by decide +kernel) (fcP rfl (fcP (by decide) (fcP rfl (fcP rfl (fcP rfl (fcP (Jvm.Free.Fl.noNaN64_no.mp (div_nn (by decide +kernel) (mx_ne _ (by decide)))) (fcP rfl (fcP (by decide +kernel) (fcP rfl (fcP rfl (fcP (by decide +kernel) (fcP rfl (fcP (by decide +kernel) (fcP rfl (fcP rfl (fcP (by decide +kernel) (fcP (by decide +kernel) (fcP (by decide +kernel) (fcP (by decide +kernel) (fcP (by decide +kernel) (fcP (by decide +kernel) (fcP rfl (fcP (Jvm.Free.Fl.noNaN64_no.mp (div_nn (by decide +kernel) (mx_ne _ (by decide)))) (fcP (fin_ne (by decide +kernel) (div_nn (by decide +kernel) (mx_ne _ (by decide)))) (fnP)))))))))))))))))))))))))))))))))))))))))))))))))))))))))))))))))))))))))
            · refine Good.of (some ([false, false, false, true, false, false, false, false, false, false, true, false, false, false, false, false, true, false, true, false, false, false, true, false, false, false, true, false, false, false, false, false, false, true, true, false, true, false, false, false, true, true, false], [(5)])) rfl ?_
              simp only [List.nil_append, List.append_nil, List.cons_append]
              exact fcP (by decide) (fcP (by assumption) (fcP rfl (fcP (fl (h_eq _) (by assumption)) (fcP rfl (fcP (tr (h_eq _) (by assumption)) (fcP rfl (fcP (fl (h_eq _) (by assumption)) (fcP rfl (fcP (fl (h_eq _) (by assumption)) (fcP rfl (fcP (fl (h_eq _) (by assumption)) (fcP rfl (fcP (by decide) (fcP rfl (fcP (by decide) (fcP rfl (fcP (by decide) (fcP rfl (fcP (by decide) (fcP rfl (fcP (by decide) (fcP rfl (fcP (by decide) (fcP rfl (fcP rfl (fcP rfl (fcP rfl (fcP rfl (fcP rfl (fcP rfl (fcP rfl (fcP (by decide) (fcP rfl (fcP (by decide +kernel) (fcP (by decide +kernel) (fcP rfl (fcP (by decide) (fcP rfl (fcP rfl (fcP (by decide) (fcP rfl (fcP (by decide +kernel) (fcP (by decide +kernel) (fcP rfl (fcP (by decide) (fcP rfl (fcP (by decide +kernel) (fcP (by decide +kernel) (fcP rfl (fcP (by decide) (fcP rfl (fcP (by decide +kernel) (fcP (by decide +kernel) (fcP rfl (fcP rfl (fcP (Jvm.Free.Fl.noNaN64_no.mp (div_nn (by decide +kernel) (mx_ne _ (by decide)))) (fcP rfl (fcP (by decide +kernel) (fcP rfl (fcP rfl (fcP (by decide +kernel) (fcP rfl (fcP (by decide +kernel) (fcP rfl (fcP (by decide +kernel) (fcP rfl (fcP (by decide +kernel) (fcP (by decide +kernel) (fcP (by decide +kernel) (fcP (by decide +kernel) (fcP (by decide +kernel) (fcP (by decide +kernel) (fcP rfl (fcP (Jvm.Free.Fl.noNaN64_no.mp (div_nn (by decide +kernel) (mx_ne _ (by decide)))) (fcP (fin_ne (by decide +kernel) (div_nn (by decide +kernel) (mx_ne _ (by decide)))) (fnP))))))))))))))))))))))))))))))))))))))))))))))))))))))))))))))))))))))))))))
      · by_cases pB2 : (i1 &&& (Int32.ofInt (4))).toInt = 0
        · by_cases pB3 : (i1 &&& ((Int8.ofInt (8)).toInt32)).toInt = 0
          · by_cases pB4 : (i1 &&& ((Int8.ofInt (16)).toInt32)).toInt = 0
            · refine Good.of (some ([false, false, false, false, false, true, false, true, false, true, true, false, false, false, false, false, true, false, false, true, true, true, true, false, false, false, false, false, true, false, true, false, true, true, true, false, false, true, true, true, true, true, false], [(5)])) rfl ?_
              simp only [List.nil_append, List.append_nil, List.cons_append]
              exact fcP (by decide) (fcP (by assumption) (fcP rfl (fcP (fl (h_eq _) (by assumption)) (fcP rfl (fcP (fl (h_eq _) (by assumption)) (fcP rfl (fcP (tr (h_eq _) (by assumption)) (fcP rfl (fcP (tr (h_eq _) (by assumption)) (fcP rfl (fcP (tr (h_eq _) (by assumption)) (fcP rfl (fcP (by decide) (fcP rfl (fcP (by decide) (fcP rfl (fcP (by decide) (fcP rfl (fcP (by decide) (fcP rfl (fcP (by decide) (fcP rfl (fcP (by decide) (fcP rfl (fcP rfl (fcP rfl (fcP rfl (fcP rfl (fcP rfl (fcP rfl (fcP rfl (fcP (by decide) (fcP rfl (fcP (by decide +kernel) (fcP (by decide +kernel) (fcP rfl (fcP (by decide) (fcP rfl (fcP (by decide +kernel) (fcP (by decide +kernel) (fcP rfl (fcP (by decide) (fcP rfl (fcP rfl (fcP (by decide) (fcP rfl (fcP rfl (fcP (by decide) (fcP rfl (fcP rfl (fcP rfl (fcP (Jvm.Free.Fl.noNaN64_no.mp (div_nn (by decide +kernel) (mx_ne _ (by decide)))) (fcP rfl (fcP (by decide +kernel) (fcP rfl (fcP (by decide +kernel) (fcP rfl (fcP rfl (fcP rfl (fcP rfl (fcP (by decide +kernel) (fcP (by decide +kernel) (fcP (by decide +kernel) (fcP (by decide +kernel) (fcP (by decide +kernel) (fcP (by decide +kernel) (fcP rfl (fcP (Jvm.Free.Fl.noNaN64_no.mp (div_nn (by decide +kernel) (mx_ne _ (by decide)))) (fcP (fin_ne (by decide +kernel) (div_nn (by decide +kernel) (mx_ne _ (by decide)))) (fnP))))))))))))))))))))))))))))))))))))))))))))))))))))))))))))))))))))))
            · refine Good.of (some ([false, false, false, false, false, true, false, true, false, false, true, false, false, false, false, false, true, false, false, true, true, false, true, false, false, false, false, false, true, false, true, false, false, true, true, false, false, true, true, false, true, true, false], [(5)])) rfl ?_
              simp only [List.nil_append, List.append_nil, List.cons_append]
              exact fcP (by decide) (fcP (by assumption) (fcP rfl (fcP (fl (h_eq _) (by assumption)) (fcP rfl (fcP (fl (h_eq _) (by assumption)) (fcP rfl (fcP (tr (h_eq _) (by assumption)) (fcP rfl (fcP (tr (h_eq _) (by assumption)) (fcP rfl (fcP (fl (h_eq _) (by assumption)) (fcP rfl (fcP (by decide) (fcP rfl (fcP (by decide) (fcP rfl (fcP (by decide) (fcP rfl (fcP (by decide) (fcP rfl (fcP (by decide) (fcP rfl (fcP (by decide) (fcP rfl (fcP rfl (fcP rfl (fcP rfl (fcP rfl (fcP rfl (fcP rfl (fcP rfl (fcP (by decide) (fcP rfl (fcP (by decide +kernel) (fcP (by decide +kernel) (fcP rfl (fcP (by decide) (fcP rfl (fcP (by decide +kernel) (fcP (by decide +kernel) (fcP rfl (fcP (by decide) (fcP rfl (fcP rfl (fcP (by decide) (fcP rfl (fcP rfl (fcP (by decide) (fcP rfl (fcP (by decide +kernel) (fcP (by decide +kernel) (fcP rfl (fcP rfl (fcP (Jvm.Free.Fl.noNaN64_no.mp (div_nn (by decide +kernel) (mx_ne _ (by decide)))) (fcP rfl (fcP (by decide +kernel) (fcP rfl (fcP (by decide +kernel) (fcP rfl (fcP rfl (fcP rfl (fcP (by decide +kernel) (fcP rfl (fcP (by decide +kernel) (fcP (by decide +kernel) (fcP (by decide +kernel) (fcP (by decide +kernel) (fcP (by decide +kernel) (fcP (by decide +kernel) (fcP rfl (fcP (Jvm.Free.Fl.noNaN64_no.mp (div_nn (by decide +kernel) (mx_ne _ (by decide)))) (fcP (fin_ne (by decide +kernel) (div_nn (by decide +kernel) (mx_ne _ (by decide)))) (fnP)))))))))))))))))))))))))))))))))))))))))))))))))))))))))))))))))))))))))
          · by_cases pB4 : (i1 &&& ((Int8.ofInt (16)).toInt32)).toInt = 0
            · refine Good.of (some ([false, false, false, false, false, true, false, false, false, true, true, false, false, false, false, false, true, false, false, true, false, true, true, false, false, false, false, false, true, false, false, false, true, true, true, false, false, true, false, true, true, true, false], [(5)])) rfl ?_
              simp only [List.nil_append, List.append_nil, List.cons_append]
              exact fcP (by decide) (fcP (by assumption) (fcP rfl (fcP (fl (h_eq _) (by assumption)) (fcP rfl (fcP (fl (h_eq _) (by assumption)) (fcP rfl (fcP (tr (h_eq _) (by assumption)) (fcP rfl (fcP (fl (h_eq _) (by assumption)) (fcP rfl (fcP (tr (h_eq _) (by assumption)) (fcP rfl (fcP (by decide) (fcP rfl (fcP (by decide) (fcP rfl (fcP (by decide) (fcP rfl (fcP (by decide) (fcP rfl (fcP (by decide) (fcP rfl (fcP (by decide) (fcP rfl (fcP rfl (fcP rfl (fcP rfl (fcP rfl (fcP rfl (fcP rfl (fcP rfl (fcP (by decide) (fcP rfl (fcP (by decide +kernel) (fcP (by decide +kernel) (fcP rfl (fcP (by decide) (fcP rfl (fcP (by decide +kernel) (fcP (by decide +kernel) (fcP rfl (fcP (by decide) (fcP rfl (fcP rfl (fcP (by decide) (fcP rfl (fcP (by decide +kernel) (fcP (by decide +kernel) (fcP rfl (fcP (by decide) (fcP rfl (fcP rfl (fcP rfl (fcP (Jvm.Free.Fl.noNaN64_no.mp (div_nn (by decide +kernel) (mx_ne _ (by decide)))) (fcP rfl (fcP (by decide +kernel) (fcP rfl (fcP (by decide +kernel) (fcP rfl (fcP rfl (fcP (by decide +kernel) (fcP rfl (fcP rfl (fcP (by decide +kernel) (fcP (by decide +kernel) (fcP (by decide +kernel) (fcP (by decide +kernel) (fcP (by decide +kernel) (fcP (by decide +kernel) (fcP rfl (fcP (Jvm.Free.Fl.noNaN64_no.mp (div_nn (by decide +kernel) (mx_ne _ (by decide)))) (fcP (fin_ne (by decide +kernel) (div_nn (by decide +kernel) (mx_ne _ (by decide)))) (fnP)))))))))))))))))))))))))))))))))))))))))))))))))))))))))))))))))))))))))
            · refine Good.of (some ([false, false, false, false, false, true, false, false, false, false, true, false, false, false, false, false, true, false, false, true, false, false, true, false, false, false, false, false, true, false, false, false, false, true, true, false, false, true, false, false, true, true, false], [(5)])) rfl ?_
              simp only [List.nil_append, List.append_nil, List.cons_append]
              exact fcP (by decide) (fcP (by assumption) (fcP rfl (fcP (fl (h_eq _) (by assumption)) (fcP rfl (fcP (fl (h_eq _) (by assumption)) (fcP rfl (fcP (tr (h_eq _) (by assumption)) (fcP rfl (fcP (fl (h_eq _) (by assumption)) (fcP rfl (fcP (fl (h_eq _) (by assumption)) (fcP rfl (fcP (by decide) (fcP rfl (fcP (by decide) (fcP rfl (fcP (by decide) (fcP rfl (fcP (by decide) (fcP rfl (fcP (by decide) (fcP rfl (fcP (by decide) (fcP rfl (fcP rfl (fcP rfl (fcP rfl (fcP rfl (fcP rfl (fcP rfl (fcP rfl (fcP (by decide) (fcP rfl (fcP (by decide +kernel) (fcP (by decide +kernel) (fcP rfl (fcP (by decide) (fcP rfl (fcP (by decide +kernel) (fcP (by decide +kernel) (fcP rfl (fcP (by decide) (fcP rfl (fcP rfl (fcP (by decide) (fcP rfl (fcP (by decide +kernel) (fcP (by decide +kernel) (fcP rfl (fcP (by decide) (fcP rfl (fcP (by decide +kernel) (fcP (by decide +kernel) (fcP rfl (fcP rfl (fcP (Jvm.Free.Fl.noNaN64_no.mp (div_nn (by decide +kernel) (mx_ne _ (by decide)))) (fcP rfl (fcP (by decide +kernel) (fcP rfl (fcP (by decide +kernel) (fcP rfl (fcP rfl (fcP (by decide +kernel) (fcP rfl (fcP (by decide +kernel) (fcP rfl (fcP (by decide +kernel) (fcP (by decide +kernel) (fcP (by decide +kernel) (fcP (by decide +kernel) (fcP (by decide +kernel) (fcP (by decide +kernel) (fcP rfl (fcP (Jvm.Free.Fl.noNaN64_no.mp (div_nn (by decide +kernel) (mx_ne _ (by decide)))) (fcP (fin_ne (by decide +kernel) (div_nn (by decide +kernel) (mx_ne _ (by decide)))) (fnP))))))))))))))))))))))))))))))))))))))))))))))))))))))))))))))))))))))))))))
        · by_cases pB3 : (i1 &&& ((Int8.ofInt (8)).toInt32)).toInt = 0
          · by_cases pB4 : (i1 &&& ((Int8.ofInt (16)).toInt32)).toInt = 0
            · refine Good.of (some ([false, false, false, false, false, false, false, true, false, true, true, false, false, false, false, false, true, false, false, false, true, true, true, false, false, false, false, false, false, false, true, false, true, true, true, false, false, false, true, true, true, true, false], [(5)])) rfl ?_
              simp only [List.nil_append, List.append_nil, List.cons_append]
              exact fcP (by decide) (fcP (by assumption) (fcP rfl (fcP (fl (h_eq _) (by assumption)) (fcP rfl (fcP (fl (h_eq _) (by assumption)) (fcP rfl (fcP (fl (h_eq _) (by assumption)) (fcP rfl (fcP (tr (h_eq _) (by assumption)) (fcP rfl (fcP (tr (h_eq _) (by assumption)) (fcP rfl (fcP (by decide) (fcP rfl (fcP (by decide) (fcP rfl (fcP (by decide) (fcP rfl (fcP (by decide) (fcP rfl (fcP (by decide) (fcP rfl (fcP (by decide) (fcP rfl (fcP rfl (fcP rfl (fcP rfl (fcP rfl (fcP rfl (fcP rfl (fcP rfl (fcP (by decide) (fcP rfl (fcP (by decide +kernel) (fcP (by decide +kernel) (fcP rfl (fcP (by decide) (fcP rfl (fcP (by decide +kernel) (fcP (by decide +kernel) (fcP rfl (fcP (by decide) (fcP rfl (fcP (by decide +kernel) (fcP (by decide +kernel) (fcP rfl (fcP (by decide) (fcP rfl (fcP rfl (fcP (by decide) (fcP rfl (fcP rfl (fcP rfl (fcP (Jvm.Free.Fl.noNaN64_no.mp (div_nn (by decide +kernel) (mx_ne _ (by decide)))) (fcP rfl (fcP (by decide +kernel) (fcP rfl (fcP (by decide +kernel) (fcP rfl (fcP (by decide +kernel) (fcP rfl (fcP rfl (fcP rfl (fcP (by decide +kernel) (fcP (by decide +kernel) (fcP (by decide +kernel) (fcP (by decide +kernel) (fcP (by decide +kernel) (fcP (by decide +kernel) (fcP rfl (fcP (Jvm.Free.Fl.noNaN64_no.mp (div_nn (by decide +kernel) (mx_ne _ (by decide)))) (fcP (fin_ne (by decide +kernel) (div_nn (by decide +kernel) (mx_ne _ (by decide)))) (fnP)))))))))))))))))))))))))))))))))))))))))))))))))))))))))))))))))))))))))
            · refine Good.of (some ([false, false, false, false, false, false, false, true, false, false, true, false, false, false, false, false, true, false, false, false, true, false, true, false, false, false, false, false, false, false, true, false, false, true, true, false, false, false, true, false, true, true, false], [(5)])) rfl ?_
              simp only [List.nil_append, List.append_nil, List.cons_append]
              exact fcP (by decide) (fcP (by assumption) (fcP rfl (fcP (fl (h_eq _) (by assumption)) (fcP rfl (fcP (fl (h_eq _) (by assumption)) (fcP rfl (fcP (fl (h_eq _) (by assumption)) (fcP rfl (fcP (tr (h_eq _) (by assumption)) (fcP rfl (fcP (fl (h_eq _) (by assumption)) (fcP rfl (fcP (by decide) (fcP rfl (fcP (by decide) (fcP rfl (fcP (by decide) (fcP rfl (fcP (by decide) (fcP rfl (fcP (by decide) (fcP rfl (fcP (by decide) (fcP rfl (fcP rfl (fcP rfl (fcP rfl (fcP rfl (fcP rfl (fcP rfl (fcP rfl (fcP (by decide) (fcP rfl (fcP (by decide +kernel) (fcP (by decide +kernel) (fcP rfl (fcP (by decide) (fcP rfl (fcP (by decide +kernel) (fcP (by decide +kernel) (fcP rfl (fcP (by decide) (fcP rfl (fcP (by decide +kernel) (fcP (by decide +kernel) (fcP rfl (fcP (by decide) (fcP rfl (fcP rfl (fcP (by decide) (fcP rfl (fcP (by decide +kernel) (fcP (by decide +kernel) (fcP rfl (fcP rfl (fcP (Jvm.Free.Fl.noNaN64_no.mp (div_nn (by decide +kernel) (mx_ne _ (by decide)))) (fcP rfl (fcP (by decide +kernel) (fcP rfl (fcP (by decide +kernel) (fcP rfl (fcP (by decide +kernel) (fcP rfl (fcP rfl (fcP (by decide +kernel) (fcP rfl (fcP (by decide +kernel) (fcP (by decide +kernel) (fcP (by decide +kernel) (fcP (by decide +kernel) (fcP (by decide +kernel) (fcP (by decide +kernel) (fcP rfl (fcP (Jvm.Free.Fl.noNaN64_no.mp (div_nn (by decide +kernel) (mx_ne _ (by decide)))) (fcP (fin_ne (by decide +kernel) (div_nn (by decide +kernel) (mx_ne _ (by decide)))) (fnP))))))))))))))))))))))))))))))))))))))))))))))))))))))))))))))))))))))))))))
          · by_cases pB4 : (i1 &&& ((Int8.ofInt (16)).toInt32)).toInt = 0
            · refine Good.of (some ([false, false, false, false, false, false, false, false, false, true, true, false, false, false, false, false, true, false, false, false, false, true, true, false, false, false, false, false, false, false, false, false, true, true, true, false, false, false, false, true, true, true, false], [(5)])) rfl ?_
              simp only [List.nil_append, List.append_nil, List.cons_append]
              exact fcP (by decide) (fcP (by assumption) (fcP rfl (fcP (fl (h_eq _) (by assumption)) (fcP rfl (fcP (fl (h_eq _) (by assumption)) (fcP rfl (fcP (fl (h_eq _) (by assumption)) (fcP rfl (fcP (fl (h_eq _) (by assumption)) (fcP rfl (fcP (tr (h_eq _) (by assumption)) (fcP rfl (fcP (by decide) (fcP rfl (fcP (by decide) (fcP rfl (fcP (by decide) (fcP rfl (fcP (by decide) (fcP rfl (fcP (by decide) (fcP rfl (fcP (by decide) (fcP rfl (fcP rfl (fcP rfl (fcP rfl (fcP rfl (fcP rfl (fcP rfl (fcP rfl (fcP (by decide) (fcP rfl (fcP (by decide +kernel) (fcP (by decide +kernel) (fcP rfl (fcP (by decide) (fcP rfl (fcP (by decide +kernel) (fcP (by decide +kernel) (fcP rfl (fcP (by decide) (fcP rfl (fcP (by decide +kernel) (fcP (by decide +kernel) (fcP rfl (fcP (by decide) (fcP rfl (fcP (by decide +kernel) (fcP (by decide +kernel) (fcP rfl (fcP (by decide) (fcP rfl (fcP rfl (fcP rfl (fcP (Jvm.Free.Fl.noNaN64_no.mp (div_nn (by decide +kernel) (mx_ne _ (by decide)))) (fcP rfl (fcP (by decide +kernel) (fcP rfl (fcP (by decide +kernel) (fcP rfl (fcP (by decide +kernel) (fcP rfl (fcP (by decide +kernel) (fcP rfl (fcP rfl (fcP (by decide +kernel) (fcP (by decide +kernel) (fcP (by decide +kernel) (fcP (by decide +kernel) (fcP (by decide +kernel) (fcP (by decide +kernel) (fcP rfl (fcP (Jvm.Free.Fl.noNaN64_no.mp (div_nn (by decide +kernel) (mx_ne _ (by decide)))) (fcP (fin_ne (by decide +kernel) (div_nn (by decide +kernel) (mx_ne _ (by decide)))) (fnP))))))))))))))))))))))))))))))))))))))))))))))))))))))))))))))))))))))))))))
            · refine Good.of (some ([false, false, false, false, false, false, false, false, false, false, true, false, false, false, false, false, true, false, false, false, false, false, true, false, false, false, false, false, false, false, false, false, false, true, true, false, false, false, false, false, true, true, false], [(5)])) rfl ?_
              simp only [List.nil_append, List.append_nil, List.cons_append]
              exact fcP (by decide) (fcP (by assumption) (fcP rfl (fcP (fl (h_eq _) (by assumption)) (fcP rfl (fcP (fl (h_eq _) (by assumption)) (fcP rfl (fcP (fl (h_eq _) (by assumption)) (fcP rfl (fcP (fl (h_eq _) (by assumption)) (fcP rfl (fcP (fl (h_eq _) (by assumption)) (fcP rfl (fcP (by decide) (fcP rfl (fcP (by decide) (fcP rfl (fcP (by decide) (fcP rfl (fcP (by decide) (fcP rfl (fcP (by decide) (fcP rfl (fcP (by decide) (fcP rfl (fcP rfl (fcP rfl (fcP rfl (fcP rfl (fcP rfl (fcP rfl (fcP rfl (fcP (by decide) (fcP rfl (fcP (by decide +kernel) (fcP (by decide +kernel) (fcP rfl (fcP (by decide) (fcP rfl (fcP (by decide +kernel) (fcP (by decide +kernel) (fcP rfl (fcP (by decide) (fcP rfl (fcP (by decide +kernel) (fcP (by decide +kernel) (fcP rfl (fcP (by decide) (fcP rfl (fcP (by decide +kernel) (fcP (by decide +kernel) (fcP rfl (fcP (by decide) (fcP rfl (fcP (by decide +kernel) (fcP (by decide +kernel) (fcP rfl (fcP rfl (fcP (Jvm.Free.Fl.noNaN64_no.mp (div_nn (by decide +kernel) (mx_ne _ (by decide)))) (fcP rfl (fcP (by decide +kernel) (fcP rfl (fcP (by decide +kernel) (fcP rfl (fcP (by decide +kernel) (fcP rfl (fcP (by decide +kernel) (fcP rfl (fcP (by decide +kernel) (fcP rfl (fcP (by decide +kernel) (fcP (by decide +kernel) (fcP (by decide +kernel) (fcP (by decide +kernel) (fcP (by decide +kernel) (fcP (by decide +kernel) (fcP rfl (fcP (Jvm.Free.Fl.noNaN64_no.mp (div_nn (by decide +kernel) (mx_ne _ (by decide)))) (fcP (fin_ne (by decide +kernel) (div_nn (by decide +kernel) (mx_ne _ (by decide)))) (fnP)))))))))))))))))))))))))))))))))))))))))))))))))))))))))))))))))))))))))))))))
  · by_cases pB0 : (i1 &&& (Int32.ofInt (1))).toInt = 0
    · by_cases pB1 : (i1 &&& (Int32.ofInt (2))).toInt = 0
      · by_cases pB2 : (i1 &&& (Int32.ofInt (4))).toInt = 0
        · by_cases pB3 : (i1 &&& ((Int8.ofInt (8)).toInt32)).toInt = 0
          · by_cases pB4 : (i1 &&& ((Int8.ofInt (16)).toInt32)).toInt = 0
            · by_cases pB5 : (i1 &&& ((Int8.ofInt (32)).toInt32)).toInt = 0
              · refine Good.of (some ([false, true, false, true, false, true, false, true, false, true, false, true, false, false, false, false, false, false, true, true, true, true, true, true, false, true, false, true, false, true, false, true, false, true, false, true, true, false, true, true, true, true, true, true, false, false], [(6)])) rfl ?_
                simp only [List.nil_append, List.append_nil, List.cons_append]
                exact fcP (by decide) (fcP (by assumption) (fcP rfl (fcP (tr (h_eq _) (by assumption)) (fcP rfl (fcP (tr (h_eq _) (by assumption)) (fcP rfl (fcP (tr (h_eq _) (by assumption)) (fcP rfl (fcP (tr (h_eq _) (by assumption)) (fcP rfl (fcP (tr (h_eq _) (by assumption)) (fcP rfl (fcP (tr (h_eq _) (by assumption)) (fcP (by decide) (fcP rfl (fcP (by decide) (fcP rfl (fcP (by decide) (fcP rfl (fcP (by decide) (fcP rfl (fcP (by decide) (fcP rfl (fcP (by decide) (fcP rfl (fcP (by decide) (fcP rfl (fcP rfl (fcP rfl (fcP rfl (fcP rfl (fcP rfl (fcP rfl (fcP (by decide) (fcP rfl (fcP rfl (fcP (by decide) (fcP rfl (fcP rfl (fcP (by decide) (fcP rfl (fcP rfl (fcP (by decide) (fcP rfl (fcP rfl (fcP (by decide) (fcP rfl (fcP rfl (fcP (by decide) (fcP rfl (fcP rfl (fcP rfl (fcP rfl (fcP rfl (fcP rfl (fcP rfl (fcP rfl (fcP rfl (fcP (by decide +kernel) (fcP (by decide +kernel) (fcP (by decide +kernel) (fcP (by decide +kernel) (fcP (by decide +kernel) (fcP (by decide +kernel) (fcP rfl (fcP (by decide +kernel) (fnP)))))))))))))))))))))))))))))))))))))))))))))))))))))))))))))))))))
              · refine Good.of (some ([false, true, false, true, false, true, false, true, false, true, false, false, false, false, false, false, false, false, true, true, true, true, true, false, false, true, false, true, false, true, false, true, false, true, false, false, true, true, true, true, true, true, true, false, true, false], [(6)])) rfl ?_
                simp only [List.nil_append, List.append_nil, List.cons_append]
                exact fcP (by decide) (fcP (by assumption) (fcP rfl (fcP (tr (h_eq _) (by assumption)) (fcP rfl (fcP (tr (h_eq _) (by assumption)) (fcP rfl (fcP (tr (h_eq _) (by assumption)) (fcP rfl (fcP (tr (h_eq _) (by assumption)) (fcP rfl (fcP (tr (h_eq _) (by assumption)) (fcP rfl (fcP (fl (h_eq _) (by assumption)) (fcP (by decide) (fcP rfl (fcP (by decide) (fcP rfl (fcP (by decide) (fcP rfl (fcP (by decide) (fcP rfl (fcP (by decide) (fcP rfl (fcP (by decide) (fcP rfl (fcP (by decide) (fcP rfl (fcP rfl (fcP rfl (fcP rfl (fcP rfl (fcP rfl (fcP rfl (fcP (by decide) (fcP rfl (fcP rfl (fcP (by decide) (fcP rfl (fcP rfl (fcP (by decide) (fcP rfl (fcP rfl (fcP (by decide) (fcP rfl (fcP rfl (fcP (by decide) (fcP rfl (fcP rfl (fcP (by decide) (fcP rfl (fcP (by decide +kernel) (fcP (by decide +kernel) (fcP rfl (fcP rfl (fcP (Jvm.Free.Fl.noNaN64_no.mp (div_nn (by decide +kernel) (mx_ne _ (by decide)))) (fcP rfl (fcP rfl (fcP rfl (fcP rfl (fcP rfl (fcP rfl (fcP (by decide +kernel) (fcP (by decide +kernel) (fcP (by decide +kernel) (fcP (by decide +kernel) (fcP (by decide +kernel) (fcP (by decide +kernel) (fcP (by decide +kernel) (fcP rfl (fcP (Jvm.Free.Fl.noNaN64_no.mp (div_nn (by decide +kernel) (mx_ne _ (by decide)))) (fcP (fin_ne (by decide +kernel) (div_nn (by decide +kernel) (mx_ne _ (by decide)))) (fnP))))))))))))))))))))))))))))))))))))))))))))))))))))))))))))))))))))))))
            · by_cases pB5 : (i1 &&& ((Int8.ofInt (32)).toInt32)).toInt = 0
              · refine Good.of (some ([false, true, false, true, false, true, false, true, false, false, false, true, false, false, false, false, false, false, true, true, true, true, false, true, false, true, false, true, false, true, false, true, false, false, false, true, true, true, true, true, true, true, false, true, true, false], [(6)])) rfl ?_
                simp only [List.nil_append, List.append_nil, List.cons_append]
                exact fcP (by decide) (fcP (by assumption) (fcP rfl (fcP (tr (h_eq _) (by assumption)) (fcP rfl (fcP (tr (h_eq _) (by assumption)) (fcP rfl (fcP (tr (h_eq _) (by assumption)) (fcP rfl (fcP (tr (h_eq _) (by assumption)) (fcP rfl (fcP (fl (h_eq _) (by assumption)) (fcP rfl (fcP (tr (h_eq _) (by assumption)) (fcP (by decide) (fcP rfl (fcP (by decide) (fcP rfl (fcP (by decide) (fcP rfl (fcP (by decide) (fcP rfl (fcP (by decide) (fcP rfl (fcP (by decide) (fcP rfl (fcP (by decide) (fcP rfl (fcP rfl (fcP rfl (fcP rfl (fcP rfl (fcP rfl (fcP rfl (fcP (by decide) (fcP rfl (fcP rfl (fcP (by decide) (fcP rfl (fcP rfl (fcP (by decide) (fcP rfl (fcP rfl (fcP (by decide) (fcP rfl (fcP rfl (fcP (by decide) (fcP rfl (fcP (by decide +kernel) (fcP (by decide +kernel) (fcP rfl (fcP (by decide) (fcP rfl (fcP rfl (fcP rfl (fcP (Jvm.Free.Fl.noNaN64_no.mp (div_nn (by decide +kernel) (mx_ne _ (by decide)))) (fcP rfl (fcP rfl (fcP rfl (fcP rfl (fcP rfl (fcP (by decide +kernel) (fcP rfl (fcP (by decide +kernel) (fcP (by decide +kernel) (fcP (by decide +kernel) (fcP (by decide +kernel) (fcP (by decide +kernel) (fcP (by decide +kernel) (fcP rfl (fcP (Jvm.Free.Fl.noNaN64_no.mp (div_nn (by decide +kernel) (mx_ne _ (by decide)))) (fcP (fin_ne (by decide +kernel) (div_nn (by decide +kernel) (mx_ne _ (by decide)))) (fnP))))))))))))))))))))))))))))))))))))))))))))))))))))))))))))))))))))))))
              · refine Good.of (some ([false, true, false, true, false, true, false, true, false, false, false, false, false, false, false, false, false, false, true, true, true, true, false, false, false, true, false, true, false, true, false, true, false, false, false, false, true, true, true, true, true, true, false, false, true, false], [(6)])) rfl ?_
                simp only [List.nil_append, List.append_nil, List.cons_append]
                exact fcP (by decide) (fcP (by assumption) (fcP rfl (fcP (tr (h_eq _) (by assumption)) (fcP rfl (fcP (tr (h_eq _) (by assumption)) (fcP rfl (fcP (tr (h_eq _) (by assumption)) (fcP rfl (fcP (tr (h_eq _) (by assumption)) (fcP rfl (fcP (fl (h_eq _) (by assumption)) (fcP rfl (fcP (fl (h_eq _) (by assumption)) (fcP (by decide) (fcP rfl (fcP (by decide) (fcP rfl (fcP (by decide) (fcP rfl (fcP (by decide) (fcP rfl (fcP (by decide) (fcP rfl (fcP (by decide) (fcP rfl (fcP (by decide) (fcP rfl (fcP rfl (fcP rfl (fcP rfl (fcP rfl (fcP rfl (fcP rfl (fcP (by decide) (fcP rfl (fcP rfl (fcP (by decide) (fcP rfl (fcP rfl (fcP (by decide) (fcP rfl (fcP rfl (fcP (by decide) (fcP rfl (fcP rfl (fcP (by decide) (fcP rfl (fcP (by decide +kernel) (fcP (by decide +kernel) (fcP rfl (fcP (by decide) (fcP rfl (fcP (by decide +kernel) (fcP (by decide +kernel) (fcP rfl (fcP rfl (fcP (Jvm.Free.Fl.noNaN64_no.mp (div_nn (by decide +kernel) (mx_ne _ (by decide)))) (fcP rfl (fcP rfl (fcP rfl (fcP rfl (fcP rfl (fcP (by decide +kernel) (fcP rfl (fcP (by decide +kernel) (fcP (by decide +kernel) (fcP (by decide +kernel) (fcP (by decide +kernel) (fcP (by decide +kernel) (fcP (by decide +kernel) (fcP (by decide +kernel) (fcP rfl (fcP (Jvm.Free.Fl.noNaN64_no.mp (div_nn (by decide +kernel) (mx_ne _ (by decide)))) (fcP (fin_ne (by decide +kernel) (div_nn (by decide +kernel) (mx_ne _ (by decide)))) (fnP)))))))))))))))))))))))))))))))))))))))))))))))))))))))))))))))))))))))))))
          · by_cases pB4 : (i1 &&& ((Int8.ofInt (16)).toInt32)).toInt = 0
            · by_cases pB5 : (i1 &&& ((Int8.ofInt (32)).toInt32)).toInt = 0
              · refine Good.of (some ([false, true, false, true, false, true, false, false, false, true, false, true, false, false, false, false, false, false, true, true, true, false, true, true, false, true, false, true, false, true, false, false, false, true, false, true, true, true, true, true, true, false, true, true, true, false], [(6)])) rfl ?_
                simp only [List.nil_append, List.append_nil, List.cons_append]
                exact fcP (by decide) (fcP (by assumption) (fcP rfl (fcP (tr (h_eq _) (by assumption)) (fcP rfl (fcP (tr (h_eq _) (by assumption)) (fcP rfl (fcP (tr (h_eq _) (by assumption)) (fcP rfl (fcP (fl (h_eq _) (by assumption)) (fcP rfl (fcP (tr (h_eq _) (by assumption)) (fcP rfl (fcP (tr (h_eq _) (by assumption)) (fcP (by decide) (fcP rfl (fcP (by decide) (fcP rfl (fcP (by decide) (fcP rfl (fcP (by decide) (fcP rfl (fcP (by decide) (fcP rfl (fcP (by decide) (fcP rfl (fcP (by decide) (fcP rfl (fcP rfl (fcP rfl (fcP rfl (fcP rfl (fcP rfl (fcP rfl (fcP (by decide) (fcP rfl (fcP rfl (fcP (by decide) (fcP rfl (fcP rfl (fcP (by decide) (fcP rfl (fcP rfl (fcP (by decide) (fcP rfl (fcP (by decide +kernel) (fcP (by decide +kernel) (fcP rfl (fcP (by decide) (fcP rfl (fcP rfl (fcP (by decide) (fcP rfl (fcP rfl (fcP rfl (fcP (Jvm.Free.Fl.noNaN64_no.mp (div_nn (by decide +kernel) (mx_ne _ (by decide)))) (fcP rfl (fcP rfl (fcP rfl (fcP rfl (fcP (by decide +kernel) (fcP rfl (fcP rfl (fcP (by decide +kernel) (fcP (by decide +kernel) (fcP (by decide +kernel) (fcP (by decide +kernel) (fcP (by decide +kernel) (fcP (by decide +kernel) (fcP rfl (fcP (Jvm.Free.Fl.noNaN64_no.mp (div_nn (by decide +kernel) (mx_ne _ (by decide)))) (fcP (fin_ne (by decide +kernel) (div_nn (by decide +kernel) (mx_ne _ (by decide)))) (fnP))))))))))))))))))))))))))))))))))))))))))))))))))))))))))))))))))))))))
              · refine Good.of (some ([false, true, false, true, false, true, false, false, false, true, false, false, false, false, false, false, false, false, true, true, true, false, true, false, false, true, false, true, false, true, false, false, false, true, false, false, true, true, true, true, true, false, true, false, true, false], [(6)])) rfl ?_
                simp only [List.nil_append, List.append_nil, List.cons_append]
                exact fcP (by decide) (fcP (by assumption) (fcP rfl (fcP (tr (h_eq _) (by assumption)) (fcP rfl (fcP (tr (h_eq _) (by assumption)) (fcP rfl (fcP (tr (h_eq _) (by assumption)) (fcP rfl (fcP (fl (h_eq _) (by assumption)) (fcP rfl (fcP (tr (h_eq _) (by assumption)) (fcP rfl (fcP (fl (h_eq _) (by assumption)) (fcP (by decide) (fcP rfl (fcP (by decide) (fcP rfl (fcP (by decide) (fcP rfl (fcP (by decide) (fcP rfl (fcP (by decide) (fcP rfl (fcP (by decide) (fcP rfl (fcP (by decide) (fcP rfl (fcP rfl (fcP rfl (fcP rfl (fcP rfl (fcP rfl (fcP rfl (fcP (by decide) (fcP rfl (fcP rfl (fcP (by decide) (fcP rfl (fcP rfl (fcP (by decide) (fcP rfl (fcP rfl (fcP (by decide) (fcP rfl (fcP (by decide +kernel) (fcP (by decide +kernel) (fcP rfl (fcP (by decide) (fcP rfl (fcP rfl (fcP (by decide) (fcP rfl (fcP (by decide +kernel) (fcP (by decide +kernel) (fcP rfl (fcP rfl (fcP (Jvm.Free.Fl.noNaN64_no.mp (div_nn (by decide +kernel) (mx_ne _ (by decide)))) (fcP rfl (fcP rfl (fcP rfl (fcP rfl (fcP (by decide +kernel) (fcP rfl (fcP rfl (fcP (by decide +kernel) (fcP (by decide +kernel) (fcP (by decide +kernel) (fcP (by decide +kernel) (fcP (by decide +kernel) (fcP (by decide +kernel) (fcP (by decide +kernel) (fcP rfl (fcP (Jvm.Free.Fl.noNaN64_no.mp (div_nn (by decide +kernel) (mx_ne _ (by decide)))) (fcP (fin_ne (by decide +kernel) (div_nn (by decide +kernel) (mx_ne _ (by decide)))) (fnP)))))))))))))))))))))))))))))))))))))))))))))))))))))))))))))))))))))))))))
            · by_cases pB5 : (i1 &&& ((Int8.ofInt (32)).toInt32)).toInt = 0
              · refine Good.of (some ([false, true, false, true, false, true, false, false, false, false, false, true, false, false, false, false, false, false, true, true, true, false, false, true, false, true, false, true, false, true, false, false, false, false, false, true, true, true, true, true, true, false, false, true, true, false], [(6)])) rfl ?_
                simp only [List.nil_append, List.append_nil, List.cons_append]
                exact fcP (by decide) (fcP (by assumption) (fcP rfl (fcP (tr (h_eq _) (by assumption)) (fcP rfl (fcP (tr (h_eq _) (by assumption)) (fcP rfl (fcP (tr (h_eq _) (by assumption)) (fcP rfl (fcP (fl (h_eq _) (by assumption)) (fcP rfl (fcP (fl (h_eq _) (by assumption)) (fcP rfl (fcP (tr (h_eq _) (by assumption)) (fcP (by decide) (fcP rfl (fcP (by decide) (fcP rfl (fcP (by decide) (fcP rfl (fcP (by decide) (fcP rfl (fcP (by decide) (fcP rfl (fcP (by decide) (fcP rfl (fcP (by decide) (fcP rfl (fcP rfl (fcP rfl (fcP rfl (fcP rfl (fcP rfl (fcP rfl (fcP (by decide) (fcP rfl (fcP rfl (fcP (by decide) (fcP rfl (fcP rfl (fcP (by decide) (fcP rfl (fcP rfl (fcP (by decide) (fcP rfl (fcP (by decide +kernel) (fcP (by decide +kernel) (fcP rfl (fcP (by decide) (fcP rfl (fcP (by decide +kernel) (fcP (by decide +kernel) (fcP rfl (fcP (by decide) (fcP rfl (fcP rfl (fcP rfl (fcP (Jvm.Free.Fl.noNaN64_no.mp (div_nn (by decide +kernel) (mx_ne _ (by decide)))) (fcP rfl (fcP rfl (fcP rfl (fcP rfl (fcP (by decide +kernel) (fcP rfl (fcP (by decide +kernel) (fcP rfl (fcP (by decide +kernel) (fcP (by decide +kernel) (fcP (by decide +kernel) (fcP (by decide +kernel) (fcP (by decide +kernel) (fcP (by decide +kernel) (fcP rfl (fcP (Jvm.Free.Fl.noNaN64_no.mp (div_nn (by decide +kernel) (mx_ne _ (by decide)))) (fcP (fin_ne (by decide +kernel) (div_nn (by decide +kernel) (mx_ne _ (by decide)))) (fnP)))))))))))))))))))))))))))))))))))))))))))))))))))))))))))))))))))))))))))
              · refine Good.of (some ([false, true, false, true, false, true, false, false, false, false, false, false, false, false, false, false, false, false, true, true, true, false, false, false, false, true, false, true, false, true, false, false, false, false, false, false, true, true, true, true, true, false, false, false, true, false], [(6)])) rfl ?_
                simp only [List.nil_append, List.append_nil, List.cons_append]
                exact fcP (by decide) (fcP (by assumption) (fcP rfl (fcP (tr (h_eq _) (by assumption)) (fcP rfl (fcP (tr (h_eq _) (by assumption)) (fcP rfl (fcP (tr (h_eq _) (by assumption)) (fcP rfl (fcP (fl (h_eq _) (by assumption)) (fcP rfl (fcP (fl (h_eq _) (by assumption)) (fcP rfl (fcP (fl (h_eq _) (by assumption)) (fcP (by decide) (fcP rfl (fcP (by decide) (fcP rfl (fcP (by decide) (fcP rfl (fcP (by decide) (fcP rfl (fcP (by decide) (fcP rfl (fcP (by decide) (fcP rfl (fcP (by decide) (fcP rfl (fcP rfl (fcP rfl (fcP rfl (fcP rfl (fcP rfl (fcP rfl (fcP (by decide) (fcP rfl (fcP rfl (fcP (by decide) (fcP rfl (fcP rfl (fcP (by decide) (fcP rfl (fcP rfl (fcP (by decide) (fcP rfl (fcP (by decide +kernel) (fcP (by decide +kernel) (fcP rfl (fcP (by decide) (fcP rfl (fcP (by decide +kernel) (fcP (by decide +kernel) (fcP rfl (fcP (by decide) (fcP rfl (fcP (by decide +kernel) (fcP (by decide +kernel) (fcP rfl (fcP rfl (fcP (Jvm.Free.Fl.noNaN64_no.mp (div_nn (by decide +kernel) (mx_ne _ (by decide)))) (fcP rfl (fcP rfl (fcP rfl (fcP rfl (fcP (by decide +kernel) (fcP rfl (fcP (by decide +kernel) (fcP rfl (fcP (by decide +kernel) (fcP (by decide +kernel) (fcP (by decide +kernel) (fcP (by decide +kernel) (fcP (by decide +kernel) (fcP (by decide +kernel) (fcP (by decide +kernel) (fcP rfl (fcP (Jvm.Free.Fl.noNaN64_no.mp (div_nn (by decide +kernel) (mx_ne _ (by decide)))) (fcP (fin_ne (by decide +kernel) (div_nn (by decide +kernel) (mx_ne _ (by decide)))) (fnP))))))))))))))))))))))))))))))))))))))))))))))))))))))))))))))))))))))))))))))
        · by_cases pB3 : (i1 &&& ((Int8.ofInt (8)).toInt32)).toInt = 0
          · by_cases pB4 : (i1 &&& ((Int8.ofInt (16)).toInt32)).toInt = 0
            · by_cases pB5 : (i1 &&& ((Int8.ofInt (32)).toInt32)).toInt = 0
              · refine Good.of (some ([false, true, false, true, false, false, false, true, false, true, false, true, false, false, false, false, false, false, true, true, false, true, true, true, false, true, false, true, false, false, false, true, false, true, false, true, true, true, true, true, false, true, true, true, true, false], [(6)])) rfl ?_
                simp only [List.nil_append, List.append_nil, List.cons_append]
                exact fcP (by decide) (fcP (by assumption) (fcP rfl (fcP (tr (h_eq _) (by assumption)) (fcP rfl (fcP (tr (h_eq _) (by assumption)) (fcP rfl (fcP (fl (h_eq _) (by assumption)) (fcP rfl (fcP (tr (h_eq _) (by assumption)) (fcP rfl (fcP (tr (h_eq _) (by assumption)) (fcP rfl (fcP (tr (h_eq _) (by assumption)) (fcP (by decide) (fcP rfl (fcP (by decide) (fcP rfl (fcP (by decide) (fcP rfl (fcP (by decide) (fcP rfl (fcP (by decide) (fcP rfl (fcP (by decide) (fcP rfl (fcP (by decide) (fcP rfl (fcP rfl (fcP rfl (fcP rfl (fcP rfl (fcP rfl (fcP rfl (fcP (by decide) (fcP rfl (fcP rfl (fcP (by decide) (fcP rfl (fcP rfl (fcP (by decide) (fcP rfl (fcP (by decide +kernel) (fcP (by decide +kernel) (fcP rfl (fcP (by decide) (fcP rfl (fcP rfl (fcP (by decide) (fcP rfl (fcP rfl (fcP (by decide) (fcP rfl (fcP rfl (fcP rfl (fcP (Jvm.Free.Fl.noNaN64_no.mp (div_nn (by decide +kernel) (mx_ne _ (by decide)))) (fcP rfl (fcP rfl (fcP rfl (fcP (by decide +kernel) (fcP rfl (fcP rfl (fcP rfl (fcP (by decide +kernel) (fcP (by decide +kernel) (fcP (by decide +kernel) (fcP (by decide +kernel) (fcP (by decide +kernel) (fcP (by decide +kernel) (fcP rfl (fcP (Jvm.Free.Fl.noNaN64_no.mp (div_nn (by decide +kernel) (mx_ne _ (by decide)))) (fcP (fin_ne (by decide +kernel) (div_nn (by decide +kernel) (mx_ne _ (by decide)))) (fnP))))))))))))))))))))))))))))))))))))))))))))))))))))))))))))))))))))))))
              · refine Good.of (some ([false, true, false, true, false, false, false, true, false, true, false, false, false, false, false, false, false, false, true, true, false, true, true, false, false, true, false, true, false, false, false, true, false, true, false, false, true, true, true, true, false, true, true, false, true, false], [(6)])) rfl ?_
                simp only [List.nil_append, List.append_nil, List.cons_append]
                exact fcP (by decide) (fcP (by assumption) (fcP rfl (fcP (tr (h_eq _) (by assumption)) (fcP rfl (fcP (tr (h_eq _) (by assumption)) (fcP rfl (fcP (fl (h_eq _) (by assumption)) (fcP rfl (fcP (tr (h_eq _) (by assumption)) (fcP rfl (fcP (tr (h_eq _) (by assumption)) (fcP rfl (fcP (fl (h_eq _) (by assumption)) (fcP (by decide) (fcP rfl (fcP (by decide) (fcP rfl (fcP (by decide) (fcP rfl (fcP (by decide) (fcP rfl (fcP (by decide) (fcP rfl (fcP (by decide) (fcP rfl (fcP (by decide) (fcP rfl (fcP rfl (fcP rfl (fcP rfl (fcP rfl (fcP rfl (fcP rfl (fcP (by decide) (fcP rfl (fcP rfl (fcP (by decide) (fcP rfl (fcP rfl (fcP (by decide) (fcP rfl (fcP (by decide +kernel) (fcP (by decide +kernel) (fcP rfl (fcP (by decide) (fcP rfl (fcP rfl (fcP (by decide) (fcP rfl (fcP rfl (fcP (by decide) (fcP rfl (fcP (by decide +kernel) (fcP (by decide +kernel) (fcP rfl (fcP rfl (fcP (Jvm.Free.Fl.noNaN64_no.mp (div_nn (by decide +kernel) (mx_ne _ (by decide)))) (fcP rfl (fcP rfl (fcP rfl (fcP (by decide +kernel) (fcP rfl (fcP rfl (fcP rfl (fcP (by decide +kernel) (fcP (by decide +kernel) (fcP (by decide +kernel) (fcP (by decide +kernel) (fcP (by decide +kernel) (fcP (by decide +kernel) (fcP (by decide +kernel) (fcP rfl (fcP (Jvm.Free.Fl.noNaN64_no.mp (div_nn (by decide +kernel) (mx_ne _ (by decide)))) (fcP (fin_ne (by decide +kernel) (div_nn (by decide +kernel) (mx_ne _ (by decide)))) (fnP)))))))))))))))))))))))))))))))))))))))))))))))))))))))))))))))))))))))))))
            · by_cases pB5 : (i1 &&& ((Int8.ofInt (32)).toInt32)).toInt = 0
              · refine Good.of (some ([false, true, false, true, false, false, false, true, false, false, false, true, false, false, false, false, false, false, true, true, false, true, false, true, false, true, false, true, false, false, false, true, false, false, false, true, true, true, true, true, false, true, false, true, true, false], [(6)])) rfl ?_
                simp only [List.nil_append, List.append_nil, List.cons_append]
                exact fcP (by decide) (fcP (by assumption) (fcP rfl (fcP (tr (h_eq _) (by assumption)) (fcP rfl (fcP (tr (h_eq _) (by assumption)) (fcP rfl (fcP (fl (h_eq _) (by assumption)) (fcP rfl (fcP (tr (h_eq _) (by assumption)) (fcP rfl (fcP (fl (h_eq _) (by assumption)) (fcP rfl (fcP (tr (h_eq _) (by assumption)) (fcP (by decide) (fcP rfl (fcP (by decide) (fcP rfl (fcP (by decide) (fcP rfl (fcP (by decide) (fcP rfl (fcP (by decide) (fcP rfl (fcP (by decide) (fcP rfl (fcP (by decide) (fcP rfl (fcP rfl (fcP rfl (fcP rfl (fcP rfl (fcP rfl (fcP rfl (fcP (by decide) (fcP rfl (fcP rfl (fcP (by decide) (fcP rfl (fcP rfl (fcP (by decide) (fcP rfl (fcP (by decide +kernel) (fcP (by decide +kernel) (fcP rfl (fcP (by decide) (fcP rfl (fcP rfl (fcP (by decide) (fcP rfl (fcP (by decide +kernel) (fcP (by decide +kernel) (fcP rfl (fcP (by decide) (fcP rfl (fcP rfl (fcP rfl (fcP (Jvm.Free.Fl.noNaN64_no.mp (div_nn (by decide +kernel) (mx_ne _ (by decide)))) (fcP rfl (fcP rfl (fcP rfl (fcP (by decide +kernel) (fcP rfl (fcP rfl (fcP (by decide +kernel) (fcP rfl (fcP (by decide +kernel) (fcP (by decide +kernel) (fcP (by decide +kernel) (fcP (by decide +kernel) (fcP (by decide +kernel) (fcP (by decide +kernel) (fcP rfl (fcP (Jvm.Free.Fl.noNaN64_no.mp (div_nn (by decide +kernel) (mx_ne _ (by decide)))) (fcP (fin_ne (by decide +kernel) (div_nn (by decide +kernel) (mx_ne _ (by decide)))) (fnP)))))))))))))))))))))))))))))))))))))))))))))))))))))))))))))))))))))))))))
              · refine Good.of (some ([false, true, false, true, false, false, false, true, false, false, false, false, false, false, false, false, false, false, true, true, false, true, false, false, false, true, false, true, false, false, false, true, false, false, false, false, true, true, true, true, false, true, false, false, true, false], [(6)])) rfl ?_
                simp only [List.nil_append, List.append_nil, List.cons_append]
                exact fcP (by decide) (fcP (by assumption) (fcP rfl (fcP (tr (h_eq _) (by assumption)) (fcP rfl (fcP (tr (h_eq _) (by assumption)) (fcP rfl (fcP (fl (h_eq _) (by assumption)) (fcP rfl (fcP (tr (h_eq _) (by assumption)) (fcP rfl (fcP (fl (h_eq _) (by assumption)) (fcP rfl (fcP (fl (h_eq _) (by assumption)) (fcP (by decide) (fcP rfl (fcP (by decide) (fcP rfl (fcP (by decide) (fcP rfl (fcP (by decide) (fcP rfl (fcP (by decide) (fcP rfl (fcP (by decide) (fcP rfl (fcP (by decide) (fcP rfl (fcP rfl (fcP rfl (fcP rfl (fcP rfl (fcP rfl (fcP rfl (fcP (by decide) (fcP rfl (fcP rfl (fcP (by decide) (fcP rfl (fcP rfl (fcP (by decide) (fcP rfl (fcP (by decide +kernel) (fcP (by decide +kernel) (fcP rfl (fcP (by decide) (fcP rfl (fcP rfl (fcP (by decide) (fcP rfl (fcP (by decide +kernel) (fcP (by decide +kernel) (fcP rfl (fcP (by decide) (fcP rfl (fcP (by decide +kernel) (fcP (by decide +kernel) (fcP rfl (fcP rfl (fcP (Jvm.Free.Fl.noNaN64_no.mp (div_nn (by decide +kernel) (mx_ne _ (by decide)))) (fcP rfl (fcP rfl (fcP rfl (fcP (by decide +kernel) (fcP rfl (fcP rfl (fcP (by decide +kernel) (fcP rfl (fcP (by decide +kernel) (fcP (by decide +kernel) (fcP (by decide +kernel) (fcP (by decide +kernel) (fcP (by decide +kernel) (fcP (by decide +kernel) (fcP (by decide +kernel) (fcP rfl (fcP (Jvm.Free.Fl.noNaN64_no.mp (div_nn (by decide +kernel) (mx_ne _ (by decide)))) (fcP (fin_ne (by decide +kernel) (div_nn (by decide +kernel) (mx_ne _ (by decide)))) (fnP))))))))))))))))))))))))))))))))))))))))))))))))))))))))))))))))))))))))))))))
          · by_cases pB4 : (i1 &&& ((Int8.ofInt (16)).toInt32)).toInt = 0
            · by_cases pB5 : (i1 &&& ((Int8.ofInt (32)).toInt32)).toInt = 0
              · refine Good.of (some ([false, true, false, true, false, false, false, false, false, true, false, true, false, false, false, false, false, false, true, true, false, false, true, true, false, true, false, true, false, false, false, false, false, true, false, true, true, true, true, true, false, false, true, true, true, false], [(6)])) rfl ?_
                simp only [List.nil_append, List.append_nil, List.cons_append]
                exact fcP (by decide) (fcP (by assumption) (fcP rfl (fcP (tr (h_eq _) (by assumption)) (fcP rfl (fcP (tr (h_eq _) (by assumption)) (fcP rfl (fcP (fl (h_eq _) (by assumption)) (fcP rfl (fcP (fl (h_eq _) (by assumption)) (fcP rfl (fcP (tr (h_eq _) (by assumption)) (fcP rfl (fcP (tr (h_eq _) (by assumption)) (fcP (by decide) (fcP rfl (fcP (by decide) (fcP rfl (fcP (by decide) (fcP rfl (fcP (by decide) (fcP rfl (fcP (by decide) (fcP rfl (fcP (by decide) (fcP rfl (fcP (by decide) (fcP rfl (fcP rfl (fcP rfl (fcP rfl (fcP rfl (fcP rfl (fcP rfl (fcP (by decide) (fcP rfl (fcP rfl (fcP (by decide) (fcP rfl (fcP rfl (fcP (by decide) (fcP rfl (fcP (by decide +kernel) (fcP (by decide +kernel) (fcP rfl (fcP (by decide) (fcP rfl (fcP (by decide +kernel) (fcP (by decide +kernel) (fcP rfl (fcP (by decide) (fcP rfl (fcP rfl (fcP (by decide) (fcP rfl (fcP rfl (fcP rfl (fcP (Jvm.Free.Fl.noNaN64_no.mp (div_nn (by decide +kernel) (mx_ne _ (by decide)))) (fcP rfl (fcP rfl (fcP rfl (fcP (by decide +kernel) (fcP rfl (fcP (by decide +kernel) (fcP rfl (fcP rfl (fcP (by decide +kernel) (fcP (by decide +kernel) (fcP (by decide +kernel) (fcP (by decide +kernel) (fcP (by decide +kernel) (fcP (by decide +kernel) (fcP rfl (fcP (Jvm.Free.Fl.noNaN64_no.mp (div_nn (by decide +kernel) (mx_ne _ (by decide)))) (fcP (fin_ne (by decide +kernel) (div_nn (by decide +kernel) (mx_ne _ (by decide)))) (fnP)))))))))))))))))))))))))))))))))))))))))))))))))))))))))))))))))))))))))))
              · refine Good.of (some ([false, true, false, true, false, false, false, false, false, true, false, false, false, false, false, false, false, false, true, true, false, false, true, false, false, true, false, true, false, false, false, false, false, true, false, false, true, true, true, true, false, false, true, false, true, false], [(6)])) rfl ?_
                simp only [List.nil_append, List.append_nil, List.cons_append]
                exact fcP (by decide) (fcP (by assumption) (fcP rfl (fcP (tr (h_eq _) (by assumption)) (fcP rfl (fcP (tr (h_eq _) (by assumption)) (fcP rfl (fcP (fl (h_eq _) (by assumption)) (fcP rfl (fcP (fl (h_eq _) (by assumption)) (fcP rfl (fcP (tr (h_eq _) (by assumption)) (fcP rfl (fcP (fl (h_eq _) (by assumption)) (fcP (by decide) (fcP rfl (fcP (by decide) (fcP rfl (fcP (by decide) (fcP rfl (fcP (by decide) (fcP rfl (fcP (by decide) (fcP rfl (fcP (by decide) (fcP rfl (fcP (by decide) (fcP rfl (fcP rfl (fcP rfl (fcP rfl (fcP rfl (fcP rfl (fcP rfl (fcP (by decide) (fcP rfl (fcP rfl (fcP (by decide) (fcP rfl (fcP rfl (fcP (by decide) (fcP rfl (fcP (by decide +kernel) (fcP (by decide +kernel) (fcP rfl (fcP (by decide) (fcP rfl (fcP (by decide +kernel) (fcP (by decide +kernel) (fcP rfl (fcP (by decide) (fcP rfl (fcP rfl (fcP (by decide) (fcP rfl (fcP (by decide +kernel) (fcP (by decide +kernel) (fcP rfl (fcP rfl (fcP (Jvm.Free.Fl.noNaN64_no.mp (div_nn (by decide +kernel) (mx_ne _ (by decide)))) (fcP rfl (fcP rfl (fcP rfl (fcP (by decide +kernel) (fcP rfl (fcP (by decide +kernel) (fcP rfl (fcP rfl (fcP (by decide +kernel) (fcP (by decide +kernel) (fcP (by decide +kernel) (fcP (by decide +kernel) (fcP (by decide +kernel) (fcP (by decide +kernel) (fcP (by decide +kernel) (fcP rfl (fcP (Jvm.Free.Fl.noNaN64_no.mp (div_nn (by decide +kernel) (mx_ne _ (by decide)))) (fcP (fin_ne (by decide +kernel) (div_nn (by decide +kernel) (mx_ne _ (by decide)))) (fnP))))))))))))))))))))))))))))))))))))))))))))))))))))))))))))))))))))))))))))))
            · by_cases pB5 : (i1 &&& ((Int8.ofInt (32)).toInt32)).toInt = 0
              · refine Good.of (some ([false, true, false, true, false, false, false, false, false, false, false, true, false, false, false, false, false, false, true, true, false, false, false, true, false, true, false, true, false, false, false, false, false, false, false, true, true, true, true, true, false, false, false, true, true, false], [(6)])) rfl ?_
                simp only [List.nil_append, List.append_nil, List.cons_append]
                exact fcP (by decide) (fcP (by assumption) (fcP rfl (fcP (tr (h_eq _) (by assumption)) (fcP rfl (fcP (tr (h_eq _) (by assumption)) (fcP rfl (fcP (fl (h_eq _) (by assumption)) (fcP rfl (fcP (fl (h_eq _) (by assumption)) (fcP rfl (fcP (fl (h_eq _) (by assumption)) (fcP rfl (fcP (tr (h_eq _) (by assumption)) (fcP (by decide) (fcP rfl (fcP (by decide) (fcP rfl (fcP (by decide) (fcP rfl (fcP (by decide) (fcP rfl (fcP (by decide) (fcP rfl (fcP (by decide) (fcP rfl (fcP (by decide) (fcP rfl (fcP rfl (fcP rfl (fcP rfl (fcP rfl (fcP rfl (fcP rfl (fcP (by decide) (fcP rfl (fcP rfl (fcP (by decide) (fcP rfl (fcP rfl (fcP (by decide) (fcP rfl (fcP (by decide +kernel) (fcP (by decide +kernel) (fcP rfl (fcP (by decide) (fcP rfl (fcP (by decide +kernel) (fcP (by decide +kernel) (fcP rfl (fcP (by decide) (fcP rfl (fcP (by decide +kernel) (fcP (by decide +kernel) (fcP rfl (fcP (by decide) (fcP rfl (fcP rfl (fcP rfl (fcP (Jvm.Free.Fl.noNaN64_no.mp (div_nn (by decide +kernel) (mx_ne _ (by decide)))) (fcP rfl (fcP rfl (fcP rfl (fcP (by decide +kernel) (fcP rfl (fcP (by decide +kernel) (fcP rfl (fcP (by decide +kernel) (fcP rfl (fcP (by decide +kernel) (fcP (by decide +kernel) (fcP (by decide +kernel) (fcP (by decide +kernel) (fcP (by decide +kernel) (fcP (by decide +kernel) (fcP rfl (fcP (Jvm.Free.Fl.noNaN64_no.mp (div_nn (by decide +kernel) (mx_ne _ (by decide)))) (fcP (fin_ne (by decide +kernel) (div_nn (by decide +kernel) (mx_ne _ (by decide)))) (fnP))))))))))))))))))))))))))))))))))))))))))))))))))))))))))))))))))))))))))))))
              · refine Good.of (some ([false, true, false, true, false, false, false, false, false, false, false, false, false, false, false, false, false, false, true, true, false, false, false, false, false, true, false, true, false, false, false, false, false, false, false, false, true, true, true, true, false, false, false, false, true, false], [(6)])) rfl ?_
                simp only [List.nil_append, List.append_nil, List.cons_append]
                exact fcP (by decide) (fcP (by assumption) (fcP rfl (fcP (tr (h_eq _) (by assumption)) (fcP rfl (fcP (tr (h_eq _) (by assumption)) (fcP rfl (fcP (fl (h_eq _) (by assumption)) (fcP rfl (fcP (fl (h_eq _) (by assumption)) (fcP rfl (fcP (fl (h_eq _) (by assumption)) (fcP rfl (fcP (fl (h_eq _) (by assumption)) (fcP (by decide) (fcP rfl (fcP (by decide) (fcP rfl (fcP (by decide) (fcP rfl (fcP (by decide) (fcP rfl (fcP (by decide) (fcP rfl (fcP (by decide) (fcP rfl (fcP (by decide) (fcP rfl (fcP rfl (fcP rfl (fcP rfl (fcP rfl (fcP rfl (fcP rfl (fcP (by decide) (fcP rfl (fcP rfl (fcP (by decide) (fcP rfl (fcP rfl (fcP (by decide) (fcP rfl (fcP (by decide +kernel) (fcP (by decide +kernel) (fcP rfl (fcP (by decide) (fcP rfl (fcP (by decide +kernel) (fcP (by decide +kernel) (fcP rfl (fcP (by decide) (fcP rfl (fcP (by decide +kernel) (fcP (by decide +kernel) (fcP rfl (fcP (by decide) (fcP rfl (fcP (by decide +kernel) (fcP (by decide +kernel) (fcP rfl (fcP rfl (fcP (Jvm.Free.Fl.noNaN64_no.mp (div_nn (by decide +kernel) (mx_ne _ (by decide)))) (fcP rfl (fcP rfl (fcP rfl (fcP (by decide +kernel) (fcP rfl (fcP (by decide +kernel) (fcP rfl (fcP (by decide +kernel) (fcP rfl (fcP (by decide +kernel) (fcP (by decide +kernel) (fcP (by decide +kernel) (fcP (by decide +kernel) (fcP (by decide +kernel) (fcP (by decide +kernel) (fcP (by decide +kernel) (fcP rfl (fcP (Jvm.Free.Fl.noNaN64_no.mp (div_nn (by decide +kernel) (mx_ne _ (by decide)))) (fcP (fin_ne (by decide +kernel) (div_nn (by decide +kernel) (mx_ne _ (by decide)))) (fnP)))))))))))))))))))))))))))))))))))))))))))))))))))))))))))))))))))))))))))))))))
      · by_cases pB2 : (i1 &&& (Int32.ofInt (4))).toInt = 0
        · by_cases pB3 : (i1 &&& ((Int8.ofInt (8)).toInt32)).toInt = 0
          · by_cases pB4 : (i1 &&& ((Int8.ofInt (16)).toInt32)).toInt = 0
            · by_cases pB5 : (i1 &&& ((Int8.ofInt (32)).toInt32)).toInt = 0
              · refine Good.of (some ([false, true, false, false, false, true, false, true, false, true, false, true, false, false, false, false, false, false, true, false, true, true, true, true, false, true, false, false, false, true, false, true, false, true, false, true, true, true, true, false, true, true, true, true, true, false], [(6)])) rfl ?_
                simp only [List.nil_append, List.append_nil, List.cons_append]
                exact fcP (by decide) (fcP (by assumption) (fcP rfl (fcP (tr (h_eq _) (by assumption)) (fcP rfl (fcP (fl (h_eq _) (by assumption)) (fcP rfl (fcP (tr (h_eq _) (by assumption)) (fcP rfl (fcP (tr (h_eq _) (by assumption)) (fcP rfl (fcP (tr (h_eq _) (by assumption)) (fcP rfl (fcP (tr (h_eq _) (by assumption)) (fcP (by decide) (fcP rfl (fcP (by decide) (fcP rfl (fcP (by decide) (fcP rfl (fcP (by decide) (fcP rfl (fcP (by decide) (fcP rfl (fcP (by decide) (fcP rfl (fcP (by decide) (fcP rfl (fcP rfl (fcP rfl (fcP rfl (fcP rfl (fcP rfl (fcP rfl (fcP (by decide) (fcP rfl (fcP rfl (fcP (by decide) (fcP rfl (fcP (by decide +kernel) (fcP (by decide +kernel) (fcP rfl (fcP (by decide) (fcP rfl (fcP rfl (fcP (by decide) (fcP rfl (fcP rfl (fcP (by decide) (fcP rfl (fcP rfl (fcP (by decide) (fcP rfl (fcP rfl (fcP rfl (fcP (Jvm.Free.Fl.noNaN64_no.mp (div_nn (by decide +kernel) (mx_ne _ (by decide)))) (fcP rfl (fcP rfl (fcP (by decide +kernel) (fcP rfl (fcP rfl (fcP rfl (fcP rfl (fcP (by decide +kernel) (fcP (by decide +kernel) (fcP (by decide +kernel) (fcP (by decide +kernel) (fcP (by decide +kernel) (fcP (by decide +kernel) (fcP rfl (fcP (Jvm.Free.Fl.noNaN64_no.mp (div_nn (by decide +kernel) (mx_ne _ (by decide)))) (fcP (fin_ne (by decide +kernel) (div_nn (by decide +kernel) (mx_ne _ (by decide)))) (fnP))))))))))))))))))))))))))))))))))))))))))))))))))))))))))))))))))))))))
              · refine Good.of (some ([false, true, false, false, false, true, false, true, false, true, false, false, false, false, false, false, false, false, true, false, true, true, true, false, false, true, false, false, false, true, false, true, false, true, false, false, true, true, true, false, true, true, true, false, true, false], [(6)])) rfl ?_
                simp only [List.nil_append, List.append_nil, List.cons_append]
                exact fcP (by decide) (fcP (by assumption) (fcP rfl (fcP (tr (h_eq _) (by assumption)) (fcP rfl (fcP (fl (h_eq _) (by assumption)) (fcP rfl (fcP (tr (h_eq _) (by assumption)) (fcP rfl (fcP (tr (h_eq _) (by assumption)) (fcP rfl (fcP (tr (h_eq _) (by assumption)) (fcP rfl (fcP (fl (h_eq _) (by assumption)) (fcP (by decide) (fcP rfl (fcP (by decide) (fcP rfl (fcP (by decide) (fcP rfl (fcP (by decide) (fcP rfl (fcP (by decide) (fcP rfl (fcP (by decide) (fcP rfl (fcP (by decide) (fcP rfl (fcP rfl (fcP rfl (fcP rfl (fcP rfl (fcP rfl (fcP rfl (fcP (by decide) (fcP rfl (fcP rfl (fcP (by decide) (fcP rfl (fcP (by decide +kernel) (fcP (by decide +kernel) (fcP rfl (fcP (by decide) (fcP rfl (fcP rfl (fcP (by decide) (fcP rfl (fcP rfl (fcP (by decide) (fcP rfl (fcP rfl (fcP (by decide) (fcP rfl (fcP (by decide +kernel) (fcP (by decide +kernel) (fcP rfl (fcP rfl (fcP (Jvm.Free.Fl.noNaN64_no.mp (div_nn (by decide +kernel) (mx_ne _ (by decide)))) (fcP rfl (fcP rfl (fcP (by decide +kernel) (fcP rfl (fcP rfl (fcP rfl (fcP rfl (fcP (by decide +kernel) (fcP (by decide +kernel) (fcP (by decide +kernel) (fcP (by decide +kernel) (fcP (by decide +kernel) (fcP (by decide +kernel) (fcP (by decide +kernel) (fcP rfl (fcP (Jvm.Free.Fl.noNaN64_no.mp (div_nn (by decide +kernel) (mx_ne _ (by decide)))) (fcP (fin_ne (by decide +kernel) (div_nn (by decide +kernel) (mx_ne _ (by decide)))) (fnP)))))))))))))))))))))))))))))))))))))))))))))))))))))))))))))))))))))))))))
            · by_cases pB5 : (i1 &&& ((Int8.ofInt (32)).toInt32)).toInt = 0
              · refine Good.of (some ([false, true, false, false, false, true, false, true, false, false, false, true, false, false, false, false, false, false, true, false, true, true, false, true, false, true, false, false, false, true, false, true, false, false, false, true, true, true, true, false, true, true, false, true, true, false], [(6)])) rfl ?_
                simp only [List.nil_append, List.append_nil, List.cons_append]
                exact fcP (by decide) (fcP (by assumption) (fcP rfl (fcP (tr (h_eq _) (by assumption)) (fcP rfl (fcP (fl (h_eq _) (by assumption)) (fcP rfl (fcP (tr (h_eq _) (by assumption)) (fcP rfl (fcP (tr (h_eq _) (by assumption)) (fcP rfl (fcP (fl (h_eq _) (by assumption)) (fcP rfl (fcP (tr (h_eq _) (by assumption)) (fcP (by decide) (fcP rfl (fcP (by decide) (fcP rfl (fcP (by decide) (fcP rfl (fcP (by decide) (fcP rfl (fcP (by decide) (fcP rfl (fcP (by decide) (fcP rfl (fcP (by decide) (fcP rfl (fcP rfl (fcP rfl (fcP rfl (fcP rfl (fcP rfl (fcP rfl (fcP (by decide) (fcP rfl (fcP rfl (fcP (by decide) (fcP rfl (fcP (by decide +kernel) (fcP (by decide +kernel) (fcP rfl (fcP (by decide) (fcP rfl (fcP rfl (fcP (by decide) (fcP rfl (fcP rfl (fcP (by decide) (fcP rfl (fcP (by decide +kernel) (fcP (by decide +kernel) (fcP rfl (fcP (by decide) (fcP rfl (fcP rfl (fcP rfl (fcP (Jvm.Free.Fl.noNaN64_no.mp (div_nn (by decide +kernel) (mx_ne _ (by decide)))) (fcP rfl (fcP rfl (fcP (by decide +kernel) (fcP rfl (fcP rfl (fcP rfl (fcP (by decide +kernel) (fcP rfl (fcP (by decide +kernel) (fcP (by decide +kernel) (fcP (by decide +kernel) (fcP (by decide +kernel) (fcP (by decide +kernel) (fcP (by decide +kernel) (fcP rfl (fcP (Jvm.Free.Fl.noNaN64_no.mp (div_nn (by decide +kernel) (mx_ne _ (by decide)))) (fcP (fin_ne (by decide +kernel) (div_nn (by decide +kernel) (mx_ne _ (by decide)))) (fnP)))))))))))))))))))))))))))))))))))))))))))))))))))))))))))))))))))))))))))
              · refine Good.of (some ([false, true, false, false, false, true, false, true, false, false, false, false, false, false, false, false, false, false, true, false, true, true, false, false, false, true, false, false, false, true, false, true, false, false, false, false, true, true, true, false, true, true, false, false, true, false], [(6)])) rfl ?_
                simp only [List.nil_append, List.append_nil, List.cons_append]
                exact fcP (by decide) (fcP (by assumption) (fcP rfl (fcP (tr (h_eq _) (by assumption)) (fcP rfl (fcP (fl (h_eq _) (by assumption)) (fcP rfl (fcP (tr (h_eq _) (by assumption)) (fcP rfl (fcP (tr (h_eq _) (by assumption)) (fcP rfl (fcP (fl (h_eq _) (by assumption)) (fcP rfl (fcP (fl (h_eq _) (by assumption)) (fcP (by decide) (fcP rfl (fcP (by decide) (fcP rfl (fcP (by decide) (fcP rfl (fcP (by decide) (fcP rfl (fcP (by decide) (fcP rfl (fcP (by decide) (fcP rfl (fcP (by decide) (fcP rfl (fcP rfl (fcP rfl (fcP rfl (fcP rfl (fcP rfl (fcP rfl (fcP (by decide) (fcP rfl (fcP rfl (fcP (by decide) (fcP rfl (fcP (by decide +kernel) (fcP (by decide +kernel) (fcP rfl (fcP (by decide) (fcP rfl (fcP rfl (fcP (by decide) (fcP rfl (fcP rfl (fcP (by decide) (fcP rfl (fcP (by decide +kernel) (fcP (by decide +kernel) (fcP rfl (fcP (by decide) (fcP rfl (fcP (by decide +kernel) (fcP (by decide +kernel) (fcP rfl (fcP rfl (fcP (Jvm.Free.Fl.noNaN64_no.mp (div_nn (by decide +kernel) (mx_ne _ (by decide)))) (fcP rfl (fcP rfl (fcP (by decide +kernel) (fcP rfl (fcP rfl (fcP rfl (fcP (by decide +kernel) (fcP rfl (fcP (by decide +kernel) (fcP (by decide +kernel) (fcP (by decide +kernel) (fcP (by decide +kernel) (fcP (by decide +kernel) (fcP (by decide +kernel) (fcP (by decide +kernel) (fcP rfl (fcP (Jvm.Free.Fl.noNaN64_no.mp (div_nn (by decide +kernel) (mx_ne _ (by decide)))) (fcP (fin_ne (by decide +kernel) (div_nn (by decide +kernel) (mx_ne _ (by decide)))) (fnP))))))))))))))))))))))))))))))))))))))))))))))))))))))))))))))))))))))))))))))
          · by_cases pB4 : (i1 &&& ((Int8.ofInt (16)).toInt32)).toInt = 0
            · by_cases pB5 : (i1 &&& ((Int8.ofInt (32)).toInt32)).toInt = 0
              · refine Good.of (some ([false, true, false, false, false, true, false, false, false, true, false, true, false, false, false, false, false, false, true, false, true, false, true, true, false, true, false, false, false, true, false, false, false, true, false, true, true, true, true, false, true, false, true, true, true, false], [(6)])) rfl ?_
                simp only [List.nil_append, List.append_nil, List.cons_append]
                exact fcP (by decide) (fcP (by assumption) (fcP rfl (fcP (tr (h_eq _) (by assumption)) (fcP rfl (fcP (fl (h_eq _) (by assumption)) (fcP rfl (fcP (tr (h_eq _) (by assumption)) (fcP rfl (fcP (fl (h_eq _) (by assumption)) (fcP rfl (fcP (tr (h_eq _) (by assumption)) (fcP rfl (fcP (tr (h_eq _) (by assumption)) (fcP (by decide) (fcP rfl (fcP (by decide) (fcP rfl (fcP (by decide) (fcP rfl (fcP (by decide) (fcP rfl (fcP (by decide) (fcP rfl (fcP (by decide) (fcP rfl (fcP (by decide) (fcP rfl (fcP rfl (fcP rfl (fcP rfl (fcP rfl (fcP rfl (fcP rfl (fcP (by decide) (fcP rfl (fcP rfl (fcP (by decide) (fcP rfl (fcP (by decide +kernel) (fcP (by decide +kernel) (fcP rfl (fcP (by decide) (fcP rfl (fcP rfl (fcP (by decide) (fcP rfl (fcP (by decide +kernel) (fcP (by decide +kernel) (fcP rfl (fcP (by decide) (fcP rfl (fcP rfl (fcP (by decide) (fcP rfl (fcP rfl (fcP rfl (fcP (Jvm.Free.Fl.noNaN64_no.mp (div_nn (by decide +kernel) (mx_ne _ (by decide)))) (fcP rfl (fcP rfl (fcP (by decide +kernel) (fcP rfl (fcP rfl (fcP (by decide +kernel) (fcP rfl (fcP rfl (fcP (by decide +kernel) (fcP (by decide +kernel) (fcP (by decide +kernel) (fcP (by decide +kernel) (fcP (by decide +kernel) (fcP (by decide +kernel) (fcP rfl (fcP (Jvm.Free.Fl.noNaN64_no.mp (div_nn (by decide +kernel) (mx_ne _ (by decide)))) (fcP (fin_ne (by decide +kernel) (div_nn (by decide +kernel) (mx_ne _ (by decide)))) (fnP)))))))))))))))))))))))))))))))))))))))))))))))))))))))))))))))))))))))))))
              · refine Good.of (some ([false, true, false, false, false, true, false, false, false, true, false, false, false, false, false, false, false, false, true, false, true, false, true, false, false, true, false, false, false, true, false, false, false, true, false, false, true, true, true, false, true, false, true, false, true, false], [(6)])) rfl ?_
                simp only [List.nil_append, List.append_nil, List.cons_append]
                exact fcP (by decide) (fcP (by assumption) (fcP rfl (fcP (tr (h_eq _) (by assumption)) (fcP rfl (fcP (fl (h_eq _) (by assumption)) (fcP rfl (fcP (tr (h_eq _) (by assumption)) (fcP rfl (fcP (fl (h_eq _) (by assumption)) (fcP rfl (fcP (tr (h_eq _) (by assumption)) (fcP rfl (fcP (fl (h_eq _) (by assumption)) (fcP (by decide) (fcP rfl (fcP (by decide) (fcP rfl (fcP (by decide) (fcP rfl (fcP (by decide) (fcP rfl (fcP (by decide) (fcP rfl (fcP (by decide) (fcP rfl (fcP (by decide) (fcP rfl (fcP rfl (fcP rfl (fcP rfl (fcP rfl (fcP rfl (fcP rfl (fcP (by decide) (fcP rfl (fcP rfl (fcP (by decide) (fcP rfl (fcP (by decide +kernel) (fcP (by decide +kernel) (fcP rfl (fcP (by decide) (fcP rfl (fcP rfl (fcP (by decide) (fcP rfl (fcP (by decide +kernel) (fcP (by decide +kernel) (fcP rfl (fcP (by decide) (fcP rfl (fcP rfl (fcP (by decide) (fcP rfl (fcP (by decide +kernel) (fcP (by decide +kernel) (fcP rfl (fcP rfl (fcP (Jvm.Free.Fl.noNaN64_no.mp (div_nn (by decide +kernel) (mx_ne _ (by decide)))) (fcP rfl (fcP rfl (fcP (by decide +kernel) (fcP rfl (fcP rfl (fcP (by decide +kernel) (fcP rfl (fcP rfl (fcP (by decide +kernel) (fcP (by decide +kernel) (fcP (by decide +kernel) (fcP (by decide +kernel) (fcP (by decide +kernel) (fcP (by decide +kernel) (fcP (by decide +kernel) (fcP rfl (fcP (Jvm.Free.Fl.noNaN64_no.mp (div_nn (by decide +kernel) (mx_ne _ (by decide)))) (fcP (fin_ne (by decide +kernel) (div_nn (by decide +kernel) (mx_ne _ (by decide)))) (fnP))))))))))))))))))))))))))))))))))))))))))))))))))))))))))))))))))))))))))))))
            · by_cases pB5 : (i1 &&& ((Int8.ofInt (32)).toInt32)).toInt = 0
              · refine Good.of (some ([false, true, false, false, false, true, false, false, false, false, false, true, false, false, false, false, false, false, true, false, true, false, false, true, false, true, false, false, false, true, false, false, false, false, false, true, true, true, true, false, true, false, false, true, true, false], [(6)])) rfl ?_
                simp only [List.nil_append, List.append_nil, List.cons_append]
                exact fcP (by decide) (fcP (by assumption) (fcP rfl (fcP (tr (h_eq _) (by assumption)) (fcP rfl (fcP (fl (h_eq _) (by assumption)) (fcP rfl (fcP (tr (h_eq _) (by assumption)) (fcP rfl (fcP (fl (h_eq _) (by assumption)) (fcP rfl (fcP (fl (h_eq _) (by assumption)) (fcP rfl (fcP (tr (h_eq _) (by assumption)) (fcP (by decide) (fcP rfl (fcP (by decide) (fcP rfl (fcP (by decide) (fcP rfl (fcP (by decide) (fcP rfl (fcP (by decide) (fcP rfl (fcP (by decide) (fcP rfl (fcP (by decide) (fcP rfl (fcP rfl (fcP rfl (fcP rfl (fcP rfl (fcP rfl (fcP rfl (fcP (by decide) (fcP rfl (fcP rfl (fcP (by decide) (fcP rfl (fcP (by decide +kernel) (fcP (by decide +kernel) (fcP rfl (fcP (by decide) (fcP rfl (fcP rfl (fcP (by decide) (fcP rfl (fcP (by decide +kernel) (fcP (by decide +kernel) (fcP rfl (fcP (by decide) (fcP rfl (fcP (by decide +kernel) (fcP (by decide +kernel) (fcP rfl (fcP (by decide) (fcP rfl (fcP rfl (fcP rfl (fcP (Jvm.Free.Fl.noNaN64_no.mp (div_nn (by decide +kernel) (mx_ne _ (by decide)))) (fcP rfl (fcP rfl (fcP (by decide +kernel) (fcP rfl (fcP rfl (fcP (by decide +kernel) (fcP rfl (fcP (by decide +kernel) (fcP rfl (fcP (by decide +kernel) (fcP (by decide +kernel) (fcP (by decide +kernel) (fcP (by decide +kernel) (fcP (by decide +kernel) (fcP (by decide +kernel) (fcP rfl (fcP (Jvm.Free.Fl.noNaN64_no.mp (div_nn (by decide +kernel) (mx_ne _ (by decide)))) (fcP (fin_ne (by decide +kernel) (div_nn (by decide +kernel) (mx_ne _ (by decide)))) (fnP))))))))))))))))))))))))))))))))))))))))))))))))))))))))))))))))))))))))))))))
              · refine Good.of (some ([false, true, false, false, false, true, false, false, false, false, false, false, false, false, false, false, false, false, true, false, true, false, false, false, false, true, false, false, false, true, false, false, false, false, false, false, true, true, true, false, true, false, false, false, true, false], [(6)])) rfl ?_
                simp only [List.nil_append, List.append_nil, List.cons_append]
                exact fcP (by decide) (fcP (by assumption) (fcP rfl (fcP (tr (h_eq _) (by assumption)) (fcP rfl (fcP (fl (h_eq _) (by assumption)) (fcP rfl (fcP (tr (h_eq _) (by assumption)) (fcP rfl (fcP (fl (h_eq _) (by assumption)) (fcP rfl (fcP (fl (h_eq _) (by assumption)) (fcP rfl (fcP (fl (h_eq _) (by assumption)) (fcP (by decide) (fcP rfl (fcP (by decide) (fcP rfl (fcP (by decide) (fcP rfl (fcP (by decide) (fcP rfl (fcP (by decide) (fcP rfl (fcP (by decide) (fcP rfl (fcP (by decide) (fcP rfl (fcP rfl (fcP rfl (fcP rfl (fcP rfl (fcP rfl (fcP rfl (fcP (by decide) (fcP rfl (fcP rfl (fcP (by decide) (fcP rfl (fcP (by decide +kernel) (fcP (by decide +kernel) (fcP rfl (fcP (by decide) (fcP rfl (fcP rfl (fcP (by decide) (fcP rfl (fcP (by decide +kernel) (fcP (by decide +kernel) (fcP rfl (fcP (by decide) (fcP rfl (fcP (by decide +kernel) (fcP (by decide +kernel) (fcP rfl (fcP (by decide) (fcP rfl (fcP (by decide +kernel) (fcP (by decide +kernel) (fcP rfl (fcP rfl (fcP (Jvm.Free.Fl.noNaN64_no.mp (div_nn (by decide +kernel) (mx_ne _ (by decide)))) (fcP rfl (fcP rfl (fcP (by decide +kernel) (fcP rfl (fcP rfl (fcP (by decide +kernel) (fcP rfl (fcP (by decide +kernel) (fcP rfl (fcP (by decide +kernel) (fcP (by decide +kernel) (fcP (by decide +kernel) (fcP (by decide +kernel) (fcP (by decide +kernel) (fcP (by decide +kernel) (fcP (by decide +kernel) (fcP rfl (fcP (Jvm.Free.Fl.noNaN64_no.mp (div_nn (by decide +kernel) (mx_ne _ (by decide)))) (fcP (fin_ne (by decide +kernel) (div_nn (by decide +kernel) (mx_ne _ (by decide)))) (fnP)))))))))))))))))))))))))))))))))))))))))))))))))))))))))))))))))))))))))))))))))
        · by_cases pB3 : (i1 &&& ((Int8.ofInt (8)).toInt32)).toInt = 0
          · by_cases pB4 : (i1 &&& ((Int8.ofInt (16)).toInt32)).toInt = 0
            · by_cases pB5 : (i1 &&& ((Int8.ofInt (32)).toInt32)).toInt = 0
              · refine Good.of (some ([false, true, false, false, false, false, false, true, false, true, false, true, false, false, false, false, false, false, true, false, false, true, true, true, false, true, false, false, false, false, false, true, false, true, false, true, true, true, true, false, false, true, true, true, true, false], [(6)])) rfl ?_
                simp only [List.nil_append, List.append_nil, List.cons_append]
                exact fcP (by decide) (fcP (by assumption) (fcP rfl (fcP (tr (h_eq _) (by assumption)) (fcP rfl (fcP (fl (h_eq _) (by assumption)) (fcP rfl (fcP (fl (h_eq _) (by assumption)) (fcP rfl (fcP (tr (h_eq _) (by assumption)) (fcP rfl (fcP (tr (h_eq _) (by assumption)) (fcP rfl (fcP (tr (h_eq _) (by assumption)) (fcP (by decide) (fcP rfl (fcP (by decide) (fcP rfl (fcP (by decide) (fcP rfl (fcP (by decide) (fcP rfl (fcP (by decide) (fcP rfl (fcP (by decide) (fcP rfl (fcP (by decide) (fcP rfl (fcP rfl (fcP rfl (fcP rfl (fcP rfl (fcP rfl (fcP rfl (fcP (by decide) (fcP rfl (fcP rfl (fcP (by decide) (fcP rfl (fcP (by decide +kernel) (fcP (by decide +kernel) (fcP rfl (fcP (by decide) (fcP rfl (fcP (by decide +kernel) (fcP (by decide +kernel) (fcP rfl (fcP (by decide) (fcP rfl (fcP rfl (fcP (by decide) (fcP rfl (fcP rfl (fcP (by decide) (fcP rfl (fcP rfl (fcP rfl (fcP (Jvm.Free.Fl.noNaN64_no.mp (div_nn (by decide +kernel) (mx_ne _ (by decide)))) (fcP rfl (fcP rfl (fcP (by decide +kernel) (fcP rfl (fcP (by decide +kernel) (fcP rfl (fcP rfl (fcP rfl (fcP (by decide +kernel) (fcP (by decide +kernel) (fcP (by decide +kernel) (fcP (by decide +kernel) (fcP (by decide +kernel) (fcP (by decide +kernel) (fcP rfl (fcP (Jvm.Free.Fl.noNaN64_no.mp (div_nn (by decide +kernel) (mx_ne _ (by decide)))) (fcP (fin_ne (by decide +kernel) (div_nn (by decide +kernel) (mx_ne _ (by decide)))) (fnP)))))))))))))))))))))))))))))))))))))))))))))))))))))))))))))))))))))))))))
              · refine Good.of (some ([false, true, false, false, false, false, false, true, false, true, false, false, false, false, false, false, false, false, true, false, false, true, true, false, false, true, false, false, false, false, false, true, false, true, false, false, true, true, true, false, false, true, true, false, true, false], [(6)])) rfl ?_
                simp only [List.nil_append, List.append_nil, List.cons_append]
                exact fcP (by decide) (fcP (by assumption) (fcP rfl (fcP (tr (h_eq _) (by assumption)) (fcP rfl (fcP (fl (h_eq _) (by assumption)) (fcP rfl (fcP (fl (h_eq _) (by assumption)) (fcP rfl (fcP (tr (h_eq _) (by assumption)) (fcP rfl (fcP (tr (h_eq _) (by assumption)) (fcP rfl (fcP (fl (h_eq _) (by assumption)) (fcP (by decide) (fcP rfl (fcP (by decide) (fcP rfl (fcP (by decide) (fcP rfl (fcP (by decide) (fcP rfl (fcP (by decide) (fcP rfl (fcP (by decide) (fcP rfl (fcP (by decide) (fcP rfl (fcP rfl (fcP rfl (fcP rfl (fcP rfl (fcP rfl (fcP rfl (fcP (by decide) (fcP rfl (fcP rfl (fcP (by decide) (fcP rfl (fcP (by decide +kernel) (fcP (by decide +kernel) (fcP rfl (fcP (by decide) (fcP rfl (fcP (by decide +kernel) (fcP (by decide +kernel) (fcP rfl (fcP (by decide) (fcP rfl (fcP rfl (fcP (by decide) (fcP rfl (fcP rfl (fcP (by decide) (fcP rfl (fcP (by decide +kernel) (fcP (by decide +kernel) (fcP rfl (fcP rfl (fcP (Jvm.Free.Fl.noNaN64_no.mp (div_nn (by decide +kernel) (mx_ne _ (by decide)))) (fcP rfl (fcP rfl (fcP (by decide +kernel) (fcP rfl (fcP (by decide +kernel) (fcP rfl (fcP rfl (fcP rfl (fcP (by decide +kernel) (fcP (by decide +kernel) (fcP (by decide +kernel) (fcP (by decide +kernel) (fcP (by decide +kernel) (fcP (by decide +kernel) (fcP (by decide +kernel) (fcP rfl (fcP (Jvm.Free.Fl.noNaN64_no.mp (div_nn (by decide +kernel) (mx_ne _ (by decide)))) (fcP (fin_ne (by decide +kernel) (div_nn (by decide +kernel) (mx_ne _ (by decide)))) (fnP))))))))))))))))))))))))))))))))))))))))))))))))))))))))))))))))))))))))))))))
            · by_cases pB5 : (i1 &&& ((Int8.ofInt (32)).toInt32)).toInt = 0
              · refine Good.of (some ([false, true, false, false, false, false, false, true, false, false, false, true, false, false, false, false, false, false, true, false, false, true, false, true, false, true, false, false, false, false, false, true, false, false, false, true, true, true, true, false, false, true, false, true, true, false], [(6)])) rfl ?_
                simp only [List.nil_append, List.append_nil, List.cons_append]
                exact fcP (by decide) (fcP (by assumption) (fcP rfl (fcP (tr (h_eq _) (by assumption)) (fcP rfl (fcP (fl (h_eq _) (by assumption)) (fcP rfl (fcP (fl (h_eq _) (by assumption)) (fcP rfl (fcP (tr (h_eq _) (by assumption)) (fcP rfl (fcP (fl (h_eq _) (by assumption)) (fcP rfl (fcP (tr (h_eq _) (by assumption)) (fcP (by decide) (fcP rfl (fcP (by decide) (fcP rfl (fcP (by decide) (fcP rfl (fcP (by decide) (fcP rfl (fcP (by decide) (fcP rfl (fcP (by decide) (fcP rfl (fcP (by decide) (fcP rfl (fcP rfl (fcP rfl (fcP rfl (fcP rfl (fcP rfl (fcP rfl (fcP (by decide) (fcP rfl (fcP rfl (fcP (by decide) (fcP rfl (fcP (by decide +kernel) (fcP (by decide +kernel) (fcP rfl (fcP (by decide) (fcP rfl (fcP (by decide +kernel) (fcP (by decide +kernel) (fcP rfl (fcP (by decide) (fcP rfl (fcP rfl (fcP (by decide) (fcP rfl (fcP (by decide +kernel) (fcP (by decide +kernel) (fcP rfl (fcP (by decide) (fcP rfl (fcP rfl (fcP rfl (fcP (Jvm.Free.Fl.noNaN64_no.mp (div_nn (by decide +kernel) (mx_ne _ (by decide)))) (fcP rfl (fcP rfl (fcP (by decide +kernel) (fcP rfl (fcP (by decide +kernel) (fcP rfl (fcP rfl (fcP (by decide +kernel) (fcP rfl (fcP (by decide +kernel) (fcP (by decide +kernel) (fcP (by decide +kernel) (fcP (by decide +kernel) (fcP (by decide +kernel) (fcP (by decide +kernel) (fcP rfl (fcP (Jvm.Free.Fl.noNaN64_no.mp (div_nn (by decide +kernel) (mx_ne _ (by decide)))) (fcP (fin_ne (by decide +kernel) (div_nn (by decide +kernel) (mx_ne _ (by decide)))) (fnP))))))))))))))))))))))))))))))))))))))))))))))))))))))))))))))))))))))))))))))
              · refine Good.of (some ([false, true, false, false, false, false, false, true, false, false, false, false, false, false, false, false, false, false, true, false, false, true, false, false, false, true, false, false, false, false, false, true, false, false, false, false, true, true, true, false, false, true, false, false, true, false], [(6)])) rfl ?_
                simp only [List.nil_append, List.append_nil, List.cons_append]
                exact fcP (by decide) (fcP (by assumption) (fcP rfl (fcP (tr (h_eq _) (by assumption)) (fcP rfl (fcP (fl (h_eq _) (by assumption)) (fcP rfl (fcP (fl (h_eq _) (by assumption)) (fcP rfl (fcP (tr (h_eq _) (by assumption)) (fcP rfl (fcP (fl (h_eq _) (by assumption)) (fcP rfl (fcP (fl (h_eq _) (by assumption)) (fcP (by decide) (fcP rfl (fcP (by decide) (fcP rfl (fcP (by decide) (fcP rfl (fcP (by decide) (fcP rfl (fcP (by decide) (fcP rfl (fcP (by decide) (fcP rfl (fcP (by decide) (fcP rfl (fcP rfl (fcP rfl (fcP rfl (fcP rfl (fcP rfl (fcP rfl (fcP (by decide) (fcP rfl (fcP rfl (fcP (by decide) (fcP rfl (fcP (by decide +kernel) (fcP (by decide +kernel) (fcP rfl (fcP (by decide) (fcP rfl (fcP (by decide +kernel) (fcP (by decide +kernel) (fcP rfl (fcP (by decide) (fcP rfl (fcP rfl (fcP (by decide) (fcP rfl (fcP (by decide +kernel) (fcP (by decide +kernel) (fcP rfl (fcP (by decide) (fcP rfl (fcP (by decide +kernel) (fcP (by decide +kernel) (fcP rfl (fcP rfl (fcP (Jvm.Free.Fl.noNaN64_no.mp (div_nn (by decide +kernel) (mx_ne _ (by decide)))) (fcP rfl (fcP rfl (fcP (by decide +kernel) (fcP rfl (fcP (by decide +kernel) (fcP rfl (fcP rfl (fcP (by decide +kernel) (fcP rfl (fcP (by decide +kernel) (fcP (by decide +kernel) (fcP (by decide +kernel) (fcP (by decide +kernel) (fcP (by decide +kernel) (fcP (by decide +kernel) (fcP (by decide +kernel) (fcP rfl (fcP (Jvm.Free.Fl.noNaN64_no.mp (div_nn (by decide +kernel) (mx_ne _ (by decide)))) (fcP (fin_ne (by decide +kernel) (div_nn (by decide +kernel) (mx_ne _ (by decide)))) (fnP)))))))))))))))))))))))))))))))))))))))))))))))))))))))))))))))))))))))))))))))))
          · by_cases pB4 : (i1 &&& ((Int8.ofInt (16)).toInt32)).toInt = 0
            · by_cases pB5 : (i1 &&& ((Int8.ofInt (32)).toInt32)).toInt = 0
              · refine Good.of (some ([false, true, false, false, false, false, false, false, false, true, false, true, false, false, false, false, false, false, true, false, false, false, true, true, false, true, false, false, false, false, false, false, false, true, false, true, true, true, true, false, false, false, true, true, true, false], [(6)])) rfl ?_
                simp only [List.nil_append, List.append_nil, List.cons_append]
                exact fcP (by decide) (fcP (by assumption) (fcP rfl (fcP (tr (h_eq _) (by assumption)) (fcP rfl (fcP (fl (h_eq _) (by assumption)) (fcP rfl (fcP (fl (h_eq _) (by assumption)) (fcP rfl (fcP (fl (h_eq _) (by assumption)) (fcP rfl (fcP (tr (h_eq _) (by assumption)) (fcP rfl (fcP (tr (h_eq _) (by assumption)) (fcP (by decide) (fcP rfl (fcP (by decide) (fcP rfl (fcP (by decide) (fcP rfl (fcP (by decide) (fcP rfl (fcP (by decide) (fcP rfl (fcP (by decide) (fcP rfl (fcP (by decide) (fcP rfl (fcP rfl (fcP rfl (fcP rfl (fcP rfl (fcP rfl (fcP rfl (fcP (by decide) (fcP rfl (fcP rfl (fcP (by decide) (fcP rfl (fcP (by decide +kernel) (fcP (by decide +kernel) (fcP rfl (fcP (by decide) (fcP rfl (fcP (by decide +kernel) (fcP (by decide +kernel) (fcP rfl (fcP (by decide) (fcP rfl (fcP (by decide +kernel) (fcP (by decide +kernel) (fcP rfl (fcP (by decide) (fcP rfl (fcP rfl (fcP (by decide) (fcP rfl (fcP rfl (fcP rfl (fcP (Jvm.Free.Fl.noNaN64_no.mp (div_nn (by decide +kernel) (mx_ne _ (by decide)))) (fcP rfl (fcP rfl (fcP (by decide +kernel) (fcP rfl (fcP (by decide +kernel) (fcP rfl (fcP (by decide +kernel) (fcP rfl (fcP rfl (fcP (by decide +kernel) (fcP (by decide +kernel) (fcP (by decide +kernel) (fcP (by decide +kernel) (fcP (by decide +kernel) (fcP (by decide +kernel) (fcP rfl (fcP (Jvm.Free.Fl.noNaN64_no.mp (div_nn (by decide +kernel) (mx_ne _ (by decide)))) (fcP (fin_ne (by decide +kernel) (div_nn (by decide +kernel) (mx_ne _ (by decide)))) (fnP))))))))))))))))))))))))))))))))))))))))))))))))))))))))))))))))))))))))))))))
              · refine Good.of (some ([false, true, false, false, false, false, false, false, false, true, false, false, false, false, false, false, false, false, true, false, false, false, true, false, false, true, false, false, false, false, false, false, false, true, false, false, true, true, true, false, false, false, true, false, true, false], [(6)])) rfl ?_
                simp only [List.nil_append, List.append_nil, List.cons_append]
                exact fcP (by decide) (fcP (by assumption) (fcP rfl (fcP (tr (h_eq _) (by assumption)) (fcP rfl (fcP (fl (h_eq _) (by assumption)) (fcP rfl (fcP (fl (h_eq _) (by assumption)) (fcP rfl (fcP (fl (h_eq _) (by assumption)) (fcP rfl (fcP (tr (h_eq _) (by assumption)) (fcP rfl (fcP (fl (h_eq _) (by assumption)) (fcP (by decide) (fcP rfl (fcP (by decide) (fcP rfl (fcP (by decide) (fcP rfl (fcP (by decide) (fcP rfl (fcP (by decide) (fcP rfl (fcP (by decide) (fcP rfl (fcP (by decide) (fcP rfl (fcP rfl (fcP rfl (fcP rfl (fcP rfl (fcP rfl (fcP rfl (fcP (by decide) (fcP rfl (fcP rfl (fcP (by decide) (fcP rfl (fcP (by decide +kernel) (fcP (by decide +kernel) (fcP rfl (fcP (by decide) (fcP rfl (fcP (by decide +kernel) (fcP (by decide +kernel) (fcP rfl (fcP (by decide) (fcP rfl (fcP (by decide +kernel) (fcP (by decide +kernel) (fcP rfl (fcP (by decide) (fcP rfl (fcP rfl (fcP (by decide) (fcP rfl (fcP (by decide +kernel) (fcP (by decide +kernel) (fcP rfl (fcP rfl (fcP (Jvm.Free.Fl.noNaN64_no.mp (div_nn (by decide +kernel) (mx_ne _ (by decide)))) (fcP rfl (fcP rfl (fcP (by decide +kernel) (fcP rfl (fcP (by decide +kernel) (fcP rfl (fcP (by decide +kernel) (fcP rfl (fcP rfl (fcP (by decide +kernel) (fcP (by decide +kernel) (fcP (by decide +kernel) (fcP (by decide +kernel) (fcP (by decide +kernel) (fcP (by decide +kernel) (fcP (by decide +kernel) (fcP rfl (fcP (Jvm.Free.Fl.noNaN64_no.mp (div_nn (by decide +kernel) (mx_ne _ (by decide)))) (fcP (fin_ne (by decide +kernel) (div_nn (by decide +kernel) (mx_ne _ (by decide)))) (fnP)))))))))))))))))))))))))))))))))))))))))))))))))))))))))))))))))))))))))))))))))
            · by_cases pB5 : (i1 &&& ((Int8.ofInt (32)).toInt32)).toInt = 0
              · refine Good.of (some ([false, true, false, false, false, false, false, false, false, false, false, true, false, false, false, false, false, false, true, false, false, false, false, true, false, true, false, false, false, false, false, false, false, false, false, true, true, true, true, false, false, false, false, true, true, false], [(6)])) rfl ?_
                simp only [List.nil_append, List.append_nil, List.cons_append]
                exact fcP (by decide) (fcP (by assumption) (fcP rfl (fcP (tr (h_eq _) (by assumption)) (fcP rfl (fcP (fl (h_eq _) (by assumption)) (fcP rfl (fcP (fl (h_eq _) (by assumption)) (fcP rfl (fcP (fl (h_eq _) (by assumption)) (fcP rfl (fcP (fl (h_eq _) (by assumption)) (fcP rfl (fcP (tr (h_eq _) (by assumption)) (fcP (by decide) (fcP rfl (fcP (by decide) (fcP rfl (fcP (by decide) (fcP rfl (fcP (by decide) (fcP rfl (fcP (by decide) (fcP rfl (fcP (by decide) (fcP rfl (fcP (by decide) (fcP rfl (fcP rfl (fcP rfl (fcP rfl (fcP rfl (fcP rfl (fcP rfl (fcP (by decide) (fcP rfl (fcP rfl (fcP (by decide) (fcP rfl (fcP (by decide +kernel) (fcP (by decide +kernel) (fcP rfl (fcP (by decide) (fcP rfl (fcP (by decide +kernel) (fcP (by decide +kernel) (fcP rfl (fcP (by decide) (fcP rfl (fcP (by decide +kernel) (fcP (by decide +kernel) (fcP rfl (fcP (by decide) (fcP rfl (fcP (by decide +kernel) (fcP (by decide +kernel) (fcP rfl (fcP (by decide) (fcP rfl (fcP rfl (fcP rfl (fcP (Jvm.Free.Fl.noNaN64_no.mp (div_nn (by decide +kernel) (mx_ne _ (by decide)))) (fcP rfl (fcP rfl (fcP (by decide +kernel) (fcP rfl (fcP (by decide +kernel) (fcP rfl (fcP (by decide +kernel) (fcP rfl (fcP (by decide +kernel) (fcP rfl (fcP (by decide +kernel) (fcP (by decide +kernel) (fcP (by decide +kernel) (fcP (by decide +kernel) (fcP (by decide +kernel) (fcP (by decide +kernel) (fcP rfl (fcP (Jvm.Free.Fl.noNaN64_no.mp (div_nn (by decide +kernel) (mx_ne _ (by decide)))) (fcP (fin_ne (by decide +kernel) (div_nn (by decide +kernel) (mx_ne _ (by decide)))) (fnP)))))))))))))))))))))))))))))))))))))))))))))))))))))))))))))))))))))))))))))))))
              · refine Good.of (some ([false, true, false, false, false, false, false, false, false, false, false, false, false, false, false, false, false, false, true, false, false, false, false, false, false, true, false, false, false, false, false, false, false, false, false, false, true, true, true, false, false, false, false, false, true, false], [(6)])) rfl ?_
                simp only [List.nil_append, List.append_nil, List.cons_append]
                exact fcP (by decide) (fcP (by assumption) (fcP rfl (fcP (tr (h_eq _) (by assumption)) (fcP rfl (fcP (fl (h_eq _) (by assumption)) (fcP rfl (fcP (fl (h_eq _) (by assumption)) (fcP rfl (fcP (fl (h_eq _) (by assumption)) (fcP rfl (fcP (fl (h_eq _) (by assumption)) (fcP rfl (fcP (fl (h_eq _) (by assumption)) (fcP (by decide) (fcP rfl (fcP (by decide) (fcP rfl (fcP (by decide) (fcP rfl (fcP (by decide) (fcP rfl (fcP (by decide) (fcP rfl (fcP (by decide) (fcP rfl (fcP (by decide) (fcP rfl (fcP rfl (fcP rfl (fcP rfl (fcP rfl (fcP rfl (fcP rfl (fcP (by decide) (fcP rfl (fcP rfl (fcP (by decide) (fcP rfl (fcP (by decide +kernel) (fcP (by decide +kernel) (fcP rfl (fcP (by decide) (fcP rfl (fcP (by decide +kernel) (fcP (by decide +kernel) (fcP rfl (fcP (by decide) (fcP rfl (fcP (by decide +kernel) (fcP (by decide +kernel) (fcP rfl (fcP (by decide) (fcP rfl (fcP (by decide +kernel) (fcP (by decide +kernel) (fcP rfl (fcP (by decide) (fcP rfl (fcP (by decide +kernel) (fcP (by decide +kernel) (fcP rfl (fcP rfl (fcP (Jvm.Free.Fl.noNaN64_no.mp (div_nn (by decide +kernel) (mx_ne _ (by decide)))) (fcP rfl (fcP rfl (fcP (by decide +kernel) (fcP rfl (fcP (by decide +kernel) (fcP rfl (fcP (by decide +kernel) (fcP rfl (fcP (by decide +kernel) (fcP rfl (fcP (by decide +kernel) (fcP (by decide +kernel) (fcP (by decide +kernel) (fcP (by decide +kernel) (fcP (by decide +kernel) (fcP (by decide +kernel) (fcP (by decide +kernel) (fcP rfl (fcP (Jvm.Free.Fl.noNaN64_no.mp (div_nn (by decide +kernel) (mx_ne _ (by decide)))) (fcP (fin_ne (by decide +kernel) (div_nn (by decide +kernel) (mx_ne _ (by decide)))) (fnP))))))))))))))))))))))))))))))))))))))))))))))))))))))))))))))))))))))))))))))))))))
    · by_cases pB1 : (i1 &&& (Int32.ofInt (2))).toInt = 0
      · by_cases pB2 : (i1 &&& (Int32.ofInt (4))).toInt = 0
        · by_cases pB3 : (i1 &&& ((Int8.ofInt (8)).toInt32)).toInt = 0
          · by_cases pB4 : (i1 &&& ((Int8.ofInt (16)).toInt32)).toInt = 0
            · by_cases pB5 : (i1 &&& ((Int8.ofInt (32)).toInt32)).toInt = 0
              · refine Good.of (some ([false, false, false, true, false, true, false, true, false, true, false, true, false, false, false, false, false, false, false, true, true, true, true, true, false, false, false, true, false, true, false, true, false, true, false, true, true, true, false, true, true, true, true, true, true, false], [(6)])) rfl ?_
                simp only [List.nil_append, List.append_nil, List.cons_append]
                exact fcP (by decide) (fcP (by assumption) (fcP rfl (fcP (fl (h_eq _) (by assumption)) (fcP rfl (fcP (tr (h_eq _) (by assumption)) (fcP rfl (fcP (tr (h_eq _) (by assumption)) (fcP rfl (fcP (tr (h_eq _) (by assumption)) (fcP rfl (fcP (tr (h_eq _) (by assumption)) (fcP rfl (fcP (tr (h_eq _) (by assumption)) (fcP (by decide) (fcP rfl (fcP (by decide) (fcP rfl (fcP (by decide) (fcP rfl (fcP (by decide) (fcP rfl (fcP (by decide) (fcP rfl (fcP (by decide) (fcP rfl (fcP (by decide) (fcP rfl (fcP rfl (fcP rfl (fcP rfl (fcP rfl (fcP rfl (fcP rfl (fcP (by decide) (fcP rfl (fcP (by decide +kernel) (fcP (by decide +kernel) (fcP rfl (fcP (by decide) (fcP rfl (fcP rfl (fcP (by decide) (fcP rfl (fcP rfl (fcP (by decide) (fcP rfl (fcP rfl (fcP (by decide) (fcP rfl (fcP rfl (fcP (by decide) (fcP rfl (fcP rfl (fcP rfl (fcP (Jvm.Free.Fl.noNaN64_no.mp (div_nn (by decide +kernel) (mx_ne _ (by decide)))) (fcP rfl (fcP (by decide +kernel) (fcP rfl (fcP rfl (fcP rfl (fcP rfl (fcP rfl (fcP (by decide +kernel) (fcP (by decide +kernel) (fcP (by decide +kernel) (fcP (by decide +kernel) (fcP (by decide +kernel) (fcP (by decide +kernel) (fcP rfl (fcP (Jvm.Free.Fl.noNaN64_no.mp (div_nn (by decide +kernel) (mx_ne _ (by decide)))) (fcP (fin_ne (by decide +kernel) (div_nn (by decide +kernel) (mx_ne _ (by decide)))) (fnP))))))))))))))))))))))))))))))))))))))))))))))))))))))))))))))))))))))))
              · refine Good.of (some ([false, false, false, true, false, true, false, true, false, true, false, false, false, false, false, false, false, false, false, true, true, true, true, false, false, false, false, true, false, true, false, true, false, true, false, false, true, true, false, true, true, true, true, false, true, false], [(6)])) rfl ?_
                simp only [List.nil_append, List.append_nil, List.cons_append]
                exact fcP (by decide) (fcP (by assumption) (fcP rfl (fcP (fl (h_eq _) (by assumption)) (fcP rfl (fcP (tr (h_eq _) (by assumption)) (fcP rfl (fcP (tr (h_eq _) (by assumption)) (fcP rfl (fcP (tr (h_eq _) (by assumption)) (fcP rfl (fcP (tr (h_eq _) (by assumption)) (fcP rfl (fcP (fl (h_eq _) (by assumption)) (fcP (by decide) (fcP rfl (fcP (by decide) (fcP rfl (fcP (by decide) (fcP rfl (fcP (by decide) (fcP rfl (fcP (by decide) (fcP rfl (fcP (by decide) (fcP rfl (fcP (by decide) (fcP rfl (fcP rfl (fcP rfl (fcP rfl (fcP rfl (fcP rfl (fcP rfl (fcP (by decide) (fcP rfl (fcP (by decide +kernel) (fcP (by decide +kernel) (fcP rfl (fcP (by decide) (fcP rfl (fcP rfl (fcP (by decide) (fcP rfl (fcP rfl (fcP (by decide) (fcP rfl (fcP rfl (fcP (by decide) (fcP rfl (fcP rfl (fcP (by decide) (fcP rfl (fcP (by decide +kernel) (fcP (by decide +kernel) (fcP rfl (fcP rfl (fcP (Jvm.Free.Fl.noNaN64_no.mp (div_nn (by decide +kernel) (mx_ne _ (by decide)))) (fcP rfl (fcP (by decide +kernel) (fcP rfl (fcP rfl (fcP rfl (fcP rfl (fcP rfl (fcP (by decide +kernel) (fcP (by decide +kernel) (fcP (by decide +kernel) (fcP (by decide +kernel) (fcP (by decide +kernel) (fcP (by decide +kernel) (fcP (by decide +kernel) (fcP rfl (fcP (Jvm.Free.Fl.noNaN64_no.mp (div_nn (by decide +kernel) (mx_ne _ (by decide)))) (fcP (fin_ne (by decide +kernel) (div_nn (by decide +kernel) (mx_ne _ (by decide)))) (fnP)))))))))))))))))))))))))))))))))))))))))))))))))))))))))))))))))))))))))))
            · by_cases pB5 : (i1 &&& ((Int8.ofInt (32)).toInt32)).toInt = 0
              · refine Good.of (some ([false, false, false, true, false, true, false, true, false, false, false, true, false, false, false, false, false, false, false, true, true, true, false, true, false, false, false, true, false, true, false, true, false, false, false, true, true, true, false, true, true, true, false, true, true, false], [(6)])) rfl ?_
                simp only [List.nil_append, List.append_nil, List.cons_append]
                exact fcP (by decide) (fcP (by assumption) (fcP rfl (fcP (fl (h_eq _) (by assumption)) (fcP rfl (fcP (tr (h_eq _) (by assumption)) (fcP rfl (fcP (tr (h_eq _) (by assumption)) (fcP rfl (fcP (tr (h_eq _) (by assumption)) (fcP rfl (fcP (fl (h_eq _) (by assumption)) (fcP rfl (fcP (tr (h_eq _) (by assumption)) (fcP (by decide) (fcP rfl (fcP (by decide) (fcP rfl (fcP (by decide) (fcP rfl (fcP (by decide) (fcP rfl (fcP (by decide) (fcP rfl (fcP (by decide) (fcP rfl (fcP (by decide) (fcP rfl (fcP rfl (fcP rfl (fcP rfl (fcP rfl (fcP rfl (fcP rfl (fcP (by decide) (fcP rfl (fcP (by decide +kernel) (fcP (by decide +kernel) (fcP rfl (fcP (by decide) (fcP rfl (fcP rfl (fcP (by decide) (fcP rfl (fcP rfl (fcP (by decide) (fcP rfl (fcP rfl (fcP (by decide) (fcP rfl (fcP (by decide +kernel) (fcP (by decide +kernel) (fcP rfl (fcP (by decide) (fcP rfl (fcP rfl (fcP rfl (fcP (Jvm.Free.Fl.noNaN64_no.mp (div_nn (by decide +kernel) (mx_ne _ (by decide)))) (fcP rfl (fcP (by decide +kernel) (fcP rfl (fcP rfl (fcP rfl (fcP rfl (fcP (by decide +kernel) (fcP rfl (fcP (by decide +kernel) (fcP (by decide +kernel) (fcP (by decide +kernel) (fcP (by decide +kernel) (fcP (by decide +kernel) (fcP (by decide +kernel) (fcP rfl (fcP (Jvm.Free.Fl.noNaN64_no.mp (div_nn (by decide +kernel) (mx_ne _ (by decide)))) (fcP (fin_ne (by decide +kernel) (div_nn (by decide +kernel) (mx_ne _ (by decide)))) (fnP)))))))))))))))))))))))))))))))))))))))))))))))))))))))))))))))))))))))))))
              · refine Good.of (some ([false, false, false, true, false, true, false, true, false, false, false, false, false, false, false, false, false, false, false, true, true, true, false, false, false, false, false, true, false, true, false, true, false, false, false, false, true, true, false, true, true, true, false, false, true, false], [(6)])) rfl ?_
                simp only [List.nil_append, List.append_nil, List.cons_append]
                exact fcP (by decide) (fcP (by assumption) (fcP rfl (fcP (fl (h_eq _) (by assumption)) (fcP rfl (fcP (tr (h_eq _) (by assumption)) (fcP rfl (fcP (tr (h_eq _) (by assumption)) (fcP rfl (fcP (tr (h_eq _) (by assumption)) (fcP rfl (fcP (fl (h_eq _) (by assumption)) (fcP rfl (fcP (fl (h_eq _) (by assumption)) (fcP (by decide) (fcP rfl (fcP (by decide) (fcP rfl (fcP (by decide) (fcP rfl (fcP (by decide) (fcP rfl (fcP (by decide) (fcP rfl (fcP (by decide) (fcP rfl (fcP (by decide) (fcP rfl (fcP rfl (fcP rfl (fcP rfl (fcP rfl (fcP rfl (fcP rfl (fcP (by decide) (fcP rfl (fcP (by decide +kernel) (fcP (by decide +kernel) (fcP rfl (fcP (by decide) (fcP rfl (fcP rfl (fcP (by decide) (fcP rfl (fcP rfl (fcP (by decide) (fcP rfl (fcP rfl (fcP (by decide) (fcP rfl (fcP (by decide +kernel) (fcP (by decide +kernel) (fcP rfl (fcP (by decide) (fcP rfl (fcP (by decide +kernel) (fcP (by decide +kernel) (fcP rfl (fcP rfl (fcP (Jvm.Free.Fl.noNaN64_no.mp (div_nn (by decide +kernel) (mx_ne _ (by decide)))) (fcP rfl (fcP (by decide +kernel) (fcP rfl (fcP rfl (fcP rfl (fcP rfl (fcP (by decide +kernel) (fcP rfl (fcP (by decide +kernel) (fcP (by decide +kernel) (fcP (by decide +kernel) (fcP (by decide +kernel) (fcP (by decide +kernel) (fcP (by decide +kernel) (fcP (by decide +kernel) (fcP rfl (fcP (Jvm.Free.Fl.noNaN64_no.mp (div_nn (by decide +kernel) (mx_ne _ (by decide)))) (fcP (fin_ne (by decide +kernel) (div_nn (by decide +kernel) (mx_ne _ (by decide)))) (fnP))))))))))))))))))))))))))))))))))))))))))))))))))))))))))))))))))))))))))))))
          · by_cases pB4 : (i1 &&& ((Int8.ofInt (16)).toInt32)).toInt = 0
            · by_cases pB5 : (i1 &&& ((Int8.ofInt (32)).toInt32)).toInt = 0
              · refine Good.of (some ([false, false, false, true, false, true, false, false, false, true, false, true, false, false, false, false, false, false, false, true, true, false, true, true, false, false, false, true, false, true, false, false, false, true, false, true, true, true, false, true, true, false, true, true, true, false], [(6)])) rfl ?_
                simp only [List.nil_append, List.append_nil, List.cons_append]
                exact fcP (by decide) (fcP (by assumption) (fcP rfl (fcP (fl (h_eq _) (by assumption)) (fcP rfl (fcP (tr (h_eq _) (by assumption)) (fcP rfl (fcP (tr (h_eq _) (by assumption)) (fcP rfl (fcP (fl (h_eq _) (by assumption)) (fcP rfl (fcP (tr (h_eq _) (by assumption)) (fcP rfl (fcP (tr (h_eq _) (by assumption)) (fcP (by decide) (fcP rfl (fcP (by decide) (fcP rfl (fcP (by decide) (fcP rfl (fcP (by decide) (fcP rfl (fcP (by decide) (fcP rfl (fcP (by decide) (fcP rfl (fcP (by decide) (fcP rfl (fcP rfl (fcP rfl (fcP rfl (fcP rfl (fcP rfl (fcP rfl (fcP (by decide) (fcP rfl (fcP (by decide +kernel) (fcP (by decide +kernel) (fcP rfl (fcP (by decide) (fcP rfl (fcP rfl (fcP (by decide) (fcP rfl (fcP rfl (fcP (by decide) (fcP rfl (fcP (by decide +kernel) (fcP (by decide +kernel) (fcP rfl (fcP (by decide) (fcP rfl (fcP rfl (fcP (by decide) (fcP rfl (fcP rfl (fcP rfl (fcP (Jvm.Free.Fl.noNaN64_no.mp (div_nn (by decide +kernel) (mx_ne _ (by decide)))) (fcP rfl (fcP (by decide +kernel) (fcP rfl (fcP rfl (fcP rfl (fcP (by decide +kernel) (fcP rfl (fcP rfl (fcP (by decide +kernel) (fcP (by decide +kernel) (fcP (by decide +kernel) (fcP (by decide +kernel) (fcP (by decide +kernel) (fcP (by decide +kernel) (fcP rfl (fcP (Jvm.Free.Fl.noNaN64_no.mp (div_nn (by decide +kernel) (mx_ne _ (by decide)))) (fcP (fin_ne (by decide +kernel) (div_nn (by decide +kernel) (mx_ne _ (by decide)))) (fnP)))))))))))))))))))))))))))))))))))))))))))))))))))))))))))))))))))))))))))
              · refine Good.of (some ([false, false, false, true, false, true, false, false, false, true, false, false, false, false, false, false, false, false, false, true, true, false, true, false, false, false, false, true, false, true, false, false, false, true, false, false, true, true, false, true, true, false, true, false, true, false], [(6)])) rfl ?_
                simp only [List.nil_append, List.append_nil, List.cons_append]
                exact fcP (by decide) (fcP (by assumption) (fcP rfl (fcP (fl (h_eq _) (by assumption)) (fcP rfl (fcP (tr (h_eq _) (by assumption)) (fcP rfl (fcP (tr (h_eq _) (by assumption)) (fcP rfl (fcP (fl (h_eq _) (by assumption)) (fcP rfl (fcP (tr (h_eq _) (by assumption)) (fcP rfl (fcP (fl (h_eq _) (by assumption)) (fcP (by decide) (fcP rfl (fcP (by decide) (fcP rfl (fcP (by decide) (fcP rfl (fcP (by decide) (fcP rfl (fcP (by decide) (fcP rfl (fcP (by decide) (fcP rfl (fcP (by decide) (fcP rfl (fcP rfl (fcP rfl (fcP rfl (fcP rfl (fcP rfl (fcP rfl (fcP (by decide) (fcP rfl (fcP (by decide +kernel) (fcP (by decide +kernel) (fcP rfl (fcP (by decide) (fcP rfl (fcP rfl (fcP (by decide) (fcP rfl (fcP rfl (fcP (by decide) (fcP rfl (fcP (by decide +kernel) (fcP (by decide +kernel) (fcP rfl (fcP (by decide) (fcP rfl (fcP rfl (fcP (by decide) (fcP rfl (fcP (by decide +kernel) (fcP (by decide +kernel) (fcP rfl (fcP rfl (fcP (Jvm.Free.Fl.noNaN64_no.mp (div_nn (by decide +kernel) (mx_ne _ (by decide)))) (fcP rfl (fcP (by decide +kernel) (fcP rfl (fcP rfl (fcP rfl (fcP (by decide +kernel) (fcP rfl (fcP rfl (fcP (by decide +kernel) (fcP (by decide +kernel) (fcP (by decide +kernel) (fcP (by decide +kernel) (fcP (by decide +kernel) (fcP (by decide +kernel) (fcP (by decide +kernel) (fcP rfl (fcP (Jvm.Free.Fl.noNaN64_no.mp (div_nn (by decide +kernel) (mx_ne _ (by decide)))) (fcP (fin_ne (by decide +kernel) (div_nn (by decide +kernel) (mx_ne _ (by decide)))) (fnP))))))))))))))))))))))))))))))))))))))))))))))))))))))))))))))))))))))))))))))
            · by_cases pB5 : (i1 &&& ((Int8.ofInt (32)).toInt32)).toInt = 0
              · refine Good.of (some ([false, false, false, true, false, true, false, false, false, false, false, true, false, false, false, false, false, false, false, true, true, false, false, true, false, false, false, true, false, true, false, false, false, false, false, true, true, true, false, true, true, false, false, true, true, false], [(6)])) rfl ?_
                simp only [List.nil_append, List.append_nil, List.cons_append]
                exact fcP (by decide) (fcP (by assumption) (fcP rfl (fcP (fl (h_eq _) (by assumption)) (fcP rfl (fcP (tr (h_eq _) (by assumption)) (fcP rfl (fcP (tr (h_eq _) (by assumption)) (fcP rfl (fcP (fl (h_eq _) (by assumption)) (fcP rfl (fcP (fl (h_eq _) (by assumption)) (fcP rfl (fcP (tr (h_eq _) (by assumption)) (fcP (by decide) (fcP rfl (fcP (by decide) (fcP rfl (fcP (by decide) (fcP rfl (fcP (by decide) (fcP rfl (fcP (by decide) (fcP rfl (fcP (by decide) (fcP rfl (fcP (by decide) (fcP rfl (fcP rfl (fcP rfl (fcP rfl (fcP rfl (fcP rfl (fcP rfl (fcP (by decide) (fcP rfl (fcP (by decide +kernel) (fcP (by decide +kernel) (fcP rfl (fcP (by decide) (fcP rfl (fcP rfl (fcP (by decide) (fcP rfl (fcP rfl (fcP (by decide) (fcP rfl (fcP (by decide +kernel) (fcP (by decide +kernel) (fcP rfl (fcP (by decide) (fcP rfl (fcP (by decide +kernel) (fcP (by decide +kernel) (fcP rfl (fcP (by decide) (fcP rfl (fcP rfl (fcP rfl (fcP (Jvm.Free.Fl.noNaN64_no.mp (div_nn (by decide +kernel) (mx_ne _ (by decide)))) (fcP rfl (fcP (by decide +kernel) (fcP rfl (fcP rfl (fcP rfl (fcP (by decide +kernel) (fcP rfl (fcP (by decide +kernel) (fcP rfl (fcP (by decide +kernel) (fcP (by decide +kernel) (fcP (by decide +kernel) (fcP (by decide +kernel) (fcP (by decide +kernel) (fcP (by decide +kernel) (fcP rfl (fcP (Jvm.Free.Fl.noNaN64_no.mp (div_nn (by decide +kernel) (mx_ne _ (by decide)))) (fcP (fin_ne (by decide +kernel) (div_nn (by decide +kernel) (mx_ne _ (by decide)))) (fnP))))))))))))))))))))))))))))))))))))))))))))))))))))))))))))))))))))))))))))))
              · refine Good.of (some ([false, false, false, true, false, true, false, false, false, false, false, false, false, false, false, false, false, false, false, true, true, false, false, false, false, false, false, true, false, true, false, false, false, false, false, false, true, true, false, true, true, false, false, false, true, false], [(6)])) rfl ?_
                simp only [List.nil_append, List.append_nil, List.cons_append]
                exact fcP (by decide) (fcP (by assumption) (fcP rfl (fcP (fl (h_eq _) (by assumption)) (fcP rfl (fcP (tr (h_eq _) (by assumption)) (fcP rfl (fcP (tr (h_eq _) (by assumption)) (fcP rfl (fcP (fl (h_eq _) (by assumption)) (fcP rfl (fcP (fl (h_eq _) (by assumption)) (fcP rfl (fcP (fl (h_eq _) (by assumption)) (fcP (by decide) (fcP rfl (fcP (by decide) (fcP rfl (fcP (by decide) (fcP rfl (fcP (by decide) (fcP rfl (fcP (by decide) (fcP rfl (fcP (by decide) (fcP rfl (fcP (by decide) (fcP rfl (fcP rfl (fcP rfl (fcP rfl (fcP rfl (fcP rfl (fcP rfl (fcP (by decide) (fcP rfl (fcP (by decide +kernel) (fcP (by decide +kernel) (fcP rfl (fcP (by decide) (fcP rfl (fcP rfl (fcP (by decide) (fcP rfl (fcP rfl (fcP (by decide) (fcP rfl (fcP (by decide +kernel) (fcP (by decide +kernel) (fcP rfl (fcP (by decide) (fcP rfl (fcP (by decide +kernel) (fcP (by decide +kernel) (fcP rfl (fcP (by decide) (fcP rfl (fcP (by decide +kernel) (fcP (by decide +kernel) (fcP rfl (fcP rfl (fcP (Jvm.Free.Fl.noNaN64_no.mp (div_nn (by decide +kernel) (mx_ne _ (by decide)))) (fcP rfl (fcP (by decide +kernel) (fcP rfl (fcP rfl (fcP rfl (fcP (by decide +kernel) (fcP rfl (fcP (by decide +kernel) (fcP rfl (fcP (by decide +kernel) (fcP (by decide +kernel) (fcP (by decide +kernel) (fcP (by decide +kernel) (fcP (by decide +kernel) (fcP (by decide +kernel) (fcP (by decide +kernel) (fcP rfl (fcP (Jvm.Free.Fl.noNaN64_no.mp (div_nn (by decide +kernel) (mx_ne _ (by decide)))) (fcP (fin_ne (by decide +kernel) (div_nn (by decide +kernel) (mx_ne _ (by decide)))) (fnP)))))))))))))))))))))))))))))))))))))))))))))))))))))))))))))))))))))))))))))))))
        · by_cases pB3 : (i1 &&& ((Int8.ofInt (8)).toInt32)).toInt = 0
          · by_cases pB4 : (i1 &&& ((Int8.ofInt (16)).toInt32)).toInt = 0
            · by_cases pB5 : (i1 &&& ((Int8.ofInt (32)).toInt32)).toInt = 0
              · refine Good.of (some ([false, false, false, true, false, false, false, true, false, true, false, true, false, false, false, false, false, false, false, true, false, true, true, true, false, false, false, true, false, false, false, true, false, true, false, true, true, true, false, true, false, true, true, true, true, false], [(6)])) rfl ?_
                simp only [List.nil_append, List.append_nil, List.cons_append]
                exact fcP (by decide) (fcP (by assumption) (fcP rfl (fcP (fl (h_eq _) (by assumption)) (fcP rfl (fcP (tr (h_eq _) (by assumption)) (fcP rfl (fcP (fl (h_eq _) (by assumption)) (fcP rfl (fcP (tr (h_eq _) (by assumption)) (fcP rfl (fcP (tr (h_eq _) (by assumption)) (fcP rfl (fcP (tr (h_eq _) (by assumption)) (fcP (by decide) (fcP rfl (fcP (by decide) (fcP rfl (fcP (by decide) (fcP rfl (fcP (by decide) (fcP rfl (fcP (by decide) (fcP rfl (fcP (by decide) (fcP rfl (fcP (by decide) (fcP rfl (fcP rfl (fcP rfl (fcP rfl (fcP rfl (fcP rfl (fcP rfl (fcP (by decide) (fcP rfl (fcP (by decide +kernel) (fcP (by decide +kernel) (fcP rfl (fcP (by decide) (fcP rfl (fcP rfl (fcP (by decide) (fcP rfl (fcP (by decide +kernel) (fcP (by decide +kernel) (fcP rfl (fcP (by decide) (fcP rfl (fcP rfl (fcP (by decide) (fcP rfl (fcP rfl (fcP (by decide) (fcP rfl (fcP rfl (fcP rfl (fcP (Jvm.Free.Fl.noNaN64_no.mp (div_nn (by decide +kernel) (mx_ne _ (by decide)))) (fcP rfl (fcP (by decide +kernel) (fcP rfl (fcP rfl (fcP (by decide +kernel) (fcP rfl (fcP rfl (fcP rfl (fcP (by decide +kernel) (fcP (by decide +kernel) (fcP (by decide +kernel) (fcP (by decide +kernel) (fcP (by decide +kernel) (fcP (by decide +kernel) (fcP rfl (fcP (Jvm.Free.Fl.noNaN64_no.mp (div_nn (by decide +kernel) (mx_ne _ (by decide)))) (fcP (fin_ne (by decide +kernel) (div_nn (by decide +kernel) (mx_ne _ (by decide)))) (fnP)))))))))))))))))))))))))))))))))))))))))))))))))))))))))))))))))))))))))))
              · refine Good.of (some ([false, false, false, true, false, false, false, true, false, true, false, false, false, false, false, false, false, false, false, true, false, true, true, false, false, false, false, true, false, false, false, true, false, true, false, false, true, true, false, true, false, true, true, false, true, false], [(6)])) rfl ?_
                simp only [List.nil_append, List.append_nil, List.cons_append]
                exact fcP (by decide) (fcP (by assumption) (fcP rfl (fcP (fl (h_eq _) (by assumption)) (fcP rfl (fcP (tr (h_eq _) (by assumption)) (fcP rfl (fcP (fl (h_eq _) (by assumption)) (fcP rfl (fcP (tr (h_eq _) (by assumption)) (fcP rfl (fcP (tr (h_eq _) (by assumption)) (fcP rfl (fcP (fl (h_eq _) (by assumption)) (fcP (by decide) (fcP rfl (fcP (by decide) (fcP rfl (fcP (by decide) (fcP rfl (fcP (by decide) (fcP rfl (fcP (by decide) (fcP rfl (fcP (by decide) (fcP rfl (fcP (by decide) (fcP rfl (fcP rfl (fcP rfl (fcP rfl (fcP rfl (fcP rfl (fcP rfl (fcP (by decide) (fcP rfl (fcP (by decide +kernel) (fcP (by decide +kernel) (fcP rfl (fcP (by decide) (fcP rfl (fcP rfl (fcP (by decide) (fcP rfl (fcP (by decide +kernel) (fcP (by decide +kernel) (fcP rfl (fcP (by decide) (fcP rfl (fcP rfl (fcP (by decide) (fcP rfl (fcP rfl (fcP (by decide) (fcP rfl (fcP (by decide +kernel) (fcP (by decide +kernel) (fcP rfl (fcP rfl (fcP (Jvm.Free.Fl.noNaN64_no.mp (div_nn (by decide +kernel) (mx_ne _ (by decide)))) (fcP rfl (fcP (by decide +kernel) (fcP rfl (fcP rfl (fcP (by decide +kernel) (fcP rfl (fcP rfl (fcP rfl (fcP (by decide +kernel) (fcP (by decide +kernel) (fcP (by decide +kernel) (fcP (by decide +kernel) (fcP (by decide +kernel) (fcP (by decide +kernel) (fcP (by decide +kernel) (fcP rfl (fcP (Jvm.Free.Fl.noNaN64_no.mp (div_nn (by decide +kernel) (mx_ne _ (by decide)))) (fcP (fin_ne (by decide +kernel) (div_nn (by decide +kernel) (mx_ne _ (by decide)))) (fnP))))))))))))))))))))))))))))))))))))))))))))))))))))))))))))))))))))))))))))))
            · by_cases pB5 : (i1 &&& ((Int8.ofInt (32)).toInt32)).toInt = 0
              · refine Good.of (some ([false, false, false, true, false, false, false, true, false, false, false, true, false, false, false, false, false, false, false, true, false, true, false, true, false, false, false, true, false, false, false, true, false, false, false, true, true, true, false, true, false, true, false, true, true, false], [(6)])) rfl ?_
                simp only [List.nil_append, List.append_nil, List.cons_append]
                exact fcP (by decide) (fcP (by assumption) (fcP rfl (fcP (fl (h_eq _) (by assumption)) (fcP rfl (fcP (tr (h_eq _) (by assumption)) (fcP rfl (fcP (fl (h_eq _) (by assumption)) (fcP rfl (fcP (tr (h_eq _) (by assumption)) (fcP rfl (fcP (fl (h_eq _) (by assumption)) (fcP rfl (fcP (tr (h_eq _) (by assumption)) (fcP (by decide) (fcP rfl (fcP (by decide) (fcP rfl (fcP (by decide) (fcP rfl (fcP (by decide) (fcP rfl (fcP (by decide) (fcP rfl (fcP (by decide) (fcP rfl (fcP (by decide) (fcP rfl (fcP rfl (fcP rfl (fcP rfl (fcP rfl (fcP rfl (fcP rfl (fcP (by decide) (fcP rfl (fcP (by decide +kernel) (fcP (by decide +kernel) (fcP rfl (fcP (by decide) (fcP rfl (fcP rfl (fcP (by decide) (fcP rfl (fcP (by decide +kernel) (fcP (by decide +kernel) (fcP rfl (fcP (by decide) (fcP rfl (fcP rfl (fcP (by decide) (fcP rfl (fcP (by decide +kernel) (fcP (by decide +kernel) (fcP rfl (fcP (by decide) (fcP rfl (fcP rfl (fcP rfl (fcP (Jvm.Free.Fl.noNaN64_no.mp (div_nn (by decide +kernel) (mx_ne _ (by decide)))) (fcP rfl (fcP (by decide +kernel) (fcP rfl (fcP rfl (fcP (by decide +kernel) (fcP rfl (fcP rfl (fcP (by decide +kernel) (fcP rfl (fcP (by decide +kernel) (fcP (by decide +kernel) (fcP (by decide +kernel) (fcP (by decide +kernel) (fcP (by decide +kernel) (fcP (by decide +kernel) (fcP rfl (fcP (Jvm.Free.Fl.noNaN64_no.mp (div_nn (by decide +kernel) (mx_ne _ (by decide)))) (fcP (fin_ne (by decide +kernel) (div_nn (by decide +kernel) (mx_ne _ (by decide)))) (fnP))))))))))))))))))))))))))))))))))))))))))))))))))))))))))))))))))))))))))))))
              · refine Good.of (some ([false, false, false, true, false, false, false, true, false, false, false, false, false, false, false, false, false, false, false, true, false, true, false, false, false, false, false, true, false, false, false, true, false, false, false, false, true, true, false, true, false, true, false, false, true, false], [(6)])) rfl ?_
                simp only [List.nil_append, List.append_nil, List.cons_append]
                exact fcP (by decide) (fcP (by assumption) (fcP rfl (fcP (fl (h_eq _) (by assumption)) (fcP rfl (fcP (tr (h_eq _) (by assumption)) (fcP rfl (fcP (fl (h_eq _) (by assumption)) (fcP rfl (fcP (tr (h_eq _) (by assumption)) (fcP rfl (fcP (fl (h_eq _) (by assumption)) (fcP rfl (fcP (fl (h_eq _) (by assumption)) (fcP (by decide) (fcP rfl (fcP (by decide) (fcP rfl (fcP (by decide) (fcP rfl (fcP (by decide) (fcP rfl (fcP (by decide) (fcP rfl (fcP (by decide) (fcP rfl (fcP (by decide) (fcP rfl (fcP rfl (fcP rfl (fcP rfl (fcP rfl (fcP rfl (fcP rfl (fcP (by decide) (fcP rfl (fcP (by decide +kernel) (fcP (by decide +kernel) (fcP rfl (fcP (by decide) (fcP rfl (fcP rfl (fcP (by decide) (fcP rfl (fcP (by decide +kernel) (fcP (by decide +kernel) (fcP rfl (fcP (by decide) (fcP rfl (fcP rfl (fcP (by decide) (fcP rfl (fcP (by decide +kernel) (fcP (by decide +kernel) (fcP rfl (fcP (by decide) (fcP rfl (fcP (by decide +kernel) (fcP (by decide +kernel) (fcP rfl (fcP rfl (fcP (Jvm.Free.Fl.noNaN64_no.mp (div_nn (by decide +kernel) (mx_ne _ (by decide)))) (fcP rfl (fcP (by decide +kernel) (fcP rfl (fcP rfl (fcP (by decide +kernel) (fcP rfl (fcP rfl (fcP (by decide +kernel) (fcP rfl (fcP (by decide +kernel) (fcP (by decide +kernel) (fcP (by decide +kernel) (fcP (by decide +kernel) (fcP (by decide +kernel) (fcP (by decide +kernel) (fcP (by decide +kernel) (fcP rfl (fcP (Jvm.Free.Fl.noNaN64_no.mp (div_nn (by decide +kernel) (mx_ne _ (by decide)))) (fcP (fin_ne (by decide +kernel) (div_nn (by decide +kernel) (mx_ne _ (by decide)))) (fnP)))))))))))))))))))))))))))))))))))))))))))))))))))))))))))))))))))))))))))))))))
          · by_cases pB4 : (i1 &&& ((Int8.ofInt (16)).toInt32)).toInt = 0
            · by_cases pB5 : (i1 &&& ((Int8.ofInt (32)).toInt32)).toInt = 0
              · refine Good.of (some ([false, false, false, true, false, false, false, false, false, true, false, true, false, false, false, false, false, false, false, true, false, false, true, true, false, false, false, true, false, false, false, false, false, true, false, true, true, true, false, true, false, false, true, true, true, false], [(6)])) rfl ?_
                simp only [List.nil_append, List.append_nil, List.cons_append]
                exact fcP (by decide) (fcP (by assumption) (fcP rfl (fcP (fl (h_eq _) (by assumption)) (fcP rfl (fcP (tr (h_eq _) (by assumption)) (fcP rfl (fcP (fl (h_eq _) (by assumption)) (fcP rfl (fcP (fl (h_eq _) (by assumption)) (fcP rfl (fcP (tr (h_eq _) (by assumption)) (fcP rfl (fcP (tr (h_eq _) (by assumption)) (fcP (by decide) (fcP rfl (fcP (by decide) (fcP rfl (fcP (by decide) (fcP rfl (fcP (by decide) (fcP rfl (fcP (by decide) (fcP rfl (fcP (by decide) (fcP rfl (fcP (by decide) (fcP rfl (fcP rfl (fcP rfl (fcP rfl (fcP rfl (fcP rfl (fcP rfl (fcP (by decide) (fcP rfl (fcP (by decide +kernel) (fcP (by decide +kernel) (fcP rfl (fcP (by decide) (fcP rfl (fcP rfl (fcP (by decide) (fcP rfl (fcP (by decide +kernel) (fcP (by decide +kernel) (fcP rfl (fcP (by decide) (fcP rfl (fcP (by decide +kernel) (fcP (by decide +kernel) (fcP rfl (fcP (by decide) (fcP rfl (fcP rfl (fcP (by decide) (fcP rfl (fcP rfl (fcP rfl (fcP (Jvm.Free.Fl.noNaN64_no.mp (div_nn (by decide +kernel) (mx_ne _ (by decide)))) (fcP rfl (fcP (by decide +kernel) (fcP rfl (fcP rfl (fcP (by decide +kernel) (fcP rfl (fcP (by decide +kernel) (fcP rfl (fcP rfl (fcP (by decide +kernel) (fcP (by decide +kernel) (fcP (by decide +kernel) (fcP (by decide +kernel) (fcP (by decide +kernel) (fcP (by decide +kernel) (fcP rfl (fcP (Jvm.Free.Fl.noNaN64_no.mp (div_nn (by decide +kernel) (mx_ne _ (by decide)))) (fcP (fin_ne (by decide +kernel) (div_nn (by decide +kernel) (mx_ne _ (by decide)))) (fnP))))))))))))))))))))))))))))))))))))))))))))))))))))))))))))))))))))))))))))))
              · refine Good.of (some ([false, false, false, true, false, false, false, false, false, true, false, false, false, false, false, false, false, false, false, true, false, false, true, false, false, false, false, true, false, false, false, false, false, true, false, false, true, true, false, true, false, false, true, false, true, false], [(6)])) rfl ?_
                simp only [List.nil_append, List.append_nil, List.cons_append]
                exact fcP (by decide) (fcP (by assumption) (fcP rfl (fcP (fl (h_eq _) (by assumption)) (fcP rfl (fcP (tr (h_eq _) (by assumption)) (fcP rfl (fcP (fl (h_eq _) (by assumption)) (fcP rfl (fcP (fl (h_eq _) (by assumption)) (fcP rfl (fcP (tr (h_eq _) (by assumption)) (fcP rfl (fcP (fl (h_eq _) (by assumption)) (fcP (by decide) (fcP rfl (fcP (by decide) (fcP rfl (fcP (by decide) (fcP rfl (fcP (by decide) (fcP rfl (fcP (by decide) (fcP rfl (fcP (by decide) (fcP rfl (fcP (by decide) (fcP rfl (fcP rfl (fcP rfl (fcP rfl (fcP rfl (fcP rfl (fcP rfl (fcP (by decide) (fcP rfl (fcP (by decide +kernel) (fcP (by decide +kernel) (fcP rfl (fcP (by decide) (fcP rfl (fcP rfl (fcP (by decide) (fcP rfl (fcP (by decide +kernel) (fcP (by decide +kernel) (fcP rfl (fcP (by decide) (fcP rfl (fcP (by decide +kernel) (fcP (by decide +kernel) (fcP rfl (fcP (by decide) (fcP rfl (fcP rfl (fcP (by decide) (fcP rfl (fcP (by decide +kernel) (fcP (by decide +kernel) (fcP rfl (fcP rfl (fcP (Jvm.Free.Fl.noNaN64_no.mp (div_nn (by decide +kernel) (mx_ne _ (by decide)))) (fcP rfl (fcP (by decide +kernel) (fcP rfl (fcP rfl (fcP (by decide +kernel) (fcP rfl (fcP (by decide +kernel) (fcP rfl (fcP rfl (fcP (by decide +kernel) (fcP (by decide +kernel) (fcP (by decide +kernel) (fcP (by decide +kernel) (fcP (by decide +kernel) (fcP (by decide +kernel) (fcP (by decide +kernel) (fcP rfl (fcP (Jvm.Free.Fl.noNaN64_no.mp (div_nn (by decide +kernel) (mx_ne _ (by decide)))) (fcP (fin_ne (by decide +kernel) (div_nn (by decide +kernel) (mx_ne _ (by decide)))) (fnP)))))))))))))))))))))))))))))))))))))))))))))))))))))))))))))))))))))))))))))))))
            · by_cases pB5 : (i1 &&& ((Int8.ofInt (32)).toInt32)).toInt = 0
              · refine Good.of (some ([false, false, false, true, false, false, false, false, false, false, false, true, false, false, false, false, false, false, false, true, false, false, false, true, false, false, false, true, false, false, false, false, false, false, false, true, true, true, false, true, false, false, false, true, true, false], [(6)])) rfl ?_
                simp only [List.nil_append, List.append_nil, List.cons_append]
                exact fcP (by decide) (fcP (by assumption) (fcP rfl (fcP (fl (h_eq _) (by assumption)) (fcP rfl (fcP (tr (h_eq _) (by assumption)) (fcP rfl (fcP (fl (h_eq _) (by assumption)) (fcP rfl (fcP (fl (h_eq _) (by assumption)) (fcP rfl (fcP (fl (h_eq _) (by assumption)) (fcP rfl (fcP (tr (h_eq _) (by assumption)) (fcP (by decide) (fcP rfl (fcP (by decide) (fcP rfl (fcP (by decide) (fcP rfl (fcP (by decide) (fcP rfl (fcP (by decide) (fcP rfl (fcP (by decide) (fcP rfl (fcP (by decide) (fcP rfl (fcP rfl (fcP rfl (fcP rfl (fcP rfl (fcP rfl (fcP rfl (fcP (by decide) (fcP rfl (fcP (by decide +kernel) (fcP (by decide +kernel) (fcP rfl (fcP (by decide) (fcP rfl (fcP rfl (fcP (by decide) (fcP rfl (fcP (by decide +kernel) (fcP (by decide +kernel) (fcP rfl (fcP (by decide) (fcP rfl (fcP (by decide +kernel) (fcP (by decide +kernel) (fcP rfl (fcP (by decide) (fcP rfl (fcP (by decide +kernel) (fcP (by decide +kernel) (fcP rfl (fcP (by decide) (fcP rfl (fcP rfl (fcP rfl (fcP (Jvm.Free.Fl.noNaN64_no.mp (div_nn (by decide +kernel) (mx_ne _ (by decide)))) (fcP rfl (fcP (by decide +kernel) (fcP rfl (fcP rfl (fcP (by decide +kernel) (fcP rfl (fcP (by decide +kernel) (fcP rfl (fcP (by decide +kernel) (fcP rfl (fcP (by decide +kernel) (fcP (by decide +kernel) (fcP (by decide +kernel) (fcP (by decide +kernel) (fcP (by decide +kernel) (fcP (by decide +kernel) (fcP rfl (fcP (Jvm.Free.Fl.noNaN64_no.mp (div_nn (by decide +kernel) (mx_ne _ (by decide)))) (fcP (fin_ne (by decide +kernel) (div_nn (by decide +kernel) (mx_ne _ (by decide)))) (fnP)))))))))))))))))))))))))))))))))))))))))))))))))))))))))))))))))))))))))))))))))
              · refine Good.of (some ([false, false, false, true, false, false, false, false, false, false, false, false, false, false, false, false, false, false, false, true, false, false, false, false, false, false, false, true, false, false, false, false, false, false, false, false, true, true, false, true, false, false, false, false, true, false], [(6)])) rfl ?_
                simp only [List.nil_append, List.append_nil, List.cons_append]
                exact fcP (by decide) (fcP (by assumption) (fcP rfl (fcP (fl (h_eq _) (by assumption)) (fcP rfl (fcP (tr (h_eq _) (by assumption)) (fcP rfl (fcP (fl (h_eq _) (by assumption)) (fcP rfl (fcP (fl (h_eq _) (by assumption)) (fcP rfl (fcP (fl (h_eq _) (by assumption)) (fcP rfl (fcP (fl (h_eq _) (by assumption)) (fcP (by decide) (fcP rfl (fcP (by decide) (fcP rfl (fcP (by decide) (fcP rfl (fcP (by decide) (fcP rfl (fcP (by decide) (fcP rfl (fcP (by decide) (fcP rfl (fcP (by decide) (fcP rfl (fcP rfl (fcP rfl (fcP rfl (fcP rfl (fcP rfl (fcP rfl (fcP (by decide) (fcP rfl (fcP (by decide +kernel) (fcP (by decide +kernel) (fcP rfl (fcP (by decide) (fcP rfl (fcP rfl (fcP (by decide) (fcP rfl (fcP (by decide +kernel) (fcP (by decide +kernel) (fcP rfl (fcP (by decide) (fcP rfl (fcP (by decide +kernel) (fcP (by decide +kernel) (fcP rfl (fcP (by decide) (fcP rfl (fcP (by decide +kernel) (fcP (by decide +kernel) (fcP rfl (fcP (by decide) (fcP rfl (fcP (by decide +kernel) (fcP (by decide +kernel) (fcP rfl (fcP rfl (fcP (Jvm.Free.Fl.noNaN64_no.mp (div_nn (by decide +kernel) (mx_ne _ (by decide)))) (fcP rfl (fcP (by decide +kernel) (fcP rfl (fcP rfl (fcP (by decide +kernel) (fcP rfl (fcP (by decide +kernel) (fcP rfl (fcP (by decide +kernel) (fcP rfl (fcP (by decide +kernel) (fcP (by decide +kernel) (fcP (by decide +kernel) (fcP (by decide +kernel) (fcP (by decide +kernel) (fcP (by decide +kernel) (fcP (by decide +kernel) (fcP rfl (fcP (Jvm.Free.Fl.noNaN64_no.mp (div_nn (by decide +kernel) (mx_ne _ (by decide)))) (fcP (fin_ne (by decide +kernel) (div_nn (by decide +kernel) (mx_ne _ (by decide)))) (fnP))))))))))))))))))))))))))))))))))))))))))))))))))))))))))))))))))))))))))))))))))))
      · by_cases pB2 : (i1 &&& (Int32.ofInt (4))).toInt = 0
        · by_cases pB3 : (i1 &&& ((Int8.ofInt (8)).toInt32)).toInt = 0
          · by_cases pB4 : (i1 &&& ((Int8.ofInt (16)).toInt32)).toInt = 0
            · by_cases pB5 : (i1 &&& ((Int8.ofInt (32)).toInt32)).toInt = 0
              · refine Good.of (some ([false, false, false, false, false, true, false, true, false, true, false, true, false, false, false, false, false, false, false, false, true, true, true, true, false, false, false, false, false, true, false, true, false, true, false, true, true, true, false, false, true, true, true, true, true, false], [(6)])) rfl ?_
                simp only [List.nil_append, List.append_nil, List.cons_append]
                exact fcP (by decide) (fcP (by assumption) (fcP rfl (fcP (fl (h_eq _) (by assumption)) (fcP rfl (fcP (fl (h_eq _) (by assumption)) (fcP rfl (fcP (tr (h_eq _) (by assumption)) (fcP rfl (fcP (tr (h_eq _) (by assumption)) (fcP rfl (fcP (tr (h_eq _) (by assumption)) (fcP rfl (fcP (tr (h_eq _) (by assumption)) (fcP (by decide) (fcP rfl (fcP (by decide) (fcP rfl (fcP (by decide) (fcP rfl (fcP (by decide) (fcP rfl (fcP (by decide) (fcP rfl (fcP (by decide) (fcP rfl (fcP (by decide) (fcP rfl (fcP rfl (fcP rfl (fcP rfl (fcP rfl (fcP rfl (fcP rfl (fcP (by decide) (fcP rfl (fcP (by decide +kernel) (fcP (by decide +kernel) (fcP rfl (fcP (by decide) (fcP rfl (fcP (by decide +kernel) (fcP (by decide +kernel) (fcP rfl (fcP (by decide) (fcP rfl (fcP rfl (fcP (by decide) (fcP rfl (fcP rfl (fcP (by decide) (fcP rfl (fcP rfl (fcP (by decide) (fcP rfl (fcP rfl (fcP rfl (fcP (Jvm.Free.Fl.noNaN64_no.mp (div_nn (by decide +kernel) (mx_ne _ (by decide)))) (fcP rfl (fcP (by decide +kernel) (fcP rfl (fcP (by decide +kernel) (fcP rfl (fcP rfl (fcP rfl (fcP rfl (fcP (by decide +kernel) (fcP (by decide +kernel) (fcP (by decide +kernel) (fcP (by decide +kernel) (fcP (by decide +kernel) (fcP (by decide +kernel) (fcP rfl (fcP (Jvm.Free.Fl.noNaN64_no.mp (div_nn (by decide +kernel) (mx_ne _ (by decide)))) (fcP (fin_ne (by decide +kernel) (div_nn (by decide +kernel) (mx_ne _ (by decide)))) (fnP)))))))))))))))))))))))))))))))))))))))))))))))))))))))))))))))))))))))))))
              · refine Good.of (some ([false, false, false, false, false, true, false, true, false, true, false, false, false, false, false, false, false, false, false, false, true, true, true, false, false, false, false, false, false, true, false, true, false, true, false, false, true, true, false, false, true, true, true, false, true, false], [(6)])) rfl ?_
                simp only [List.nil_append, List.append_nil, List.cons_append]
                exact fcP (by decide) (fcP (by assumption) (fcP rfl (fcP (fl (h_eq _) (by assumption)) (fcP rfl (fcP (fl (h_eq _) (by assumption)) (fcP rfl (fcP (tr (h_eq _) (by assumption)) (fcP rfl (fcP (tr (h_eq _) (by assumption)) (fcP rfl (fcP (tr (h_eq _) (by assumption)) (fcP rfl (fcP (fl (h_eq _) (by assumption)) (fcP (by decide) (fcP rfl (fcP (by decide) (fcP rfl (fcP (by decide) (fcP rfl (fcP (by decide) (fcP rfl (fcP (by decide) (fcP rfl (fcP (by decide) (fcP rfl (fcP (by decide) (fcP rfl (fcP rfl (fcP rfl (fcP rfl (fcP rfl (fcP rfl (fcP rfl (fcP (by decide) (fcP rfl (fcP (by decide +kernel) (fcP (by decide +kernel) (fcP rfl (fcP (by decide) (fcP rfl (fcP (by decide +kernel) (fcP (by decide +kernel) (fcP rfl (fcP (by decide) (fcP rfl (fcP rfl (fcP (by decide) (fcP rfl (fcP rfl (fcP (by decide) (fcP rfl (fcP rfl (fcP (by decide) (fcP rfl (fcP (by decide +kernel) (fcP (by decide +kernel) (fcP rfl (fcP rfl (fcP (Jvm.Free.Fl.noNaN64_no.mp (div_nn (by decide +kernel) (mx_ne _ (by decide)))) (fcP rfl (fcP (by decide +kernel) (fcP rfl (fcP (by decide +kernel) (fcP rfl (fcP rfl (fcP rfl (fcP rfl (fcP (by decide +kernel) (fcP (by decide +kernel) (fcP (by decide +kernel) (fcP (by decide +kernel) (fcP (by decide +kernel) (fcP (by decide +kernel) (fcP (by decide +kernel) (fcP rfl (fcP (Jvm.Free.Fl.noNaN64_no.mp (div_nn (by decide +kernel) (mx_ne _ (by decide)))) (fcP (fin_ne (by decide +kernel) (div_nn (by decide +kernel) (mx_ne _ (by decide)))) (fnP))))))))))))))))))))))))))))))))))))))))))))))))))))))))))))))))))))))))))))))
            · by_cases pB5 : (i1 &&& ((Int8.ofInt (32)).toInt32)).toInt = 0
              · refine Good.of (some ([false, false, false, false, false, true, false, true, false, false, false, true, false, false, false, false, false, false, false, false, true, true, false, true, false, false, false, false, false, true, false, true, false, false, false, true, true, true, false, false, true, true, false, true, true, false], [(6)])) rfl ?_
                simp only [List.nil_append, List.append_nil, List.cons_append]
                exact fcP (by decide) (fcP (by assumption) (fcP rfl (fcP (fl (h_eq _) (by assumption)) (fcP rfl (fcP (fl (h_eq _) (by assumption)) (fcP rfl (fcP (tr (h_eq _) (by assumption)) (fcP rfl (fcP (tr (h_eq _) (by assumption)) (fcP rfl (fcP (fl (h_eq _) (by assumption)) (fcP rfl (fcP (tr (h_eq _) (by assumption)) (fcP (by decide) (fcP rfl (fcP (by decide) (fcP rfl (fcP (by decide) (fcP rfl (fcP (by decide) (fcP rfl (fcP (by decide) (fcP rfl (fcP (by decide) (fcP rfl (fcP (by decide) (fcP rfl (fcP rfl (fcP rfl (fcP rfl (fcP rfl (fcP rfl (fcP rfl (fcP (by decide) (fcP rfl (fcP (by decide +kernel) (fcP (by decide +kernel) (fcP rfl (fcP (by decide) (fcP rfl (fcP (by decide +kernel) (fcP (by decide +kernel) (fcP rfl (fcP (by decide) (fcP rfl (fcP rfl (fcP (by decide) (fcP rfl (fcP rfl (fcP (by decide) (fcP rfl (fcP (by decide +kernel) (fcP (by decide +kernel) (fcP rfl (fcP (by decide) (fcP rfl (fcP rfl (fcP rfl (fcP (Jvm.Free.Fl.noNaN64_no.mp (div_nn (by decide +kernel) (mx_ne _ (by decide)))) (fcP rfl (fcP (by decide +kernel) (fcP rfl (fcP (by decide +kernel) (fcP rfl (fcP rfl (fcP rfl (fcP (by decide +kernel) (fcP rfl (fcP (by decide +kernel) (fcP (by decide +kernel) (fcP (by decide +kernel) (fcP (by decide +kernel) (fcP (by decide +kernel) (fcP (by decide +kernel) (fcP rfl (fcP (Jvm.Free.Fl.noNaN64_no.mp (div_nn (by decide +kernel) (mx_ne _ (by decide)))) (fcP (fin_ne (by decide +kernel) (div_nn (by decide +kernel) (mx_ne _ (by decide)))) (fnP))))))))))))))))))))))))))))))))))))))))))))))))))))))))))))))))))))))))))))))
              · refine Good.of (some ([false, false, false, false, false, true, false, true, false, false, false, false, false, false, false, false, false, false, false, false, true, true, false, false, false, false, false, false, false, true, false, true, false, false, false, false, true, true, false, false, true, true, false, false, true, false], [(6)])) rfl ?_
                simp only [List.nil_append, List.append_nil, List.cons_append]
                exact fcP (by decide) (fcP (by assumption) (fcP rfl (fcP (fl (h_eq _) (by assumption)) (fcP rfl (fcP (fl (h_eq _) (by assumption)) (fcP rfl (fcP (tr (h_eq _) (by assumption)) (fcP rfl (fcP (tr (h_eq _) (by assumption)) (fcP rfl (fcP (fl (h_eq _) (by assumption)) (fcP rfl (fcP (fl (h_eq _) (by assumption)) (fcP (by decide) (fcP rfl (fcP (by decide) (fcP rfl (fcP (by decide) (fcP rfl (fcP (by decide) (fcP rfl (fcP (by decide) (fcP rfl (fcP (by decide) (fcP rfl (fcP (by decide) (fcP rfl (fcP rfl (fcP rfl (fcP rfl (fcP rfl (fcP rfl (fcP rfl (fcP (by decide) (fcP rfl (fcP (by decide +kernel) (fcP (by decide +kernel) (fcP rfl (fcP (by decide) (fcP rfl (fcP (by decide +kernel) (fcP (by decide +kernel) (fcP rfl (fcP (by decide) (fcP rfl (fcP rfl (fcP (by decide) (fcP rfl (fcP rfl (fcP (by decide) (fcP rfl (fcP (by decide +kernel) (fcP (by decide +kernel) (fcP rfl (fcP (by decide) (fcP rfl (fcP (by decide +kernel) (fcP (by decide +kernel) (fcP rfl (fcP rfl (fcP (Jvm.Free.Fl.noNaN64_no.mp (div_nn (by decide +kernel) (mx_ne _ (by decide)))) (fcP rfl (fcP (by decide +kernel) (fcP rfl (fcP (by decide +kernel) (fcP rfl (fcP rfl (fcP rfl (fcP (by decide +kernel) (fcP rfl (fcP (by decide +kernel) (fcP (by decide +kernel) (fcP (by decide +kernel) (fcP (by decide +kernel) (fcP (by decide +kernel) (fcP (by decide +kernel) (fcP (by decide +kernel) (fcP rfl (fcP (Jvm.Free.Fl.noNaN64_no.mp (div_nn (by decide +kernel) (mx_ne _ (by decide)))) (fcP (fin_ne (by decide +kernel) (div_nn (by decide +kernel) (mx_ne _ (by decide)))) (fnP)))))))))))))))))))))))))))))))))))))))))))))))))))))))))))))))))))))))))))))))))
          · by_cases pB4 : (i1 &&& ((Int8.ofInt (16)).toInt32)).toInt = 0
            · by_cases pB5 : (i1 &&& ((Int8.ofInt (32)).toInt32)).toInt = 0
              · refine Good.of (some ([false, false, false, false, false, true, false, false, false, true, false, true, false, false, false, false, false, false, false, false, true, false, true, true, false, false, false, false, false, true, false, false, false, true, false, true, true, true, false, false, true, false, true, true, true, false], [(6)])) rfl ?_
                simp only [List.nil_append, List.append_nil, List.cons_append]
                exact fcP (by decide) (fcP (by assumption) (fcP rfl (fcP (fl (h_eq _) (by assumption)) (fcP rfl (fcP (fl (h_eq _) (by assumption)) (fcP rfl (fcP (tr (h_eq _) (by assumption)) (fcP rfl (fcP (fl (h_eq _) (by assumption)) (fcP rfl (fcP (tr (h_eq _) (by assumption)) (fcP rfl (fcP (tr (h_eq _) (by assumption)) (fcP (by decide) (fcP rfl (fcP (by decide) (fcP rfl (fcP (by decide) (fcP rfl (fcP (by decide) (fcP rfl (fcP (by decide) (fcP rfl (fcP (by decide) (fcP rfl (fcP (by decide) (fcP rfl (fcP rfl (fcP rfl (fcP rfl (fcP rfl (fcP rfl (fcP rfl (fcP (by decide) (fcP rfl (fcP (by decide +kernel) (fcP (by decide +kernel) (fcP rfl (fcP (by decide) (fcP rfl (fcP (by decide +kernel) (fcP (by decide +kernel) (fcP rfl (fcP (by decide) (fcP rfl (fcP rfl (fcP (by decide) (fcP rfl (fcP (by decide +kernel) (fcP (by decide +kernel) (fcP rfl (fcP (by decide) (fcP rfl (fcP rfl (fcP (by decide) (fcP rfl (fcP rfl (fcP rfl (fcP (Jvm.Free.Fl.noNaN64_no.mp (div_nn (by decide +kernel) (mx_ne _ (by decide)))) (fcP rfl (fcP (by decide +kernel) (fcP rfl (fcP (by decide +kernel) (fcP rfl (fcP rfl (fcP (by decide +kernel) (fcP rfl (fcP rfl (fcP (by decide +kernel) (fcP (by decide +kernel) (fcP (by decide +kernel) (fcP (by decide +kernel) (fcP (by decide +kernel) (fcP (by decide +kernel) (fcP rfl (fcP (Jvm.Free.Fl.noNaN64_no.mp (div_nn (by decide +kernel) (mx_ne _ (by decide)))) (fcP (fin_ne (by decide +kernel) (div_nn (by decide +kernel) (mx_ne _ (by decide)))) (fnP))))))))))))))))))))))))))))))))))))))))))))))))))))))))))))))))))))))))))))))
              · refine Good.of (some ([false, false, false, false, false, true, false, false, false, true, false, false, false, false, false, false, false, false, false, false, true, false, true, false, false, false, false, false, false, true, false, false, false, true, false, false, true, true, false, false, true, false, true, false, true, false], [(6)])) rfl ?_
                simp only [List.nil_append, List.append_nil, List.cons_append]
                exact fcP (by decide) (fcP (by assumption) (fcP rfl (fcP (fl (h_eq _) (by assumption)) (fcP rfl (fcP (fl (h_eq _) (by assumption)) (fcP rfl (fcP (tr (h_eq _) (by assumption)) (fcP rfl (fcP (fl (h_eq _) (by assumption)) (fcP rfl (fcP (tr (h_eq _) (by assumption)) (fcP rfl (fcP (fl (h_eq _) (by assumption)) (fcP (by decide) (fcP rfl (fcP (by decide) (fcP rfl (fcP (by decide) (fcP rfl (fcP (by decide) (fcP rfl (fcP (by decide) (fcP rfl (fcP (by decide) (fcP rfl (fcP (by decide) (fcP rfl (fcP rfl (fcP rfl (fcP rfl (fcP rfl (fcP rfl (fcP rfl (fcP (by decide) (fcP rfl (fcP (by decide +kernel) (fcP (by decide +kernel) (fcP rfl (fcP (by decide) (fcP rfl (fcP (by decide +kernel) (fcP (by decide +kernel) (fcP rfl (fcP (by decide) (fcP rfl (fcP rfl (fcP (by decide) (fcP rfl (fcP (by decide +kernel) (fcP (by decide +kernel) (fcP rfl (fcP (by decide) (fcP rfl (fcP rfl (fcP (by decide) (fcP rfl (fcP (by decide +kernel) (fcP (by decide +kernel) (fcP rfl (fcP rfl (fcP (Jvm.Free.Fl.noNaN64_no.mp (div_nn (by decide +kernel) (mx_ne _ (by decide)))) (fcP rfl (fcP (by decide +kernel) (fcP rfl (fcP (by decide +kernel) (fcP rfl (fcP rfl (fcP (by decide +kernel) (fcP rfl (fcP rfl (fcP (by decide +kernel) (fcP (by decide +kernel) (fcP (by decide +kernel) (fcP (by decide +kernel) (fcP (by decide +kernel) (fcP (by decide +kernel) (fcP (by decide +kernel) (fcP rfl (fcP (Jvm.Free.Fl.noNaN64_no.mp (div_nn (by decide +kernel) (mx_ne _ (by decide)))) (fcP (fin_ne (by decide +kernel) (div_nn (by decide +kernel) (mx_ne _ (by decide)))) (fnP)))))))))))))))))))))))))))))))))))))))))))))))))))))))))))))))))))))))))))))))))
            · by_cases pB5 : (i1 &&& ((Int8.ofInt (32)).toInt32)).toInt = 0
              · refine Good.of (some ([false, false, false, false, false, true, false, false, false, false, false, true, false, false, false, false, false, false, false, false, true, false, false, true, false, false, false, false, false, true, false, false, false, false, false, true, true, true, false, false, true, false, false, true, true, false], [(6)])) rfl ?_
                simp only [List.nil_append, List.append_nil, List.cons_append]
                exact fcP (by decide) (fcP (by assumption) (fcP rfl (fcP (fl (h_eq _) (by assumption)) (fcP rfl (fcP (fl (h_eq _) (by assumption)) (fcP rfl (fcP (tr (h_eq _) (by assumption)) (fcP rfl (fcP (fl (h_eq _) (by assumption)) (fcP rfl (fcP (fl (h_eq _) (by assumption)) (fcP rfl (fcP (tr (h_eq _) (by assumption)) (fcP (by decide) (fcP rfl (fcP (by decide) (fcP rfl (fcP (by decide) (fcP rfl (fcP (by decide) (fcP rfl (fcP (by decide) (fcP rfl (fcP (by decide) (fcP rfl (fcP (by decide) (fcP rfl (fcP rfl (fcP rfl (fcP rfl (fcP rfl (fcP rfl (fcP rfl (fcP (by decide) (fcP rfl (fcP (by decide +kernel) (fcP (by decide +kernel) (fcP rfl (fcP (by decide) (fcP rfl (fcP (by decide +kernel) (fcP (by decide +kernel) (fcP rfl (fcP (by decide) (fcP rfl (fcP rfl (fcP (by decide) (fcP rfl (fcP (by decide +kernel) (fcP (by decide +kernel) (fcP rfl (fcP (by decide) (fcP rfl (fcP (by decide +kernel) (fcP (by decide +kernel) (fcP rfl (fcP (by decide) (fcP rfl (fcP rfl (fcP rfl (fcP (Jvm.Free.Fl.noNaN64_no.mp (div_nn (by decide +kernel) (mx_ne _ (by decide)))) (fcP rfl (fcP (by decide +kernel) (fcP rfl (fcP (by decide +kernel) (fcP rfl (fcP rfl (fcP (by decide +kernel) (fcP rfl (fcP (by decide +kernel) (fcP rfl (fcP (by decide +kernel) (fcP (by decide +kernel) (fcP (by decide +kernel) (fcP (by decide +kernel) (fcP (by decide +kernel) (fcP (by decide +kernel) (fcP rfl (fcP (Jvm.Free.Fl.noNaN64_no.mp (div_nn (by decide +kernel) (mx_ne _ (by decide)))) (fcP (fin_ne (by decide +kernel) (div_nn (by decide +kernel) (mx_ne _ (by decide)))) (fnP)))))))))))))))))))))))))))))))))))))))))))))))))))))))))))))))))))))))))))))))))
              · refine Good.of (some ([false, false, false, false, false, true, false, false, false, false, false, false, false, false, false, false, false, false, false, false, true, false, false, false, false, false, false, false, false, true, false, false, false, false, false, false, true, true, false, false, true, false, false, false, true, false], [(6)])) rfl ?_
                simp only [List.nil_append, List.append_nil, List.cons_append]
                exact fcP (by decide) (fcP (by assumption) (fcP rfl (fcP (fl (h_eq _) (by assumption)) (fcP rfl (fcP (fl (h_eq _) (by assumption)) (fcP rfl (fcP (tr (h_eq _) (by assumption)) (fcP rfl (fcP (fl (h_eq _) (by assumption)) (fcP rfl (fcP (fl (h_eq _) (by assumption)) (fcP rfl (fcP (fl (h_eq _) (by assumption)) (fcP (by decide) (fcP rfl (fcP (by decide) (fcP rfl (fcP (by decide) (fcP rfl (fcP (by decide) (fcP rfl (fcP (by decide) (fcP rfl (fcP (by decide) (fcP rfl (fcP (by decide) (fcP rfl (fcP rfl (fcP rfl (fcP rfl (fcP rfl (fcP rfl (fcP rfl (fcP (by decide) (fcP rfl (fcP (by decide +kernel) (fcP (by decide +kernel) (fcP rfl (fcP (by decide) (fcP rfl (fcP (by decide +kernel) (fcP (by decide +kernel) (fcP rfl (fcP (by decide) (fcP rfl (fcP rfl (fcP (by decide) (fcP rfl (fcP (by decide +kernel) (fcP (by decide +kernel) (fcP rfl (fcP (by decide) (fcP rfl (fcP (by decide +kernel) (fcP (by decide +kernel) (fcP rfl (fcP (by decide) (fcP rfl (fcP (by decide +kernel) (fcP (by decide +kernel) (fcP rfl (fcP rfl (fcP (Jvm.Free.Fl.noNaN64_no.mp (div_nn (by decide +kernel) (mx_ne _ (by decide)))) (fcP rfl (fcP (by decide +kernel) (fcP rfl (fcP (by decide +kernel) (fcP rfl (fcP rfl (fcP (by decide +kernel) (fcP rfl (fcP (by decide +kernel) (fcP rfl (fcP (by decide +kernel) (fcP (by decide +kernel) (fcP (by decide +kernel) (fcP (by decide +kernel) (fcP (by decide +kernel) (fcP (by decide +kernel) (fcP (by decide +kernel) (fcP rfl (fcP (Jvm.Free.Fl.noNaN64_no.mp (div_nn (by decide +kernel) (mx_ne _ (by decide)))) (fcP (fin_ne (by decide +kernel) (div_nn (by decide +kernel) (mx_ne _ (by decide)))) (fnP))))))))))))))))))))))))))))))))))))))))))))))))))))))))))))))))))))))))))))))))))))
        · by_cases pB3 : (i1 &&& ((Int8.ofInt (8)).toInt32)).toInt = 0
          · by_cases pB4 : (i1 &&& ((Int8.ofInt (16)).toInt32)).toInt = 0
            · by_cases pB5 : (i1 &&& ((Int8.ofInt (32)).toInt32)).toInt = 0
              · refine Good.of (some ([false, false, false, false, false, false, false, true, false, true, false, true, false, false, false, false, false, false, false, false, false, true, true, true, false, false, false, false, false, false, false, true, false, true, false, true, true, true, false, false, false, true, true, true, true, false], [(6)])) rfl ?_
                simp only [List.nil_append, List.append_nil, List.cons_append]
                exact fcP (by decide) (fcP (by assumption) (fcP rfl (fcP (fl (h_eq _) (by assumption)) (fcP rfl (fcP (fl (h_eq _) (by assumption)) (fcP rfl (fcP (fl (h_eq _) (by assumption)) (fcP rfl (fcP (tr (h_eq _) (by assumption)) (fcP rfl (fcP (tr (h_eq _) (by assumption)) (fcP rfl (fcP (tr (h_eq _) (by assumption)) (fcP (by decide) (fcP rfl (fcP (by decide) (fcP rfl (fcP (by decide) (fcP rfl (fcP (by decide) (fcP rfl (fcP (by decide) (fcP rfl (fcP (by decide) (fcP rfl (fcP (by decide) (fcP rfl (fcP rfl (fcP rfl (fcP rfl (fcP rfl (fcP rfl (fcP rfl (fcP (by decide) (fcP rfl (fcP (by decide +kernel) (fcP (by decide +kernel) (fcP rfl (fcP (by decide) (fcP rfl (fcP (by decide +kernel) (fcP (by decide +kernel) (fcP rfl (fcP (by decide) (fcP rfl (fcP (by decide +kernel) (fcP (by decide +kernel) (fcP rfl (fcP (by decide) (fcP rfl (fcP rfl (fcP (by decide) (fcP rfl (fcP rfl (fcP (by decide) (fcP rfl (fcP rfl (fcP rfl (fcP (Jvm.Free.Fl.noNaN64_no.mp (div_nn (by decide +kernel) (mx_ne _ (by decide)))) (fcP rfl (fcP (by decide +kernel) (fcP rfl (fcP (by decide +kernel) (fcP rfl (fcP (by decide +kernel) (fcP rfl (fcP rfl (fcP rfl (fcP (by decide +kernel) (fcP (by decide +kernel) (fcP (by decide +kernel) (fcP (by decide +kernel) (fcP (by decide +kernel) (fcP (by decide +kernel) (fcP rfl (fcP (Jvm.Free.Fl.noNaN64_no.mp (div_nn (by decide +kernel) (mx_ne _ (by decide)))) (fcP (fin_ne (by decide +kernel) (div_nn (by decide +kernel) (mx_ne _ (by decide)))) (fnP))))))))))))))))))))))))))))))))))))))))))))))))))))))))))))))))))))))))))))))
              · refine Good.of (some ([false, false, false, false, false, false, false, true, false, true, false, false, false, false, false, false, false, false, false, false, false, true, true, false, false, false, false, false, false, false, false, true, false, true, false, false, true, true, false, false, false, true, true, false, true, false], [(6)])) rfl ?_
                simp only [List.nil_append, List.append_nil, List.cons_append]
                exact fcP (by decide) (fcP (by assumption) (fcP rfl (fcP (fl (h_eq _) (by assumption)) (fcP rfl (fcP (fl (h_eq _) (by assumption)) (fcP rfl (fcP (fl (h_eq _) (by assumption)) (fcP rfl (fcP (tr (h_eq _) (by assumption)) (fcP rfl (fcP (tr (h_eq _) (by assumption)) (fcP rfl (fcP (fl (h_eq _) (by assumption)) (fcP (by decide) (fcP rfl (fcP (by decide) (fcP rfl (fcP (by decide) (fcP rfl (fcP (by decide) (fcP rfl (fcP (by decide) (fcP rfl (fcP (by decide) (fcP rfl (fcP (by decide) (fcP rfl (fcP rfl (fcP rfl (fcP rfl (fcP rfl (fcP rfl (fcP rfl (fcP (by decide) (fcP rfl (fcP (by decide +kernel) (fcP (by decide +kernel) (fcP rfl (fcP (by decide) (fcP rfl (fcP (by decide +kernel) (fcP (by decide +kernel) (fcP rfl (fcP (by decide) (fcP rfl (fcP (by decide +kernel) (fcP (by decide +kernel) (fcP rfl (fcP (by decide) (fcP rfl (fcP rfl (fcP (by decide) (fcP rfl (fcP rfl (fcP (by decide) (fcP rfl (fcP (by decide +kernel) (fcP (by decide +kernel) (fcP rfl (fcP rfl (fcP (Jvm.Free.Fl.noNaN64_no.mp (div_nn (by decide +kernel) (mx_ne _ (by decide)))) (fcP rfl (fcP (by decide +kernel) (fcP rfl (fcP (by decide +kernel) (fcP rfl (fcP (by decide +kernel) (fcP rfl (fcP rfl (fcP rfl (fcP (by decide +kernel) (fcP (by decide +kernel) (fcP (by decide +kernel) (fcP (by decide +kernel) (fcP (by decide +kernel) (fcP (by decide +kernel) (fcP (by decide +kernel) (fcP rfl (fcP (Jvm.Free.Fl.noNaN64_no.mp (div_nn (by decide +kernel) (mx_ne _ (by decide)))) (fcP (fin_ne (by decide +kernel) (div_nn (by decide +kernel) (mx_ne _ (by decide)))) (fnP)))))))))))))))))))))))))))))))))))))))))))))))))))))))))))))))))))))))))))))))))
            · by_cases pB5 : (i1 &&& ((Int8.ofInt (32)).toInt32)).toInt = 0
              · refine Good.of (some ([false, false, false, false, false, false, false, true, false, false, false, true, false, false, false, false, false, false, false, false, false, true, false, true, false, false, false, false, false, false, false, true, false, false, false, true, true, true, false, false, false, true, false, true, true, false], [(6)])) rfl ?_
                simp only [List.nil_append, List.append_nil, List.cons_append]
                exact fcP (by decide) (fcP (by assumption) (fcP rfl (fcP (fl (h_eq _) (by assumption)) (fcP rfl (fcP (fl (h_eq _) (by assumption)) (fcP rfl (fcP (fl (h_eq _) (by assumption)) (fcP rfl (fcP (tr (h_eq _) (by assumption)) (fcP rfl (fcP (fl (h_eq _) (by assumption)) (fcP rfl (fcP (tr (h_eq _) (by assumption)) (fcP (by decide) (fcP rfl (fcP (by decide) (fcP rfl (fcP (by decide) (fcP rfl (fcP (by decide) (fcP rfl (fcP (by decide) (fcP rfl (fcP (by decide) (fcP rfl (fcP (by decide) (fcP rfl (fcP rfl (fcP rfl (fcP rfl (fcP rfl (fcP rfl (fcP rfl (fcP (by decide) (fcP rfl (fcP (by decide +kernel) (fcP (by decide +kernel) (fcP rfl (fcP (by decide) (fcP rfl (fcP (by decide +kernel) (fcP (by decide +kernel) (fcP rfl (fcP (by decide) (fcP rfl (fcP (by decide +kernel) (fcP (by decide +kernel) (fcP rfl (fcP (by decide) (fcP rfl (fcP rfl (fcP (by decide) (fcP rfl (fcP (by decide +kernel) (fcP (by decide +kernel) (fcP rfl (fcP (by decide) (fcP rfl (fcP rfl (fcP rfl (fcP (Jvm.Free.Fl.noNaN64_no.mp (div_nn (by decide +kernel) (mx_ne _ (by decide)))) (fcP rfl (fcP (by decide +kernel) (fcP rfl (fcP (by decide +kernel) (fcP rfl (fcP (by decide +kernel) (fcP rfl (fcP rfl (fcP (by decide +kernel) (fcP rfl (fcP (by decide +kernel) (fcP (by decide +kernel) (fcP (by decide +kernel) (fcP (by decide +kernel) (fcP (by decide +kernel) (fcP (by decide +kernel) (fcP rfl (fcP (Jvm.Free.Fl.noNaN64_no.mp (div_nn (by decide +kernel) (mx_ne _ (by decide)))) (fcP (fin_ne (by decide +kernel) (div_nn (by decide +kernel) (mx_ne _ (by decide)))) (fnP)))))))))))))))))))))))))))))))))))))))))))))))))))))))))))))))))))))))))))))))))
              · refine Good.of (some ([false, false, false, false, false, false, false, true, false, false, false, false, false, false, false, false, false, false, false, false, false, true, false, false, false, false, false, false, false, false, false, true, false, false, false, false, true, true, false, false, false, true, false, false, true, false], [(6)])) rfl ?_
                simp only [List.nil_append, List.append_nil, List.cons_append]
                exact fcP (by decide) (fcP (by assumption) (fcP rfl (fcP (fl (h_eq _) (by assumption)) (fcP rfl (fcP (fl (h_eq _) (by assumption)) (fcP rfl (fcP (fl (h_eq _) (by assumption)) (fcP rfl (fcP (tr (h_eq _) (by assumption)) (fcP rfl (fcP (fl (h_eq _) (by assumption)) (fcP rfl (fcP (fl (h_eq _) (by assumption)) (fcP (by decide) (fcP rfl (fcP (by decide) (fcP rfl (fcP (by decide) (fcP rfl (fcP (by decide) (fcP rfl (fcP (by decide) (fcP rfl (fcP (by decide) (fcP rfl (fcP (by decide) (fcP rfl (fcP rfl (fcP rfl (fcP rfl (fcP rfl (fcP rfl (fcP rfl (fcP (by decide) (fcP rfl (fcP (by decide +kernel) (fcP (by decide +kernel) (fcP rfl (fcP (by decide) (fcP rfl (fcP (by decide +kernel) (fcP (by decide +kernel) (fcP rfl (fcP (by decide) (fcP rfl (fcP (by decide +kernel) (fcP (by decide +kernel) (fcP rfl (fcP (by decide) (fcP rfl (fcP rfl (fcP (by decide) (fcP rfl (fcP (by decide +kernel) (fcP (by decide +kernel) (fcP rfl (fcP (by decide) (fcP rfl (fcP (by decide +kernel) (fcP (by decide +kernel) (fcP rfl (fcP rfl (fcP (Jvm.Free.Fl.noNaN64_no.mp (div_nn (by decide +kernel) (mx_ne _ (by decide)))) (fcP rfl (fcP (by decide +kernel) (fcP rfl (fcP (by decide +kernel) (fcP rfl (fcP (by decide +kernel) (fcP rfl (fcP rfl (fcP (by decide +kernel) (fcP rfl (fcP (by decide +kernel) (fcP (by decide +kernel) (fcP (by decide +kernel) (fcP (by decide +kernel) (fcP (by decide +kernel) (fcP (by decide +kernel) (fcP (by decide +kernel) (fcP rfl (fcP (Jvm.Free.Fl.noNaN64_no.mp (div_nn (by decide +kernel) (mx_ne _ (by decide)))) (fcP (fin_ne (by decide +kernel) (div_nn (by decide +kernel) (mx_ne _ (by decide)))) (fnP))))))))))))))))))))))))))))))))))))))))))))))))))))))))))))))))))))))))))))))))))))
          · by_cases pB4 : (i1 &&& ((Int8.ofInt (16)).toInt32)).toInt = 0
            · by_cases pB5 : (i1 &&& ((Int8.ofInt (32)).toInt32)).toInt = 0
              · refine Good.of (some ([false, false, false, false, false, false, false, false, false, true, false, true, false, false, false, false, false, false, false, false, false, false, true, true, false, false, false, false, false, false, false, false, false, true, false, true, true, true, false, false, false, false, true, true, true, false], [(6)])) rfl ?_
                simp only [List.nil_append, List.append_nil, List.cons_append]
                exact fcP (by decide) (fcP (by assumption) (fcP rfl (fcP (fl (h_eq _) (by assumption)) (fcP rfl (fcP (fl (h_eq _) (by assumption)) (fcP rfl (fcP (fl (h_eq _) (by assumption)) (fcP rfl (fcP (fl (h_eq _) (by assumption)) (fcP rfl (fcP (tr (h_eq _) (by assumption)) (fcP rfl (fcP (tr (h_eq _) (by assumption)) (fcP (by decide) (fcP rfl (fcP (by decide) (fcP rfl (fcP (by decide) (fcP rfl (fcP (by decide) (fcP rfl (fcP (by decide) (fcP rfl (fcP (by decide) (fcP rfl (fcP (by decide) (fcP rfl (fcP rfl (fcP rfl (fcP rfl (fcP rfl (fcP rfl (fcP rfl (fcP (by decide) (fcP rfl (fcP (by decide +kernel) (fcP (by decide +kernel) (fcP rfl (fcP (by decide) (fcP rfl (fcP (by decide +kernel) (fcP (by decide +kernel) (fcP rfl (fcP (by decide) (fcP rfl (fcP (by decide +kernel) (fcP (by decide +kernel) (fcP rfl (fcP (by decide) (fcP rfl (fcP (by decide +kernel) (fcP (by decide +kernel) (fcP rfl (fcP (by decide) (fcP rfl (fcP rfl (fcP (by decide) (fcP rfl (fcP rfl (fcP rfl (fcP (Jvm.Free.Fl.noNaN64_no.mp (div_nn (by decide +kernel) (mx_ne _ (by decide)))) (fcP rfl (fcP (by decide +kernel) (fcP rfl (fcP (by decide +kernel) (fcP rfl (fcP (by decide +kernel) (fcP rfl (fcP (by decide +kernel) (fcP rfl (fcP rfl (fcP (by decide +kernel) (fcP (by decide +kernel) (fcP (by decide +kernel) (fcP (by decide +kernel) (fcP (by decide +kernel) (fcP (by decide +kernel) (fcP rfl (fcP (Jvm.Free.Fl.noNaN64_no.mp (div_nn (by decide +kernel) (mx_ne _ (by decide)))) (fcP (fin_ne (by decide +kernel) (div_nn (by decide +kernel) (mx_ne _ (by decide)))) (fnP)))))))))))))))))))))))))))))))))))))))))))))))))))))))))))))))))))))))))))))))))
              · refine Good.of (some ([false, false, false, false, false, false, false, false, false, true, false, false, false, false, false, false, false, false, false, false, false, false, true, false, false, false, false, false, false, false, false, false, false, true, false, false, true, true, false, false, false, false, true, false, true, false], [(6)])) rfl ?_
                simp only [List.nil_append, List.append_nil, List.cons_append]
                exact fcP (by decide) (fcP (by assumption) (fcP rfl (fcP (fl (h_eq _) (by assumption)) (fcP rfl (fcP (fl (h_eq _) (by assumption)) (fcP rfl (fcP (fl (h_eq _) (by assumption)) (fcP rfl (fcP (fl (h_eq _) (by assumption)) (fcP rfl (fcP (tr (h_eq _) (by assumption)) (fcP rfl (fcP (fl (h_eq _) (by assumption)) (fcP (by decide) (fcP rfl (fcP (by decide) (fcP rfl (fcP (by decide) (fcP rfl (fcP (by decide) (fcP rfl (fcP (by decide) (fcP rfl (fcP (by decide) (fcP rfl (fcP (by decide) (fcP rfl (fcP rfl (fcP rfl (fcP rfl (fcP rfl (fcP rfl (fcP rfl (fcP (by decide) (fcP rfl (fcP (by decide +kernel) (fcP (by decide +kernel) (fcP rfl (fcP (by decide) (fcP rfl (fcP (by decide +kernel) (fcP (by decide +kernel) (fcP rfl (fcP (by decide) (fcP rfl (fcP (by decide +kernel) (fcP (by decide +kernel) (fcP rfl (fcP (by decide) (fcP rfl (fcP (by decide +kernel) (fcP (by decide +kernel) (fcP rfl (fcP (by decide) (fcP rfl (fcP rfl (fcP (by decide) (fcP rfl (fcP (by decide +kernel) (fcP (by decide +kernel) (fcP rfl (fcP rfl (fcP (Jvm.Free.Fl.noNaN64_no.mp (div_nn (by decide +kernel) (mx_ne _ (by decide)))) (fcP rfl (fcP (by decide +kernel) (fcP rfl (fcP (by decide +kernel) (fcP rfl (fcP (by decide +kernel) (fcP rfl (fcP (by decide +kernel) (fcP rfl (fcP rfl (fcP (by decide +kernel) (fcP (by decide +kernel) (fcP (by decide +kernel) (fcP (by decide +kernel) (fcP (by decide +kernel) (fcP (by decide +kernel) (fcP (by decide +kernel) (fcP rfl (fcP (Jvm.Free.Fl.noNaN64_no.mp (div_nn (by decide +kernel) (mx_ne _ (by decide)))) (fcP (fin_ne (by decide +kernel) (div_nn (by decide +kernel) (mx_ne _ (by decide)))) (fnP))))))))))))))))))))))))))))))))))))))))))))))))))))))))))))))))))))))))))))))))))))
            · by_cases pB5 : (i1 &&& ((Int8.ofInt (32)).toInt32)).toInt = 0
              · refine Good.of (some ([false, false, false, false, false, false, false, false, false, false, false, true, false, false, false, false, false, false, false, false, false, false, false, true, false, false, false, false, false, false, false, false, false, false, false, true, true, true, false, false, false, false, false, true, true, false], [(6)])) rfl ?_
                simp only [List.nil_append, List.append_nil, List.cons_append]
                exact fcP (by decide) (fcP (by assumption) (fcP rfl (fcP (fl (h_eq _) (by assumption)) (fcP rfl (fcP (fl (h_eq _) (by assumption)) (fcP rfl (fcP (fl (h_eq _) (by assumption)) (fcP rfl (fcP (fl (h_eq _) (by assumption)) (fcP rfl (fcP (fl (h_eq _) (by assumption)) (fcP rfl (fcP (tr (h_eq _) (by assumption)) (fcP (by decide) (fcP rfl (fcP (by decide) (fcP rfl (fcP (by decide) (fcP rfl (fcP (by decide) (fcP rfl (fcP (by decide) (fcP rfl (fcP (by decide) (fcP rfl (fcP (by decide) (fcP rfl (fcP rfl (fcP rfl (fcP rfl (fcP rfl (fcP rfl (fcP rfl (fcP (by decide) (fcP rfl (fcP (by decide +kernel) (fcP (by decide +kernel) (fcP rfl (fcP (by decide) (fcP rfl (fcP (by decide +kernel) (fcP (by decide +kernel) (fcP rfl (fcP (by decide) (fcP rfl (fcP (by decide +kernel) (fcP (by decide +kernel) (fcP rfl (fcP (by decide) (fcP rfl (fcP (by decide +kernel) (fcP (by decide +kernel) (fcP rfl (fcP (by decide) (fcP rfl (fcP (by decide +kernel) (fcP (by decide +kernel) (fcP rfl (fcP (by decide) (fcP rfl (fcP rfl (fcP rfl (fcP (Jvm.Free.Fl.noNaN64_no.mp (div_nn (by decide +kernel) (mx_ne _ (by decide)))) (fcP rfl (fcP (by decide +kernel) (fcP rfl (fcP (by decide +kernel) (fcP rfl (fcP (by decide +kernel) (fcP rfl (fcP (by decide +kernel) (fcP rfl (fcP (by decide +kernel) (fcP rfl (fcP (by decide +kernel) (fcP (by decide +kernel) (fcP (by decide +kernel) (fcP (by decide +kernel) (fcP (by decide +kernel) (fcP (by decide +kernel) (fcP rfl (fcP (Jvm.Free.Fl.noNaN64_no.mp (div_nn (by decide +kernel) (mx_ne _ (by decide)))) (fcP (fin_ne (by decide +kernel) (div_nn (by decide +kernel) (mx_ne _ (by decide)))) (fnP))))))))))))))))))))))))))))))))))))))))))))))))))))))))))))))))))))))))))))))))))))
              · refine Good.of (some ([false, false, false, false, false, false, false, false, false, false, false, false, false, false, false, false, false, false, false, false, false, false, false, false, false, false, false, false, false, false, false, false, false, false, false, false, true, true, false, false, false, false, false, false, true, false], [(6)])) rfl ?_
                simp only [List.nil_append, List.append_nil, List.cons_append]
                exact fcP (by decide) (fcP (by assumption) (fcP rfl (fcP (fl (h_eq _) (by assumption)) (fcP rfl (fcP (fl (h_eq _) (by assumption)) (fcP rfl (fcP (fl (h_eq _) (by assumption)) (fcP rfl (fcP (fl (h_eq _) (by assumption)) (fcP rfl (fcP (fl (h_eq _) (by assumption)) (fcP rfl (fcP (fl (h_eq _) (by assumption)) (fcP (by decide) (fcP rfl (fcP (by decide) (fcP rfl (fcP (by decide) (fcP rfl (fcP (by decide) (fcP rfl (fcP (by decide) (fcP rfl (fcP (by decide) (fcP rfl (fcP (by decide) (fcP rfl (fcP rfl (fcP rfl (fcP rfl (fcP rfl (fcP rfl (fcP rfl (fcP (by decide) (fcP rfl (fcP (by decide +kernel) (fcP (by decide +kernel) (fcP rfl (fcP (by decide) (fcP rfl (fcP (by decide +kernel) (fcP (by decide +kernel) (fcP rfl (fcP (by decide) (fcP rfl (fcP (by decide +kernel) (fcP (by decide +kernel) (fcP rfl (fcP (by decide) (fcP rfl (fcP (by decide +kernel) (fcP (by decide +kernel) (fcP rfl (fcP (by decide) (fcP rfl (fcP (by decide +kernel) (fcP (by decide +kernel) (fcP rfl (fcP (by decide) (fcP rfl (fcP (by decide +kernel) (fcP (by decide +kernel) (fcP rfl (fcP rfl (fcP (Jvm.Free.Fl.noNaN64_no.mp (div_nn (by decide +kernel) (mx_ne _ (by decide)))) (fcP rfl (fcP (by decide +kernel) (fcP rfl (fcP (by decide +kernel) (fcP rfl (fcP (by decide +kernel) (fcP rfl (fcP (by decide +kernel) (fcP rfl (fcP (by decide +kernel) (fcP rfl (fcP (by decide +kernel) (fcP (by decide +kernel) (fcP (by decide +kernel) (fcP (by decide +kernel) (fcP (by decide +kernel) (fcP (by decide +kernel) (fcP (by decide +kernel) (fcP rfl (fcP (Jvm.Free.Fl.noNaN64_no.mp (div_nn (by decide +kernel) (mx_ne _ (by decide)))) (fcP (fin_ne (by decide +kernel) (div_nn (by decide +kernel) (mx_ne _ (by decide)))) (fnP)))))))))))))))))))))))))))))))))))))))))))))))))))))))))))))))))))))))))))))))))))))))

set_option maxRecDepth 65536 in
set_option maxHeartbeats 40000000 in
theorem comes_1 {Post : Tables → Env → Array Value → State → Outcome → State → Prop} (hpost : ∀ tb e args s v u, (limb_1_1.after args s (.returned v) u = true ∧ limb_1_2.after args s (.returned v) u = true ∧ True) → FrameEnd s (.returned v) u (Jvm.fieldLocs frame_1_writes args s ++ Jvm.arrayLocs frame_1_arrays args s ++ Jvm.staticLocs frame_1_statics s) 16 128 → Post tb e args s (.returned v) u) :
    ArmFor flags0 classFile x code maxLocals ret World_1 tables_1 room_1 Calls_1 rest_1 Pre_1 Post := by
  intro l hfl _ _ p e ha hc hk s m args below hf hA hF happ hP
  obtain ⟨hcalls, hrest, hpre⟩ := hP
  obtain ⟨-, -, -, hnamed, -, -, -, hat⟩ := (Spec.applies_iff hf).mp happ
  obtain ⟨hg, hn⟩ := and_e (Cond.before_iff.mp (show (Jvm.Cond.and given_1 narrow_1).before args s = true from hpre))
  obtain ⟨h1, h2⟩ := and_e hg
  obtain ⟨q0, r0⟩ := and_e h2
  obtain ⟨q1, r1⟩ := and_e r0
  obtain ⟨w0, w1, w2, rfl⟩ : ∃ w0 w1 w2 : Value, args = #[w0, w1, w2] := by
    have hs : args.size = 3 := by simpa [Cond.value, given_1] using h1
    obtain ⟨L⟩ := args
    match L, hs with
    | [w0, w1, w2], _ => exact ⟨w0, w1, w2, rfl⟩
  have hw := fun d (hd : d ∈ tables_1) => atoms_spec (ws := Jvm.Cond.code x code maxLocals ret :: tables_1) hat d (List.mem_cons_of_mem _ hd)
  obtain ⟨i0, e0⟩ := is_v q0
  obtain rfl : w0 = (.int i0) := Option.some.inj e0
  obtain ⟨i1, e1⟩ := is_v q1
  obtain rfl : w1 = (.int i1) := Option.some.inj e1
  obtain ⟨i2, e2⟩ := is_v r1
  obtain rfl : w2 = (.int i2) := Option.some.inj e2

  obtain ⟨o1, o2, cs, A1, k1, n1, f1, w1, hrun, hcs, hk1, hn1, hf1, hw1⟩ := good i0 i1 i2
  have Rp := (Rep.start (Z := s) (kc := kc_) (Nat.le_refl s.heap.size) (fun _ => 0))
  have met := (run_sound (n0 := s.heap.size) (kok_ hw) (mok_ hw) fuel_).met (M := 0) (as := [.int i0, .int i1, .int i2]) hrun hcs (Nat.le_of_ble_eq_true rfl) pl_0 Rp (fc (trivial) (fc (trivial) (fc (trivial) (fn)))) l tables_1 room_1 hk1 hn1 hf1 hw1
  obtain ⟨n, o, h1, h2, h3, _, L, rfl, ⟨g1, rfl, -, N, -⟩, hq⟩ := met p e ha hc hk s m _ below hf ((Spec.applies_iff_loose hf).mp happ).1 ⟨rfl, State.Warmed39.refl s, rfl⟩ trivial
  refine ⟨n, _, h1, h2, h3, hpost _ _ _ _ _ _ ⟨Cond.after_iff.mpr rfl, Cond.after_iff.mpr (eq_i res_at (Term.int_eval (1)) rfl), trivial⟩ ⟨hq.1, hq.2.1, (hq.2.2.sift fun y hy => Or.inr (N y hy)).mono hk1 hn1⟩⟩
theorem main_1_1 : Claimed_1_1 := comes_1 fun _ _ _ _ _ _ h hF => ⟨h.1, hF⟩
theorem main_1_2 : Claimed_1_2 := comes_1 fun _ _ _ _ _ _ h hF => ⟨h.2.1, hF⟩
end Jvm.Pilot.@@N@@
namespace Jvm.Pilot.@@N@@
open Jvm Jvm.ClassFile Sem Op Lib Jvm.Free Jvm.Stand Jvm.Pilot.@@N@@.Jvm.D
/-! MADE BY PROGRAM (witnessworld.py) out of the Statement's table words and the real class files: 12 classes; the members and pool entries that the words name. The judged class is class 1, her method 1. -/
namespace start1
open Jvm.ClassFile
def u (s : String) : CpInfo := .utf8 (stringToUtf16 s)
/-- a pool by its gaps: so many unusable entries, then the entry; so many at the end -/
def gap : Nat → List CpInfo → List CpInfo
  | 0, r => r
  | n + 1, r => .unusable :: gap n r
def poolList (es : List (Nat × CpInfo)) (last : Nat) : List CpInfo := es.foldr (fun e r => gap e.1 (e.2 :: r)) (gap last [])
def pool (es : List (Nat × CpInfo)) (last : Nat) : Array CpInfo := ⟨poolList es last⟩
def fileOf (pool : Array CpInfo) (this : Nat) (attrs : Array Attribute := #[]) (ms : Array MethodInfo := #[]) (fl : Nat := 33) (sup : Nat := 0) (ifs : Array Nat := #[]) (fds : Array FieldInfo := #[]) : ClassFile where
  minorVersion := 0
  majorVersion := 65
  constantPool := pool
  accessFlags := fl
  thisClass := this
  superClass := sup
  interfaces := ifs
  fields := fds
  methods := ms
  attributes := attrs
def plain (name : String) (sup : Option ClassId) : Class where
  name := name
  kind := .ordinary
  loader := none
  accessFlags := 33
  super := sup
  interfaces := #[]
  cf := none
  fields := #[]
  methods := #[]
  instanceTypes := #[]
  staticTypes := #[]
  resolved := #[]
  callSites := []
  init := .initialized
  statics := none
  mirror := none

def pool0 : Array CpInfo := pool [(5, u "<init>"), (0, u "()V"), (1, .class_ 10), (1, u "java/lang/Object")] 113

def k0c0 : Code := { maxStack := 0, maxLocals := 1, code := object_method_1_code, exceptionTable := #[], attributes := #[] }
def k0m0 : Method := { name := "<init>", desc := "()V", sig := { parameters := [], returnType := none }, accessFlags := 1, code := some k0c0 }
/-- java/lang/Object -/
def k0 : Class := { plain "java/lang/Object" none with
  accessFlags := 33
  interfaces := #[]
  cf := some (fileOf pool0 8 #[] #[{ accessFlags := 1, nameIndex := 5, descriptorIndex := 6, attributes := #[] }] 33 0 #[] #[])
  fields := #[]
  methods := #[k0m0]
  instanceTypes := #[]
  staticTypes := #[]
  resolved := Array.replicate 124 none
  statics := none }

def pool1 : Array CpInfo := pool [(2, .class_ 4), (1, u "java/lang/Object"), (0, u "<init>"), (0, u "()V"), (0, .integer 2147483647), (0, .methodref 9 10), (0, .class_ 11), (0, .nameAndType 12 13), (0, u "java/lang/Math"), (0, u "max"), (0, u "(II)I"), (0, .class_ 15), (0, u "com/example/brendan/brendan/eval/JudgedRanking"), (0, .methodref 14 17), (0, .nameAndType 5 18), (0, u "([ZI)V"), (0, .methodref 14 20), (0, .nameAndType 21 22), (0, u "averagePrecision"), (0, u "()D"), (0, .double 4611686018427387904), (1, .double 4613937818241073152), (1, .double 4616189618054758400), (1, .double 4617315517961601024), (1, .double 4618441417868443648), (1, .class_ 34), (0, u "com/example/brendan/brendan/eval/JudgedRankingAveragePrecisionPinLaw"), (2, u "law"), (0, u "(III)Z")] 5

def k1m0 : Method := { name := "<init>", desc := "()V", sig := { parameters := [], returnType := none }, accessFlags := 1, code := none }
def k1c1 : Code := { maxStack := 4, maxLocals := 38, code := code, exceptionTable := #[], attributes := #[] }
def k1m1 : Method := { name := "law", desc := "(III)Z", sig := { parameters := [.int, .int, .int], returnType := some .boolean }, accessFlags := 9, code := some k1c1 }
/-- com/example/brendan/brendan/eval/JudgedRankingAveragePrecisionPinLaw -/
def k1 : Class := { plain "com/example/brendan/brendan/eval/JudgedRankingAveragePrecisionPinLaw" (some 0) with
  accessFlags := 49
  interfaces := #[]
  cf := some (fileOf pool1 33 #[] #[{ accessFlags := 1, nameIndex := 5, descriptorIndex := 6, attributes := #[] }, { accessFlags := 9, nameIndex := 37, descriptorIndex := 38, attributes := #[] }] 49 2 #[] #[])
  fields := #[]
  methods := #[k1m0, k1m1]
  instanceTypes := #[]
  staticTypes := #[]
  resolved := Array.replicate 44 none
  statics := none }

def pool2 : Array CpInfo := pool [(1, .class_ 2), (0, u "java/lang/Math"), (1, .class_ 6), (1, u "java/lang/Object"), (0, u "<init>"), (0, u "()V"), (89, .class_ 100), (1, u "java/lang/Math$RandomNumberGeneratorHolder"), (71, u "negativeZeroFloatBits"), (0, u "J"), (2, u "negativeZeroDoubleBits"), (21, u "max"), (46, u "$assertionsDisabled"), (0, u "Z"), (88, u "(II)I"), (2, u "twoToTheDoubleScaleDown"), (0, u "D"), (4, u "twoToTheDoubleScaleUp"), (9, u "E"), (3, u "PI"), (2, u "TAU"), (2, u "DEGREES_TO_RADIANS"), (0, u "RADIANS_TO_DEGREES")] 94

def k2m0 : Method := { name := "<init>", desc := "()V", sig := { parameters := [], returnType := none }, accessFlags := 2, code := none }
def k2c1 : Code := { maxStack := 2, maxLocals := 2, code := jdk_29_method_65_code, exceptionTable := #[], attributes := #[] }
def k2m1 : Method := { name := "max", desc := "(II)I", sig := { parameters := [.int, .int], returnType := some .int }, accessFlags := 9, code := some k2c1 }
/-- java/lang/Math -/
def k2 : Class := { plain "java/lang/Math" (some 0) with
  accessFlags := 49
  interfaces := #[]
  cf := some (fileOf pool2 1 #[.nestMembers #[98]] #[{ accessFlags := 2, nameIndex := 7, descriptorIndex := 8, attributes := #[] }, { accessFlags := 9, nameIndex := 198, descriptorIndex := 335, attributes := #[] }] 49 4 #[] #[{ accessFlags := 25, nameIndex := 354, descriptorIndex := 339, attributes := #[] }, { accessFlags := 25, nameIndex := 358, descriptorIndex := 339, attributes := #[] }, { accessFlags := 25, nameIndex := 361, descriptorIndex := 339, attributes := #[] }, { accessFlags := 26, nameIndex := 364, descriptorIndex := 339, attributes := #[] }, { accessFlags := 26, nameIndex := 365, descriptorIndex := 339, attributes := #[] }, { accessFlags := 26, nameIndex := 172, descriptorIndex := 173, attributes := #[] }, { accessFlags := 26, nameIndex := 176, descriptorIndex := 173, attributes := #[] }, { accessFlags := 8, nameIndex := 344, descriptorIndex := 339, attributes := #[] }, { accessFlags := 8, nameIndex := 338, descriptorIndex := 339, attributes := #[] }, { accessFlags := 4120, nameIndex := 245, descriptorIndex := 246, attributes := #[] }])
  fields := #[{ name := "E", type := .double, accessFlags := 25, slot := 0, constantValue := 0 }, { name := "PI", type := .double, accessFlags := 25, slot := 1, constantValue := 0 }, { name := "TAU", type := .double, accessFlags := 25, slot := 2, constantValue := 0 }, { name := "DEGREES_TO_RADIANS", type := .double, accessFlags := 26, slot := 3, constantValue := 0 }, { name := "RADIANS_TO_DEGREES", type := .double, accessFlags := 26, slot := 4, constantValue := 0 }, { name := "negativeZeroFloatBits", type := .long, accessFlags := 26, slot := 5, constantValue := 0 }, { name := "negativeZeroDoubleBits", type := .long, accessFlags := 26, slot := 6, constantValue := 0 }, { name := "twoToTheDoubleScaleUp", type := .double, accessFlags := 8, slot := 7, constantValue := 0 }, { name := "twoToTheDoubleScaleDown", type := .double, accessFlags := 8, slot := 8, constantValue := 0 }, { name := "$assertionsDisabled", type := .boolean, accessFlags := 4120, slot := 9, constantValue := 0 }]
  methods := #[k2m0, k2m1]
  instanceTypes := #[]
  staticTypes := #[.double, .double, .double, .double, .double, .long, .long, .double, .double, .boolean]
  resolved := Array.replicate 460 none
  statics := none }

def pool3 : Array CpInfo := pool [(1, .methodref 2 3), (0, .class_ 4), (0, .nameAndType 5 6), (0, u "java/lang/Object"), (0, u "<init>"), (0, u "()V"), (0, .fieldref 8 9), (0, .class_ 10), (0, .nameAndType 11 12), (0, u "com/example/brendan/brendan/eval/JudgedRanking"), (0, u "relevantAtRank"), (0, u "[Z"), (0, .fieldref 8 14), (0, .nameAndType 15 16), (0, u "relevant"), (0, u "I"), (23, u "([ZI)V"), (3, u "averagePrecision"), (0, u "()D")] 22

def k3c0 : Code := { maxStack := 2, maxLocals := 3, code := prog_10_method_1_code, exceptionTable := #[], attributes := #[] }
def k3m0 : Method := { name := "<init>", desc := "([ZI)V", sig := { parameters := [(.array .boolean), .int], returnType := none }, accessFlags := 0, code := some k3c0 }
def k3c1 : Code := { maxStack := 6, maxLocals := 5, code := prog_10_method_5_code, exceptionTable := #[], attributes := #[] }
def k3m1 : Method := { name := "averagePrecision", desc := "()D", sig := { parameters := [], returnType := some .double }, accessFlags := 1, code := some k3c1 }
/-- com/example/brendan/brendan/eval/JudgedRanking -/
def k3 : Class := { plain "com/example/brendan/brendan/eval/JudgedRanking" (some 0) with
  accessFlags := 49
  interfaces := #[]
  cf := some (fileOf pool3 8 #[] #[{ accessFlags := 0, nameIndex := 5, descriptorIndex := 40, attributes := #[] }, { accessFlags := 1, nameIndex := 44, descriptorIndex := 45, attributes := #[] }] 49 2 #[] #[{ accessFlags := 18, nameIndex := 11, descriptorIndex := 12, attributes := #[] }, { accessFlags := 18, nameIndex := 15, descriptorIndex := 16, attributes := #[] }])
  fields := #[{ name := "relevantAtRank", type := (.array .boolean), accessFlags := 18, slot := 0, constantValue := 0 }, { name := "relevant", type := .int, accessFlags := 18, slot := 1, constantValue := 0 }]
  methods := #[k3m0, k3m1]
  instanceTypes := #[(.array .boolean), .int]
  staticTypes := #[]
  resolved := Array.replicate 68 none
  statics := none }

def pool4 : Array CpInfo := pool [(1, u "java/lang/Cloneable"), (0, .class_ 1), (0, u "java/lang/Object"), (0, .class_ 3)] 3

/-- java/lang/Cloneable -/
def k4 : Class := { plain "java/lang/Cloneable" (some 0) with
  accessFlags := 1537
  interfaces := #[]
  cf := some (fileOf pool4 2 #[] #[] 1537 4 #[] #[])
  fields := #[]
  methods := #[]
  instanceTypes := #[]
  staticTypes := #[]
  resolved := Array.replicate 8 none
  statics := none }

def pool5 : Array CpInfo := pool [(1, u "java/io/Serializable"), (0, .class_ 1), (0, u "java/lang/Object"), (0, .class_ 3)] 3

/-- java/io/Serializable -/
def k5 : Class := { plain "java/io/Serializable" (some 0) with
  accessFlags := 1537
  interfaces := #[]
  cf := some (fileOf pool5 2 #[] #[] 1537 4 #[] #[])
  fields := #[]
  methods := #[]
  instanceTypes := #[]
  staticTypes := #[]
  resolved := Array.replicate 8 none
  statics := none }

/-- the primitive boolean -/
def k6 : Class := { plain "boolean" none with kind := .primitive 'Z', accessFlags := 0x411 }
/-- [Z -/
def k7 : Class := { plain "[Z" (some 0) with kind := .array 6 .boolean, interfaces := #[4, 5], accessFlags := 1041 }

/-- the primitive byte -/
def k8 : Class := { plain "byte" none with kind := .primitive 'B', accessFlags := 0x411 }
/-- [B -/
def k9 : Class := { plain "[B" (some 0) with kind := .array 8 .byte, interfaces := #[4, 5], accessFlags := 1041 }

/-- the primitive int -/
def k10 : Class := { plain "int" none with kind := .primitive 'I', accessFlags := 0x411 }
/-- [I -/
def k11 : Class := { plain "[I" (some 0) with kind := .array 10 .int, interfaces := #[4, 5], accessFlags := 1041 }

def heap : Heap := #[]
def classes : Array Class := #[k0, k1, k2, k3, k4, k5, k6, k7, k8, k9, k10, k11]
def interned : List (Array UInt16 × Addr) := []
def slotsUsed : Nat := 0
def theMethod : MethodId := ⟨1, 1⟩
def args0 : Array Value := #[.int 5, .int 6, .int 7]
def aboutOver (below : List Frame) : State where
  vm := { classes := classes, interned := interned.toArray }
  heap := heap
  slotsUsed := slotsUsed
  threads := #[{ frames := .invoking theMethod args0 :: below }]
def below0 : List Frame := [.native { method := ⟨0, 0⟩, args := #[] }]
def about1 : State := aboutOver below0
def p0 : Program := .bare "" "" ""
def e0 : Env := launch0.env 0 0 0
theorem w_frames : about1.frames = Frame.invoking theMethod args0 :: below0 := rfl
set_option maxRecDepth 65536 in
theorem w_args : argsFit about1.vm theMethod args0 = true := by decide +kernel
set_option maxRecDepth 65536 in
theorem w_heap : heapFits about1 = true := by decide +kernel
set_option maxRecDepth 65536 in
theorem w_runnable : about1.curStatus? = some .runnable := by decide +kernel
set_option maxRecDepth 65536 in
theorem w_alone : about1.alone = true := by decide +kernel
set_option maxRecDepth 65536 in
theorem w_named : about1.methodNamed? x = some theMethod := by decide +kernel
set_option maxRecDepth 65536 in
theorem w_hears : about1.hears theMethod below0 = true := by decide +kernel
set_option maxRecDepth 65536 in
theorem w_ripe : about1.ripe theMethod args0 below0 = true := by decide +kernel
theorem w_running : about1.status = .running := rfl
set_option maxRecDepth 65536 in
theorem w_room : about1.hasRoom e0.platform room_1 = true :=
  launch0.hasRoom_least _ room_1 (by decide +kernel) (by decide +kernel) (by decide +kernel) (by decide +kernel) (by decide +kernel) (by decide +kernel)
theorem allAtoms_all (ts : List Jvm.Cond) (a : Array Jvm.Value) (st : Jvm.State) : (allAtoms ts).before a st = ts.all (fun c => c.before a st) := by
  induction ts with
  | nil => rfl
  | cons c t ih =>
    show (Jvm.Cond.and c (allAtoms t)).before a st = _
    rw [Jvm.Cond.before_and, ih, List.all_cons]
def words1 : List Jvm.Cond := Jvm.Cond.code x code maxLocals ret :: tables_1
/-- a 'code' word, met by the world's own term for the bytes: nothing is compared byte by byte -/
theorem code_word {y : MethodName} {bytes : ByteArray} {mx : Nat} {rt : Option FieldType} {a : Array Value} {s : State} {m : MethodId} {meth : Method} {c : Code} (h1 : s.methodNamed? y = some m) (h2 : s.vm.method? m = some meth) (h3 : meth.code = some c) (h4 : c.code = bytes)
    (h5 : (c.maxLocals == mx && c.exceptionTable.isEmpty && decide (c.maxStack ≤ mostOperands) && decide (meth.sig.returnType = rt) && !meth.locks && decide (parseMethodDescriptor y.desc = some meth.sig)) = true) : (Jvm.Cond.code y bytes mx rt).before a s = true := by
  simp only [Bool.and_eq_true, beq_iff_eq, Bool.not_eq_true', decide_eq_true_eq] at h5
  obtain ⟨⟨⟨⟨⟨g1, g2⟩, g3⟩, g4⟩, g5⟩, g6⟩ := h5
  simp [Cond.before, Cond.holds, Cond.value, h1, h2, h3, h4, g1, g2, g3, g4, g5, g6]
def isCode : Jvm.Cond → Bool
  | .code _ _ _ _ => true
  | _ => false
theorem all_split {L : List Jvm.Cond} {P : Jvm.Cond → Bool} (h1 : L.all (fun c => isCode c || P c) = true) (h2 : ∀ c ∈ L.filter isCode, P c = true) : L.all P = true := by
  refine List.all_eq_true.mpr fun c hc => ?_
  have h := List.all_eq_true.mp h1 c hc
  rcases Bool.eq_false_or_eq_true (isCode c) with hi | hi
  · exact h2 c (List.mem_filter.mpr ⟨hc, hi⟩)
  · simpa [hi] using h
set_option maxRecDepth 65536 in
theorem w_c0 : (Jvm.Cond.code x code maxLocals ret).before args0 about1 = true := code_word (m := ⟨1, 1⟩) (meth := k1m1) (c := k1c1) (by decide +kernel) rfl rfl rfl (by decide +kernel)
set_option maxRecDepth 65536 in
theorem w_c1 : (Jvm.Cond.code ({ cls := "java/lang/Math", name := "max", desc := "(II)I" } : Jvm.MethodName) jdk_29_method_65_code (2 : Nat) (Option.some Jvm.ClassFile.FieldType.int)).before args0 about1 = true := code_word (m := ⟨2, 1⟩) (meth := k2m1) (c := k2c1) (by decide +kernel) rfl rfl rfl (by decide +kernel)
set_option maxRecDepth 65536 in
theorem w_c2 : (Jvm.Cond.code ({ cls := "com/example/brendan/brendan/eval/JudgedRanking", name := "<init>", desc := "([ZI)V" } : Jvm.MethodName) prog_10_method_1_code (3 : Nat) (Option.none : Option Jvm.ClassFile.FieldType)).before args0 about1 = true := code_word (m := ⟨3, 0⟩) (meth := k3m0) (c := k3c0) (by decide +kernel) rfl rfl rfl (by decide +kernel)
set_option maxRecDepth 65536 in
theorem w_c3 : (Jvm.Cond.code ({ cls := "java/lang/Object", name := "<init>", desc := "()V" } : Jvm.MethodName) object_method_1_code (1 : Nat) (Option.none : Option Jvm.ClassFile.FieldType)).before args0 about1 = true := code_word (m := ⟨0, 0⟩) (meth := k0m0) (c := k0c0) (by decide +kernel) rfl rfl rfl (by decide +kernel)
set_option maxRecDepth 65536 in
theorem w_c4 : (Jvm.Cond.code ({ cls := "com/example/brendan/brendan/eval/JudgedRanking", name := "averagePrecision", desc := "()D" } : Jvm.MethodName) prog_10_method_5_code (5 : Nat) (Option.some Jvm.ClassFile.FieldType.double)).before args0 about1 = true := code_word (m := ⟨3, 1⟩) (meth := k3m1) (c := k3c1) (by decide +kernel) rfl rfl rfl (by decide +kernel)
def codes1 : List Jvm.Cond := [Jvm.Cond.code x code maxLocals ret, Jvm.Cond.code ({ cls := "java/lang/Math", name := "max", desc := "(II)I" } : Jvm.MethodName) jdk_29_method_65_code (2 : Nat) (Option.some Jvm.ClassFile.FieldType.int), Jvm.Cond.code ({ cls := "com/example/brendan/brendan/eval/JudgedRanking", name := "<init>", desc := "([ZI)V" } : Jvm.MethodName) prog_10_method_1_code (3 : Nat) (Option.none : Option Jvm.ClassFile.FieldType), Jvm.Cond.code ({ cls := "java/lang/Object", name := "<init>", desc := "()V" } : Jvm.MethodName) object_method_1_code (1 : Nat) (Option.none : Option Jvm.ClassFile.FieldType), Jvm.Cond.code ({ cls := "com/example/brendan/brendan/eval/JudgedRanking", name := "averagePrecision", desc := "()D" } : Jvm.MethodName) prog_10_method_5_code (5 : Nat) (Option.some Jvm.ClassFile.FieldType.double)]
set_option maxRecDepth 65536 in
theorem codes_eq : words1.filter isCode = codes1 := rfl
theorem w_codes : ∀ c ∈ words1.filter isCode, c.before args0 about1 = true := by
  rw [codes_eq]
  intro c hc
  simp only [codes1, List.mem_cons, List.not_mem_nil, or_false] at hc
  rcases hc with rfl | rfl | rfl | rfl | rfl
  · exact w_c0
  · exact w_c1
  · exact w_c2
  · exact w_c3
  · exact w_c4
set_option maxRecDepth 65536 in
theorem w_t1 : (words1.take 24).all (fun c => isCode c || c.before args0 about1) = true := by decide +kernel
set_option maxRecDepth 65536 in
theorem w_t2 : (words1.drop 24).all (fun c => isCode c || c.before args0 about1) = true := by decide +kernel
theorem w_tables : (allAtoms (Jvm.Cond.code x code maxLocals ret :: tables_1)).before args0 about1 = true := by
  rw [allAtoms_all]
  show words1.all (fun c => c.before args0 about1) = true
  refine all_split ?_ w_codes
  rw [← List.take_append_drop 24 words1, List.all_append, w_t1, w_t2]
  rfl
set_option maxRecDepth 65536 in
theorem w_case : (Jvm.Cond.and given_1 narrow_1).before args0 about1 = true := by decide +kernel
theorem w_applies : (headSpec (Jvm.Cond.code x code maxLocals ret :: tables_1) room_1).applies x e0.platform about1 = true :=
  (Spec.applies_iff w_frames).mpr ⟨w_running, w_runnable, w_alone, w_named, w_hears, w_ripe, w_room, w_tables⟩
theorem atStart : AtStart classFile x code maxLocals ret World_1 tables_1 room_1 Calls_1 rest_1 Pre_1 launch0 p0 e0 about1 theMethod args0 below0 :=
  ⟨lists_1, trivial, launch0.admits_env _ _ _, launch0.least_env, fairChoices_fair.cas, fairChoices_fair.clock, w_frames, w_args, w_heap, w_applies, trivial, trivial, w_case⟩
end start1
theorem witness_1 : WitnessClaimed_1 := ⟨start1.p0, start1.e0, start1.about1, start1.theMethod, start1.args0, start1.below0, start1.atStart⟩
end Jvm.Pilot.@@N@@
