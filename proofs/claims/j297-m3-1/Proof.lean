import JvmDerived
import JvmDerived.Pilot.@@N@@Statement
import JvmDerived.Pilot.@@N@@Code
set_option linter.unusedVariables false
set_option linter.unusedSimpArgs false
@@BLOCK:NumsL.lean.txt@@
namespace Jvm.OwnM
open Jvm Jvm.ClassFile Sem Op Lib Jvm.Stand Jvm.Free Jvm.LawKit Jvm.RoadKit
/-! A small machine over made objects: values with references by number, objects by class number and field number. -/
abbrev Obj := (Nat × List (Nat × Value)) ⊕ (FieldType × List Value)
/-- pc, instruction, numbers, constant -/
abbrev Row := Nat × Instr × List Nat × Value
/-- name, local variables, return type, rows by sixteens -/
abbrev Mth := MethodName × Nat × Option FieldType × List (List Row)
abbrev FldE := String × String × String × FieldType
abbrev ClsE := String × Nat × List Nat
/-- fields, classes, methods, casts -/
abbrev Prog := List FldE × List ClsE × List Mth × List (String × String)
abbrev Alg := (Instr → List Value → Option Value) × (Instr → List Value → Option Bool)
abbrev Prog.F (P : Prog) : List FldE := P.1
abbrev Prog.C (P : Prog) : List ClsE := P.2.1
abbrev Prog.M (P : Prog) : List Mth := P.2.2.1
abbrev Prog.K (P : Prog) : List (String × String) := P.2.2.2
abbrev Mth.y (m : Mth) : MethodName := m.1
abbrev Mth.mx (m : Mth) : Nat := m.2.1
abbrev Mth.rt (m : Mth) : Option FieldType := m.2.2.1
abbrev Mth.rows (m : Mth) : List (List Row) := m.2.2.2
def findR : List Row → Nat → Option Row
  | [], _ => none
  | r :: rs, pc => bif Nat.beq r.1 pc then some r else findR rs pc
def Mth.at (m : Mth) (pc : Nat) : Option Row := findR (m.rows.getD (pc / 16) []) pc
/-- an instruction's length -/
def ln : Instr → Nat
  | .iload _ | .lload _ | .aload _ | .istore _ | .lstore _ | .astore _ | .bipush _ | .ldc _ | .newarray _ => 2
  | .sipush _ | .ldc_w _ | .ldc2_w _ | .iinc _ _ | .goto _ | .ifCond _ _ | .if_icmp _ _ | .if_acmp _ _ | .ifnull _ | .ifnonnull _ => 3
  | .getfield _ | .putfield _ | .getstatic _ | .new _ | .anewarray _ | .invokestatic _ | .invokespecial _ | .invokevirtual _ | .checkcast _ | .instanceof _ => 3
  | .invokeinterface _ _ => 5
  | _ => 1
/-- 0: reads alone; 1: writes or makes; 2: calls; 3: returns -/
def icl : Instr → Nat
  | .new _ | .newarray _ | .anewarray _ | .putfield _ | .iastore | .lastore | .aastore | .bastore => 1
  | .invokestatic _ | .invokespecial _ | .invokevirtual _ | .invokeinterface _ _ => 2
  | .ireturn | .lreturn | .areturn | .return_ => 3
  | _ => 0
/-! the real arithmetic -/
def raII (i : Instr) (x y : Int32) : Option Value := match i with
  | .iadd => some (.int (x + y))
  | .isub => some (.int (x - y))
  | .imul => some (.int (x * y))
  | .iand => some (.int (x &&& y))
  | .ior => some (.int (x ||| y))
  | .ixor => some (.int (x ^^^ y))
  | .ishl => some (.int (x <<< (y &&& 31)))
  | .ishr => some (.int (x >>> (y &&& 31)))
  | .iushr => some (.int (Jvm.Free.XT.ushr x y))
  | .idiv => if y = 0 then none else some (.int (x / y))
  | .irem => if y = 0 then none else some (.int (x % y))
  | .iinc _ _ => some (.int (x + y))
  | _ => none
def raI (i : Instr) (x : Int32) : Option Value := match i with
  | .ineg => some (.int (-x))
  | .i2b => some (.int x.toInt8.toInt32)
  | .i2c => some (.int x.toUInt32.toUInt16.toUInt32.toInt32)
  | .i2s => some (.int x.toInt16.toInt32)
  | .i2l => some (.long x.toInt64)
  | .nop | .newarray _ | .anewarray _ => some (.int x)
  | .iconst _ | .bipush _ | .sipush _ | .ldc _ | .ldc_w _ | .arraylength => some (.int x)
  | _ => none
def raLL (i : Instr) (x y : Int64) : Option Value := match i with
  | .ladd => some (.long (x + y))
  | .lsub => some (.long (x - y))
  | .lmul => some (.long (x * y))
  | .land => some (.long (x &&& y))
  | .lor => some (.long (x ||| y))
  | .lxor => some (.long (x ^^^ y))
  | .lcmp => some (.int (Jvm.Free.XT.cmpL x y))
  | _ => none
def raLI (i : Instr) (x : Int64) (y : Int32) : Option Value := match i with
  | .lshl => some (.long (x <<< (y.toInt64 &&& 63)))
  | .lshr => some (.long (x >>> (y.toInt64 &&& 63)))
  | .lushr => some (.long (Jvm.Free.XT.ushrL x y))
  | _ => none
def raL (i : Instr) (x : Int64) : Option Value := match i with
  | .lneg => some (.long (-x))
  | .l2i => some (.int x.toInt32)
  | .lconst _ | .ldc2_w _ => some (.long x)
  | _ => none
def raV (i : Instr) : List Value → Option Value
  | [.int x, .int y] => raII i x y
  | [.int x] => raI i x
  | [.long x, .long y] => raLL i x y
  | [.long x, .int y] => raLI i x y
  | [.long x] => raL i x
  | _ => none
def raB (i : Instr) : List Value → Option Bool
  | [.int x, .int y] => (match i with | .if_icmp cd _ => some (if_icmp.holds cd x y) | _ => none)
  | [.int x] => (match i with | .ifCond cd _ => some (ifCond.holds cd x) | _ => none)
  | _ => none
def RA : Alg := (raV, raB)
/-! helpers -/
def kd : Value → Nat
  | .int _ => 1
  | .long _ => 2
  | .null | .ref _ => 3
  | _ => 0
def lod (n : Nat) (ls : Array Slot) (k : Nat) : Option Value := match ls[k]? with
  | some (.val v) => bif Nat.beq (kd v) n then some v else none
  | _ => none
def op1 (A : Alg) (i : Instr) : List Value → Option (List Value)
  | x :: r => (match A.1 i [x] with | some v => some (v :: r) | none => none)
  | _ => none
def op2 (A : Alg) (i : Instr) : List Value → Option (List Value)
  | y :: x :: r => (match A.1 i [x, y] with | some v => some (v :: r) | none => none)
  | _ => none
def cst (A : Alg) (i : Instr) (v : Value) (st : List Value) : Option (List Value) := match A.1 i [v] with
  | some w => some (w :: st)
  | none => none
/-- a value that must be known: a length (i: newarray, anewarray), an index (i: nop) -/
def czN (A : Alg) (i : Instr) (v : Value) : Option Int32 := match A.1 i [v] with
  | some (.int j) => some j
  | _ => none
def cz (A : Alg) (v : Value) : Option Int32 := czN A .nop v
def sto (n : Nat) (ls : Array Slot) (k : Nat) : List Value → Option (Array Slot × List Value)
  | v :: r => bif Nat.beq (kd v) n then (match storeLocals ls k v with | some l' => some (l', r) | none => none) else none
  | _ => none
def gF : List (Nat × Value) → Nat → Option Value
  | [], _ => none
  | (k, v) :: r, f => bif Nat.beq k f then some v else gF r f
def sF : List (Nat × Value) → Nat → Value → List (Nat × Value)
  | [], _, _ => []
  | (k, w) :: r, f, v => bif Nat.beq k f then (k, v) :: r else (k, w) :: sF r f v
def objAt (mh : List Obj) (a : Nat) : Option (Nat × List (Nat × Value)) := match mh[a]? with
  | some (.inl o) => some o
  | _ => none
def arrAt (mh : List Obj) (a : Nat) : Option (FieldType × List Value) := match mh[a]? with
  | some (.inr o) => some o
  | _ => none
/-- an array's place, in its bounds -/
def place (A : Alg) (v : Value) (n : Nat) : Option Nat := match cz A v with
  | some j => if j < 0 then none else bif Nat.ble n j.toNatClampNeg then none else some j.toNatClampNeg
  | none => none
def ald (A : Alg) (ok : FieldType → Bool) (mh : List Obj) : List Value → Option (List Value)
  | j :: .ref a :: r => (match arrAt mh a with
    | some (ty, vs) => if ok ty then (match place A j vs.length with | some k => (match vs[k]? with | some v => bif Nat.beq (kd v) 0 then none else some (v :: r) | none => none) | none => none) else none
    | none => none)
  | _ => none
/-- what a store keeps, by the type -/
def narA (A : Alg) (t : FieldType) (v : Value) : Option Value := match t with
  | .boolean => A.1 .iand [v, .int 1]
  | .byte => A.1 .i2b [v]
  | .char => A.1 .i2c [v]
  | .short => A.1 .i2s [v]
  | .int => bif Nat.beq (kd v) 1 then some v else none
  | .long => bif Nat.beq (kd v) 2 then some v else none
  | .object _ | .array _ => bif Nat.beq (kd v) 3 then some v else none
  | _ => none
def jmp (aux : List Nat) : Option Nat := aux.head?
def br (b : Option Bool) (aux : List Nat) (nx : Nat) : Option Nat := match b with
  | some true => jmp aux
  | some false => some nx
  | none => none
def isNul : Value → Option Bool
  | .null => some true
  | .ref _ => some false
  | _ => none
def same (x y : Value) : Option Bool := bif Nat.beq (kd x) 3 && Nat.beq (kd y) 3 then some (decide (x = y)) else none
/-- an instruction that writes no object -/
def stepP (A : Alg) (i : Instr) (aux : List Nat) (cv : Value) (pc : Nat) (ls : Array Slot) (st : List Value) (mh : List Obj) : Option (Nat × Array Slot × List Value) :=
  match i with
  | .iload k => (match lod 1 ls k with | some v => some (pc + 2, ls, v :: st) | none => none)
  | .lload k => (match lod 2 ls k with | some v => some (pc + 2, ls, v :: st) | none => none)
  | .aload k => (match lod 3 ls k with | some v => some (pc + 2, ls, v :: st) | none => none)
  | .iload_n k => (match lod 1 ls k.val with | some v => some (pc + 1, ls, v :: st) | none => none)
  | .lload_n k => (match lod 2 ls k.val with | some v => some (pc + 1, ls, v :: st) | none => none)
  | .aload_n k => (match lod 3 ls k.val with | some v => some (pc + 1, ls, v :: st) | none => none)
  | .istore k => (match sto 1 ls k st with | some (l', r) => some (pc + 2, l', r) | none => none)
  | .lstore k => (match sto 2 ls k st with | some (l', r) => some (pc + 2, l', r) | none => none)
  | .astore k => (match sto 3 ls k st with | some (l', r) => some (pc + 2, l', r) | none => none)
  | .istore_n k => (match sto 1 ls k.val st with | some (l', r) => some (pc + 1, l', r) | none => none)
  | .lstore_n k => (match sto 2 ls k.val st with | some (l', r) => some (pc + 1, l', r) | none => none)
  | .astore_n k => (match sto 3 ls k.val st with | some (l', r) => some (pc + 1, l', r) | none => none)
  | .iconst c => (match cst A i (.int (Int32.ofInt c)) st with | some s => some (pc + 1, ls, s) | none => none)
  | .bipush c => (match cst A i (.int (Int8.ofInt c).toInt32) st with | some s => some (pc + 2, ls, s) | none => none)
  | .sipush c => (match cst A i (.int (Int16.ofInt c).toInt32) st with | some s => some (pc + 3, ls, s) | none => none)
  | .lconst k => (match cst A i (.long (Int64.ofNat k.val)) st with | some s => some (pc + 1, ls, s) | none => none)
  | .ldc _ => (match cst A i cv st with | some s => some (pc + 2, ls, s) | none => none)
  | .ldc_w _ => (match cst A i cv st with | some s => some (pc + 3, ls, s) | none => none)
  | .ldc2_w _ => (match cst A i cv st with | some s => some (pc + 3, ls, s) | none => none)
  | .aconst_null => some (pc + 1, ls, .null :: st)
  | .iadd | .isub | .imul | .iand | .ior | .ixor | .ishl | .ishr | .iushr | .idiv | .irem => (match op2 A i st with | some s => some (pc + 1, ls, s) | none => none)
  | .ladd | .lsub | .lmul | .land | .lor | .lxor | .lcmp | .lshl | .lshr | .lushr => (match op2 A i st with | some s => some (pc + 1, ls, s) | none => none)
  | .ineg | .i2b | .i2c | .i2s | .i2l | .lneg | .l2i => (match op1 A i st with | some s => some (pc + 1, ls, s) | none => none)
  | .iinc k c => (match lod 1 ls k with
    | some v => (match A.1 i [v, .int (Int32.ofInt c)] with
      | some w => (match sto 1 ls k [w] with | some (l', _) => some (pc + 3, l', st) | none => none)
      | none => none)
    | none => none)
  | .goto _ => (match jmp aux with | some t => some (t, ls, st) | none => none)
  | .ifCond _ _ => (match st with | x :: r => (match br (A.2 i [x]) aux (pc + 3) with | some t => some (t, ls, r) | none => none) | _ => none)
  | .if_icmp _ _ => (match st with | y :: x :: r => (match br (A.2 i [x, y]) aux (pc + 3) with | some t => some (t, ls, r) | none => none) | _ => none)
  | .ifnull _ => (match st with | x :: r => (match br (isNul x) aux (pc + 3) with | some t => some (t, ls, r) | none => none) | _ => none)
  | .ifnonnull _ => (match st with | x :: r => (match br ((isNul x).map (!·)) aux (pc + 3) with | some t => some (t, ls, r) | none => none) | _ => none)
  | .if_acmp .eq _ => (match st with | y :: x :: r => (match br (same x y) aux (pc + 3) with | some t => some (t, ls, r) | none => none) | _ => none)
  | .if_acmp .ne _ => (match st with | y :: x :: r => (match br ((same x y).map (!·)) aux (pc + 3) with | some t => some (t, ls, r) | none => none) | _ => none)
  | .dup => (match st with | x :: r => bif Nat.beq x.category 1 then some (pc + 1, ls, x :: x :: r) else none | _ => none)
  | .dup_x1 => (match st with | x :: y :: r => bif Nat.beq x.category 1 && Nat.beq y.category 1 then some (pc + 1, ls, x :: y :: x :: r) else none | _ => none)
  | .dup2 => (match st with | x :: y :: r => bif Nat.beq x.category 1 && Nat.beq y.category 1 then some (pc + 1, ls, x :: y :: x :: y :: r) else none | _ => none)
  | .pop => (match st with | x :: r => bif Nat.beq x.category 1 then some (pc + 1, ls, r) else none | _ => none)
  | .getfield _ => (match st with
    | .ref a :: r => (match objAt mh a with
      | some (_, fs) => (match aux.head? with | some f => (match gF fs f with | some v => some (pc + 3, ls, v :: r) | none => none) | none => none)
      | none => none)
    | _ => none)
  | .arraylength => (match st with
    | .ref a :: r => (match arrAt mh a with
      | some (_, vs) => (match A.1 i [.int vs.length.toInt32] with | some v => some (pc + 1, ls, v :: r) | none => none)
      | none => none)
    | _ => none)
  | .iaload => (match ald A (fun t => decide (t = .int)) mh st with | some s => some (pc + 1, ls, s) | none => none)
  | .laload => (match ald A (fun t => decide (t = .long)) mh st with | some s => some (pc + 1, ls, s) | none => none)
  | .baload => (match ald A (fun t => decide (t = .byte)) mh st with | some s => some (pc + 1, ls, s) | none => none)
  | .aaload => (match ald A (fun t => t.isReference) mh st with | some s => some (pc + 1, ls, s) | none => none)
  | _ => none
def dft (P : Prog) (f : Nat) : Value := match P.F[f]? with
  | some e => defaultValue e.2.2.2
  | none => .null
/-- a place that holds something -/
def okAt (vs : List Value) (k : Nat) : Bool := match vs[k]? with
  | some v => !Nat.beq (kd v) 0
  | none => false
def ast (A : Alg) (t : FieldType) (mh : List Obj) : List Value → Option (List Value × List Obj)
  | v :: j :: .ref a :: r => (match arrAt mh a with
    | some (ty, vs) => if ty = t then (match place A j vs.length, narA A t v with
      | some k, some w => bif okAt vs k then some (r, mh.set a (.inr (ty, vs.set k w))) else none
      | _, _ => none) else none
    | none => none)
  | _ => none
/-- may v stand in an array over C? -/
def okSt (P : Prog) (mh : List Obj) (C : String) : Value → Bool
  | .null => true
  | .ref y => (match objAt mh y with
    | some (cid, _) => (match P.C[cid]? with | some e => decide (e.1 = C) || P.K.any (fun q => decide (q = (e.1, C))) | none => false)
    | none => false)
  | _ => false
/-- an instruction that writes or makes -/
def stepH (P : Prog) (A : Alg) (i : Instr) (aux : List Nat) (st : List Value) (mh : List Obj) : Option (List Value × List Obj) :=
  match i with
  | .new _ => (match aux.head? with
    | some cid => (match P.C[cid]? with
      | some (_, _, fids) => some (.ref mh.length :: st, mh ++ [.inl (cid, fids.map fun f => (f, dft P f))])
      | none => none)
    | none => none)
  | .newarray aty => (match st with
    | v :: r => (match czN A i v with
      | some n => if n < 0 then none else bif Nat.ble n.toNatClampNeg 65536 then some (.ref mh.length :: r, mh ++ [.inr (newarray.typeOf aty, List.replicate n.toNatClampNeg (defaultValue (newarray.typeOf aty)))]) else none
      | none => none)
    | _ => none)
  | .anewarray _ => (match aux.head?, st with
    | some cid, v :: r => (match P.C[cid]?, czN A i v with
      | some e, some n => if n < 0 then none else bif Nat.ble n.toNatClampNeg 65536 then some (.ref mh.length :: r, mh ++ [.inr (.object e.1, List.replicate n.toNatClampNeg .null)]) else none
      | _, _ => none)
    | _, _ => none)
  | .putfield _ => (match st with
    | v :: .ref a :: r => (match objAt mh a, aux.head? with
      | some (cid, fs), some f => (match P.F[f]? with
        | some e => (match narA A e.2.2.2 v, gF fs f with
          | some w, some _ => some (r, mh.set a (.inl (cid, sF fs f w)))
          | _, _ => none)
        | none => none)
      | _, _ => none)
    | _ => none)
  | .iastore => ast A .int mh st
  | .lastore => ast A .long mh st
  | .bastore => ast A .byte mh st
  | .aastore => (match st with
    | v :: j :: .ref a :: r => (match arrAt mh a with
      | some (.object C, vs) => (match place A j vs.length with
        | some k => bif okSt P mh C v && okAt vs k then some (r, mh.set a (.inr (.object C, vs.set k v))) else none
        | none => none)
      | _ => none)
    | _ => none)
  | _ => none
def catS : List Value → Nat
  | [] => 0
  | v :: r => v.category + catS r
def entryL (vs : List Value) (n : Nat) : Array Slot := (Jvm.Sym.laidSlots vs ++ List.replicate (n - (Jvm.Sym.laidSlots vs).length) Slot.unset).toArray
/-- the method that a receiver's class selects: pairs of class and method -/
def selM : List Nat → Nat → Option Nat
  | c :: m :: r, cid => bif Nat.beq c cid then some m else selM r cid
  | _, _ => none
/-- the callee and the number of its arguments (the receiver among them) -/
def callee (i : Instr) (aux : List Nat) (st : List Value) (mh : List Obj) : Option (Nat × Nat) :=
  match i with
  | .invokestatic _ => (match aux with | [n, k] => some (k, n) | _ => none)
  | .invokespecial _ => (match aux with | [n, k] => (match st[n - 1]? with | some (.ref _) => bif Nat.ble 1 n then some (k, n) else none | _ => none) | _ => none)
  | .invokevirtual _ | .invokeinterface _ _ => (match aux with
    | n :: tb => (match st[n - 1]? with
      | some (.ref a) => (match objAt mh a with
        | some (cid, _) => (match selM tb cid with | some k => bif Nat.ble 1 n then some (k, n) else none | none => none)
        | none => none)
      | _ => none)
    | _ => none)
  | _ => none
/-- a value returned -/
def retV (A : Alg) (i : Instr) (rt : Option FieldType) (st : List Value) : Option (Option Value) := match i, rt, st with
  | .return_, none, [] => some none
  | .ireturn, some .int, v :: _ => (narA A .int v).map some
  | .ireturn, some .boolean, v :: _ => (narA A .boolean v).map some
  | .ireturn, some .char, v :: _ => (narA A .char v).map some
  | .lreturn, some .long, v :: _ => (narA A .long v).map some
  | .areturn, some (.object _), v :: _ => bif Nat.beq (kd v) 3 then some (some v) else none
  | .areturn, some (.array _), v :: _ => bif Nat.beq (kd v) 3 then some (some v) else none
  | _, _, _ => none
abbrev Rec := Nat → Nat → Mth → Nat → Array Slot → List Value → List Obj → Option (Option Value × List Obj)
/-- one step, and what comes behind it -/
def execB (P : Prog) (A : Alg) (next : Rec) (F Lc : Nat) (m : Mth) (pc : Nat) (ls : Array Slot) (st : List Value) (mh : List Obj) : Option (Option Value × List Obj) :=
  match m.at pc with
    | none => none
    | some (_, i, aux, cv) => match icl i with
      | 0 => (match stepP A i aux cv pc ls st mh with
        | some (pc', ls', st') => next F Lc m pc' ls' st' mh
        | none => none)
      | 1 => (match stepH P A i aux st mh with
        | some (st', mh') => next F Lc m (pc + ln i) ls st' mh'
        | none => none)
      | 2 => (match aux with
        | [] => (match st with
          | .ref _ :: r => bif Nat.ble 1 F && Nat.ble (catS r + 12) Lc then next F Lc m (pc + 3) ls r mh else none
          | _ => none)
        | _ => (match callee i aux st mh with
          | some (k, na) => (match P.M[k]? with
            | some m' => bif Nat.ble 1 F && Nat.ble (catS (st.drop na) + (m'.mx + 11)) Lc && Nat.ble na st.length && Nat.beq (entryL (st.take na).reverse m'.mx).size m'.mx then
                (match next (F - 1) (Lc - (catS (st.drop na) + (m'.mx + 11))) m' 0 (entryL (st.take na).reverse m'.mx) [] mh with
                | some (v, mh1) => next F Lc m (pc + ln i) ls (v.toList ++ st.drop na) mh1
                | none => none) else none
            | none => none)
          | none => none))
      | _ => (match retV A i m.rt st with
        | some v => some (v, mh)
        | none => none)
/-- the machine: fuel, frames and words of stack that are left -/
def exec (P : Prog) (A : Alg) : Nat → Rec
  | 0 => fun _ _ _ _ _ _ _ => none
  | n + 1 => execB P A (exec P A n)
end Jvm.OwnM
namespace Jvm.OwnM
open Jvm Jvm.ClassFile Sem Op Lib Jvm.Stand Jvm.Free Jvm.LawKit Jvm.RoadKit
/-! ## what a program of the machine must be, over the sheet's words ws -/
def hasW (ws : List Jvm.Cond) (w : Jvm.Cond) : Bool := ws.any (fun d => decide (d = w))
theorem hasW_mem {ws : List Jvm.Cond} {w : Jvm.Cond} (h : hasW ws w = true) : w ∈ ws := by
  obtain ⟨d, hd, e⟩ := List.any_eq_true.mp h
  exact of_decide_eq_true e ▸ hd
def linkF (ws : List Jvm.Cond) (own : String) (k : Nat) (O n d : String) : Bool := ws.any (fun w => match w with
  | .fieldLink o i r n' d' => decide (o = own) && decide (i = k) && decide (n' = n) && decide (d' = d) && (decide (r = O) || hasW ws (.sameField r O n d))
  | _ => false)
def notMH (y : MethodName) : Bool := decide (y.cls ≠ "java/lang/invoke/MethodHandle") && decide (y.cls ≠ "java/lang/invoke/VarHandle")
def paramsOk (d : String) (n : Nat) : Bool := match parseMethodDescriptor d with
  | some sig => Nat.beq sig.parameters.length n
  | none => false
def nthC (P : Prog) (k : Nat) : String := match P.C[k]? with | some e => e.1 | none => ""
def nthN (P : Prog) (k : Nat) : Nat := match P.C[k]? with | some e => e.2.1 | none => 0
/-- a virtual call's table: each class and the method that it selects -/
def okV (ws : List Jvm.Cond) (P : Prog) (r : MethodName) : List Nat → Bool
  | [] => true
  | [_] => false
  | c :: k :: tb => (match P.M[k]? with
      | some m' => hasW ws (.instanceMethod m'.y) && ((hasW ws (.declares r) && hasW ws (.selects r.cls r r) && hasW ws (.selects (nthC P c) r m'.y)) || (decide (m'.y = r) && decide (nthC P c = r.cls) && hasW ws (.privateMethod r) && hasW ws (.instantiable (nthC P c) (nthN P c))))
      | none => false) && okV ws P r tb
def linkV (ws : List Jvm.Cond) (P : Prog) (own : String) (k n : Nat) (tb : List Nat) : Bool := ws.any (fun w => match w with
  | .methodLink o i r => decide (o = own) && decide (i = k) && notMH r && paramsOk r.desc (n - 1) && okV ws P r tb
  | _ => false)
def okLink (ws : List Jvm.Cond) (P : Prog) (own mn : String) (pc : Nat) (i : Instr) (aux : List Nat) (cv : Value) : Bool :=
  match i with
  | .goto o | .ifCond _ o | .if_icmp _ o | .if_acmp _ o | .ifnull o | .ifnonnull o => (match aux with | [t] => decide ((pc : Int) + o = (t : Int)) | _ => false)
  | .ldc k | .ldc_w k => (match cv with | .int v => hasW ws (.constant own k v) | _ => false)
  | .ldc2_w k => (match cv with | .long v => hasW ws (.constantLong own k v) | _ => false)
  | .getfield k => (match aux with
    | [f] => (match P.F[f]? with | some e => linkF ws own k e.1 e.2.1 e.2.2.1 | none => false)
    | _ => false)
  | .putfield k => (match aux with
    | [f] => (match P.F[f]? with
      | some e => linkF ws own k e.1 e.2.1 e.2.2.1 && P.C.all (fun ce => !(ce.2.2.any (fun g => Nat.beq g f)) || hasW ws (.lays ce.1 e.1 e.2.1 e.2.2.1) || (hasW ws (.laysFinal ce.1 e.1 e.2.1 e.2.2.1) && decide (own = e.1) && decide (mn = "<init>")))
      | none => false)
    | _ => false)
  | .new k => (match aux with
    | [c] => (match P.C[c]? with | some e => hasW ws (.classLink own k e.1) && hasW ws (.instantiable e.1 e.2.1) && hasW ws (.initialized e.1) | none => false)
    | _ => false)
  | .newarray t => hasW ws (.arrayClass (newarray.typeOf t))
  | .anewarray k => (match aux with
    | [c] => (match P.C[c]? with | some e => hasW ws (.classLink own k e.1) && hasW ws (.arrayOver (.object e.1)) | none => false)
    | _ => false)
  | .invokestatic k => (match aux with
    | [n, q] => (match P.M[q]? with | some m' => hasW ws (.methodLink own k m'.y) && hasW ws (.static m'.y) && notMH m'.y && paramsOk m'.y.desc n | none => false)
    | _ => false)
  | .invokespecial k => (match aux with
    | [] => hasW ws (.methodLink own k Lib.objectInit) && hasW ws (.instanceMethod Lib.objectInit) && hasW ws (.code Lib.objectInit ⟨#[0xb1]⟩ 1 none)
    | [n, q] => (match P.M[q]? with | some m' => hasW ws (.methodLink own k m'.y) && hasW ws (.instanceMethod m'.y) && notMH m'.y && decide (m'.y.name = "<init>") && decide (m'.rt = none) && paramsOk m'.y.desc (n - 1) | none => false)
    | _ => false)
  | .invokevirtual k => (match aux with
    | n :: tb => linkV ws P own k n tb
    | _ => false)
  | .invokeinterface _ _ => false
  | _ => true
def okRow (ws : List Jvm.Cond) (P : Prog) (own mn : String) (bs : ByteArray) (r : Row) : Bool :=
  (match decode bs r.1 with
  | .ok (i, n) => decide (i = r.2.1) && Nat.beq n (ln r.2.1)
  | .error _ => false) && okLink ws P own mn r.1 r.2.1 r.2.2.1 r.2.2.2
def okM (ws : List Jvm.Cond) (P : Prog) (m : Mth) (bs : ByteArray) : Bool := plainFor m.y && m.rows.all (fun rs => rs.all (okRow ws P m.y.cls m.y.name bs))
def codeOf (ws : List Jvm.Cond) (y : MethodName) (mx : Nat) (rt : Option FieldType) : Option ByteArray := ws.findSome? (fun w => match w with
  | .code y' bs mx' rt' => if y' = y ∧ mx' = mx ∧ rt' = rt then some bs else none
  | _ => none)
def okC (ws : List Jvm.Cond) (P : Prog) (ce : ClsE) : Bool :=
  (ce.2.2.isEmpty || hasW ws (.instantiable ce.1 ce.2.1)) && ce.2.2.all (fun f => match P.F[f]? with
    | some e => (hasW ws (.lays ce.1 e.1 e.2.1 e.2.2.1) || hasW ws (.laysFinal ce.1 e.1 e.2.1 e.2.2.1)) && decide (parseFieldDescriptor e.2.2.1 = some e.2.2.2)
    | none => false) && ce.2.2.all (fun f => ce.2.2.all (fun g => Nat.beq f g || (match P.F[f]?, P.F[g]? with | some e, some e' => decide (e.2.1 ≠ e'.2.1) | _, _ => false)))
def okP (ws : List Jvm.Cond) (P : Prog) : Bool :=
  P.M.all (fun m => match codeOf ws m.y m.mx m.rt with | some bs => okM ws P m bs && hasW ws (.initialized m.y.cls) | none => false) && P.C.all (okC ws P) && P.K.all (fun q => hasW ws (.castable q.1 q.2))
theorem codeOf_mem {ws : List Jvm.Cond} {y : MethodName} {mx : Nat} {rt : Option FieldType} {bs : ByteArray} (h : codeOf ws y mx rt = some bs) : Jvm.Cond.code y bs mx rt ∈ ws := by
  obtain ⟨w, hw, e⟩ := List.exists_of_findSome?_eq_some h
  cases w <;> simp only [reduceCtorEq] at e
  rename_i y' bs' mx' rt'
  split at e
  · rename_i q; obtain ⟨rfl, rfl, rfl⟩ := q; cases e; exact hw
  · cases e
theorem findR_mem {rs : List Row} {pc : Nat} {r : Row} (h : findR rs pc = some r) : r ∈ rs ∧ r.1 = pc := by
  induction rs with
  | nil => cases h
  | cons a t ih =>
    simp only [findR] at h
    cases hb : Nat.beq a.1 pc
    · rw [hb] at h; obtain ⟨h1, h2⟩ := ih h; exact ⟨List.mem_cons_of_mem _ h1, h2⟩
    · rw [hb] at h; cases h; exact ⟨List.mem_cons_self .., Nat.eq_of_beq_eq_true hb⟩
theorem at_ok {ws : List Jvm.Cond} {P : Prog} {m : Mth} {bs : ByteArray} {pc : Nat} {r : Row} (h : okM ws P m bs = true) (hr : m.at pc = some r) : r.1 = pc ∧ okRow ws P m.y.cls m.y.name bs r = true := by
  obtain ⟨h1, h2⟩ := findR_mem hr
  refine ⟨h2, ?_⟩
  have h3 := (Bool.and_eq_true_iff.mp h).2
  have h4 : m.rows.getD (pc / 16) [] ∈ m.rows := by
    rw [List.getD_eq_getElem?_getD] at h1 ⊢
    cases q : m.rows[pc / 16]? with
    | none => rw [q] at h1; cases h1
    | some x => exact List.mem_of_getElem? q
  exact List.all_eq_true.mp (List.all_eq_true.mp h3 _ h4) _ h1
theorem row_dec {ws : List Jvm.Cond} {P : Prog} {own mn : String} {bs : ByteArray} {r : Row} (h : okRow ws P own mn bs r = true) : decode bs r.1 = .ok (r.2.1, ln r.2.1) ∧ okLink ws P own mn r.1 r.2.1 r.2.2.1 r.2.2.2 = true := by
  obtain ⟨h1, h2⟩ := Bool.and_eq_true_iff.mp h
  refine ⟨?_, h2⟩
  split at h1
  · rename_i i n e
    obtain ⟨q1, q2⟩ := Bool.and_eq_true_iff.mp h1
    rw [e, of_decide_eq_true q1, Nat.eq_of_beq_eq_true q2]
  · cases h1
/-! ## values, slots, heaps: the machine's and the JVM's -/
def tv (b : Nat) : Value → Value
  | .ref a => .ref (b + a)
  | v => v
def mS (f : Value → Value) : Slot → Slot
  | .val v => .val (f v)
  | s => s
abbrev tS (b : Nat) : Slot → Slot := mS (tv b)
theorem tv_cat (b : Nat) (v : Value) : (tv b v).category = v.category := by cases v <;> rfl
theorem tv_inj {b : Nat} {x y : Value} : tv b x = tv b y ↔ x = y := by cases x <;> cases y <;> simp [tv]
theorem tv_null {b : Nat} {x : Value} : tv b x = .null ↔ x = .null := by cases x <;> simp [tv]
theorem tv_of_kd {b : Nat} {v : Value} (h : kd v ≠ 3) : tv b v = v := by cases v <;> first | rfl | exact absurd rfl h
theorem kd_int {v : Value} (h : kd v = 1) : ∃ x, v = .int x := by cases v <;> first | exact ⟨_, rfl⟩ | cases h
theorem kd_long {v : Value} (h : kd v = 2) : ∃ x, v = .long x := by cases v <;> first | exact ⟨_, rfl⟩ | cases h
theorem kd_ref {b : Nat} {v : Value} (h : kd v = 3) : (tv b v).isRef = true := by cases v <;> first | rfl | cases h
theorem tv_dft (b : Nat) (t : FieldType) : tv b (defaultValue t) = defaultValue t := by cases t <;> rfl
theorem setAt_map {f : Value → Value} {l : Array Slot} {i : Nat} {x : Slot} {l' : Array Slot} (h : setAt l i x = some l') : setAt (l.map (mS f)) i (mS f x) = some (l'.map (mS f)) := by
  have e : ∀ (l : Array Slot), setAt l i x = if i < l.size then some (l.setIfInBounds i x) else none := fun _ => rfl
  have e' : ∀ (l : Array Slot) (x : Slot), setAt l i x = if i < l.size then some (l.setIfInBounds i x) else none := fun _ _ => rfl
  rw [e] at h; rw [e', Array.size_map]
  split at h
  · cases h; rename_i q; rw [if_pos q]; simp
  · cases h
theorem setAt_size {l : Array Slot} {i : Nat} {x : Slot} {l' : Array Slot} (h : setAt l i x = some l') : l'.size = l.size := by
  have e : setAt l i x = if i < l.size then some (l.setIfInBounds i x) else none := rfl
  rw [e] at h
  split at h
  · cases h; simp
  · cases h
theorem self_map {f : Value → Value} (hf : ∀ v, (f v).category = v.category) {l : Array Slot} {i : Nat} {v : Value} {l' : Array Slot} (h : storeSelf l i v = some l') : storeSelf (l.map (mS f)) i (f v) = some (l'.map (mS f)) ∧ l'.size = l.size := by
  have e : ∀ (l : Array Slot) (v : Value), storeSelf l i v = (setAt l i (.val v)).bind fun l => if v.category = 2 then (l[i + 1]?).bind fun x => (match x with
    | .val old => if old.category = 2 then (setAt l (i + 2) .unset).bind fun l => setAt l (i + 1) .second else setAt l (i + 1) .second
    | _ => setAt l (i + 1) .second) else some l := fun _ _ => rfl
  rw [e] at h ⊢
  rw [hf]
  cases h1 : setAt l i (.val v) with
  | none => rw [h1] at h; cases h
  | some l1 =>
    have m1 := setAt_map (f := f) h1
    have z1 := setAt_size h1
    rw [show mS f (.val v) = .val (f v) from rfl] at m1
    rw [h1] at h; rw [m1]
    simp only [Option.bind_some] at h ⊢
    split at h
    · rename_i c2
      rw [if_pos c2, Array.getElem?_map]
      cases h2 : l1[i + 1]? with
      | none => rw [h2] at h; cases h
      | some x =>
        rw [h2] at h
        simp only [Option.bind_some, Option.map_some] at h ⊢
        cases x with
        | unset => exact ⟨setAt_map (f := f) h, (setAt_size h).trans z1⟩
        | second => exact ⟨setAt_map (f := f) h, (setAt_size h).trans z1⟩
        | val old =>
          simp only [mS, hf] at h ⊢
          split at h
          · rename_i c3
            rw [if_pos c3]
            cases h3 : setAt l1 (i + 2) .unset with
            | none => rw [h3] at h; cases h
            | some l2 =>
              have m3 : setAt (l1.map (mS f)) (i + 2) .unset = some (l2.map (mS f)) := setAt_map (f := f) h3
              rw [h3] at h; rw [m3]
              exact ⟨setAt_map (f := f) h, ((setAt_size h).trans (setAt_size h3)).trans z1⟩
          · rename_i c3
            rw [if_neg c3]
            exact ⟨setAt_map (f := f) h, (setAt_size h).trans z1⟩
    · rename_i c2
      rw [if_neg c2]
      cases h
      exact ⟨rfl, z1⟩
theorem storeM {f : Value → Value} (hf : ∀ v, (f v).category = v.category) {l : Array Slot} {i : Nat} {v : Value} {l' : Array Slot} (h : storeLocals l i v = some l') : storeLocals (l.map (mS f)) i (f v) = some (l'.map (mS f)) ∧ l'.size = l.size := by
  have e : ∀ (l : Array Slot) (v : Value), storeLocals l i v = (l[i]?).bind fun x => (match x with
    | .second => (setAt l (i - 1) .unset).bind fun l => storeSelf l i v
    | .val old => if old.category = 2 then (setAt l (i + 1) .unset).bind fun l => storeSelf l i v else storeSelf l i v
    | .unset => storeSelf l i v) := fun _ _ => rfl
  rw [e] at h ⊢
  rw [Array.getElem?_map]
  cases h2 : l[i]? with
  | none => rw [h2] at h; cases h
  | some x =>
    rw [h2] at h
    simp only [Option.bind_some, Option.map_some] at h ⊢
    cases x with
    | unset => exact self_map hf h
    | second =>
      simp only [mS] at h ⊢
      cases h3 : setAt l (i - 1) .unset with
      | none => rw [h3] at h; cases h
      | some l2 =>
        have m3 : setAt (l.map (mS f)) (i - 1) .unset = some (l2.map (mS f)) := setAt_map (f := f) h3
        rw [h3] at h; rw [m3]
        have q := self_map hf h
        exact ⟨q.1, q.2.trans (setAt_size h3)⟩
    | val old =>
      simp only [mS, hf] at h ⊢
      split at h
      · rename_i c3
        rw [if_pos c3]
        cases h3 : setAt l (i + 1) .unset with
        | none => rw [h3] at h; cases h
        | some l2 =>
          have m3 : setAt (l.map (mS f)) (i + 1) .unset = some (l2.map (mS f)) := setAt_map (f := f) h3
          rw [h3] at h; rw [m3]
          have q := self_map hf h
          exact ⟨q.1, q.2.trans (setAt_size h3)⟩
      · rename_i c3
        rw [if_neg c3]
        exact self_map hf h
theorem store_map {b : Nat} {l : Array Slot} {i : Nat} {v : Value} {l' : Array Slot} (h : storeLocals l i v = some l') : storeLocals (l.map (tS b)) i (tv b v) = some (l'.map (tS b)) ∧ l'.size = l.size := storeM (tv_cat b) h
theorem laidM {f : Value → Value} (hf : ∀ v, (f v).category = v.category) : ∀ vs : List Value, Jvm.Sym.laidSlots (vs.map f) = (Jvm.Sym.laidSlots vs).map (mS f)
  | [] => rfl
  | v :: vs => by
    have e : ∀ (v : Value) (vs : List Value), Jvm.Sym.laidSlots (v :: vs) = if v.category = 2 then .val v :: .second :: Jvm.Sym.laidSlots vs else .val v :: Jvm.Sym.laidSlots vs := fun _ _ => rfl
    rw [List.map_cons, e, e, hf, laidM hf vs]
    split <;> rfl
theorem entry_map (b : Nat) (vs : List Value) (n : Nat) : Jvm.Sym.laidSlots (vs.map (tv b)) ++ List.replicate (n - (Jvm.Sym.laidSlots (vs.map (tv b))).length) .unset = ((entryL vs n).map (tS b)).toList := by
  rw [laidM (tv_cat b), List.length_map]
  simp [entryL, mS]
theorem entryM {f : Value → Value} (hf : ∀ v, (f v).category = v.category) (vs : List Value) (n : Nat) : entryL (vs.map f) n = (entryL vs n).map (mS f) := by
  simp [entryL, laidM hf, mS]
theorem gF_sF {f g : Nat} {w : Value} : ∀ {fs : List (Nat × Value)} {v : Value}, gF (sF fs f w) g = some v → (g = f ∧ v = w) ∨ (g ≠ f ∧ gF fs g = some v)
  | [], v, h => by cases h
  | (k, u) :: r, v, h => by
    simp only [sF] at h
    cases hb : Nat.beq k f
    · rw [hb] at h
      simp only [cond_false, gF] at h
      cases hg : Nat.beq k g
      · rw [hg] at h
        simp only [cond_false] at h
        rcases gF_sF h with q | q
        · exact Or.inl q
        · refine Or.inr ⟨q.1, ?_⟩; simp only [gF, hg, cond_false]; exact q.2
      · rw [hg] at h
        cases Nat.eq_of_beq_eq_true hg
        refine Or.inr ⟨fun e => (by subst e; rw [hg] at hb; cases hb), ?_⟩
        simp only [gF, hg]; exact h
    · rw [hb] at h
      simp only [cond_true, gF] at h
      have ek : k = f := Nat.eq_of_beq_eq_true hb
      subst ek
      cases hg : Nat.beq k g
      · rw [hg] at h
        refine Or.inr ⟨fun e => (by subst e; rw [hb] at hg; cases hg), ?_⟩
        simp only [gF, hg]; exact h
      · rw [hg] at h
        cases Nat.eq_of_beq_eq_true hg
        cases h
        exact Or.inl ⟨rfl, rfl⟩
theorem sF_keys {f : Nat} {w : Value} : ∀ fs : List (Nat × Value), (sF fs f w).map Prod.fst = fs.map Prod.fst
  | [] => rfl
  | (k, u) :: r => by
    simp only [sF]
    cases hb : Nat.beq k f
    · simp only [cond_false, List.map_cons, sF_keys r]
    · rfl
theorem gF_mem {f : Nat} : ∀ {fs : List (Nat × Value)} {v : Value}, gF fs f = some v → (f, v) ∈ fs
  | [], v, h => by cases h
  | (k, u) :: r, v, h => by
    simp only [gF] at h
    cases hb : Nat.beq k f
    · rw [hb] at h; exact List.mem_cons_of_mem _ (gF_mem h)
    · rw [hb] at h; cases h; cases Nat.eq_of_beq_eq_true hb; exact List.mem_cons_self ..
/-- an object of the machine, and the cell that it stands for -/
def RO (Z : State) (P : Prog) (b : Nat) (h : Heap) (a : Nat) : Obj → Prop
  | .inl (cid, fs) => ∃ ce, P.C[cid]? = some ce ∧ fs.map Prod.fst = ce.2.2 ∧ Exa Z h (b + a) ce.1 ∧ ∀ f v, gF fs f = some v → ∃ fe, P.F[f]? = some fe ∧ Fld Z h (b + a) fe.1 fe.2.1 fe.2.2.1 (tv b v)
  | .inr (ty, vs) => ∃ c : Cell, Arr Z h (b + a) c ty ∧ c.slots = (vs.map (tv b)).toArray ∧ ∀ C, ty = .object C → Ovr Z c.cls C
def Rel (Z : State) (P : Prog) (b : Nat) (h : Heap) (mh : List Obj) : Prop := h.size = b + mh.length ∧ ∀ a o, mh[a]? = some o → RO Z P b h a o
theorem RO.other {Z : State} {P : Prog} {b : Nat} {h h' : Heap} {a a' sl : Nat} {v : Value} {o : Obj} (W : Wr h h' (b + a) sl v) (ne : a' ≠ a) (X : RO Z P b h a' o) : RO Z P b h' a' o := by
  have ne' : b + a' ≠ b + a := by omega
  rcases o with ⟨cid, fs⟩ | ⟨ty, vs⟩
  · obtain ⟨ce, h1, h2, h3, h4⟩ := X
    refine ⟨ce, h1, h2, h3.wr W, fun f w q => ?_⟩
    obtain ⟨fe, g1, g2⟩ := h4 f w q
    exact ⟨fe, g1, g2.other W (Or.inl ne')⟩
  · obtain ⟨c, h1, h2, h3⟩ := X
    exact ⟨c, h1.other W ne', h2, h3⟩
theorem RO.ext {Z : State} {P : Prog} {b : Nat} {h h' : Heap} {a : Nat} {o : Obj} (E : Ext h h') (X : RO Z P b h a o) : RO Z P b h' a o := by
  rcases o with ⟨cid, fs⟩ | ⟨ty, vs⟩
  · obtain ⟨ce, h1, h2, h3, h4⟩ := X
    refine ⟨ce, h1, h2, h3.ext E, fun f w q => ?_⟩
    obtain ⟨fe, g1, g2⟩ := h4 f w q
    exact ⟨fe, g1, g2.ext E⟩
  · obtain ⟨c, h1, h2, h3⟩ := X
    exact ⟨c, h1.ext E, h2, h3⟩
theorem Rel.obj {Z : State} {P : Prog} {b : Nat} {h : Heap} {mh : List Obj} {a : Nat} {o : Nat × List (Nat × Value)} (X : Rel Z P b h mh) (q : objAt mh a = some o) : mh[a]? = some (.inl o) ∧ RO Z P b h a (.inl o) := by
  simp only [objAt] at q
  split at q
  · rename_i o' e; cases q; exact ⟨e, X.2 a _ e⟩
  · cases q
theorem Rel.arr {Z : State} {P : Prog} {b : Nat} {h : Heap} {mh : List Obj} {a : Nat} {o : FieldType × List Value} (X : Rel Z P b h mh) (q : arrAt mh a = some o) : mh[a]? = some (.inr o) ∧ RO Z P b h a (.inr o) := by
  simp only [arrAt] at q
  split at q
  · rename_i o' e; cases q; exact ⟨e, X.2 a _ e⟩
  · cases q
theorem Rel.set {Z : State} {P : Prog} {b : Nat} {h h' : Heap} {mh : List Obj} {a sl : Nat} {v : Value} {o : Obj} (X : Rel Z P b h mh) (W : Wr h h' (b + a) sl v) (N : RO Z P b h' a o) : Rel Z P b h' (mh.set a o) := by
  refine ⟨by rw [W.size, X.1, List.length_set], fun x y q => ?_⟩
  by_cases e : x = a
  · subst e
    rw [List.getElem?_set] at q
    simp only [if_true] at q
    split at q
    · cases q; exact N
    · cases q
  · rw [List.getElem?_set_ne (Ne.symm e)] at q
    exact (X.2 x y q).other W e
theorem Rel.push {Z : State} {P : Prog} {b : Nat} {h h' : Heap} {mh : List Obj} {o : Obj} (X : Rel Z P b h mh) (E : Ext h h') (S : h'.size = h.size + 1) (N : RO Z P b h' mh.length o) : Rel Z P b h' (mh ++ [o]) := by
  refine ⟨by rw [S, X.1, List.length_append]; rfl, fun x y q => ?_⟩
  rcases Nat.lt_trichotomy x mh.length with e | e | e
  · rw [List.getElem?_append_left e] at q
    exact (X.2 x y q).ext E
  · subst e; rw [List.getElem?_append_right (Nat.le_refl _)] at q; simp at q; cases q; exact N
  · rw [List.getElem?_append_right (Nat.le_of_lt e)] at q
    have : x - mh.length ≠ 0 := by omega
    rw [List.getElem?_eq_none (by simp; omega)] at q; cases q
end Jvm.OwnM
namespace Jvm.OwnM
open Jvm Jvm.ClassFile Sem Op Lib Jvm.Stand Jvm.Free Jvm.LawKit Jvm.RoadKit
/-! ## one step of the machine is a step of the JVM -/
abbrev Fm (b : Nat) (m : MethodId) (pc : Nat) (ls : Array Slot) (st : List Value) : JFrame := mkF m pc (ls.map (tS b)) (st.map (tv b))
theorem op2_inv {A : Alg} {i : Instr} {st s : List Value} (h : op2 A i st = some s) : ∃ x y r v, st = y :: x :: r ∧ A.1 i [x, y] = some v ∧ s = v :: r := by
  simp only [op2] at h
  split at h
  · rename_i y x r
    cases q : A.1 i [x, y] with
    | none => simp only [q] at h; cases h
    | some v => simp only [q] at h; cases h; exact ⟨x, y, r, v, rfl, q, rfl⟩
  · cases h
theorem op1_inv {A : Alg} {i : Instr} {st s : List Value} (h : op1 A i st = some s) : ∃ x r v, st = x :: r ∧ A.1 i [x] = some v ∧ s = v :: r := by
  simp only [op1] at h
  split at h
  · rename_i x r
    cases q : A.1 i [x] with
    | none => simp only [q] at h; cases h
    | some v => simp only [q] at h; cases h; exact ⟨x, r, v, rfl, q, rfl⟩
  · cases h
theorem cst_inv {A : Alg} {i : Instr} {w : Value} {st s : List Value} (h : cst A i w st = some s) : ∃ v, A.1 i [w] = some v ∧ s = v :: st := by
  simp only [cst] at h
  cases q : A.1 i [w] with
  | none => simp only [q] at h; cases h
  | some v => simp only [q] at h; cases h; exact ⟨v, rfl, rfl⟩
theorem lod_inv {n : Nat} {ls : Array Slot} {k : Nat} {v : Value} (h : lod n ls k = some v) : ls[k]? = some (.val v) ∧ kd v = n := by
  simp only [lod] at h
  split at h
  · rename_i w e
    cases q : Nat.beq (kd w) n
    · rw [q] at h; cases h
    · rw [q] at h; cases h; exact ⟨e, Nat.eq_of_beq_eq_true q⟩
  · cases h
theorem sto_inv {n : Nat} {ls : Array Slot} {k : Nat} {st : List Value} {l' : Array Slot} {r : List Value} (h : sto n ls k st = some (l', r)) : ∃ v, st = v :: r ∧ kd v = n ∧ storeLocals ls k v = some l' := by
  simp only [sto] at h
  split at h
  · rename_i w t
    cases q : Nat.beq (kd w) n
    · rw [q] at h; cases h
    · rw [q] at h
      simp only [cond_true] at h
      cases e : storeLocals ls k w with
      | none => simp only [e] at h; cases h
      | some l2 => simp only [e] at h; cases h; exact ⟨w, rfl, Nat.eq_of_beq_eq_true q, e⟩
  · cases h
theorem raV2 {i : Instr} {x y v : Value} (h : raV i [x, y] = some v) : (∃ a b, x = .int a ∧ y = .int b ∧ raII i a b = some v) ∨ (∃ a b, x = .long a ∧ y = .long b ∧ raLL i a b = some v) ∨ (∃ a b, x = .long a ∧ y = .int b ∧ raLI i a b = some v) := by
  cases x <;> cases y <;> first
    | exact Or.inl ⟨_, _, rfl, rfl, h⟩
    | exact Or.inr (Or.inl ⟨_, _, rfl, rfl, h⟩)
    | exact Or.inr (Or.inr ⟨_, _, rfl, rfl, h⟩)
    | exact nomatch (show (none : Option Value) = some v from h)
theorem raV1 {i : Instr} {x v : Value} (h : raV i [x] = some v) : (∃ a, x = .int a ∧ raI i a = some v) ∨ (∃ a, x = .long a ∧ raL i a = some v) := by
  cases x <;> first
    | exact Or.inl ⟨_, rfl, h⟩
    | exact Or.inr ⟨_, rfl, h⟩
    | exact nomatch (show (none : Option Value) = some v from h)
theorem cz_ra {v : Value} {j : Int32} (h : cz RA v = some j) : v = .int j := by
  cases v with
  | int x => exact congrArg _ (Option.some.inj (show some x = some j from h))
  | _ => exact nomatch (show (none : Option Int32) = some j from h)
theorem czN_ra {i : Instr} (hi : ∀ x, raI i x = some (.int x)) (hl : ∀ x, raL i x = none) {v : Value} {j : Int32} (h : czN RA i v = some j) : v = .int j := by
  have e : ∀ v, czN RA i v = (match raV i [v] with | some (.int j) => some j | _ => none) := fun _ => rfl
  rw [e] at h
  cases v with
  | int x =>
    have q : raV i [.int x] = some (.int x) := hi x
    rw [q] at h
    exact congrArg _ (Option.some.inj h)
  | long x =>
    have q : raV i [.long x] = none := hl x
    rw [q] at h; cases h
  | _ => exact nomatch (show (none : Option Int32) = some j from h)
theorem place_ra {v : Value} {n k : Nat} (h : place RA v n = some k) : ∃ j : Int32, v = .int j ∧ k = j.toNatClampNeg ∧ ¬ (j < 0 ∨ n ≤ j.toNatClampNeg) := by
  simp only [place] at h
  cases q : cz RA v with
  | none => rw [q] at h; cases h
  | some j =>
    rw [q] at h
    simp only at h
    split at h
    · cases h
    · rename_i hn
      cases e : Nat.ble n j.toNatClampNeg
      · rw [e] at h
        cases h
        refine ⟨j, cz_ra q, rfl, fun u => u.elim hn fun u => ?_⟩
        rw [Nat.ble_eq_true_of_le u] at e; cases e
      · rw [e] at h; cases h
theorem ald_inv {ok : FieldType → Bool} {mh : List Obj} {st s : List Value} (h : ald RA ok mh st = some s) : ∃ (j : Int32) (a : Nat) (r : List Value) (ty : FieldType) (vs : List Value) (v : Value), st = .int j :: .ref a :: r ∧ arrAt mh a = some (ty, vs) ∧ ok ty = true ∧ ¬ (j < 0 ∨ vs.length ≤ j.toNatClampNeg) ∧ vs[j.toNatClampNeg]? = some v ∧ s = v :: r := by
  simp only [ald] at h
  split at h
  · rename_i j a r
    split at h
    · rename_i ty vs e
      split at h
      · rename_i hok
        cases q : place RA j vs.length with
        | none => simp only [q] at h; cases h
        | some k =>
          simp only [q] at h
          obtain ⟨j', rfl, rfl, hj⟩ := place_ra q
          cases u : vs[j'.toNatClampNeg]? with
          | none => simp only [u] at h; cases h
          | some v =>
            simp only [u] at h
            cases z : Nat.beq (kd v) 0
            · rw [z] at h; cases h; exact ⟨j', a, r, ty, vs, v, rfl, e, hok, hj, u, rfl⟩
            · rw [z] at h; cases h
      · cases h
    · cases h
  · cases h
theorem br_inv {o : Option Bool} {aux : List Nat} {nx t : Nat} (h : br o aux nx = some t) : (o = some true ∧ aux.head? = some t) ∨ (o = some false ∧ t = nx) := by
  simp only [br] at h
  split at h
  · exact Or.inl ⟨rfl, h⟩
  · cases h; exact Or.inr ⟨rfl, rfl⟩
  · cases h
theorem linkF_ok {ws : List Jvm.Cond} {Z : State} {a0 : Array Value} (hw : ∀ d ∈ ws, d.before a0 Z = true) {own O n d : String} {k : Nat} (h : linkF ws own k O n d = true) : ∃ r, (Jvm.Cond.fieldLink own k r n d).before a0 Z = true ∧ Via Z r O n d := by
  obtain ⟨w, hm, e⟩ := List.any_eq_true.mp h
  cases w <;> simp only [Bool.false_eq_true] at e
  rename_i o i r n' d'
  simp only [Bool.and_eq_true, decide_eq_true_eq, Bool.or_eq_true] at e
  obtain ⟨⟨⟨⟨rfl, rfl⟩, rfl⟩, rfl⟩, q⟩ := e
  refine ⟨r, hw _ hm, ?_⟩
  rcases q with rfl | q
  · exact Via.refl
  · exact Via.of (hw _ (hasW_mem q))
section Step
variable {p : Program} {l : Launch} {e : Env} {R : Room} {s : State} {m : MethodId} {args : Array Value} {below : List Frame} {meth : Method} {c : Code} {T : State} {locs : List Loc} {cells slots : Nat} {Z : State} {a0 : Array Value} {ws : List Jvm.Cond} {P : Prog} {b : Nat}
theorem s_ii {i : Instr} {pc : Nat} {ls : Array Slot} {st s' : List Value} (f : Int32 → Int32 → Value) (hf : ∀ x y, raII i x y = some (f x y)) (h1 : ∀ x y, raLL i x y = none) (h2 : ∀ x y, raLI i x y = none) (hk : ∀ x y, tv b (f x y) = f x y) (h : op2 RA i st = some s')
    (law : ∀ x y rest target, Steps p.tables e below (T.setTop (mkF m (pc + 1) (ls.map (tS b)) (f x y :: rest))) target → Steps p.tables e below (T.setTop (mkF m pc (ls.map (tS b)) (.int y :: .int x :: rest))) target) :
    ∀ target, Steps p.tables e below (T.setTop (Fm b m (pc + 1) ls s')) target → Steps p.tables e below (T.setTop (Fm b m pc ls st)) target := by
  obtain ⟨x, y, r, v, rfl, q, rfl⟩ := op2_inv h
  intro target k
  rcases raV2 q with ⟨u, w, rfl, rfl, q⟩ | ⟨u, w, rfl, rfl, q⟩ | ⟨u, w, rfl, rfl, q⟩
  · cases Option.some.inj ((hf u w).symm.trans q)
    have k' : Steps p.tables e below (T.setTop (mkF m (pc + 1) (ls.map (tS b)) (tv b (f u w) :: r.map (tv b)))) target := k
    rw [hk] at k'
    exact law u w _ target k'
  · cases (h1 u w).symm.trans q
  · cases (h2 u w).symm.trans q
theorem s_ll {i : Instr} {pc : Nat} {ls : Array Slot} {st s' : List Value} (f : Int64 → Int64 → Value) (hf : ∀ x y, raLL i x y = some (f x y)) (h1 : ∀ x y, raII i x y = none) (h2 : ∀ x y, raLI i x y = none) (hk : ∀ x y, tv b (f x y) = f x y) (h : op2 RA i st = some s')
    (law : ∀ x y rest target, Steps p.tables e below (T.setTop (mkF m (pc + 1) (ls.map (tS b)) (f x y :: rest))) target → Steps p.tables e below (T.setTop (mkF m pc (ls.map (tS b)) (.long y :: .long x :: rest))) target) :
    ∀ target, Steps p.tables e below (T.setTop (Fm b m (pc + 1) ls s')) target → Steps p.tables e below (T.setTop (Fm b m pc ls st)) target := by
  obtain ⟨x, y, r, v, rfl, q, rfl⟩ := op2_inv h
  intro target k
  rcases raV2 q with ⟨u, w, rfl, rfl, q⟩ | ⟨u, w, rfl, rfl, q⟩ | ⟨u, w, rfl, rfl, q⟩
  · cases (h1 u w).symm.trans q
  · cases Option.some.inj ((hf u w).symm.trans q)
    have k' : Steps p.tables e below (T.setTop (mkF m (pc + 1) (ls.map (tS b)) (tv b (f u w) :: r.map (tv b)))) target := k
    rw [hk] at k'
    exact law u w _ target k'
  · cases (h2 u w).symm.trans q
theorem s_li {i : Instr} {pc : Nat} {ls : Array Slot} {st s' : List Value} (f : Int64 → Int32 → Value) (hf : ∀ x y, raLI i x y = some (f x y)) (h1 : ∀ x y, raII i x y = none) (h2 : ∀ x y, raLL i x y = none) (hk : ∀ x y, tv b (f x y) = f x y) (h : op2 RA i st = some s')
    (law : ∀ x y rest target, Steps p.tables e below (T.setTop (mkF m (pc + 1) (ls.map (tS b)) (f x y :: rest))) target → Steps p.tables e below (T.setTop (mkF m pc (ls.map (tS b)) (.int y :: .long x :: rest))) target) :
    ∀ target, Steps p.tables e below (T.setTop (Fm b m (pc + 1) ls s')) target → Steps p.tables e below (T.setTop (Fm b m pc ls st)) target := by
  obtain ⟨x, y, r, v, rfl, q, rfl⟩ := op2_inv h
  intro target k
  rcases raV2 q with ⟨u, w, rfl, rfl, q⟩ | ⟨u, w, rfl, rfl, q⟩ | ⟨u, w, rfl, rfl, q⟩
  · cases (h1 u w).symm.trans q
  · cases (h2 u w).symm.trans q
  · cases Option.some.inj ((hf u w).symm.trans q)
    have k' : Steps p.tables e below (T.setTop (mkF m (pc + 1) (ls.map (tS b)) (tv b (f u w) :: r.map (tv b)))) target := k
    rw [hk] at k'
    exact law u w _ target k'
theorem s_i {i : Instr} {pc : Nat} {ls : Array Slot} {st s' : List Value} (f : Int32 → Value) (hf : ∀ x, raI i x = some (f x)) (h1 : ∀ x, raL i x = none) (hk : ∀ x, tv b (f x) = f x) (h : op1 RA i st = some s')
    (law : ∀ x rest target, Steps p.tables e below (T.setTop (mkF m (pc + 1) (ls.map (tS b)) (f x :: rest))) target → Steps p.tables e below (T.setTop (mkF m pc (ls.map (tS b)) (.int x :: rest))) target) :
    ∀ target, Steps p.tables e below (T.setTop (Fm b m (pc + 1) ls s')) target → Steps p.tables e below (T.setTop (Fm b m pc ls st)) target := by
  obtain ⟨x, r, v, rfl, q, rfl⟩ := op1_inv h
  intro target k
  rcases raV1 q with ⟨u, rfl, q⟩ | ⟨u, rfl, q⟩
  · cases Option.some.inj ((hf u).symm.trans q)
    have k' : Steps p.tables e below (T.setTop (mkF m (pc + 1) (ls.map (tS b)) (tv b (f u) :: r.map (tv b)))) target := k
    rw [hk] at k'
    exact law u _ target k'
  · cases (h1 u).symm.trans q
theorem s_l {i : Instr} {pc : Nat} {ls : Array Slot} {st s' : List Value} (f : Int64 → Value) (hf : ∀ x, raL i x = some (f x)) (h1 : ∀ x, raI i x = none) (hk : ∀ x, tv b (f x) = f x) (h : op1 RA i st = some s')
    (law : ∀ x rest target, Steps p.tables e below (T.setTop (mkF m (pc + 1) (ls.map (tS b)) (f x :: rest))) target → Steps p.tables e below (T.setTop (mkF m pc (ls.map (tS b)) (.long x :: rest))) target) :
    ∀ target, Steps p.tables e below (T.setTop (Fm b m (pc + 1) ls s')) target → Steps p.tables e below (T.setTop (Fm b m pc ls st)) target := by
  obtain ⟨x, r, v, rfl, q, rfl⟩ := op1_inv h
  intro target k
  rcases raV1 q with ⟨u, rfl, q⟩ | ⟨u, rfl, q⟩
  · cases (h1 u).symm.trans q
  · cases Option.some.inj ((hf u).symm.trans q)
    have k' : Steps p.tables e below (T.setTop (mkF m (pc + 1) (ls.map (tS b)) (tv b (f u) :: r.map (tv b)))) target := k
    rw [hk] at k'
    exact law u _ target k'
theorem lod_tv {n : Nat} {ls : Array Slot} {k : Nat} {v : Value} (h : lod n ls k = some v) : (ls.map (tS b))[k]? = some (.val (tv b v)) := by
  rw [Array.getElem?_map, (lod_inv h).1]; rfl
set_option maxHeartbeats 4000000 in
theorem stepP_ok (X : Stand p l e R s m args below meth c T locs cells slots) (hx : p.tables.exec = Jvm.exec) (hZ : Z.Warmed39 s.vm) (hw : ∀ d ∈ ws, d.before a0 Z = true) {own mn : String} (hown : s.vm.findClass own = some m.cls) {mh : List Obj} (hR : Rel Z P b T.heap mh)
    {i : Instr} {aux : List Nat} {cv : Value} {pc : Nat} {ls : Array Slot} {st : List Value} {pc' : Nat} {ls' : Array Slot} {st' : List Value} (hl : okLink ws P own mn pc i aux cv = true) (hd : decode c.code pc = .ok (i, ln i)) (h : stepP RA i aux cv pc ls st mh = some (pc', ls', st')) :
    ls'.size = ls.size ∧ ∃ T', Stand p l e R s m args below meth c T' locs cells slots ∧ T'.heap = T.heap ∧ ∀ target, Steps p.tables e below (T'.setTop (Fm b m pc' ls' st')) target → Steps p.tables e below (T.setTop (Fm b m pc ls st)) target := by
  cases i with
  | iload k =>
    simp only [stepP] at h
    cases q : lod 1 ls k with
    | none => rw [q] at h; cases h
    | some v =>
      rw [q] at h; cases h
      obtain ⟨x, rfl⟩ := kd_int (lod_inv q).2
      exact ⟨rfl, T, X, rfl, fun target k' => XS.iload X.here hx rfl hd (lod_tv q) k'⟩
  | lload k =>
    simp only [stepP] at h
    cases q : lod 2 ls k with
    | none => rw [q] at h; cases h
    | some v =>
      rw [q] at h; cases h
      obtain ⟨x, rfl⟩ := kd_long (lod_inv q).2
      exact ⟨rfl, T, X, rfl, fun target k' => XT.lload X.here hx rfl hd (lod_tv q) k'⟩
  | aload k =>
    simp only [stepP] at h
    cases q : lod 3 ls k with
    | none => rw [q] at h; cases h
    | some v =>
      rw [q] at h; cases h
      exact ⟨rfl, T, X, rfl, fun target k' => XS.aload X.here hx rfl hd (lod_tv q) (kd_ref (lod_inv q).2) k'⟩
  | iload_n k =>
    simp only [stepP] at h
    cases q : lod 1 ls k.val with
    | none => rw [q] at h; cases h
    | some v =>
      rw [q] at h; cases h
      obtain ⟨x, rfl⟩ := kd_int (lod_inv q).2
      exact ⟨rfl, T, X, rfl, fun target k' => XS.iloadN X.here hx rfl hd (lod_tv q) k'⟩
  | lload_n k =>
    simp only [stepP] at h
    cases q : lod 2 ls k.val with
    | none => rw [q] at h; cases h
    | some v =>
      rw [q] at h; cases h
      obtain ⟨x, rfl⟩ := kd_long (lod_inv q).2
      exact ⟨rfl, T, X, rfl, fun target k' => XT.lloadN X.here hx rfl hd (lod_tv q) k'⟩
  | aload_n k =>
    simp only [stepP] at h
    cases q : lod 3 ls k.val with
    | none => rw [q] at h; cases h
    | some v =>
      rw [q] at h; cases h
      exact ⟨rfl, T, X, rfl, fun target k' => XS.aloadN X.here hx rfl hd (lod_tv q) (kd_ref (lod_inv q).2) k'⟩
  | istore k =>
    simp only [stepP] at h
    cases q : sto 1 ls k st with
    | none => rw [q] at h; cases h
    | some z =>
      rw [q] at h; obtain ⟨l2, r2⟩ := z; cases h
      obtain ⟨v, rfl, q1, q2⟩ := sto_inv q
      obtain ⟨x, rfl⟩ := kd_int q1
      obtain ⟨q3, q4⟩ := store_map (b := b) q2
      exact ⟨q4, T, X, rfl, fun target k' => XS.istore X.here hx rfl hd rfl q3 k'⟩
  | lstore k =>
    simp only [stepP] at h
    cases q : sto 2 ls k st with
    | none => rw [q] at h; cases h
    | some z =>
      rw [q] at h; obtain ⟨l2, r2⟩ := z; cases h
      obtain ⟨v, rfl, q1, q2⟩ := sto_inv q
      obtain ⟨x, rfl⟩ := kd_long q1
      obtain ⟨q3, q4⟩ := store_map (b := b) q2
      exact ⟨q4, T, X, rfl, fun target k' => XT.lstore X.here hx rfl hd rfl q3 k'⟩
  | astore k =>
    simp only [stepP] at h
    cases q : sto 3 ls k st with
    | none => rw [q] at h; cases h
    | some z =>
      rw [q] at h; obtain ⟨l2, r2⟩ := z; cases h
      obtain ⟨v, rfl, q1, q2⟩ := sto_inv q
      obtain ⟨q3, q4⟩ := store_map (b := b) q2
      exact ⟨q4, T, X, rfl, fun target k' => XS.astore X.here hx rfl hd rfl (kd_ref q1) q3 k'⟩
  | istore_n k =>
    simp only [stepP] at h
    cases q : sto 1 ls k.val st with
    | none => rw [q] at h; cases h
    | some z =>
      rw [q] at h; obtain ⟨l2, r2⟩ := z; cases h
      obtain ⟨v, rfl, q1, q2⟩ := sto_inv q
      obtain ⟨x, rfl⟩ := kd_int q1
      obtain ⟨q3, q4⟩ := store_map (b := b) q2
      exact ⟨q4, T, X, rfl, fun target k' => XS.istoreN X.here hx rfl hd rfl q3 k'⟩
  | lstore_n k =>
    simp only [stepP] at h
    cases q : sto 2 ls k.val st with
    | none => rw [q] at h; cases h
    | some z =>
      rw [q] at h; obtain ⟨l2, r2⟩ := z; cases h
      obtain ⟨v, rfl, q1, q2⟩ := sto_inv q
      obtain ⟨x, rfl⟩ := kd_long q1
      obtain ⟨q3, q4⟩ := store_map (b := b) q2
      exact ⟨q4, T, X, rfl, fun target k' => XT.lstoreN X.here hx rfl hd rfl q3 k'⟩
  | astore_n k =>
    simp only [stepP] at h
    cases q : sto 3 ls k.val st with
    | none => rw [q] at h; cases h
    | some z =>
      rw [q] at h; obtain ⟨l2, r2⟩ := z; cases h
      obtain ⟨v, rfl, q1, q2⟩ := sto_inv q
      obtain ⟨q3, q4⟩ := store_map (b := b) q2
      exact ⟨q4, T, X, rfl, fun target k' => XS.astoreN X.here hx rfl hd rfl (kd_ref q1) q3 k'⟩
  | iconst k =>
    simp only [stepP] at h
    cases q : cst RA (.iconst k) (.int (Int32.ofInt k)) st with
    | none => rw [q] at h; cases h
    | some z =>
      rw [q] at h; cases h
      obtain ⟨v, q1, rfl⟩ := cst_inv q
      cases Option.some.inj (show some (Value.int (Int32.ofInt k)) = some v from q1)
      exact ⟨rfl, T, X, rfl, fun target k' => XS.iconst X.here hx rfl hd k'⟩
  | bipush k =>
    simp only [stepP] at h
    cases q : cst RA (.bipush k) (.int (Int8.ofInt k).toInt32) st with
    | none => rw [q] at h; cases h
    | some z =>
      rw [q] at h; cases h
      obtain ⟨v, q1, rfl⟩ := cst_inv q
      cases Option.some.inj (show some (Value.int (Int8.ofInt k).toInt32) = some v from q1)
      exact ⟨rfl, T, X, rfl, fun target k' => XS.bipush X.here hx rfl hd k'⟩
  | sipush k =>
    simp only [stepP] at h
    cases q : cst RA (.sipush k) (.int (Int16.ofInt k).toInt32) st with
    | none => rw [q] at h; cases h
    | some z =>
      rw [q] at h; cases h
      obtain ⟨v, q1, rfl⟩ := cst_inv q
      cases Option.some.inj (show some (Value.int (Int16.ofInt k).toInt32) = some v from q1)
      exact ⟨rfl, T, X, rfl, fun target k' => XS.sipush X.here hx rfl hd k'⟩
  | lconst k =>
    simp only [stepP] at h
    cases q : cst RA (.lconst k) (.long (Int64.ofNat k.val)) st with
    | none => rw [q] at h; cases h
    | some z =>
      rw [q] at h; cases h
      obtain ⟨v, q1, rfl⟩ := cst_inv q
      cases Option.some.inj (show some (Value.long (Int64.ofNat k.val)) = some v from q1)
      exact ⟨rfl, T, X, rfl, fun target k' => XT.lconst X.here hx rfl hd k'⟩
  | ldc k =>
    simp only [stepP] at h
    cases q : cst RA (.ldc k) cv st with
    | none => rw [q] at h; cases h
    | some z =>
      rw [q] at h; cases h
      obtain ⟨v, q1, rfl⟩ := cst_inv q
      cases cv with
      | int u =>
        cases Option.some.inj (show some (Value.int u) = some v from q1)
        exact ⟨rfl, T, X, rfl, fun target k' => X.ldcI hx hown (mvT hZ (hw _ (hasW_mem hl))) rfl hd k'⟩
      | _ => cases hl
  | ldc_w k =>
    simp only [stepP] at h
    cases q : cst RA (.ldc_w k) cv st with
    | none => rw [q] at h; cases h
    | some z =>
      rw [q] at h; cases h
      obtain ⟨v, q1, rfl⟩ := cst_inv q
      cases cv with
      | int u =>
        cases Option.some.inj (show some (Value.int u) = some v from q1)
        exact ⟨rfl, T, X, rfl, fun target k' => X.ldcWI hx hown (mvT hZ (hw _ (hasW_mem hl))) rfl hd k'⟩
      | _ => cases hl
  | ldc2_w k =>
    simp only [stepP] at h
    cases q : cst RA (.ldc2_w k) cv st with
    | none => rw [q] at h; cases h
    | some z =>
      rw [q] at h; cases h
      obtain ⟨v, q1, rfl⟩ := cst_inv q
      cases cv with
      | long u =>
        cases Option.some.inj (show some (Value.long u) = some v from q1)
        exact ⟨rfl, T, X, rfl, fun target k' => X.ldc2J hx hown (mvT hZ (hw _ (hasW_mem hl))) rfl hd k'⟩
      | _ => cases hl
  | aconst_null =>
    simp only [stepP] at h
    cases h
    exact ⟨rfl, T, X, rfl, fun target k' => XS.aconstNull X.here hx rfl hd k'⟩
  | iadd =>
    simp only [stepP] at h
    cases q : op2 RA .iadd st with
    | none => rw [q] at h; cases h
    | some z =>
      rw [q] at h; cases h
      exact ⟨rfl, T, X, rfl, s_ii (fun x y => .int (x + y)) (fun _ _ => rfl) (fun _ _ => rfl) (fun _ _ => rfl) (fun _ _ => rfl) q fun x y rest target k' => XS.iadd X.here hx rfl hd rfl k'⟩
  | isub =>
    simp only [stepP] at h
    cases q : op2 RA .isub st with
    | none => rw [q] at h; cases h
    | some z =>
      rw [q] at h; cases h
      exact ⟨rfl, T, X, rfl, s_ii (fun x y => .int (x - y)) (fun _ _ => rfl) (fun _ _ => rfl) (fun _ _ => rfl) (fun _ _ => rfl) q fun x y rest target k' => XS.isub X.here hx rfl hd rfl k'⟩
  | imul =>
    simp only [stepP] at h
    cases q : op2 RA .imul st with
    | none => rw [q] at h; cases h
    | some z =>
      rw [q] at h; cases h
      exact ⟨rfl, T, X, rfl, s_ii (fun x y => .int (x * y)) (fun _ _ => rfl) (fun _ _ => rfl) (fun _ _ => rfl) (fun _ _ => rfl) q fun x y rest target k' => XS.imul X.here hx rfl hd rfl k'⟩
  | iand =>
    simp only [stepP] at h
    cases q : op2 RA .iand st with
    | none => rw [q] at h; cases h
    | some z =>
      rw [q] at h; cases h
      exact ⟨rfl, T, X, rfl, s_ii (fun x y => .int (x &&& y)) (fun _ _ => rfl) (fun _ _ => rfl) (fun _ _ => rfl) (fun _ _ => rfl) q fun x y rest target k' => XS.iand X.here hx rfl hd rfl k'⟩
  | ior =>
    simp only [stepP] at h
    cases q : op2 RA .ior st with
    | none => rw [q] at h; cases h
    | some z =>
      rw [q] at h; cases h
      exact ⟨rfl, T, X, rfl, s_ii (fun x y => .int (x ||| y)) (fun _ _ => rfl) (fun _ _ => rfl) (fun _ _ => rfl) (fun _ _ => rfl) q fun x y rest target k' => XT.ior X.here hx rfl hd rfl k'⟩
  | ixor =>
    simp only [stepP] at h
    cases q : op2 RA .ixor st with
    | none => rw [q] at h; cases h
    | some z =>
      rw [q] at h; cases h
      exact ⟨rfl, T, X, rfl, s_ii (fun x y => .int (x ^^^ y)) (fun _ _ => rfl) (fun _ _ => rfl) (fun _ _ => rfl) (fun _ _ => rfl) q fun x y rest target k' => XT.ixor X.here hx rfl hd rfl k'⟩
  | ishl =>
    simp only [stepP] at h
    cases q : op2 RA .ishl st with
    | none => rw [q] at h; cases h
    | some z =>
      rw [q] at h; cases h
      exact ⟨rfl, T, X, rfl, s_ii (fun x y => .int (x <<< (y &&& 31))) (fun _ _ => rfl) (fun _ _ => rfl) (fun _ _ => rfl) (fun _ _ => rfl) q fun x y rest target k' => XT.ishl X.here hx rfl hd rfl k'⟩
  | ishr =>
    simp only [stepP] at h
    cases q : op2 RA .ishr st with
    | none => rw [q] at h; cases h
    | some z =>
      rw [q] at h; cases h
      exact ⟨rfl, T, X, rfl, s_ii (fun x y => .int (x >>> (y &&& 31))) (fun _ _ => rfl) (fun _ _ => rfl) (fun _ _ => rfl) (fun _ _ => rfl) q fun x y rest target k' => XT.ishr X.here hx rfl hd rfl k'⟩
  | iushr =>
    simp only [stepP] at h
    cases q : op2 RA .iushr st with
    | none => rw [q] at h; cases h
    | some z =>
      rw [q] at h; cases h
      exact ⟨rfl, T, X, rfl, s_ii (fun x y => .int (XT.ushr x y)) (fun _ _ => rfl) (fun _ _ => rfl) (fun _ _ => rfl) (fun _ _ => rfl) q fun x y rest target k' => XT.iushr X.here hx rfl hd rfl k'⟩
  | idiv =>
    simp only [stepP] at h
    cases q : op2 RA .idiv st with
    | none => rw [q] at h; cases h
    | some z =>
      rw [q] at h; cases h
      obtain ⟨x, y, r, v, rfl, q0, rfl⟩ := op2_inv q
      clear q
      rcases raV2 q0 with ⟨u, w, rfl, rfl, q⟩ | ⟨u, w, rfl, rfl, q⟩ | ⟨u, w, rfl, rfl, q⟩
      · have q' : (if w = 0 then none else some (Value.int (u / w))) = some v := q
        split at q'
        · cases q'
        · rename_i hy
          cases q'
          exact ⟨rfl, T, X, rfl, fun target k' => XS.idiv X.here hx rfl hd rfl hy k'⟩
      · cases (show (none : Option Value) = some v from q)
      · cases (show (none : Option Value) = some v from q)
  | irem =>
    simp only [stepP] at h
    cases q : op2 RA .irem st with
    | none => rw [q] at h; cases h
    | some z =>
      rw [q] at h; cases h
      obtain ⟨x, y, r, v, rfl, q0, rfl⟩ := op2_inv q
      clear q
      rcases raV2 q0 with ⟨u, w, rfl, rfl, q⟩ | ⟨u, w, rfl, rfl, q⟩ | ⟨u, w, rfl, rfl, q⟩
      · have q' : (if w = 0 then none else some (Value.int (u % w))) = some v := q
        split at q'
        · cases q'
        · rename_i hy
          cases q'
          exact ⟨rfl, T, X, rfl, fun target k' => iremM X hx rfl hd rfl hy k'⟩
      · cases (show (none : Option Value) = some v from q)
      · cases (show (none : Option Value) = some v from q)
  | ladd =>
    simp only [stepP] at h
    cases q : op2 RA .ladd st with
    | none => rw [q] at h; cases h
    | some z =>
      rw [q] at h; cases h
      exact ⟨rfl, T, X, rfl, s_ll (fun x y => .long (x + y)) (fun _ _ => rfl) (fun _ _ => rfl) (fun _ _ => rfl) (fun _ _ => rfl) q fun x y rest target k' => XT.ladd X.here hx rfl hd rfl k'⟩
  | lsub =>
    simp only [stepP] at h
    cases q : op2 RA .lsub st with
    | none => rw [q] at h; cases h
    | some z =>
      rw [q] at h; cases h
      exact ⟨rfl, T, X, rfl, s_ll (fun x y => .long (x - y)) (fun _ _ => rfl) (fun _ _ => rfl) (fun _ _ => rfl) (fun _ _ => rfl) q fun x y rest target k' => XT.lsub X.here hx rfl hd rfl k'⟩
  | lmul =>
    simp only [stepP] at h
    cases q : op2 RA .lmul st with
    | none => rw [q] at h; cases h
    | some z =>
      rw [q] at h; cases h
      exact ⟨rfl, T, X, rfl, s_ll (fun x y => .long (x * y)) (fun _ _ => rfl) (fun _ _ => rfl) (fun _ _ => rfl) (fun _ _ => rfl) q fun x y rest target k' => XT.lmul X.here hx rfl hd rfl k'⟩
  | land =>
    simp only [stepP] at h
    cases q : op2 RA .land st with
    | none => rw [q] at h; cases h
    | some z =>
      rw [q] at h; cases h
      exact ⟨rfl, T, X, rfl, s_ll (fun x y => .long (x &&& y)) (fun _ _ => rfl) (fun _ _ => rfl) (fun _ _ => rfl) (fun _ _ => rfl) q fun x y rest target k' => XT.land X.here hx rfl hd rfl k'⟩
  | lor =>
    simp only [stepP] at h
    cases q : op2 RA .lor st with
    | none => rw [q] at h; cases h
    | some z =>
      rw [q] at h; cases h
      exact ⟨rfl, T, X, rfl, s_ll (fun x y => .long (x ||| y)) (fun _ _ => rfl) (fun _ _ => rfl) (fun _ _ => rfl) (fun _ _ => rfl) q fun x y rest target k' => XT.lor X.here hx rfl hd rfl k'⟩
  | lxor =>
    simp only [stepP] at h
    cases q : op2 RA .lxor st with
    | none => rw [q] at h; cases h
    | some z =>
      rw [q] at h; cases h
      exact ⟨rfl, T, X, rfl, s_ll (fun x y => .long (x ^^^ y)) (fun _ _ => rfl) (fun _ _ => rfl) (fun _ _ => rfl) (fun _ _ => rfl) q fun x y rest target k' => XT.lxor X.here hx rfl hd rfl k'⟩
  | lcmp =>
    simp only [stepP] at h
    cases q : op2 RA .lcmp st with
    | none => rw [q] at h; cases h
    | some z =>
      rw [q] at h; cases h
      exact ⟨rfl, T, X, rfl, s_ll (fun x y => .int (XT.cmpL x y)) (fun _ _ => rfl) (fun _ _ => rfl) (fun _ _ => rfl) (fun _ _ => rfl) q fun x y rest target k' => XT.lcmp X.here hx rfl hd rfl k'⟩
  | lshl =>
    simp only [stepP] at h
    cases q : op2 RA .lshl st with
    | none => rw [q] at h; cases h
    | some z =>
      rw [q] at h; cases h
      exact ⟨rfl, T, X, rfl, s_li (fun x y => .long (x <<< (y.toInt64 &&& 63))) (fun _ _ => rfl) (fun _ _ => rfl) (fun _ _ => rfl) (fun _ _ => rfl) q fun x y rest target k' => XT.lshl X.here hx rfl hd rfl k'⟩
  | lshr =>
    simp only [stepP] at h
    cases q : op2 RA .lshr st with
    | none => rw [q] at h; cases h
    | some z =>
      rw [q] at h; cases h
      exact ⟨rfl, T, X, rfl, s_li (fun x y => .long (x >>> (y.toInt64 &&& 63))) (fun _ _ => rfl) (fun _ _ => rfl) (fun _ _ => rfl) (fun _ _ => rfl) q fun x y rest target k' => XT.lshr X.here hx rfl hd rfl k'⟩
  | lushr =>
    simp only [stepP] at h
    cases q : op2 RA .lushr st with
    | none => rw [q] at h; cases h
    | some z =>
      rw [q] at h; cases h
      exact ⟨rfl, T, X, rfl, s_li (fun x y => .long (XT.ushrL x y)) (fun _ _ => rfl) (fun _ _ => rfl) (fun _ _ => rfl) (fun _ _ => rfl) q fun x y rest target k' => XT.lushr X.here hx rfl hd rfl k'⟩
  | ineg =>
    simp only [stepP] at h
    cases q : op1 RA .ineg st with
    | none => rw [q] at h; cases h
    | some z =>
      rw [q] at h; cases h
      exact ⟨rfl, T, X, rfl, s_i (fun x => .int (-x)) (fun _ => rfl) (fun _ => rfl) (fun _ => rfl) q fun x rest target k' => XS.ineg X.here hx rfl hd rfl k'⟩
  | i2b =>
    simp only [stepP] at h
    cases q : op1 RA .i2b st with
    | none => rw [q] at h; cases h
    | some z =>
      rw [q] at h; cases h
      exact ⟨rfl, T, X, rfl, s_i (fun x => .int x.toInt8.toInt32) (fun _ => rfl) (fun _ => rfl) (fun _ => rfl) q fun x rest target k' => XT.i2b X.here hx rfl hd rfl k'⟩
  | i2c =>
    simp only [stepP] at h
    cases q : op1 RA .i2c st with
    | none => rw [q] at h; cases h
    | some z =>
      rw [q] at h; cases h
      exact ⟨rfl, T, X, rfl, s_i (fun x => .int x.toUInt32.toUInt16.toUInt32.toInt32) (fun _ => rfl) (fun _ => rfl) (fun _ => rfl) q fun x rest target k' => XT.i2c X.here hx rfl hd rfl k'⟩
  | i2s =>
    simp only [stepP] at h
    cases q : op1 RA .i2s st with
    | none => rw [q] at h; cases h
    | some z =>
      rw [q] at h; cases h
      exact ⟨rfl, T, X, rfl, s_i (fun x => .int x.toInt16.toInt32) (fun _ => rfl) (fun _ => rfl) (fun _ => rfl) q fun x rest target k' => XT.i2s X.here hx rfl hd rfl k'⟩
  | i2l =>
    simp only [stepP] at h
    cases q : op1 RA .i2l st with
    | none => rw [q] at h; cases h
    | some z =>
      rw [q] at h; cases h
      exact ⟨rfl, T, X, rfl, s_i (fun x => .long x.toInt64) (fun _ => rfl) (fun _ => rfl) (fun _ => rfl) q fun x rest target k' => XT.i2l X.here hx rfl hd rfl k'⟩
  | lneg =>
    simp only [stepP] at h
    cases q : op1 RA .lneg st with
    | none => rw [q] at h; cases h
    | some z =>
      rw [q] at h; cases h
      exact ⟨rfl, T, X, rfl, s_l (fun x => .long (-x)) (fun _ => rfl) (fun _ => rfl) (fun _ => rfl) q fun x rest target k' => XT.lneg X.here hx rfl hd rfl k'⟩
  | l2i =>
    simp only [stepP] at h
    cases q : op1 RA .l2i st with
    | none => rw [q] at h; cases h
    | some z =>
      rw [q] at h; cases h
      exact ⟨rfl, T, X, rfl, s_l (fun x => .int x.toInt32) (fun _ => rfl) (fun _ => rfl) (fun _ => rfl) q fun x rest target k' => XT.l2i X.here hx rfl hd rfl k'⟩
  | iinc k cc =>
    simp only [stepP] at h
    cases q : lod 1 ls k with
    | none => simp only [q] at h; cases h
    | some v =>
      simp only [q] at h
      obtain ⟨x, rfl⟩ := kd_int (lod_inv q).2
      have q1 : RA.1 (.iinc k cc) [.int x, .int (Int32.ofInt cc)] = some (.int (x + Int32.ofInt cc)) := rfl
      simp only [q1] at h
      cases q2 : sto 1 ls k [.int (x + Int32.ofInt cc)] with
      | none => simp only [q2] at h; cases h
      | some z =>
        simp only [q2] at h; obtain ⟨l2, r2⟩ := z; cases h
        obtain ⟨v, q3, q4, q5⟩ := sto_inv q2
        cases q3
        obtain ⟨q6, q7⟩ := store_map (b := b) q5
        exact ⟨q7, T, X, rfl, fun target k' => XT.iincV X.here hx rfl _ hd rfl (lod_tv q) q6 k'⟩
  | goto o =>
    simp only [stepP] at h
    cases q : jmp aux with
    | none => rw [q] at h; cases h
    | some t =>
      rw [q] at h; cases h
      obtain ⟨t', rfl⟩ : ∃ t', aux = [t'] := by
        simp only [okLink] at hl; split at hl
        · exact ⟨_, rfl⟩
        · cases hl
      cases q
      have ho := of_decide_eq_true (show decide ((pc : Int) + o = (pc' : Int)) = true from hl)
      exact ⟨rfl, T, X, rfl, fun target k' => XS.goto X.here hx rfl (pc0 := pc) (pc' := pc') rfl hd (by rw [ho]; exact Int.natCast_nonneg _) (by rw [ho]; rfl) k'⟩
  | ifCond cd o =>
    simp only [stepP] at h
    split at h
    · rename_i x r
      cases q : br (RA.2 (.ifCond cd o) [x]) aux (pc + 3) with
      | none => simp only [q] at h; cases h
      | some t =>
        simp only [q] at h; cases h
        cases x with
        | int u =>
          rcases br_inv q with ⟨q1, q2⟩ | ⟨q1, rfl⟩
          · obtain ⟨t', rfl⟩ : ∃ t', aux = [t'] := by
              simp only [okLink] at hl; split at hl
              · exact ⟨_, rfl⟩
              · cases hl
            cases q2
            have ho := of_decide_eq_true (show decide ((pc : Int) + o = (pc' : Int)) = true from hl)
            exact ⟨rfl, T, X, rfl, fun target k' => XS.ifYes X.here hx rfl (pc0 := pc) (pc' := pc') rfl hd rfl (Option.some.inj q1) (by rw [ho]; exact Int.natCast_nonneg _) (by rw [ho]; rfl) k'⟩
          · exact ⟨rfl, T, X, rfl, fun target k' => XS.ifNo X.here hx rfl hd rfl (Option.some.inj q1) k'⟩
        | _ => rcases br_inv q with ⟨q1, _⟩ | ⟨q1, _⟩ <;> cases q1
    · cases h
  | if_icmp cd o =>
    simp only [stepP] at h
    split at h
    · rename_i y x r
      cases q : br (RA.2 (.if_icmp cd o) [x, y]) aux (pc + 3) with
      | none => simp only [q] at h; cases h
      | some t =>
        simp only [q] at h; cases h
        cases x with
        | int u => cases y with
          | int w =>
            rcases br_inv q with ⟨q1, q2⟩ | ⟨q1, rfl⟩
            · obtain ⟨t', rfl⟩ : ∃ t', aux = [t'] := by
                simp only [okLink] at hl; split at hl
                · exact ⟨_, rfl⟩
                · cases hl
              cases q2
              have ho := of_decide_eq_true (show decide ((pc : Int) + o = (pc' : Int)) = true from hl)
              exact ⟨rfl, T, X, rfl, fun target k' => XS.icmpYes X.here hx rfl (pc0 := pc) (pc' := pc') rfl hd rfl (Option.some.inj q1) (by rw [ho]; exact Int.natCast_nonneg _) (by rw [ho]; rfl) k'⟩
            · exact ⟨rfl, T, X, rfl, fun target k' => XS.icmpNo X.here hx rfl hd rfl (Option.some.inj q1) k'⟩
          | _ => rcases br_inv q with ⟨q1, _⟩ | ⟨q1, _⟩ <;> cases q1
        | _ => cases y <;> rcases br_inv q with ⟨q1, _⟩ | ⟨q1, _⟩ <;> cases q1
    · cases h
  | ifnull o =>
    simp only [stepP] at h
    split at h
    · rename_i x r
      cases q : br (isNul x) aux (pc + 3) with
      | none => simp only [q] at h; cases h
      | some t =>
        simp only [q] at h; cases h
        rcases br_inv q with ⟨q1, q2⟩ | ⟨q1, rfl⟩
        · obtain ⟨t', rfl⟩ : ∃ t', aux = [t'] := by
            simp only [okLink] at hl; split at hl
            · exact ⟨_, rfl⟩
            · cases hl
          cases q2
          have ho := of_decide_eq_true (show decide ((pc : Int) + o = (pc' : Int)) = true from hl)
          cases x with
          | null => exact ⟨rfl, T, X, rfl, fun target k' => XS.ifnullYes X.here hx rfl (pc0 := pc) (pc' := pc') rfl hd rfl (by rw [ho]; exact Int.natCast_nonneg _) (by rw [ho]; rfl) k'⟩
          | _ => cases q1
        · cases x with
          | ref u => exact ⟨rfl, T, X, rfl, fun target k' => XS.ifnullNo X.here hx rfl hd rfl k'⟩
          | _ => cases q1
    · cases h
  | ifnonnull o =>
    simp only [stepP] at h
    split at h
    · rename_i x r
      cases q : br ((isNul x).map (!·)) aux (pc + 3) with
      | none => simp only [q] at h; cases h
      | some t =>
        simp only [q] at h; cases h
        rcases br_inv q with ⟨q1, q2⟩ | ⟨q1, rfl⟩
        · obtain ⟨t', rfl⟩ : ∃ t', aux = [t'] := by
            simp only [okLink] at hl; split at hl
            · exact ⟨_, rfl⟩
            · cases hl
          cases q2
          have ho := of_decide_eq_true (show decide ((pc : Int) + o = (pc' : Int)) = true from hl)
          cases x with
          | ref u => exact ⟨rfl, T, X, rfl, fun target k' => XT.ifnonnullYes X.here hx rfl (pc0 := pc) (pc' := pc') rfl hd rfl (by rw [ho]; exact Int.natCast_nonneg _) (by rw [ho]; rfl) k'⟩
          | _ => cases q1
        · cases x with
          | null => exact ⟨rfl, T, X, rfl, fun target k' => XT.ifnonnullNo X.here hx rfl hd rfl k'⟩
          | _ => cases q1
    · cases h
  | if_acmp cd o =>
    have hs : ∀ x y r, st = y :: x :: r → ∀ bb : Bool, same x y = some bb → kd x = 3 ∧ kd y = 3 ∧ decide (tv b x = tv b y) = bb := by
      intro x y r _ bb hb
      simp only [same] at hb
      cases q : (Nat.beq (kd x) 3 && Nat.beq (kd y) 3)
      · rw [q] at hb; cases hb
      · rw [q] at hb
        obtain ⟨u1, u2⟩ := Bool.and_eq_true_iff.mp q
        refine ⟨Nat.eq_of_beq_eq_true u1, Nat.eq_of_beq_eq_true u2, ?_⟩
        cases hb
        simp only [tv_inj]
    cases cd with
    | eq =>
      simp only [stepP] at h
      split at h
      · rename_i y x r
        cases q : br (same x y) aux (pc + 3) with
        | none => simp only [q] at h; cases h
        | some t =>
          simp only [q] at h; cases h
          rcases br_inv q with ⟨q1, q2⟩ | ⟨q1, rfl⟩
          · obtain ⟨t', rfl⟩ : ∃ t', aux = [t'] := by
              simp only [okLink] at hl; split at hl
              · exact ⟨_, rfl⟩
              · cases hl
            cases q2
            obtain ⟨k1, k2, k3⟩ := hs x y _ rfl _ q1
            have ho := of_decide_eq_true (show decide ((pc : Int) + o = (pc' : Int)) = true from hl)
            exact ⟨rfl, T, X, rfl, fun target k' => XT.acmpYes X.here hx rfl (pc0 := pc) (pc' := pc') rfl hd rfl (kd_ref k1) (kd_ref k2) (XT.aa_eq_t (of_decide_eq_true k3)) (by rw [ho]; exact Int.natCast_nonneg _) (by rw [ho]; rfl) k'⟩
          · obtain ⟨k1, k2, k3⟩ := hs x y _ rfl _ q1
            exact ⟨rfl, T, X, rfl, fun target k' => XT.acmpNo X.here hx rfl hd rfl (kd_ref k1) (kd_ref k2) (XT.aa_eq_f (of_decide_eq_false k3)) k'⟩
      · cases h
    | ne =>
      simp only [stepP] at h
      split at h
      · rename_i y x r
        cases q : br ((same x y).map (!·)) aux (pc + 3) with
        | none => simp only [q] at h; cases h
        | some t =>
          simp only [q] at h; cases h
          cases u : same x y with
          | none => rw [u] at q; cases q
          | some bb =>
          rw [u] at q
          obtain ⟨k1, k2, k3⟩ := hs x y _ rfl _ u
          rcases br_inv q with ⟨q1, q2⟩ | ⟨q1, rfl⟩
          · obtain ⟨t', rfl⟩ : ∃ t', aux = [t'] := by
              simp only [okLink] at hl; split at hl
              · exact ⟨_, rfl⟩
              · cases hl
            cases q2
            have hbb : bb = false := by cases bb <;> first | rfl | cases q1
            subst hbb
            have ho := of_decide_eq_true (show decide ((pc : Int) + o = (pc' : Int)) = true from hl)
            exact ⟨rfl, T, X, rfl, fun target k' => XT.acmpYes X.here hx rfl (pc0 := pc) (pc' := pc') rfl hd rfl (kd_ref k1) (kd_ref k2) (XT.aa_ne_t (of_decide_eq_false k3)) (by rw [ho]; exact Int.natCast_nonneg _) (by rw [ho]; rfl) k'⟩
          · have hbb : bb = true := by cases bb <;> first | rfl | cases q1
            subst hbb
            exact ⟨rfl, T, X, rfl, fun target k' => XT.acmpNo X.here hx rfl hd rfl (kd_ref k1) (kd_ref k2) (XT.aa_ne_f (of_decide_eq_true k3)) k'⟩
      · cases h
  | dup =>
    simp only [stepP] at h
    split at h
    · rename_i x r
      cases q : Nat.beq x.category 1
      · rw [q] at h; cases h
      · rw [q] at h; cases h
        exact ⟨rfl, T, X, rfl, fun target k' => XS.dup X.here hx rfl hd rfl (by rw [tv_cat]; exact Nat.eq_of_beq_eq_true q) k'⟩
    · cases h
  | dup_x1 =>
    simp only [stepP] at h
    split at h
    · rename_i x y r
      cases q : (Nat.beq x.category 1 && Nat.beq y.category 1)
      · rw [q] at h; cases h
      · rw [q] at h; cases h
        obtain ⟨u1, u2⟩ := Bool.and_eq_true_iff.mp q
        exact ⟨rfl, T, X, rfl, fun target k' => XT.dupX1 X.here hx rfl hd rfl (by rw [tv_cat]; exact Nat.eq_of_beq_eq_true u1) (by rw [tv_cat]; exact Nat.eq_of_beq_eq_true u2) k'⟩
    · cases h
  | dup2 =>
    simp only [stepP] at h
    split at h
    · rename_i x y r
      cases q : (Nat.beq x.category 1 && Nat.beq y.category 1)
      · rw [q] at h; cases h
      · rw [q] at h; cases h
        obtain ⟨u1, u2⟩ := Bool.and_eq_true_iff.mp q
        exact ⟨rfl, T, X, rfl, fun target k' => XT.dup2 X.here hx rfl hd rfl (by rw [tv_cat]; exact Nat.eq_of_beq_eq_true u1) (by rw [tv_cat]; exact Nat.eq_of_beq_eq_true u2) k'⟩
    · cases h
  | pop =>
    simp only [stepP] at h
    split at h
    · rename_i x r
      cases q : Nat.beq x.category 1
      · rw [q] at h; cases h
      · rw [q] at h; cases h
        exact ⟨rfl, T, X, rfl, fun target k' => XT.pop X.here hx rfl hd rfl (by rw [tv_cat]; exact Nat.eq_of_beq_eq_true q) k'⟩
    · cases h
  | getfield k =>
    simp only [stepP] at h
    split at h
    · rename_i a r
      split at h
      · rename_i cid fs q
        split at h
        · rename_i f q2
          cases q3 : gF fs f with
          | none => simp only [q3] at h; cases h
          | some v =>
            simp only [q3] at h; cases h
            obtain ⟨-, ce, -, -, -, hF⟩ := hR.obj q
            obtain ⟨fe, g1, g2⟩ := hF f v q3
            have hl2 : aux = [f] := by
              simp only [okLink] at hl; split at hl
              · cases q2; rfl
              · cases hl
            subst hl2
            simp only [okLink, g1] at hl
            obtain ⟨rr, w1, w2⟩ := linkF_ok hw hl
            obtain ⟨T', X', e', st'⟩ := getF X hx hZ hown (host := "") (Or.inl w1) w2 rfl g2 (g := Fm b m pc ls (.ref a :: r)) rfl rfl hd
            exact ⟨rfl, T', X', e', fun target k' => st' target k'⟩
        · cases h
      · cases h
    · cases h
  | arraylength =>
    simp only [stepP] at h
    split at h
    · rename_i a r
      split at h
      · rename_i ty vs q
        have q1 : RA.1 .arraylength [.int vs.length.toInt32] = some (.int vs.length.toInt32) := rfl
        simp only [q1] at h
        cases h
        obtain ⟨-, cl, A, S, -⟩ := hR.arr q
        have hs : cl.slots.size = vs.length := by rw [S]; simp
        refine ⟨rfl, T, X, rfl, fun target k' => X.arraylength hx (cell := cl) A.1 (State.isArrayOf_alike hZ.alike A.2.1) (g := Fm b m pc ls (.ref a :: r)) rfl (rest := r.map (tv b)) rfl hd target ?_⟩
        rw [hs]
        exact k'
      · cases h
    · cases h
  | iaload =>
    simp only [stepP] at h
    cases q : ald RA (fun t => decide (t = .int)) mh st with
    | none => rw [q] at h; cases h
    | some z =>
      rw [q] at h; cases h
      obtain ⟨j, a, r, ty, vs, v, rfl, q1, q2, q3, q4, rfl⟩ := ald_inv q
      cases of_decide_eq_true q2
      obtain ⟨-, cl, A, S, -⟩ := hR.arr q1
      have hs : cl.slots.size = vs.length := by rw [S]; simp
      exact ⟨rfl, T, X, rfl, fun target k' => X.iaload hx (j := j) (v := tv b v) A.1 (State.isArrayOf_alike hZ.alike A.2.1) A.2.2 (by rw [hs]; exact q3) (by rw [S, List.getElem?_toArray, List.getElem?_map, q4]; rfl) (g := Fm b m pc ls (.int j :: .ref a :: r)) rfl rfl hd target k'⟩
  | laload =>
    simp only [stepP] at h
    cases q : ald RA (fun t => decide (t = .long)) mh st with
    | none => rw [q] at h; cases h
    | some z =>
      rw [q] at h; cases h
      obtain ⟨j, a, r, ty, vs, v, rfl, q1, q2, q3, q4, rfl⟩ := ald_inv q
      cases of_decide_eq_true q2
      obtain ⟨-, cl, A, S, -⟩ := hR.arr q1
      have hs : cl.slots.size = vs.length := by rw [S]; simp
      exact ⟨rfl, T, X, rfl, fun target k' => X.laload hx (j := j) (v := tv b v) A.1 (State.isArrayOf_alike hZ.alike A.2.1) A.2.2 (by rw [hs]; exact q3) (by rw [S, List.getElem?_toArray, List.getElem?_map, q4]; rfl) (g := Fm b m pc ls (.int j :: .ref a :: r)) rfl rfl hd target k'⟩
  | baload =>
    simp only [stepP] at h
    cases q : ald RA (fun t => decide (t = .byte)) mh st with
    | none => rw [q] at h; cases h
    | some z =>
      rw [q] at h; cases h
      obtain ⟨j, a, r, ty, vs, v, rfl, q1, q2, q3, q4, rfl⟩ := ald_inv q
      cases of_decide_eq_true q2
      obtain ⟨-, cl, A, S, -⟩ := hR.arr q1
      have hs : cl.slots.size = vs.length := by rw [S]; simp
      exact ⟨rfl, T, X, rfl, fun target k' => X.baloadBytes hx (j := j) (v := tv b v) A.1 (State.isArrayOf_alike hZ.alike A.2.1) A.2.2 (by rw [hs]; exact q3) (by rw [S, List.getElem?_toArray, List.getElem?_map, q4]; rfl) (g := Fm b m pc ls (.int j :: .ref a :: r)) rfl rfl hd target k'⟩
  | aaload =>
    simp only [stepP] at h
    cases q : ald RA (fun t => t.isReference) mh st with
    | none => rw [q] at h; cases h
    | some z =>
      rw [q] at h; cases h
      obtain ⟨j, a, r, ty, vs, v, rfl, q1, q2, q3, q4, rfl⟩ := ald_inv q
      obtain ⟨-, cl, A, S, -⟩ := hR.arr q1
      have hs : cl.slots.size = vs.length := by rw [S]; simp
      exact ⟨rfl, T, X, rfl, fun target k' => X.aaload hx (j := j) (v := tv b v) A.1 (State.isArrayOf_alike hZ.alike A.2.1) q2 A.2.2 (by rw [hs]; exact q3) (by rw [S, List.getElem?_toArray, List.getElem?_map, q4]; rfl) (g := Fm b m pc ls (.int j :: .ref a :: r)) rfl rfl hd target k'⟩
  | _ => exact nomatch (show (none : Option (Nat × Array Slot × List Value)) = some (pc', ls', st') from h)
end Step
end Jvm.OwnM
namespace Jvm.OwnM
open Jvm Jvm.ClassFile Sem Op Lib Jvm.Stand Jvm.Free Jvm.LawKit Jvm.RoadKit
def oslO (P : Prog) : Obj → Nat
  | .inl (cid, _) => (match P.C[cid]? with | some e => e.2.1 | none => 0)
  | .inr (_, vs) => vs.length
/-- the slots of all made objects -/
def osl (P : Prog) : List Obj → Nat
  | [] => 0
  | o :: r => oslO P o + osl P r
theorem osl_app (P : Prog) : ∀ (x y : List Obj), osl P (x ++ y) = osl P x + osl P y
  | [], y => by simp [osl]
  | o :: r, y => by simp only [List.cons_append, osl, osl_app P r y]; omega
theorem osl_set (P : Prog) {o o' : Obj} (h : oslO P o' = oslO P o) : ∀ (mh : List Obj) (a : Nat), mh[a]? = some o → osl P (mh.set a o') = osl P mh
  | [], a, q => by simp at q
  | x :: r, 0, q => by simp at q; subst q; simp only [List.set_cons_zero, osl, h]
  | x :: r, a + 1, q => by simp only [List.set_cons_succ, osl, osl_set P h r a (by simpa using q)]
theorem objAt_inv {mh : List Obj} {a : Nat} {o : Nat × List (Nat × Value)} (q : objAt mh a = some o) : mh[a]? = some (.inl o) := by
  simp only [objAt] at q
  split at q
  · rename_i o' e; cases q; exact e
  · cases q
theorem arrAt_inv {mh : List Obj} {a : Nat} {o : FieldType × List Value} (q : arrAt mh a = some o) : mh[a]? = some (.inr o) := by
  simp only [arrAt] at q
  split at q
  · rename_i o' e; cases q; exact e
  · cases q
theorem ast_inv {A : Alg} {t : FieldType} {mh : List Obj} {st st' : List Value} {mh' : List Obj} (h : ast A t mh st = some (st', mh')) : ∃ v j a vs k w, st = v :: j :: .ref a :: st' ∧ arrAt mh a = some (t, vs) ∧ place A j vs.length = some k ∧ narA A t v = some w ∧ okAt vs k = true ∧ mh' = mh.set a (.inr (t, vs.set k w)) := by
  simp only [ast] at h
  split at h
  · rename_i v j a r
    split at h
    · rename_i ty vs e
      split at h
      · rename_i ht
        subst ht
        split at h
        · rename_i k w e1 e2
          cases q : okAt vs k
          · rw [q] at h; cases h
          · rw [q] at h; cases h
            exact ⟨v, j, a, vs, k, w, rfl, e, e1, e2, q, rfl⟩
        · cases h
      · cases h
    · cases h
  · cases h
theorem put_inv {P : Prog} {A : Alg} {k0 : Nat} {aux : List Nat} {mh : List Obj} {st st' : List Value} {mh' : List Obj} (h : stepH P A (.putfield k0) aux st mh = some (st', mh')) : ∃ v a cid fs f e w old, st = v :: .ref a :: st' ∧ objAt mh a = some (cid, fs) ∧ aux.head? = some f ∧ P.F[f]? = some e ∧ narA A e.2.2.2 v = some w ∧ gF fs f = some old ∧ mh' = mh.set a (.inl (cid, sF fs f w)) := by
  simp only [stepH] at h
  split at h
  · rename_i v a r
    split at h
    · rename_i cid fs f e1 e2
      split at h
      · rename_i e e3
        split at h
        · rename_i w old e4 e5
          cases h
          exact ⟨v, a, cid, fs, f, e, w, old, rfl, e1, e2, e3, e4, e5, rfl⟩
        · cases h
      · cases h
    · cases h
  · cases h
theorem new_inv {P : Prog} {A : Alg} {k0 : Nat} {aux : List Nat} {mh : List Obj} {st st' : List Value} {mh' : List Obj} (h : stepH P A (.new k0) aux st mh = some (st', mh')) : ∃ cid ce, aux.head? = some cid ∧ P.C[cid]? = some ce ∧ st' = .ref mh.length :: st ∧ mh' = mh ++ [.inl (cid, ce.2.2.map fun f => (f, dft P f))] := by
  simp only [stepH] at h
  split at h
  · rename_i cid e1
    split at h
    · rename_i C n fids e2
      cases h
      exact ⟨cid, _, e1, e2, rfl, rfl⟩
    · cases h
  · cases h
theorem newarr_inv {P : Prog} {A : Alg} {aty : ArrayType} {aux : List Nat} {mh : List Obj} {st st' : List Value} {mh' : List Obj} (h : stepH P A (.newarray aty) aux st mh = some (st', mh')) : ∃ v r n, st = v :: r ∧ czN A (.newarray aty) v = some n ∧ ¬ n < 0 ∧ n.toNatClampNeg ≤ 65536 ∧ st' = .ref mh.length :: r ∧ mh' = mh ++ [.inr (newarray.typeOf aty, List.replicate n.toNatClampNeg (defaultValue (newarray.typeOf aty)))] := by
  simp only [stepH] at h
  split at h
  · rename_i v r
    split at h
    · rename_i n e1
      split at h
      · cases h
      · rename_i hn
        cases q : Nat.ble n.toNatClampNeg 65536
        · rw [q] at h; cases h
        · rw [q] at h; cases h
          exact ⟨v, r, n, rfl, e1, hn, Nat.le_of_ble_eq_true q, rfl, rfl⟩
    · cases h
  · cases h
theorem anewarr_inv {P : Prog} {A : Alg} {k0 : Nat} {aux : List Nat} {mh : List Obj} {st st' : List Value} {mh' : List Obj} (h : stepH P A (.anewarray k0) aux st mh = some (st', mh')) : ∃ cid v r e n, aux.head? = some cid ∧ st = v :: r ∧ P.C[cid]? = some e ∧ czN A (.anewarray k0) v = some n ∧ ¬ n < 0 ∧ n.toNatClampNeg ≤ 65536 ∧ st' = .ref mh.length :: r ∧ mh' = mh ++ [.inr (.object e.1, List.replicate n.toNatClampNeg .null)] := by
  simp only [stepH] at h
  split at h
  · rename_i cid v r e0
    split at h
    · rename_i e n e1 e2
      split at h
      · cases h
      · rename_i hn
        cases q : Nat.ble n.toNatClampNeg 65536
        · rw [q] at h; cases h
        · rw [q] at h; cases h
          exact ⟨cid, v, r, e, n, e0, rfl, e1, e2, hn, Nat.le_of_ble_eq_true q, rfl, rfl⟩
    · cases h
  · cases h
theorem aast_inv {P : Prog} {A : Alg} {aux : List Nat} {mh : List Obj} {st st' : List Value} {mh' : List Obj} (h : stepH P A .aastore aux st mh = some (st', mh')) : ∃ v j a C vs k, st = v :: j :: .ref a :: st' ∧ arrAt mh a = some (.object C, vs) ∧ place A j vs.length = some k ∧ okSt P mh C v = true ∧ okAt vs k = true ∧ mh' = mh.set a (.inr (.object C, vs.set k v)) := by
  simp only [stepH] at h
  split at h
  · rename_i v j a r
    split at h
    · rename_i C vs e1
      split at h
      · rename_i k e2
        cases q : (okSt P mh C v && okAt vs k)
        · rw [q] at h; cases h
        · rw [q] at h; cases h
          obtain ⟨q1, q2⟩ := Bool.and_eq_true_iff.mp q
          exact ⟨v, j, a, C, vs, k, rfl, e1, e2, q1, q2, rfl⟩
      · cases h
    · cases h
  · cases h
theorem stepH_kind {P : Prog} {A : Alg} {i : Instr} {aux : List Nat} {mh : List Obj} {st st' : List Value} {mh' : List Obj} (h : stepH P A i aux st mh = some (st', mh')) :
    (∃ k, i = .new k) ∨ (∃ t, i = .newarray t) ∨ (∃ k, i = .anewarray k) ∨ (∃ k, i = .putfield k) ∨ i = .iastore ∨ i = .lastore ∨ i = .bastore ∨ i = .aastore := by
  cases i with
  | new k => exact Or.inl ⟨k, rfl⟩
  | newarray t => exact Or.inr (Or.inl ⟨t, rfl⟩)
  | anewarray k => exact Or.inr (Or.inr (Or.inl ⟨k, rfl⟩))
  | putfield k => exact Or.inr (Or.inr (Or.inr (Or.inl ⟨k, rfl⟩)))
  | iastore => simp
  | lastore => simp
  | bastore => simp
  | aastore => simp
  | _ => exact nomatch (show (none : Option (List Value × List Obj)) = some (st', mh') from h)
theorem ast_mono {P : Prog} {A : Alg} {t : FieldType} {mh : List Obj} {st st' : List Value} {mh' : List Obj} (h : ast A t mh st = some (st', mh')) : mh'.length = mh.length ∧ osl P mh' = osl P mh := by
  obtain ⟨v, j, a, vs, k, w, rfl, e1, e2, e3, e4, rfl⟩ := ast_inv h
  exact ⟨List.length_set .., osl_set P (by simp [oslO]) _ _ (arrAt_inv e1)⟩
theorem stepH_mono {P : Prog} {A : Alg} {i : Instr} {aux : List Nat} {mh : List Obj} {st st' : List Value} {mh' : List Obj} (h : stepH P A i aux st mh = some (st', mh')) : mh.length ≤ mh'.length ∧ osl P mh ≤ osl P mh' := by
  rcases stepH_kind h with ⟨k, rfl⟩ | ⟨t, rfl⟩ | ⟨k, rfl⟩ | ⟨k, rfl⟩ | rfl | rfl | rfl | rfl
  · obtain ⟨cid, ce, -, -, -, rfl⟩ := new_inv h
    simp only [List.length_append, osl_app]; omega
  · obtain ⟨v, r, n, -, -, -, -, -, rfl⟩ := newarr_inv h
    simp only [List.length_append, osl_app]; omega
  · obtain ⟨cid, v, r, e, n, -, -, -, -, -, -, -, rfl⟩ := anewarr_inv h
    simp only [List.length_append, osl_app]; omega
  · obtain ⟨v, a, cid, fs, f, e, w, old, -, e1, -, -, -, -, rfl⟩ := put_inv h
    rw [List.length_set, osl_set P (by simp [oslO]) _ _ (objAt_inv e1)]
    exact ⟨Nat.le_refl _, Nat.le_refl _⟩
  · have q := ast_mono (P := P) (show ast A .int mh st = some (st', mh') from h); omega
  · have q := ast_mono (P := P) (show ast A .long mh st = some (st', mh') from h); omega
  · have q := ast_mono (P := P) (show ast A .byte mh st = some (st', mh') from h); omega
  · obtain ⟨v, j, a, C, vs, k, -, e1, -, -, -, rfl⟩ := aast_inv h
    rw [List.length_set, osl_set P (by simp [oslO]) _ _ (arrAt_inv e1)]
    exact ⟨Nat.le_refl _, Nat.le_refl _⟩
theorem exec_inv {P : Prog} {A : Alg} {n F Lc : Nat} {m : Mth} {pc : Nat} {ls : Array Slot} {st : List Value} {mh : List Obj} {v : Option Value} {mh' : List Obj} (h : exec P A (n + 1) F Lc m pc ls st mh = some (v, mh')) :
    ∃ r0 i aux cv, m.at pc = some (r0, i, aux, cv) ∧
      ((icl i = 0 ∧ ∃ pc' ls' st', stepP A i aux cv pc ls st mh = some (pc', ls', st') ∧ exec P A n F Lc m pc' ls' st' mh = some (v, mh'))
      ∨ (icl i = 1 ∧ ∃ st' mh1, stepH P A i aux st mh = some (st', mh1) ∧ exec P A n F Lc m (pc + ln i) ls st' mh1 = some (v, mh'))
      ∨ (icl i = 2 ∧ aux = [] ∧ ∃ a r, st = .ref a :: r ∧ 1 ≤ F ∧ catS r + 12 ≤ Lc ∧ exec P A n F Lc m (pc + 3) ls r mh = some (v, mh'))
      ∨ (icl i = 2 ∧ ∃ k na m' v1 mh1, callee i aux st mh = some (k, na) ∧ P.M[k]? = some m' ∧ 1 ≤ F ∧ catS (st.drop na) + (m'.mx + 11) ≤ Lc ∧ na ≤ st.length ∧ (entryL (st.take na).reverse m'.mx).size = m'.mx ∧ exec P A n (F - 1) (Lc - (catS (st.drop na) + (m'.mx + 11))) m' 0 (entryL (st.take na).reverse m'.mx) [] mh = some (v1, mh1) ∧ exec P A n F Lc m (pc + ln i) ls (v1.toList ++ st.drop na) mh1 = some (v, mh'))
      ∨ (retV A i m.rt st = some v ∧ mh' = mh)) := by
  simp only [exec, execB] at h
  split at h
  · cases h
  · rename_i r0 i aux cv hat
    refine ⟨r0, i, aux, cv, hat, ?_⟩
    split at h
    · rename_i hi
      split at h
      · rename_i pc' ls' st' e1
        exact Or.inl ⟨hi, pc', ls', st', e1, h⟩
      · cases h
    · rename_i hi
      split at h
      · rename_i st' mh1 e1
        exact Or.inr (Or.inl ⟨hi, st', mh1, e1, h⟩)
      · cases h
    · rename_i hi
      split at h
      · split at h
        · rename_i a r
          cases q : (Nat.ble 1 F && Nat.ble (catS r + 12) Lc)
          · rw [q] at h; cases h
          · rw [q] at h
            obtain ⟨q1, q2⟩ := Bool.and_eq_true_iff.mp q
            exact Or.inr (Or.inr (Or.inl ⟨hi, rfl, a, r, rfl, Nat.le_of_ble_eq_true q1, Nat.le_of_ble_eq_true q2, h⟩))
        · cases h
      · split at h
        · rename_i k na e1
          split at h
          · rename_i m' e2
            cases q : (Nat.ble 1 F && Nat.ble (catS (st.drop na) + (m'.mx + 11)) Lc && Nat.ble na st.length && Nat.beq (entryL (st.take na).reverse m'.mx).size m'.mx)
            · rw [q] at h; cases h
            · rw [q] at h
              simp only [cond_true] at h
              obtain ⟨q1, q5⟩ := Bool.and_eq_true_iff.mp q
              obtain ⟨q1, q4⟩ := Bool.and_eq_true_iff.mp q1
              obtain ⟨q2, q3⟩ := Bool.and_eq_true_iff.mp q1
              split at h
              · rename_i v1 mh1 e3
                exact Or.inr (Or.inr (Or.inr (Or.inl ⟨hi, k, na, m', v1, mh1, e1, e2, Nat.le_of_ble_eq_true q2, Nat.le_of_ble_eq_true q3, Nat.le_of_ble_eq_true q4, Nat.eq_of_beq_eq_true q5, e3, h⟩)))
              · cases h
          · cases h
        · cases h
    · split at h
      · rename_i w e1
        cases h
        exact Or.inr (Or.inr (Or.inr (Or.inr ⟨e1, rfl⟩)))
      · cases h
theorem exec_mono {P : Prog} {A : Alg} : ∀ {n F Lc : Nat} {m : Mth} {pc : Nat} {ls : Array Slot} {st : List Value} {mh : List Obj} {v : Option Value} {mh' : List Obj}, exec P A n F Lc m pc ls st mh = some (v, mh') → mh.length ≤ mh'.length ∧ osl P mh ≤ osl P mh'
  | 0, F, Lc, m, pc, ls, st, mh, v, mh', h => by simp only [exec] at h; cases h
  | n + 1, F, Lc, m, pc, ls, st, mh, v, mh', h => by
    obtain ⟨r0, i, aux, cv, -, h | h | h | h | h⟩ := exec_inv h
    · obtain ⟨-, pc', ls', st', -, h⟩ := h
      exact exec_mono h
    · obtain ⟨-, st', mh1, h1, h⟩ := h
      have a1 := stepH_mono h1
      have a2 := exec_mono h
      omega
    · obtain ⟨-, -, a, r, -, -, -, h⟩ := h
      exact exec_mono h
    · obtain ⟨-, k, na, m', v1, mh1, -, -, -, -, -, -, h1, h⟩ := h
      have a1 := exec_mono h1
      have a2 := exec_mono h
      omega
    · obtain ⟨-, rfl⟩ := h
      exact ⟨Nat.le_refl _, Nat.le_refl _⟩
theorem gF_new {P : Prog} {f : Nat} {v : Value} : ∀ {fids : List Nat}, gF (fids.map fun f => (f, dft P f)) f = some v → f ∈ fids ∧ v = dft P f
  | [], h => by cases h
  | g :: r, h => by
    simp only [List.map_cons, gF] at h
    cases q : Nat.beq g f
    · rw [q] at h; obtain ⟨h1, h2⟩ := gF_new h; exact ⟨List.mem_cons_of_mem _ h1, h2⟩
    · rw [q] at h; cases Nat.eq_of_beq_eq_true q; cases h; exact ⟨List.mem_cons_self .., rfl⟩
theorem narA_ra {b : Nat} {t : FieldType} {v w : Value} (h : narA RA t v = some w) : narrow t (tv b v) = tv b w ∧ fits t (tv b w) = true := by
  cases t with
  | boolean =>
    cases v with
    | int x => cases Option.some.inj (show some (Value.int (x &&& 1)) = some w from h); exact ⟨rfl, fits_nar_bool x⟩
    | _ => exact nomatch (show (none : Option Value) = some w from h)
  | byte =>
    cases v with
    | int x => cases Option.some.inj (show some (Value.int x.toInt8.toInt32) = some w from h); exact ⟨rfl, fits_nar_byte x⟩
    | _ => exact nomatch (show (none : Option Value) = some w from h)
  | char =>
    cases v with
    | int x => cases Option.some.inj (show some (Value.int x.toUInt32.toUInt16.toUInt32.toInt32) = some w from h); exact ⟨rfl, fits_nar_char x⟩
    | _ => exact nomatch (show (none : Option Value) = some w from h)
  | short =>
    cases v with
    | int x => cases Option.some.inj (show some (Value.int x.toInt16.toInt32) = some w from h); exact ⟨rfl, fits_nar_short x⟩
    | _ => exact nomatch (show (none : Option Value) = some w from h)
  | int =>
    cases v with
    | int x => cases Option.some.inj (show some (Value.int x) = some w from h); exact ⟨rfl, rfl⟩
    | _ => exact nomatch (show (none : Option Value) = some w from h)
  | long =>
    cases v with
    | long x => cases Option.some.inj (show some (Value.long x) = some w from h); exact ⟨rfl, rfl⟩
    | _ => exact nomatch (show (none : Option Value) = some w from h)
  | object C =>
    cases v with
    | null => cases Option.some.inj (show some Value.null = some w from h); exact ⟨rfl, rfl⟩
    | ref x => cases Option.some.inj (show some (Value.ref x) = some w from h); exact ⟨rfl, rfl⟩
    | _ => exact nomatch (show (none : Option Value) = some w from h)
  | array C =>
    cases v with
    | null => cases Option.some.inj (show some Value.null = some w from h); exact ⟨rfl, rfl⟩
    | ref x => cases Option.some.inj (show some (Value.ref x) = some w from h); exact ⟨rfl, rfl⟩
    | _ => exact nomatch (show (none : Option Value) = some w from h)
  | _ => exact nomatch (show (none : Option Value) = some w from h)
theorem RO.arrSet {Z : State} {P : Prog} {b : Nat} {h h' : Heap} {a k : Nat} {w : Value} {ty : FieldType} {vs : List Value} (X : RO Z P b h a (.inr (ty, vs))) (W : Wr h h' (b + a) k (tv b w)) : RO Z P b h' a (.inr (ty, vs.set k w)) := by
  obtain ⟨c, h1, h2, h3⟩ := X
  refine ⟨_, h1.same W, ?_, h3⟩
  show (c.slots.setIfInBounds k (tv b w)) = _
  rw [h2, List.map_set]
  simp
theorem okP_cls {ws : List Jvm.Cond} {P : Prog} (h : okP ws P = true) {cid : Nat} {ce : ClsE} (q : P.C[cid]? = some ce) : okC ws P ce = true := by
  simp only [okP, Bool.and_eq_true] at h
  exact List.all_eq_true.mp h.1.2 _ (List.mem_of_getElem? q)
theorem okP_cast {ws : List Jvm.Cond} {P : Prog} (h : okP ws P = true) {q : String × String} (hq : q ∈ P.K) : Jvm.Cond.castable q.1 q.2 ∈ ws := by
  simp only [okP, Bool.and_eq_true] at h
  exact hasW_mem (List.all_eq_true.mp h.2 _ hq)
theorem okP_mth {ws : List Jvm.Cond} {P : Prog} (h : okP ws P = true) {k : Nat} {m : Mth} (q : P.M[k]? = some m) : ∃ bs, Jvm.Cond.code m.y bs m.mx m.rt ∈ ws ∧ okM ws P m bs = true ∧ Jvm.Cond.initialized m.y.cls ∈ ws := by
  simp only [okP, Bool.and_eq_true] at h
  have h1 := List.all_eq_true.mp h.1.1 _ (List.mem_of_getElem? q)
  split at h1
  · rename_i bs e
    obtain ⟨a1, a2⟩ := Bool.and_eq_true_iff.mp h1
    exact ⟨bs, codeOf_mem e, a1, hasW_mem a2⟩
  · cases h1
theorem okC_fld {ws : List Jvm.Cond} {P : Prog} {ce : ClsE} (h : okC ws P ce = true) {Z : State} {a0 : Array Value} (hw : ∀ d ∈ ws, d.before a0 Z = true) {f : Nat} (hf : f ∈ ce.2.2) : ∃ e, P.F[f]? = some e ∧ Laid Z a0 ce.1 e.1 e.2.1 e.2.2.1 ∧ parseFieldDescriptor e.2.2.1 = some e.2.2.2 := by
  simp only [okC, Bool.and_eq_true] at h
  have h1 := List.all_eq_true.mp h.1.2 _ hf
  split at h1
  · rename_i e q
    obtain ⟨a1, a2⟩ := Bool.and_eq_true_iff.mp h1
    refine ⟨e, q, ?_, of_decide_eq_true a2⟩
    rcases Bool.or_eq_true_iff.mp a1 with a | a
    · exact Or.inl (hw _ (hasW_mem a))
    · exact Or.inr (hw _ (hasW_mem a))
  · cases h1
theorem okC_inst {ws : List Jvm.Cond} {P : Prog} {ce : ClsE} (h : okC ws P ce = true) {f : Nat} (hf : f ∈ ce.2.2) : Jvm.Cond.instantiable ce.1 ce.2.1 ∈ ws := by
  simp only [okC, Bool.and_eq_true] at h
  rcases Bool.or_eq_true_iff.mp h.1.1 with a | a
  · rw [List.isEmpty_iff] at a; rw [a] at hf; cases hf
  · exact hasW_mem a
theorem okC_names {ws : List Jvm.Cond} {P : Prog} {ce : ClsE} (h : okC ws P ce = true) {f g : Nat} (hf : f ∈ ce.2.2) (hg : g ∈ ce.2.2) (ne : f ≠ g) {e e' : FldE} (q : P.F[f]? = some e) (q' : P.F[g]? = some e') : e.2.1 ≠ e'.2.1 := by
  simp only [okC, Bool.and_eq_true] at h
  have h1 := List.all_eq_true.mp (List.all_eq_true.mp h.2 _ hf) _ hg
  rw [q, q'] at h1
  rcases Bool.or_eq_true_iff.mp h1 with a | a
  · exact absurd (Nat.eq_of_beq_eq_true a) ne
  · exact of_decide_eq_true a
section Step
variable {p : Program} {l : Launch} {e : Env} {R : Room} {s : State} {m : MethodId} {args : Array Value} {below : List Frame} {meth : Method} {c : Code} {T : State} {locs : List Loc} {cells slots : Nat} {Z : State} {a0 : Array Value} {ws : List Jvm.Cond} {P : Prog} {b : Nat}
theorem Stand.eqs {T' : State} {locs' : List Loc} {c1 c2 s1 s2 : Nat} (X : Stand p l e R s m args below meth c T' locs' c1 s1) (h1 : c1 = c2) (h2 : s1 = s2) : Stand p l e R s m args below meth c T' locs' c2 s2 := by subst h1 h2; exact X
theorem Fr.one {b a sl : Nat} : Fr b [(⟨b + a, sl⟩ : Loc)] := fun y hy => by cases List.mem_singleton.mp hy; exact Nat.le_add_right _ _
set_option maxHeartbeats 4000000 in
theorem stepH_ok (hP : okP ws P = true) (X : Stand p l e R s m args below meth c T locs cells slots) (hx : p.tables.exec = Jvm.exec) (hZ : Z.Warmed39 s.vm) (hw : ∀ d ∈ ws, d.before a0 Z = true) {own mn : String} (hown : s.vm.findClass own = some m.cls) (hnm : meth.name = mn) {mh : List Obj} (hR : Rel Z P b T.heap mh) (hsz : s.heap.size + cells = b + mh.length)
    {i : Instr} {aux : List Nat} {cv : Value} {pc : Nat} {ls : Array Slot} {st : List Value} {st' : List Value} {mh' : List Obj} (hl : okLink ws P own mn pc i aux cv = true) (hd : decode c.code pc = .ok (i, ln i)) (h : stepH P RA i aux st mh = some (st', mh'))
    (hc : cells + (mh'.length - mh.length) ≤ R.cells) (hs : slots + (osl P mh' - osl P mh) ≤ R.slots) :
    ∃ T' L, Stand p l e R s m args below meth c T' (locs ++ L) (cells + (mh'.length - mh.length)) (slots + (osl P mh' - osl P mh)) ∧ Rel Z P b T'.heap mh' ∧ Fr b L ∧ ∀ target, Steps p.tables e below (T'.setTop (Fm b m (pc + ln i) ls st')) target → Steps p.tables e below (T.setTop (Fm b m pc ls st)) target := by
  have hst : ∀ {t : FieldType}, ast RA t mh st = some (st', mh') → mh'.length - mh.length = 0 ∧ osl P mh' - osl P mh = 0 := fun q => by have := ast_mono (P := P) q; omega
  rcases stepH_kind h with ⟨k, rfl⟩ | ⟨t, rfl⟩ | ⟨k, rfl⟩ | ⟨k, rfl⟩ | rfl | rfl | rfl | rfl
  · obtain ⟨cid, ce, e1, e2, rfl, rfl⟩ := new_inv h
    have hl2 : aux = [cid] := by
      simp only [okLink] at hl; split at hl
      · cases e1; rfl
      · cases hl
    subst hl2
    simp only [okLink, e2, Bool.and_eq_true] at hl
    obtain ⟨⟨w1, w2⟩, w3⟩ := hl
    have hC := okP_cls hP e2
    have d1 : (mh ++ [Sum.inl (cid, ce.2.2.map fun f => (f, dft P f))]).length - mh.length = 1 := by simp
    have d2 : osl P (mh ++ [Sum.inl (cid, ce.2.2.map fun f => (f, dft P f))]) - osl P mh = ce.2.1 := by rw [osl_app]; simp [osl, oslO, e2]
    rw [d1] at hc ⊢; rw [d2] at hs ⊢
    obtain ⟨T', h', X', e', E, A, D, ⟨cell, hcell, -⟩, st⟩ := newO X hx hZ hown (hw _ (hasW_mem w1)) (hw _ (hasW_mem w2)) (hw _ (hasW_mem w3)) rfl (g := Fm b m pc ls st) rfl hd hc hs
    have z1 : T.heap.size < h'.size := (Array.getElem?_eq_some_iff.mp hcell).1
    have z2 := X'.heapSize
    rw [e'] at z2
    have z3 := hR.1
    refine ⟨T', [], by rw [List.append_nil]; exact X', ?_, Fr.nil b, ?_⟩
    · rw [e']
      refine hR.push E (by omega) ⟨ce, e2, by simp [Function.comp_def], by rw [← z3]; exact A, fun f v q => ?_⟩
      obtain ⟨q1, rfl⟩ := gF_new q
      obtain ⟨fe, g1, g2, g3⟩ := okC_fld hC hw q1
      refine ⟨fe, g1, ?_⟩
      have g4 : tv b (dft P f) = defaultValue fe.2.2.2 := by simp only [dft, g1]; exact tv_dft b _
      rw [g4, ← z3]
      exact D g2 g3
    · intro target k'
      refine st target ?_
      rw [z3]
      exact k'
  · obtain ⟨v, r, n, rfl, e1, hn, hcap, rfl, rfl⟩ := newarr_inv h
    cases czN_ra (fun _ => rfl) (fun _ => rfl) e1
    simp only [okLink] at hl
    have d1 : (mh ++ [Sum.inr (newarray.typeOf t, List.replicate n.toNatClampNeg (defaultValue (newarray.typeOf t)))] : List Obj).length - mh.length = 1 := by simp
    have d2 : osl P (mh ++ [Sum.inr (newarray.typeOf t, List.replicate n.toNatClampNeg (defaultValue (newarray.typeOf t)))]) - osl P mh = n.toNatClampNeg := by rw [osl_app]; simp [osl, oslO]
    rw [d1] at hc ⊢; rw [d2] at hs ⊢
    obtain ⟨T', h', cA, X', e', E, A, st⟩ := newP X hx hZ (hw _ (hasW_mem hl)) rfl (g := Fm b m pc ls (.int n :: r)) rfl hd (n := n) (rest := r.map (tv b)) rfl hn (cap := n.toNatClampNeg) (Nat.le_refl _) (by omega) hc hs
    have z1 : T.heap.size < h'.size := A.lt
    have z2 := X'.heapSize
    rw [e'] at z2
    have z3 := hR.1
    refine ⟨T', [], by rw [List.append_nil]; exact X', ?_, Fr.nil b, ?_⟩
    · rw [e']
      refine hR.push E (by omega) ⟨_, by rw [← z3]; exact A, ?_, fun C q => by cases t <;> cases q⟩
      show Array.replicate _ _ = _
      simp [tv_dft]
    · intro target k'
      refine st target ?_
      rw [z3]
      exact k'
  · obtain ⟨cid, v, r, ce, n, e0, rfl, e2, e1, hn, hcap, rfl, rfl⟩ := anewarr_inv h
    cases czN_ra (fun _ => rfl) (fun _ => rfl) e1
    have hl2 : aux = [cid] := by
      simp only [okLink] at hl; split at hl
      · cases e0; rfl
      · cases hl
    subst hl2
    simp only [okLink, e2, Bool.and_eq_true] at hl
    obtain ⟨w1, w2⟩ := hl
    have d1 : (mh ++ [Sum.inr (.object ce.1, List.replicate n.toNatClampNeg Value.null)] : List Obj).length - mh.length = 1 := by simp
    have d2 : osl P (mh ++ [Sum.inr (.object ce.1, List.replicate n.toNatClampNeg Value.null)]) - osl P mh = n.toNatClampNeg := by rw [osl_app]; simp [osl, oslO]
    rw [d1] at hc ⊢; rw [d2] at hs ⊢
    obtain ⟨T', h', cA, X', e', E, A, O, st⟩ := newR X hx hZ hown (hw _ (hasW_mem w1)) (hw _ (hasW_mem w2)) rfl (g := Fm b m pc ls (.int n :: r)) rfl hd (n := n) (rest := r.map (tv b)) rfl hn (cap := n.toNatClampNeg) (Nat.le_refl _) (by omega) hc hs
    have z1 : T.heap.size < h'.size := A.lt
    have z2 := X'.heapSize
    rw [e'] at z2
    have z3 := hR.1
    refine ⟨T', [], by rw [List.append_nil]; exact X', ?_, Fr.nil b, ?_⟩
    · rw [e']
      refine hR.push E (by omega) ⟨_, by rw [← z3]; exact A, ?_, fun C q => by cases q; exact O⟩
      show Array.replicate _ _ = _
      simp [tv, defaultValue]
    · intro target k'
      refine st target ?_
      rw [z3]
      exact k'
  · obtain ⟨v, a, cid, fs, f, fe, w, old, rfl, e1, e2, e3, e4, e5, rfl⟩ := put_inv h
    have hl2 : aux = [f] := by
      simp only [okLink] at hl; split at hl
      · cases e2; rfl
      · cases hl
    subst hl2
    simp only [okLink, e3, Bool.and_eq_true] at hl
    obtain ⟨w1, w2⟩ := hl
    obtain ⟨o1, ce, o2, o3, o4, o5⟩ := hR.obj e1
    have hC := okP_cls hP o2
    have hmem : f ∈ ce.2.2 := by rw [← o3]; exact List.mem_map.mpr ⟨_, gF_mem e5, rfl⟩
    have w3 := List.all_eq_true.mp w2 _ (List.mem_of_getElem? o2)
    obtain ⟨fe', g1, g2⟩ := o5 f old e5
    cases e3.symm.trans g1
    obtain ⟨fe', g3, g4, g5⟩ := okC_fld hC hw hmem
    cases e3.symm.trans g3
    obtain ⟨n1, n2⟩ := narA_ra (b := b) e4
    obtain ⟨rr, k1, k2⟩ := linkF_ok hw w1
    have hL : (Jvm.Cond.lays ce.1 fe.1 fe.2.1 fe.2.2.1).before a0 Z = true ∨ ((Jvm.Cond.laysFinal ce.1 fe.1 fe.2.1 fe.2.2.1).before a0 Z = true ∧ own = fe.1 ∧ meth.name = "<init>") := by
      rcases Bool.or_eq_true_iff.mp w3 with q | q
      · rcases Bool.or_eq_true_iff.mp q with q | q
        · have : ce.2.2.any (fun g => Nat.beq g f) = true := List.any_eq_true.mpr ⟨f, hmem, Nat.beq_refl f⟩
          rw [this] at q; cases q
        · exact Or.inl (hw _ (hasW_mem q))
      · simp only [Bool.and_eq_true, decide_eq_true_eq] at q
        exact Or.inr ⟨hw _ (hasW_mem q.1.1), q.1.2, by rw [hnm]; exact q.2⟩
    obtain ⟨T', h', X', e', W, st⟩ := putFN X hx hZ hown k1 k2 rfl g2 o4 hL (hw _ (okC_inst hC hmem)) g5 n1 n2 (g := Fm b m pc ls (v :: .ref a :: st')) rfl rfl hd
    have d1 : (mh.set a (Sum.inl (cid, sF fs f w)) : List Obj).length - mh.length = 0 := by simp
    have d2 : osl P (mh.set a (Sum.inl (cid, sF fs f w))) - osl P mh = 0 := by rw [osl_set P (by simp [oslO]) _ _ o1]; omega
    rw [d1, d2]
    refine ⟨T', _, X', ?_, Fr.one, fun target k' => st target k'⟩
    rw [e']
    refine hR.set W ⟨ce, o2, by rw [sF_keys]; exact o3, o4.wr W, fun g u q => ?_⟩
    rcases gF_sF q with ⟨rfl, rfl⟩ | ⟨ne, q⟩
    · exact ⟨fe, e3, g2.same W⟩
    · obtain ⟨fe2, j1, j2⟩ := o5 g u q
      have hmem2 : g ∈ ce.2.2 := by rw [← o3]; exact List.mem_map.mpr ⟨_, gF_mem q, rfl⟩
      obtain ⟨fe3, j3, j4, j5⟩ := okC_fld hC hw hmem2
      cases j1.symm.trans j3
      exact ⟨fe2, j1, j2.other W (Or.inr (slot_ne j4 g4 (okC_names hC hmem2 hmem ne j1 e3) j5 g5))⟩
  · have h2 : ast RA .int mh st = some (st', mh') := h
    obtain ⟨z1, z2⟩ := hst h2
    obtain ⟨v, j, a, vs, k, w, rfl, e1, e2, e3, e4, rfl⟩ := ast_inv h2
    obtain ⟨j, rfl, rfl, hj⟩ := place_ra e2
    obtain ⟨-, o2⟩ := hR.arr e1
    obtain ⟨cl, A, S, -⟩ := id o2
    have hz : cl.slots.size = vs.length := by rw [S]; simp
    cases v with
    | int x =>
      cases Option.some.inj (show some (Value.int x) = some w from e3)
      obtain ⟨T', h', X', e', W, st⟩ := stI X hx hZ rfl A (j := j) (x := x) (by rw [hz]; exact hj) (g := Fm b m pc ls (.int x :: .int j :: .ref a :: st')) rfl rfl hd
      rw [z1, z2]
      exact ⟨T', _, X', by rw [e']; exact hR.set W (o2.arrSet W), Fr.one, fun target k' => st target k'⟩
    | _ => exact nomatch (show (none : Option Value) = some w from e3)
  · have h2 : ast RA .long mh st = some (st', mh') := h
    obtain ⟨z1, z2⟩ := hst h2
    obtain ⟨v, j, a, vs, k, w, rfl, e1, e2, e3, e4, rfl⟩ := ast_inv h2
    obtain ⟨j, rfl, rfl, hj⟩ := place_ra e2
    obtain ⟨-, o2⟩ := hR.arr e1
    obtain ⟨cl, A, S, -⟩ := id o2
    have hz : cl.slots.size = vs.length := by rw [S]; simp
    cases v with
    | long x =>
      cases Option.some.inj (show some (Value.long x) = some w from e3)
      obtain ⟨T', h', X', e', W, st⟩ := stJ X hx hZ rfl A (j := j) (x := x) (by rw [hz]; exact hj) (g := Fm b m pc ls (.long x :: .int j :: .ref a :: st')) rfl rfl hd
      rw [z1, z2]
      exact ⟨T', _, X', by rw [e']; exact hR.set W (o2.arrSet W), Fr.one, fun target k' => st target k'⟩
    | _ => exact nomatch (show (none : Option Value) = some w from e3)
  · have h2 : ast RA .byte mh st = some (st', mh') := h
    obtain ⟨z1, z2⟩ := hst h2
    obtain ⟨v, j, a, vs, k, w, rfl, e1, e2, e3, e4, rfl⟩ := ast_inv h2
    obtain ⟨j, rfl, rfl, hj⟩ := place_ra e2
    obtain ⟨-, o2⟩ := hR.arr e1
    obtain ⟨cl, A, S, -⟩ := id o2
    have hz : cl.slots.size = vs.length := by rw [S]; simp
    cases v with
    | int x =>
      cases Option.some.inj (show some (Value.int x.toInt8.toInt32) = some w from e3)
      obtain ⟨T', h', X', e', W, st⟩ := stB X hx hZ rfl A (j := j) (x := x) (by rw [hz]; exact hj) (g := Fm b m pc ls (.int x :: .int j :: .ref a :: st')) rfl rfl hd
      rw [z1, z2]
      exact ⟨T', _, X', by rw [e']; exact hR.set W (o2.arrSet W), Fr.one, fun target k' => st target k'⟩
    | _ => exact nomatch (show (none : Option Value) = some w from e3)
  · obtain ⟨v, j, a, C, vs, k, rfl, e1, e2, e3, e4, rfl⟩ := aast_inv h
    obtain ⟨j, rfl, rfl, hj⟩ := place_ra e2
    obtain ⟨o1, o2⟩ := hR.arr e1
    obtain ⟨cl, A, S, O⟩ := id o2
    have hz : cl.slots.size = vs.length := by rw [S]; simp
    have hSto : Sto Z T.heap (b + a) (tv b v) := by
      cases v with
      | null => exact Or.inl rfl
      | ref y =>
        simp only [okSt] at e3
        split at e3
        · rename_i cid fs q
          obtain ⟨-, ce, u2, -, u4, -⟩ := hR.obj q
          simp only [u2] at e3
          refine Sto.of A (O C rfl) ?_
          rcases Bool.or_eq_true_iff.mp e3 with q | q
          · cases of_decide_eq_true q; exact Ins.self u4
          · obtain ⟨kk, q1, q2⟩ := List.any_eq_true.mp q
            cases of_decide_eq_true q2
            exact Ins.of_exa u4 (hw _ (okP_cast hP q1))
        · cases e3
      | _ => cases e3
    obtain ⟨T', h', X', e', W, st⟩ := stR X hx hZ rfl A (j := j) (v := tv b v) (by rw [hz]; exact hj) rfl hSto (g := Fm b m pc ls (v :: .int j :: .ref a :: st')) rfl rfl hd
    have d1 : (mh.set a (Sum.inr (.object C, vs.set j.toNatClampNeg v)) : List Obj).length - mh.length = 0 := by simp
    have d2 : osl P (mh.set a (Sum.inr (.object C, vs.set j.toNatClampNeg v))) - osl P mh = 0 := by rw [osl_set P (by simp [oslO]) _ _ o1]; omega
    rw [d1, d2]
    exact ⟨T', _, X', by rw [e']; exact hR.set W (o2.arrSet W), Fr.one, fun target k' => st target k'⟩
end Step
end Jvm.OwnM
namespace Jvm.OwnM
open Jvm Jvm.ClassFile Sem Op Lib Jvm.Stand Jvm.Free Jvm.LawKit Jvm.RoadKit
theorem catS_eq : ∀ (b : Nat) (r : List Value), ((r.map (tv b)).map fun v => v.category).sum = catS r
  | _, [] => rfl
  | b, v :: r => by simp only [List.map_cons, List.sum_cons, catS, catS_eq b r, tv_cat]
theorem paramsOk_len {d : String} {n : Nat} (h : paramsOk d n = true) {L : List Value} (hL : L.length = n) : ∀ sig, parseMethodDescriptor d = some sig → L.length = sig.parameters.length := fun sig hs => by
  simp only [paramsOk, hs] at h
  rw [hL, Nat.eq_of_beq_eq_true h]
theorem notMH_ok {y : MethodName} (h : notMH y = true) : y.cls ≠ "java/lang/invoke/MethodHandle" ∧ y.cls ≠ "java/lang/invoke/VarHandle" := by
  simp only [notMH, Bool.and_eq_true, decide_eq_true_eq] at h
  exact h
/-- what the machine's end says of the JVM's -/
def Ends (p : Program) (l : Launch) (e : Env) (R : Room) (s : State) (m : MethodId) (args : Array Value) (below : List Frame) (meth : Method) (c : Code) (T : State) (locs : List Loc) (cells slots : Nat) (Z : State) (P : Prog) (b : Nat) (rt : Option FieldType) (pc : Nat) (ls : Array Slot) (st : List Value) (mh : List Obj) (v : Option Value) (mh' : List Obj) : Prop :=
  ∃ T' L, Stand p l e R s m args below meth c T' (locs ++ L) (cells + (mh'.length - mh.length)) (slots + (osl P mh' - osl P mh)) ∧ Rel Z P b T'.heap mh' ∧ Fr b L ∧ (rt = none → v = none) ∧
    ∀ fs, (∀ (f : JFrame) (acts : List Action), f.method = m → f.locked = none → f.entered = [] → (doReturn e (T'.setTop f) acts (v.map (tv b))).1 = T'.setFrames fs) → Steps p.tables e below (T.setTop (Fm b m pc ls st)) (T'.setFrames fs)
def Snd (l : Launch) (ws : List Jvm.Cond) (P : Prog) (Z : State) (b : Nat) (n : Nat) : Prop :=
  ∀ (F Lc : Nat) (mt : Mth) (bs : ByteArray) (pc : Nat) (ls : Array Slot) (st : List Value) (mh : List Obj) (v : Option Value) (mh' : List Obj),
    exec P RA n F Lc mt pc ls st mh = some (v, mh') → okM ws P mt bs = true → ls.size = mt.mx →
    ∀ (p : Program) (e : Env) (R : Room) (s : State) (m : MethodId) (args : Array Value) (below : List Frame) (meth : Method) (c : Code) (T : State) (locs : List Loc) (cells slots : Nat),
      Stand p l e R s m args below meth c T locs cells slots → p.tables.exec = Jvm.exec → Z.Warmed39 s.vm → s.vm.findClass mt.y.cls = some m.cls → meth.name = mt.y.name → c.code = bs → c.maxLocals = mt.mx → meth.sig.returnType = mt.rt → F ≤ R.frames → Lc ≤ R.locals →
      Rel Z P b T.heap mh → s.heap.size + cells = b + mh.length → cells + (mh'.length - mh.length) ≤ R.cells → slots + (osl P mh' - osl P mh) ≤ R.slots →
      Ends p l e R s m args below meth c T locs cells slots Z P b mt.rt pc ls st mh v mh'
theorem met {l : Launch} {ws : List Jvm.Cond} {P : Prog} {Z : State} {b n : Nat} (hS : Snd l ws P Z b n) {F Lc : Nat} {mt : Mth} {bs : ByteArray} {vs : List Value} {mh : List Obj} {v : Option Value} {mh' : List Obj} {h : Heap} (hok : okM ws P mt bs = true)
    (hex : exec P RA n F Lc mt 0 (entryL vs mt.mx) [] mh = some (v, mh')) (hlen : (entryL vs mt.mx).size = mt.mx) (hR : Rel Z P b h mh) (ws0 : List Jvm.Cond) {rm : Room} (r1 : F ≤ rm.frames) (r2 : Lc ≤ rm.locals) (r3 : mh'.length - mh.length ≤ rm.cells) (r4 : osl P mh' - osl P mh ≤ rm.slots) :
    MetFree l mt.y (head1 (Jvm.Cond.code mt.y bs mt.mx mt.rt :: ws0) rm) (fun a U => a = (vs.map (tv b)).toArray ∧ Z.Warmed39 U.vm ∧ U.heap = h) (fun _ _ _ _ _ => True)
      (fun _ U o U' => ∃ v' L, o = .returned v' ∧ (v' = v.map (tv b) ∧ Rel Z P b U'.heap mh' ∧ Fr b L) ∧ FrameEnd U o U' L rm.cells rm.slots) := by
  refine MetFree.of_bodySF (Bool.and_eq_true_iff.mp hok).1 hisR ?_
  intro p e s m args below meth c s₁ Bd hml0 hP hK
  obtain ⟨rfl, hZ, hh⟩ := hP
  have hown : s.vm.findClass mt.y.cls = some m.cls := findClass_of_methodNamed Bd.named
  have hnm := (name_of_methodNamed Bd.named Bd.method).1
  have X0 : Stand p l e rm s m ((vs.map (tv b)).toArray) below meth c s₁ [] 0 0 := Stand.of_body Bd
  have e0 : s₁.heap = h := by rw [← hh, Bd.state]; rfl
  obtain ⟨T', L, X', hR', hF, hv, hst⟩ := hS F Lc mt bs 0 (entryL vs mt.mx) [] mh v mh' hex hok hlen p e rm s m _ below meth c s₁ [] 0 0 X0 Bd.exec hZ hown hnm Bd.bytes hml0 Bd.returns r1 r2 (by rw [e0]; exact hR) (by rw [hh]; exact hR.1) (by omega) (by omega)
  obtain ⟨fs, hr, hrun, hended, hW, hsame⟩ := X'.leave (v := v.map (tv b)) (fun q => by rw [Bd.returns] at q; rw [hv q]; rfl)
  refine ⟨_, _, (XT.entry (entry_map b vs mt.mx)).trans (hst fs hr), hrun, hended, _, L, rfl, ⟨rfl, hR', hF⟩, ⟨_, rfl⟩, hW, ?_⟩
  have q := hsame.mono (show 0 + (mh'.length - mh.length) ≤ rm.cells by omega) (show 0 + (osl P mh' - osl P mh) ≤ rm.slots by omega)
  rw [List.nil_append] at q
  exact q
section Sound
variable {p : Program} {l : Launch} {e : Env} {R : Room} {s : State} {m : MethodId} {args : Array Value} {below : List Frame} {meth : Method} {c : Code} {T : State} {locs : List Loc} {cells slots : Nat} {Z : State} {a0 : Array Value} {ws : List Jvm.Cond} {P : Prog} {b : Nat}
theorem ret_ok (X : Stand p l e R s m args below meth c T locs cells slots) (hx : p.tables.exec = Jvm.exec) {i : Instr} {rt : Option FieldType} (hret : meth.sig.returnType = rt) {pc : Nat} {ls : Array Slot} {st : List Value} {v : Option Value} (hd : decode c.code pc = .ok (i, ln i)) (h : retV RA i rt st = some v) :
    (rt = none → v = none) ∧ ∀ fs, (∀ (f : JFrame) (acts : List Action), f.method = m → f.locked = none → f.entered = [] → (doReturn e (T.setTop f) acts (v.map (tv b))).1 = T.setFrames fs) → Steps p.tables e below (T.setTop (Fm b m pc ls st)) (T.setFrames fs) := by
  simp only [retV] at h
  split at h
  · cases h
    exact ⟨fun _ => rfl, fun fs hl => X.returnOut hx hret hd hl⟩
  · rename_i w r
    refine ⟨(fun q => nomatch q), fun fs hl => ?_⟩
    cases w with
    | int x =>
      cases Option.some.inj (show some (some (Value.int x)) = some v from h)
      exact retOut X hx hret rfl (Or.inl ⟨rfl, Or.inl rfl, x, rfl⟩) hd hl
    | _ => exact nomatch (show (none : Option (Option Value)) = some v from h)
  · rename_i w r
    refine ⟨(fun q => nomatch q), fun fs hl => ?_⟩
    cases w with
    | int x =>
      cases Option.some.inj (show some (some (Value.int (x &&& 1))) = some v from h)
      exact retN X hx (t := .boolean) hret (by simp) hd hl
    | _ => exact nomatch (show (none : Option (Option Value)) = some v from h)
  · rename_i w r
    refine ⟨(fun q => nomatch q), fun fs hl => ?_⟩
    cases w with
    | int x =>
      cases Option.some.inj (show some (some (Value.int x.toUInt32.toUInt16.toUInt32.toInt32)) = some v from h)
      exact retN X hx (t := .char) hret (by simp) hd hl
    | _ => exact nomatch (show (none : Option (Option Value)) = some v from h)
  · rename_i w r
    refine ⟨(fun q => nomatch q), fun fs hl => ?_⟩
    cases w with
    | long x =>
      cases Option.some.inj (show some (some (Value.long x)) = some v from h)
      exact retOut X hx hret rfl (Or.inr (Or.inl ⟨rfl, rfl, x, rfl⟩)) hd hl
    | _ => exact nomatch (show (none : Option (Option Value)) = some v from h)
  · rename_i C w r
    refine ⟨(fun q => nomatch q), fun fs hl => ?_⟩
    cases q : Nat.beq (kd w) 3
    · rw [q] at h; cases h
    · rw [q] at h; cases h
      exact retOut X hx hret (by cases w <;> rfl) (Or.inr (Or.inr (Or.inr (Or.inr ⟨rfl, rfl, kd_ref (Nat.eq_of_beq_eq_true q)⟩)))) hd hl
  · rename_i C w r
    refine ⟨(fun q => nomatch q), fun fs hl => ?_⟩
    cases q : Nat.beq (kd w) 3
    · rw [q] at h; cases h
    · rw [q] at h; cases h
      exact retOut X hx hret (by cases w <;> rfl) (Or.inr (Or.inr (Or.inr (Or.inr ⟨rfl, rfl, kd_ref (Nat.eq_of_beq_eq_true q)⟩)))) hd hl
  · cases h
/-- a call, by the callee's own run -/
theorem call_ok {n : Nat} (hS : Snd l ws P Z b n) (hP : okP ws P = true) (X : Stand p l e R s m args below meth c T locs cells slots) (hx : p.tables.exec = Jvm.exec) (hZ : Z.Warmed39 s.vm) (hw : ∀ d ∈ ws, d.before a0 Z = true) {own mn : String} (hown : s.vm.findClass own = some m.cls) {mh : List Obj} (hR : Rel Z P b T.heap mh)
    {i : Instr} {aux : List Nat} {cv : Value} {pc : Nat} {ls : Array Slot} (hsize : ls.size = c.maxLocals) {st : List Value} {k na F Lc : Nat} {m' : Mth} {v1 : Option Value} {mh1 : List Obj} (hl : okLink ws P own mn pc i aux cv = true) (hd : decode c.code pc = .ok (i, ln i))
    (hF : F ≤ R.frames) (hLc : Lc ≤ R.locals) (h1 : callee i aux st mh = some (k, na)) (h2 : P.M[k]? = some m') (h3 : 1 ≤ F) (h4 : catS (st.drop na) + (m'.mx + 11) ≤ Lc) (h5 : na ≤ st.length) (h6 : (entryL (st.take na).reverse m'.mx).size = m'.mx)
    (h7 : exec P RA n (F - 1) (Lc - (catS (st.drop na) + (m'.mx + 11))) m' 0 (entryL (st.take na).reverse m'.mx) [] mh = some (v1, mh1)) (hc : cells + (mh1.length - mh.length) ≤ R.cells) (hs : slots + (osl P mh1 - osl P mh) ≤ R.slots) :
    ∃ T' L, Stand p l e R s m args below meth c T' (locs ++ L) (cells + (mh1.length - mh.length)) (slots + (osl P mh1 - osl P mh)) ∧ Rel Z P b T'.heap mh1 ∧ Fr b L ∧ ∀ target, Steps p.tables e below (T'.setTop (Fm b m (pc + ln i) ls (v1.toList ++ st.drop na))) target → Steps p.tables e below (T.setTop (Fm b m pc ls st)) target := by
  obtain ⟨bs, wc, hok, wz⟩ := okP_mth hP h2
  have hM := met hS hok h7 h6 hR [] (rm := { frames := F - 1, cells := mh1.length - mh.length, slots := osl P mh1 - osl P mh, locals := Lc - (catS (st.drop na) + (m'.mx + 11)) }) (Nat.le_refl _) (Nat.le_refl _) (Nat.le_refl _) (Nat.le_refl _)
  have hB : ∀ len, Back l R p e below s args m'.y len (catS (st.drop na)) _ _ := fun len => backOf (len := len) (W := catS (st.drop na)) (a0 := a0) (Q := fun v h L => v = v1.map (tv b) ∧ Rel Z P b h mh1 ∧ Fr b L) hM hZ (hw _ wc) (hw _ wz) (by show F - 1 + 1 ≤ R.frames; omega) (by show catS (st.drop na) + (m'.mx + 11) + (Lc - (catS (st.drop na) + (m'.mx + 11))) ≤ R.locals; omega)
  have hsize' : (Fm b m pc ls st).locals.size = c.maxLocals := by show (ls.map (tS b)).size = _; rw [Array.size_map]; exact hsize
  have hWt : 2 * (Fm b m pc ls st).monitorRoom + (((st.drop na).map (tv b)).map fun v => v.category).sum ≤ catS (st.drop na) := by rw [catS_eq]; show 2 * 0 + _ ≤ _; omega
  have hfin : ∀ (v : Option Value) (B : Pt), Stand p l e R s m args below meth c B.U B.locs B.cells B.slots → (∃ L, (v = v1.map (tv b) ∧ Rel Z P b B.U.heap mh1 ∧ Fr b L) ∧ B.locs = locs ++ L ∧ B.cells = cells + (mh1.length - mh.length) ∧ B.slots = slots + (osl P mh1 - osl P mh)) →
      (∀ target, Steps p.tables e below (B.U.setTop (mkF m (pc + ln i) (ls.map (tS b)) (v.toList ++ (st.drop na).map (tv b)))) target → Steps p.tables e below (T.setTop (Fm b m pc ls st)) target) →
      ∃ T' L, Stand p l e R s m args below meth c T' (locs ++ L) (cells + (mh1.length - mh.length)) (slots + (osl P mh1 - osl P mh)) ∧ Rel Z P b T'.heap mh1 ∧ Fr b L ∧ ∀ target, Steps p.tables e below (T'.setTop (Fm b m (pc + ln i) ls (v1.toList ++ st.drop na))) target → Steps p.tables e below (T.setTop (Fm b m pc ls st)) target := by
    intro v B X' ⟨L, ⟨q1, q2, q3⟩, q4, q5, q6⟩ hst
    refine ⟨B.U, L, by rw [← q4, ← q5, ← q6]; exact X', q2, q3, fun target k' => hst target ?_⟩
    have q7 : (v1.toList ++ st.drop na).map (tv b) = v.toList ++ (st.drop na).map (tv b) := by rw [q1, List.map_append]; cases v1 <;> rfl
    have k2 : Steps p.tables e below (B.U.setTop (mkF m (pc + ln i) (ls.map (tS b)) ((v1.toList ++ st.drop na).map (tv b)))) target := k'
    rw [q7] at k2
    exact k2
  have hrecv : ∀ {a : Nat}, st[na - 1]? = some (.ref a) → 1 ≤ na → st = st.take (na - 1) ++ .ref a :: st.drop na ∧ (st.take na).reverse = .ref a :: (st.take (na - 1)).reverse := by
    intro a q hna
    obtain ⟨hlt, hq⟩ := List.getElem?_eq_some_iff.mp q
    have e1 : st.take na = st.take (na - 1) ++ [.ref a] := by
      have := List.take_succ_eq_append_getElem (i := na - 1) (l := st) hlt
      rw [hq, show na - 1 + 1 = na by omega] at this
      exact this
    refine ⟨?_, by rw [e1, List.reverse_append]; rfl⟩
    conv => lhs; rw [← List.take_append_drop na st, e1]
    simp
  cases i with
  | invokestatic idx =>
    obtain ⟨n0, k0, rfl⟩ : ∃ n0 k0, aux = [n0, k0] := by
      simp only [callee] at h1; split at h1
      · exact ⟨_, _, rfl⟩
      · cases h1
    cases Option.some.inj (show some (k0, n0) = some (k, na) from h1)
    simp only [okLink, h2, Bool.and_eq_true] at hl
    obtain ⟨⟨⟨w1, w2⟩, w3⟩, w4⟩ := hl
    obtain ⟨v, vm₁, B, -, X', hpost, hst⟩ := Jvm.LawKit.callS X hx (y := m'.y) hown (mvT hZ (hw _ (hasW_mem w1))) (mvT hZ (hw _ (hasW_mem w2))) (mvT hZ (hw _ wz)) (mvT hZ (hw _ wc)) (notMH_ok w3) (hB 3) (g := Fm b m pc ls st) rfl hsize' (argsL := (st.take na).reverse.map (tv b)) (rest := (st.drop na).map (tv b)) (paramsOk_len w4 (by simp; omega)) (by show st.map (tv b) = _; rw [← List.map_reverse, List.reverse_reverse, ← List.map_append, List.take_append_drop]) hWt hd (fun _ _ => ⟨rfl, rfl, hc, hs⟩)
    exact hfin v B X' hpost hst
  | invokespecial idx =>
    obtain ⟨n0, k0, rfl⟩ : ∃ n0 k0, aux = [n0, k0] := by
      simp only [callee] at h1; split at h1
      · exact ⟨_, _, rfl⟩
      · cases h1
    simp only [callee] at h1
    split at h1
    · rename_i a e1
      cases q : Nat.ble 1 n0
      · rw [q] at h1; cases h1
      · rw [q] at h1
        cases Option.some.inj (show some (k0, n0) = some (k, na) from h1)
        obtain ⟨r1, r2⟩ := hrecv e1 (Nat.le_of_ble_eq_true q)
        simp only [okLink, h2, Bool.and_eq_true, decide_eq_true_eq] at hl
        obtain ⟨⟨⟨⟨⟨w1, w2⟩, w3⟩, w4⟩, w5⟩, w6⟩ := hl
        rw [r2] at hB
        have wc' := wc
        rw [w5] at wc'
        have hstk : (Fm b m pc ls st).stack = ((st.take (na - 1)).reverse.map (tv b)).reverse ++ .ref (b + a) :: (st.drop na).map (tv b) := by
          show st.map (tv b) = _
          conv => lhs; rw [r1]
          simp [tv]
        obtain ⟨v, vm₁, B, -, X', hpost, hst⟩ := X.specialBack hx (y := m'.y) w4 hown (mvT hZ (hw _ (hasW_mem w1))) (mvT hZ (hw _ (hasW_mem w2))) (mvT hZ (hw _ wc')) (notMH_ok w3) (hB 3) (g := Fm b m pc ls st) rfl hsize' (Steps.refl _) (a := b + a) (argsL := (st.take (na - 1)).reverse.map (tv b)) (rest := (st.drop na).map (tv b)) (paramsOk_len w6 (by simp; omega)) hstk hWt hd (fun _ _ => ⟨rfl, rfl, hc, hs⟩)
        exact hfin v B X' hpost (fun target k' => hst.trans k')
    · cases h1
  | invokevirtual idx =>
    obtain ⟨n0, tb, rfl⟩ : ∃ n0 tb, aux = n0 :: tb := by
      simp only [callee] at h1; split at h1
      · exact ⟨_, _, rfl⟩
      · cases h1
    simp only [callee] at h1
    split at h1
    · rename_i a e1
      split at h1
      · rename_i cid fs e2
        split at h1
        · rename_i k0 e3
          cases q : Nat.ble 1 n0
          · rw [q] at h1; cases h1
          · rw [q] at h1
            cases Option.some.inj (show some (k0, n0) = some (k, na) from h1)
            obtain ⟨r1, r2⟩ := hrecv e1 (Nat.le_of_ble_eq_true q)
            obtain ⟨-, ce, u2, -, u4, -⟩ := hR.obj e2
            have hcn : nthC P cid = ce.1 := by simp only [nthC, u2]
            have hcm : nthN P cid = ce.2.1 := by simp only [nthN, u2]
            simp only [okLink, linkV] at hl
            obtain ⟨w, hm, hl⟩ := List.any_eq_true.mp hl
            cases w <;> simp only [Bool.false_eq_true] at hl
            rename_i o ii rr
            simp only [Bool.and_eq_true, decide_eq_true_eq] at hl
            obtain ⟨⟨⟨⟨rfl, rfl⟩, w3⟩, w4⟩, w5⟩ := hl
            have hsel : ∀ tb : List Nat, okV ws P rr tb = true → selM tb cid = some k → Jvm.Cond.instanceMethod m'.y ∈ ws ∧ ((Jvm.Cond.declares rr ∈ ws ∧ Jvm.Cond.selects rr.cls rr rr ∈ ws ∧ Jvm.Cond.selects ce.1 rr m'.y ∈ ws) ∨ (m'.y = rr ∧ ce.1 = rr.cls ∧ Jvm.Cond.privateMethod rr ∈ ws ∧ Jvm.Cond.instantiable ce.1 ce.2.1 ∈ ws)) := by
              intro tb
              induction tb using okV.induct with
              | case1 => intro _ q; cases q
              | case2 x => intro _ q; cases q
              | case3 c0 k1 tb ih =>
                intro q1 q2
                simp only [okV, Bool.and_eq_true] at q1
                simp only [selM] at q2
                cases q3 : Nat.beq c0 cid
                · rw [q3] at q2; exact ih q1.2 q2
                · rw [q3] at q2
                  cases q2
                  cases Nat.eq_of_beq_eq_true q3
                  have q4 := q1.1
                  simp only [h2, hcn, hcm, Bool.and_eq_true, Bool.or_eq_true, decide_eq_true_eq] at q4
                  refine ⟨hasW_mem q4.1, q4.2.imp (fun z => ⟨hasW_mem z.1.1, hasW_mem z.1.2, hasW_mem z.2⟩) (fun z => ⟨z.1.1.1, z.1.1.2, hasW_mem z.1.2, hasW_mem z.2⟩)⟩
            obtain ⟨v1', v2'⟩ := hsel tb w5 e3
            obtain ⟨cB, kB, c1, c2, c3⟩ := isOf hZ rfl u4
            rw [r2] at hB
            have hstk : (Fm b m pc ls st).stack = ((st.take (na - 1)).reverse.map (tv b)).reverse ++ .ref (b + a) :: (st.drop na).map (tv b) := by
              show st.map (tv b) = _
              conv => lhs; rw [r1]
              simp [tv]
            rcases v2' with ⟨a1, a2, a3⟩ | ⟨a1, a2, a3, a4⟩
            · obtain ⟨v, vm₁, B, -, X', hpost, hst⟩ := X.virtualBack hx (y := rr) (z := m'.y) hown (mvT hZ (hw _ hm)) (mvT hZ (hw _ a1)) (notFace_of_selects (args := #[]) (mvT hZ (hw _ a2))) (mvT hZ (hw _ a3)) (mvT hZ (hw _ v1')) (notMH_ok w3) (hB 3) c1 c3 (g := Fm b m pc ls st) rfl hsize' (Steps.refl _) (argsL := (st.take (na - 1)).reverse.map (tv b)) (rest := (st.drop na).map (tv b)) (paramsOk_len w4 (by simp; omega)) hstk hWt hd (fun _ _ => ⟨rfl, rfl, hc, hs⟩)
              exact hfin v B X' hpost (fun target k' => hst.trans k')
            · subst a1
              obtain ⟨cell, d1, d2⟩ := u4.cell
              have hk : kB.isInterface = false := by
                obtain ⟨c9, k9, i1, i2, -, i4, -⟩ := Cond.instantiable_spec (show (Jvm.Cond.instantiable ce.1 ce.2.1).before #[] s = true from mvT hZ (hw _ a4))
                cases c1.symm.trans i1
                cases c2.symm.trans i2
                exact (Bool.or_eq_false_iff.mp i4).1
              have hpr : s.PrivateAt m'.y := Cond.privateMethod_at (mvP hZ (hw _ a3) (args := #[]))
              have hin : ∀ {ar}, (Jvm.Cond.instanceMethod m'.y).before ar s = true := fun {ar} => mvT hZ (hw _ v1')
              obtain ⟨v, vm₁, B, -, X', hpost, hst⟩ := X.privateBack hx (y := m'.y) hown (mvT hZ (hw _ hm)) hin (selects_self_of_private (by rw [← a2]; exact c1) c2 hk hpr hin (notMH_ok w3)) hpr (mvT hZ (hw _ wc)) (notMH_ok w3) (hB 3) (g := Fm b m pc ls st) rfl hsize' (Steps.refl _) (a := b + a) d1 d2 (argsL := (st.take (na - 1)).reverse.map (tv b)) (rest := (st.drop na).map (tv b)) (paramsOk_len w4 (by simp; omega)) hstk hWt hd (fun _ _ => ⟨rfl, rfl, hc, hs⟩)
              exact hfin v B X' hpost (fun target k' => hst.trans k')
        · cases h1
      · cases h1
    · cases h1
  | invokeinterface idx cnt => cases hl
  | _ => cases h1
theorem sound (hP : okP ws P = true) (hw : ∀ d ∈ ws, d.before a0 Z = true) : ∀ n, Snd l ws P Z b n := by
  intro n
  induction n with
  | zero =>
    intro F Lc mt bs pc ls st mh v mh' h
    simp only [exec] at h; cases h
  | succ n ih =>
    intro F Lc mt bs pc ls st mh v mh' h hok hls p e R s m args below meth c T locs cells slots X hx hZ hown hnm hby hml hret hF hLc hR hsz hc hs
    obtain ⟨r0, i, aux, cv, hat, h⟩ := exec_inv h
    obtain ⟨hr0, hrow⟩ := at_ok hok hat
    obtain ⟨hdec, hl⟩ := row_dec hrow
    have hd : decode c.code pc = .ok (i, ln i) := by rw [hby, ← hr0]; exact hdec
    have hl' : okLink ws P mt.y.cls mt.y.name pc i aux cv = true := by rw [← hr0]; exact hl
    rcases h with h | h | h | h | h
    · obtain ⟨-, pc', ls', st', h1, h2⟩ := h
      obtain ⟨z1, T1, X1, e1, k1⟩ := stepP_ok X hx hZ hw hown hR hl' hd h1
      obtain ⟨T', L, X', a1, a2, a3, a4⟩ := ih F Lc mt bs pc' ls' st' mh v mh' h2 hok (z1.trans hls) p e R s m args below meth c T1 locs cells slots X1 hx hZ hown hnm hby hml hret hF hLc (by rw [e1]; exact hR) hsz hc hs
      exact ⟨T', L, X', a1, a2, a3, fun fs hf => k1 _ (a4 fs hf)⟩
    · obtain ⟨-, st', mh1, h1, h2⟩ := h
      have g1 := stepH_mono h1
      have g2 := exec_mono h2
      obtain ⟨T1, L1, X1, e1, n1, k1⟩ := stepH_ok hP X hx hZ hw hown hnm hR hsz hl' hd h1 (by omega) (by omega)
      obtain ⟨T', L, X', a1, a2, a3, a4⟩ := ih F Lc mt bs (pc + ln i) ls st' mh1 v mh' h2 hok hls p e R s m args below meth c T1 _ _ _ X1 hx hZ hown hnm hby hml hret hF hLc e1 (by omega) (by omega) (by omega)
      refine ⟨T', L1 ++ L, ?_, a1, n1.app a2, a3, fun fs hf => k1 _ (a4 fs hf)⟩
      rw [List.append_assoc] at X'
      exact Stand.eqs X' (by omega) (by omega)
    · obtain ⟨hi, rfl, a, r, rfl, b1, b2, h2⟩ := h
      obtain ⟨idx, rfl⟩ : ∃ idx, i = .invokespecial idx := by
        cases i <;> first | exact ⟨_, rfl⟩ | (exfalso; simp [icl] at hi; done) | (exfalso; simp [okLink] at hl'; done)
      simp only [okLink, Bool.and_eq_true] at hl'
      obtain ⟨⟨w1, w2⟩, w3⟩ := hl'
      obtain ⟨T1, X1, e1, k1⟩ := initO X hx hZ hown (hw _ (hasW_mem w1)) (hw _ (hasW_mem w2)) (hw _ (hasW_mem w3)) rfl (g := Fm b m pc ls (.ref a :: r)) rfl (by show (ls.map (tS b)).size = _; rw [Array.size_map, hls, hml]) (a := b + a) (rest := r.map (tv b)) rfl hd (by omega) (W := catS r) (by rw [catS_eq]; show 2 * 0 + _ ≤ _; omega) (by omega)
      obtain ⟨T', L, X', a1, a2, a3, a4⟩ := ih F Lc mt bs (pc + 3) ls r mh v mh' h2 hok hls p e R s m args below meth c T1 locs cells slots X1 hx hZ hown hnm hby hml hret hF hLc (by rw [e1]; exact hR) hsz hc hs
      exact ⟨T', L, X', a1, a2, a3, fun fs hf => k1 _ (a4 fs hf)⟩
    · obtain ⟨-, k, na, m', v1, mh1, b1, b2, b3, b4, b5, b6, b7, h2⟩ := h
      have g1 := exec_mono b7
      have g2 := exec_mono h2
      obtain ⟨T1, L1, X1, e1, n1, k1⟩ := call_ok ih hP X hx hZ hw hown hR (hls.trans hml.symm) hl' hd hF hLc b1 b2 b3 b4 b5 b6 b7 (by omega) (by omega)
      obtain ⟨T', L, X', a1, a2, a3, a4⟩ := ih F Lc mt bs (pc + ln i) ls _ mh1 v mh' h2 hok hls p e R s m args below meth c T1 _ _ _ X1 hx hZ hown hnm hby hml hret hF hLc e1 (by omega) (by omega) (by omega)
      refine ⟨T', L1 ++ L, ?_, a1, n1.app a2, a3, fun fs hf => k1 _ (a4 fs hf)⟩
      rw [List.append_assoc] at X'
      exact Stand.eqs X' (by omega) (by omega)
    · obtain ⟨h1, rfl⟩ := h
      obtain ⟨a1, a2⟩ := ret_ok (b := b) X hx hret hd h1
      refine ⟨T, [], ?_, hR, Fr.nil b, a1, a2⟩
      rw [List.append_nil]
      exact Stand.eqs X (by omega) (by omega)
end Sound
end Jvm.OwnM
namespace Jvm.OwnM
open Jvm Jvm.ClassFile Sem Op Lib Jvm.Stand Jvm.Free Jvm.LawKit Jvm.RoadKit
/-- the law returns true, within the room -/
def Runs (P : Prog) (F Lc cells slots : Nat) (mt : Mth) (vs : List Value) : Prop := ∃ n mh', exec P RA n F Lc mt 0 (entryL vs mt.mx) [] [] = some (some (.int 1), mh') ∧ mh'.length ≤ cells ∧ osl P mh' ≤ slots
theorem Rel.nil (Z : State) (P : Prog) : Rel Z P Z.heap.size Z.heap [] := ⟨rfl, fun _ _ q => by simp at q⟩
theorem law_met {l : Launch} {ws : List Jvm.Cond} {P : Prog} {Z : State} {a0 : Array Value} (hP : okP ws P = true) (hw : ∀ d ∈ ws, d.before a0 Z = true) {mt : Mth} {bs : ByteArray} (hok : okM ws P mt bs = true) {vs : List Value} (hlen : (entryL vs mt.mx).size = mt.mx) (rm : Room) (hr : Runs P rm.frames rm.locals rm.cells rm.slots mt vs) (ws0 : List Jvm.Cond) :
    MetFree l mt.y (head1 (Jvm.Cond.code mt.y bs mt.mx mt.rt :: ws0) rm) (fun a U => a = (vs.map (tv Z.heap.size)).toArray ∧ Z.Warmed39 U.vm ∧ U.heap = Z.heap) (fun _ _ _ _ _ => True)
      (fun _ U o U' => ∃ v' L, o = .returned v' ∧ (v' = some (.int 1) ∧ Fr Z.heap.size L) ∧ FrameEnd U o U' L rm.cells rm.slots) := by
  obtain ⟨n, mh', hex, hc, hs⟩ := hr
  have hM := met (l := l) (sound (l := l) (b := Z.heap.size) hP hw n) hok hex hlen (Rel.nil Z P) ws0 (rm := rm) (Nat.le_refl _) (Nat.le_refl _) (by simpa using hc) (by simpa [osl] using hs)
  intro p e h1 h2 h3 s m args below h4 h5 h6 h7
  obtain ⟨k, o, q1, q2, q3, v', L, q4, ⟨q5, -, q6⟩, q7⟩ := hM p e h1 h2 h3 s m args below h4 h5 h6 h7
  exact ⟨k, o, q1, q2, q3, v', L, q4, ⟨q5, q6⟩, q7⟩
/-! ## the machine's runs, put together -/
section Fwd
variable {P : Prog} {A : Alg} {n F Lc : Nat} {m : Mth} {pc : Nat} {ls : Array Slot} {st : List Value} {mh : List Obj} {r0 : Nat} {i : Instr} {aux : List Nat} {cv : Value}
theorem exec_p (hat : m.at pc = some (r0, i, aux, cv)) (hi : icl i = 0) {pc' : Nat} {ls' : Array Slot} {st' : List Value} (hs : stepP A i aux cv pc ls st mh = some (pc', ls', st')) : exec P A (n + 1) F Lc m pc ls st mh = exec P A n F Lc m pc' ls' st' mh := by
  simp only [exec, execB, hat, hi, hs]
theorem exec_h (hat : m.at pc = some (r0, i, aux, cv)) (hi : icl i = 1) {st' : List Value} {mh' : List Obj} (hs : stepH P A i aux st mh = some (st', mh')) : exec P A (n + 1) F Lc m pc ls st mh = exec P A n F Lc m (pc + ln i) ls st' mh' := by
  simp only [exec, execB, hat, hi, hs]
theorem exec_o (hat : m.at pc = some (r0, i, [], cv)) (hi : icl i = 2) {a : Nat} {r : List Value} (hs : st = .ref a :: r) (h1 : 1 ≤ F) (h2 : catS r + 12 ≤ Lc) : exec P A (n + 1) F Lc m pc ls st mh = exec P A n F Lc m (pc + 3) ls r mh := by
  subst hs
  simp only [exec, execB, hat, hi, Nat.ble_eq_true_of_le h1, Nat.ble_eq_true_of_le h2, Bool.and_self, cond_true]
theorem callee_ne {k na : Nat} (h : callee i aux st mh = some (k, na)) : aux ≠ [] := by
  intro e; subst e
  cases i <;> simp [callee] at h
theorem exec_c (hat : m.at pc = some (r0, i, aux, cv)) (hi : icl i = 2) {k na : Nat} {m' : Mth} {v1 : Option Value} {mh1 : List Obj} (h1 : callee i aux st mh = some (k, na)) (h2 : P.M[k]? = some m') (h3 : 1 ≤ F) (h4 : catS (st.drop na) + (m'.mx + 11) ≤ Lc) (h5 : na ≤ st.length) (h6 : (entryL (st.take na).reverse m'.mx).size = m'.mx)
    (h7 : exec P A n (F - 1) (Lc - (catS (st.drop na) + (m'.mx + 11))) m' 0 (entryL (st.take na).reverse m'.mx) [] mh = some (v1, mh1)) : exec P A (n + 1) F Lc m pc ls st mh = exec P A n F Lc m (pc + ln i) ls (v1.toList ++ st.drop na) mh1 := by
  have hne := callee_ne h1
  cases aux with
  | nil => exact absurd rfl hne
  | cons a0 ar =>
    have hb : (Nat.ble 1 F && Nat.ble (catS (st.drop na) + (m'.mx + 11)) Lc && Nat.ble na st.length && Nat.beq (entryL (st.take na).reverse m'.mx).size m'.mx) = true := by
      rw [Nat.ble_eq_true_of_le h3, Nat.ble_eq_true_of_le h4, Nat.ble_eq_true_of_le h5, h6, Nat.beq_refl]; rfl
    simp only [exec, execB, hat, hi, h1, h2, hb, cond_true, h7]
theorem exec_r (hat : m.at pc = some (r0, i, aux, cv)) (hi : icl i = 3) {v : Option Value} (hs : retV A i m.rt st = some v) : exec P A (n + 1) F Lc m pc ls st mh = some (v, mh) := by
  simp only [exec, execB, hat, hi, hs]
end Fwd
theorem icl_le (i : Instr) : icl i = 0 ∨ icl i = 1 ∨ icl i = 2 ∨ icl i = 3 := by cases i <;> simp [icl]
theorem retV_icl {A : Alg} {i : Instr} {rt : Option FieldType} {st : List Value} {v : Option Value} (h : retV A i rt st = some v) : icl i = 3 := by
  simp only [retV] at h
  split at h <;> first | rfl | cases h
theorem exec_fuel {P : Prog} {A : Alg} : ∀ {n F Lc : Nat} {m : Mth} {pc : Nat} {ls : Array Slot} {st : List Value} {mh : List Obj} {r : Option Value × List Obj} {n' : Nat}, exec P A n F Lc m pc ls st mh = some r → n ≤ n' → exec P A n' F Lc m pc ls st mh = some r
  | 0, F, Lc, m, pc, ls, st, mh, r, n', h, _ => by simp only [exec] at h; cases h
  | n + 1, F, Lc, m, pc, ls, st, mh, (v, mh'), n', h, hn => by
    obtain ⟨k, rfl⟩ : ∃ k, n' = k + 1 := ⟨n' - 1, by omega⟩
    have hk : n ≤ k := by omega
    obtain ⟨r0, i, aux, cv, hat, h | h | h | h | h⟩ := exec_inv h
    · obtain ⟨hi, pc', ls', st', h1, h2⟩ := h
      rw [exec_p hat hi h1]; exact exec_fuel h2 hk
    · obtain ⟨hi, st', mh1, h1, h2⟩ := h
      rw [exec_h hat hi h1]; exact exec_fuel h2 hk
    · obtain ⟨hi, rfl, a, r, hs, b1, b2, h2⟩ := h
      rw [exec_o hat hi hs b1 b2]; exact exec_fuel h2 hk
    · obtain ⟨hi, k', na, m', v1, mh1, b1, b2, b3, b4, b5, b6, b7, h2⟩ := h
      rw [exec_c hat hi b1 b2 b3 b4 b5 b6 (exec_fuel b7 hk)]; exact exec_fuel h2 hk
    · obtain ⟨h1, rfl⟩ := h
      exact exec_r hat (retV_icl h1) h1
/-- it ends, and Q holds of what it returns and of the objects -/
def Ev (P : Prog) (F Lc : Nat) (m : Mth) (pc : Nat) (ls : Array Slot) (st : List Value) (mh : List Obj) (Q : Option Value → List Obj → Prop) : Prop := ∃ n v mh', exec P RA n F Lc m pc ls st mh = some (v, mh') ∧ Q v mh'
section EvL
variable {P : Prog} {F Lc : Nat} {m : Mth} {pc : Nat} {ls : Array Slot} {st : List Value} {mh : List Obj} {r0 : Nat} {i : Instr} {aux : List Nat} {cv : Value} {Q : Option Value → List Obj → Prop}
theorem Ev.p (hat : m.at pc = some (r0, i, aux, cv)) (hi : icl i = 0) {pc' : Nat} {ls' : Array Slot} {st' : List Value} (hs : stepP RA i aux cv pc ls st mh = some (pc', ls', st')) (k : Ev P F Lc m pc' ls' st' mh Q) : Ev P F Lc m pc ls st mh Q := by
  obtain ⟨n, v, mh', h, q⟩ := k
  exact ⟨n + 1, v, mh', by rw [exec_p hat hi hs]; exact h, q⟩
theorem Ev.h (hat : m.at pc = some (r0, i, aux, cv)) (hi : icl i = 1) {st' : List Value} {mh1 : List Obj} (hs : stepH P RA i aux st mh = some (st', mh1)) (k : Ev P F Lc m (pc + ln i) ls st' mh1 Q) : Ev P F Lc m pc ls st mh Q := by
  obtain ⟨n, v, mh', h, q⟩ := k
  exact ⟨n + 1, v, mh', by rw [exec_h hat hi hs]; exact h, q⟩
theorem Ev.o (hat : m.at pc = some (r0, i, [], cv)) (hi : icl i = 2) {a : Nat} {r : List Value} (hs : st = .ref a :: r) (h1 : 1 ≤ F) (h2 : catS r + 12 ≤ Lc) (k : Ev P F Lc m (pc + 3) ls r mh Q) : Ev P F Lc m pc ls st mh Q := by
  obtain ⟨n, v, mh', h, q⟩ := k
  exact ⟨n + 1, v, mh', by rw [exec_o hat hi hs h1 h2]; exact h, q⟩
theorem Ev.c (hat : m.at pc = some (r0, i, aux, cv)) (hi : icl i = 2) {k na : Nat} {m' : Mth} (h1 : callee i aux st mh = some (k, na)) (h2 : P.M[k]? = some m') (h3 : 1 ≤ F) (h4 : catS (st.drop na) + (m'.mx + 11) ≤ Lc) (h5 : na ≤ st.length) (h6 : (entryL (st.take na).reverse m'.mx).size = m'.mx)
    (h7 : Ev P (F - 1) (Lc - (catS (st.drop na) + (m'.mx + 11))) m' 0 (entryL (st.take na).reverse m'.mx) [] mh (fun v1 mh1 => Ev P F Lc m (pc + ln i) ls (v1.toList ++ st.drop na) mh1 Q)) : Ev P F Lc m pc ls st mh Q := by
  obtain ⟨n, v1, mh1, e1, n2, v, mh', e2, q⟩ := h7
  refine ⟨max n n2 + 1, v, mh', ?_, q⟩
  rw [exec_c hat hi h1 h2 h3 h4 h5 h6 (exec_fuel e1 (Nat.le_max_left _ _))]
  exact exec_fuel e2 (Nat.le_max_right _ _)
theorem Ev.r (hat : m.at pc = some (r0, i, aux, cv)) (hi : icl i = 3) {v : Option Value} (hs : retV RA i m.rt st = some v) (q : Q v mh) : Ev P F Lc m pc ls st mh Q := ⟨1, v, mh, exec_r hat hi hs, q⟩
theorem Ev.mono {Q' : Option Value → List Obj → Prop} (k : Ev P F Lc m pc ls st mh Q) (h : ∀ v mh', Q v mh' → Q' v mh') : Ev P F Lc m pc ls st mh Q' := by
  obtain ⟨n, v, mh', e, q⟩ := k
  exact ⟨n, v, mh', e, h _ _ q⟩
theorem Ev.of_exec {n : Nat} {v : Option Value} {mh' : List Obj} (h : exec P RA n F Lc m pc ls st mh = some (v, mh')) (q : Q v mh') : Ev P F Lc m pc ls st mh Q := ⟨n, v, mh', h, q⟩
end EvL
/-- plain steps, many at once -/
def runP (A : Alg) (m : Mth) (mh : List Obj) : Nat → Nat → Array Slot → List Value → Option (Nat × Array Slot × List Value)
  | 0, pc, ls, st => some (pc, ls, st)
  | n + 1, pc, ls, st => match m.at pc with
    | some (_, i, aux, cv) => bif Nat.beq (icl i) 0 then (match stepP A i aux cv pc ls st mh with
      | some (pc', ls', st') => runP A m mh n pc' ls' st'
      | none => none) else none
    | none => none
theorem Ev.ps {P : Prog} {F Lc : Nat} {m : Mth} {mh : List Obj} {Q : Option Value → List Obj → Prop} : ∀ (n : Nat) {pc : Nat} {ls : Array Slot} {st : List Value} {pc' : Nat} {ls' : Array Slot} {st' : List Value}, runP RA m mh n pc ls st = some (pc', ls', st') → Ev P F Lc m pc' ls' st' mh Q → Ev P F Lc m pc ls st mh Q
  | 0, pc, ls, st, pc', ls', st', h, k => by simp only [runP] at h; cases h; exact k
  | n + 1, pc, ls, st, pc', ls', st', h, k => by
    simp only [runP] at h
    split at h
    · rename_i r0 i aux cv hat
      cases q : Nat.beq (icl i) 0
      · rw [q] at h; cases h
      · rw [q] at h
        simp only [cond_true] at h
        split at h
        · rename_i pc1 ls1 st1 e1
          exact Ev.p hat (Nat.eq_of_beq_eq_true q) e1 (Ev.ps n h k)
        · cases h
    · cases h
end Jvm.OwnM
namespace Jvm.OwnM
open Jvm Jvm.ClassFile Sem Op Lib Jvm.Stand Jvm.Free Jvm.LawKit Jvm.RoadKit
/-! ## a run under another arithmetic -/
def fO (f : Value → Value) : Obj → Obj
  | .inl (c, fs) => .inl (c, fs.map fun p => (p.1, f p.2))
  | .inr (t, vs) => .inr (t, vs.map f)
def isK : Instr → Bool
  | .iconst _ | .bipush _ | .sipush _ | .lconst _ | .ldc _ | .ldc_w _ | .ldc2_w _ | .arraylength => true
  | _ => false
def isN : Instr → Bool
  | .nop | .newarray _ | .anewarray _ => true
  | _ => false
/-- f carries the arithmetic A to the real one -/
def Hom (A : Alg) (f : Value → Value) : Prop :=
  (∀ v, kd (f v) = kd v ∧ (f v).category = v.category) ∧ (∀ v, kd v = 3 → f v = v) ∧ (∀ t, f (defaultValue t) = defaultValue t) ∧ f (.int 1) = .int 1 ∧
  (∀ i vs r, A.1 i vs = some r → RA.1 i (vs.map f) = some (f r)) ∧ (∀ i vs r, A.2 i vs = some r → RA.2 i (vs.map f) = some r) ∧
  (∀ i v j, isN i = true → A.1 i [v] = some (.int j) → f (.int j) = .int j) ∧ (∀ i c r, isK i = true → A.1 i [c] = some r → RA.1 i [c] = some (f r)) ∧
  (∀ k c v r, A.1 (.iinc k c) [v, .int (Int32.ofInt c)] = some r → RA.1 (.iinc k c) [f v, .int (Int32.ofInt c)] = some (f r))
section Hom
variable {A : Alg} {f : Value → Value} (H : Hom A f) {P : Prog}
theorem Hom.kd (H : Hom A f) (v : Value) : OwnM.kd (f v) = OwnM.kd v := (H.1 v).1
theorem Hom.cat (H : Hom A f) (v : Value) : (f v).category = v.category := (H.1 v).2
theorem Hom.ref (H : Hom A f) (a : Nat) : f (.ref a) = .ref a := H.2.1 _ rfl
theorem Hom.null (H : Hom A f) : f .null = .null := H.2.1 _ rfl
theorem Hom.one (H : Hom A f) : f (.int 1) = .int 1 := H.2.2.2.1
theorem Hom.val (H : Hom A f) {i : Instr} {vs : List Value} {r : Value} (h : A.1 i vs = some r) : RA.1 i (vs.map f) = some (f r) := H.2.2.2.2.1 _ _ _ h
theorem Hom.cnd (H : Hom A f) {i : Instr} {vs : List Value} {r : Bool} (h : A.2 i vs = some r) : RA.2 i (vs.map f) = some r := H.2.2.2.2.2.1 _ _ _ h
theorem Hom.czN (H : Hom A f) {i : Instr} (hi : isN i = true) {v : Value} {j : Int32} (h : OwnM.czN A i v = some j) : OwnM.czN RA i (f v) = some j := by
  simp only [OwnM.czN] at h ⊢
  split at h
  · rename_i j' e
    cases h
    have q := H.val e
    rw [H.2.2.2.2.2.2.1 _ _ _ hi e] at q
    simp only [List.map_cons, List.map_nil] at q
    rw [q]
  · cases h
theorem Hom.cz (H : Hom A f) {v : Value} {j : Int32} (h : OwnM.cz A v = some j) : OwnM.cz RA (f v) = some j := H.czN rfl h
theorem Hom.cst (H : Hom A f) {i : Instr} (hi : isK i = true) {c : Value} {st s : List Value} (h : OwnM.cst A i c st = some s) : OwnM.cst RA i c (st.map f) = some (s.map f) := by
  obtain ⟨v, h1, rfl⟩ := cst_inv h
  simp only [OwnM.cst, H.2.2.2.2.2.2.2.1 _ _ _ hi h1, List.map_cons]
theorem Hom.op1 (H : Hom A f) {i : Instr} {st s : List Value} (h : OwnM.op1 A i st = some s) : OwnM.op1 RA i (st.map f) = some (s.map f) := by
  obtain ⟨x, r, v, rfl, h1, rfl⟩ := op1_inv h
  have q := H.val h1
  simp only [List.map_cons, List.map_nil] at q
  simp only [OwnM.op1, List.map_cons, q]
theorem Hom.op2 (H : Hom A f) {i : Instr} {st s : List Value} (h : OwnM.op2 A i st = some s) : OwnM.op2 RA i (st.map f) = some (s.map f) := by
  obtain ⟨x, y, r, v, rfl, h1, rfl⟩ := op2_inv h
  have q := H.val h1
  simp only [List.map_cons, List.map_nil] at q
  simp only [OwnM.op2, List.map_cons, q]
theorem Hom.lod (H : Hom A f) {n : Nat} {ls : Array Slot} {k : Nat} {v : Value} (h : OwnM.lod n ls k = some v) : OwnM.lod n (ls.map (mS f)) k = some (f v) := by
  obtain ⟨h1, h2⟩ := lod_inv h
  simp only [OwnM.lod, Array.getElem?_map, h1, Option.map_some, mS, H.kd, h2, Nat.beq_refl, cond_true]
theorem Hom.sto (H : Hom A f) {n : Nat} {ls : Array Slot} {k : Nat} {st : List Value} {l' : Array Slot} {r : List Value} (h : OwnM.sto n ls k st = some (l', r)) : OwnM.sto n (ls.map (mS f)) k (st.map f) = some (l'.map (mS f), r.map f) := by
  obtain ⟨v, rfl, h2, h3⟩ := sto_inv h
  simp only [OwnM.sto, List.map_cons, H.kd, h2, Nat.beq_refl, cond_true, (storeM H.cat h3).1]
theorem place_inv {v : Value} {n k : Nat} (h : place A v n = some k) : ∃ j : Int32, OwnM.cz A v = some j ∧ k = j.toNatClampNeg ∧ ¬ j < 0 ∧ Nat.ble n j.toNatClampNeg = false := by
  simp only [place] at h
  cases q : OwnM.cz A v with
  | none => rw [q] at h; cases h
  | some j =>
    rw [q] at h
    simp only at h
    split at h
    · cases h
    · rename_i hn
      cases e : Nat.ble n j.toNatClampNeg
      · rw [e] at h; cases h; exact ⟨j, rfl, rfl, hn, e⟩
      · rw [e] at h; cases h
theorem Hom.place (H : Hom A f) {v : Value} {n k : Nat} (h : OwnM.place A v n = some k) : OwnM.place RA (f v) n = some k := by
  obtain ⟨j, h1, rfl, h3, h4⟩ := place_inv h
  simp only [OwnM.place, H.cz h1, if_neg h3, h4, cond_false]
theorem mapAt (g : Obj → Obj) (mh : List Obj) (a : Nat) : (mh.map g)[a]? = (mh[a]?).map g := List.getElem?_map ..
theorem objAt_map {mh : List Obj} {a : Nat} {o : Nat × List (Nat × Value)} (h : objAt mh a = some o) : objAt (mh.map (fO f)) a = some (o.1, o.2.map fun p => (p.1, f p.2)) := by
  obtain ⟨c, fs⟩ := o
  simp only [objAt, mapAt, objAt_inv h, Option.map_some, fO]
theorem arrAt_map {mh : List Obj} {a : Nat} {o : FieldType × List Value} (h : arrAt mh a = some o) : arrAt (mh.map (fO f)) a = some (o.1, o.2.map f) := by
  obtain ⟨c, fs⟩ := o
  simp only [arrAt, mapAt, arrAt_inv h, Option.map_some, fO]
theorem gF_map {k : Nat} : ∀ {fs : List (Nat × Value)} {v : Value}, gF fs k = some v → gF (fs.map fun p => (p.1, f p.2)) k = some (f v)
  | [], v, h => by cases h
  | (k', u) :: r, v, h => by
    simp only [gF] at h
    simp only [List.map_cons, gF]
    cases hb : Nat.beq k' k
    · rw [hb] at h; exact gF_map h
    · rw [hb] at h; cases h; rfl
theorem sF_map {k : Nat} {w : Value} : ∀ (fs : List (Nat × Value)), (sF fs k w).map (fun p => (p.1, f p.2)) = sF (fs.map fun p => (p.1, f p.2)) k (f w)
  | [] => rfl
  | (k', u) :: r => by
    simp only [List.map_cons, sF]
    cases hb : Nat.beq k' k
    · simp only [cond_false, List.map_cons, sF_map r]
    · rfl
theorem ald_invA {ok : FieldType → Bool} {mh : List Obj} {st s : List Value} (h : ald A ok mh st = some s) : ∃ (j : Value) (a : Nat) (r : List Value) (ty : FieldType) (vs : List Value) (k : Nat) (v : Value), st = j :: .ref a :: r ∧ arrAt mh a = some (ty, vs) ∧ ok ty = true ∧ place A j vs.length = some k ∧ vs[k]? = some v ∧ Nat.beq (OwnM.kd v) 0 = false ∧ s = v :: r := by
  simp only [ald] at h
  split at h
  · rename_i j a r
    split at h
    · rename_i ty vs e
      split at h
      · rename_i hok
        cases q : place A j vs.length with
        | none => simp only [q] at h; cases h
        | some k =>
          simp only [q] at h
          cases u : vs[k]? with
          | none => simp only [u] at h; cases h
          | some v =>
            simp only [u] at h
            cases z : Nat.beq (OwnM.kd v) 0
            · rw [z] at h; cases h; exact ⟨j, a, r, ty, vs, k, v, rfl, e, hok, q, u, z, rfl⟩
            · rw [z] at h; cases h
      · cases h
    · cases h
  · cases h
theorem Hom.ald (H : Hom A f) {ok : FieldType → Bool} {mh : List Obj} {st s : List Value} (h : OwnM.ald A ok mh st = some s) : OwnM.ald RA ok (mh.map (fO f)) (st.map f) = some (s.map f) := by
  obtain ⟨j, a, r, ty, vs, k, v, rfl, h1, h2, h3, h4, h5, rfl⟩ := ald_invA h
  have h3' := H.place h3
  simp only [OwnM.ald, List.map_cons, H.ref, arrAt_map h1, h2, if_true, List.length_map, h3', List.getElem?_map, h4, Option.map_some, H.kd, h5, cond_false]
theorem Hom.narA (H : Hom A f) {t : FieldType} {v w : Value} (h : OwnM.narA A t v = some w) : OwnM.narA RA t (f v) = some (f w) := by
  cases t with
  | boolean => have q := H.val (show A.1 .iand [v, .int 1] = some w from h); rw [List.map_cons, List.map_cons, H.one] at q; exact q
  | byte => exact H.val (show A.1 .i2b [v] = some w from h)
  | char => exact H.val (show A.1 .i2c [v] = some w from h)
  | short => exact H.val (show A.1 .i2s [v] = some w from h)
  | int => simp only [OwnM.narA, H.kd] at h ⊢; cases q : Nat.beq (OwnM.kd v) 1 <;> rw [q] at h <;> cases h; rfl
  | long => simp only [OwnM.narA, H.kd] at h ⊢; cases q : Nat.beq (OwnM.kd v) 2 <;> rw [q] at h <;> cases h; rfl
  | object C => simp only [OwnM.narA, H.kd] at h ⊢; cases q : Nat.beq (OwnM.kd v) 3 <;> rw [q] at h <;> cases h; rfl
  | array C => simp only [OwnM.narA, H.kd] at h ⊢; cases q : Nat.beq (OwnM.kd v) 3 <;> rw [q] at h <;> cases h; rfl
  | _ => cases h
theorem Hom.isNul (H : Hom A f) (x : Value) : OwnM.isNul (f x) = OwnM.isNul x := by
  have q := H.kd x
  cases x with
  | null => rw [H.null]
  | ref a => rw [H.ref]
  | int u => cases hf : f (.int u) <;> rw [hf] at q <;> first | rfl | cases q
  | long u => cases hf : f (.long u) <;> rw [hf] at q <;> first | rfl | cases q
  | float u => cases hf : f (.float u) <;> rw [hf] at q <;> first | rfl | cases q
  | double u => cases hf : f (.double u) <;> rw [hf] at q <;> first | rfl | cases q
  | retAddr u => cases hf : f (.retAddr u) <;> rw [hf] at q <;> first | rfl | cases q
theorem Hom.same (H : Hom A f) (x y : Value) : OwnM.same (f x) (f y) = OwnM.same x y := by
  simp only [OwnM.same, H.kd]
  cases q : (Nat.beq (OwnM.kd x) 3 && Nat.beq (OwnM.kd y) 3)
  · rfl
  · obtain ⟨u1, u2⟩ := Bool.and_eq_true_iff.mp q
    rw [H.2.1 x (Nat.eq_of_beq_eq_true u1), H.2.1 y (Nat.eq_of_beq_eq_true u2)]
set_option maxHeartbeats 4000000 in
theorem Hom.stepP (H : Hom A f) {i : Instr} {aux : List Nat} {cv : Value} {pc : Nat} {ls : Array Slot} {st : List Value} {mh : List Obj} {pc' : Nat} {ls' : Array Slot} {st' : List Value} (h : OwnM.stepP A i aux cv pc ls st mh = some (pc', ls', st')) :
    OwnM.stepP RA i aux cv pc (ls.map (mS f)) (st.map f) (mh.map (fO f)) = some (pc', ls'.map (mS f), st'.map f) := by
  cases i with
  | iload k =>
    simp only [OwnM.stepP] at h ⊢
    cases q : OwnM.lod 1 ls k with
    | none => rw [q] at h; cases h
    | some v => rw [q] at h; cases h; rw [H.lod q]; rfl
  | lload k =>
    simp only [OwnM.stepP] at h ⊢
    cases q : OwnM.lod 2 ls k with
    | none => rw [q] at h; cases h
    | some v => rw [q] at h; cases h; rw [H.lod q]; rfl
  | aload k =>
    simp only [OwnM.stepP] at h ⊢
    cases q : OwnM.lod 3 ls k with
    | none => rw [q] at h; cases h
    | some v => rw [q] at h; cases h; rw [H.lod q]; rfl
  | iload_n k =>
    simp only [OwnM.stepP] at h ⊢
    cases q : OwnM.lod 1 ls k.val with
    | none => rw [q] at h; cases h
    | some v => rw [q] at h; cases h; rw [H.lod q]; rfl
  | lload_n k =>
    simp only [OwnM.stepP] at h ⊢
    cases q : OwnM.lod 2 ls k.val with
    | none => rw [q] at h; cases h
    | some v => rw [q] at h; cases h; rw [H.lod q]; rfl
  | aload_n k =>
    simp only [OwnM.stepP] at h ⊢
    cases q : OwnM.lod 3 ls k.val with
    | none => rw [q] at h; cases h
    | some v => rw [q] at h; cases h; rw [H.lod q]; rfl
  | istore k =>
    simp only [OwnM.stepP] at h ⊢
    cases q : OwnM.sto 1 ls k st with
    | none => rw [q] at h; cases h
    | some z => rw [q] at h; obtain ⟨l2, r2⟩ := z; cases h; rw [H.sto q]
  | lstore k =>
    simp only [OwnM.stepP] at h ⊢
    cases q : OwnM.sto 2 ls k st with
    | none => rw [q] at h; cases h
    | some z => rw [q] at h; obtain ⟨l2, r2⟩ := z; cases h; rw [H.sto q]
  | astore k =>
    simp only [OwnM.stepP] at h ⊢
    cases q : OwnM.sto 3 ls k st with
    | none => rw [q] at h; cases h
    | some z => rw [q] at h; obtain ⟨l2, r2⟩ := z; cases h; rw [H.sto q]
  | istore_n k =>
    simp only [OwnM.stepP] at h ⊢
    cases q : OwnM.sto 1 ls k.val st with
    | none => rw [q] at h; cases h
    | some z => rw [q] at h; obtain ⟨l2, r2⟩ := z; cases h; rw [H.sto q]
  | lstore_n k =>
    simp only [OwnM.stepP] at h ⊢
    cases q : OwnM.sto 2 ls k.val st with
    | none => rw [q] at h; cases h
    | some z => rw [q] at h; obtain ⟨l2, r2⟩ := z; cases h; rw [H.sto q]
  | astore_n k =>
    simp only [OwnM.stepP] at h ⊢
    cases q : OwnM.sto 3 ls k.val st with
    | none => rw [q] at h; cases h
    | some z => rw [q] at h; obtain ⟨l2, r2⟩ := z; cases h; rw [H.sto q]
  | iconst k =>
    simp only [OwnM.stepP] at h ⊢
    cases q : OwnM.cst A (.iconst k) (.int (Int32.ofInt k)) st with
    | none => rw [q] at h; cases h
    | some z => rw [q] at h; cases h; rw [H.cst rfl q]
  | bipush k =>
    simp only [OwnM.stepP] at h ⊢
    cases q : OwnM.cst A (.bipush k) (.int (Int8.ofInt k).toInt32) st with
    | none => rw [q] at h; cases h
    | some z => rw [q] at h; cases h; rw [H.cst rfl q]
  | sipush k =>
    simp only [OwnM.stepP] at h ⊢
    cases q : OwnM.cst A (.sipush k) (.int (Int16.ofInt k).toInt32) st with
    | none => rw [q] at h; cases h
    | some z => rw [q] at h; cases h; rw [H.cst rfl q]
  | lconst k =>
    simp only [OwnM.stepP] at h ⊢
    cases q : OwnM.cst A (.lconst k) (.long (Int64.ofNat k.val)) st with
    | none => rw [q] at h; cases h
    | some z => rw [q] at h; cases h; rw [H.cst rfl q]
  | ldc k =>
    simp only [OwnM.stepP] at h ⊢
    cases q : OwnM.cst A (.ldc k) cv st with
    | none => rw [q] at h; cases h
    | some z => rw [q] at h; cases h; rw [H.cst rfl q]
  | ldc_w k =>
    simp only [OwnM.stepP] at h ⊢
    cases q : OwnM.cst A (.ldc_w k) cv st with
    | none => rw [q] at h; cases h
    | some z => rw [q] at h; cases h; rw [H.cst rfl q]
  | ldc2_w k =>
    simp only [OwnM.stepP] at h ⊢
    cases q : OwnM.cst A (.ldc2_w k) cv st with
    | none => rw [q] at h; cases h
    | some z => rw [q] at h; cases h; rw [H.cst rfl q]
  | aconst_null =>
    simp only [OwnM.stepP] at h ⊢
    cases h
    rw [List.map_cons, H.null]
  | iadd =>
    simp only [OwnM.stepP] at h ⊢
    cases q : OwnM.op2 A .iadd st with
    | none => rw [q] at h; cases h
    | some z => rw [q] at h; cases h; rw [H.op2 q]
  | isub =>
    simp only [OwnM.stepP] at h ⊢
    cases q : OwnM.op2 A .isub st with
    | none => rw [q] at h; cases h
    | some z => rw [q] at h; cases h; rw [H.op2 q]
  | imul =>
    simp only [OwnM.stepP] at h ⊢
    cases q : OwnM.op2 A .imul st with
    | none => rw [q] at h; cases h
    | some z => rw [q] at h; cases h; rw [H.op2 q]
  | iand =>
    simp only [OwnM.stepP] at h ⊢
    cases q : OwnM.op2 A .iand st with
    | none => rw [q] at h; cases h
    | some z => rw [q] at h; cases h; rw [H.op2 q]
  | ior =>
    simp only [OwnM.stepP] at h ⊢
    cases q : OwnM.op2 A .ior st with
    | none => rw [q] at h; cases h
    | some z => rw [q] at h; cases h; rw [H.op2 q]
  | ixor =>
    simp only [OwnM.stepP] at h ⊢
    cases q : OwnM.op2 A .ixor st with
    | none => rw [q] at h; cases h
    | some z => rw [q] at h; cases h; rw [H.op2 q]
  | ishl =>
    simp only [OwnM.stepP] at h ⊢
    cases q : OwnM.op2 A .ishl st with
    | none => rw [q] at h; cases h
    | some z => rw [q] at h; cases h; rw [H.op2 q]
  | ishr =>
    simp only [OwnM.stepP] at h ⊢
    cases q : OwnM.op2 A .ishr st with
    | none => rw [q] at h; cases h
    | some z => rw [q] at h; cases h; rw [H.op2 q]
  | iushr =>
    simp only [OwnM.stepP] at h ⊢
    cases q : OwnM.op2 A .iushr st with
    | none => rw [q] at h; cases h
    | some z => rw [q] at h; cases h; rw [H.op2 q]
  | idiv =>
    simp only [OwnM.stepP] at h ⊢
    cases q : OwnM.op2 A .idiv st with
    | none => rw [q] at h; cases h
    | some z => rw [q] at h; cases h; rw [H.op2 q]
  | irem =>
    simp only [OwnM.stepP] at h ⊢
    cases q : OwnM.op2 A .irem st with
    | none => rw [q] at h; cases h
    | some z => rw [q] at h; cases h; rw [H.op2 q]
  | ladd =>
    simp only [OwnM.stepP] at h ⊢
    cases q : OwnM.op2 A .ladd st with
    | none => rw [q] at h; cases h
    | some z => rw [q] at h; cases h; rw [H.op2 q]
  | lsub =>
    simp only [OwnM.stepP] at h ⊢
    cases q : OwnM.op2 A .lsub st with
    | none => rw [q] at h; cases h
    | some z => rw [q] at h; cases h; rw [H.op2 q]
  | lmul =>
    simp only [OwnM.stepP] at h ⊢
    cases q : OwnM.op2 A .lmul st with
    | none => rw [q] at h; cases h
    | some z => rw [q] at h; cases h; rw [H.op2 q]
  | land =>
    simp only [OwnM.stepP] at h ⊢
    cases q : OwnM.op2 A .land st with
    | none => rw [q] at h; cases h
    | some z => rw [q] at h; cases h; rw [H.op2 q]
  | lor =>
    simp only [OwnM.stepP] at h ⊢
    cases q : OwnM.op2 A .lor st with
    | none => rw [q] at h; cases h
    | some z => rw [q] at h; cases h; rw [H.op2 q]
  | lxor =>
    simp only [OwnM.stepP] at h ⊢
    cases q : OwnM.op2 A .lxor st with
    | none => rw [q] at h; cases h
    | some z => rw [q] at h; cases h; rw [H.op2 q]
  | lcmp =>
    simp only [OwnM.stepP] at h ⊢
    cases q : OwnM.op2 A .lcmp st with
    | none => rw [q] at h; cases h
    | some z => rw [q] at h; cases h; rw [H.op2 q]
  | lshl =>
    simp only [OwnM.stepP] at h ⊢
    cases q : OwnM.op2 A .lshl st with
    | none => rw [q] at h; cases h
    | some z => rw [q] at h; cases h; rw [H.op2 q]
  | lshr =>
    simp only [OwnM.stepP] at h ⊢
    cases q : OwnM.op2 A .lshr st with
    | none => rw [q] at h; cases h
    | some z => rw [q] at h; cases h; rw [H.op2 q]
  | lushr =>
    simp only [OwnM.stepP] at h ⊢
    cases q : OwnM.op2 A .lushr st with
    | none => rw [q] at h; cases h
    | some z => rw [q] at h; cases h; rw [H.op2 q]
  | ineg =>
    simp only [OwnM.stepP] at h ⊢
    cases q : OwnM.op1 A .ineg st with
    | none => rw [q] at h; cases h
    | some z => rw [q] at h; cases h; rw [H.op1 q]
  | i2b =>
    simp only [OwnM.stepP] at h ⊢
    cases q : OwnM.op1 A .i2b st with
    | none => rw [q] at h; cases h
    | some z => rw [q] at h; cases h; rw [H.op1 q]
  | i2c =>
    simp only [OwnM.stepP] at h ⊢
    cases q : OwnM.op1 A .i2c st with
    | none => rw [q] at h; cases h
    | some z => rw [q] at h; cases h; rw [H.op1 q]
  | i2s =>
    simp only [OwnM.stepP] at h ⊢
    cases q : OwnM.op1 A .i2s st with
    | none => rw [q] at h; cases h
    | some z => rw [q] at h; cases h; rw [H.op1 q]
  | i2l =>
    simp only [OwnM.stepP] at h ⊢
    cases q : OwnM.op1 A .i2l st with
    | none => rw [q] at h; cases h
    | some z => rw [q] at h; cases h; rw [H.op1 q]
  | lneg =>
    simp only [OwnM.stepP] at h ⊢
    cases q : OwnM.op1 A .lneg st with
    | none => rw [q] at h; cases h
    | some z => rw [q] at h; cases h; rw [H.op1 q]
  | l2i =>
    simp only [OwnM.stepP] at h ⊢
    cases q : OwnM.op1 A .l2i st with
    | none => rw [q] at h; cases h
    | some z => rw [q] at h; cases h; rw [H.op1 q]
  | iinc k c =>
    simp only [OwnM.stepP] at h ⊢
    cases q : OwnM.lod 1 ls k with
    | none => simp only [q] at h; cases h
    | some v =>
      simp only [q] at h
      cases q1 : A.1 (.iinc k c) [v, .int (Int32.ofInt c)] with
      | none => simp only [q1] at h; cases h
      | some w =>
        simp only [q1] at h
        cases q2 : OwnM.sto 1 ls k [w] with
        | none => simp only [q2] at h; cases h
        | some z =>
          simp only [q2] at h; obtain ⟨l2, r2⟩ := z; cases h
          have q3 := H.sto q2
          simp only [List.map_cons, List.map_nil] at q3
          simp only [H.lod q, H.2.2.2.2.2.2.2.2 _ _ _ _ q1, q3]
  | goto t =>
    simp only [OwnM.stepP] at h ⊢
    cases q : jmp aux with
    | none => rw [q] at h; cases h
    | some t => rw [q] at h; cases h; rfl
  | ifCond cd t =>
    simp only [OwnM.stepP] at h ⊢
    split at h
    · rename_i x r
      cases q0 : A.2 (.ifCond cd t) [x] with
      | none => rw [q0] at h; cases h
      | some bb =>
        have q1 := H.cnd q0
        simp only [List.map_cons, List.map_nil] at q1
        rw [q0] at h
        simp only [List.map_cons, q1]
        cases q : br (some bb) aux (pc + 3) with
        | none => rw [q] at h; cases h
        | some z => rw [q] at h; cases h; rfl
    · cases h
  | if_icmp cd t =>
    simp only [OwnM.stepP] at h ⊢
    split at h
    · rename_i y x r
      cases q0 : A.2 (.if_icmp cd t) [x, y] with
      | none => rw [q0] at h; cases h
      | some bb =>
        have q1 := H.cnd q0
        simp only [List.map_cons, List.map_nil] at q1
        rw [q0] at h
        simp only [List.map_cons, q1]
        cases q : br (some bb) aux (pc + 3) with
        | none => rw [q] at h; cases h
        | some z => rw [q] at h; cases h; rfl
    · cases h
  | ifnull t =>
    simp only [OwnM.stepP] at h ⊢
    split at h
    · rename_i x r
      simp only [List.map_cons, H.isNul]
      cases q : br (OwnM.isNul x) aux (pc + 3) with
      | none => rw [q] at h; cases h
      | some z => rw [q] at h; cases h; rfl
    · cases h
  | ifnonnull t =>
    simp only [OwnM.stepP] at h ⊢
    split at h
    · rename_i x r
      simp only [List.map_cons, H.isNul]
      cases q : br ((OwnM.isNul x).map (!·)) aux (pc + 3) with
      | none => rw [q] at h; cases h
      | some z => rw [q] at h; cases h; rfl
    · cases h
  | if_acmp cd t =>
    cases cd with
    | eq =>
      simp only [OwnM.stepP] at h ⊢
      split at h
      · rename_i y x r
        simp only [List.map_cons, H.same]
        cases q : br (OwnM.same x y) aux (pc + 3) with
        | none => rw [q] at h; cases h
        | some z => rw [q] at h; cases h; rfl
      · cases h
    | ne =>
      simp only [OwnM.stepP] at h ⊢
      split at h
      · rename_i y x r
        simp only [List.map_cons, H.same]
        cases q : br ((OwnM.same x y).map (!·)) aux (pc + 3) with
        | none => rw [q] at h; cases h
        | some z => rw [q] at h; cases h; rfl
      · cases h
  | dup =>
    simp only [OwnM.stepP] at h ⊢
    split at h
    · rename_i x r
      simp only [List.map_cons, H.cat]
      cases q : Nat.beq x.category 1 <;> rw [q] at h <;> cases h
      rfl
    · cases h
  | dup_x1 =>
    simp only [OwnM.stepP] at h ⊢
    split at h
    · rename_i x y r
      simp only [List.map_cons, H.cat]
      cases q : (Nat.beq x.category 1 && Nat.beq y.category 1) <;> rw [q] at h <;> cases h
      rfl
    · cases h
  | dup2 =>
    simp only [OwnM.stepP] at h ⊢
    split at h
    · rename_i x y r
      simp only [List.map_cons, H.cat]
      cases q : (Nat.beq x.category 1 && Nat.beq y.category 1) <;> rw [q] at h <;> cases h
      rfl
    · cases h
  | pop =>
    simp only [OwnM.stepP] at h ⊢
    split at h
    · rename_i x r
      simp only [List.map_cons, H.cat]
      cases q : Nat.beq x.category 1 <;> rw [q] at h <;> cases h
      rfl
    · cases h
  | getfield k =>
    simp only [OwnM.stepP] at h ⊢
    split at h
    · rename_i a r
      split at h
      · rename_i cid fs q
        split at h
        · rename_i g q2
          cases q3 : gF fs g with
          | none => simp only [q3] at h; cases h
          | some v =>
            simp only [q3] at h; cases h
            simp only [List.map_cons, H.ref, objAt_map q, q2, gF_map q3]
        · cases h
      · cases h
    · cases h
  | arraylength =>
    simp only [OwnM.stepP] at h ⊢
    split at h
    · rename_i a r
      split at h
      · rename_i ty vs q
        cases q1 : A.1 .arraylength [.int vs.length.toInt32] with
        | none => simp only [q1] at h; cases h
        | some v =>
          simp only [q1] at h; cases h
          simp only [List.map_cons, H.ref, arrAt_map q, List.length_map, H.2.2.2.2.2.2.2.1 _ _ _ rfl q1]
      · cases h
    · cases h
  | iaload =>
    simp only [OwnM.stepP] at h ⊢
    cases q : OwnM.ald A (fun t => decide (t = .int)) mh st with
    | none => rw [q] at h; cases h
    | some z => rw [q] at h; cases h; rw [H.ald q]
  | laload =>
    simp only [OwnM.stepP] at h ⊢
    cases q : OwnM.ald A (fun t => decide (t = .long)) mh st with
    | none => rw [q] at h; cases h
    | some z => rw [q] at h; cases h; rw [H.ald q]
  | baload =>
    simp only [OwnM.stepP] at h ⊢
    cases q : OwnM.ald A (fun t => decide (t = .byte)) mh st with
    | none => rw [q] at h; cases h
    | some z => rw [q] at h; cases h; rw [H.ald q]
  | aaload =>
    simp only [OwnM.stepP] at h ⊢
    cases q : OwnM.ald A (fun t => t.isReference) mh st with
    | none => rw [q] at h; cases h
    | some z => rw [q] at h; cases h; rw [H.ald q]
  | _ => exact nomatch (show (none : Option (Nat × Array Slot × List Value)) = some (pc', ls', st') from h)
theorem mapSet (g : Obj → Obj) (mh : List Obj) (a : Nat) (x : Obj) : (mh.set a x).map g = (mh.map g).set a (g x) := List.map_set
theorem okAt_map (H : Hom A f) {vs : List Value} {k : Nat} (h : okAt vs k = true) : okAt (vs.map f) k = true := by
  simp only [okAt] at h ⊢
  rw [List.getElem?_map]
  cases q : vs[k]? with
  | none => rw [q] at h; cases h
  | some v => rw [q] at h; simp only [Option.map_some, H.kd]; exact h
theorem Hom.ast (H : Hom A f) {t : FieldType} {mh : List Obj} {st st' : List Value} {mh' : List Obj} (h : OwnM.ast A t mh st = some (st', mh')) : OwnM.ast RA t (mh.map (fO f)) (st.map f) = some (st'.map f, mh'.map (fO f)) := by
  obtain ⟨v, j, a, vs, k, w, rfl, e1, e2, e3, e4, rfl⟩ := ast_inv h
  simp only [OwnM.ast, List.map_cons, H.ref, arrAt_map e1, if_true, List.length_map, H.place e2, H.narA e3, okAt_map H e4, cond_true, mapSet, fO, List.map_set]
theorem okSt_map (H : Hom A f) {mh : List Obj} {C : String} {v : Value} (h : okSt P mh C v = true) : okSt P (mh.map (fO f)) C (f v) = true := by
  cases v with
  | null => rw [H.null]; rfl
  | ref y =>
    rw [H.ref]
    simp only [okSt] at h ⊢
    cases q : objAt mh y with
    | none => rw [q] at h; cases h
    | some o => rw [q] at h; rw [objAt_map q]; exact h
  | _ => cases h
theorem Hom.stepH (H : Hom A f) {i : Instr} {aux : List Nat} {st : List Value} {mh : List Obj} {st' : List Value} {mh' : List Obj} (h : OwnM.stepH P A i aux st mh = some (st', mh')) :
    OwnM.stepH P RA i aux (st.map f) (mh.map (fO f)) = some (st'.map f, mh'.map (fO f)) := by
  rcases stepH_kind h with ⟨k, rfl⟩ | ⟨t, rfl⟩ | ⟨k, rfl⟩ | ⟨k, rfl⟩ | rfl | rfl | rfl | rfl
  · obtain ⟨cid, ce, e1, e2, rfl, rfl⟩ := new_inv h
    obtain ⟨C, nn, fids⟩ := ce
    have hd : ∀ g, f (dft P g) = dft P g := fun g => by
      simp only [dft]
      split
      · exact H.2.2.1 _
      · exact H.null
    simp only [OwnM.stepH, e1, e2, List.length_map, List.map_cons, H.ref, List.map_append, List.map_nil, fO, List.map_map, Function.comp_def, hd]
  · obtain ⟨v, r, n, rfl, e1, hn, hcap, rfl, rfl⟩ := newarr_inv h
    simp only [OwnM.stepH, List.map_cons, H.czN rfl e1, if_neg hn, Nat.ble_eq_true_of_le hcap, cond_true, List.length_map, H.ref, List.map_append, List.map_nil, fO, List.map_replicate, H.2.2.1]
  · obtain ⟨cid, v, r, ce, n, e0, rfl, e2, e1, hn, hcap, rfl, rfl⟩ := anewarr_inv h
    simp only [OwnM.stepH, List.map_cons, e0, e2, H.czN rfl e1, if_neg hn, Nat.ble_eq_true_of_le hcap, cond_true, List.length_map, H.ref, List.map_append, List.map_nil, fO, List.map_replicate, H.null]
  · obtain ⟨v, a, cid, fs, g, fe, w, old, rfl, e1, e2, e3, e4, e5, rfl⟩ := put_inv h
    simp only [OwnM.stepH, List.map_cons, H.ref, objAt_map e1, e2, e3, H.narA e4, gF_map e5, mapSet, fO, sF_map]
  · exact H.ast (show OwnM.ast A .int mh st = some (st', mh') from h)
  · exact H.ast (show OwnM.ast A .long mh st = some (st', mh') from h)
  · exact H.ast (show OwnM.ast A .byte mh st = some (st', mh') from h)
  · obtain ⟨v, j, a, C, vs, k, rfl, e1, e2, e3, e4, rfl⟩ := aast_inv h
    simp only [OwnM.stepH, List.map_cons, H.ref, arrAt_map e1, List.length_map, H.place e2, okSt_map H e3, okAt_map H e4, Bool.and_self, cond_true, mapSet, fO, List.map_set]
theorem Hom.callee (H : Hom A f) {i : Instr} {aux : List Nat} {st : List Value} {mh : List Obj} {k na : Nat} (h : OwnM.callee i aux st mh = some (k, na)) : OwnM.callee i aux (st.map f) (mh.map (fO f)) = some (k, na) := by
  cases i with
  | invokestatic idx => exact h
  | invokespecial idx =>
    simp only [OwnM.callee] at h ⊢
    split at h
    · rename_i n0 k0
      split at h
      · rename_i a e1
        simp only [List.getElem?_map, e1, Option.map_some, H.ref]
        exact h
      · cases h
    · cases h
  | invokevirtual idx =>
    simp only [OwnM.callee] at h ⊢
    split at h
    · rename_i n0 tb
      split at h
      · rename_i a e1
        simp only [List.getElem?_map, e1, Option.map_some, H.ref]
        cases q : objAt mh a with
        | none => rw [q] at h; cases h
        | some oo => rw [q] at h; rw [objAt_map q]; exact h
      · cases h
    · cases h
  | invokeinterface idx cnt =>
    simp only [OwnM.callee] at h ⊢
    split at h
    · rename_i n0 tb
      split at h
      · rename_i a e1
        simp only [List.getElem?_map, e1, Option.map_some, H.ref]
        cases q : objAt mh a with
        | none => rw [q] at h; cases h
        | some oo => rw [q] at h; rw [objAt_map q]; exact h
      · cases h
    · cases h
  | _ => cases h
theorem Hom.retV (H : Hom A f) {i : Instr} {rt : Option FieldType} {st : List Value} {v : Option Value} (h : OwnM.retV A i rt st = some v) : OwnM.retV RA i rt (st.map f) = some (v.map f) := by
  simp only [OwnM.retV] at h
  split at h
  · cases h; rfl
  · rename_i w r
    cases q : OwnM.narA A .int w with
    | none => rw [q] at h; cases h
    | some u => rw [q] at h; cases h; simp only [OwnM.retV, List.map_cons, H.narA q, Option.map_some]
  · rename_i w r
    cases q : OwnM.narA A .boolean w with
    | none => rw [q] at h; cases h
    | some u => rw [q] at h; cases h; simp only [OwnM.retV, List.map_cons, H.narA q, Option.map_some]
  · rename_i w r
    cases q : OwnM.narA A .char w with
    | none => rw [q] at h; cases h
    | some u => rw [q] at h; cases h; simp only [OwnM.retV, List.map_cons, H.narA q, Option.map_some]
  · rename_i w r
    cases q : OwnM.narA A .long w with
    | none => rw [q] at h; cases h
    | some u => rw [q] at h; cases h; simp only [OwnM.retV, List.map_cons, H.narA q, Option.map_some]
  · rename_i C w r
    cases q : Nat.beq (OwnM.kd w) 3 <;> rw [q] at h <;> cases h
    simp only [OwnM.retV, List.map_cons, H.kd, q, cond_true, Option.map_some]
  · rename_i C w r
    cases q : Nat.beq (OwnM.kd w) 3 <;> rw [q] at h <;> cases h
    simp only [OwnM.retV, List.map_cons, H.kd, q, cond_true, Option.map_some]
  · cases h
theorem Hom.catS (H : Hom A f) : ∀ r : List Value, OwnM.catS (r.map f) = OwnM.catS r
  | [] => rfl
  | v :: r => by simp only [List.map_cons, OwnM.catS, H.cat, Hom.catS H r]
theorem Hom.exec (H : Hom A f) : ∀ {n F Lc : Nat} {m : Mth} {pc : Nat} {ls : Array Slot} {st : List Value} {mh : List Obj} {v : Option Value} {mh' : List Obj}, OwnM.exec P A n F Lc m pc ls st mh = some (v, mh') →
    OwnM.exec P RA n F Lc m pc (ls.map (mS f)) (st.map f) (mh.map (fO f)) = some (v.map f, mh'.map (fO f))
  | 0, F, Lc, m, pc, ls, st, mh, v, mh', h => by simp only [OwnM.exec] at h; cases h
  | n + 1, F, Lc, m, pc, ls, st, mh, v, mh', h => by
    obtain ⟨r0, i, aux, cv, hat, h | h | h | h | h⟩ := exec_inv h
    · obtain ⟨hi, pc', ls', st', h1, h2⟩ := h
      rw [exec_p hat hi (H.stepP h1)]; exact Hom.exec H h2
    · obtain ⟨hi, st', mh1, h1, h2⟩ := h
      rw [exec_h hat hi (H.stepH h1)]; exact Hom.exec H h2
    · obtain ⟨hi, rfl, a, r, hs, b1, b2, h2⟩ := h
      rw [exec_o hat hi (a := a) (r := r.map f) (by rw [hs, List.map_cons, H.ref]) b1 (by rw [H.catS]; exact b2)]; exact Hom.exec H h2
    · obtain ⟨hi, k', na, m', v1, mh1, b1, b2, b3, b4, b5, b6, b7, h2⟩ := h
      have e1 : ((st.map f).take na).reverse = ((st.take na).reverse).map f := by rw [← List.map_take, List.map_reverse]
      have e2 : (st.map f).drop na = (st.drop na).map f := by rw [List.map_drop]
      have e3 : entryL ((st.map f).take na).reverse m'.mx = (entryL (st.take na).reverse m'.mx).map (mS f) := by rw [e1, entryM H.cat]
      have c7 := Hom.exec H b7
      have q := exec_c (F := F) (Lc := Lc) (ls := ls.map (mS f)) hat hi (H.callee b1) b2 b3 (by rw [e2, H.catS]; exact b4) (by rw [List.length_map]; exact b5) (by rw [e3, Array.size_map]; exact b6) (v1 := v1.map f) (mh1 := mh1.map (fO f)) (by rw [e2, H.catS, e3]; exact c7)
      rw [q]
      have c8 := Hom.exec H h2
      have e4 : (v1.toList ++ st.drop na).map f = (v1.map f).toList ++ (st.map f).drop na := by rw [List.map_append, e2]; cases v1 <;> rfl
      rw [e4] at c8
      exact c8
    · obtain ⟨h1, rfl⟩ := h
      exact exec_r hat (retV_icl h1) (H.retV h1)
end Hom
end Jvm.OwnM
namespace Jvm.OwnM
open Jvm Jvm.ClassFile Sem Op Lib Jvm.Stand Jvm.Free Jvm.LawKit Jvm.RoadKit
/-! ## tags: numbers of a narrow range stand for unknown ints and longs -/
def tagI (k : Nat) : Int32 := Int32.ofNat (1879048192 + k)
def tagL (k : Nat) : Int64 := Int64.ofNat (8070450532247928832 + k)
def isTI (x : Int32) : Bool := Nat.beq (x.toUInt32.toNat / 256) 7340032
def isTL (x : Int64) : Bool := Nat.beq (x.toUInt64.toNat / 256) 31525197391593472
def conc : Value → Bool
  | .int x => !isTI x
  | .long x => !isTL x
  | _ => false
abbrev Rule := Instr × List Value × Value
def lookR : List Rule → Instr → List Value → Option Value
  | [], _, _ => none
  | (i, vs, r) :: t, j, ws => bif decide (i = j) && decide (vs = ws) then some r else lookR t j ws
/-- instructions that no rule may speak of -/
def noRule : Instr → Bool
  | .iconst _ | .bipush _ | .sipush _ | .lconst _ | .ldc _ | .ldc_w _ | .ldc2_w _ | .arraylength | .nop | .newarray _ | .anewarray _ | .iinc _ _ => true
  | _ => false
def shV (O : List Rule) (U : List Int64) (i : Instr) (vs : List Value) : Option Value :=
  bif vs.all conc then (match raV i vs with
    | some r => bif conc r then some r else none
    | none => none)
  else bif noRule i then none else (match lookR O i vs with
    | some r => some r
    | none => (match i, vs with
      | .lcmp, [.long x, .long y] => bif U.any (fun u => decide (u = x)) && U.any (fun u => decide (u = y)) then some (.int (Jvm.Free.XT.cmpL x y)) else none
      | _, _ => none))
abbrev Rng := Int32 × List (Int × Int)
def lookI : List Rng → Int32 → Option (List (Int × Int))
  | [], _ => none
  | (t, r) :: q, x => bif decide (t = x) then some r else lookI q x
def cmpR (cd : ClassFile.Cond) (lo hi k : Int) : Option Bool := match cd with
  | .eq => if k < lo ∨ hi < k then some false else if lo = k ∧ hi = k then some true else none
  | .ne => if k < lo ∨ hi < k then some true else if lo = k ∧ hi = k then some false else none
  | .lt => if hi < k then some true else if k ≤ lo then some false else none
  | .ge => if hi < k then some false else if k ≤ lo then some true else none
  | .gt => if k < lo then some true else if hi ≤ k then some false else none
  | .le => if k < lo then some false else if hi ≤ k then some true else none
def cmpRs (cd : ClassFile.Cond) (k : Int) : List (Int × Int) → Option Bool
  | [] => none
  | [r] => cmpR cd r.1 r.2 k
  | r :: q => match cmpR cd r.1 r.2 k, cmpRs cd k q with
    | some a, some b => bif a == b then some a else none
    | _, _ => none
def cmpT (I : List Rng) (cd : ClassFile.Cond) (x y : Int32) : Option Bool :=
  bif decide (x = y) then some (if_icmp.holds cd 0 0) else bif isTI y then none else (match lookI I x with
    | some rs => cmpRs cd y.toInt rs
    | none => none)
def shB (I : List Rng) (i : Instr) (vs : List Value) : Option Bool :=
  bif vs.all conc then raB i vs else (match i, vs with
    | .if_icmp cd _, [.int x, .int y] => cmpT I cd x y
    | .ifCond cd _, [.int x] => cmpT I cd x 0
    | _, _ => none)
def shA (O : List Rule) (U : List Int64) (I : List Rng) : Alg := (shV O U, shB I)
def fv (ev : Int32 → Int32) (el : Int64 → Int64) : Value → Value
  | .int x => .int (ev x)
  | .long x => .long (el x)
  | v => v
theorem holds_same (cd : ClassFile.Cond) (x : Int32) : if_icmp.holds cd x x = if_icmp.holds cd 0 0 := by
  cases cd <;> simp [if_icmp.holds]
theorem holds_zero (cd : ClassFile.Cond) (x : Int32) : ifCond.holds cd x = if_icmp.holds cd x 0 := by cases cd <;> rfl
theorem cmpR_ok {cd : ClassFile.Cond} {lo hi : Int} {x y : Int32} {b : Bool} (h1 : lo ≤ x.toInt) (h2 : x.toInt ≤ hi) (h : cmpR cd lo hi y.toInt = some b) : if_icmp.holds cd x y = b := by
  have e1 : (x = y) ↔ x.toInt = y.toInt := Int32.toInt_inj.symm
  have e2 : (x < y) ↔ x.toInt < y.toInt := Int32.lt_iff_toInt_lt
  have e3 : (x ≤ y) ↔ x.toInt ≤ y.toInt := Int32.le_iff_toInt_le
  have e4 : (y < x) ↔ y.toInt < x.toInt := Int32.lt_iff_toInt_lt
  have e5 : (y ≤ x) ↔ y.toInt ≤ x.toInt := Int32.le_iff_toInt_le
  cases cd <;> simp only [cmpR] at h <;> split at h <;> (try split at h) <;> (try cases h) <;> simp only [if_icmp.holds, beq_iff_eq, bne_iff_ne, beq_eq_false_iff_ne, bne_eq_false_iff_eq, decide_eq_true_eq, decide_eq_false_iff_not, ge_iff_le, gt_iff_lt, ne_eq, e1, e2, e3, e4, e5] <;> omega
theorem cmpRs_ok {cd : ClassFile.Cond} {x y : Int32} : ∀ {rs : List (Int × Int)} {b : Bool}, (∃ r ∈ rs, r.1 ≤ x.toInt ∧ x.toInt ≤ r.2) → cmpRs cd y.toInt rs = some b → if_icmp.holds cd x y = b
  | [], b, h, q => by cases q
  | [r], b, ⟨r', h0, h1, h2⟩, q => by
    cases List.mem_singleton.mp h0
    exact cmpR_ok h1 h2 q
  | r :: r2 :: t, b, ⟨r', h0, h1, h2⟩, q => by
    simp only [cmpRs] at q
    split at q
    · rename_i a1 b1 e1 e2
      cases e3 : (a1 == b1)
      · rw [e3] at q; cases q
      · rw [e3] at q
        have e4 : a1 = b1 := by simpa using e3
        have e5 : a1 = b := Option.some.inj q
        subst e5
        rcases List.mem_cons.mp h0 with rfl | h0
        · exact cmpR_ok h1 h2 e1
        · subst e4; exact cmpRs_ok ⟨r', h0, h1, h2⟩ e2
    · cases q
theorem lookR_mem {i : Instr} {vs : List Value} {r : Value} : ∀ {O : List Rule}, lookR O i vs = some r → (i, vs, r) ∈ O
  | [], h => by cases h
  | (i', vs', r') :: t, h => by
    simp only [lookR] at h
    cases q : (decide (i' = i) && decide (vs' = vs))
    · rw [q] at h; exact List.mem_cons_of_mem _ (lookR_mem h)
    · rw [q] at h
      simp only [Bool.and_eq_true, decide_eq_true_eq] at q
      obtain ⟨rfl, rfl⟩ := q
      cases h
      exact List.mem_cons_self ..
theorem lookI_mem {x : Int32} {r : List (Int × Int)} : ∀ {I : List Rng}, lookI I x = some r → (x, r) ∈ I
  | [], h => by cases h
  | (t, r') :: q, h => by
    simp only [lookI] at h
    cases e : decide (t = x)
    · rw [e] at h; exact List.mem_cons_of_mem _ (lookI_mem h)
    · rw [e] at h
      cases of_decide_eq_true e
      cases h
      exact List.mem_cons_self ..
theorem isTI_small (k : Nat) (h : k < 1000) : isTI (Int32.ofNat k) = false := by
  have e : (Int32.ofNat k).toUInt32.toNat = k := by
    show ((BitVec.ofNat 32 k)).toNat = k
    rw [BitVec.toNat_ofNat]; omega
  simp only [isTI, e]
  have : k / 256 ≠ 7340032 := by omega
  cases q : Nat.beq (k / 256) 7340032
  · rfl
  · exact absurd (Nat.eq_of_beq_eq_true q) this
/-- what must be true of the tags' values -/
theorem shHom {O : List Rule} {U : List Int64} {I : List Rng} {ev : Int32 → Int32} {el : Int64 → Int64} (v1 : ∀ x, isTI x = false → ev x = x) (v2 : ∀ x, isTL x = false → el x = x)
    (v3 : ∀ r ∈ O, raV r.1 (r.2.1.map (fv ev el)) = some (fv ev el r.2.2)) (v4 : ∀ x ∈ U, ∀ y ∈ U, Jvm.Free.XT.cmpL (el x) (el y) = Jvm.Free.XT.cmpL x y) (v4' : ∀ x ∈ U, ∀ y ∈ U, isTI (Jvm.Free.XT.cmpL x y) = false) (v5 : ∀ r ∈ I, ∃ q ∈ r.2, q.1 ≤ (ev r.1).toInt ∧ (ev r.1).toInt ≤ q.2) :
    Hom (shA O U I) (fv ev el) := by
  have hc : ∀ v, conc v = true → fv ev el v = v := fun v h => by
    cases v with
    | int x => exact congrArg _ (v1 x (by simpa [conc] using h))
    | long x => exact congrArg _ (v2 x (by simpa [conc] using h))
    | _ => rfl
  have hcs : ∀ vs : List Value, vs.all conc = true → vs.map (fv ev el) = vs := fun vs h => by
    rw [List.all_eq_true] at h
    conv => rhs; rw [← List.map_id vs]
    exact List.map_congr_left fun v hv => hc v (h v hv)
  have hval : ∀ i vs r, shV O U i vs = some r → (vs.all conc = true ∧ raV i vs = some r ∧ conc r = true) ∨ (noRule i = false ∧ raV i (vs.map (fv ev el)) = some (fv ev el r)) := by
    intro i vs r h
    simp only [shV] at h
    cases q : vs.all conc
    · rw [q] at h
      simp only [cond_false] at h
      cases q2 : noRule i
      · rw [q2] at h
        simp only [cond_false] at h
        refine Or.inr ⟨rfl, ?_⟩
        split at h
        · rename_i r' e; cases h; exact v3 _ (lookR_mem e)
        · split at h
          · rename_i x y _
            cases q3 : (U.any (fun u => decide (u = x)) && U.any (fun u => decide (u = y)))
            · rw [q3] at h; cases h
            · rw [q3] at h
              cases h
              obtain ⟨a1, a2⟩ := Bool.and_eq_true_iff.mp q3
              obtain ⟨u, u1, u2⟩ := List.any_eq_true.mp a1
              obtain ⟨w, w1, w2⟩ := List.any_eq_true.mp a2
              cases of_decide_eq_true u2
              cases of_decide_eq_true w2
              show some (Value.int (Jvm.Free.XT.cmpL (el x) (el y))) = some (Value.int (ev _))
              rw [v4 x u1 y w1, v1 _ (v4' x u1 y w1)]
          · cases h
      · rw [q2] at h; cases h
    · rw [q] at h
      simp only [cond_true] at h
      split at h
      · rename_i r' e
        cases q2 : conc r'
        · rw [q2] at h; cases h
        · rw [q2] at h; cases h; exact Or.inl ⟨rfl, e, q2⟩
      · cases h
  refine ⟨fun v => (by cases v <;> exact ⟨rfl, rfl⟩), fun v h => (by cases v <;> first | rfl | cases h), fun t => ?_, ?_, fun i vs r h => ?_, fun i vs r h => ?_, fun i v j hi h => ?_, fun i c r hi h => ?_, fun k c v r h => ?_⟩
  · have z1 : isTI 0 = false := by decide
    have z2 : isTL 0 = false := by decide
    cases t <;> first | rfl | exact congrArg _ (v1 _ z1) | exact congrArg _ (v2 _ z2)
  · exact congrArg _ (v1 _ (by decide))
  · show raV i _ = _
    rcases hval i vs r h with ⟨a1, a2, a3⟩ | ⟨-, a2⟩
    · rw [hcs _ a1, a2, hc r a3]
    · exact a2
  · have h : shB I i vs = some r := h
    show raB i _ = _
    simp only [shB] at h
    cases q : vs.all conc
    · rw [q] at h
      simp only [cond_false] at h
      have hT : ∀ cd x y, cmpT I cd x y = some r → if_icmp.holds cd (ev x) (ev y) = r := fun cd x y h => by
        simp only [cmpT] at h
        cases e1 : decide (x = y)
        · rw [e1] at h
          simp only [cond_false] at h
          cases e2 : isTI y
          · rw [e2] at h
            simp only [cond_false] at h
            split at h
            · rename_i rs e3
              rw [v1 y e2]
              exact cmpRs_ok (v5 _ (lookI_mem e3)) h
            · cases h
          · rw [e2] at h; cases h
        · rw [e1] at h
          cases of_decide_eq_true e1
          cases h
          exact holds_same cd _
      split at h
      · exact congrArg some (hT _ _ _ h)
      · rename_i cd o x
        have e := hT _ _ _ h
        rw [v1 0 (by decide), ← holds_zero] at e
        exact congrArg some e
      · cases h
    · rw [q] at h
      rw [hcs _ q]; exact h
  · rcases hval _ _ _ h with ⟨a1, a2, a3⟩ | ⟨a1, -⟩
    · exact hc _ a3
    · cases i <;> first | (cases a1; done) | (cases hi; done)
  · rcases hval _ _ _ h with ⟨a1, a2, a3⟩ | ⟨a1, -⟩
    · show raV i _ = _; rw [a2, hc r a3]
    · cases i <;> first | (cases a1; done) | (cases hi; done)
  · rcases hval _ _ _ h with ⟨a1, a2, a3⟩ | ⟨a1, -⟩
    · show raV _ _ = _
      have b1 := hcs _ a1
      simp only [List.map_cons, List.map_nil] at b1
      rw [show [fv ev el v, Value.int (Int32.ofInt c)] = [v, Value.int (Int32.ofInt c)] by
        injection b1 with b2 _; rw [b2]]
      rw [a2, hc r a3]
    · cases a1
/-- a run's check: it returns 1 within the room -/
def okRun (P : Prog) (A : Alg) (n F Lc cells slots : Nat) (mt : Mth) (vs : List Value) : Bool := match exec P A n F Lc mt 0 (entryL vs mt.mx) [] [] with
  | some (some (.int r), mh') => decide (r = 1) && Nat.ble mh'.length cells && Nat.ble (osl P mh') slots
  | _ => false
theorem osl_map (f : Value → Value) (P : Prog) : ∀ mh : List Obj, osl P (mh.map (fO f)) = osl P mh
  | [] => rfl
  | o :: r => by
    simp only [List.map_cons, osl, osl_map f P r]
    congr 1
    rcases o with ⟨c, fs⟩ | ⟨t, vs⟩
    · rfl
    · simp [fO, oslO]
theorem runs_of {P : Prog} {A : Alg} {f : Value → Value} (H : Hom A f) {n F Lc cells slots : Nat} {mt : Mth} {vs ws : List Value} (hv : vs.map f = ws) (h : okRun P A n F Lc cells slots mt vs = true) : Runs P F Lc cells slots mt ws := by
  simp only [okRun] at h
  split at h
  · rename_i r mh' e
    simp only [Bool.and_eq_true, decide_eq_true_eq] at h
    obtain ⟨⟨rfl, h2⟩, h3⟩ := h
    have q := H.exec e
    rw [← entryM H.cat, hv] at q
    simp only [List.map_nil, Option.map_some, H.one] at q
    exact ⟨n, _, q, by rw [List.length_map]; exact Nat.le_of_ble_eq_true h2, by rw [osl_map]; exact Nat.le_of_ble_eq_true h3⟩
  · cases h
end Jvm.OwnM
namespace Jvm.OwnM
open Jvm Jvm.ClassFile Sem Op Lib Jvm.Stand Jvm.Free Jvm.LawKit Jvm.RoadKit
/-! ## the tags' values -/
def nthI (E : List Int32) (k : Nat) (x : Int32) : Int32 := match E[k]? with | some v => v | none => x
def nthL (E : List Int64) (k : Nat) (x : Int64) : Int64 := match E[k]? with | some v => v | none => x
def evOf (E : List Int32) (x : Int32) : Int32 := bif isTI x then nthI E (x.toUInt32.toNat % 256) x else x
def elOf (E : List Int64) (x : Int64) : Int64 := bif isTL x then nthL E (x.toUInt64.toNat % 256) x else x
theorem evOf_conc (E : List Int32) {x : Int32} (h : isTI x = false) : evOf E x = x := by simp only [evOf, h, cond_false]
theorem elOf_conc (E : List Int64) {x : Int64} (h : isTL x = false) : elOf E x = x := by simp only [elOf, h, cond_false]
theorem tagI_nat {k : Nat} (h : k < 256) : (tagI k).toUInt32.toNat = 1879048192 + k := by
  show (BitVec.ofNat 32 (1879048192 + k)).toNat = _
  rw [BitVec.toNat_ofNat]; omega
theorem tagL_nat {k : Nat} (h : k < 256) : (tagL k).toUInt64.toNat = 8070450532247928832 + k := by
  show (BitVec.ofNat 64 (8070450532247928832 + k)).toNat = _
  rw [BitVec.toNat_ofNat]; omega
theorem tagI_is {k : Nat} (h : k < 256) : isTI (tagI k) = true := by
  simp only [isTI, tagI_nat h]
  rw [show (1879048192 + k) / 256 = 7340032 by omega]; rfl
theorem tagL_is {k : Nat} (h : k < 256) : isTL (tagL k) = true := by
  simp only [isTL, tagL_nat h]
  rw [show (8070450532247928832 + k) / 256 = 31525197391593472 by omega]; rfl
theorem evOf_tag (E : List Int32) {k : Nat} {v : Int32} (h : E[k]? = some v) (hk : k < 256) : evOf E (tagI k) = v := by
  simp only [evOf, tagI_is hk, cond_true, tagI_nat hk, nthI]
  rw [show (1879048192 + k) % 256 = k by omega, h]
theorem elOf_tag (E : List Int64) {k : Nat} {v : Int64} (h : E[k]? = some v) (hk : k < 256) : elOf E (tagL k) = v := by
  simp only [elOf, tagL_is hk, cond_true, tagL_nat hk, nthL]
  rw [show (8070450532247928832 + k) % 256 = k by omega, h]
theorem homOf {O : List Rule} {U : List Int64} {I : List Rng} (E : List Int32) (D : List Int64) (v3 : ∀ r ∈ O, raV r.1 (r.2.1.map (fv (evOf E) (elOf D))) = some (fv (evOf E) (elOf D) r.2.2)) (v4 : ∀ x ∈ U, ∀ y ∈ U, Jvm.Free.XT.cmpL (elOf D x) (elOf D y) = Jvm.Free.XT.cmpL x y) (v5 : ∀ r ∈ I, ∃ q ∈ r.2, q.1 ≤ (evOf E r.1).toInt ∧ (evOf E r.1).toInt ≤ q.2) :
    Hom (shA O U I) (fv (evOf E) (elOf D)) := by
  refine shHom (fun x h => evOf_conc E h) (fun x h => elOf_conc D h) v3 v4 (fun x _ y _ => ?_) v5
  simp only [Jvm.Free.XT.cmpL]
  split
  · decide
  · split <;> decide
/-! ## the order of some longs, by their ranks -/
def rk (ks : List Int64) (k : Int64) : Nat := (ks.filter (fun x => decide (x < k))).length
theorem filter_le {α : Type} (p q : α → Bool) (h : ∀ x, p x = true → q x = true) : ∀ l : List α, (l.filter p).length ≤ (l.filter q).length
  | [] => Nat.le_refl _
  | a :: l => by
    have ih := filter_le p q h l
    simp only [List.filter_cons]
    cases e1 : p a
    · cases e2 : q a
      · exact ih
      · simp only [Bool.false_eq_true, if_false, if_true, List.length_cons]; omega
    · rw [h a e1]; simp only [if_true, List.length_cons]; omega
theorem filter_lt {α : Type} (p q : α → Bool) (h : ∀ x, p x = true → q x = true) {a : α} (ha : p a = false) (hb : q a = true) : ∀ l : List α, a ∈ l → (l.filter p).length < (l.filter q).length
  | [], m => by cases m
  | b :: l, m => by
    simp only [List.filter_cons]
    rcases List.mem_cons.mp m with rfl | m
    · have ih := filter_le p q h l
      rw [ha, hb]; simp only [Bool.false_eq_true, if_false, if_true, List.length_cons]; omega
    · have ih := filter_lt p q h ha hb l m
      cases e1 : p b
      · cases e2 : q b
        · exact ih
        · simp only [Bool.false_eq_true, if_false, if_true, List.length_cons]; omega
      · rw [h b e1]; simp only [if_true, List.length_cons]; omega
theorem rk_lt {ks : List Int64} {x y : Int64} (hx : x ∈ ks) (h : x < y) : rk ks x < rk ks y := by
  refine filter_lt _ _ (fun z hz => ?_) (a := x) ?_ ?_ ks hx
  · simp only [decide_eq_true_eq] at hz ⊢
    exact Int64.lt_trans hz h
  · simp [Int64.lt_irrefl]
  · simp [h]
theorem rk_bd {ks : List Int64} {x : Int64} (hx : x ∈ ks) : rk ks x < ks.length := by
  have h := filter_lt (fun z => decide (z < x)) (fun _ => true) (fun _ _ => rfl) (a := x) (by simp [Int64.lt_irrefl]) rfl ks hx
  have e : ks.filter (fun _ => true) = ks := by simp
  rw [e] at h
  exact h
theorem rk_iff {ks : List Int64} {x y : Int64} (hx : x ∈ ks) (hy : y ∈ ks) : (x < y ↔ rk ks x < rk ks y) ∧ (x = y ↔ rk ks x = rk ks y) := by
  have t : x < y ∨ x = y ∨ y < x := by
    rcases Int.lt_trichotomy x.toInt y.toInt with h | h | h
    · exact Or.inl (Int64.lt_iff_toInt_lt.mpr h)
    · exact Or.inr (Or.inl (Int64.toInt_inj.mp h))
    · exact Or.inr (Or.inr (Int64.lt_iff_toInt_lt.mpr h))
  rcases t with h | h | h
  · have q := rk_lt hx h
    exact ⟨⟨fun _ => q, fun _ => h⟩, ⟨fun e => by subst e; exact absurd h Int64.lt_irrefl, fun e => by omega⟩⟩
  · subst h
    exact ⟨⟨fun e => absurd e Int64.lt_irrefl, fun e => by omega⟩, ⟨fun _ => rfl, fun _ => rfl⟩⟩
  · have q := rk_lt hy h
    exact ⟨⟨fun e => absurd (Int64.lt_trans e h) Int64.lt_irrefl, fun e => by omega⟩, ⟨fun e => by subst e; exact absurd h Int64.lt_irrefl, fun e => by omega⟩⟩
/-- all lists of n numbers below m -/
def vecs : Nat → Nat → List (List Nat)
  | 0, _ => [[]]
  | n + 1, m => (vecs n m).flatMap (fun v => (List.range m).map (fun x => x :: v))
theorem mem_vecs {m : Nat} : ∀ {n : Nat} {l : List Nat}, l.length = n → (∀ x ∈ l, x < m) → l ∈ vecs n m
  | 0, [], _, _ => List.mem_singleton.mpr rfl
  | 0, _ :: _, h, _ => by cases h
  | n + 1, [], h, _ => by cases h
  | n + 1, x :: l, h, hx => by
    simp only [vecs, List.mem_flatMap, List.mem_map, List.mem_range]
    exact ⟨l, mem_vecs (by simpa using h) (fun y hy => hx y (List.mem_cons_of_mem _ hy)), x, hx x (List.mem_cons_self ..), rfl⟩
/-- each number is the count of those below it -/
def canon (v : List Nat) : Bool := v.all (fun x => Nat.beq x ((v.filter (fun y => Nat.blt y x)).length))
theorem filter_map_len {α β : Type} (f : α → β) (p : β → Bool) (q : α → Bool) : ∀ (l : List α), (∀ x ∈ l, p (f x) = q x) → ((l.map f).filter p).length = (l.filter q).length
  | [], _ => rfl
  | a :: l, h => by
    have ih := filter_map_len f p q l (fun x hx => h x (List.mem_cons_of_mem _ hx))
    simp only [List.map_cons, List.filter_cons, h a (List.mem_cons_self ..)]
    split <;> simp [ih]
theorem canon_rk (ks : List Int64) : canon (ks.map (rk ks)) = true := by
  simp only [canon, List.all_eq_true, List.mem_map]
  rintro _ ⟨x, hx, rfl⟩
  have e : ((ks.map (rk ks)).filter (fun y => Nat.blt y (rk ks x))).length = rk ks x := by
    refine filter_map_len (rk ks) _ (fun z => decide (z < x)) ks (fun z hz => ?_)
    have q := (rk_iff hz hx).1
    cases u : Nat.blt (rk ks z) (rk ks x)
    · have : ¬ rk ks z < rk ks x := fun h => by rw [Nat.blt_eq.mpr h] at u; cases u
      simp [q, this]
    · have : rk ks z < rk ks x := Nat.blt_eq.mp u
      simp [q, this]
  rw [e, Nat.beq_refl]
end Jvm.OwnM
namespace Jvm.OwnM
open Jvm Jvm.ClassFile Sem Op Lib Jvm.Stand Jvm.Free Jvm.LawKit Jvm.RoadKit
/-! ## numbers -/
theorem ofNat_int {c : Nat} (h : c < 2147483648) : (Int32.ofNat c).toInt = (c : Int) := Int32.toInt_ofNat_of_lt h
theorem eq_ofNat {y : Int32} {c : Nat} (h : y.toInt = (c : Int)) : y = Int32.ofNat c := by
  have b := y.toInt_lt
  apply Int32.toInt_inj.mp
  rw [h, ofNat_int (by omega)]
/-- x & (2^k - 1), as a plain number -/
theorem mask_nat (x m : Int32) {k : Nat} (hk : k < 32) (hm : m.toBitVec.toNat = 2 ^ k - 1) : ∃ c : Nat, c < 2 ^ k ∧ x &&& m = Int32.ofNat c ∧ (x &&& m).toInt = (c : Int) := by
  have e := Jvm.Kit.i32_mask x m hk hm
  have h1 : 0 ≤ x.toInt % 2 ^ k := Int.emod_nonneg _ (Int.ne_of_gt (Int.pow_pos (by decide)))
  have h2 : x.toInt % 2 ^ k < 2 ^ k := Int.emod_lt_of_pos _ (Int.pow_pos (by decide))
  obtain ⟨c, hc⟩ := Int.eq_ofNat_of_zero_le h1
  rw [hc] at e h2
  refine ⟨c, by exact_mod_cast h2, eq_ofNat e, e⟩
/-- (x & 0x7fffffff) % k, as a plain number -/
theorem rem_nat (x : Int32) {k : Nat} (h0 : 0 < k) (hk : k < 2147483648) : ∃ c : Nat, c < k ∧ (x &&& 2147483647) % Int32.ofNat k = Int32.ofNat c := by
  obtain ⟨y, -, -, hy⟩ := mask_nat x 2147483647 (k := 31) (by decide) (by decide)
  have e := Jvm.Kit.i32_rem_nonneg (x := x &&& 2147483647) (y := Int32.ofNat k) (by rw [hy]; exact Int.natCast_nonneg _)
  rw [hy, ofNat_int hk] at e
  refine ⟨y % k, Nat.mod_lt _ h0, eq_ofNat ?_⟩
  rw [e]; simp
theorem i2c_int (y : Int32) : (y.toUInt32.toUInt16.toUInt32.toInt32).toInt = y.toInt % 65536 := by
  have h : ∀ u : UInt16, (u.toUInt32.toInt32).toInt = u.toNat := fun u => by
    have hu := u.toNat_lt
    show ((u.toUInt32).toBitVec).toInt = _
    have hm : (u.toUInt32).toBitVec.toNat = u.toNat := by
      show (u.toUInt32).toNat = _
      simp
    rw [BitVec.toInt_eq_toNat_cond, hm, if_pos (by omega)]
  rw [h]
  have e1 : (y.toUInt32.toUInt16).toNat = y.toBitVec.toNat % 65536 := by
    show (y.toUInt32.toUInt16).toNat = y.toUInt32.toNat % 65536
    simp
  have e2 : y.toInt = y.toBitVec.toInt := rfl
  rw [e1, e2, BitVec.toInt_eq_toNat_cond]
  have := y.toBitVec.isLt
  split <;> omega
theorem i2c_nat (y : Int32) : ∃ c : Nat, c < 65536 ∧ y.toUInt32.toUInt16.toUInt32.toInt32 = Int32.ofNat c ∧ (y.toUInt32.toUInt16.toUInt32.toInt32).toInt = (c : Int) := by
  have e := i2c_int y
  obtain ⟨c, hc⟩ := Int.eq_ofNat_of_zero_le (show 0 ≤ y.toInt % 65536 by omega)
  rw [hc] at e
  exact ⟨c, by omega, eq_ofNat e, e⟩
theorem i2c_same {y : Int32} (h1 : 0 ≤ y.toInt) (h2 : y.toInt ≤ 65535) : y.toUInt32.toUInt16.toUInt32.toInt32 = y := by
  apply Int32.toInt_inj.mp
  rw [i2c_int]; omega
end Jvm.OwnM
namespace Jvm.OwnM
theorem ofNat_ne {n : Nat} (h0 : 0 < n) (h : n < 2147483648) : ¬ Int32.ofNat n = 0 := fun e => by
  have q := ofNat_int h
  rw [e] at q
  have : (0 : Int32).toInt = 0 := by decide
  omega
end Jvm.OwnM
namespace Jvm.OwnM
theorem inIv {l : List (Int × Int)} {c : Int} (h : l.any (fun q => decide (q.1 ≤ c) && decide (c ≤ q.2)) = true) : ∃ q ∈ l, q.1 ≤ c ∧ c ≤ q.2 := by
  obtain ⟨q, h1, h2⟩ := List.any_eq_true.mp h
  simp only [Bool.and_eq_true, decide_eq_true_eq] at h2
  exact ⟨q, h1, h2⟩
end Jvm.OwnM
namespace Jvm.OwnM
open Jvm Jvm.ClassFile Sem Op Lib Jvm.Stand Jvm.Free Jvm.LawKit Jvm.RoadKit
/-! ## longs that are compared alone: their ranks stand for them -/
def byRank (ks : List Int64) : List Int64 := (List.range ks.length).map (fun r => (ks.find? (fun k => Nat.beq (rk ks k) r)).getD 0)
theorem byRank_at {ks : List Int64} {k : Int64} (h : k ∈ ks) : (byRank ks)[rk ks k]? = some k := by
  have hb := rk_bd h
  simp only [byRank, List.getElem?_map, List.getElem?_range hb, Option.map_some]
  cases q : ks.find? (fun z => Nat.beq (rk ks z) (rk ks k)) with
  | none =>
    have := List.find?_eq_none.mp q k h
    simp [Nat.beq_refl] at this
  | some z =>
    have h1 := List.find?_some q
    have h2 := List.mem_of_find?_eq_some q
    have h3 := (rk_iff h2 h).2.mpr (Nat.eq_of_beq_eq_true h1)
    simp [h3]
theorem tagL_cmp {a b : Nat} (ha : a < 256) (hb : b < 256) : (tagL a < tagL b ↔ a < b) ∧ (tagL a = tagL b ↔ a = b) := by
  have e : ∀ k, k < 256 → (tagL k).toInt = (8070450532247928832 + k : Int) := fun k hk => by
    show (Int64.ofNat _).toInt = _
    rw [Int64.toInt_ofNat_of_lt (by omega)]; simp
  constructor
  · rw [Int64.lt_iff_toInt_lt, e a ha, e b hb]; omega
  · rw [← Int64.toInt_inj, e a ha, e b hb]; omega
/-- the tag of a long among ks -/
def rt (ks : List Int64) (k : Int64) : Int64 := tagL (rk ks k)
theorem rt_val {ks ext : List Int64} (hl : ks.length ≤ 256) {k : Int64} (h : k ∈ ks) : elOf (byRank ks ++ ext) (rt ks k) = k := by
  have hb := rk_bd h
  refine elOf_tag _ ?_ (by omega)
  rw [List.getElem?_append_left (by simp [byRank]; exact hb)]
  exact byRank_at h
theorem ext_val {ks ext : List Int64} {j : Nat} {v : Int64} (h : ext[j]? = some v) (hl : ks.length + j < 256) : elOf (byRank ks ++ ext) (tagL (ks.length + j)) = v := by
  refine elOf_tag _ ?_ hl
  have e : (byRank ks).length = ks.length := by simp [byRank]
  rw [List.getElem?_append_right (by omega), e, Nat.add_sub_cancel_left]
  exact h
theorem rt_ok {ks ext : List Int64} (hl : ks.length ≤ 256) : ∀ x ∈ ks.map (rt ks), ∀ y ∈ ks.map (rt ks), Jvm.Free.XT.cmpL (elOf (byRank ks ++ ext) x) (elOf (byRank ks ++ ext) y) = Jvm.Free.XT.cmpL x y := by
  intro x hx y hy
  obtain ⟨a, ha, rfl⟩ := List.mem_map.mp hx
  obtain ⟨b, hb, rfl⟩ := List.mem_map.mp hy
  rw [rt_val hl ha, rt_val hl hb]
  have h1 := rk_bd ha
  have h2 := rk_bd hb
  have q1 := rk_iff hb ha
  have q2 := tagL_cmp (show rk ks b < 256 by omega) (show rk ks a < 256 by omega)
  have q3 := tagL_cmp (show rk ks a < 256 by omega) (show rk ks b < 256 by omega)
  have q4 := (rk_iff ha hb).2
  have c1 : (b < a) ↔ (rt ks b < rt ks a) := q1.1.trans q2.1.symm
  have c2 : (a = b) ↔ (rt ks a = rt ks b) := q4.trans q3.2.symm
  simp only [Jvm.Free.XT.cmpL, c1, c2]
/-- the tags' list in the check -/
theorem rt_tags (ks : List Int64) : ks.map (rt ks) = (ks.map (rk ks)).map tagL := by rw [List.map_map]; rfl
theorem and_sub (x : Int32) {a m : Int32} (h : a &&& m = m) : x &&& m = (x &&& a) &&& m := by rw [Int32.and_assoc, h]
end Jvm.OwnM
namespace Jvm.OwnM
open Jvm Jvm.ClassFile Sem Op Lib Jvm.Stand Jvm.Free Jvm.LawKit Jvm.RoadKit
/-- one bit: nothing or all of m -/
def bitV (b : Nat) (m : Int32) : Int32 := if b = 0 then 0 else m
theorem bit_nat (x a m : Int32) {k : Nat} (hk : k < 32) (ha : a.toBitVec.toNat = 2 ^ k - 1) (h : a &&& m = m) (hd : (List.range (2 ^ k)).all (fun c => decide (Int32.ofNat c &&& m = 0) || decide (Int32.ofNat c &&& m = m)) = true) : ∃ b : Nat, b < 2 ∧ x &&& m = bitV b m := by
  obtain ⟨c, hc, ec, -⟩ := mask_nat x a hk ha
  have q := List.all_eq_true.mp hd c (List.mem_range.mpr hc)
  rw [and_sub x h, ec]
  simp only [Bool.or_eq_true, decide_eq_true_eq] at q
  rcases q with q | q
  · exact ⟨0, by decide, q⟩
  · exact ⟨1, by decide, q⟩
theorem bitV_conc (E : List Int32) {b : Nat} {m : Int32} (h : isTI m = false) : evOf E (bitV b m) = bitV b m := by
  refine evOf_conc E ?_
  simp only [bitV]
  split
  · decide
  · exact h
end Jvm.OwnM
namespace Jvm.OwnM
/-- what lcmp can answer -/
def sg (s : Nat) : Int32 := if s = 0 then -1 else if s = 1 then 0 else 1
theorem cmpL_sg (x y : Int64) : ∃ s : Nat, s < 3 ∧ Jvm.Free.XT.cmpL x y = sg s := by
  simp only [Jvm.Free.XT.cmpL]
  split
  · exact ⟨2, by decide, rfl⟩
  · split
    · exact ⟨1, by decide, rfl⟩
    · exact ⟨0, by decide, rfl⟩
theorem sg_conc (E : List Int32) {s : Nat} : evOf E (sg s) = sg s := by
  refine evOf_conc E ?_
  simp only [sg]
  split
  · decide
  · split <;> decide
theorem cmpL_int {x y x' y' : Int64} (h1 : x.toInt - y.toInt = x'.toInt - y'.toInt) : Jvm.Free.XT.cmpL x y = Jvm.Free.XT.cmpL x' y' := by
  have e1 : (y < x) ↔ (y' < x') := by rw [Int64.lt_iff_toInt_lt, Int64.lt_iff_toInt_lt]; omega
  have e2 : (x = y) ↔ (x' = y') := by rw [← Int64.toInt_inj, ← Int64.toInt_inj]; omega
  simp only [Jvm.Free.XT.cmpL, e1, e2]
end Jvm.OwnM
namespace Jvm.OwnM
open Jvm Jvm.ClassFile Sem Op Lib Jvm.Stand Jvm.Free Jvm.LawKit Jvm.RoadKit
/-! ## the same machine, its rows made ready: quicker to reckon -/
abbrev FS := Alg → Array Slot → List Value → List Obj → Option (Nat × Array Slot × List Value × List Obj)
abbrev FC := List Value → List Obj → Option (Nat × Nat)
abbrev FR := Alg → List Value → Option (Option Value)
/-- a step; a call (its length, its callee); a return; Object's constructor -/
abbrev FX := FS ⊕ ((Nat × FC) ⊕ (FR ⊕ Unit))
abbrev FRow := Nat × FX
abbrev FM := List (List FRow)
/-! lists are laid out whole as they are handed on -/
def setK {α β : Type} : List α → Nat → α → (List α → β) → β
  | [], _, _, k => k []
  | _ :: xs, 0, v, k => k (v :: xs)
  | x :: xs, n + 1, v, k => setK xs n v (fun t => k (x :: t))
theorem setK_eq {α β : Type} : ∀ (l : List α) (i : Nat) (v : α) (k : List α → β), setK l i v k = k (l.set i v)
  | [], _, _, _ => rfl
  | _ :: _, 0, _, _ => rfl
  | x :: xs, n + 1, v, k => setK_eq xs n v (fun t => k (x :: t))
def idK {α β : Type} : List α → (List α → β) → β
  | [], k => k []
  | x :: xs, k => idK xs (fun t => k (x :: t))
theorem idK_eq {α β : Type} : ∀ (l : List α) (k : List α → β), idK l k = k l
  | [], _ => rfl
  | x :: xs, k => idK_eq xs (fun t => k (x :: t))
def sFK {β : Type} : List (Nat × Value) → Nat → Value → (List (Nat × Value) → β) → β
  | [], _, _, k => k []
  | (j, w) :: r, f, v, k => bif Nat.beq j f then k ((j, v) :: r) else sFK r f v (fun t => k ((j, w) :: t))
theorem sFK_eq {β : Type} : ∀ (l : List (Nat × Value)) (f : Nat) (v : Value) (k : List (Nat × Value) → β), sFK l f v k = k (sF l f v)
  | [], _, _, _ => rfl
  | (j, w) :: r, f, v, k => by
    simp only [sFK, sF]
    cases Nat.beq j f
    · exact sFK_eq r f v (fun t => k ((j, w) :: t))
    · rfl
def numK {β : Type} (n : Nat) (k : Nat → β) : β := match n with | 0 => k 0 | m + 1 => k (m + 1)
theorem numK_eq {β : Type} (n : Nat) (k : Nat → β) : numK n k = k n := by cases n <;> rfl
def valK {β : Type} : Value → (Value → β) → β
  | .int x, k => numK x.toUInt32.toNat (fun n => k (.int (Int32.ofNat n)))
  | .long x, k => numK x.toUInt64.toNat (fun n => k (.long (Int64.ofNat n)))
  | v, k => k v
theorem valK_eq {β : Type} (v : Value) (k : Value → β) : valK v k = k v := by
  cases v with
  | int x => simp only [valK, numK_eq]; congr 2; apply Int32.toBitVec_inj.mp; show BitVec.ofNat 32 x.toBitVec.toNat = _; simp
  | long x => simp only [valK, numK_eq]; congr 2; apply Int64.toBitVec_inj.mp; show BitVec.ofNat 64 x.toBitVec.toNat = _; simp
  | _ => rfl
/-- an arithmetic whose answers are laid out -/
def strict (A : Alg) : Alg := (fun i vs => match A.1 i vs with | some r => valK r some | none => none, A.2)
theorem strict_eq (A : Alg) : strict A = A := by
  have e : (strict A).1 = A.1 := by
    funext i vs
    show (match A.1 i vs with | some r => valK r some | none => none) = _
    cases A.1 i vs with
    | none => rfl
    | some r => exact valK_eq r some
  show ((strict A).1, A.2) = (A.1, A.2)
  rw [e]
def lodF (n : Nat) (ls : Array Slot) (k : Nat) : Option Value := match ls.toList[k]? with
  | some (.val v) => bif Nat.beq (kd v) n then some v else none
  | _ => none
theorem lodF_eq (n : Nat) (ls : Array Slot) (k : Nat) : lodF n ls k = lod n ls k := by
  (simp only [lodF, lod, Array.getElem?_toList]) <;> rfl
def plainS : Option Slot → Bool
  | some .unset => true
  | some (.val v) => Nat.beq v.category 1
  | _ => false
def sLod (n k nx : Nat) : FS := fun _ ls st mh => match lodF n ls k with | some v => some (nx, ls, v :: st, mh) | none => none
def sSto (n k nx : Nat) : FS := fun _ ls st mh => match st with
  | v :: r => bif Nat.beq (kd v) n then
      (bif Nat.beq v.category 1 && plainS (ls.toList[k]?) then setK ls.toList k (.val v) (fun xs => some (nx, xs.toArray, r, mh))
      else (match storeLocals ls k v with | some l' => idK l'.toList (fun xs => some (nx, xs.toArray, r, mh)) | none => none)) else none
  | _ => none
theorem sSto_eq (n k nx : Nat) (A : Alg) (ls : Array Slot) (st : List Value) (mh : List Obj) : sSto n k nx A ls st mh = match sto n ls k st with | some (l', r) => some (nx, l', r, mh) | none => none := by
  simp only [sSto, sto]
  cases st with
  | nil => rfl
  | cons v r =>
    simp only
    cases q : Nat.beq (kd v) n
    · rfl
    · simp only [cond_true]
      cases q2 : (Nat.beq v.category 1 && plainS (ls.toList[k]?))
      · simp only [cond_false]
        cases storeLocals ls k v with
        | none => rfl
        | some l' => simp only [idK_eq]
      · simp only [cond_true, setK_eq]
        obtain ⟨h1, h2⟩ := Bool.and_eq_true_iff.mp q2
        have hv : v.category = 1 := Nat.eq_of_beq_eq_true h1
        rw [Array.getElem?_toList] at h2
        have hs : storeLocals ls k v = some (ls.setIfInBounds k (.val v)) := by
          cases q3 : ls[k]? with
          | none => rw [q3] at h2; cases h2
          | some x =>
            rw [q3] at h2
            refine Jvm.Free.XS.store1 q3 ?_ hv
            cases x with
            | unset => exact Or.inl rfl
            | second => cases h2
            | val w => exact Or.inr ⟨w, rfl, Nat.eq_of_beq_eq_true h2⟩
        rw [hs]
        simp only [Option.some.injEq, Prod.mk.injEq, true_and, and_true]
        apply Array.toList_inj.mp
        simp
def sCst (i : Instr) (v : Value) (nx : Nat) : FS := fun A ls st mh => match cst A i v st with | some s => some (nx, ls, s, mh) | none => none
def sNul (nx : Nat) : FS := fun _ ls st mh => some (nx, ls, .null :: st, mh)
def sOp2 (i : Instr) (nx : Nat) : FS := fun A ls st mh => match op2 A i st with | some s => some (nx, ls, s, mh) | none => none
def sOp1 (i : Instr) (nx : Nat) : FS := fun A ls st mh => match op1 A i st with | some s => some (nx, ls, s, mh) | none => none
def sInc (k : Nat) (c : Int) (nx : Nat) : FS := fun A ls st mh => match lodF 1 ls k with
  | some v => (match A.1 (.iinc k c) [v, .int (Int32.ofInt c)] with
    | some w => (match sSto 1 k nx A ls [w] mh with | some (_, l', _, _) => some (nx, l', st, mh) | none => none)
    | none => none)
  | none => none
def sGo (aux : List Nat) : FS := fun _ ls st mh => match jmp aux with | some t => some (t, ls, st, mh) | none => none
def sIf1 (i : Instr) (aux : List Nat) (nx : Nat) : FS := fun A ls st mh => match st with | x :: r => (match br (A.2 i [x]) aux nx with | some t => some (t, ls, r, mh) | none => none) | _ => none
def sIf2 (i : Instr) (aux : List Nat) (nx : Nat) : FS := fun A ls st mh => match st with | y :: x :: r => (match br (A.2 i [x, y]) aux nx with | some t => some (t, ls, r, mh) | none => none) | _ => none
def sNull (aux : List Nat) (nx : Nat) : FS := fun _ ls st mh => match st with | x :: r => (match br (isNul x) aux nx with | some t => some (t, ls, r, mh) | none => none) | _ => none
def sNonNull (aux : List Nat) (nx : Nat) : FS := fun _ ls st mh => match st with | x :: r => (match br ((isNul x).map (!·)) aux nx with | some t => some (t, ls, r, mh) | none => none) | _ => none
def sAeq (aux : List Nat) (nx : Nat) : FS := fun _ ls st mh => match st with | y :: x :: r => (match br (same x y) aux nx with | some t => some (t, ls, r, mh) | none => none) | _ => none
def sAne (aux : List Nat) (nx : Nat) : FS := fun _ ls st mh => match st with | y :: x :: r => (match br ((same x y).map (!·)) aux nx with | some t => some (t, ls, r, mh) | none => none) | _ => none
def sDup (nx : Nat) : FS := fun _ ls st mh => match st with | x :: r => bif Nat.beq x.category 1 then some (nx, ls, x :: x :: r, mh) else none | _ => none
def sDupX (nx : Nat) : FS := fun _ ls st mh => match st with | x :: y :: r => bif Nat.beq x.category 1 && Nat.beq y.category 1 then some (nx, ls, x :: y :: x :: r, mh) else none | _ => none
def sDup2 (nx : Nat) : FS := fun _ ls st mh => match st with | x :: y :: r => bif Nat.beq x.category 1 && Nat.beq y.category 1 then some (nx, ls, x :: y :: x :: y :: r, mh) else none | _ => none
def sPop (nx : Nat) : FS := fun _ ls st mh => match st with | x :: r => bif Nat.beq x.category 1 then some (nx, ls, r, mh) else none | _ => none
def sGet (aux : List Nat) (nx : Nat) : FS := fun _ ls st mh => match st with
  | .ref a :: r => (match objAt mh a with
    | some (_, fs) => (match aux.head? with | some f => (match gF fs f with | some v => some (nx, ls, v :: r, mh) | none => none) | none => none)
    | none => none)
  | _ => none
def sLen (nx : Nat) : FS := fun A ls st mh => match st with
  | .ref a :: r => (match arrAt mh a with
    | some (_, vs) => (match A.1 .arraylength [.int vs.length.toInt32] with | some v => some (nx, ls, v :: r, mh) | none => none)
    | none => none)
  | _ => none
def sAld (ok : FieldType → Bool) (nx : Nat) : FS := fun A ls st mh => match ald A ok mh st with | some s => some (nx, ls, s, mh) | none => none
def objK {β : Type} : Obj → (Obj → β) → β
  | .inl (c, fs), k => idK fs (fun fs => k (.inl (c, fs)))
  | .inr (t, vs), k => idK vs (fun vs => k (.inr (t, vs)))
theorem objK_eq {β : Type} (x : Obj) (k : Obj → β) : objK x k = k x := by
  rcases x with ⟨c, fs⟩ | ⟨t, vs⟩
  · simp only [objK, idK_eq]
  · simp only [objK, idK_eq]
def heapK {β : Type} : List Obj → (List Obj → β) → β
  | [], k => k []
  | x :: xs, k => objK x (fun x => heapK xs (fun t => k (x :: t)))
theorem heapK_eq {β : Type} : ∀ (l : List Obj) (k : List Obj → β), heapK l k = k l
  | [], _ => rfl
  | x :: xs, k => by simp only [heapK, objK_eq, heapK_eq xs]
def sH (P : Prog) (i : Instr) (aux : List Nat) (nx : Nat) : FS := fun A ls st mh => match stepH P A i aux st mh with | some (st', mh') => heapK mh' (fun mh' => some (nx, ls, st', mh')) | none => none
def sAst (t : FieldType) (nx : Nat) : FS := fun A ls st mh => match st with
  | v :: j :: .ref a :: r => (match arrAt mh a with
    | some (ty, vs) => if ty = t then (match place A j vs.length, narA A t v with
      | some k, some w => bif okAt vs k then setK vs k w (fun vs => setK mh a (.inr (ty, vs)) (fun mh => some (nx, ls, r, mh))) else none
      | _, _ => none) else none
    | none => none)
  | _ => none
theorem sAst_inv {t : FieldType} {nx : Nat} {A : Alg} {ls : Array Slot} {st : List Value} {mh : List Obj} {r : Nat × Array Slot × List Value × List Obj} (h : sAst t nx A ls st mh = some r) : ∃ st' mh', ast A t mh st = some (st', mh') ∧ r = (nx, ls, st', mh') := by
  simp only [sAst] at h
  split at h
  · rename_i v j a r0
    split at h
    · rename_i ty vs e
      split at h
      · rename_i ht
        split at h
        · rename_i k w e1 e2
          simp only [setK_eq] at h
          cases q : okAt vs k
          · rw [q] at h; cases h
          · rw [q] at h
            cases h
            refine ⟨_, _, ?_, rfl⟩
            simp only [ast, e, if_pos ht, e1, e2, q, cond_true]
        · cases h
      · cases h
    · cases h
  · cases h
def sPut (P : Prog) (aux : List Nat) (nx : Nat) : FS := fun A ls st mh => match st with
  | v :: .ref a :: r => (match objAt mh a, aux.head? with
    | some (cid, fs), some f => (match P.F[f]? with
      | some e => (match narA A e.2.2.2 v, gF fs f with
        | some w, some _ => sFK fs f w (fun fs => setK mh a (.inl (cid, fs)) (fun mh => some (nx, ls, r, mh)))
        | _, _ => none)
      | none => none)
    | _, _ => none)
  | _ => none
def cStat (n k : Nat) : FC := fun _ _ => some (k, n)
def cSpec (n k : Nat) : FC := fun st _ => match st[n - 1]? with | some (.ref _) => bif Nat.ble 1 n then some (k, n) else none | _ => none
def cVirt (n : Nat) (tb : List Nat) : FC := fun st mh => match st[n - 1]? with
  | some (.ref a) => (match objAt mh a with
    | some (cid, _) => (match selM tb cid with | some k => bif Nat.ble 1 n then some (k, n) else none | none => none)
    | none => none)
  | _ => none
def cBad : FC := fun _ _ => none
def rVoid : FR := fun _ st => match st with | [] => some none | _ => none
def rT (t : FieldType) : FR := fun A st => match st with | v :: _ => (match narA A t v with | some w => some (some w) | none => none) | _ => none
def rRef : FR := fun _ st => match st with | v :: _ => bif Nat.beq (kd v) 3 then some (some v) else none | _ => none
def rBad : FR := fun _ _ => none
def isI (t : FieldType) : Bool := decide (t = .int)
def isJ (t : FieldType) : Bool := decide (t = .long)
def isB (t : FieldType) : Bool := decide (t = .byte)
def fstep (P : Prog) (rt : Option FieldType) (i : Instr) (aux : List Nat) (cv : Value) (pc : Nat) : FX :=
  match i with
  | .iload k => .inl (sLod 1 k (pc + 2))
  | .lload k => .inl (sLod 2 k (pc + 2))
  | .aload k => .inl (sLod 3 k (pc + 2))
  | .iload_n k => .inl (sLod 1 k.val (pc + 1))
  | .lload_n k => .inl (sLod 2 k.val (pc + 1))
  | .aload_n k => .inl (sLod 3 k.val (pc + 1))
  | .istore k => .inl (sSto 1 k (pc + 2))
  | .lstore k => .inl (sSto 2 k (pc + 2))
  | .astore k => .inl (sSto 3 k (pc + 2))
  | .istore_n k => .inl (sSto 1 k.val (pc + 1))
  | .lstore_n k => .inl (sSto 2 k.val (pc + 1))
  | .astore_n k => .inl (sSto 3 k.val (pc + 1))
  | .iconst c => .inl (sCst i (.int (Int32.ofInt c)) (pc + 1))
  | .bipush c => .inl (sCst i (.int (Int8.ofInt c).toInt32) (pc + 2))
  | .sipush c => .inl (sCst i (.int (Int16.ofInt c).toInt32) (pc + 3))
  | .lconst k => .inl (sCst i (.long (Int64.ofNat k.val)) (pc + 1))
  | .ldc _ => .inl (sCst i cv (pc + 2))
  | .ldc_w _ => .inl (sCst i cv (pc + 3))
  | .ldc2_w _ => .inl (sCst i cv (pc + 3))
  | .aconst_null => .inl (sNul (pc + 1))
  | .iadd | .isub | .imul | .iand | .ior | .ixor | .ishl | .ishr | .iushr | .idiv | .irem => .inl (sOp2 i (pc + 1))
  | .ladd | .lsub | .lmul | .land | .lor | .lxor | .lcmp | .lshl | .lshr | .lushr => .inl (sOp2 i (pc + 1))
  | .ineg | .i2b | .i2c | .i2s | .i2l | .lneg | .l2i => .inl (sOp1 i (pc + 1))
  | .iinc k c => .inl (sInc k c (pc + 3))
  | .goto _ => .inl (sGo aux)
  | .ifCond _ _ => .inl (sIf1 i aux (pc + 3))
  | .if_icmp _ _ => .inl (sIf2 i aux (pc + 3))
  | .ifnull _ => .inl (sNull aux (pc + 3))
  | .ifnonnull _ => .inl (sNonNull aux (pc + 3))
  | .if_acmp .eq _ => .inl (sAeq aux (pc + 3))
  | .if_acmp .ne _ => .inl (sAne aux (pc + 3))
  | .dup => .inl (sDup (pc + 1))
  | .dup_x1 => .inl (sDupX (pc + 1))
  | .dup2 => .inl (sDup2 (pc + 1))
  | .pop => .inl (sPop (pc + 1))
  | .getfield _ => .inl (sGet aux (pc + 3))
  | .arraylength => .inl (sLen (pc + 1))
  | .iaload => .inl (sAld isI (pc + 1))
  | .laload => .inl (sAld isJ (pc + 1))
  | .baload => .inl (sAld isB (pc + 1))
  | .aaload => .inl (sAld (fun t => t.isReference) (pc + 1))
  | .putfield _ => .inl (sPut P aux (pc + 3))
  | .iastore => .inl (sAst .int (pc + 1))
  | .lastore => .inl (sAst .long (pc + 1))
  | .bastore => .inl (sAst .byte (pc + 1))
  | .aastore => .inl (sH P i aux (pc + 1))
  | .new _ => .inl (sH P i aux (pc + 3))
  | .newarray _ => .inl (sH P i aux (pc + 2))
  | .anewarray _ => .inl (sH P i aux (pc + 3))
  | .invokestatic _ => (match aux with | [] => .inr (.inr (.inr ())) | [n, k] => .inr (.inl (3, cStat n k)) | _ => .inr (.inl (3, cBad)))
  | .invokespecial _ => (match aux with | [] => .inr (.inr (.inr ())) | [n, k] => .inr (.inl (3, cSpec n k)) | _ => .inr (.inl (3, cBad)))
  | .invokevirtual _ => (match aux with | [] => .inr (.inr (.inr ())) | n :: tb => .inr (.inl (3, cVirt n tb)))
  | .invokeinterface _ _ => (match aux with | [] => .inr (.inr (.inr ())) | n :: tb => .inr (.inl (5, cVirt n tb)))
  | .return_ => (match rt with | none => .inr (.inr (.inl rVoid)) | _ => .inr (.inr (.inl rBad)))
  | .ireturn => (match rt with | some .int => .inr (.inr (.inl (rT .int))) | some .boolean => .inr (.inr (.inl (rT .boolean))) | some .char => .inr (.inr (.inl (rT .char))) | _ => .inr (.inr (.inl rBad)))
  | .lreturn => (match rt with | some .long => .inr (.inr (.inl (rT .long))) | _ => .inr (.inr (.inl rBad)))
  | .areturn => (match rt with | some (.object _) => .inr (.inr (.inl rRef)) | some (.array _) => .inr (.inr (.inl rRef)) | _ => .inr (.inr (.inl rBad)))
  | _ => .inr (.inr (.inl rBad))
def findF : List FRow → Nat → Option FX
  | [], _ => none
  | r :: rs, pc => bif Nat.beq r.1 pc then some r.2 else findF rs pc
def fat (m : FM) (pc : Nat) : Option FX := findF (m.getD (pc / 16) []) pc
abbrev RecF := Nat → Nat → Mth → FM → Nat → Array Slot → List Value → List Obj → Option (Option Value × List Obj)
/-- behind a call -/
def backF (next : RecF) (F Lc : Nat) (m : Mth) (q : FM) (pc : Nat) (ls : Array Slot) (rest : List Value) : Option (Option Value × List Obj) → Option (Option Value × List Obj)
  | some (none, mh1) => idK rest (fun rest => next F Lc m q pc ls rest mh1)
  | some (some v, mh1) => idK rest (fun rest => next F Lc m q pc ls (v :: rest) mh1)
  | none => none
def callF (P : Prog) (Q : List FM) (next : RecF) (F Lc : Nat) (m : Mth) (q : FM) (pc : Nat) (ls : Array Slot) (st : List Value) (mh : List Obj) : Option (Nat × Nat) → Option (Option Value × List Obj)
  | some (k, na) => (match P.M[k]?, Q[k]? with
      | some m', some q' => bif Nat.ble 1 F && Nat.ble (catS (st.drop na) + (m'.mx + 11)) Lc && Nat.ble na st.length && Nat.beq (entryL (st.take na).reverse m'.mx).size m'.mx then
          backF next F Lc m q pc ls (st.drop na) (idK (entryL (st.take na).reverse m'.mx).toList (fun xs => next (F - 1) (Lc - (catS (st.drop na) + (m'.mx + 11))) m' q' 0 xs.toArray [] mh)) else none
      | _, _ => none)
  | none => none
def initF (next : RecF) (F Lc : Nat) (m : Mth) (q : FM) (pc : Nat) (ls : Array Slot) (st : List Value) (mh : List Obj) : Option (Option Value × List Obj) := match st with
  | .ref _ :: r => bif Nat.ble 1 F && Nat.ble (catS r + 12) Lc then next F Lc m q (pc + 3) ls r mh else none
  | _ => none
def goF (next : RecF) (F Lc : Nat) (m : Mth) (q : FM) : Option (Nat × Array Slot × List Value × List Obj) → Option (Option Value × List Obj)
  | some (pc', ls', st', mh') => next F Lc m q pc' ls' st' mh'
  | none => none
def retF (mh : List Obj) : Option (Option Value) → Option (Option Value × List Obj)
  | some v => some (v, mh)
  | none => none
def execFB (P : Prog) (Q : List FM) (A : Alg) (next : RecF) (F Lc : Nat) (m : Mth) (q : FM) (pc : Nat) (ls : Array Slot) (st : List Value) (mh : List Obj) : Option (Option Value × List Obj) :=
  match fat q pc with
  | none => none
  | some (.inl f) => goF next F Lc m q (f A ls st mh)
  | some (.inr (.inl (l, c))) => callF P Q next F Lc m q (pc + l) ls st mh (c st mh)
  | some (.inr (.inr (.inl r))) => retF mh (r A st)
  | some (.inr (.inr (.inr _))) => initF next F Lc m q pc ls st mh
def execF (P : Prog) (Q : List FM) (A : Alg) : Nat → RecF
  | 0 => fun _ _ _ _ _ _ _ _ => none
  | n + 1 => execFB P Q A (execF P Q A n)
/-- the ready rows are the method's -/
def rdy (P : Prog) (m : Mth) : FM := m.rows.map (fun l => l.map (fun r => (r.1, fstep P m.rt r.2.1 r.2.2.1 r.2.2.2 r.1)))
theorem findF_map (P : Prog) (rt : Option FieldType) (pc : Nat) : ∀ l : List Row, findF (l.map (fun r => (r.1, fstep P rt r.2.1 r.2.2.1 r.2.2.2 r.1))) pc = (findR l pc).map (fun r => fstep P rt r.2.1 r.2.2.1 r.2.2.2 r.1)
  | [] => rfl
  | r :: l => by
    simp only [List.map_cons, findF, findR]
    cases Nat.beq r.1 pc
    · exact findF_map P rt pc l
    · rfl
theorem fat_rdy (P : Prog) (m : Mth) (pc : Nat) : fat (rdy P m) pc = (m.at pc).map (fun r => fstep P m.rt r.2.1 r.2.2.1 r.2.2.2 r.1) := by
  simp only [fat, Mth.at, rdy, List.getD_eq_getElem?_getD, List.getElem?_map]
  cases m.rows[pc / 16]? with
  | none => rfl
  | some l => exact findF_map P m.rt pc l
set_option maxHeartbeats 4000000 in
theorem fstep_ok {P : Prog} {rt : Option FieldType} {A : Alg} {i : Instr} {aux : List Nat} {cv : Value} {pc : Nat} {ls : Array Slot} {st : List Value} {mh : List Obj} {g : FS} (h : fstep P rt i aux cv pc = .inl g) {r : Nat × Array Slot × List Value × List Obj} (hg : g A ls st mh = some r) :
    (icl i = 0 ∧ stepP A i aux cv pc ls st mh = some (r.1, r.2.1, r.2.2.1) ∧ r.2.2.2 = mh) ∨ (icl i = 1 ∧ stepH P A i aux st mh = some (r.2.2.1, r.2.2.2) ∧ r.1 = pc + ln i ∧ r.2.1 = ls) := by
  cases i with
  | iload k =>
    cases h
    refine Or.inl ⟨rfl, ?_⟩
    simp only [sLod, lodF_eq] at hg
    simp only [stepP]
    cases q : lod 1 ls k with
    | none => rw [q] at hg; cases hg
    | some z => rw [q] at hg; cases hg; exact ⟨rfl, rfl⟩
  | lload k =>
    cases h
    refine Or.inl ⟨rfl, ?_⟩
    simp only [sLod, lodF_eq] at hg
    simp only [stepP]
    cases q : lod 2 ls k with
    | none => rw [q] at hg; cases hg
    | some z => rw [q] at hg; cases hg; exact ⟨rfl, rfl⟩
  | aload k =>
    cases h
    refine Or.inl ⟨rfl, ?_⟩
    simp only [sLod, lodF_eq] at hg
    simp only [stepP]
    cases q : lod 3 ls k with
    | none => rw [q] at hg; cases hg
    | some z => rw [q] at hg; cases hg; exact ⟨rfl, rfl⟩
  | iload_n k =>
    cases h
    refine Or.inl ⟨rfl, ?_⟩
    simp only [sLod, lodF_eq] at hg
    simp only [stepP]
    cases q : lod 1 ls k.val with
    | none => rw [q] at hg; cases hg
    | some z => rw [q] at hg; cases hg; exact ⟨rfl, rfl⟩
  | lload_n k =>
    cases h
    refine Or.inl ⟨rfl, ?_⟩
    simp only [sLod, lodF_eq] at hg
    simp only [stepP]
    cases q : lod 2 ls k.val with
    | none => rw [q] at hg; cases hg
    | some z => rw [q] at hg; cases hg; exact ⟨rfl, rfl⟩
  | aload_n k =>
    cases h
    refine Or.inl ⟨rfl, ?_⟩
    simp only [sLod, lodF_eq] at hg
    simp only [stepP]
    cases q : lod 3 ls k.val with
    | none => rw [q] at hg; cases hg
    | some z => rw [q] at hg; cases hg; exact ⟨rfl, rfl⟩
  | istore k =>
    cases h
    refine Or.inl ⟨rfl, ?_⟩
    simp only [sSto_eq] at hg
    simp only [stepP]
    cases q : sto 1 ls k st with
    | none => rw [q] at hg; cases hg
    | some z => obtain ⟨z1, z2⟩ := z; rw [q] at hg; cases hg; exact ⟨rfl, rfl⟩
  | lstore k =>
    cases h
    refine Or.inl ⟨rfl, ?_⟩
    simp only [sSto_eq] at hg
    simp only [stepP]
    cases q : sto 2 ls k st with
    | none => rw [q] at hg; cases hg
    | some z => obtain ⟨z1, z2⟩ := z; rw [q] at hg; cases hg; exact ⟨rfl, rfl⟩
  | astore k =>
    cases h
    refine Or.inl ⟨rfl, ?_⟩
    simp only [sSto_eq] at hg
    simp only [stepP]
    cases q : sto 3 ls k st with
    | none => rw [q] at hg; cases hg
    | some z => obtain ⟨z1, z2⟩ := z; rw [q] at hg; cases hg; exact ⟨rfl, rfl⟩
  | istore_n k =>
    cases h
    refine Or.inl ⟨rfl, ?_⟩
    simp only [sSto_eq] at hg
    simp only [stepP]
    cases q : sto 1 ls k.val st with
    | none => rw [q] at hg; cases hg
    | some z => obtain ⟨z1, z2⟩ := z; rw [q] at hg; cases hg; exact ⟨rfl, rfl⟩
  | lstore_n k =>
    cases h
    refine Or.inl ⟨rfl, ?_⟩
    simp only [sSto_eq] at hg
    simp only [stepP]
    cases q : sto 2 ls k.val st with
    | none => rw [q] at hg; cases hg
    | some z => obtain ⟨z1, z2⟩ := z; rw [q] at hg; cases hg; exact ⟨rfl, rfl⟩
  | astore_n k =>
    cases h
    refine Or.inl ⟨rfl, ?_⟩
    simp only [sSto_eq] at hg
    simp only [stepP]
    cases q : sto 3 ls k.val st with
    | none => rw [q] at hg; cases hg
    | some z => obtain ⟨z1, z2⟩ := z; rw [q] at hg; cases hg; exact ⟨rfl, rfl⟩
  | iconst k =>
    cases h
    refine Or.inl ⟨rfl, ?_⟩
    simp only [sCst] at hg
    simp only [stepP]
    cases q : cst A (.iconst k) (.int (Int32.ofInt k)) st with
    | none => rw [q] at hg; cases hg
    | some z => rw [q] at hg; cases hg; exact ⟨rfl, rfl⟩
  | bipush k =>
    cases h
    refine Or.inl ⟨rfl, ?_⟩
    simp only [sCst] at hg
    simp only [stepP]
    cases q : cst A (.bipush k) (.int (Int8.ofInt k).toInt32) st with
    | none => rw [q] at hg; cases hg
    | some z => rw [q] at hg; cases hg; exact ⟨rfl, rfl⟩
  | sipush k =>
    cases h
    refine Or.inl ⟨rfl, ?_⟩
    simp only [sCst] at hg
    simp only [stepP]
    cases q : cst A (.sipush k) (.int (Int16.ofInt k).toInt32) st with
    | none => rw [q] at hg; cases hg
    | some z => rw [q] at hg; cases hg; exact ⟨rfl, rfl⟩
  | lconst k =>
    cases h
    refine Or.inl ⟨rfl, ?_⟩
    simp only [sCst] at hg
    simp only [stepP]
    cases q : cst A (.lconst k) (.long (Int64.ofNat k.val)) st with
    | none => rw [q] at hg; cases hg
    | some z => rw [q] at hg; cases hg; exact ⟨rfl, rfl⟩
  | ldc k =>
    cases h
    refine Or.inl ⟨rfl, ?_⟩
    simp only [sCst] at hg
    simp only [stepP]
    cases q : cst A (.ldc k) cv st with
    | none => rw [q] at hg; cases hg
    | some z => rw [q] at hg; cases hg; exact ⟨rfl, rfl⟩
  | ldc_w k =>
    cases h
    refine Or.inl ⟨rfl, ?_⟩
    simp only [sCst] at hg
    simp only [stepP]
    cases q : cst A (.ldc_w k) cv st with
    | none => rw [q] at hg; cases hg
    | some z => rw [q] at hg; cases hg; exact ⟨rfl, rfl⟩
  | ldc2_w k =>
    cases h
    refine Or.inl ⟨rfl, ?_⟩
    simp only [sCst] at hg
    simp only [stepP]
    cases q : cst A (.ldc2_w k) cv st with
    | none => rw [q] at hg; cases hg
    | some z => rw [q] at hg; cases hg; exact ⟨rfl, rfl⟩
  | aconst_null =>
    cases h
    refine Or.inl ⟨rfl, ?_⟩
    simp only [sNul] at hg
    simp only [stepP]
    cases hg; exact ⟨rfl, rfl⟩
  | iadd =>
    cases h
    refine Or.inl ⟨rfl, ?_⟩
    simp only [sOp2] at hg
    simp only [stepP]
    cases q : op2 A .iadd st with
    | none => rw [q] at hg; cases hg
    | some z => rw [q] at hg; cases hg; exact ⟨rfl, rfl⟩
  | isub =>
    cases h
    refine Or.inl ⟨rfl, ?_⟩
    simp only [sOp2] at hg
    simp only [stepP]
    cases q : op2 A .isub st with
    | none => rw [q] at hg; cases hg
    | some z => rw [q] at hg; cases hg; exact ⟨rfl, rfl⟩
  | imul =>
    cases h
    refine Or.inl ⟨rfl, ?_⟩
    simp only [sOp2] at hg
    simp only [stepP]
    cases q : op2 A .imul st with
    | none => rw [q] at hg; cases hg
    | some z => rw [q] at hg; cases hg; exact ⟨rfl, rfl⟩
  | iand =>
    cases h
    refine Or.inl ⟨rfl, ?_⟩
    simp only [sOp2] at hg
    simp only [stepP]
    cases q : op2 A .iand st with
    | none => rw [q] at hg; cases hg
    | some z => rw [q] at hg; cases hg; exact ⟨rfl, rfl⟩
  | ior =>
    cases h
    refine Or.inl ⟨rfl, ?_⟩
    simp only [sOp2] at hg
    simp only [stepP]
    cases q : op2 A .ior st with
    | none => rw [q] at hg; cases hg
    | some z => rw [q] at hg; cases hg; exact ⟨rfl, rfl⟩
  | ixor =>
    cases h
    refine Or.inl ⟨rfl, ?_⟩
    simp only [sOp2] at hg
    simp only [stepP]
    cases q : op2 A .ixor st with
    | none => rw [q] at hg; cases hg
    | some z => rw [q] at hg; cases hg; exact ⟨rfl, rfl⟩
  | ishl =>
    cases h
    refine Or.inl ⟨rfl, ?_⟩
    simp only [sOp2] at hg
    simp only [stepP]
    cases q : op2 A .ishl st with
    | none => rw [q] at hg; cases hg
    | some z => rw [q] at hg; cases hg; exact ⟨rfl, rfl⟩
  | ishr =>
    cases h
    refine Or.inl ⟨rfl, ?_⟩
    simp only [sOp2] at hg
    simp only [stepP]
    cases q : op2 A .ishr st with
    | none => rw [q] at hg; cases hg
    | some z => rw [q] at hg; cases hg; exact ⟨rfl, rfl⟩
  | iushr =>
    cases h
    refine Or.inl ⟨rfl, ?_⟩
    simp only [sOp2] at hg
    simp only [stepP]
    cases q : op2 A .iushr st with
    | none => rw [q] at hg; cases hg
    | some z => rw [q] at hg; cases hg; exact ⟨rfl, rfl⟩
  | idiv =>
    cases h
    refine Or.inl ⟨rfl, ?_⟩
    simp only [sOp2] at hg
    simp only [stepP]
    cases q : op2 A .idiv st with
    | none => rw [q] at hg; cases hg
    | some z => rw [q] at hg; cases hg; exact ⟨rfl, rfl⟩
  | irem =>
    cases h
    refine Or.inl ⟨rfl, ?_⟩
    simp only [sOp2] at hg
    simp only [stepP]
    cases q : op2 A .irem st with
    | none => rw [q] at hg; cases hg
    | some z => rw [q] at hg; cases hg; exact ⟨rfl, rfl⟩
  | ladd =>
    cases h
    refine Or.inl ⟨rfl, ?_⟩
    simp only [sOp2] at hg
    simp only [stepP]
    cases q : op2 A .ladd st with
    | none => rw [q] at hg; cases hg
    | some z => rw [q] at hg; cases hg; exact ⟨rfl, rfl⟩
  | lsub =>
    cases h
    refine Or.inl ⟨rfl, ?_⟩
    simp only [sOp2] at hg
    simp only [stepP]
    cases q : op2 A .lsub st with
    | none => rw [q] at hg; cases hg
    | some z => rw [q] at hg; cases hg; exact ⟨rfl, rfl⟩
  | lmul =>
    cases h
    refine Or.inl ⟨rfl, ?_⟩
    simp only [sOp2] at hg
    simp only [stepP]
    cases q : op2 A .lmul st with
    | none => rw [q] at hg; cases hg
    | some z => rw [q] at hg; cases hg; exact ⟨rfl, rfl⟩
  | land =>
    cases h
    refine Or.inl ⟨rfl, ?_⟩
    simp only [sOp2] at hg
    simp only [stepP]
    cases q : op2 A .land st with
    | none => rw [q] at hg; cases hg
    | some z => rw [q] at hg; cases hg; exact ⟨rfl, rfl⟩
  | lor =>
    cases h
    refine Or.inl ⟨rfl, ?_⟩
    simp only [sOp2] at hg
    simp only [stepP]
    cases q : op2 A .lor st with
    | none => rw [q] at hg; cases hg
    | some z => rw [q] at hg; cases hg; exact ⟨rfl, rfl⟩
  | lxor =>
    cases h
    refine Or.inl ⟨rfl, ?_⟩
    simp only [sOp2] at hg
    simp only [stepP]
    cases q : op2 A .lxor st with
    | none => rw [q] at hg; cases hg
    | some z => rw [q] at hg; cases hg; exact ⟨rfl, rfl⟩
  | lcmp =>
    cases h
    refine Or.inl ⟨rfl, ?_⟩
    simp only [sOp2] at hg
    simp only [stepP]
    cases q : op2 A .lcmp st with
    | none => rw [q] at hg; cases hg
    | some z => rw [q] at hg; cases hg; exact ⟨rfl, rfl⟩
  | lshl =>
    cases h
    refine Or.inl ⟨rfl, ?_⟩
    simp only [sOp2] at hg
    simp only [stepP]
    cases q : op2 A .lshl st with
    | none => rw [q] at hg; cases hg
    | some z => rw [q] at hg; cases hg; exact ⟨rfl, rfl⟩
  | lshr =>
    cases h
    refine Or.inl ⟨rfl, ?_⟩
    simp only [sOp2] at hg
    simp only [stepP]
    cases q : op2 A .lshr st with
    | none => rw [q] at hg; cases hg
    | some z => rw [q] at hg; cases hg; exact ⟨rfl, rfl⟩
  | lushr =>
    cases h
    refine Or.inl ⟨rfl, ?_⟩
    simp only [sOp2] at hg
    simp only [stepP]
    cases q : op2 A .lushr st with
    | none => rw [q] at hg; cases hg
    | some z => rw [q] at hg; cases hg; exact ⟨rfl, rfl⟩
  | ineg =>
    cases h
    refine Or.inl ⟨rfl, ?_⟩
    simp only [sOp1] at hg
    simp only [stepP]
    cases q : op1 A .ineg st with
    | none => rw [q] at hg; cases hg
    | some z => rw [q] at hg; cases hg; exact ⟨rfl, rfl⟩
  | i2b =>
    cases h
    refine Or.inl ⟨rfl, ?_⟩
    simp only [sOp1] at hg
    simp only [stepP]
    cases q : op1 A .i2b st with
    | none => rw [q] at hg; cases hg
    | some z => rw [q] at hg; cases hg; exact ⟨rfl, rfl⟩
  | i2c =>
    cases h
    refine Or.inl ⟨rfl, ?_⟩
    simp only [sOp1] at hg
    simp only [stepP]
    cases q : op1 A .i2c st with
    | none => rw [q] at hg; cases hg
    | some z => rw [q] at hg; cases hg; exact ⟨rfl, rfl⟩
  | i2s =>
    cases h
    refine Or.inl ⟨rfl, ?_⟩
    simp only [sOp1] at hg
    simp only [stepP]
    cases q : op1 A .i2s st with
    | none => rw [q] at hg; cases hg
    | some z => rw [q] at hg; cases hg; exact ⟨rfl, rfl⟩
  | i2l =>
    cases h
    refine Or.inl ⟨rfl, ?_⟩
    simp only [sOp1] at hg
    simp only [stepP]
    cases q : op1 A .i2l st with
    | none => rw [q] at hg; cases hg
    | some z => rw [q] at hg; cases hg; exact ⟨rfl, rfl⟩
  | lneg =>
    cases h
    refine Or.inl ⟨rfl, ?_⟩
    simp only [sOp1] at hg
    simp only [stepP]
    cases q : op1 A .lneg st with
    | none => rw [q] at hg; cases hg
    | some z => rw [q] at hg; cases hg; exact ⟨rfl, rfl⟩
  | l2i =>
    cases h
    refine Or.inl ⟨rfl, ?_⟩
    simp only [sOp1] at hg
    simp only [stepP]
    cases q : op1 A .l2i st with
    | none => rw [q] at hg; cases hg
    | some z => rw [q] at hg; cases hg; exact ⟨rfl, rfl⟩
  | iinc k c =>
    cases h
    refine Or.inl ⟨rfl, ?_⟩
    simp only [sInc, lodF_eq, sSto_eq] at hg
    simp only [stepP]
    cases q : lod 1 ls k with
    | none => simp only [q] at hg; cases hg
    | some v =>
      simp only [q] at hg ⊢
      cases q1 : A.1 (.iinc k c) [v, .int (Int32.ofInt c)] with
      | none => simp only [q1] at hg; cases hg
      | some w =>
        simp only [q1] at hg ⊢
        cases q2 : sto 1 ls k [w] with
        | none => simp only [q2] at hg; cases hg
        | some z => obtain ⟨z1, z2⟩ := z; simp only [q2] at hg ⊢; cases hg; exact ⟨rfl, rfl⟩
  | goto t =>
    cases h
    refine Or.inl ⟨rfl, ?_⟩
    simp only [sGo] at hg
    simp only [stepP]
    cases q : jmp aux with
    | none => rw [q] at hg; cases hg
    | some z => rw [q] at hg; cases hg; exact ⟨rfl, rfl⟩
  | ifCond cd t =>
    cases h
    refine Or.inl ⟨rfl, ?_⟩
    simp only [sIf1] at hg
    simp only [stepP]
    split at hg
    · rename_i x r0
      cases q : br (A.2 (.ifCond cd t) [x]) aux (pc + 3) with
      | none => rw [q] at hg; cases hg
      | some z => rw [q] at hg; cases hg; refine ⟨?_, rfl⟩; simp only [q]
    · cases hg
  | if_icmp cd t =>
    cases h
    refine Or.inl ⟨rfl, ?_⟩
    simp only [sIf2] at hg
    simp only [stepP]
    split at hg
    · rename_i y x r0
      cases q : br (A.2 (.if_icmp cd t) [x, y]) aux (pc + 3) with
      | none => rw [q] at hg; cases hg
      | some z => rw [q] at hg; cases hg; refine ⟨?_, rfl⟩; simp only [q]
    · cases hg
  | ifnull t =>
    cases h
    refine Or.inl ⟨rfl, ?_⟩
    simp only [sNull] at hg
    simp only [stepP]
    split at hg
    · rename_i x r0
      cases q : br (isNul x) aux (pc + 3) with
      | none => rw [q] at hg; cases hg
      | some z => rw [q] at hg; cases hg; refine ⟨?_, rfl⟩; simp only [q]
    · cases hg
  | ifnonnull t =>
    cases h
    refine Or.inl ⟨rfl, ?_⟩
    simp only [sNonNull] at hg
    simp only [stepP]
    split at hg
    · rename_i x r0
      cases q : br ((isNul x).map (!·)) aux (pc + 3) with
      | none => rw [q] at hg; cases hg
      | some z => rw [q] at hg; cases hg; refine ⟨?_, rfl⟩; simp only [q]
    · cases hg
  | if_acmp cd t =>
    cases cd with
    | eq =>
      cases h
      refine Or.inl ⟨rfl, ?_⟩
      simp only [sAeq] at hg
      simp only [stepP]
      split at hg
      · rename_i y x r0
        cases q : br (same x y) aux (pc + 3) with
        | none => rw [q] at hg; cases hg
        | some z => rw [q] at hg; cases hg; refine ⟨?_, rfl⟩; simp only [q]
      · cases hg
    | ne =>
      cases h
      refine Or.inl ⟨rfl, ?_⟩
      simp only [sAne] at hg
      simp only [stepP]
      split at hg
      · rename_i y x r0
        cases q : br ((same x y).map (!·)) aux (pc + 3) with
        | none => rw [q] at hg; cases hg
        | some z => rw [q] at hg; cases hg; refine ⟨?_, rfl⟩; simp only [q]
      · cases hg
  | dup =>
    cases h
    refine Or.inl ⟨rfl, ?_⟩
    simp only [sDup] at hg
    simp only [stepP]
    split at hg
    · rename_i x r0
      cases q : Nat.beq x.category 1 <;> rw [q] at hg <;> cases hg
      refine ⟨?_, rfl⟩
      simp only [q, cond_true]
    · cases hg
  | dup_x1 =>
    cases h
    refine Or.inl ⟨rfl, ?_⟩
    simp only [sDupX] at hg
    simp only [stepP]
    split at hg
    · rename_i x y r0
      cases q : (Nat.beq x.category 1 && Nat.beq y.category 1) <;> rw [q] at hg <;> cases hg
      refine ⟨?_, rfl⟩
      simp only [q, cond_true]
    · cases hg
  | dup2 =>
    cases h
    refine Or.inl ⟨rfl, ?_⟩
    simp only [sDup2] at hg
    simp only [stepP]
    split at hg
    · rename_i x y r0
      cases q : (Nat.beq x.category 1 && Nat.beq y.category 1) <;> rw [q] at hg <;> cases hg
      refine ⟨?_, rfl⟩
      simp only [q, cond_true]
    · cases hg
  | pop =>
    cases h
    refine Or.inl ⟨rfl, ?_⟩
    simp only [sPop] at hg
    simp only [stepP]
    split at hg
    · rename_i x r0
      cases q : Nat.beq x.category 1 <;> rw [q] at hg <;> cases hg
      refine ⟨?_, rfl⟩
      simp only [q, cond_true]
    · cases hg
  | getfield k =>
    cases h
    refine Or.inl ⟨rfl, ?_⟩
    simp only [sGet] at hg
    simp only [stepP]
    split at hg
    · rename_i a r0
      split at hg
      · rename_i cid fs q
        split at hg
        · rename_i f q2
          cases q3 : gF fs f with
          | none => simp only [q3] at hg; cases hg
          | some v => simp only [q3] at hg; cases hg; refine ⟨?_, rfl⟩; simp only [q, q2, q3]
        · cases hg
      · cases hg
    · cases hg
  | arraylength =>
    cases h
    refine Or.inl ⟨rfl, ?_⟩
    simp only [sLen] at hg
    simp only [stepP]
    split at hg
    · rename_i a r0
      split at hg
      · rename_i ty vs q
        cases q1 : A.1 .arraylength [.int vs.length.toInt32] with
        | none => simp only [q1] at hg; cases hg
        | some v => simp only [q1] at hg; cases hg; refine ⟨?_, rfl⟩; simp only [q, q1]
      · cases hg
    · cases hg
  | iaload =>
    cases h
    refine Or.inl ⟨rfl, ?_⟩
    simp only [sAld] at hg
    simp only [stepP]
    have e : isI = (fun t => decide (t = .int)) := rfl
    rw [e] at hg
    cases q : ald A (fun t => decide (t = .int)) mh st with
    | none => rw [q] at hg; cases hg
    | some z => rw [q] at hg; cases hg; exact ⟨rfl, rfl⟩
  | laload =>
    cases h
    refine Or.inl ⟨rfl, ?_⟩
    simp only [sAld] at hg
    simp only [stepP]
    have e : isJ = (fun t => decide (t = .long)) := rfl
    rw [e] at hg
    cases q : ald A (fun t => decide (t = .long)) mh st with
    | none => rw [q] at hg; cases hg
    | some z => rw [q] at hg; cases hg; exact ⟨rfl, rfl⟩
  | baload =>
    cases h
    refine Or.inl ⟨rfl, ?_⟩
    simp only [sAld] at hg
    simp only [stepP]
    have e : isB = (fun t => decide (t = .byte)) := rfl
    rw [e] at hg
    cases q : ald A (fun t => decide (t = .byte)) mh st with
    | none => rw [q] at hg; cases hg
    | some z => rw [q] at hg; cases hg; exact ⟨rfl, rfl⟩
  | aaload =>
    cases h
    refine Or.inl ⟨rfl, ?_⟩
    simp only [sAld] at hg
    simp only [stepP]
    cases q : ald A (fun t => t.isReference) mh st with
    | none => rw [q] at hg; cases hg
    | some z => rw [q] at hg; cases hg; exact ⟨rfl, rfl⟩
  | iastore =>
    cases h
    refine Or.inr ⟨rfl, ?_⟩
    obtain ⟨z1, z2, q, rfl⟩ := sAst_inv hg
    exact ⟨q, rfl, rfl⟩
  | lastore =>
    cases h
    refine Or.inr ⟨rfl, ?_⟩
    obtain ⟨z1, z2, q, rfl⟩ := sAst_inv hg
    exact ⟨q, rfl, rfl⟩
  | bastore =>
    cases h
    refine Or.inr ⟨rfl, ?_⟩
    obtain ⟨z1, z2, q, rfl⟩ := sAst_inv hg
    exact ⟨q, rfl, rfl⟩
  | aastore =>
    cases h
    refine Or.inr ⟨rfl, ?_⟩
    simp only [sH, heapK_eq] at hg
    cases q : stepH P A .aastore aux st mh with
    | none => rw [q] at hg; cases hg
    | some z => obtain ⟨z1, z2⟩ := z; rw [q] at hg; cases hg; first | exact ⟨q, rfl, rfl⟩ | exact ⟨rfl, rfl, rfl⟩
  | new k =>
    cases h
    refine Or.inr ⟨rfl, ?_⟩
    simp only [sH, heapK_eq] at hg
    cases q : stepH P A (.new k) aux st mh with
    | none => rw [q] at hg; cases hg
    | some z => obtain ⟨z1, z2⟩ := z; rw [q] at hg; cases hg; first | exact ⟨q, rfl, rfl⟩ | exact ⟨rfl, rfl, rfl⟩
  | newarray k =>
    cases h
    refine Or.inr ⟨rfl, ?_⟩
    simp only [sH, heapK_eq] at hg
    cases q : stepH P A (.newarray k) aux st mh with
    | none => rw [q] at hg; cases hg
    | some z => obtain ⟨z1, z2⟩ := z; rw [q] at hg; cases hg; first | exact ⟨q, rfl, rfl⟩ | exact ⟨rfl, rfl, rfl⟩
  | anewarray k =>
    cases h
    refine Or.inr ⟨rfl, ?_⟩
    simp only [sH, heapK_eq] at hg
    cases q : stepH P A (.anewarray k) aux st mh with
    | none => rw [q] at hg; cases hg
    | some z => obtain ⟨z1, z2⟩ := z; rw [q] at hg; cases hg; first | exact ⟨q, rfl, rfl⟩ | exact ⟨rfl, rfl, rfl⟩
  | putfield k =>
    cases h
    refine Or.inr ⟨rfl, ?_⟩
    simp only [sPut] at hg
    split at hg
    · rename_i v a r0
      split at hg
      · rename_i cid fs f e1 e2
        split at hg
        · rename_i e e3
          split at hg
          · rename_i w old e4 e5
            simp only [sFK_eq, setK_eq] at hg
            cases hg
            refine ⟨?_, rfl, rfl⟩
            simp only [stepH, e1, e2, e3, e4, e5]
          · cases hg
        · cases hg
      · cases hg
    · cases hg
  | invokestatic k => simp only [fstep] at h; split at h <;> cases h
  | invokespecial k => simp only [fstep] at h; split at h <;> cases h
  | invokevirtual k => simp only [fstep] at h; split at h <;> cases h
  | invokeinterface k c => simp only [fstep] at h; split at h <;> cases h
  | return_ => simp only [fstep] at h; split at h <;> cases h
  | ireturn => simp only [fstep] at h; split at h <;> cases h
  | lreturn => simp only [fstep] at h; split at h <;> cases h
  | areturn => simp only [fstep] at h; split at h <;> cases h
  | _ => cases h
theorem fstep_call {P : Prog} {rt : Option FieldType} {i : Instr} {aux : List Nat} {cv : Value} {pc l : Nat} {c : FC} (h : fstep P rt i aux cv pc = .inr (.inl (l, c))) {st : List Value} {mh : List Obj} {k na : Nat} (hc : c st mh = some (k, na)) : icl i = 2 ∧ l = ln i ∧ callee i aux st mh = some (k, na) := by
  cases i with
  | invokestatic q =>
    simp only [fstep] at h
    split at h
    · cases h
    · cases h; exact ⟨rfl, rfl, hc⟩
    · cases h; cases hc
  | invokespecial q =>
    simp only [fstep] at h
    split at h
    · cases h
    · cases h; exact ⟨rfl, rfl, hc⟩
    · cases h; cases hc
  | invokevirtual q =>
    simp only [fstep] at h
    split at h
    · cases h
    · cases h; exact ⟨rfl, rfl, hc⟩
  | invokeinterface q w =>
    simp only [fstep] at h
    split at h
    · cases h
    · cases h; exact ⟨rfl, rfl, hc⟩
  | return_ => simp only [fstep] at h; split at h <;> cases h
  | ireturn => simp only [fstep] at h; split at h <;> cases h
  | lreturn => simp only [fstep] at h; split at h <;> cases h
  | areturn => simp only [fstep] at h; split at h <;> cases h
  | if_acmp cd t => cases cd <;> cases h
  | _ => cases h
theorem fstep_unit {P : Prog} {rt : Option FieldType} {i : Instr} {aux : List Nat} {cv : Value} {pc : Nat} {u : Unit} (h : fstep P rt i aux cv pc = .inr (.inr (.inr u))) : icl i = 2 ∧ aux = [] := by
  cases i with
  | invokestatic q =>
    simp only [fstep] at h
    split at h
    · exact ⟨rfl, rfl⟩
    · cases h
    · cases h
  | invokespecial q =>
    simp only [fstep] at h
    split at h
    · exact ⟨rfl, rfl⟩
    · cases h
    · cases h
  | invokevirtual q =>
    simp only [fstep] at h
    split at h
    · exact ⟨rfl, rfl⟩
    · cases h
  | invokeinterface q w =>
    simp only [fstep] at h
    split at h
    · exact ⟨rfl, rfl⟩
    · cases h
  | return_ => simp only [fstep] at h; split at h <;> cases h
  | ireturn => simp only [fstep] at h; split at h <;> cases h
  | lreturn => simp only [fstep] at h; split at h <;> cases h
  | areturn => simp only [fstep] at h; split at h <;> cases h
  | if_acmp cd t => cases cd <;> cases h
  | _ => cases h
theorem rT_inv {t : FieldType} {A : Alg} {st : List Value} {v : Option Value} (h : rT t A st = some v) : ∃ x r w, st = x :: r ∧ narA A t x = some w ∧ v = some w := by
  simp only [rT] at h
  split at h
  · rename_i x r
    cases q : narA A t x with
    | none => simp only [q] at h; cases h
    | some w => simp only [q] at h; cases h; exact ⟨x, r, w, rfl, q, rfl⟩
  · cases h
theorem fstep_ret {P : Prog} {rt : Option FieldType} {A : Alg} {i : Instr} {aux : List Nat} {cv : Value} {pc : Nat} {r : FR} (h : fstep P rt i aux cv pc = .inr (.inr (.inl r))) {st : List Value} {v : Option Value} (hr : r A st = some v) : icl i = 3 ∧ retV A i rt st = some v := by
  cases i with
  | invokestatic q => simp only [fstep] at h; split at h <;> cases h
  | invokespecial q => simp only [fstep] at h; split at h <;> cases h
  | invokevirtual q => simp only [fstep] at h; split at h <;> cases h
  | invokeinterface q w => simp only [fstep] at h; split at h <;> cases h
  | return_ =>
    simp only [fstep] at h
    split at h
    · cases h
      simp only [rVoid] at hr
      split at hr
      · exact ⟨rfl, hr⟩
      · cases hr
    · cases h; cases hr
  | ireturn =>
    simp only [fstep] at h
    split at h
    · cases h; obtain ⟨x, r, w, rfl, q, rfl⟩ := rT_inv hr; exact ⟨rfl, by simp only [retV, q, Option.map_some]⟩
    · cases h; obtain ⟨x, r, w, rfl, q, rfl⟩ := rT_inv hr; exact ⟨rfl, by simp only [retV, q, Option.map_some]⟩
    · cases h; obtain ⟨x, r, w, rfl, q, rfl⟩ := rT_inv hr; exact ⟨rfl, by simp only [retV, q, Option.map_some]⟩
    · cases h; cases hr
  | lreturn =>
    simp only [fstep] at h
    split at h
    · cases h; obtain ⟨x, r, w, rfl, q, rfl⟩ := rT_inv hr; exact ⟨rfl, by simp only [retV, q, Option.map_some]⟩
    · cases h; cases hr
  | areturn =>
    simp only [fstep] at h
    split at h
    · cases h
      simp only [rRef] at hr
      split at hr
      · exact ⟨rfl, hr⟩
      · cases hr
    · cases h
      simp only [rRef] at hr
      split at hr
      · exact ⟨rfl, hr⟩
      · cases hr
    · cases h; cases hr
  | if_acmp cd t => cases cd <;> cases h
  | _ => first | (cases h; cases hr; done) | (cases h; done)
theorem execF_ok {P : Prog} {Q : List FM} (hQ : Q = P.M.map (fun m => rdy P m)) {A : Alg} : ∀ {n F Lc : Nat} {m : Mth} {pc : Nat} {ls : Array Slot} {st : List Value} {mh : List Obj} {v : Option Value} {mh' : List Obj}, execF P Q A n F Lc m (rdy P m) pc ls st mh = some (v, mh') → exec P A n F Lc m pc ls st mh = some (v, mh')
  | 0, F, Lc, m, pc, ls, st, mh, v, mh', h => by simp only [execF] at h; cases h
  | n + 1, F, Lc, m, pc, ls, st, mh, v, mh', h0 => by
    have h : execFB P Q A (execF P Q A n) F Lc m (rdy P m) pc ls st mh = some (v, mh') := h0
    clear h0
    simp only [execFB, fat_rdy] at h
    cases hat : m.at pc with
    | none => rw [hat] at h; cases h
    | some r =>
      obtain ⟨r0, i, aux, cv⟩ := r
      have hr0 : r0 = pc := (findR_mem hat).2
      subst hr0
      rw [hat] at h
      simp only [Option.map_some] at h
      cases hf : fstep P m.rt i aux cv r0 with
      | inl g =>
        rw [hf] at h
        simp only at h
        cases hg : g A ls st mh with
        | none => rw [hg] at h; cases h
        | some r =>
          obtain ⟨pc', ls', st', mh1⟩ := r
          rw [hg] at h
          simp only [goF] at h
          rcases fstep_ok hf hg with ⟨hi, h1, h2⟩ | ⟨hi, h1, h2, h3⟩
          · simp only at h1 h2
            subst h2
            rw [exec_p hat hi h1]
            exact execF_ok hQ h
          · simp only at h1 h2 h3
            subst h2 h3
            rw [exec_h hat hi h1]
            exact execF_ok hQ h
      | inr jb =>
        rw [hf] at h
        rcases jb with ⟨l, c⟩ | r | u
        · simp only at h
          cases e1 : c st mh with
          | none => rw [e1] at h; cases h
          | some kn =>
            obtain ⟨k, na⟩ := kn
            rw [e1] at h
            obtain ⟨hi, rfl, e1'⟩ := fstep_call hf e1
            simp only [callF] at h
            split at h
            · rename_i m' q' e2 e3
              have e4 : q' = rdy P m' := by
                rw [hQ, List.getElem?_map, e2] at e3
                exact (Option.some.inj e3).symm
              subst e4
              cases q : (Nat.ble 1 F && Nat.ble (catS (st.drop na) + (m'.mx + 11)) Lc && Nat.ble na st.length && Nat.beq (entryL (st.take na).reverse m'.mx).size m'.mx)
              · rw [q] at h; cases h
              · rw [q] at h
                simp only [cond_true] at h
                obtain ⟨q1, q5⟩ := Bool.and_eq_true_iff.mp q
                obtain ⟨q1, q4⟩ := Bool.and_eq_true_iff.mp q1
                obtain ⟨q2, q3⟩ := Bool.and_eq_true_iff.mp q1
                simp only [idK_eq, Array.toArray_toList] at h
                cases e5 : execF P Q A n (F - 1) (Lc - (catS (st.drop na) + (m'.mx + 11))) m' (rdy P m') 0 (entryL (st.take na).reverse m'.mx) [] mh with
                | none => rw [e5] at h; cases h
                | some vm =>
                  obtain ⟨v1, mh1⟩ := vm
                  rw [e5] at h
                  rw [exec_c hat hi e1' e2 (Nat.le_of_ble_eq_true q2) (Nat.le_of_ble_eq_true q3) (Nat.le_of_ble_eq_true q4) (Nat.eq_of_beq_eq_true q5) (execF_ok hQ e5)]
                  cases v1 with
                  | none => simp only [backF, idK_eq] at h; exact execF_ok hQ h
                  | some w => simp only [backF, idK_eq] at h; exact execF_ok hQ h
            · cases h
        · simp only at h
          cases e1 : r A st with
          | none => rw [e1] at h; cases h
          | some w =>
            rw [e1] at h
            simp only [retF] at h
            cases h
            obtain ⟨hi, e2⟩ := fstep_ret hf e1
            exact exec_r hat hi e2
        · simp only [initF] at h
          obtain ⟨hi, rfl⟩ := fstep_unit hf
          split at h
          · rename_i a r
            cases q : (Nat.ble 1 F && Nat.ble (catS r + 12) Lc)
            · rw [q] at h; cases h
            · rw [q] at h
              obtain ⟨q1, q2⟩ := Bool.and_eq_true_iff.mp q
              rw [exec_o hat hi rfl (Nat.le_of_ble_eq_true q1) (Nat.le_of_ble_eq_true q2)]
              exact execF_ok hQ h
          · cases h
/-- a run's check, by the ready rows -/
def okRunF (P : Prog) (Q : List FM) (A : Alg) (n F Lc cells slots : Nat) (mt : Mth) (q : FM) (vs : List Value) : Bool := match execF P Q (strict A) n F Lc mt q 0 (entryL vs mt.mx) [] [] with
  | some (some (.int r), mh') => decide (r = 1) && Nat.ble mh'.length cells && Nat.ble (osl P mh') slots
  | _ => false
theorem okRunF_ok {P : Prog} {Q : List FM} (hQ : Q = P.M.map (fun m => rdy P m)) {A : Alg} {n F Lc cells slots : Nat} {mt : Mth} {q : FM} (hq : q = rdy P mt) {vs : List Value} (h : okRunF P Q A n F Lc cells slots mt q vs = true) : okRun P A n F Lc cells slots mt vs = true := by
  subst hq
  simp only [okRunF, strict_eq] at h
  split at h
  · rename_i r mh' e
    simp only [okRun, execF_ok hQ e]
    exact h
  · cases h
end Jvm.OwnM
namespace Jvm.Pilot.@@N@@
open Jvm Jvm.ClassFile Sem Op Lib Jvm.Free Jvm.Stand Jvm.LawKit Jvm.RoadKit Bundle Jvm.Pilot.@@N@@.Jvm.D
def fT : List OwnM.FldE := [("com/example/evenhand/evenhand/solver/NodeHeap", "keys", "[J", (.array .long)),
  ("com/example/evenhand/evenhand/solver/NodeHeap", "heap", "[I", (.array .int)),
  ("com/example/evenhand/evenhand/solver/NodeHeap", "position", "[I", (.array .int)),
  ("com/example/evenhand/evenhand/solver/NodeHeap", "size", "I", .int)]
def cT : List OwnM.ClsE := [("com/example/evenhand/evenhand/solver/NodeHeap", 4, [0, 1, 2, 3])]
def kT : List (String × String) := []
/-- com/example/evenhand/evenhand/solver/NodeHeapPollPinLaw.key:(JZ)J -/
def m0 : OwnM.Mth := (⟨"com/example/evenhand/evenhand/solver/NodeHeapPollPinLaw", "key", "(JZ)J"⟩, 3, (some .long), [[(0, .iload_n 2, [], .null), (1, .ifCond .eq 11, [12], .null), (4, .lload_n 0, [], .null), (5, .ldc2_w 7, [], (.long (3))), (8, .land, [], .null), (9, .goto 4, [13], .null), (12, .lload_n 0, [], .null), (13, .lreturn, [], .null)]])
/-- com/example/evenhand/evenhand/solver/NodeHeap.init:([J)V -/
def m1 : OwnM.Mth := (⟨"com/example/evenhand/evenhand/solver/NodeHeap", "<init>", "([J)V"⟩, 2, none, [[(0, .aload_n 0, [], .null), (1, .invokespecial 1, [], .null), (4, .aload_n 0, [], .null), (5, .aload_n 1, [], .null), (6, .putfield 7, [0], .null), (9, .aload_n 0, [], .null), (10, .aload_n 1, [], .null), (11, .arraylength, [], .null), (12, .newarray .int, [], .null), (14, .putfield 13, [1], .null)],
  [(17, .aload_n 0, [], .null), (18, .aload_n 1, [], .null), (19, .arraylength, [], .null), (20, .newarray .int, [], .null), (22, .putfield 17, [2], .null), (25, .aload_n 0, [], .null), (26, .getfield 17, [2], .null), (29, .iconst (-1), [], .null), (30, .invokestatic 20, [2, 2], .null)],
  [(33, .return_, [], .null)]])
/-- java/util/Arrays.fill:([II)V -/
def m2 : OwnM.Mth := (⟨"java/util/Arrays", "fill", "([II)V"⟩, 4, none, [[(0, .iconst 0, [], .null), (1, .istore_n 2, [], .null), (2, .aload_n 0, [], .null), (3, .arraylength, [], .null), (4, .istore_n 3, [], .null), (5, .iload_n 2, [], .null), (6, .iload_n 3, [], .null), (7, .if_icmp .ge 13, [20], .null), (10, .aload_n 0, [], .null), (11, .iload_n 2, [], .null), (12, .iload_n 1, [], .null), (13, .iastore, [], .null), (14, .iinc 2 1, [], .null)],
  [(17, .goto (-12), [5], .null), (20, .return_, [], .null)]])
/-- com/example/evenhand/evenhand/solver/NodeHeap.offer:(I)V -/
def m3 : OwnM.Mth := (⟨"com/example/evenhand/evenhand/solver/NodeHeap", "offer", "(I)V"⟩, 3, none, [[(0, .aload_n 0, [], .null), (1, .getfield 17, [2], .null), (4, .iload_n 1, [], .null), (5, .iaload, [], .null), (6, .istore_n 2, [], .null), (7, .iload_n 2, [], .null), (8, .ifCond .ge 29, [37], .null), (11, .aload_n 0, [], .null), (12, .dup, [], .null), (13, .getfield 26, [3], .null)],
  [(16, .dup_x1, [], .null), (17, .iconst 1, [], .null), (18, .iadd, [], .null), (19, .putfield 26, [3], .null), (22, .istore_n 2, [], .null), (23, .aload_n 0, [], .null), (24, .getfield 13, [1], .null), (27, .iload_n 2, [], .null), (28, .iload_n 1, [], .null), (29, .iastore, [], .null), (30, .aload_n 0, [], .null), (31, .getfield 17, [2], .null)],
  [(34, .iload_n 1, [], .null), (35, .iload_n 2, [], .null), (36, .iastore, [], .null), (37, .aload_n 0, [], .null), (38, .iload_n 2, [], .null), (39, .invokevirtual 30, [2, 0, 4], .null), (42, .return_, [], .null)]])
/-- com/example/evenhand/evenhand/solver/NodeHeap.siftUp:(I)V -/
def m4 : OwnM.Mth := (⟨"com/example/evenhand/evenhand/solver/NodeHeap", "siftUp", "(I)V"⟩, 4, none, [[(0, .aload_n 0, [], .null), (1, .getfield 13, [1], .null), (4, .iload_n 1, [], .null), (5, .iaload, [], .null), (6, .istore_n 2, [], .null), (7, .iload_n 1, [], .null), (8, .ifCond .le 42, [50], .null), (11, .iload_n 1, [], .null), (12, .iconst 1, [], .null), (13, .isub, [], .null), (14, .iconst 2, [], .null), (15, .idiv, [], .null)],
  [(16, .istore_n 3, [], .null), (17, .aload_n 0, [], .null), (18, .iload_n 2, [], .null), (19, .aload_n 0, [], .null), (20, .getfield 13, [1], .null), (23, .iload_n 3, [], .null), (24, .iaload, [], .null), (25, .invokevirtual 37, [3, 0, 6], .null), (28, .ifCond .ne 6, [34], .null), (31, .goto 19, [50], .null)],
  [(34, .aload_n 0, [], .null), (35, .aload_n 0, [], .null), (36, .getfield 13, [1], .null), (39, .iload_n 3, [], .null), (40, .iaload, [], .null), (41, .iload_n 1, [], .null), (42, .invokevirtual 41, [3, 0, 5], .null), (45, .iload_n 3, [], .null), (46, .istore_n 1, [], .null), (47, .goto (-40), [7], .null)],
  [(50, .aload_n 0, [], .null), (51, .iload_n 2, [], .null), (52, .iload_n 1, [], .null), (53, .invokevirtual 41, [3, 0, 5], .null), (56, .return_, [], .null)]])
/-- com/example/evenhand/evenhand/solver/NodeHeap.place:(II)V -/
def m5 : OwnM.Mth := (⟨"com/example/evenhand/evenhand/solver/NodeHeap", "place", "(II)V"⟩, 3, none, [[(0, .aload_n 0, [], .null), (1, .getfield 13, [1], .null), (4, .iload_n 2, [], .null), (5, .iload_n 1, [], .null), (6, .iastore, [], .null), (7, .aload_n 0, [], .null), (8, .getfield 17, [2], .null), (11, .iload_n 1, [], .null), (12, .iload_n 2, [], .null), (13, .iastore, [], .null), (14, .return_, [], .null)]])
/-- com/example/evenhand/evenhand/solver/NodeHeap.before:(II)Z -/
def m6 : OwnM.Mth := (⟨"com/example/evenhand/evenhand/solver/NodeHeap", "before", "(II)Z"⟩, 3, (some .boolean), [[(0, .aload_n 0, [], .null), (1, .getfield 7, [0], .null), (4, .iload_n 1, [], .null), (5, .laload, [], .null), (6, .aload_n 0, [], .null), (7, .getfield 7, [0], .null), (10, .iload_n 2, [], .null), (11, .laload, [], .null), (12, .lcmp, [], .null), (13, .ifCond .lt 24, [37], .null)],
  [(16, .aload_n 0, [], .null), (17, .getfield 7, [0], .null), (20, .iload_n 1, [], .null), (21, .laload, [], .null), (22, .aload_n 0, [], .null), (23, .getfield 7, [0], .null), (26, .iload_n 2, [], .null), (27, .laload, [], .null), (28, .lcmp, [], .null), (29, .ifCond .ne 12, [41], .null)],
  [(32, .iload_n 1, [], .null), (33, .iload_n 2, [], .null), (34, .if_icmp .ge 7, [41], .null), (37, .iconst 1, [], .null), (38, .goto 4, [42], .null), (41, .iconst 0, [], .null), (42, .ireturn, [], .null)]])
/-- com/example/evenhand/evenhand/solver/NodeHeap.poll:()I -/
def m7 : OwnM.Mth := (⟨"com/example/evenhand/evenhand/solver/NodeHeap", "poll", "()I"⟩, 2, (some .int), [[(0, .aload_n 0, [], .null), (1, .getfield 13, [1], .null), (4, .iconst 0, [], .null), (5, .iaload, [], .null), (6, .istore_n 1, [], .null), (7, .aload_n 0, [], .null), (8, .getfield 17, [2], .null), (11, .iload_n 1, [], .null), (12, .iconst (-1), [], .null), (13, .iastore, [], .null), (14, .aload_n 0, [], .null), (15, .dup, [], .null)],
  [(16, .getfield 26, [3], .null), (19, .iconst 1, [], .null), (20, .isub, [], .null), (21, .putfield 26, [3], .null), (24, .aload_n 0, [], .null), (25, .getfield 26, [3], .null), (28, .ifCond .le 35, [63], .null), (31, .aload_n 0, [], .null)],
  [(32, .getfield 13, [1], .null), (35, .iconst 0, [], .null), (36, .aload_n 0, [], .null), (37, .getfield 13, [1], .null), (40, .aload_n 0, [], .null), (41, .getfield 26, [3], .null), (44, .iaload, [], .null), (45, .iastore, [], .null), (46, .aload_n 0, [], .null), (47, .getfield 17, [2], .null)],
  [(50, .aload_n 0, [], .null), (51, .getfield 13, [1], .null), (54, .iconst 0, [], .null), (55, .iaload, [], .null), (56, .iconst 0, [], .null), (57, .iastore, [], .null), (58, .aload_n 0, [], .null), (59, .iconst 0, [], .null), (60, .invokevirtual 34, [2, 0, 8], .null), (63, .iload_n 1, [], .null)],
  [(64, .ireturn, [], .null)]])
/-- com/example/evenhand/evenhand/solver/NodeHeap.siftDown:(I)V -/
def m8 : OwnM.Mth := (⟨"com/example/evenhand/evenhand/solver/NodeHeap", "siftDown", "(I)V"⟩, 4, none, [[(0, .aload_n 0, [], .null), (1, .getfield 13, [1], .null), (4, .iload_n 1, [], .null), (5, .iaload, [], .null), (6, .istore_n 2, [], .null), (7, .iconst 2, [], .null), (8, .iload_n 1, [], .null), (9, .imul, [], .null), (10, .iconst 1, [], .null), (11, .iadd, [], .null), (12, .istore_n 3, [], .null), (13, .iload_n 3, [], .null), (14, .aload_n 0, [], .null), (15, .getfield 26, [3], .null)],
  [(18, .if_icmp .lt 6, [24], .null), (21, .goto 70, [91], .null), (24, .iload_n 3, [], .null), (25, .iconst 1, [], .null), (26, .iadd, [], .null), (27, .aload_n 0, [], .null), (28, .getfield 26, [3], .null), (31, .if_icmp .ge 27, [58], .null)],
  [(34, .aload_n 0, [], .null), (35, .aload_n 0, [], .null), (36, .getfield 13, [1], .null), (39, .iload_n 3, [], .null), (40, .iconst 1, [], .null), (41, .iadd, [], .null), (42, .iaload, [], .null), (43, .aload_n 0, [], .null), (44, .getfield 13, [1], .null), (47, .iload_n 3, [], .null)],
  [(48, .iaload, [], .null), (49, .invokevirtual 37, [3, 0, 6], .null), (52, .ifCond .eq 6, [58], .null), (55, .iinc 3 1, [], .null), (58, .aload_n 0, [], .null), (59, .aload_n 0, [], .null), (60, .getfield 13, [1], .null), (63, .iload_n 3, [], .null)],
  [(64, .iaload, [], .null), (65, .iload_n 2, [], .null), (66, .invokevirtual 37, [3, 0, 6], .null), (69, .ifCond .ne 6, [75], .null), (72, .goto 19, [91], .null), (75, .aload_n 0, [], .null), (76, .aload_n 0, [], .null), (77, .getfield 13, [1], .null)],
  [(80, .iload_n 3, [], .null), (81, .iaload, [], .null), (82, .iload_n 1, [], .null), (83, .invokevirtual 41, [3, 0, 5], .null), (86, .iload_n 3, [], .null), (87, .istore_n 1, [], .null), (88, .goto (-81), [7], .null), (91, .aload_n 0, [], .null), (92, .iload_n 2, [], .null), (93, .iload_n 1, [], .null), (94, .invokevirtual 41, [3, 0, 5], .null)],
  [(97, .return_, [], .null)]])
/-- com/example/evenhand/evenhand/solver/NodeHeapPollPinLaw.in:(II)Z -/
def m9 : OwnM.Mth := (⟨"com/example/evenhand/evenhand/solver/NodeHeapPollPinLaw", "in", "(II)Z"⟩, 2, (some .boolean), [[(0, .iload_n 0, [], .null), (1, .ifCond .lt 12, [13], .null), (4, .iload_n 0, [], .null), (5, .iload_n 1, [], .null), (6, .if_icmp .ge 7, [13], .null), (9, .iconst 1, [], .null), (10, .goto 4, [14], .null), (13, .iconst 0, [], .null), (14, .ireturn, [], .null)]])
/-- com/example/evenhand/evenhand/solver/NodeHeapPollPinLaw.before:([JII)Z -/
def m10 : OwnM.Mth := (⟨"com/example/evenhand/evenhand/solver/NodeHeapPollPinLaw", "before", "([JII)Z"⟩, 3, (some .boolean), [[(0, .aload_n 0, [], .null), (1, .iload_n 1, [], .null), (2, .laload, [], .null), (3, .aload_n 0, [], .null), (4, .iload_n 2, [], .null), (5, .laload, [], .null), (6, .lcmp, [], .null), (7, .ifCond .lt 18, [25], .null), (10, .aload_n 0, [], .null), (11, .iload_n 1, [], .null), (12, .laload, [], .null), (13, .aload_n 0, [], .null), (14, .iload_n 2, [], .null), (15, .laload, [], .null)],
  [(16, .lcmp, [], .null), (17, .ifCond .ne 12, [29], .null), (20, .iload_n 1, [], .null), (21, .iload_n 2, [], .null), (22, .if_icmp .ge 7, [29], .null), (25, .iconst 1, [], .null), (26, .goto 4, [30], .null), (29, .iconst 0, [], .null), (30, .ireturn, [], .null)]])
def prog : OwnM.Prog := (fT, cT, [m0, m1, m2, m3, m4, m5, m6, m7, m8, m9, m10], kT)
def lawM : OwnM.Mth := (x, maxLocals, ret, [[(0, .iload 10, [], .null), (2, .ldc 9, [], (.int (2147483647))), (4, .iand, [], .null), (5, .iconst 5, [], .null), (6, .irem, [], .null), (7, .iconst 1, [], .null), (8, .iadd, [], .null), (9, .istore 11, [], .null), (11, .iload 10, [], .null), (13, .ifCond .ge 7, [20], .null)],
  [(16, .iconst 1, [], .null), (17, .goto 4, [21], .null), (20, .iconst 0, [], .null), (21, .istore 12, [], .null), (23, .iconst 5, [], .null), (24, .newarray .long, [], .null), (26, .astore 13, [], .null), (28, .aload 13, [], .null), (30, .iconst 0, [], .null), (31, .lload_n 0, [], .null)],
  [(32, .iload 12, [], .null), (34, .invokestatic 10, [2, 0], .null), (37, .lastore, [], .null), (38, .aload 13, [], .null), (40, .iconst 1, [], .null), (41, .lload_n 2, [], .null), (42, .iload 12, [], .null), (44, .invokestatic 10, [2, 0], .null), (47, .lastore, [], .null)],
  [(48, .aload 13, [], .null), (50, .iconst 2, [], .null), (51, .lload 4, [], .null), (53, .iload 12, [], .null), (55, .invokestatic 10, [2, 0], .null), (58, .lastore, [], .null), (59, .aload 13, [], .null), (61, .iconst 3, [], .null), (62, .lload 6, [], .null)],
  [(64, .iload 12, [], .null), (66, .invokestatic 10, [2, 0], .null), (69, .lastore, [], .null), (70, .aload 13, [], .null), (72, .iconst 4, [], .null), (73, .lload 8, [], .null), (75, .iload 12, [], .null), (77, .invokestatic 10, [2, 0], .null)],
  [(80, .lastore, [], .null), (81, .new 16, [0], .null), (84, .dup, [], .null), (85, .aload 13, [], .null), (87, .invokespecial 18, [2, 1], .null), (90, .astore 14, [], .null), (92, .aload 14, [], .null), (94, .iconst 0, [], .null), (95, .invokevirtual 21, [2, 0, 3], .null)],
  [(98, .iload 11, [], .null), (100, .iconst 1, [], .null), (101, .if_icmp .le 9, [110], .null), (104, .aload 14, [], .null), (106, .iconst 1, [], .null), (107, .invokevirtual 21, [2, 0, 3], .null), (110, .iload 11, [], .null)],
  [(112, .iconst 2, [], .null), (113, .if_icmp .le 9, [122], .null), (116, .aload 14, [], .null), (118, .iconst 2, [], .null), (119, .invokevirtual 21, [2, 0, 3], .null), (122, .iload 11, [], .null), (124, .iconst 3, [], .null), (125, .if_icmp .le 9, [134], .null)],
  [(128, .aload 14, [], .null), (130, .iconst 3, [], .null), (131, .invokevirtual 21, [2, 0, 3], .null), (134, .iload 11, [], .null), (136, .iconst 4, [], .null), (137, .if_icmp .le 9, [146], .null), (140, .aload 14, [], .null), (142, .iconst 4, [], .null), (143, .invokevirtual 21, [2, 0, 3], .null)],
  [(146, .aload 14, [], .null), (148, .invokevirtual 25, [1, 0, 7], .null), (151, .istore 15, [], .null), (153, .iload 11, [], .null), (155, .iconst 1, [], .null), (156, .if_icmp .le 11, [167], .null), (159, .aload 14, [], .null)],
  [(161, .invokevirtual 25, [1, 0, 7], .null), (164, .goto 4, [168], .null), (167, .iconst (-1), [], .null), (168, .istore 16, [], .null), (170, .iload 11, [], .null), (172, .iconst 2, [], .null), (173, .if_icmp .le 11, [184], .null)],
  [(176, .aload 14, [], .null), (178, .invokevirtual 25, [1, 0, 7], .null), (181, .goto 4, [185], .null), (184, .iconst (-1), [], .null), (185, .istore 17, [], .null), (187, .iload 11, [], .null), (189, .iconst 3, [], .null), (190, .if_icmp .le 11, [201], .null)],
  [(193, .aload 14, [], .null), (195, .invokevirtual 25, [1, 0, 7], .null), (198, .goto 4, [202], .null), (201, .iconst (-1), [], .null), (202, .istore 18, [], .null), (204, .iload 11, [], .null), (206, .iconst 4, [], .null), (207, .if_icmp .le 11, [218], .null)],
  [(210, .aload 14, [], .null), (212, .invokevirtual 25, [1, 0, 7], .null), (215, .goto 4, [219], .null), (218, .iconst (-1), [], .null), (219, .istore 19, [], .null), (221, .iload 15, [], .null), (223, .iload 11, [], .null)],
  [(225, .invokestatic 29, [2, 9], .null), (228, .istore 20, [], .null), (230, .iload 11, [], .null), (232, .iconst 1, [], .null), (233, .if_icmp .le 37, [270], .null), (236, .iload 20, [], .null), (238, .ifCond .eq 29, [267], .null)],
  [(241, .iload 16, [], .null), (243, .iload 11, [], .null), (245, .invokestatic 29, [2, 9], .null), (248, .ifCond .eq 19, [267], .null), (251, .aload 13, [], .null), (253, .iload 15, [], .null), (255, .iload 16, [], .null)],
  [(257, .invokestatic 33, [3, 10], .null), (260, .ifCond .eq 7, [267], .null), (263, .iconst 1, [], .null), (264, .goto 4, [268], .null), (267, .iconst 0, [], .null), (268, .istore 20, [], .null), (270, .iload 11, [], .null)],
  [(272, .iconst 2, [], .null), (273, .if_icmp .le 37, [310], .null), (276, .iload 20, [], .null), (278, .ifCond .eq 29, [307], .null), (281, .iload 17, [], .null), (283, .iload 11, [], .null), (285, .invokestatic 29, [2, 9], .null)],
  [(288, .ifCond .eq 19, [307], .null), (291, .aload 13, [], .null), (293, .iload 16, [], .null), (295, .iload 17, [], .null), (297, .invokestatic 33, [3, 10], .null), (300, .ifCond .eq 7, [307], .null), (303, .iconst 1, [], .null)],
  [(304, .goto 4, [308], .null), (307, .iconst 0, [], .null), (308, .istore 20, [], .null), (310, .iload 11, [], .null), (312, .iconst 3, [], .null), (313, .if_icmp .le 37, [350], .null), (316, .iload 20, [], .null), (318, .ifCond .eq 29, [347], .null)],
  [(321, .iload 18, [], .null), (323, .iload 11, [], .null), (325, .invokestatic 29, [2, 9], .null), (328, .ifCond .eq 19, [347], .null), (331, .aload 13, [], .null), (333, .iload 17, [], .null), (335, .iload 18, [], .null)],
  [(337, .invokestatic 33, [3, 10], .null), (340, .ifCond .eq 7, [347], .null), (343, .iconst 1, [], .null), (344, .goto 4, [348], .null), (347, .iconst 0, [], .null), (348, .istore 20, [], .null), (350, .iload 11, [], .null)],
  [(352, .iconst 4, [], .null), (353, .if_icmp .le 37, [390], .null), (356, .iload 20, [], .null), (358, .ifCond .eq 29, [387], .null), (361, .iload 19, [], .null), (363, .iload 11, [], .null), (365, .invokestatic 29, [2, 9], .null)],
  [(368, .ifCond .eq 19, [387], .null), (371, .aload 13, [], .null), (373, .iload 18, [], .null), (375, .iload 19, [], .null), (377, .invokestatic 33, [3, 10], .null), (380, .ifCond .eq 7, [387], .null), (383, .iconst 1, [], .null)],
  [(384, .goto 4, [388], .null), (387, .iconst 0, [], .null), (388, .istore 20, [], .null), (390, .iload 20, [], .null), (392, .ireturn, [], .null)]])
def f0 : OwnM.FM := [[(0, .inl (OwnM.sLod 1 2 1)), (1, .inl (OwnM.sIf1 (.ifCond .eq 11) [12] 4)), (4, .inl (OwnM.sLod 2 0 5)), (5, .inl (OwnM.sCst (.ldc2_w 7) (.long (3)) 8)), (8, .inl (OwnM.sOp2 (.land) 9)), (9, .inl (OwnM.sGo [13])), (12, .inl (OwnM.sLod 2 0 13)), (13, .inr (.inr (.inl (OwnM.rT .long))))]]
def f1 : OwnM.FM := [[(0, .inl (OwnM.sLod 3 0 1)), (1, .inr (.inr (.inr ()))), (4, .inl (OwnM.sLod 3 0 5)), (5, .inl (OwnM.sLod 3 1 6)), (6, .inl (OwnM.sPut prog [0] 9)), (9, .inl (OwnM.sLod 3 0 10)), (10, .inl (OwnM.sLod 3 1 11)), (11, .inl (OwnM.sLen 12)), (12, .inl (OwnM.sH prog (.newarray .int) [] 14)), (14, .inl (OwnM.sPut prog [1] 17))],
  [(17, .inl (OwnM.sLod 3 0 18)), (18, .inl (OwnM.sLod 3 1 19)), (19, .inl (OwnM.sLen 20)), (20, .inl (OwnM.sH prog (.newarray .int) [] 22)), (22, .inl (OwnM.sPut prog [2] 25)), (25, .inl (OwnM.sLod 3 0 26)), (26, .inl (OwnM.sGet [2] 29)), (29, .inl (OwnM.sCst (.iconst (-1)) (.int (Int32.ofInt (-1))) 30)), (30, .inr (.inl (3, OwnM.cStat 2 2)))],
  [(33, .inr (.inr (.inl (OwnM.rVoid))))]]
def f2 : OwnM.FM := [[(0, .inl (OwnM.sCst (.iconst 0) (.int (Int32.ofInt 0)) 1)), (1, .inl (OwnM.sSto 1 2 2)), (2, .inl (OwnM.sLod 3 0 3)), (3, .inl (OwnM.sLen 4)), (4, .inl (OwnM.sSto 1 3 5)), (5, .inl (OwnM.sLod 1 2 6)), (6, .inl (OwnM.sLod 1 3 7)), (7, .inl (OwnM.sIf2 (.if_icmp .ge 13) [20] 10)), (10, .inl (OwnM.sLod 3 0 11)), (11, .inl (OwnM.sLod 1 2 12)), (12, .inl (OwnM.sLod 1 1 13)), (13, .inl (OwnM.sAst .int 14)), (14, .inl (OwnM.sInc 2 1 17))],
  [(17, .inl (OwnM.sGo [5])), (20, .inr (.inr (.inl (OwnM.rVoid))))]]
def f3 : OwnM.FM := [[(0, .inl (OwnM.sLod 3 0 1)), (1, .inl (OwnM.sGet [2] 4)), (4, .inl (OwnM.sLod 1 1 5)), (5, .inl (OwnM.sAld OwnM.isI 6)), (6, .inl (OwnM.sSto 1 2 7)), (7, .inl (OwnM.sLod 1 2 8)), (8, .inl (OwnM.sIf1 (.ifCond .ge 29) [37] 11)), (11, .inl (OwnM.sLod 3 0 12)), (12, .inl (OwnM.sDup 13)), (13, .inl (OwnM.sGet [3] 16))],
  [(16, .inl (OwnM.sDupX 17)), (17, .inl (OwnM.sCst (.iconst 1) (.int (Int32.ofInt 1)) 18)), (18, .inl (OwnM.sOp2 (.iadd) 19)), (19, .inl (OwnM.sPut prog [3] 22)), (22, .inl (OwnM.sSto 1 2 23)), (23, .inl (OwnM.sLod 3 0 24)), (24, .inl (OwnM.sGet [1] 27)), (27, .inl (OwnM.sLod 1 2 28)), (28, .inl (OwnM.sLod 1 1 29)), (29, .inl (OwnM.sAst .int 30)), (30, .inl (OwnM.sLod 3 0 31)), (31, .inl (OwnM.sGet [2] 34))],
  [(34, .inl (OwnM.sLod 1 1 35)), (35, .inl (OwnM.sLod 1 2 36)), (36, .inl (OwnM.sAst .int 37)), (37, .inl (OwnM.sLod 3 0 38)), (38, .inl (OwnM.sLod 1 2 39)), (39, .inr (.inl (3, OwnM.cVirt 2 [0, 4]))), (42, .inr (.inr (.inl (OwnM.rVoid))))]]
def f4 : OwnM.FM := [[(0, .inl (OwnM.sLod 3 0 1)), (1, .inl (OwnM.sGet [1] 4)), (4, .inl (OwnM.sLod 1 1 5)), (5, .inl (OwnM.sAld OwnM.isI 6)), (6, .inl (OwnM.sSto 1 2 7)), (7, .inl (OwnM.sLod 1 1 8)), (8, .inl (OwnM.sIf1 (.ifCond .le 42) [50] 11)), (11, .inl (OwnM.sLod 1 1 12)), (12, .inl (OwnM.sCst (.iconst 1) (.int (Int32.ofInt 1)) 13)), (13, .inl (OwnM.sOp2 (.isub) 14)), (14, .inl (OwnM.sCst (.iconst 2) (.int (Int32.ofInt 2)) 15)), (15, .inl (OwnM.sOp2 (.idiv) 16))],
  [(16, .inl (OwnM.sSto 1 3 17)), (17, .inl (OwnM.sLod 3 0 18)), (18, .inl (OwnM.sLod 1 2 19)), (19, .inl (OwnM.sLod 3 0 20)), (20, .inl (OwnM.sGet [1] 23)), (23, .inl (OwnM.sLod 1 3 24)), (24, .inl (OwnM.sAld OwnM.isI 25)), (25, .inr (.inl (3, OwnM.cVirt 3 [0, 6]))), (28, .inl (OwnM.sIf1 (.ifCond .ne 6) [34] 31)), (31, .inl (OwnM.sGo [50]))],
  [(34, .inl (OwnM.sLod 3 0 35)), (35, .inl (OwnM.sLod 3 0 36)), (36, .inl (OwnM.sGet [1] 39)), (39, .inl (OwnM.sLod 1 3 40)), (40, .inl (OwnM.sAld OwnM.isI 41)), (41, .inl (OwnM.sLod 1 1 42)), (42, .inr (.inl (3, OwnM.cVirt 3 [0, 5]))), (45, .inl (OwnM.sLod 1 3 46)), (46, .inl (OwnM.sSto 1 1 47)), (47, .inl (OwnM.sGo [7]))],
  [(50, .inl (OwnM.sLod 3 0 51)), (51, .inl (OwnM.sLod 1 2 52)), (52, .inl (OwnM.sLod 1 1 53)), (53, .inr (.inl (3, OwnM.cVirt 3 [0, 5]))), (56, .inr (.inr (.inl (OwnM.rVoid))))]]
def f5 : OwnM.FM := [[(0, .inl (OwnM.sLod 3 0 1)), (1, .inl (OwnM.sGet [1] 4)), (4, .inl (OwnM.sLod 1 2 5)), (5, .inl (OwnM.sLod 1 1 6)), (6, .inl (OwnM.sAst .int 7)), (7, .inl (OwnM.sLod 3 0 8)), (8, .inl (OwnM.sGet [2] 11)), (11, .inl (OwnM.sLod 1 1 12)), (12, .inl (OwnM.sLod 1 2 13)), (13, .inl (OwnM.sAst .int 14)), (14, .inr (.inr (.inl (OwnM.rVoid))))]]
def f6 : OwnM.FM := [[(0, .inl (OwnM.sLod 3 0 1)), (1, .inl (OwnM.sGet [0] 4)), (4, .inl (OwnM.sLod 1 1 5)), (5, .inl (OwnM.sAld OwnM.isJ 6)), (6, .inl (OwnM.sLod 3 0 7)), (7, .inl (OwnM.sGet [0] 10)), (10, .inl (OwnM.sLod 1 2 11)), (11, .inl (OwnM.sAld OwnM.isJ 12)), (12, .inl (OwnM.sOp2 (.lcmp) 13)), (13, .inl (OwnM.sIf1 (.ifCond .lt 24) [37] 16))],
  [(16, .inl (OwnM.sLod 3 0 17)), (17, .inl (OwnM.sGet [0] 20)), (20, .inl (OwnM.sLod 1 1 21)), (21, .inl (OwnM.sAld OwnM.isJ 22)), (22, .inl (OwnM.sLod 3 0 23)), (23, .inl (OwnM.sGet [0] 26)), (26, .inl (OwnM.sLod 1 2 27)), (27, .inl (OwnM.sAld OwnM.isJ 28)), (28, .inl (OwnM.sOp2 (.lcmp) 29)), (29, .inl (OwnM.sIf1 (.ifCond .ne 12) [41] 32))],
  [(32, .inl (OwnM.sLod 1 1 33)), (33, .inl (OwnM.sLod 1 2 34)), (34, .inl (OwnM.sIf2 (.if_icmp .ge 7) [41] 37)), (37, .inl (OwnM.sCst (.iconst 1) (.int (Int32.ofInt 1)) 38)), (38, .inl (OwnM.sGo [42])), (41, .inl (OwnM.sCst (.iconst 0) (.int (Int32.ofInt 0)) 42)), (42, .inr (.inr (.inl (OwnM.rT .boolean))))]]
def f7 : OwnM.FM := [[(0, .inl (OwnM.sLod 3 0 1)), (1, .inl (OwnM.sGet [1] 4)), (4, .inl (OwnM.sCst (.iconst 0) (.int (Int32.ofInt 0)) 5)), (5, .inl (OwnM.sAld OwnM.isI 6)), (6, .inl (OwnM.sSto 1 1 7)), (7, .inl (OwnM.sLod 3 0 8)), (8, .inl (OwnM.sGet [2] 11)), (11, .inl (OwnM.sLod 1 1 12)), (12, .inl (OwnM.sCst (.iconst (-1)) (.int (Int32.ofInt (-1))) 13)), (13, .inl (OwnM.sAst .int 14)), (14, .inl (OwnM.sLod 3 0 15)), (15, .inl (OwnM.sDup 16))],
  [(16, .inl (OwnM.sGet [3] 19)), (19, .inl (OwnM.sCst (.iconst 1) (.int (Int32.ofInt 1)) 20)), (20, .inl (OwnM.sOp2 (.isub) 21)), (21, .inl (OwnM.sPut prog [3] 24)), (24, .inl (OwnM.sLod 3 0 25)), (25, .inl (OwnM.sGet [3] 28)), (28, .inl (OwnM.sIf1 (.ifCond .le 35) [63] 31)), (31, .inl (OwnM.sLod 3 0 32))],
  [(32, .inl (OwnM.sGet [1] 35)), (35, .inl (OwnM.sCst (.iconst 0) (.int (Int32.ofInt 0)) 36)), (36, .inl (OwnM.sLod 3 0 37)), (37, .inl (OwnM.sGet [1] 40)), (40, .inl (OwnM.sLod 3 0 41)), (41, .inl (OwnM.sGet [3] 44)), (44, .inl (OwnM.sAld OwnM.isI 45)), (45, .inl (OwnM.sAst .int 46)), (46, .inl (OwnM.sLod 3 0 47)), (47, .inl (OwnM.sGet [2] 50))],
  [(50, .inl (OwnM.sLod 3 0 51)), (51, .inl (OwnM.sGet [1] 54)), (54, .inl (OwnM.sCst (.iconst 0) (.int (Int32.ofInt 0)) 55)), (55, .inl (OwnM.sAld OwnM.isI 56)), (56, .inl (OwnM.sCst (.iconst 0) (.int (Int32.ofInt 0)) 57)), (57, .inl (OwnM.sAst .int 58)), (58, .inl (OwnM.sLod 3 0 59)), (59, .inl (OwnM.sCst (.iconst 0) (.int (Int32.ofInt 0)) 60)), (60, .inr (.inl (3, OwnM.cVirt 2 [0, 8]))), (63, .inl (OwnM.sLod 1 1 64))],
  [(64, .inr (.inr (.inl (OwnM.rT .int))))]]
def f8 : OwnM.FM := [[(0, .inl (OwnM.sLod 3 0 1)), (1, .inl (OwnM.sGet [1] 4)), (4, .inl (OwnM.sLod 1 1 5)), (5, .inl (OwnM.sAld OwnM.isI 6)), (6, .inl (OwnM.sSto 1 2 7)), (7, .inl (OwnM.sCst (.iconst 2) (.int (Int32.ofInt 2)) 8)), (8, .inl (OwnM.sLod 1 1 9)), (9, .inl (OwnM.sOp2 (.imul) 10)), (10, .inl (OwnM.sCst (.iconst 1) (.int (Int32.ofInt 1)) 11)), (11, .inl (OwnM.sOp2 (.iadd) 12)), (12, .inl (OwnM.sSto 1 3 13)), (13, .inl (OwnM.sLod 1 3 14)), (14, .inl (OwnM.sLod 3 0 15)), (15, .inl (OwnM.sGet [3] 18))],
  [(18, .inl (OwnM.sIf2 (.if_icmp .lt 6) [24] 21)), (21, .inl (OwnM.sGo [91])), (24, .inl (OwnM.sLod 1 3 25)), (25, .inl (OwnM.sCst (.iconst 1) (.int (Int32.ofInt 1)) 26)), (26, .inl (OwnM.sOp2 (.iadd) 27)), (27, .inl (OwnM.sLod 3 0 28)), (28, .inl (OwnM.sGet [3] 31)), (31, .inl (OwnM.sIf2 (.if_icmp .ge 27) [58] 34))],
  [(34, .inl (OwnM.sLod 3 0 35)), (35, .inl (OwnM.sLod 3 0 36)), (36, .inl (OwnM.sGet [1] 39)), (39, .inl (OwnM.sLod 1 3 40)), (40, .inl (OwnM.sCst (.iconst 1) (.int (Int32.ofInt 1)) 41)), (41, .inl (OwnM.sOp2 (.iadd) 42)), (42, .inl (OwnM.sAld OwnM.isI 43)), (43, .inl (OwnM.sLod 3 0 44)), (44, .inl (OwnM.sGet [1] 47)), (47, .inl (OwnM.sLod 1 3 48))],
  [(48, .inl (OwnM.sAld OwnM.isI 49)), (49, .inr (.inl (3, OwnM.cVirt 3 [0, 6]))), (52, .inl (OwnM.sIf1 (.ifCond .eq 6) [58] 55)), (55, .inl (OwnM.sInc 3 1 58)), (58, .inl (OwnM.sLod 3 0 59)), (59, .inl (OwnM.sLod 3 0 60)), (60, .inl (OwnM.sGet [1] 63)), (63, .inl (OwnM.sLod 1 3 64))],
  [(64, .inl (OwnM.sAld OwnM.isI 65)), (65, .inl (OwnM.sLod 1 2 66)), (66, .inr (.inl (3, OwnM.cVirt 3 [0, 6]))), (69, .inl (OwnM.sIf1 (.ifCond .ne 6) [75] 72)), (72, .inl (OwnM.sGo [91])), (75, .inl (OwnM.sLod 3 0 76)), (76, .inl (OwnM.sLod 3 0 77)), (77, .inl (OwnM.sGet [1] 80))],
  [(80, .inl (OwnM.sLod 1 3 81)), (81, .inl (OwnM.sAld OwnM.isI 82)), (82, .inl (OwnM.sLod 1 1 83)), (83, .inr (.inl (3, OwnM.cVirt 3 [0, 5]))), (86, .inl (OwnM.sLod 1 3 87)), (87, .inl (OwnM.sSto 1 1 88)), (88, .inl (OwnM.sGo [7])), (91, .inl (OwnM.sLod 3 0 92)), (92, .inl (OwnM.sLod 1 2 93)), (93, .inl (OwnM.sLod 1 1 94)), (94, .inr (.inl (3, OwnM.cVirt 3 [0, 5])))],
  [(97, .inr (.inr (.inl (OwnM.rVoid))))]]
def f9 : OwnM.FM := [[(0, .inl (OwnM.sLod 1 0 1)), (1, .inl (OwnM.sIf1 (.ifCond .lt 12) [13] 4)), (4, .inl (OwnM.sLod 1 0 5)), (5, .inl (OwnM.sLod 1 1 6)), (6, .inl (OwnM.sIf2 (.if_icmp .ge 7) [13] 9)), (9, .inl (OwnM.sCst (.iconst 1) (.int (Int32.ofInt 1)) 10)), (10, .inl (OwnM.sGo [14])), (13, .inl (OwnM.sCst (.iconst 0) (.int (Int32.ofInt 0)) 14)), (14, .inr (.inr (.inl (OwnM.rT .boolean))))]]
def f10 : OwnM.FM := [[(0, .inl (OwnM.sLod 3 0 1)), (1, .inl (OwnM.sLod 1 1 2)), (2, .inl (OwnM.sAld OwnM.isJ 3)), (3, .inl (OwnM.sLod 3 0 4)), (4, .inl (OwnM.sLod 1 2 5)), (5, .inl (OwnM.sAld OwnM.isJ 6)), (6, .inl (OwnM.sOp2 (.lcmp) 7)), (7, .inl (OwnM.sIf1 (.ifCond .lt 18) [25] 10)), (10, .inl (OwnM.sLod 3 0 11)), (11, .inl (OwnM.sLod 1 1 12)), (12, .inl (OwnM.sAld OwnM.isJ 13)), (13, .inl (OwnM.sLod 3 0 14)), (14, .inl (OwnM.sLod 1 2 15)), (15, .inl (OwnM.sAld OwnM.isJ 16))],
  [(16, .inl (OwnM.sOp2 (.lcmp) 17)), (17, .inl (OwnM.sIf1 (.ifCond .ne 12) [29] 20)), (20, .inl (OwnM.sLod 1 1 21)), (21, .inl (OwnM.sLod 1 2 22)), (22, .inl (OwnM.sIf2 (.if_icmp .ge 7) [29] 25)), (25, .inl (OwnM.sCst (.iconst 1) (.int (Int32.ofInt 1)) 26)), (26, .inl (OwnM.sGo [30])), (29, .inl (OwnM.sCst (.iconst 0) (.int (Int32.ofInt 0)) 30)), (30, .inr (.inr (.inl (OwnM.rT .boolean))))]]
def progF : List OwnM.FM := [f0, f1, f2, f3, f4, f5, f6, f7, f8, f9, f10]
def lawF : OwnM.FM := [[(0, .inl (OwnM.sLod 1 10 2)), (2, .inl (OwnM.sCst (.ldc 9) (.int (2147483647)) 4)), (4, .inl (OwnM.sOp2 (.iand) 5)), (5, .inl (OwnM.sCst (.iconst 5) (.int (Int32.ofInt 5)) 6)), (6, .inl (OwnM.sOp2 (.irem) 7)), (7, .inl (OwnM.sCst (.iconst 1) (.int (Int32.ofInt 1)) 8)), (8, .inl (OwnM.sOp2 (.iadd) 9)), (9, .inl (OwnM.sSto 1 11 11)), (11, .inl (OwnM.sLod 1 10 13)), (13, .inl (OwnM.sIf1 (.ifCond .ge 7) [20] 16))],
  [(16, .inl (OwnM.sCst (.iconst 1) (.int (Int32.ofInt 1)) 17)), (17, .inl (OwnM.sGo [21])), (20, .inl (OwnM.sCst (.iconst 0) (.int (Int32.ofInt 0)) 21)), (21, .inl (OwnM.sSto 1 12 23)), (23, .inl (OwnM.sCst (.iconst 5) (.int (Int32.ofInt 5)) 24)), (24, .inl (OwnM.sH prog (.newarray .long) [] 26)), (26, .inl (OwnM.sSto 3 13 28)), (28, .inl (OwnM.sLod 3 13 30)), (30, .inl (OwnM.sCst (.iconst 0) (.int (Int32.ofInt 0)) 31)), (31, .inl (OwnM.sLod 2 0 32))],
  [(32, .inl (OwnM.sLod 1 12 34)), (34, .inr (.inl (3, OwnM.cStat 2 0))), (37, .inl (OwnM.sAst .long 38)), (38, .inl (OwnM.sLod 3 13 40)), (40, .inl (OwnM.sCst (.iconst 1) (.int (Int32.ofInt 1)) 41)), (41, .inl (OwnM.sLod 2 2 42)), (42, .inl (OwnM.sLod 1 12 44)), (44, .inr (.inl (3, OwnM.cStat 2 0))), (47, .inl (OwnM.sAst .long 48))],
  [(48, .inl (OwnM.sLod 3 13 50)), (50, .inl (OwnM.sCst (.iconst 2) (.int (Int32.ofInt 2)) 51)), (51, .inl (OwnM.sLod 2 4 53)), (53, .inl (OwnM.sLod 1 12 55)), (55, .inr (.inl (3, OwnM.cStat 2 0))), (58, .inl (OwnM.sAst .long 59)), (59, .inl (OwnM.sLod 3 13 61)), (61, .inl (OwnM.sCst (.iconst 3) (.int (Int32.ofInt 3)) 62)), (62, .inl (OwnM.sLod 2 6 64))],
  [(64, .inl (OwnM.sLod 1 12 66)), (66, .inr (.inl (3, OwnM.cStat 2 0))), (69, .inl (OwnM.sAst .long 70)), (70, .inl (OwnM.sLod 3 13 72)), (72, .inl (OwnM.sCst (.iconst 4) (.int (Int32.ofInt 4)) 73)), (73, .inl (OwnM.sLod 2 8 75)), (75, .inl (OwnM.sLod 1 12 77)), (77, .inr (.inl (3, OwnM.cStat 2 0)))],
  [(80, .inl (OwnM.sAst .long 81)), (81, .inl (OwnM.sH prog (.new 16) [0] 84)), (84, .inl (OwnM.sDup 85)), (85, .inl (OwnM.sLod 3 13 87)), (87, .inr (.inl (3, OwnM.cSpec 2 1))), (90, .inl (OwnM.sSto 3 14 92)), (92, .inl (OwnM.sLod 3 14 94)), (94, .inl (OwnM.sCst (.iconst 0) (.int (Int32.ofInt 0)) 95)), (95, .inr (.inl (3, OwnM.cVirt 2 [0, 3])))],
  [(98, .inl (OwnM.sLod 1 11 100)), (100, .inl (OwnM.sCst (.iconst 1) (.int (Int32.ofInt 1)) 101)), (101, .inl (OwnM.sIf2 (.if_icmp .le 9) [110] 104)), (104, .inl (OwnM.sLod 3 14 106)), (106, .inl (OwnM.sCst (.iconst 1) (.int (Int32.ofInt 1)) 107)), (107, .inr (.inl (3, OwnM.cVirt 2 [0, 3]))), (110, .inl (OwnM.sLod 1 11 112))],
  [(112, .inl (OwnM.sCst (.iconst 2) (.int (Int32.ofInt 2)) 113)), (113, .inl (OwnM.sIf2 (.if_icmp .le 9) [122] 116)), (116, .inl (OwnM.sLod 3 14 118)), (118, .inl (OwnM.sCst (.iconst 2) (.int (Int32.ofInt 2)) 119)), (119, .inr (.inl (3, OwnM.cVirt 2 [0, 3]))), (122, .inl (OwnM.sLod 1 11 124)), (124, .inl (OwnM.sCst (.iconst 3) (.int (Int32.ofInt 3)) 125)), (125, .inl (OwnM.sIf2 (.if_icmp .le 9) [134] 128))],
  [(128, .inl (OwnM.sLod 3 14 130)), (130, .inl (OwnM.sCst (.iconst 3) (.int (Int32.ofInt 3)) 131)), (131, .inr (.inl (3, OwnM.cVirt 2 [0, 3]))), (134, .inl (OwnM.sLod 1 11 136)), (136, .inl (OwnM.sCst (.iconst 4) (.int (Int32.ofInt 4)) 137)), (137, .inl (OwnM.sIf2 (.if_icmp .le 9) [146] 140)), (140, .inl (OwnM.sLod 3 14 142)), (142, .inl (OwnM.sCst (.iconst 4) (.int (Int32.ofInt 4)) 143)), (143, .inr (.inl (3, OwnM.cVirt 2 [0, 3])))],
  [(146, .inl (OwnM.sLod 3 14 148)), (148, .inr (.inl (3, OwnM.cVirt 1 [0, 7]))), (151, .inl (OwnM.sSto 1 15 153)), (153, .inl (OwnM.sLod 1 11 155)), (155, .inl (OwnM.sCst (.iconst 1) (.int (Int32.ofInt 1)) 156)), (156, .inl (OwnM.sIf2 (.if_icmp .le 11) [167] 159)), (159, .inl (OwnM.sLod 3 14 161))],
  [(161, .inr (.inl (3, OwnM.cVirt 1 [0, 7]))), (164, .inl (OwnM.sGo [168])), (167, .inl (OwnM.sCst (.iconst (-1)) (.int (Int32.ofInt (-1))) 168)), (168, .inl (OwnM.sSto 1 16 170)), (170, .inl (OwnM.sLod 1 11 172)), (172, .inl (OwnM.sCst (.iconst 2) (.int (Int32.ofInt 2)) 173)), (173, .inl (OwnM.sIf2 (.if_icmp .le 11) [184] 176))],
  [(176, .inl (OwnM.sLod 3 14 178)), (178, .inr (.inl (3, OwnM.cVirt 1 [0, 7]))), (181, .inl (OwnM.sGo [185])), (184, .inl (OwnM.sCst (.iconst (-1)) (.int (Int32.ofInt (-1))) 185)), (185, .inl (OwnM.sSto 1 17 187)), (187, .inl (OwnM.sLod 1 11 189)), (189, .inl (OwnM.sCst (.iconst 3) (.int (Int32.ofInt 3)) 190)), (190, .inl (OwnM.sIf2 (.if_icmp .le 11) [201] 193))],
  [(193, .inl (OwnM.sLod 3 14 195)), (195, .inr (.inl (3, OwnM.cVirt 1 [0, 7]))), (198, .inl (OwnM.sGo [202])), (201, .inl (OwnM.sCst (.iconst (-1)) (.int (Int32.ofInt (-1))) 202)), (202, .inl (OwnM.sSto 1 18 204)), (204, .inl (OwnM.sLod 1 11 206)), (206, .inl (OwnM.sCst (.iconst 4) (.int (Int32.ofInt 4)) 207)), (207, .inl (OwnM.sIf2 (.if_icmp .le 11) [218] 210))],
  [(210, .inl (OwnM.sLod 3 14 212)), (212, .inr (.inl (3, OwnM.cVirt 1 [0, 7]))), (215, .inl (OwnM.sGo [219])), (218, .inl (OwnM.sCst (.iconst (-1)) (.int (Int32.ofInt (-1))) 219)), (219, .inl (OwnM.sSto 1 19 221)), (221, .inl (OwnM.sLod 1 15 223)), (223, .inl (OwnM.sLod 1 11 225))],
  [(225, .inr (.inl (3, OwnM.cStat 2 9))), (228, .inl (OwnM.sSto 1 20 230)), (230, .inl (OwnM.sLod 1 11 232)), (232, .inl (OwnM.sCst (.iconst 1) (.int (Int32.ofInt 1)) 233)), (233, .inl (OwnM.sIf2 (.if_icmp .le 37) [270] 236)), (236, .inl (OwnM.sLod 1 20 238)), (238, .inl (OwnM.sIf1 (.ifCond .eq 29) [267] 241))],
  [(241, .inl (OwnM.sLod 1 16 243)), (243, .inl (OwnM.sLod 1 11 245)), (245, .inr (.inl (3, OwnM.cStat 2 9))), (248, .inl (OwnM.sIf1 (.ifCond .eq 19) [267] 251)), (251, .inl (OwnM.sLod 3 13 253)), (253, .inl (OwnM.sLod 1 15 255)), (255, .inl (OwnM.sLod 1 16 257))],
  [(257, .inr (.inl (3, OwnM.cStat 3 10))), (260, .inl (OwnM.sIf1 (.ifCond .eq 7) [267] 263)), (263, .inl (OwnM.sCst (.iconst 1) (.int (Int32.ofInt 1)) 264)), (264, .inl (OwnM.sGo [268])), (267, .inl (OwnM.sCst (.iconst 0) (.int (Int32.ofInt 0)) 268)), (268, .inl (OwnM.sSto 1 20 270)), (270, .inl (OwnM.sLod 1 11 272))],
  [(272, .inl (OwnM.sCst (.iconst 2) (.int (Int32.ofInt 2)) 273)), (273, .inl (OwnM.sIf2 (.if_icmp .le 37) [310] 276)), (276, .inl (OwnM.sLod 1 20 278)), (278, .inl (OwnM.sIf1 (.ifCond .eq 29) [307] 281)), (281, .inl (OwnM.sLod 1 17 283)), (283, .inl (OwnM.sLod 1 11 285)), (285, .inr (.inl (3, OwnM.cStat 2 9)))],
  [(288, .inl (OwnM.sIf1 (.ifCond .eq 19) [307] 291)), (291, .inl (OwnM.sLod 3 13 293)), (293, .inl (OwnM.sLod 1 16 295)), (295, .inl (OwnM.sLod 1 17 297)), (297, .inr (.inl (3, OwnM.cStat 3 10))), (300, .inl (OwnM.sIf1 (.ifCond .eq 7) [307] 303)), (303, .inl (OwnM.sCst (.iconst 1) (.int (Int32.ofInt 1)) 304))],
  [(304, .inl (OwnM.sGo [308])), (307, .inl (OwnM.sCst (.iconst 0) (.int (Int32.ofInt 0)) 308)), (308, .inl (OwnM.sSto 1 20 310)), (310, .inl (OwnM.sLod 1 11 312)), (312, .inl (OwnM.sCst (.iconst 3) (.int (Int32.ofInt 3)) 313)), (313, .inl (OwnM.sIf2 (.if_icmp .le 37) [350] 316)), (316, .inl (OwnM.sLod 1 20 318)), (318, .inl (OwnM.sIf1 (.ifCond .eq 29) [347] 321))],
  [(321, .inl (OwnM.sLod 1 18 323)), (323, .inl (OwnM.sLod 1 11 325)), (325, .inr (.inl (3, OwnM.cStat 2 9))), (328, .inl (OwnM.sIf1 (.ifCond .eq 19) [347] 331)), (331, .inl (OwnM.sLod 3 13 333)), (333, .inl (OwnM.sLod 1 17 335)), (335, .inl (OwnM.sLod 1 18 337))],
  [(337, .inr (.inl (3, OwnM.cStat 3 10))), (340, .inl (OwnM.sIf1 (.ifCond .eq 7) [347] 343)), (343, .inl (OwnM.sCst (.iconst 1) (.int (Int32.ofInt 1)) 344)), (344, .inl (OwnM.sGo [348])), (347, .inl (OwnM.sCst (.iconst 0) (.int (Int32.ofInt 0)) 348)), (348, .inl (OwnM.sSto 1 20 350)), (350, .inl (OwnM.sLod 1 11 352))],
  [(352, .inl (OwnM.sCst (.iconst 4) (.int (Int32.ofInt 4)) 353)), (353, .inl (OwnM.sIf2 (.if_icmp .le 37) [390] 356)), (356, .inl (OwnM.sLod 1 20 358)), (358, .inl (OwnM.sIf1 (.ifCond .eq 29) [387] 361)), (361, .inl (OwnM.sLod 1 19 363)), (363, .inl (OwnM.sLod 1 11 365)), (365, .inr (.inl (3, OwnM.cStat 2 9)))],
  [(368, .inl (OwnM.sIf1 (.ifCond .eq 19) [387] 371)), (371, .inl (OwnM.sLod 3 13 373)), (373, .inl (OwnM.sLod 1 18 375)), (375, .inl (OwnM.sLod 1 19 377)), (377, .inr (.inl (3, OwnM.cStat 3 10))), (380, .inl (OwnM.sIf1 (.ifCond .eq 7) [387] 383)), (383, .inl (OwnM.sCst (.iconst 1) (.int (Int32.ofInt 1)) 384))],
  [(384, .inl (OwnM.sGo [388])), (387, .inl (OwnM.sCst (.iconst 0) (.int (Int32.ofInt 0)) 388)), (388, .inl (OwnM.sSto 1 20 390)), (390, .inl (OwnM.sLod 1 20 392)), (392, .inr (.inr (.inl (OwnM.rT .boolean))))]]
set_option maxRecDepth 65536 in
theorem progFOk : progF = prog.M.map (fun m => OwnM.rdy prog m) := by rfl
set_option maxRecDepth 65536 in
theorem lawFOk : lawF = OwnM.rdy prog lawM := by rfl
set_option maxRecDepth 65536 in
theorem progOk : OwnM.okP tables_1 prog = true := by decide +kernel
set_option maxRecDepth 65536 in
theorem lawOk : OwnM.okM tables_1 prog lawM code = true := by decide +kernel
/-- the i-th key behind `key`: by its rank, or by a tag of its own -/
def argT (p : Nat) (v : List Nat) (i : Nat) : Int64 := if i < p + 1 then OwnM.tagL (v.getD i 0) else OwnM.tagL (p + 1 + (5 + i))
def lsT (p : Nat) : List Slot := [.val (.long (OwnM.tagL (p + 1 + 0))), .second, .val (.long (OwnM.tagL (p + 1 + 1))), .second, .val (.long (OwnM.tagL (p + 1 + 2))), .second, .val (.long (OwnM.tagL (p + 1 + 3))), .second, .val (.long (OwnM.tagL (p + 1 + 4))), .second, .val (.int (OwnM.tagI 0)), .val (.int (Int32.ofNat (p + 1))), .val (.int (OwnM.tagI 1)), .val (.ref 0), .unset, .unset, .unset, .unset, .unset, .unset, .unset]
def hpT (p : Nat) (v : List Nat) : List OwnM.Obj := [.inr (.long, [.long (argT p v 0), .long (argT p v 1), .long (argT p v 2), .long (argT p v 3), .long (argT p v 4)])]
def okAt81 (A : OwnM.Alg) (ls : List Slot) (mh : List OwnM.Obj) : Bool := match OwnM.execF prog progF (OwnM.strict A) 4000 6 144 lawM lawF 81 ls.toArray [] mh with
  | some (some (.int r), mh') => decide (r = 1) && Nat.ble mh'.length 16 && Nat.ble (OwnM.osl prog mh') 128
  | _ => false
def run (p : Nat) (v : List Nat) : Bool := okAt81 (OwnM.shA [] (v.map OwnM.tagL) []) (lsT p) (hpT p v)
def part (p : Nat) : Bool := (OwnM.vecs (p + 1) (p + 1)).all (fun v => !OwnM.canon v || run p v)
/-- five keys: by the first two ranks -/
def part5 (r u : Nat) : Bool := (OwnM.vecs 3 5).all (fun v => !OwnM.canon (r :: u :: v) || run 4 (r :: u :: v))
set_option maxRecDepth 65536 in
theorem part_0 : part 0 = true := by decide +kernel
set_option maxRecDepth 65536 in
theorem part_1 : part 1 = true := by decide +kernel
set_option maxRecDepth 65536 in
theorem part_2 : part 2 = true := by decide +kernel
set_option maxRecDepth 65536 in
theorem part_3 : part 3 = true := by decide +kernel
set_option maxRecDepth 65536 in
theorem part5_0_0 : part5 0 0 = true := by decide +kernel
set_option maxRecDepth 65536 in
theorem part5_0_1 : part5 0 1 = true := by decide +kernel
set_option maxRecDepth 65536 in
theorem part5_0_2 : part5 0 2 = true := by decide +kernel
set_option maxRecDepth 65536 in
theorem part5_0_3 : part5 0 3 = true := by decide +kernel
set_option maxRecDepth 65536 in
theorem part5_0_4 : part5 0 4 = true := by decide +kernel
set_option maxRecDepth 65536 in
theorem part5_1_0 : part5 1 0 = true := by decide +kernel
set_option maxRecDepth 65536 in
theorem part5_1_1 : part5 1 1 = true := by decide +kernel
set_option maxRecDepth 65536 in
theorem part5_1_2 : part5 1 2 = true := by decide +kernel
set_option maxRecDepth 65536 in
theorem part5_1_3 : part5 1 3 = true := by decide +kernel
set_option maxRecDepth 65536 in
theorem part5_1_4 : part5 1 4 = true := by decide +kernel
set_option maxRecDepth 65536 in
theorem part5_2_0 : part5 2 0 = true := by decide +kernel
set_option maxRecDepth 65536 in
theorem part5_2_1 : part5 2 1 = true := by decide +kernel
set_option maxRecDepth 65536 in
theorem part5_2_2 : part5 2 2 = true := by decide +kernel
set_option maxRecDepth 65536 in
theorem part5_2_3 : part5 2 3 = true := by decide +kernel
set_option maxRecDepth 65536 in
theorem part5_2_4 : part5 2 4 = true := by decide +kernel
set_option maxRecDepth 65536 in
theorem part5_3_0 : part5 3 0 = true := by decide +kernel
set_option maxRecDepth 65536 in
theorem part5_3_1 : part5 3 1 = true := by decide +kernel
set_option maxRecDepth 65536 in
theorem part5_3_2 : part5 3 2 = true := by decide +kernel
set_option maxRecDepth 65536 in
theorem part5_3_3 : part5 3 3 = true := by decide +kernel
set_option maxRecDepth 65536 in
theorem part5_3_4 : part5 3 4 = true := by decide +kernel
set_option maxRecDepth 65536 in
theorem part5_4_0 : part5 4 0 = true := by decide +kernel
set_option maxRecDepth 65536 in
theorem part5_4_1 : part5 4 1 = true := by decide +kernel
set_option maxRecDepth 65536 in
theorem part5_4_2 : part5 4 2 = true := by decide +kernel
set_option maxRecDepth 65536 in
theorem part5_4_3 : part5 4 3 = true := by decide +kernel
set_option maxRecDepth 65536 in
theorem part5_4_4 : part5 4 4 = true := by decide +kernel
theorem part_4 : part 4 = true := by
  simp only [part, List.all_eq_true]
  intro v hv
  simp only [OwnM.vecs, List.mem_flatMap, List.mem_map, List.mem_range] at hv
  obtain ⟨w, ⟨w', hw, u, hu, rfl⟩, r, hr, rfl⟩ := hv
  have q : part5 r u = true := by
    rcases (by omega : r = 0 ∨ r = 1 ∨ r = 2 ∨ r = 3 ∨ r = 4) with rfl | rfl | rfl | rfl | rfl <;> rcases (by omega : u = 0 ∨ u = 1 ∨ u = 2 ∨ u = 3 ∨ u = 4) with rfl | rfl | rfl | rfl | rfl
    · exact part5_0_0
    · exact part5_0_1
    · exact part5_0_2
    · exact part5_0_3
    · exact part5_0_4
    · exact part5_1_0
    · exact part5_1_1
    · exact part5_1_2
    · exact part5_1_3
    · exact part5_1_4
    · exact part5_2_0
    · exact part5_2_1
    · exact part5_2_2
    · exact part5_2_3
    · exact part5_2_4
    · exact part5_3_0
    · exact part5_3_1
    · exact part5_3_2
    · exact part5_3_3
    · exact part5_3_4
    · exact part5_4_0
    · exact part5_4_1
    · exact part5_4_2
    · exact part5_4_3
    · exact part5_4_4
  refine List.all_eq_true.mp q w' ?_
  simp only [OwnM.vecs, List.mem_flatMap, List.mem_map, List.mem_range]
  exact hw
theorem check (p : Nat) (hp : p < 5) : part p = true := by
  rcases (by omega : p = 0 ∨ p = 1 ∨ p = 2 ∨ p = 3 ∨ p = 4) with rfl | rfl | rfl | rfl | rfl
  · exact part_0
  · exact part_1
  · exact part_2
  · exact part_3
  · exact part_4
def EndQ : Option Value → List OwnM.Obj → Prop := fun v mh1 => v = some (.int 1) ∧ mh1.length ≤ 16 ∧ OwnM.osl prog mh1 ≤ 128
theorem tail_ev {A : OwnM.Alg} {f : Value → Value} (H : OwnM.Hom A f) {ls : List Slot} {mh : List OwnM.Obj} (h : okAt81 A ls mh = true) : OwnM.Ev prog 6 144 lawM 81 (ls.map (OwnM.mS f)).toArray [] (mh.map (OwnM.fO f)) EndQ := by
  simp only [okAt81, lawFOk, OwnM.strict_eq] at h
  split at h
  · rename_i r mh' e
    simp only [Bool.and_eq_true, decide_eq_true_eq] at h
    obtain ⟨⟨rfl, h2⟩, h3⟩ := h
    have q := H.exec (OwnM.execF_ok progFOk e)
    rw [List.map_toArray] at q
    refine ⟨4000, _, _, q, by rw [Option.map_some, H.one], by rw [List.length_map]; exact Nat.le_of_ble_eq_true h2, by rw [OwnM.osl_map]; exact Nat.le_of_ble_eq_true h3⟩
  · cases h
theorem key0 {F Lc : Nat} {mh : List OwnM.Obj} {Q : Option Value → List OwnM.Obj → Prop} {k : Int64} (q : Q (some (.long k)) mh) : OwnM.Ev prog F Lc m0 0 (OwnM.entryL [.long k, .int 0] 3) [] mh Q := by
  refine OwnM.Ev.ps 3 (pc' := 13) (st' := [.long k]) rfl ?_
  exact OwnM.Ev.r (m := m0) (pc := 13) rfl rfl rfl q
theorem key1 {F Lc : Nat} {mh : List OwnM.Obj} {Q : Option Value → List OwnM.Obj → Prop} {k : Int64} (q : Q (some (.long (k &&& 3))) mh) : OwnM.Ev prog F Lc m0 0 (OwnM.entryL [.long k, .int 1] 3) [] mh Q := by
  refine OwnM.Ev.ps 6 (pc' := 13) (st' := [.long (k &&& 3)]) rfl ?_
  exact OwnM.Ev.r (m := m0) (pc := 13) rfl rfl rfl q
/-- ties, the key behind `key` -/
def tyI (t : Nat) : Int32 := if t = 0 then 0 else 1
def kyL (t : Nat) (k : Int64) : Int64 := if t = 0 then k else k &&& 3
theorem keyT {F Lc t : Nat} {mh : List OwnM.Obj} {Q : Option Value → List OwnM.Obj → Prop} {k : Int64} (q : Q (some (.long (kyL t k))) mh) : OwnM.Ev prog F Lc m0 0 (OwnM.entryL [.long k, .int (tyI t)] 3) [] mh Q := by
  by_cases h : t = 0
  · simp only [tyI, kyL, if_pos h] at q ⊢; exact key0 q
  · simp only [tyI, kyL, if_neg h] at q ⊢; exact key1 q
theorem hold_ge {c : Int32} (h : 0 ≤ c.toInt) : ifCond.holds .ge c = true := by
  rw [OwnM.holds_zero]
  have : (0 : Int32) ≤ c := Int32.le_iff_toInt_le.mpr (by simpa using h)
  simpa [if_icmp.holds] using this
theorem hold_lt {c : Int32} (h : c.toInt < 0) : ifCond.holds .ge c = false := by
  rw [OwnM.holds_zero]
  have : c < (0 : Int32) := Int32.lt_iff_toInt_lt.mpr (by simpa using h)
  simpa [if_icmp.holds] using this
section Walk
variable {k0 k1 k2 k3 k4 : Int64} {c : Int32} {n : Nat} {t : Nat}
def L0 (k0 k1 k2 k3 k4 : Int64) (c n : Int32) : List Slot := [.val (.long k0), .second, .val (.long k1), .second, .val (.long k2), .second, .val (.long k3), .second, .val (.long k4), .second, .val (.int c), .val (.int n), .unset, .unset, .unset, .unset, .unset, .unset, .unset, .unset, .unset]
def L1 (k0 k1 k2 k3 k4 : Int64) (c n ti : Int32) : List Slot := [.val (.long k0), .second, .val (.long k1), .second, .val (.long k2), .second, .val (.long k3), .second, .val (.long k4), .second, .val (.int c), .val (.int n), .val (.int ti), .unset, .unset, .unset, .unset, .unset, .unset, .unset, .unset]
def L2 (k0 k1 k2 k3 k4 : Int64) (c n ti : Int32) : List Slot := [.val (.long k0), .second, .val (.long k1), .second, .val (.long k2), .second, .val (.long k3), .second, .val (.long k4), .second, .val (.int c), .val (.int n), .val (.int ti), .val (.ref 0), .unset, .unset, .unset, .unset, .unset, .unset, .unset]
def arr (a b d e f : Int64) : List OwnM.Obj := [.inr (.long, [.long a, .long b, .long d, .long e, .long f])]
theorem lay_ev {m : Int32} {Q : Option Value → List OwnM.Obj → Prop} (K : OwnM.Ev prog 6 144 lawM 81 (L2 k0 k1 k2 k3 k4 c m (tyI t)).toArray [] (arr (kyL t k0) (kyL t k1) (kyL t k2) (kyL t k3) (kyL t k4)) Q) : OwnM.Ev prog 6 144 lawM 23 (L1 k0 k1 k2 k3 k4 c m (tyI t)).toArray [] [] Q := by
  refine OwnM.Ev.ps 1 (pc' := 24) (ls' := (L1 k0 k1 k2 k3 k4 c m (tyI t)).toArray) (st' := [.int 5]) rfl ?_
  refine OwnM.Ev.h (m := lawM) (pc := 24) rfl rfl (st' := [.ref 0]) (mh1 := arr 0 0 0 0 0) rfl ?_
  refine OwnM.Ev.ps (m := lawM) (pc := 26) 5 (pc' := 34) (ls' := (L2 k0 k1 k2 k3 k4 c m (tyI t)).toArray) (st' := [.int (tyI t), .long k0, .int 0, .ref 0]) rfl ?_
  refine OwnM.Ev.c (m := lawM) (pc := 34) (k := 0) (na := 2) (m' := m0) rfl rfl rfl rfl (by decide) (show 2 + (3 + 11) ≤ 144 by decide) (by simp) rfl ?_
  refine keyT ?_
  refine OwnM.Ev.h (m := lawM) (pc := 37) rfl rfl (st' := []) (mh1 := arr (kyL t k0) 0 0 0 0) rfl ?_
  refine OwnM.Ev.ps (m := lawM) (pc := 38) 4 (pc' := 44) (ls' := (L2 k0 k1 k2 k3 k4 c m (tyI t)).toArray) (st' := [.int (tyI t), .long k1, .int 1, .ref 0]) rfl ?_
  refine OwnM.Ev.c (m := lawM) (pc := 44) (k := 0) (na := 2) (m' := m0) rfl rfl rfl rfl (by decide) (show 2 + (3 + 11) ≤ 144 by decide) (by simp) rfl ?_
  refine keyT ?_
  refine OwnM.Ev.h (m := lawM) (pc := 47) rfl rfl (st' := []) (mh1 := arr (kyL t k0) (kyL t k1) 0 0 0) rfl ?_
  refine OwnM.Ev.ps (m := lawM) (pc := 48) 4 (pc' := 55) (ls' := (L2 k0 k1 k2 k3 k4 c m (tyI t)).toArray) (st' := [.int (tyI t), .long k2, .int 2, .ref 0]) rfl ?_
  refine OwnM.Ev.c (m := lawM) (pc := 55) (k := 0) (na := 2) (m' := m0) rfl rfl rfl rfl (by decide) (show 2 + (3 + 11) ≤ 144 by decide) (by simp) rfl ?_
  refine keyT ?_
  refine OwnM.Ev.h (m := lawM) (pc := 58) rfl rfl (st' := []) (mh1 := arr (kyL t k0) (kyL t k1) (kyL t k2) 0 0) rfl ?_
  refine OwnM.Ev.ps (m := lawM) (pc := 59) 4 (pc' := 66) (ls' := (L2 k0 k1 k2 k3 k4 c m (tyI t)).toArray) (st' := [.int (tyI t), .long k3, .int 3, .ref 0]) rfl ?_
  refine OwnM.Ev.c (m := lawM) (pc := 66) (k := 0) (na := 2) (m' := m0) rfl rfl rfl rfl (by decide) (show 2 + (3 + 11) ≤ 144 by decide) (by simp) rfl ?_
  refine keyT ?_
  refine OwnM.Ev.h (m := lawM) (pc := 69) rfl rfl (st' := []) (mh1 := arr (kyL t k0) (kyL t k1) (kyL t k2) (kyL t k3) 0) rfl ?_
  refine OwnM.Ev.ps (m := lawM) (pc := 70) 4 (pc' := 77) (ls' := (L2 k0 k1 k2 k3 k4 c m (tyI t)).toArray) (st' := [.int (tyI t), .long k4, .int 4, .ref 0]) rfl ?_
  refine OwnM.Ev.c (m := lawM) (pc := 77) (k := 0) (na := 2) (m' := m0) rfl rfl rfl rfl (by decide) (show 2 + (3 + 11) ≤ 144 by decide) (by simp) rfl ?_
  refine keyT ?_
  refine OwnM.Ev.h (m := lawM) (pc := 80) rfl rfl (st' := []) (mh1 := arr (kyL t k0) (kyL t k1) (kyL t k2) (kyL t k3) (kyL t k4)) rfl ?_
  exact K
theorem head_ev {p : Nat} (ep : (c &&& 2147483647) % Int32.ofNat 5 = Int32.ofNat p) (hs : (t = 0 ∧ 0 ≤ c.toInt) ∨ (t = 1 ∧ c.toInt < 0)) {Q : Option Value → List OwnM.Obj → Prop} (K : OwnM.Ev prog 6 144 lawM 23 (L1 k0 k1 k2 k3 k4 c (Int32.ofNat (p + 1)) (tyI t)).toArray [] [] Q) :
    OwnM.Ev prog 6 144 lawM 0 (OwnM.entryL [.long k0, .long k1, .long k2, .long k3, .long k4, .int c] 21) [] [] Q := by
  refine OwnM.Ev.ps 9 (pc' := 13) (ls' := (L0 k0 k1 k2 k3 k4 c ((c &&& 2147483647) % Int32.ofNat 5 + 1)).toArray) (st' := [.int c]) rfl ?_
  have e1 : (c &&& 2147483647) % Int32.ofNat 5 + 1 = Int32.ofNat (p + 1) := by rw [ep, Int32.ofNat_add]; rfl
  rw [e1]
  rcases hs with ⟨rfl, h⟩ | ⟨rfl, h⟩
  · refine OwnM.Ev.p (m := lawM) (pc := 13) rfl rfl (pc' := 20) (ls' := (L0 k0 k1 k2 k3 k4 c (Int32.ofNat (p + 1))).toArray) (st' := []) ?_ ?_
    · show (match OwnM.br (some (ifCond.holds .ge c)) [20] 16 with | some t => some (t, (L0 k0 k1 k2 k3 k4 c (Int32.ofNat (p + 1))).toArray, []) | none => none) = _
      rw [hold_ge h]; rfl
    · exact OwnM.Ev.ps (m := lawM) (pc := 20) 2 (pc' := 23) (ls' := (L1 k0 k1 k2 k3 k4 c (Int32.ofNat (p + 1)) (tyI 0)).toArray) (st' := []) rfl K
  · refine OwnM.Ev.p (m := lawM) (pc := 13) rfl rfl (pc' := 16) (ls' := (L0 k0 k1 k2 k3 k4 c (Int32.ofNat (p + 1))).toArray) (st' := []) ?_ ?_
    · show (match OwnM.br (some (ifCond.holds .ge c)) [20] 16 with | some t => some (t, (L0 k0 k1 k2 k3 k4 c (Int32.ofNat (p + 1))).toArray, []) | none => none) = _
      rw [hold_lt h]; rfl
    · exact OwnM.Ev.ps (m := lawM) (pc := 16) 3 (pc' := 23) (ls' := (L1 k0 k1 k2 k3 k4 c (Int32.ofNat (p + 1)) (tyI 1)).toArray) (st' := []) rfl K
end Walk
theorem law_runs (k0 k1 k2 k3 k4 : Int64) (c : Int32) : OwnM.Runs prog room_1.frames room_1.locals room_1.cells room_1.slots lawM [.long k0, .long k1, .long k2, .long k3, .long k4, .int c] := by
  obtain ⟨p, hp, ep⟩ := OwnM.rem_nat c (k := 5) (by decide) (by decide)
  obtain ⟨t, ht, hs⟩ : ∃ t : Nat, t < 2 ∧ ((t = 0 ∧ 0 ≤ c.toInt) ∨ (t = 1 ∧ c.toInt < 0)) := by
    by_cases h : c.toInt < 0
    · exact ⟨1, by decide, Or.inr ⟨rfl, h⟩⟩
    · exact ⟨0, by decide, Or.inl ⟨rfl, by omega⟩⟩
  obtain ⟨k, hk⟩ : ∃ k : List Int64, k = [k0, k1, k2, k3, k4] := ⟨_, rfl⟩
  obtain ⟨K, hK⟩ : ∃ K : List Int64, K = k.map (kyL t) := ⟨_, rfl⟩
  obtain ⟨ks, hks⟩ : ∃ ks : List Int64, ks = K.take (p + 1) := ⟨_, rfl⟩
  obtain ⟨v, hv⟩ : ∃ v : List Nat, v = ks.map (OwnM.rk ks) := ⟨_, rfl⟩
  have lk : k.length = 5 := by rw [hk]; rfl
  have lK : K.length = 5 := by rw [hK, List.length_map, lk]
  have lks : ks.length = p + 1 := by rw [hks, List.length_take, lK]; omega
  have hl : ks.length ≤ 256 := by omega
  have lv : v.length = p + 1 := by rw [hv, List.length_map, lks]
  have gK : ∀ (i : Nat) (z : Int64), k[i]? = some z → K[i]? = some (kyL t z) := fun i z h => by rw [hK, List.getElem?_map, h]; rfl
  have lt5 : ∀ (i : Nat) (z : Int64), k[i]? = some z → i < 5 := fun i z h => by have := (List.getElem?_eq_some_iff.mp h).1; omega
  have eR : ∀ (i : Nat) (z : Int64), i < p + 1 → K[i]? = some z → OwnM.elOf (OwnM.byRank ks ++ (k ++ K)) (OwnM.tagL (v.getD i 0)) = z := by
    intro i z hi h
    have h1 : ks[i]? = some z := by rw [hks, List.getElem?_take, if_pos hi]; exact h
    have h2 : v.getD i 0 = OwnM.rk ks z := by rw [hv, List.getD_eq_getElem?_getD, List.getElem?_map, h1]; rfl
    rw [h2]
    exact OwnM.rt_val hl (List.mem_of_getElem? h1)
  have ek : ∀ (i : Nat) (z : Int64), k[i]? = some z → OwnM.elOf (OwnM.byRank ks ++ (k ++ K)) (OwnM.tagL (p + 1 + i)) = z := by
    intro i z h
    have := lt5 i z h
    have q := OwnM.ext_val (ks := ks) (ext := k ++ K) (j := i) (v := z) (by rw [List.getElem?_append_left (by omega)]; exact h) (by omega)
    rw [lks] at q; exact q
  have eA : ∀ (i : Nat) (z : Int64), k[i]? = some z → OwnM.elOf (OwnM.byRank ks ++ (k ++ K)) (argT p v i) = kyL t z := by
    intro i z h
    have g := gK i z h
    simp only [argT]
    split
    · rename_i q
      exact eR i _ q g
    · have := lt5 i z h
      have q := OwnM.ext_val (ks := ks) (ext := k ++ K) (j := 5 + i) (v := kyL t z) (by rw [List.getElem?_append_right (by omega), lk, Nat.add_sub_cancel_left]; exact g) (by omega)
      rw [lks] at q; exact q
  obtain ⟨E, hE⟩ : ∃ E : List Int32, E = [c, tyI t] := ⟨_, rfl⟩
  have t0 : OwnM.evOf E (OwnM.tagI 0) = c := OwnM.evOf_tag _ (by rw [hE]; rfl) (by decide)
  have t1 : OwnM.evOf E (OwnM.tagI 1) = tyI t := OwnM.evOf_tag _ (by rw [hE]; rfl) (by decide)
  have tn : ∀ n, n < 1000 → OwnM.evOf E (Int32.ofNat n) = Int32.ofNat n := fun n hn => OwnM.evOf_conc _ (OwnM.isTI_small n hn)
  have H : OwnM.Hom (OwnM.shA [] (v.map OwnM.tagL) []) (OwnM.fv (OwnM.evOf E) (OwnM.elOf (OwnM.byRank ks ++ (k ++ K)))) :=
    OwnM.homOf _ _ (fun _ h => nomatch h) (by rw [hv, ← OwnM.rt_tags]; exact OwnM.rt_ok hl) (fun _ h => nomatch h)
  have hvm : v ∈ OwnM.vecs (p + 1) (p + 1) := by
    refine OwnM.mem_vecs lv fun z hz => ?_
    rw [hv] at hz
    obtain ⟨y, hy, rfl⟩ := List.mem_map.mp hz
    have := OwnM.rk_bd hy
    omega
  have hc := List.all_eq_true.mp (check p hp) v hvm
  have hcan : OwnM.canon v = true := by rw [hv]; exact OwnM.canon_rk ks
  rw [hcan] at hc
  have q := tail_ev H (show okAt81 _ (lsT p) (hpT p v) = true from hc)
  have z0 : k[0]? = some k0 := by rw [hk]; rfl
  have z1 : k[1]? = some k1 := by rw [hk]; rfl
  have z2 : k[2]? = some k2 := by rw [hk]; rfl
  have z3 : k[3]? = some k3 := by rw [hk]; rfl
  have z4 : k[4]? = some k4 := by rw [hk]; rfl
  have e1 : (lsT p).map (OwnM.mS (OwnM.fv (OwnM.evOf E) (OwnM.elOf (OwnM.byRank ks ++ (k ++ K))))) = L2 k0 k1 k2 k3 k4 c (Int32.ofNat (p + 1)) (tyI t) := by
    simp only [lsT, L2, List.map_cons, List.map_nil, OwnM.mS, OwnM.fv, ek 0 _ z0, ek 1 _ z1, ek 2 _ z2, ek 3 _ z3, ek 4 _ z4, t0, t1, tn (p + 1) (by omega)]
  have e2 : (hpT p v).map (OwnM.fO (OwnM.fv (OwnM.evOf E) (OwnM.elOf (OwnM.byRank ks ++ (k ++ K))))) = arr (kyL t k0) (kyL t k1) (kyL t k2) (kyL t k3) (kyL t k4) := by
    simp only [hpT, arr, List.map_cons, List.map_nil, OwnM.fO, OwnM.fv, eA 0 _ z0, eA 1 _ z1, eA 2 _ z2, eA 3 _ z3, eA 4 _ z4]
  rw [e1, e2] at q
  obtain ⟨n, w, mh', e, rfl, h1, h2⟩ := head_ev ep hs (lay_ev q)
  exact ⟨n, mh', e, h1, h2⟩
set_option maxRecDepth 65536 in
set_option maxHeartbeats 40000000 in
theorem comes_1 {Post : Tables → Env → Array Value → State → Outcome → State → Prop} (hpost : ∀ tb e args s v u, (limb_1_1.after args s (.returned v) u = true ∧ limb_1_2.after args s (.returned v) u = true ∧ True) → FrameEnd s (.returned v) u (Jvm.fieldLocs frame_1_writes args s ++ Jvm.arrayLocs frame_1_arrays args s ++ Jvm.staticLocs frame_1_statics s) 16 128 → Post tb e args s (.returned v) u) :
    ArmFor flags0 classFile x code maxLocals ret World_1 tables_1 room_1 Calls_1 rest_1 Pre_1 Post := by
  intro l hfl _ _ p e ha hc hk s m args below hf hA hF happ hP
  obtain ⟨hcalls, hrest, hpre⟩ := hP
  obtain ⟨-, -, -, hnamed, -, -, -, hat⟩ := (Spec.applies_iff hf).mp happ
  obtain ⟨hg, hn⟩ := and_e (Cond.before_iff.mp (show (Jvm.Cond.and given_1 narrow_1).before args s = true from hpre))
  obtain ⟨gc, r0⟩ := and_e hg
  obtain ⟨g0, r1⟩ := and_e r0
  obtain ⟨g1, r2⟩ := and_e r1
  obtain ⟨g2, r3⟩ := and_e r2
  obtain ⟨g3, r4⟩ := and_e r3
  obtain ⟨g4, r5⟩ := and_e r4
  have g5 := r5
  obtain ⟨w0, w1, w2, w3, w4, w5, rfl⟩ : ∃ w0 w1 w2 w3 w4 w5 : Value, args = #[w0, w1, w2, w3, w4, w5] := by
    have hs : args.size = 6 := by simpa [Cond.value, given_1] using gc
    obtain ⟨L⟩ := args
    match L, hs with
    | [w0, w1, w2, w3, w4, w5], _ => exact ⟨w0, w1, w2, w3, w4, w5, rfl⟩
  have hw := fun d (hd : d ∈ tables_1) => atoms_spec (ws := Jvm.Cond.code x code maxLocals ret :: tables_1) hat d (List.mem_cons_of_mem _ hd)
  obtain ⟨i0, e0⟩ := isL_v g0
  obtain rfl : w0 = (.long i0) := Option.some.inj e0
  obtain ⟨i1, e1⟩ := isL_v g1
  obtain rfl : w1 = (.long i1) := Option.some.inj e1
  obtain ⟨i2, e2⟩ := isL_v g2
  obtain rfl : w2 = (.long i2) := Option.some.inj e2
  obtain ⟨i3, e3⟩ := isL_v g3
  obtain rfl : w3 = (.long i3) := Option.some.inj e3
  obtain ⟨i4, e4⟩ := isL_v g4
  obtain rfl : w4 = (.long i4) := Option.some.inj e4
  obtain ⟨i5, e5⟩ := is_v g5
  obtain rfl : w5 = (.int i5) := Option.some.inj e5
  obtain ⟨n, o, h1, h2, h3, _, L, rfl, ⟨rfl, N⟩, hq⟩ := OwnM.law_met (l := l) progOk hw lawOk (vs := [.long i0, .long i1, .long i2, .long i3, .long i4, .int i5]) rfl room_1 (law_runs i0 i1 i2 i3 i4 i5) tables_1 p e ha hc hk s m _ below hf ((Spec.applies_iff_loose hf).mp happ).1 ⟨rfl, State.Warmed39.refl s, rfl⟩ trivial
  refine ⟨n, _, h1, h2, h3, hpost _ _ _ _ _ _ ⟨Cond.after_iff.mpr rfl, Cond.after_iff.mpr (eq_i res_at (Term.int_eval (1)) rfl), trivial⟩ ⟨hq.1, hq.2.1, (hq.2.2.sift fun y hy => Or.inr (N y hy)).mono (by decide) (by decide)⟩⟩
theorem main_1_1 : Claimed_1_1 := comes_1 fun _ _ _ _ _ _ h hF => ⟨h.1, hF⟩
theorem main_1_2 : Claimed_1_2 := comes_1 fun _ _ _ _ _ _ h hF => ⟨h.2.1, hF⟩
end Jvm.Pilot.@@N@@
namespace Jvm.Pilot.@@N@@
open Jvm Jvm.ClassFile Sem Op Lib Jvm.Free Jvm.Stand Jvm.Pilot.@@N@@.Jvm.D
/-! MADE BY PROGRAM (witnessworld.py) out of the Statement's table words and the real class files: 12 classes; the members and pool entries that the words name. The judged class is class 1, her method 4. -/
namespace start1
open Jvm.ClassFile
def u (s : String) : CpInfo := .utf8 (stringToUtf16 s)
/-- a pool by its gaps: so many unusable entries, then the entry; so many at the end -/
def gap : Nat → List CpInfo → List CpInfo
  | 0, r => r
  | n + 1, r => .unusable :: gap n r
def poolList (es : List (Nat × CpInfo)) (last : Nat) : List CpInfo := es.foldr (fun e r => gap e.1 (e.2 :: r)) (gap last [])
def pool (es : List (Nat × CpInfo)) (last : Nat) : Array CpInfo := ⟨poolList es last⟩
def fileOf (pool : Array CpInfo) (this : Nat) (attrs : Array Attribute := #[]) (ms : Array MethodInfo := #[]) (fl : Nat := 33) (sup : Nat := 0) (ifs : Array Nat := #[]) (fds : Array FieldInfo := #[]) : ClassFile where
  minorVersion := 0
  majorVersion := 65
  constantPool := pool
  accessFlags := fl
  thisClass := this
  superClass := sup
  interfaces := ifs
  fields := fds
  methods := ms
  attributes := attrs
def plain (name : String) (sup : Option ClassId) : Class where
  name := name
  kind := .ordinary
  loader := none
  accessFlags := 33
  super := sup
  interfaces := #[]
  cf := none
  fields := #[]
  methods := #[]
  instanceTypes := #[]
  staticTypes := #[]
  resolved := #[]
  callSites := []
  init := .initialized
  statics := none
  mirror := none

def pool0 : Array CpInfo := pool [(5, u "<init>"), (0, u "()V"), (1, .class_ 10), (1, u "java/lang/Object")] 113

def k0c0 : Code := { maxStack := 0, maxLocals := 1, code := object_method_1_code, exceptionTable := #[], attributes := #[] }
def k0m0 : Method := { name := "<init>", desc := "()V", sig := { parameters := [], returnType := none }, accessFlags := 1, code := some k0c0 }
/-- java/lang/Object -/
def k0 : Class := { plain "java/lang/Object" none with
  accessFlags := 33
  interfaces := #[]
  cf := some (fileOf pool0 8 #[] #[{ accessFlags := 1, nameIndex := 5, descriptorIndex := 6, attributes := #[] }] 33 0 #[] #[])
  fields := #[]
  methods := #[k0m0]
  instanceTypes := #[]
  staticTypes := #[]
  resolved := Array.replicate 124 none
  statics := none }

def pool1 : Array CpInfo := pool [(2, .class_ 4), (1, u "java/lang/Object"), (0, u "<init>"), (0, u "()V"), (0, .long 3), (1, .integer 2147483647), (0, .methodref 11 12), (0, .class_ 13), (0, .nameAndType 14 15), (0, u "com/example/evenhand/evenhand/solver/NodeHeapPollPinLaw"), (0, u "key"), (0, u "(JZ)J"), (0, .class_ 17), (0, u "com/example/evenhand/evenhand/solver/NodeHeap"), (0, .methodref 16 19), (0, .nameAndType 5 20), (0, u "([J)V"), (0, .methodref 16 22), (0, .nameAndType 23 24), (0, u "offer"), (0, u "(I)V"), (0, .methodref 16 26), (0, .nameAndType 27 28), (0, u "poll"), (0, u "()I"), (0, .methodref 11 30), (0, .nameAndType 31 32), (0, u "in"), (0, u "(II)Z"), (0, .methodref 11 34), (0, .nameAndType 35 36), (0, u "before"), (0, u "([JII)Z"), (3, u "law"), (0, u "(JJJJJI)Z")] 4

def k1m0 : Method := { name := "<init>", desc := "()V", sig := { parameters := [], returnType := none }, accessFlags := 2, code := none }
def k1c1 : Code := { maxStack := 4, maxLocals := 3, code := method_2_code, exceptionTable := #[], attributes := #[] }
def k1m1 : Method := { name := "before", desc := "([JII)Z", sig := { parameters := [(.array .long), .int, .int], returnType := some .boolean }, accessFlags := 10, code := some k1c1 }
def k1c2 : Code := { maxStack := 2, maxLocals := 2, code := method_3_code, exceptionTable := #[], attributes := #[] }
def k1m2 : Method := { name := "in", desc := "(II)Z", sig := { parameters := [.int, .int], returnType := some .boolean }, accessFlags := 10, code := some k1c2 }
def k1c3 : Code := { maxStack := 4, maxLocals := 3, code := method_4_code, exceptionTable := #[], attributes := #[] }
def k1m3 : Method := { name := "key", desc := "(JZ)J", sig := { parameters := [.long, .boolean], returnType := some .long }, accessFlags := 10, code := some k1c3 }
def k1c4 : Code := { maxStack := 5, maxLocals := 21, code := code, exceptionTable := #[], attributes := #[] }
def k1m4 : Method := { name := "law", desc := "(JJJJJI)Z", sig := { parameters := [.long, .long, .long, .long, .long, .int], returnType := some .boolean }, accessFlags := 9, code := some k1c4 }
/-- com/example/evenhand/evenhand/solver/NodeHeapPollPinLaw -/
def k1 : Class := { plain "com/example/evenhand/evenhand/solver/NodeHeapPollPinLaw" (some 0) with
  accessFlags := 49
  interfaces := #[]
  cf := some (fileOf pool1 11 #[] #[{ accessFlags := 2, nameIndex := 5, descriptorIndex := 6, attributes := #[] }, { accessFlags := 10, nameIndex := 35, descriptorIndex := 36, attributes := #[] }, { accessFlags := 10, nameIndex := 31, descriptorIndex := 32, attributes := #[] }, { accessFlags := 10, nameIndex := 14, descriptorIndex := 15, attributes := #[] }, { accessFlags := 9, nameIndex := 40, descriptorIndex := 41, attributes := #[] }] 49 2 #[] #[])
  fields := #[]
  methods := #[k1m0, k1m1, k1m2, k1m3, k1m4]
  instanceTypes := #[]
  staticTypes := #[]
  resolved := Array.replicate 46 none
  statics := none }

def pool2 : Array CpInfo := pool [(1, .methodref 2 3), (0, .class_ 4), (0, .nameAndType 5 6), (0, u "java/lang/Object"), (0, u "<init>"), (0, u "()V"), (0, .fieldref 8 9), (0, .class_ 10), (0, .nameAndType 11 12), (0, u "com/example/evenhand/evenhand/solver/NodeHeap"), (0, u "keys"), (0, u "[J"), (0, .fieldref 8 14), (0, .nameAndType 15 16), (0, u "heap"), (0, u "[I"), (0, .fieldref 8 18), (0, .nameAndType 19 16), (0, u "position"), (0, .methodref 21 22), (0, .class_ 23), (0, .nameAndType 24 25), (0, u "java/util/Arrays"), (0, u "fill"), (0, u "([II)V"), (0, .fieldref 8 27), (0, .nameAndType 28 29), (0, u "size"), (0, u "I"), (0, .methodref 8 31), (0, .nameAndType 32 33), (0, u "siftUp"), (0, u "(I)V"), (0, .methodref 8 35), (0, .nameAndType 36 33), (0, u "siftDown"), (0, .methodref 8 38), (0, .nameAndType 39 40), (0, u "before"), (0, u "(II)Z"), (0, .methodref 8 42), (0, .nameAndType 43 44), (0, u "place"), (0, u "(II)V"), (0, u "([J)V"), (5, u "offer"), (1, u "()I"), (0, u "poll")] 3

def k2c0 : Code := { maxStack := 2, maxLocals := 2, code := prog_37_method_1_code, exceptionTable := #[], attributes := #[] }
def k2m0 : Method := { name := "<init>", desc := "([J)V", sig := { parameters := [(.array .long)], returnType := none }, accessFlags := 0, code := some k2c0 }
def k2c1 : Code := { maxStack := 4, maxLocals := 3, code := prog_37_method_3_code, exceptionTable := #[], attributes := #[] }
def k2m1 : Method := { name := "offer", desc := "(I)V", sig := { parameters := [.int], returnType := none }, accessFlags := 0, code := some k2c1 }
def k2c2 : Code := { maxStack := 4, maxLocals := 2, code := prog_37_method_5_code, exceptionTable := #[], attributes := #[] }
def k2m2 : Method := { name := "poll", desc := "()I", sig := { parameters := [], returnType := some .int }, accessFlags := 0, code := some k2c2 }
def k2c3 : Code := { maxStack := 4, maxLocals := 4, code := prog_37_method_7_code, exceptionTable := #[], attributes := #[] }
def k2m3 : Method := { name := "siftUp", desc := "(I)V", sig := { parameters := [.int], returnType := none }, accessFlags := 2, code := some k2c3 }
def k2c4 : Code := { maxStack := 4, maxLocals := 4, code := prog_37_method_8_code, exceptionTable := #[], attributes := #[] }
def k2m4 : Method := { name := "siftDown", desc := "(I)V", sig := { parameters := [.int], returnType := none }, accessFlags := 2, code := some k2c4 }
def k2c5 : Code := { maxStack := 3, maxLocals := 3, code := prog_37_method_9_code, exceptionTable := #[], attributes := #[] }
def k2m5 : Method := { name := "place", desc := "(II)V", sig := { parameters := [.int, .int], returnType := none }, accessFlags := 2, code := some k2c5 }
def k2c6 : Code := { maxStack := 4, maxLocals := 3, code := prog_37_method_10_code, exceptionTable := #[], attributes := #[] }
def k2m6 : Method := { name := "before", desc := "(II)Z", sig := { parameters := [.int, .int], returnType := some .boolean }, accessFlags := 2, code := some k2c6 }
/-- com/example/evenhand/evenhand/solver/NodeHeap -/
def k2 : Class := { plain "com/example/evenhand/evenhand/solver/NodeHeap" (some 0) with
  accessFlags := 48
  interfaces := #[]
  cf := some (fileOf pool2 8 #[] #[{ accessFlags := 0, nameIndex := 5, descriptorIndex := 45, attributes := #[] }, { accessFlags := 0, nameIndex := 51, descriptorIndex := 33, attributes := #[] }, { accessFlags := 0, nameIndex := 54, descriptorIndex := 53, attributes := #[] }, { accessFlags := 2, nameIndex := 32, descriptorIndex := 33, attributes := #[] }, { accessFlags := 2, nameIndex := 36, descriptorIndex := 33, attributes := #[] }, { accessFlags := 2, nameIndex := 43, descriptorIndex := 44, attributes := #[] }, { accessFlags := 2, nameIndex := 39, descriptorIndex := 40, attributes := #[] }] 48 2 #[] #[{ accessFlags := 18, nameIndex := 11, descriptorIndex := 12, attributes := #[] }, { accessFlags := 18, nameIndex := 15, descriptorIndex := 16, attributes := #[] }, { accessFlags := 18, nameIndex := 19, descriptorIndex := 16, attributes := #[] }, { accessFlags := 2, nameIndex := 28, descriptorIndex := 29, attributes := #[] }])
  fields := #[{ name := "keys", type := (.array .long), accessFlags := 18, slot := 0, constantValue := 0 }, { name := "heap", type := (.array .int), accessFlags := 18, slot := 1, constantValue := 0 }, { name := "position", type := (.array .int), accessFlags := 18, slot := 2, constantValue := 0 }, { name := "size", type := .int, accessFlags := 2, slot := 3, constantValue := 0 }]
  methods := #[k2m0, k2m1, k2m2, k2m3, k2m4, k2m5, k2m6]
  instanceTypes := #[(.array .long), (.array .int), (.array .int), .int]
  staticTypes := #[]
  resolved := Array.replicate 58 none
  statics := none }

def pool3 : Array CpInfo := pool [(2, .class_ 4), (1, u "java/lang/Object"), (0, u "<init>"), (0, u "()V"), (7, .class_ 16), (1, u "java/util/Arrays"), (57, .class_ 76), (1, u "java/util/Arrays$NaturalOrder"), (36, .class_ 115), (1, u "java/util/Arrays$LegacyMergeSort"), (1, u "Z"), (257, .class_ 376), (0, u "java/util/Arrays$ArrayList"), (68, u "$assertionsDisabled"), (269, u "MIN_ARRAY_SORT_GRAN"), (0, u "I"), (2, u "INSERTIONSORT_THRESHOLD"), (120, u "fill"), (4, u "([II)V"), (129, .class_ 976), (0, u "java/util/Arrays$ArrayItr")] 52

def k3m0 : Method := { name := "<init>", desc := "()V", sig := { parameters := [], returnType := none }, accessFlags := 2, code := none }
def k3c1 : Code := { maxStack := 3, maxLocals := 4, code := jdk_65_method_103_code, exceptionTable := #[], attributes := #[] }
def k3m1 : Method := { name := "fill", desc := "([II)V", sig := { parameters := [(.array .int), .int], returnType := none }, accessFlags := 9, code := some k3c1 }
/-- java/util/Arrays -/
def k3 : Class := { plain "java/util/Arrays" (some 0) with
  accessFlags := 49
  interfaces := #[]
  cf := some (fileOf pool3 14 #[.nestMembers #[975, 375, 113, 74]] #[{ accessFlags := 2, nameIndex := 5, descriptorIndex := 6, attributes := #[] }, { accessFlags := 9, nameIndex := 840, descriptorIndex := 845, attributes := #[] }] 49 2 #[] #[{ accessFlags := 26, nameIndex := 715, descriptorIndex := 716, attributes := #[] }, { accessFlags := 26, nameIndex := 719, descriptorIndex := 716, attributes := #[] }, { accessFlags := 4120, nameIndex := 445, descriptorIndex := 117, attributes := #[] }])
  fields := #[{ name := "MIN_ARRAY_SORT_GRAN", type := .int, accessFlags := 26, slot := 0, constantValue := 0 }, { name := "INSERTIONSORT_THRESHOLD", type := .int, accessFlags := 26, slot := 1, constantValue := 0 }, { name := "$assertionsDisabled", type := .boolean, accessFlags := 4120, slot := 2, constantValue := 0 }]
  methods := #[k3m0, k3m1]
  instanceTypes := #[]
  staticTypes := #[.int, .int, .boolean]
  resolved := Array.replicate 1029 none
  statics := none }

def pool4 : Array CpInfo := pool [(1, u "java/lang/Cloneable"), (0, .class_ 1), (0, u "java/lang/Object"), (0, .class_ 3)] 3

/-- java/lang/Cloneable -/
def k4 : Class := { plain "java/lang/Cloneable" (some 0) with
  accessFlags := 1537
  interfaces := #[]
  cf := some (fileOf pool4 2 #[] #[] 1537 4 #[] #[])
  fields := #[]
  methods := #[]
  instanceTypes := #[]
  staticTypes := #[]
  resolved := Array.replicate 8 none
  statics := none }

def pool5 : Array CpInfo := pool [(1, u "java/io/Serializable"), (0, .class_ 1), (0, u "java/lang/Object"), (0, .class_ 3)] 3

/-- java/io/Serializable -/
def k5 : Class := { plain "java/io/Serializable" (some 0) with
  accessFlags := 1537
  interfaces := #[]
  cf := some (fileOf pool5 2 #[] #[] 1537 4 #[] #[])
  fields := #[]
  methods := #[]
  instanceTypes := #[]
  staticTypes := #[]
  resolved := Array.replicate 8 none
  statics := none }

/-- the primitive byte -/
def k6 : Class := { plain "byte" none with kind := .primitive 'B', accessFlags := 0x411 }
/-- [B -/
def k7 : Class := { plain "[B" (some 0) with kind := .array 6 .byte, interfaces := #[4, 5], accessFlags := 1041 }

/-- the primitive int -/
def k8 : Class := { plain "int" none with kind := .primitive 'I', accessFlags := 0x411 }
/-- [I -/
def k9 : Class := { plain "[I" (some 0) with kind := .array 8 .int, interfaces := #[4, 5], accessFlags := 1041 }

/-- the primitive long -/
def k10 : Class := { plain "long" none with kind := .primitive 'J', accessFlags := 0x411 }
/-- [J -/
def k11 : Class := { plain "[J" (some 0) with kind := .array 10 .long, interfaces := #[4, 5], accessFlags := 1041 }

def heap : Heap := #[]
def classes : Array Class := #[k0, k1, k2, k3, k4, k5, k6, k7, k8, k9, k10, k11]
def interned : List (Array UInt16 × Addr) := []
def slotsUsed : Nat := 0
def theMethod : MethodId := ⟨1, 4⟩
def args0 : Array Value := #[.long 5, .long 5, .long 5, .long 5, .long 5, .int 5]
def aboutOver (below : List Frame) : State where
  vm := { classes := classes, interned := interned.toArray }
  heap := heap
  slotsUsed := slotsUsed
  threads := #[{ frames := .invoking theMethod args0 :: below }]
def below0 : List Frame := [.native { method := ⟨0, 0⟩, args := #[] }]
def about1 : State := aboutOver below0
def p0 : Program := .bare "" "" ""
def e0 : Env := launch0.env 0 0 0
theorem w_frames : about1.frames = Frame.invoking theMethod args0 :: below0 := rfl
set_option maxRecDepth 65536 in
theorem w_args : argsFit about1.vm theMethod args0 = true := by decide +kernel
set_option maxRecDepth 65536 in
theorem w_heap : heapFits about1 = true := by decide +kernel
set_option maxRecDepth 65536 in
theorem w_runnable : about1.curStatus? = some .runnable := by decide +kernel
set_option maxRecDepth 65536 in
theorem w_alone : about1.alone = true := by decide +kernel
set_option maxRecDepth 65536 in
theorem w_named : about1.methodNamed? x = some theMethod := by decide +kernel
set_option maxRecDepth 65536 in
theorem w_hears : about1.hears theMethod below0 = true := by decide +kernel
set_option maxRecDepth 65536 in
theorem w_ripe : about1.ripe theMethod args0 below0 = true := by decide +kernel
theorem w_running : about1.status = .running := rfl
set_option maxRecDepth 65536 in
theorem w_room : about1.hasRoom e0.platform room_1 = true :=
  launch0.hasRoom_least _ room_1 (by decide +kernel) (by decide +kernel) (by decide +kernel) (by decide +kernel) (by decide +kernel) (by decide +kernel)
theorem allAtoms_all (ts : List Jvm.Cond) (a : Array Jvm.Value) (st : Jvm.State) : (allAtoms ts).before a st = ts.all (fun c => c.before a st) := by
  induction ts with
  | nil => rfl
  | cons c t ih =>
    show (Jvm.Cond.and c (allAtoms t)).before a st = _
    rw [Jvm.Cond.before_and, ih, List.all_cons]
def words1 : List Jvm.Cond := Jvm.Cond.code x code maxLocals ret :: tables_1
/-- a 'code' word, met by the world's own term for the bytes: nothing is compared byte by byte -/
theorem code_word {y : MethodName} {bytes : ByteArray} {mx : Nat} {rt : Option FieldType} {a : Array Value} {s : State} {m : MethodId} {meth : Method} {c : Code} (h1 : s.methodNamed? y = some m) (h2 : s.vm.method? m = some meth) (h3 : meth.code = some c) (h4 : c.code = bytes)
    (h5 : (c.maxLocals == mx && c.exceptionTable.isEmpty && decide (c.maxStack ≤ mostOperands) && decide (meth.sig.returnType = rt) && !meth.locks && decide (parseMethodDescriptor y.desc = some meth.sig)) = true) : (Jvm.Cond.code y bytes mx rt).before a s = true := by
  simp only [Bool.and_eq_true, beq_iff_eq, Bool.not_eq_true', decide_eq_true_eq] at h5
  obtain ⟨⟨⟨⟨⟨g1, g2⟩, g3⟩, g4⟩, g5⟩, g6⟩ := h5
  simp [Cond.before, Cond.holds, Cond.value, h1, h2, h3, h4, g1, g2, g3, g4, g5, g6]
def isCode : Jvm.Cond → Bool
  | .code _ _ _ _ => true
  | _ => false
theorem all_split {L : List Jvm.Cond} {P : Jvm.Cond → Bool} (h1 : L.all (fun c => isCode c || P c) = true) (h2 : ∀ c ∈ L.filter isCode, P c = true) : L.all P = true := by
  refine List.all_eq_true.mpr fun c hc => ?_
  have h := List.all_eq_true.mp h1 c hc
  rcases Bool.eq_false_or_eq_true (isCode c) with hi | hi
  · exact h2 c (List.mem_filter.mpr ⟨hc, hi⟩)
  · simpa [hi] using h
set_option maxRecDepth 65536 in
theorem w_c0 : (Jvm.Cond.code x code maxLocals ret).before args0 about1 = true := code_word (m := ⟨1, 4⟩) (meth := k1m4) (c := k1c4) (by decide +kernel) rfl rfl rfl (by decide +kernel)
set_option maxRecDepth 65536 in
theorem w_c1 : (Jvm.Cond.code ({ cls := "com/example/evenhand/evenhand/solver/NodeHeapPollPinLaw", name := "key", desc := "(JZ)J" } : Jvm.MethodName) method_4_code (3 : Nat) (Option.some Jvm.ClassFile.FieldType.long)).before args0 about1 = true := code_word (m := ⟨1, 3⟩) (meth := k1m3) (c := k1c3) (by decide +kernel) rfl rfl rfl (by decide +kernel)
set_option maxRecDepth 65536 in
theorem w_c2 : (Jvm.Cond.code ({ cls := "com/example/evenhand/evenhand/solver/NodeHeap", name := "<init>", desc := "([J)V" } : Jvm.MethodName) prog_37_method_1_code (2 : Nat) (Option.none : Option Jvm.ClassFile.FieldType)).before args0 about1 = true := code_word (m := ⟨2, 0⟩) (meth := k2m0) (c := k2c0) (by decide +kernel) rfl rfl rfl (by decide +kernel)
set_option maxRecDepth 65536 in
theorem w_c3 : (Jvm.Cond.code ({ cls := "java/lang/Object", name := "<init>", desc := "()V" } : Jvm.MethodName) object_method_1_code (1 : Nat) (Option.none : Option Jvm.ClassFile.FieldType)).before args0 about1 = true := code_word (m := ⟨0, 0⟩) (meth := k0m0) (c := k0c0) (by decide +kernel) rfl rfl rfl (by decide +kernel)
set_option maxRecDepth 65536 in
theorem w_c4 : (Jvm.Cond.code ({ cls := "java/util/Arrays", name := "fill", desc := "([II)V" } : Jvm.MethodName) jdk_65_method_103_code (4 : Nat) (Option.none : Option Jvm.ClassFile.FieldType)).before args0 about1 = true := code_word (m := ⟨3, 1⟩) (meth := k3m1) (c := k3c1) (by decide +kernel) rfl rfl rfl (by decide +kernel)
set_option maxRecDepth 65536 in
theorem w_c5 : (Jvm.Cond.code ({ cls := "com/example/evenhand/evenhand/solver/NodeHeap", name := "offer", desc := "(I)V" } : Jvm.MethodName) prog_37_method_3_code (3 : Nat) (Option.none : Option Jvm.ClassFile.FieldType)).before args0 about1 = true := code_word (m := ⟨2, 1⟩) (meth := k2m1) (c := k2c1) (by decide +kernel) rfl rfl rfl (by decide +kernel)
set_option maxRecDepth 65536 in
theorem w_c6 : (Jvm.Cond.code ({ cls := "com/example/evenhand/evenhand/solver/NodeHeap", name := "siftUp", desc := "(I)V" } : Jvm.MethodName) prog_37_method_7_code (4 : Nat) (Option.none : Option Jvm.ClassFile.FieldType)).before args0 about1 = true := code_word (m := ⟨2, 3⟩) (meth := k2m3) (c := k2c3) (by decide +kernel) rfl rfl rfl (by decide +kernel)
set_option maxRecDepth 65536 in
theorem w_c7 : (Jvm.Cond.code ({ cls := "com/example/evenhand/evenhand/solver/NodeHeap", name := "place", desc := "(II)V" } : Jvm.MethodName) prog_37_method_9_code (3 : Nat) (Option.none : Option Jvm.ClassFile.FieldType)).before args0 about1 = true := code_word (m := ⟨2, 5⟩) (meth := k2m5) (c := k2c5) (by decide +kernel) rfl rfl rfl (by decide +kernel)
set_option maxRecDepth 65536 in
theorem w_c8 : (Jvm.Cond.code ({ cls := "com/example/evenhand/evenhand/solver/NodeHeap", name := "before", desc := "(II)Z" } : Jvm.MethodName) prog_37_method_10_code (3 : Nat) (Option.some Jvm.ClassFile.FieldType.boolean)).before args0 about1 = true := code_word (m := ⟨2, 6⟩) (meth := k2m6) (c := k2c6) (by decide +kernel) rfl rfl rfl (by decide +kernel)
set_option maxRecDepth 65536 in
theorem w_c9 : (Jvm.Cond.code ({ cls := "com/example/evenhand/evenhand/solver/NodeHeap", name := "poll", desc := "()I" } : Jvm.MethodName) prog_37_method_5_code (2 : Nat) (Option.some Jvm.ClassFile.FieldType.int)).before args0 about1 = true := code_word (m := ⟨2, 2⟩) (meth := k2m2) (c := k2c2) (by decide +kernel) rfl rfl rfl (by decide +kernel)
set_option maxRecDepth 65536 in
theorem w_c10 : (Jvm.Cond.code ({ cls := "com/example/evenhand/evenhand/solver/NodeHeap", name := "siftDown", desc := "(I)V" } : Jvm.MethodName) prog_37_method_8_code (4 : Nat) (Option.none : Option Jvm.ClassFile.FieldType)).before args0 about1 = true := code_word (m := ⟨2, 4⟩) (meth := k2m4) (c := k2c4) (by decide +kernel) rfl rfl rfl (by decide +kernel)
set_option maxRecDepth 65536 in
theorem w_c11 : (Jvm.Cond.code ({ cls := "com/example/evenhand/evenhand/solver/NodeHeapPollPinLaw", name := "in", desc := "(II)Z" } : Jvm.MethodName) method_3_code (2 : Nat) (Option.some Jvm.ClassFile.FieldType.boolean)).before args0 about1 = true := code_word (m := ⟨1, 2⟩) (meth := k1m2) (c := k1c2) (by decide +kernel) rfl rfl rfl (by decide +kernel)
set_option maxRecDepth 65536 in
theorem w_c12 : (Jvm.Cond.code ({ cls := "com/example/evenhand/evenhand/solver/NodeHeapPollPinLaw", name := "before", desc := "([JII)Z" } : Jvm.MethodName) method_2_code (3 : Nat) (Option.some Jvm.ClassFile.FieldType.boolean)).before args0 about1 = true := code_word (m := ⟨1, 1⟩) (meth := k1m1) (c := k1c1) (by decide +kernel) rfl rfl rfl (by decide +kernel)
def codes1 : List Jvm.Cond := [Jvm.Cond.code x code maxLocals ret, Jvm.Cond.code ({ cls := "com/example/evenhand/evenhand/solver/NodeHeapPollPinLaw", name := "key", desc := "(JZ)J" } : Jvm.MethodName) method_4_code (3 : Nat) (Option.some Jvm.ClassFile.FieldType.long), Jvm.Cond.code ({ cls := "com/example/evenhand/evenhand/solver/NodeHeap", name := "<init>", desc := "([J)V" } : Jvm.MethodName) prog_37_method_1_code (2 : Nat) (Option.none : Option Jvm.ClassFile.FieldType), Jvm.Cond.code ({ cls := "java/lang/Object", name := "<init>", desc := "()V" } : Jvm.MethodName) object_method_1_code (1 : Nat) (Option.none : Option Jvm.ClassFile.FieldType), Jvm.Cond.code ({ cls := "java/util/Arrays", name := "fill", desc := "([II)V" } : Jvm.MethodName) jdk_65_method_103_code (4 : Nat) (Option.none : Option Jvm.ClassFile.FieldType), Jvm.Cond.code ({ cls := "com/example/evenhand/evenhand/solver/NodeHeap", name := "offer", desc := "(I)V" } : Jvm.MethodName) prog_37_method_3_code (3 : Nat) (Option.none : Option Jvm.ClassFile.FieldType), Jvm.Cond.code ({ cls := "com/example/evenhand/evenhand/solver/NodeHeap", name := "siftUp", desc := "(I)V" } : Jvm.MethodName) prog_37_method_7_code (4 : Nat) (Option.none : Option Jvm.ClassFile.FieldType), Jvm.Cond.code ({ cls := "com/example/evenhand/evenhand/solver/NodeHeap", name := "place", desc := "(II)V" } : Jvm.MethodName) prog_37_method_9_code (3 : Nat) (Option.none : Option Jvm.ClassFile.FieldType), Jvm.Cond.code ({ cls := "com/example/evenhand/evenhand/solver/NodeHeap", name := "before", desc := "(II)Z" } : Jvm.MethodName) prog_37_method_10_code (3 : Nat) (Option.some Jvm.ClassFile.FieldType.boolean), Jvm.Cond.code ({ cls := "com/example/evenhand/evenhand/solver/NodeHeap", name := "poll", desc := "()I" } : Jvm.MethodName) prog_37_method_5_code (2 : Nat) (Option.some Jvm.ClassFile.FieldType.int), Jvm.Cond.code ({ cls := "com/example/evenhand/evenhand/solver/NodeHeap", name := "siftDown", desc := "(I)V" } : Jvm.MethodName) prog_37_method_8_code (4 : Nat) (Option.none : Option Jvm.ClassFile.FieldType), Jvm.Cond.code ({ cls := "com/example/evenhand/evenhand/solver/NodeHeapPollPinLaw", name := "in", desc := "(II)Z" } : Jvm.MethodName) method_3_code (2 : Nat) (Option.some Jvm.ClassFile.FieldType.boolean), Jvm.Cond.code ({ cls := "com/example/evenhand/evenhand/solver/NodeHeapPollPinLaw", name := "before", desc := "([JII)Z" } : Jvm.MethodName) method_2_code (3 : Nat) (Option.some Jvm.ClassFile.FieldType.boolean)]
set_option maxRecDepth 65536 in
theorem codes_eq : words1.filter isCode = codes1 := rfl
theorem w_codes : ∀ c ∈ words1.filter isCode, c.before args0 about1 = true := by
  rw [codes_eq]
  intro c hc
  simp only [codes1, List.mem_cons, List.not_mem_nil, or_false] at hc
  rcases hc with rfl | rfl | rfl | rfl | rfl | rfl | rfl | rfl | rfl | rfl | rfl | rfl | rfl
  · exact w_c0
  · exact w_c1
  · exact w_c2
  · exact w_c3
  · exact w_c4
  · exact w_c5
  · exact w_c6
  · exact w_c7
  · exact w_c8
  · exact w_c9
  · exact w_c10
  · exact w_c11
  · exact w_c12
set_option maxRecDepth 65536 in
theorem w_t1 : (words1.take 24).all (fun c => isCode c || c.before args0 about1) = true := by decide +kernel
set_option maxRecDepth 65536 in
theorem w_t2 : ((words1.drop 24).take 24).all (fun c => isCode c || c.before args0 about1) = true := by decide +kernel
set_option maxRecDepth 65536 in
theorem w_t3 : ((words1.drop 24).drop 24).all (fun c => isCode c || c.before args0 about1) = true := by decide +kernel
theorem w_tables : (allAtoms (Jvm.Cond.code x code maxLocals ret :: tables_1)).before args0 about1 = true := by
  rw [allAtoms_all]
  show words1.all (fun c => c.before args0 about1) = true
  refine all_split ?_ w_codes
  rw [← List.take_append_drop 24 words1, List.all_append, w_t1, ← List.take_append_drop 24 (words1.drop 24), List.all_append, w_t2, w_t3]
  rfl
set_option maxRecDepth 65536 in
theorem w_case : (Jvm.Cond.and given_1 narrow_1).before args0 about1 = true := by decide +kernel
theorem w_applies : (headSpec (Jvm.Cond.code x code maxLocals ret :: tables_1) room_1).applies x e0.platform about1 = true :=
  (Spec.applies_iff w_frames).mpr ⟨w_running, w_runnable, w_alone, w_named, w_hears, w_ripe, w_room, w_tables⟩
theorem atStart : AtStart classFile x code maxLocals ret World_1 tables_1 room_1 Calls_1 rest_1 Pre_1 launch0 p0 e0 about1 theMethod args0 below0 :=
  ⟨lists_1, trivial, launch0.admits_env _ _ _, launch0.least_env, fairChoices_fair.cas, fairChoices_fair.clock, w_frames, w_args, w_heap, w_applies, trivial, trivial, w_case⟩
end start1
theorem witness_1 : WitnessClaimed_1 := ⟨start1.p0, start1.e0, start1.about1, start1.theMethod, start1.args0, start1.below0, start1.atStart⟩
end Jvm.Pilot.@@N@@
