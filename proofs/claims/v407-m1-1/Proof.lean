import JvmDerived
import JvmDerived.Pilot.@@N@@Statement
import JvmDerived.Pilot.@@N@@Code
set_option linter.unusedVariables false
set_option linter.unusedSimpArgs false
namespace Jvm.Pilot.@@N@@
open Jvm Jvm.ClassFile Sem Op Lib Jvm.Free Jvm.Stand Jvm.LawKit Jvm.RoadKit Bundle Jvm.Pilot.@@N@@.Jvm.D
set_option maxRecDepth 65536
theorem Am {n m : Nat} (h : Nat.ble n m = true) : n ≤ m := Nat.le_of_ble_eq_true h
set_option maxHeartbeats 40000000
section OwnKit
variable {p : Program} {l : Launch} {e : Env} {R : Room} {s : State} {m : MethodId} {args : Array Value} {below : List Frame} {meth : Method} {c : Code} {T : State} {locs : List Loc} {cells slots : Nat} {Z : State} {a0 : Array Value} {h : Heap} {own : String} {cd : ByteArray} {maxL : Nat} {ret : Option FieldType} {nm : String} {n0 : Nat} {F : Option Value → Heap → Prop} {kc ks : Nat} {En : Outcome → State → Prop} {pc : Nat} {ls : Array Slot} {st : List Value}
/-- from the frame g over T the method runs to its end, returns v, leaves a heap, F holds of both; only new cells are written -/
def Ak (p : Program) (e : Env) (below : List Frame) (En : Outcome → State → Prop) (T : State) (g : JFrame) : Prop :=
  ∃ s₂ o, Steps p.tables e below (T.setTop g) s₂ ∧ s₂.status = .running ∧ Ended s₂ below o ∧ En o s₂
def Dm (s : State) (n0 : Nat) (F : Option Value → Heap → Prop) (kc ks : Nat) (o : Outcome) (s₂ : State) : Prop := ∃ v L, o = .returned v ∧ (F v s₂.heap ∧ Fr n0 L) ∧ FrameEnd s o s₂ L kc ks
theorem Bh {T' : State} {g g' : JFrame} (st : ∀ t, Steps p.tables e below (T'.setTop g') t → Steps p.tables e below (T.setTop g) t) (k : Ak p e below En T' g') : Ak p e below En T g := by
  obtain ⟨s₂, o, h1, h2⟩ := k
  exact ⟨s₂, o, st _ h1, h2⟩
/-- what stays the same in one body -/
def Bo (p : Program) (s : State) (m : MethodId) (meth : Method) (c : Code) (Z : State) (own : String) (cd : ByteArray) (maxL : Nat) (ret : Option FieldType) (nm : String) : Prop :=
  p.tables.exec = Jvm.exec ∧ c.code = cd ∧ c.maxLocals = maxL ∧ s.vm.findClass own = some m.cls ∧ meth.name = nm ∧ meth.sig.returnType = ret ∧ meth.locks = false ∧ Z.Warmed39 s.vm
/-- where the walk stands: the heap is h, at most so many cells and slots have been made, nothing old was written -/
def Bi (p : Program) (l : Launch) (e : Env) (R : Room) (s : State) (m : MethodId) (args : Array Value) (below : List Frame) (meth : Method) (c : Code) (n0 : Nat) (T : State) (h : Heap) (cells slots : Nat) : Prop :=
  ∃ locs k n, Stand p l e R s m args below meth c T locs k n ∧ T.heap = h ∧ Fr n0 locs ∧ k ≤ cells ∧ n ≤ slots
theorem Bi.mono {c' s' : Nat} (S : Bi p l e R s m args below meth c n0 T h cells slots) (h1 : cells ≤ c') (h2 : slots ≤ s') : Bi p l e R s m args below meth c n0 T h c' s' := by
  obtain ⟨locs, k, n, X, e1, N, q1, q2⟩ := S
  exact ⟨locs, k, n, X, e1, N, Nat.le_trans q1 h1, Nat.le_trans q2 h2⟩
theorem By (C : Bo p s m meth c Z own cd maxL ret nm) {i : Instr} {len : Nat} (hd : decode cd pc = .ok (i, len)) : decode c.code pc = .ok (i, len) := by rw [C.2.1]; exact hd
theorem Ei (C : Bo p s m meth c Z own cd maxL ret nm) (hsz : ls.size = maxL) : ls.size = c.maxLocals := by rw [C.2.2.1]; exact hsz
/-- the k-th table word -/
theorem ow {L : List Jvm.Cond} (hw : ∀ d ∈ L, d.before a0 Z = true) (i : Nat) {d : Jvm.Cond} (hi : L[i]? = some d) : d.before a0 Z = true := hw d (List.mem_of_getElem? hi)
/-- one plain instruction -/
def own_st (i : Instr) (len pc : Nat) (ls : Array Slot) (st : List Value) : Option (Nat × Array Slot × List Value) :=
  match i with
  | .iload_n k => match len, ls[k.val]? with | 1, some (.val (.int v)) => some (pc + 1, ls, .int v :: st) | _, _ => none
  | .iload k => match len, ls[k]? with | 2, some (.val (.int v)) => some (pc + 2, ls, .int v :: st) | _, _ => none
  | .lload_n k => match len, ls[k.val]? with | 1, some (.val (.long v)) => some (pc + 1, ls, .long v :: st) | _, _ => none
  | .lload k => match len, ls[k]? with | 2, some (.val (.long v)) => some (pc + 2, ls, .long v :: st) | _, _ => none
  | .dload_n k => match len, ls[k.val]? with | 1, some (.val (.double v)) => some (pc + 1, ls, .double v :: st) | _, _ => none
  | .dload k => match len, ls[k]? with | 2, some (.val (.double v)) => some (pc + 2, ls, .double v :: st) | _, _ => none
  | .aload_n k => match len, ls[k.val]? with | 1, some (.val (.ref v)) => some (pc + 1, ls, .ref v :: st) | 1, some (.val .null) => some (pc + 1, ls, .null :: st) | _, _ => none
  | .aload k => match len, ls[k]? with | 2, some (.val (.ref v)) => some (pc + 2, ls, .ref v :: st) | 2, some (.val .null) => some (pc + 2, ls, .null :: st) | _, _ => none
  | .istore_n k => match len, st with | 1, .int x :: r => (match storeLocals ls k.val (.int x) with | some l' => some (pc + 1, l', r) | none => none) | _, _ => none
  | .istore k => match len, st with | 2, .int x :: r => (match storeLocals ls k (.int x) with | some l' => some (pc + 2, l', r) | none => none) | _, _ => none
  | .lstore_n k => match len, st with | 1, .long x :: r => (match storeLocals ls k.val (.long x) with | some l' => some (pc + 1, l', r) | none => none) | _, _ => none
  | .lstore k => match len, st with | 2, .long x :: r => (match storeLocals ls k (.long x) with | some l' => some (pc + 2, l', r) | none => none) | _, _ => none
  | .dstore_n k => match len, st with | 1, .double x :: r => (match storeLocals ls k.val (.double x) with | some l' => some (pc + 1, l', r) | none => none) | _, _ => none
  | .dstore k => match len, st with | 2, .double x :: r => (match storeLocals ls k (.double x) with | some l' => some (pc + 2, l', r) | none => none) | _, _ => none
  | .astore_n k => match len, st with
    | 1, .ref x :: r => (match storeLocals ls k.val (.ref x) with | some l' => some (pc + 1, l', r) | none => none)
    | 1, .null :: r => (match storeLocals ls k.val .null with | some l' => some (pc + 1, l', r) | none => none)
    | _, _ => none
  | .astore k => match len, st with
    | 2, .ref x :: r => (match storeLocals ls k (.ref x) with | some l' => some (pc + 2, l', r) | none => none)
    | 2, .null :: r => (match storeLocals ls k .null with | some l' => some (pc + 2, l', r) | none => none)
    | _, _ => none
  | .iinc k d => match len, ls[k]? with | 3, some (.val (.int x)) => (match storeLocals ls k (.int (x + Int32.ofInt d)) with | some l' => some (pc + 3, l', st) | none => none) | _, _ => none
  | .iconst i => match len with | 1 => some (pc + 1, ls, .int (Int32.ofInt i) :: st) | _ => none
  | .bipush i => match len with | 2 => some (pc + 2, ls, .int (Int8.ofInt i).toInt32 :: st) | _ => none
  | .sipush i => match len with | 3 => some (pc + 3, ls, .int (Int16.ofInt i).toInt32 :: st) | _ => none
  | .lconst k => match len with | 1 => some (pc + 1, ls, .long (Int64.ofNat k) :: st) | _ => none
  | .aconst_null => match len with | 1 => some (pc + 1, ls, .null :: st) | _ => none
  | .iadd => match len, st with | 1, .int y :: .int x :: r => some (pc + 1, ls, .int (x + y) :: r) | _, _ => none
  | .isub => match len, st with | 1, .int y :: .int x :: r => some (pc + 1, ls, .int (x - y) :: r) | _, _ => none
  | .imul => match len, st with | 1, .int y :: .int x :: r => some (pc + 1, ls, .int (x * y) :: r) | _, _ => none
  | .iand => match len, st with | 1, .int y :: .int x :: r => some (pc + 1, ls, .int (x &&& y) :: r) | _, _ => none
  | .ior => match len, st with | 1, .int y :: .int x :: r => some (pc + 1, ls, .int (x ||| y) :: r) | _, _ => none
  | .ixor => match len, st with | 1, .int y :: .int x :: r => some (pc + 1, ls, .int (x ^^^ y) :: r) | _, _ => none
  | .ishl => match len, st with | 1, .int y :: .int x :: r => some (pc + 1, ls, .int (x <<< (y &&& 31)) :: r) | _, _ => none
  | .ishr => match len, st with | 1, .int y :: .int x :: r => some (pc + 1, ls, .int (x >>> (y &&& 31)) :: r) | _, _ => none
  | .iushr => match len, st with | 1, .int y :: .int x :: r => some (pc + 1, ls, .int (Jvm.Free.XT.ushr x y) :: r) | _, _ => none
  | .ineg => match len, st with | 1, .int x :: r => some (pc + 1, ls, .int (-x) :: r) | _, _ => none
  | .ladd => match len, st with | 1, .long y :: .long x :: r => some (pc + 1, ls, .long (x + y) :: r) | _, _ => none
  | .lsub => match len, st with | 1, .long y :: .long x :: r => some (pc + 1, ls, .long (x - y) :: r) | _, _ => none
  | .lmul => match len, st with | 1, .long y :: .long x :: r => some (pc + 1, ls, .long (x * y) :: r) | _, _ => none
  | .land => match len, st with | 1, .long y :: .long x :: r => some (pc + 1, ls, .long (x &&& y) :: r) | _, _ => none
  | .lor => match len, st with | 1, .long y :: .long x :: r => some (pc + 1, ls, .long (x ||| y) :: r) | _, _ => none
  | .lshl => match len, st with | 1, .int y :: .long x :: r => some (pc + 1, ls, .long (x <<< (y.toInt64 &&& 63)) :: r) | _, _ => none
  | .lshr => match len, st with | 1, .int y :: .long x :: r => some (pc + 1, ls, .long (x >>> (y.toInt64 &&& 63)) :: r) | _, _ => none
  | .lushr => match len, st with | 1, .int y :: .long x :: r => some (pc + 1, ls, .long (Jvm.Free.XT.ushrL x y) :: r) | _, _ => none
  | .lcmp => match len, st with | 1, .long y :: .long x :: r => some (pc + 1, ls, .int (Jvm.Free.XT.cmpL x y) :: r) | _, _ => none
  | .i2l => match len, st with | 1, .int x :: r => some (pc + 1, ls, .long x.toInt64 :: r) | _, _ => none
  | .l2i => match len, st with | 1, .long x :: r => some (pc + 1, ls, .int x.toInt32 :: r) | _, _ => none
  | .i2b => match len, st with | 1, .int x :: r => some (pc + 1, ls, .int x.toInt8.toInt32 :: r) | _, _ => none
  | .i2c => match len, st with | 1, .int x :: r => some (pc + 1, ls, .int x.toUInt32.toUInt16.toUInt32.toInt32 :: r) | _, _ => none
  | .i2s => match len, st with | 1, .int x :: r => some (pc + 1, ls, .int x.toInt16.toInt32 :: r) | _, _ => none
  | .i2d => match len, st with | 1, .int x :: r => some (pc + 1, ls, .double (FP.i2d x) :: r) | _, _ => none
  | .dup => match len, st with | 1, .int x :: r => some (pc + 1, ls, .int x :: .int x :: r) | 1, .ref x :: r => some (pc + 1, ls, .ref x :: .ref x :: r) | 1, .null :: r => some (pc + 1, ls, .null :: .null :: r) | _, _ => none
  | .pop => match len, st with | 1, .int x :: r => some (pc + 1, ls, r) | 1, .ref x :: r => some (pc + 1, ls, r) | 1, .null :: r => some (pc + 1, ls, r) | _, _ => none
  | .dup_x1 => match len, st with | 1, .int x :: .ref y :: r => some (pc + 1, ls, .int x :: .ref y :: .int x :: r) | 1, .int x :: .int y :: r => some (pc + 1, ls, .int x :: .int y :: .int x :: r) | 1, .ref x :: .ref y :: r => some (pc + 1, ls, .ref x :: .ref y :: .ref x :: r) | _, _ => none
  | .dup2 => match len, st with | 1, .int x :: .ref y :: r => some (pc + 1, ls, .int x :: .ref y :: .int x :: .ref y :: r) | 1, .int x :: .int y :: r => some (pc + 1, ls, .int x :: .int y :: .int x :: .int y :: r) | 1, .long x :: r => some (pc + 1, ls, .long x :: .long x :: r) | _, _ => none
  | .goto o => match len, decide (0 ≤ (pc : Int) + o) with | 3, true => some (((pc : Int) + o).toNat, ls, st) | _, _ => none
  | .ifnull o => match len, st, decide (0 ≤ (pc : Int) + o) with | 3, .null :: r, true => some (((pc : Int) + o).toNat, ls, r) | 3, .ref _ :: r, _ => some (pc + 3, ls, r) | _, _, _ => none
  | .ifnonnull o => match len, st, decide (0 ≤ (pc : Int) + o) with | 3, .ref _ :: r, true => some (((pc : Int) + o).toNat, ls, r) | 3, .null :: r, _ => some (pc + 3, ls, r) | _, _, _ => none
  | .ifCond q o => match len, st, decide (0 ≤ (pc : Int) + o) with
    | 3, .int x :: r, true => (match if_icmp.holds q x 0 with | true => some (((pc : Int) + o).toNat, ls, r) | false => some (pc + 3, ls, r))
    | _, _, _ => none
  | .if_icmp q o => match len, st, decide (0 ≤ (pc : Int) + o) with
    | 3, .int y :: .int x :: r, true => (match if_icmp.holds q x y with | true => some (((pc : Int) + o).toNat, ls, r) | false => some (pc + 3, ls, r))
    | _, _, _ => none
  | _ => none
theorem own_st_ok (X : Stand p l e R s m args below meth c T locs cells slots) (hx : p.tables.exec = Jvm.exec) {i : Instr} {len pc' : Nat} {ls' : Array Slot} {st' : List Value} (hd : decode c.code pc = .ok (i, len)) (hs : own_st i len pc ls st = some (pc', ls', st')) (t : State)
    (k : Steps p.tables e below (T.setTop (mkF m pc' ls' st')) t) : Steps p.tables e below (T.setTop (mkF m pc ls st)) t := by
  unfold own_st at hs
  split at hs
  · split at hs <;> first | cases hs | skip
    rename_i q; exact XS.iloadN X.here hx rfl hd q k
  · split at hs <;> first | cases hs | skip
    rename_i q; exact XS.iload X.here hx rfl hd q k
  · split at hs <;> first | cases hs | skip
    rename_i q; exact Jvm.Free.XT.lloadN X.here hx rfl hd q k
  · split at hs <;> first | cases hs | skip
    rename_i q; exact Jvm.Free.XT.lload X.here hx rfl hd q k
  · split at hs <;> first | cases hs | skip
    rename_i q; exact XS.dloadN X.here hx rfl hd q k
  · split at hs <;> first | cases hs | skip
    rename_i q; exact XS.dload X.here hx rfl hd q k
  · split at hs <;> first | cases hs | skip
    · rename_i q; exact XS.aloadN X.here hx rfl hd q rfl k
    · rename_i q; exact XS.aloadN X.here hx rfl hd q rfl k
  · split at hs <;> first | cases hs | skip
    · rename_i q; exact XS.aload X.here hx rfl hd q rfl k
    · rename_i q; exact XS.aload X.here hx rfl hd q rfl k
  · split at hs <;> first | cases hs | skip
    split at hs <;> first | cases hs | skip
    rename_i q; exact XS.istoreN X.here hx rfl hd rfl q k
  · split at hs <;> first | cases hs | skip
    split at hs <;> first | cases hs | skip
    rename_i q; exact XS.istore X.here hx rfl hd rfl q k
  · split at hs <;> first | cases hs | skip
    split at hs <;> first | cases hs | skip
    rename_i q; exact Jvm.Free.XT.lstoreN X.here hx rfl hd rfl q k
  · split at hs <;> first | cases hs | skip
    split at hs <;> first | cases hs | skip
    rename_i q; exact Jvm.Free.XT.lstore X.here hx rfl hd rfl q k
  · split at hs <;> first | cases hs | skip
    split at hs <;> first | cases hs | skip
    rename_i q; exact XS.dstoreN X.here hx rfl hd rfl q k
  · split at hs <;> first | cases hs | skip
    split at hs <;> first | cases hs | skip
    rename_i q; exact XS.dstore X.here hx rfl hd rfl q k
  · split at hs <;> first | cases hs | skip
    all_goals
      split at hs <;> first | cases hs | skip
      rename_i q; exact XS.astoreN X.here hx rfl hd rfl rfl q k
  · split at hs <;> first | cases hs | skip
    all_goals
      split at hs <;> first | cases hs | skip
      rename_i q; exact XS.astore X.here hx rfl hd rfl rfl q k
  · split at hs <;> first | cases hs | skip
    rename_i q0
    split at hs <;> first | cases hs | skip
    rename_i q; exact XS.iinc X.here hx rfl hd q0 q k
  · split at hs <;> first | cases hs | skip
    exact XS.iconst X.here hx rfl hd k
  · split at hs <;> first | cases hs | skip
    exact XS.bipush X.here hx rfl hd k
  · split at hs <;> first | cases hs | skip
    exact XS.sipush X.here hx rfl hd k
  · split at hs <;> first | cases hs | skip
    exact Jvm.Free.XT.lconst X.here hx rfl hd k
  · split at hs <;> first | cases hs | skip
    exact XS.aconstNull X.here hx rfl hd k
  · split at hs <;> first | cases hs | skip
    exact XS.iadd X.here hx rfl hd rfl k
  · split at hs <;> first | cases hs | skip
    exact XS.isub X.here hx rfl hd rfl k
  · split at hs <;> first | cases hs | skip
    exact XS.imul X.here hx rfl hd rfl k
  · split at hs <;> first | cases hs | skip
    exact XS.iand X.here hx rfl hd rfl k
  · split at hs <;> first | cases hs | skip
    exact Jvm.Free.XT.ior X.here hx rfl hd rfl k
  · split at hs <;> first | cases hs | skip
    exact Jvm.Free.XT.ixor X.here hx rfl hd rfl k
  · split at hs <;> first | cases hs | skip
    exact Jvm.Free.XT.ishl X.here hx rfl hd rfl k
  · split at hs <;> first | cases hs | skip
    exact Jvm.Free.XT.ishr X.here hx rfl hd rfl k
  · split at hs <;> first | cases hs | skip
    exact Jvm.Free.XT.iushr X.here hx rfl hd rfl k
  · split at hs <;> first | cases hs | skip
    exact XS.ineg X.here hx rfl hd rfl k
  · split at hs <;> first | cases hs | skip
    exact Jvm.Free.XT.ladd X.here hx rfl hd rfl k
  · split at hs <;> first | cases hs | skip
    exact Jvm.Free.XT.lsub X.here hx rfl hd rfl k
  · split at hs <;> first | cases hs | skip
    exact Jvm.Free.XT.lmul X.here hx rfl hd rfl k
  · split at hs <;> first | cases hs | skip
    exact Jvm.Free.XT.land X.here hx rfl hd rfl k
  · split at hs <;> first | cases hs | skip
    exact Jvm.Free.XT.lor X.here hx rfl hd rfl k
  · split at hs <;> first | cases hs | skip
    exact Jvm.Free.XT.lshl X.here hx rfl hd rfl k
  · split at hs <;> first | cases hs | skip
    exact Jvm.Free.XT.lshr X.here hx rfl hd rfl k
  · split at hs <;> first | cases hs | skip
    exact Jvm.Free.XT.lushr X.here hx rfl hd rfl k
  · split at hs <;> first | cases hs | skip
    exact Jvm.Free.XT.lcmp X.here hx rfl hd rfl k
  · split at hs <;> first | cases hs | skip
    exact Jvm.Free.XT.i2l X.here hx rfl hd rfl k
  · split at hs <;> first | cases hs | skip
    exact Jvm.Free.XT.l2i X.here hx rfl hd rfl k
  · split at hs <;> first | cases hs | skip
    exact Jvm.Free.XT.i2b X.here hx rfl hd rfl k
  · split at hs <;> first | cases hs | skip
    exact Jvm.Free.XT.i2c X.here hx rfl hd rfl k
  · split at hs <;> first | cases hs | skip
    exact Jvm.Free.XT.i2s X.here hx rfl hd rfl k
  · split at hs <;> first | cases hs | skip
    exact XS.i2dS X.here hx rfl hd rfl rfl k
  · split at hs <;> first | cases hs | skip
    all_goals exact XS.dup X.here hx rfl hd rfl rfl k
  · split at hs <;> first | cases hs | skip
    all_goals exact Jvm.Free.XT.pop X.here hx rfl hd rfl rfl k
  · split at hs <;> first | cases hs | skip
    all_goals exact Jvm.Free.XT.dupX1 X.here hx rfl hd rfl rfl rfl k
  · split at hs <;> first | cases hs | skip
    · exact Jvm.Free.XT.dup2 X.here hx rfl hd rfl rfl rfl k
    · exact Jvm.Free.XT.dup2 X.here hx rfl hd rfl rfl rfl k
    · exact Jvm.Free.XT.dup2L X.here hx rfl hd rfl k
  · split at hs <;> first | cases hs | skip
    rename_i q; exact XS.goto X.here hx rfl rfl hd (of_decide_eq_true q) rfl k
  · split at hs <;> first | cases hs | skip
    · rename_i q; exact XS.ifnullYes X.here hx rfl rfl hd rfl (of_decide_eq_true q) rfl k
    · exact XS.ifnullNo X.here hx rfl hd rfl k
  · split at hs <;> first | cases hs | skip
    · rename_i q; exact Jvm.Free.XT.ifnonnullYes X.here hx rfl rfl hd rfl (of_decide_eq_true q) rfl k
    · exact Jvm.Free.XT.ifnonnullNo X.here hx rfl hd rfl k
  · split at hs <;> first | cases hs | skip
    rename_i q1
    split at hs <;> (rename_i hc; rw [← if0] at hc; simp only [Option.some.injEq, Prod.mk.injEq] at hs; obtain ⟨rfl, rfl, rfl⟩ := hs)
    · exact XS.ifYes X.here hx rfl rfl hd rfl hc (of_decide_eq_true q1) rfl k
    · exact XS.ifNo X.here hx rfl hd rfl hc k
  · split at hs <;> first | cases hs | skip
    rename_i q1
    split at hs <;> (rename_i hc; simp only [Option.some.injEq, Prod.mk.injEq] at hs; obtain ⟨rfl, rfl, rfl⟩ := hs)
    · exact XS.icmpYes X.here hx rfl rfl hd rfl hc (of_decide_eq_true q1) rfl k
    · exact XS.icmpNo X.here hx rfl hd rfl hc k
  · cases hs
/-- a row of plain instructions -/
def Ej : List (Nat × Instr × Nat) → Nat → Array Slot → List Value → Option (Nat × Array Slot × List Value)
  | [], pc, ls, st => some (pc, ls, st)
  | x :: seg, pc, ls, st => match decide (pc = x.1) with
    | true => (match own_st x.2.1 x.2.2 x.1 ls st with | some (pc', ls', st') => Ej seg pc' ls' st' | none => none)
    | false => none
def own_dec (cd : ByteArray) (seg : List (Nat × Instr × Nat)) : Bool := seg.all fun x => decide (decode cd x.1 = .ok x.2)
theorem own_run_ok (X : Stand p l e R s m args below meth c T locs cells slots) (hx : p.tables.exec = Jvm.exec) (hby : c.code = cd) : ∀ (seg : List (Nat × Instr × Nat)) {pc pc' : Nat} {ls ls' : Array Slot} {st st' : List Value}, own_dec cd seg = true → Ej seg pc ls st = some (pc', ls', st') → ∀ t,
    Steps p.tables e below (T.setTop (mkF m pc' ls' st')) t → Steps p.tables e below (T.setTop (mkF m pc ls st)) t := by
  intro seg
  induction seg with
  | nil =>
    intro pc pc' ls ls' st st' _ hr t k
    simp only [Ej, Option.some.injEq, Prod.mk.injEq] at hr
    obtain ⟨rfl, rfl, rfl⟩ := hr
    exact k
  | cons x seg ih =>
    intro pc pc' ls ls' st st' hd hr t k
    simp only [own_dec, List.all_cons, Bool.and_eq_true, decide_eq_true_eq] at hd
    simp only [Ej] at hr
    split at hr
    · rename_i q
      have q' : pc = x.1 := of_decide_eq_true q
      subst q'
      split at hr
      · rename_i a1 b1 c1 q2
        exact own_st_ok X hx (by rw [hby]; exact hd.1) q2 t (ih hd.2 hr t k)
      · cases hr
    · cases hr
theorem own_seg (C : Bo p s m meth c Z own cd maxL ret nm) (S : Bi p l e R s m args below meth c n0 T h cells slots) (seg : List (Nat × Instr × Nat)) (hd : own_dec cd seg = true) (pc' : Nat) (ls' : Array Slot) (st' : List Value)
    (hr : Ej seg pc ls st = some (pc', ls', st')) (k : Ak p e below En T (mkF m pc' ls' st')) : Ak p e below En T (mkF m pc ls st) := by
  obtain ⟨locs, kk, n, X, -⟩ := S
  exact Bh (own_run_ok X C.1 C.2.1 seg hd hr) k
def own_P : ClassFile.Cond → Int32 → Int32 → Prop
  | .eq, x, y => x = y | .ne, x, y => ¬ x = y | .lt, x, y => x < y | .ge, x, y => ¬ x < y | .gt, x, y => y < x | .le, x, y => ¬ y < x
def own_N : ClassFile.Cond → Int32 → Int32 → Prop
  | .eq, x, y => ¬ x = y | .ne, x, y => x = y | .lt, x, y => ¬ x < y | .ge, x, y => x < y | .gt, x, y => ¬ y < x | .le, x, y => y < x
theorem own_holds (q : ClassFile.Cond) (x y : Int32) : (own_P q x y ∧ if_icmp.holds q x y = true) ∨ (own_N q x y ∧ if_icmp.holds q x y = false) := by
  cases q
  · by_cases g : x = y
    · exact Or.inl ⟨g, (teq g).1⟩
    · exact Or.inr ⟨g, (feq g).1⟩
  · by_cases g : x = y
    · exact Or.inr ⟨g, (teq g).2⟩
    · exact Or.inl ⟨g, (feq g).2⟩
  · by_cases g : x < y
    · exact Or.inl ⟨g, (tlt g).1⟩
    · exact Or.inr ⟨g, (flt g).1⟩
  · by_cases g : x < y
    · exact Or.inr ⟨g, (tlt g).2.1⟩
    · exact Or.inl ⟨g, (flt g).2.1⟩
  · by_cases g : y < x
    · exact Or.inl ⟨g, (tlt g).2.2.1⟩
    · exact Or.inr ⟨g, (flt g).2.2.1⟩
  · by_cases g : y < x
    · exact Or.inr ⟨g, (tlt g).2.2.2⟩
    · exact Or.inl ⟨g, (flt g).2.2.2⟩
theorem own_icmp (C : Bo p s m meth c Z own cd maxL ret nm) (S : Bi p l e R s m args below meth c n0 T h cells slots) {q : ClassFile.Cond} {o : Int} {x y : Int32} (hd : decode cd pc = .ok (.if_icmp q o, 3)) (pc' : Nat) (ho : 0 ≤ (pc : Int) + o) (hp : ((pc : Int) + o).toNat = pc')
    (k1 : own_P q x y → Ak p e below En T (mkF m pc' ls st)) (k2 : own_N q x y → Ak p e below En T (mkF m (pc + 3) ls st)) : Ak p e below En T (mkF m pc ls (.int y :: .int x :: st)) := by
  obtain ⟨locs, kk, n, X, -⟩ := S
  rcases own_holds q x y with ⟨g, hc⟩ | ⟨g, hc⟩
  · exact Bh (fun t k => XS.icmpYes X.here C.1 rfl rfl (By C hd) rfl hc ho hp k) (k1 g)
  · exact Bh (fun t k => XS.icmpNo X.here C.1 rfl (By C hd) rfl hc k) (k2 g)
theorem own_if (C : Bo p s m meth c Z own cd maxL ret nm) (S : Bi p l e R s m args below meth c n0 T h cells slots) {q : ClassFile.Cond} {o : Int} {x : Int32} (hd : decode cd pc = .ok (.ifCond q o, 3)) (pc' : Nat) (ho : 0 ≤ (pc : Int) + o) (hp : ((pc : Int) + o).toNat = pc')
    (k1 : own_P q x 0 → Ak p e below En T (mkF m pc' ls st)) (k2 : own_N q x 0 → Ak p e below En T (mkF m (pc + 3) ls st)) : Ak p e below En T (mkF m pc ls (.int x :: st)) := by
  obtain ⟨locs, kk, n, X, -⟩ := S
  rcases own_holds q x 0 with ⟨g, hc⟩ | ⟨g, hc⟩ <;> rw [← if0] at hc
  · exact Bh (fun t k => XS.ifYes X.here C.1 rfl rfl (By C hd) rfl hc ho hp k) (k1 g)
  · exact Bh (fun t k => XS.ifNo X.here C.1 rfl (By C hd) rfl hc k) (k2 g)
def own_A : ClassFile.ACond → Value → Value → Prop
  | .eq, x, y => x = y | .ne, x, y => ¬ x = y
def own_B : ClassFile.ACond → Value → Value → Prop
  | .eq, x, y => ¬ x = y | .ne, x, y => x = y
theorem own_acmp (C : Bo p s m meth c Z own cd maxL ret nm) (S : Bi p l e R s m args below meth c n0 T h cells slots) {q : ClassFile.ACond} {o : Int} {x y : Value} (hx' : x.isRef = true) (hy' : y.isRef = true) (hd : decode cd pc = .ok (.if_acmp q o, 3)) (pc' : Nat) (ho : 0 ≤ (pc : Int) + o) (hp : ((pc : Int) + o).toNat = pc')
    (k1 : own_A q x y → Ak p e below En T (mkF m pc' ls st)) (k2 : own_B q x y → Ak p e below En T (mkF m (pc + 3) ls st)) : Ak p e below En T (mkF m pc ls (y :: x :: st)) := by
  obtain ⟨locs, kk, n, X, -⟩ := S
  cases q <;> by_cases g : x = y
  · exact Bh (fun t k => Jvm.Free.XT.acmpYes X.here C.1 rfl rfl (By C hd) rfl hx' hy' (Jvm.Free.XT.aa_eq_t g) ho hp k) (k1 g)
  · exact Bh (fun t k => Jvm.Free.XT.acmpNo X.here C.1 rfl (By C hd) rfl hx' hy' (Jvm.Free.XT.aa_eq_f g) k) (k2 g)
  · exact Bh (fun t k => Jvm.Free.XT.acmpNo X.here C.1 rfl (By C hd) rfl hx' hy' (Jvm.Free.XT.aa_ne_f g) k) (k2 g)
  · exact Bh (fun t k => Jvm.Free.XT.acmpYes X.here C.1 rfl rfl (By C hd) rfl hx' hy' (Jvm.Free.XT.aa_ne_t g) ho hp k) (k1 g)
theorem Dc (C : Bo p s m meth c Z own cd maxL ret nm) (S : Bi p l e R s m args below meth c n0 T h cells slots) {x y : Int32} (hd : decode cd pc = .ok (.idiv, 1)) (hy : y ≠ 0) (k : Ak p e below En T (mkF m (pc + 1) ls (.int (x / y) :: st))) : Ak p e below En T (mkF m pc ls (.int y :: .int x :: st)) := by
  obtain ⟨locs, kk, n, X, -⟩ := S
  exact Bh (fun t k => XS.idiv X.here C.1 rfl (By C hd) rfl hy k) k
theorem Dk (C : Bo p s m meth c Z own cd maxL ret nm) (S : Bi p l e R s m args below meth c n0 T h cells slots) {x y : Int32} (hd : decode cd pc = .ok (.irem, 1)) (hy : y ≠ 0) (k : Ak p e below En T (mkF m (pc + 1) ls (.int (x % y) :: st))) : Ak p e below En T (mkF m pc ls (.int y :: .int x :: st)) := by
  obtain ⟨locs, kk, n, X, -⟩ := S
  exact Bh (fun t k => iremM X C.1 rfl (By C hd) rfl hy k) k
theorem own_ldc (C : Bo p s m meth c Z own cd maxL ret nm) (S : Bi p l e R s m args below meth c n0 T h cells slots) {index : Nat} {v : Int32} (w : (Jvm.Cond.constant own index v).before a0 Z = true) (hd : decode cd pc = .ok (.ldc index, 2)) (k : Ak p e below En T (mkF m (pc + 2) ls (.int v :: st))) : Ak p e below En T (mkF m pc ls st) := by
  obtain ⟨locs, kk, n, X, -⟩ := S
  exact Bh (fun t k => X.ldcInt C.1 C.2.2.2.1 (mv C.2.2.2.2.2.2.2 w) (g := mkF m pc ls st) rfl (By C hd) t k) k
theorem Bz (C : Bo p s m meth c Z own cd maxL ret nm) (S : Bi p l e R s m args below meth c n0 T h cells slots) {index : Nat} {v : Int64} (w : (Jvm.Cond.constantLong own index v).before a0 Z = true) (hd : decode cd pc = .ok (.ldc2_w index, 3)) (k : Ak p e below En T (mkF m (pc + 3) ls (.long v :: st))) : Ak p e below En T (mkF m pc ls st) := by
  obtain ⟨locs, kk, n, X, -⟩ := S
  exact Bh (fun t k => X.ldc2Long C.1 C.2.2.2.1 (mv C.2.2.2.2.2.2.2 w) (g := mkF m pc ls st) rfl (By C hd) t k) k
theorem own_getF (C : Bo p s m meth c Z own cd maxL ret nm) (S : Bi p l e R s m args below meth c n0 T h cells slots) {index : Nat} {R0 O n d host : String} {a : Addr} {v : Value} (w : (Jvm.Cond.fieldLink own index R0 n d).before a0 Z = true ∨ (Jvm.Cond.fieldLinkNest own index R0 n d host).before a0 Z = true) (via : Via Z R0 O n d) (FF : Fld Z h a O n d v) (hd : decode cd pc = .ok (.getfield index, 3))
    (k : ∀ T', Bi p l e R s m args below meth c n0 T' h cells slots → Ak p e below En T' (mkF m (pc + 3) ls (v :: st))) : Ak p e below En T (mkF m pc ls (.ref a :: st)) := by
  obtain ⟨locs, kk, nn, X, eT, N, q1, q2⟩ := S
  obtain ⟨T', X', e', stp⟩ := getF X C.1 C.2.2.2.2.2.2.2 C.2.2.2.1 w via eT FF (g := mkF m pc ls (.ref a :: st)) rfl rfl (By C hd)
  exact Bh stp (k T' ⟨_, _, _, X', e', N, q1, q2⟩)
theorem Az (C : Bo p s m meth c Z own cd maxL ret nm) (S : Bi p l e R s m args below meth c n0 T h cells slots) {index : Nat} {R0 O n d : String} {v : Value} (w : (Jvm.Cond.fieldLink own index R0 n d).before a0 Z = true) (via : Via Z R0 O n d) (FF : Sta Z h O n d v) (hd : decode cd pc = .ok (.getstatic index, 3))
    (k : ∀ T', Bi p l e R s m args below meth c n0 T' h cells slots → Ak p e below En T' (mkF m (pc + 3) ls (v :: st))) : Ak p e below En T (mkF m pc ls st) := by
  obtain ⟨locs, kk, nn, X, eT, N, q1, q2⟩ := S
  obtain ⟨T', X', e', stp⟩ := getS X C.1 C.2.2.2.2.2.2.2 (host := "") C.2.2.2.1 w via eT FF (g := mkF m pc ls st) rfl (By C hd)
  exact Bh stp (k T' ⟨_, _, _, X', e', N, q1, q2⟩)
theorem Cs (C : Bo p s m meth c Z own cd maxL ret nm) (S : Bi p l e R s m args below meth c n0 T h cells slots) {index ki : Nat} {R0 O n d host Cl : String} {a : Addr} {v old : Value} {ty : FieldType} (w : (Jvm.Cond.fieldLink own index R0 n d).before a0 Z = true ∨ (Jvm.Cond.fieldLinkNest own index R0 n d host).before a0 Z = true) (via : Via Z R0 O n d) (FF : Fld Z h a O n d old) (E : Exa Z h a Cl)
    (L : (Jvm.Cond.lays Cl O n d).before a0 Z = true ∨ ((Jvm.Cond.laysFinal Cl O n d).before a0 Z = true ∧ own = O ∧ nm = "<init>")) (wi : (Jvm.Cond.instantiable Cl ki).before a0 Z = true) (hty : parseFieldDescriptor d = some ty) (hn : narrow ty v = v) (hf : fits ty v = true) (hge : n0 ≤ a) (hd : decode cd pc = .ok (.putfield index, 3))
    (k : ∀ T' h', Bi p l e R s m args below meth c n0 T' h' cells slots → Wr h h' a (Jvm.RoadKit.slotOf Z O n d) v → Ak p e below En T' (mkF m (pc + 3) ls st)) : Ak p e below En T (mkF m pc ls (v :: .ref a :: st)) := by
  obtain ⟨locs, kk, nn, X, eT, N, q1, q2⟩ := S
  obtain ⟨T', h', X', e', W, stp⟩ := putF X C.1 C.2.2.2.2.2.2.2 C.2.2.2.1 w via eT FF E (L.imp id (fun q => ⟨q.1, q.2.1, C.2.2.2.2.1.trans q.2.2⟩)) wi hty hn hf (g := mkF m pc ls (v :: .ref a :: st)) rfl rfl (By C hd)
  exact Bh stp (k T' h' ⟨_, _, _, X', e', Fr.snoc X' N hge, q1, q2⟩ W)
theorem Ec (C : Bo p s m meth c Z own cd maxL ret nm) (S : Bi p l e R s m args below meth c n0 T h cells slots) {index ki : Nat} {Cl : String} (w : (Jvm.Cond.classLink own index Cl).before a0 Z = true) (wi : (Jvm.Cond.instantiable Cl ki).before a0 Z = true) (wz : (Jvm.Cond.initialized Cl).before a0 Z = true) (hd : decode cd pc = .ok (.new index, 3)) (hc : cells + 1 ≤ R.cells) (hl : slots + ki ≤ R.slots)
    (k : ∀ T' h' a, Bi p l e R s m args below meth c n0 T' h' (cells + 1) (slots + ki) → a = h.size → Ext h h' → Exa Z h' a Cl → (∀ {O nm d : String} {ty : FieldType}, Laid Z a0 Cl O nm d → parseFieldDescriptor d = some ty → Fld Z h' a O nm d (defaultValue ty)) → Ak p e below En T' (mkF m (pc + 3) ls (.ref a :: st))) : Ak p e below En T (mkF m pc ls st) := by
  obtain ⟨locs, kk, nn, X, eT, N, q1, q2⟩ := S
  obtain ⟨T', h', X', e', E, A, D, -, stp⟩ := newO X C.1 C.2.2.2.2.2.2.2 C.2.2.2.1 w wi wz eT (g := mkF m pc ls st) rfl (By C hd) (by omega) (by omega)
  exact Bh stp (k T' h' _ ⟨_, _, _, X', e', N, by omega, by omega⟩ rfl E A D)
theorem Di (C : Bo p s m meth c Z own cd maxL ret nm) (S : Bi p l e R s m args below meth c n0 T h cells slots) {index : Nat} (w1 : (Jvm.Cond.methodLink own index Lib.objectInit).before a0 Z = true) (w2 : (Jvm.Cond.instanceMethod Lib.objectInit).before a0 Z = true) (w3 : (Jvm.Cond.code Lib.objectInit ⟨#[0xb1]⟩ 1 none).before a0 Z = true) {a : Addr} (hsz : ls.size = maxL) (hd : decode cd pc = .ok (.invokespecial index, 3)) (hf : 1 ≤ R.frames) (W : Nat) (hW : (st.map fun v => v.category).sum ≤ W) (hl : W + 12 ≤ R.locals)
    (k : ∀ T', Bi p l e R s m args below meth c n0 T' h cells slots → Ak p e below En T' (mkF m (pc + 3) ls st)) : Ak p e below En T (mkF m pc ls (.ref a :: st)) := by
  obtain ⟨locs, kk, nn, X, eT, N, q1, q2⟩ := S
  obtain ⟨T', X', e', stp⟩ := initO X C.1 C.2.2.2.2.2.2.2 C.2.2.2.1 w1 w2 w3 eT (g := mkF m pc ls (.ref a :: st)) rfl (Ei C hsz) rfl (By C hd) hf (W := W) (by show 2 * 0 + _ ≤ W; omega) hl
  exact Bh stp (k T' ⟨_, _, _, X', e', N, q1, q2⟩)
theorem Dl (C : Bo p s m meth c Z own cd maxL ret nm) (S : Bi p l e R s m args below meth c n0 T h cells slots) {aty : ArrayType} (w : (Jvm.Cond.arrayClass (newarray.typeOf aty)).before a0 Z = true) (hd : decode cd pc = .ok (.newarray aty, 2)) {n : Int32} (hn : ¬ n < 0) (cap : Nat) (hcap : n.toNatClampNeg ≤ cap) (hb : cap * 8 ≤ 536870912) (hc : cells + 1 ≤ R.cells) (hl : slots + cap ≤ R.slots)
    (k : ∀ T' h' a cA, Bi p l e R s m args below meth c n0 T' h' (cells + 1) (slots + cap) → a = h.size → Ext h h' → Arv Z h' a cA (newarray.typeOf aty) n [] (defaultValue (newarray.typeOf aty)) → Ak p e below En T' (mkF m (pc + 2) ls (.ref a :: st))) : Ak p e below En T (mkF m pc ls (.int n :: st)) := by
  obtain ⟨locs, kk, nn, X, eT, N, q1, q2⟩ := S
  obtain ⟨T', h', cA, X', e', E, A, stp⟩ := newP X C.1 C.2.2.2.2.2.2.2 w eT (g := mkF m pc ls (.int n :: st)) rfl (By C hd) rfl hn hcap hb (by omega) (by omega)
  exact Bh stp (k T' h' _ cA ⟨_, _, _, X', e', N, by omega, by omega⟩ rfl E (Arv.new A hn))
theorem Ay (C : Bo p s m meth c Z own cd maxL ret nm) (S : Bi p l e R s m args below meth c n0 T h cells slots) {a : Addr} {ka : ClassId} {ty : FieldType} {N : Int32} {vs : List Value} {dv : Value} (FF : Arv Z h a ka ty N vs dv) (hd : decode cd pc = .ok (.arraylength, 1)) (k : Ak p e below En T (mkF m (pc + 1) ls (.int N :: st))) : Ak p e below En T (mkF m pc ls (.ref a :: st)) := by
  obtain ⟨locs, kk, nn, X, eT, -⟩ := S
  obtain ⟨cl, A, -, sz, hN, -⟩ := FF
  rw [← len_of sz hN] at k
  exact Bh (fun t k => X.arraylength C.1 (by rw [eT]; exact A.1) (State.isArrayOf_alike C.2.2.2.2.2.2.2.alike A.2.1) (g := mkF m pc ls (.ref a :: st)) rfl rfl (By C hd) t k) k
theorem Bg (C : Bo p s m meth c Z own cd maxL ret nm) (S : Bi p l e R s m args below meth c n0 T h cells slots) {a : Addr} {ka : ClassId} {N j : Int32} {vs : List Value} {dv : Value} (FF : Arv Z h a ka .char N vs dv) (hin : ¬ j < 0 ∧ j < N) (v : Value) (hv : vs.getD j.toNatClampNeg dv = v) (hd : decode cd pc = .ok (.caload, 1)) (k : Ak p e below En T (mkF m (pc + 1) ls (v :: st))) : Ak p e below En T (mkF m pc ls (.int j :: .ref a :: st)) := by
  obtain ⟨locs, kk, nn, X, eT, -⟩ := S
  obtain ⟨cl, A, -, sz, hN, H, -⟩ := FF
  exact Bh (fun t k => X.caload C.1 (by rw [eT]; exact A.1) (State.isArrayOf_alike C.2.2.2.2.2.2.2.alike A.2.1) A.2.2 (inb_of sz hin) (Has.at H (inb_of sz hin) hv) (g := mkF m pc ls (.int j :: .ref a :: st)) rfl rfl (By C hd) t k) k
theorem Aw (C : Bo p s m meth c Z own cd maxL ret nm) (S : Bi p l e R s m args below meth c n0 T h cells slots) {a : Addr} {ka : ClassId} {N j : Int32} {vs : List Value} {dv : Value} (FF : Arv Z h a ka .int N vs dv) (hin : ¬ j < 0 ∧ j < N) (v : Value) (hv : vs.getD j.toNatClampNeg dv = v) (hd : decode cd pc = .ok (.iaload, 1)) (k : Ak p e below En T (mkF m (pc + 1) ls (v :: st))) : Ak p e below En T (mkF m pc ls (.int j :: .ref a :: st)) := by
  obtain ⟨locs, kk, nn, X, eT, -⟩ := S
  obtain ⟨cl, A, -, sz, hN, H, -⟩ := FF
  exact Bh (fun t k => X.iaload C.1 (by rw [eT]; exact A.1) (State.isArrayOf_alike C.2.2.2.2.2.2.2.alike A.2.1) A.2.2 (inb_of sz hin) (Has.at H (inb_of sz hin) hv) (g := mkF m pc ls (.int j :: .ref a :: st)) rfl rfl (By C hd) t k) k
theorem As (C : Bo p s m meth c Z own cd maxL ret nm) (S : Bi p l e R s m args below meth c n0 T h cells slots) {a : Addr} {ka : ClassId} {N j : Int32} {vs : List Value} {dv : Value} (FF : Arv Z h a ka .byte N vs dv) (hin : ¬ j < 0 ∧ j < N) (v : Value) (hv : vs.getD j.toNatClampNeg dv = v) (hd : decode cd pc = .ok (.baload, 1)) (k : Ak p e below En T (mkF m (pc + 1) ls (v :: st))) : Ak p e below En T (mkF m pc ls (.int j :: .ref a :: st)) := by
  obtain ⟨locs, kk, nn, X, eT, -⟩ := S
  obtain ⟨cl, A, -, sz, hN, H, -⟩ := FF
  exact Bh (fun t k => X.baloadBytes C.1 (by rw [eT]; exact A.1) (State.isArrayOf_alike C.2.2.2.2.2.2.2.alike A.2.1) A.2.2 (inb_of sz hin) (Has.at H (inb_of sz hin) hv) (g := mkF m pc ls (.int j :: .ref a :: st)) rfl rfl (By C hd) t k) k
theorem Ax (C : Bo p s m meth c Z own cd maxL ret nm) (S : Bi p l e R s m args below meth c n0 T h cells slots) {a : Addr} {ka : ClassId} {N j x : Int32} {vs : List Value} {dv : Value} (FF : Arv Z h a ka .char N vs dv) (hin : ¬ j < 0 ∧ j < N) (i : Nat) (hj : j.toNatClampNeg = i) (hi : i < vs.length) (x' : Int32) (hx' : nar .char x = x') (hge : n0 ≤ a) (hd : decode cd pc = .ok (.castore, 1))
    (k : ∀ T' h', Bi p l e R s m args below meth c n0 T' h' cells slots → Wr h h' a j.toNatClampNeg (.int x') → Arv Z h' a ka .char N (vs.set i (.int x')) dv → Ak p e below En T' (mkF m (pc + 1) ls st)) : Ak p e below En T (mkF m pc ls (.int x :: .int j :: .ref a :: st)) := by
  subst hx'
  obtain ⟨locs, kk, nn, X, eT, N, q1, q2⟩ := S
  obtain ⟨cl, A, ck, sz, hN, H, G⟩ := FF
  obtain ⟨T', h', X', e', W, stp⟩ := stC X C.1 C.2.2.2.2.2.2.2 eT A (inb_of sz hin) (g := mkF m pc ls (.int x :: .int j :: .ref a :: st)) rfl rfl (By C hd)
  exact Bh stp (k T' h' ⟨_, _, _, X', e', Fr.snoc X' N hge, q1, q2⟩ W (Arv.set A ck sz hN H G (fits_nar_char x) W i hj hi))
theorem Aj (C : Bo p s m meth c Z own cd maxL ret nm) (S : Bi p l e R s m args below meth c n0 T h cells slots) {a : Addr} {ka : ClassId} {N j x : Int32} {vs : List Value} {dv : Value} (FF : Arv Z h a ka .byte N vs dv) (hin : ¬ j < 0 ∧ j < N) (i : Nat) (hj : j.toNatClampNeg = i) (hi : i < vs.length) (x' : Int32) (hx' : nar .byte x = x') (hge : n0 ≤ a) (hd : decode cd pc = .ok (.bastore, 1))
    (k : ∀ T' h', Bi p l e R s m args below meth c n0 T' h' cells slots → Wr h h' a j.toNatClampNeg (.int x') → Arv Z h' a ka .byte N (vs.set i (.int x')) dv → Ak p e below En T' (mkF m (pc + 1) ls st)) : Ak p e below En T (mkF m pc ls (.int x :: .int j :: .ref a :: st)) := by
  subst hx'
  obtain ⟨locs, kk, nn, X, eT, N, q1, q2⟩ := S
  obtain ⟨cl, A, ck, sz, hN, H, G⟩ := FF
  obtain ⟨T', h', X', e', W, stp⟩ := stB X C.1 C.2.2.2.2.2.2.2 eT A (inb_of sz hin) (g := mkF m pc ls (.int x :: .int j :: .ref a :: st)) rfl rfl (By C hd)
  exact Bh stp (k T' h' ⟨_, _, _, X', e', Fr.snoc X' N hge, q1, q2⟩ W (Arv.set A ck sz hN H G (fits_nar_byte x) W i hj hi))
theorem Cy (C : Bo p s m meth c Z own cd maxL ret nm) (S : Bi p l e R s m args below meth c n0 T h cells slots) {a : Addr} {ka : ClassId} {N j x : Int32} {vs : List Value} {dv : Value} (FF : Arv Z h a ka .int N vs dv) (hin : ¬ j < 0 ∧ j < N) (i : Nat) (hj : j.toNatClampNeg = i) (hi : i < vs.length) (hge : n0 ≤ a) (hd : decode cd pc = .ok (.iastore, 1))
    (k : ∀ T' h', Bi p l e R s m args below meth c n0 T' h' cells slots → Wr h h' a j.toNatClampNeg (.int x) → Arv Z h' a ka .int N (vs.set i (.int x)) dv → Ak p e below En T' (mkF m (pc + 1) ls st)) : Ak p e below En T (mkF m pc ls (.int x :: .int j :: .ref a :: st)) := by
  obtain ⟨locs, kk, nn, X, eT, N, q1, q2⟩ := S
  obtain ⟨cl, A, ck, sz, hN, H, G⟩ := FF
  obtain ⟨T', h', X', e', W, stp⟩ := stI X C.1 C.2.2.2.2.2.2.2 eT A (inb_of sz hin) (g := mkF m pc ls (.int x :: .int j :: .ref a :: st)) rfl rfl (By C hd)
  exact Bh stp (k T' h' ⟨_, _, _, X', e', Fr.snoc X' N hge, q1, q2⟩ W (Arv.set A ck sz hN H G rfl W i hj hi))
theorem own_cast (C : Bo p s m meth c Z own cd maxL ret nm) (S : Bi p l e R s m args below meth c n0 T h cells slots) {index : Nat} {K : String} {a : Addr} (w : (Jvm.Cond.classLink own index K).before a0 Z = true) (FF : Ins Z h a K true) (hd : decode cd pc = .ok (.checkcast index, 3))
    (k : ∀ T', Bi p l e R s m args below meth c n0 T' h cells slots → Ak p e below En T' (mkF m (pc + 3) ls (.ref a :: st))) : Ak p e below En T (mkF m pc ls (.ref a :: st)) := by
  obtain ⟨locs, kk, nn, X, eT, N, q1, q2⟩ := S
  obtain ⟨T', X', e', stp⟩ := castY X C.1 C.2.2.2.2.2.2.2 C.2.2.2.1 w eT FF (g := mkF m pc ls (.ref a :: st)) rfl rfl (By C hd)
  exact Bh stp (k T' ⟨_, _, _, X', e', N, q1, q2⟩)
theorem Ea (C : Bo p s m meth c Z own cd maxL ret nm) (S : Bi p l e R s m args below meth c n0 T h cells slots) {x y : Int64} (hd : decode cd pc = .ok (.ldiv, 1)) (hy : y ≠ 0) (k : Ak p e below En T (mkF m (pc + 1) ls (.long (x / y) :: st))) : Ak p e below En T (mkF m pc ls (.long y :: .long x :: st)) := by
  obtain ⟨locs, kk, n, X, -⟩ := S
  exact Bh (fun t k => Jvm.Free.XT.ldiv X.here C.1 rfl (By C hd) rfl hy k) k
theorem own_tsi (C : Bo p s m meth c Z own cd maxL ret nm) (S : Bi p l e R s m args below meth c n0 T h cells slots) {df lo hi : Int} {offs : Array Int} {len : Nat} {o : Int} {i : Int32} (hd : decode cd pc = .ok (.tableswitch df lo hi offs, len)) (hin : ¬ (i.toInt < lo ∨ i.toInt > hi)) (hoff : offs[(i.toInt - lo).toNat]? = some o) (ho : 0 ≤ (pc : Int) + o) (pc' : Nat) (hp : ((pc : Int) + o).toNat = pc') (k : Ak p e below En T (mkF m pc' ls st)) : Ak p e below En T (mkF m pc ls (.int i :: st)) := by
  obtain ⟨locs, kk, n, X, -⟩ := S
  exact Bh (fun t k => XS.tswIn X.here C.1 (g := mkF m pc ls (.int i :: st)) rfl rfl (By C hd) rfl hin hoff ho hp k) k
theorem own_tso (C : Bo p s m meth c Z own cd maxL ret nm) (S : Bi p l e R s m args below meth c n0 T h cells slots) {df lo hi : Int} {offs : Array Int} {len : Nat} {i : Int32} (hd : decode cd pc = .ok (.tableswitch df lo hi offs, len)) (hout : i.toInt < lo ∨ i.toInt > hi) (ho : 0 ≤ (pc : Int) + df) (pc' : Nat) (hp : ((pc : Int) + df).toNat = pc') (k : Ak p e below En T (mkF m pc' ls st)) : Ak p e below En T (mkF m pc ls (.int i :: st)) := by
  obtain ⟨locs, kk, n, X, -⟩ := S
  exact Bh (fun t k => XS.tswOut X.here C.1 (g := mkF m pc ls (.int i :: st)) rfl rfl (By C hd) rfl hout ho hp k) k
theorem Et {t : FieldType} (C : Bo p s m meth c Z own cd maxL (some t) nm) (S : Bi p l e R s m args below meth c n0 T h cells slots) {i : Instr} {w : Value} (hd : decode cd pc = .ok (i, 1)) (hn : narrow t w = w)
    (hi : (i = .ireturn ∧ (t = .int ∨ t = .boolean ∨ t = .byte ∨ t = .char ∨ t = .short) ∧ ∃ z, w = .int z) ∨ (i = .lreturn ∧ t = .long ∧ ∃ z, w = .long z) ∨ (i = .dreturn ∧ t = .double ∧ ∃ z, w = .double z) ∨ (i = .freturn ∧ t = .float ∧ ∃ z, w = .float z) ∨ (i = .areturn ∧ t.isReference = true ∧ w.isRef = true))
    (hc : cells ≤ kc) (hs : slots ≤ ks) (hF : F (some w) h) : Ak p e below (Dm s n0 F kc ks) T (mkF m pc ls (w :: st)) := by
  obtain ⟨locs, kk, nn, X, eT, N, q1, q2⟩ := S
  obtain ⟨fs, hr, hrun, hended, hW, hsame⟩ := X.leave (v := some w) (fun q => by rw [C.2.2.2.2.2.1] at q; cases q) C.2.2.2.2.2.2.1
  refine ⟨_, _, retOut X C.1 C.2.2.2.2.2.1 hn hi (By C hd) hr, hrun, hended, _, _, rfl, ⟨?_, N⟩, ⟨_, rfl⟩, hW, hsame.mono (Nat.le_trans q1 hc) (Nat.le_trans q2 hs)⟩
  show F (some w) T.heap
  rw [eT]; exact hF
theorem Bq (C : Bo p s m meth c Z own cd maxL (some .int) nm) (S : Bi p l e R s m args below meth c n0 T h cells slots) {z : Int32} (hd : decode cd pc = .ok (.ireturn, 1)) (hc : cells ≤ kc) (hs : slots ≤ ks) (hF : F (some (.int z)) h) : Ak p e below (Dm s n0 F kc ks) T (mkF m pc ls (.int z :: st)) :=
  Et C S hd rfl (Or.inl ⟨rfl, Or.inl rfl, z, rfl⟩) hc hs hF
theorem own_retZ (C : Bo p s m meth c Z own cd maxL (some .boolean) nm) (S : Bi p l e R s m args below meth c n0 T h cells slots) {z : Int32} (hd : decode cd pc = .ok (.ireturn, 1)) (hz : z &&& 1 = z) (hc : cells ≤ kc) (hs : slots ≤ ks) (hF : F (some (.int z)) h) : Ak p e below (Dm s n0 F kc ks) T (mkF m pc ls (.int z :: st)) :=
  Et C S hd (by show Value.int (z &&& 1) = _; rw [hz]) (Or.inl ⟨rfl, Or.inr (Or.inl rfl), z, rfl⟩) hc hs hF
theorem Do (C : Bo p s m meth c Z own cd maxL (some .char) nm) (S : Bi p l e R s m args below meth c n0 T h cells slots) {z : Int32} (hd : decode cd pc = .ok (.ireturn, 1)) (hz : z.toUInt32.toUInt16.toUInt32.toInt32 = z) (hc : cells ≤ kc) (hs : slots ≤ ks) (hF : F (some (.int z)) h) : Ak p e below (Dm s n0 F kc ks) T (mkF m pc ls (.int z :: st)) :=
  Et C S hd (by show Value.int (z.toUInt32.toUInt16.toUInt32.toInt32) = _; rw [hz]) (Or.inl ⟨rfl, by simp, z, rfl⟩) hc hs hF
theorem Br {t : FieldType} (C : Bo p s m meth c Z own cd maxL (some t) nm) (S : Bi p l e R s m args below meth c n0 T h cells slots) {w : Value} (ht : t.isReference = true) (hr : w.isRef = true) (hd : decode cd pc = .ok (.areturn, 1)) (hc : cells ≤ kc) (hs : slots ≤ ks) (hF : F (some w) h) : Ak p e below (Dm s n0 F kc ks) T (mkF m pc ls (w :: st)) :=
  Et C S hd (by cases w <;> simp [Value.isRef] at hr <;> cases t <;> first | rfl | (simp [FieldType.isReference] at ht)) (by simp [ht, hr]) hc hs hF
theorem Ct (C : Bo p s m meth c Z own cd maxL none nm) (S : Bi p l e R s m args below meth c n0 T h cells slots) (hd : decode cd pc = .ok (.return_, 1)) (hc : cells ≤ kc) (hs : slots ≤ ks) (hF : F none h) : Ak p e below (Dm s n0 F kc ks) T (mkF m pc ls []) := by
  obtain ⟨locs, kk, nn, X, eT, N, q1, q2⟩ := S
  obtain ⟨fs, hr, hrun, hended, hW, hsame⟩ := X.leave (v := none) (fun _ => rfl) C.2.2.2.2.2.2.1
  refine ⟨_, _, X.returnOut C.1 C.2.2.2.2.2.1 (By C hd) hr, hrun, hended, _, _, rfl, ⟨?_, N⟩, ⟨_, rfl⟩, hW, hsame.mono (Nat.le_trans q1 hc) (Nat.le_trans q2 hs)⟩
  show F none T.heap
  rw [eT]; exact hF
def Af (l : Launch) (Z : State) (y : MethodName) (cd : ByteArray) (maxL : Nat) (ret : Option FieldType) (rm : Room) (n0 : Nat) (as' : Array Value) (h0 : Heap) (Q : Option Value → Heap → Prop) : Prop :=
  ∀ ws, MetFree l y (head1 (Jvm.Cond.code y cd maxL ret :: ws) rm) (fun a U => a = as' ∧ Z.Warmed39 U.vm ∧ U.heap = h0) (fun _ _ _ _ _ => True) (fun _ U o U' => ∃ v L, o = .returned v ∧ (Q v U'.heap ∧ Fr n0 L) ∧ FrameEnd U o U' L rm.cells rm.slots)
theorem own_met {y : MethodName} {rm : Room} {as' : Array Value} {h0 : Heap} {Q : Option Value → Heap → Prop} (hp : plainFor y = true) (ls : Array Slot) (hef : ∀ m, entryFrame m as' maxL = mkF m 0 ls [])
    (H : ∀ (p : Program) (e : Env) (s : State) (m : MethodId) (below : List Frame) (meth : Method) (c : Code) (T : State), Bo p s m meth c Z y.cls cd maxL ret y.name → Bi p l e rm s m as' below meth c n0 T h0 0 0 → Ak p e below (Dm s n0 Q rm.cells rm.slots) T (mkF m 0 ls [])) : Af l Z y cd maxL ret rm n0 as' h0 Q := by
  intro ws
  refine MetFree.of_bodySF hp hisR ?_
  intro p e s m args below meth c s₁ Bd hml hP hK
  obtain ⟨rfl, hZ, hh⟩ := hP
  have e0 : s₁.heap = h0 := by rw [← hh, Bd.state]; rfl
  have G := H p e s m below meth c s₁ ⟨Bd.exec, Bd.bytes, hml, findClass_of_methodNamed Bd.named, (name_of_methodNamed Bd.named Bd.method).1, Bd.returns, BodyLoose.notSynchronized Bd, hZ⟩ ⟨_, _, _, Stand.of_body Bd, e0, Fr.nil n0, Nat.le_refl _, Nat.le_refl _⟩
  rw [← hef m] at G
  exact G
/-- who pays a call -/
abbrev Eu (l : Launch) (R : Room) (p : Program) (e : Env) (below : List Frame) (s : State) (args : Array Value) (y : MethodName) (len W : Nat) (as' : Array Value) (h : Heap) (k1 k2 : Nat) (Q : Option Value → Heap → List Loc → Prop) : Prop :=
  Back l R p e below s args y len W (fun P a => a = as' ∧ P.U.heap = h ∧ P.cells + k1 ≤ R.cells ∧ P.slots + k2 ≤ R.slots) (fun P _ v B => ∃ L, Q v B.U.heap L ∧ B.locs = P.locs ++ L ∧ B.cells = P.cells + k1 ∧ B.slots = P.slots + k2)
theorem Af.pay {y : MethodName} {cdy : ByteArray} {maxy : Nat} {rety : Option FieldType} {rm : Room} {as' : Array Value} {Q : Option Value → Heap → Prop} (M : Af l Z y cdy maxy rety rm n0 as' h Q) (C : Bo p s m meth c Z own cd maxL ret nm) {len : Nat} (W : Nat) (wc : (Jvm.Cond.code y cdy maxy rety).before a0 Z = true) (wz : (Jvm.Cond.initialized y.cls).before a0 Z = true) (hf : rm.frames + 1 ≤ R.frames) (hl : W + (maxy + 11) + rm.locals ≤ R.locals) :
    Eu l R p e below s args y len W as' h rm.cells rm.slots (fun v h' L => Q v h' ∧ Fr n0 L) := backOf (Q := fun v h' L => Q v h' ∧ Fr n0 L) (M []) C.2.2.2.2.2.2.2 wc wz hf hl
theorem own_callS (C : Bo p s m meth c Z own cd maxL ret nm) (S : Bi p l e R s m args below meth c n0 T h cells slots) {y : MethodName} {index : Nat} {cdy : ByteArray} {maxy : Nat} {rety : Option FieldType} {W k1 k2 : Nat} {as' : Array Value} {Q : Option Value → Heap → List Loc → Prop}
    (w1 : (Jvm.Cond.methodLink own index y).before a0 Z = true) (w2 : (Jvm.Cond.static y).before a0 Z = true) (w3 : (Jvm.Cond.initialized y.cls).before a0 Z = true) (w4 : (Jvm.Cond.code y cdy maxy rety).before a0 Z = true) (hy : y.cls ≠ "java/lang/invoke/MethodHandle" ∧ y.cls ≠ "java/lang/invoke/VarHandle")
    (hK : Eu l R p e below s args y 3 W as' h k1 k2 Q) (hfr : ∀ v h' L, Q v h' L → Fr n0 L) (argsL rest : List Value) {ps : List FieldType} {rr : Option FieldType} (has : argsL.toArray = as') (hpd : parseMethodDescriptor y.desc = some ⟨ps, rr⟩) (hlen : argsL.length = ps.length) (hstk : st = argsL.reverse ++ rest) (hsz : ls.size = maxL) (hW : (rest.map fun v => v.category).sum ≤ W)
    (hc : cells + k1 ≤ R.cells) (hs : slots + k2 ≤ R.slots) (hd : decode cd pc = .ok (.invokestatic index, 3))
    (k : ∀ T' h' v L, Bi p l e R s m args below meth c n0 T' h' (cells + k1) (slots + k2) → Q v h' L → Ak p e below En T' (mkF m (pc + 3) ls (v.toList ++ rest))) : Ak p e below En T (mkF m pc ls st) := by
  obtain ⟨locs, kk, nn, X, eT, N, q1, q2⟩ := S
  have hZ := C.2.2.2.2.2.2.2
  obtain ⟨v, vm1, B, -, X', ⟨L, hQ, l1, l2, l3⟩, stp⟩ := Jvm.LawKit.callS X C.1 C.2.2.2.1 (mvT hZ w1) (mvT hZ w2) (mvT hZ w3) (mvT hZ w4) hy hK (g := mkF m pc ls st) rfl (Ei C hsz) (argsL := argsL) (rest := rest) (lenOf hpd hlen) hstk (by show 2 * 0 + _ ≤ W; omega) (By C hd) (fun _ _ => ⟨has, eT, by show kk + k1 ≤ _; omega, by show nn + k2 ≤ _; omega⟩)
  refine Bh stp (k B.U _ v L ⟨B.locs, B.cells, B.slots, X', rfl, ?_, ?_, ?_⟩ hQ)
  · rw [l1]; exact Fr.app N (hfr _ _ _ hQ)
  · rw [l2]; show kk + k1 ≤ _; omega
  · rw [l3]; show nn + k2 ≤ _; omega
theorem Cr (C : Bo p s m meth c Z own cd maxL ret nm) (S : Bi p l e R s m args below meth c n0 T h cells slots) {y : MethodName} {index : Nat} {cdy : ByteArray} {maxy : Nat} {W k1 k2 : Nat} {as' : Array Value} {Q : Option Value → Heap → List Loc → Prop}
    (hy1 : y.name = "<init>") (w1 : (Jvm.Cond.methodLink own index y).before a0 Z = true) (w2 : (Jvm.Cond.instanceMethod y).before a0 Z = true) (w4 : (Jvm.Cond.code y cdy maxy none).before a0 Z = true) (hy : y.cls ≠ "java/lang/invoke/MethodHandle" ∧ y.cls ≠ "java/lang/invoke/VarHandle")
    (hK : Eu l R p e below s args y 3 W as' h k1 k2 Q) (hfr : ∀ v h' L, Q v h' L → Fr n0 L) {a : Addr} (argsL rest : List Value) {ps : List FieldType} {rr : Option FieldType} (has : (.ref a :: argsL).toArray = as') (hpd : parseMethodDescriptor y.desc = some ⟨ps, rr⟩) (hlen : argsL.length = ps.length) (hstk : st = argsL.reverse ++ .ref a :: rest) (hsz : ls.size = maxL) (hW : (rest.map fun v => v.category).sum ≤ W)
    (hc : cells + k1 ≤ R.cells) (hs : slots + k2 ≤ R.slots) (hd : decode cd pc = .ok (.invokespecial index, 3))
    (k : ∀ T' h' v L, Bi p l e R s m args below meth c n0 T' h' (cells + k1) (slots + k2) → Q v h' L → Ak p e below En T' (mkF m (pc + 3) ls (v.toList ++ rest))) : Ak p e below En T (mkF m pc ls st) := by
  obtain ⟨locs, kk, nn, X, eT, N, q1, q2⟩ := S
  have hZ := C.2.2.2.2.2.2.2
  obtain ⟨v, vm1, B, -, X', ⟨L, hQ, l1, l2, l3⟩, stp⟩ := X.specialBack C.1 hy1 C.2.2.2.1 (mvT hZ w1) (mvT hZ w2) (mvT hZ w4) hy hK (g := mkF m pc ls st) rfl (Ei C hsz) (Steps.refl _) (a := a) (argsL := argsL) (rest := rest) (lenOf hpd hlen) hstk (by show 2 * 0 + _ ≤ W; omega) (By C hd) (fun _ _ => ⟨has, eT, by show kk + k1 ≤ _; omega, by show nn + k2 ≤ _; omega⟩)
  refine Bh (fun t k => stp.trans k) (k B.U _ v L ⟨B.locs, B.cells, B.slots, X', rfl, ?_, ?_, ?_⟩ hQ)
  · rw [l1]; exact Fr.app N (hfr _ _ _ hQ)
  · rw [l2]; show kk + k1 ≤ _; omega
  · rw [l3]; show nn + k2 ≤ _; omega
theorem own_nf {args : Array Value} {s : State} {C : String} {y y' : MethodName} (hyc : y'.cls = y.cls) (hsel : (Jvm.Cond.selects C y' y').before args s = true) : NotFace s y := fun r0 h0 => by
  obtain ⟨c2, r2, m2, q1, q2, q3, q4, kP, hkP, hkPi⟩ := Cond.selects_spec hsel
  have e1 := findClass_of_methodNamed h0
  have e2 := findClass_of_methodNamed q3
  rw [hyc, e1] at e2
  rw [Option.some.inj e2]
  exact ⟨kP, hkP, hkPi⟩
theorem own_callV (C : Bo p s m meth c Z own cd maxL ret nm) (S : Bi p l e R s m args below meth c n0 T h cells slots) {y z : MethodName} {Cl : String} {index : Nat} {W k1 k2 : Nat} {as' : Array Value} {Q : Option Value → Heap → List Loc → Prop}
    (w1 : (Jvm.Cond.methodLink own index y).before a0 Z = true) (w2 : (Jvm.Cond.declares y).before a0 Z = true) (w3 : (Jvm.Cond.selects Cl y z).before a0 Z = true) {Cl' : String} {y' : MethodName} (w3' : (Jvm.Cond.selects Cl' y' y').before a0 Z = true) (hyc : y'.cls = y.cls) (w4 : (Jvm.Cond.instanceMethod z).before a0 Z = true) (hy : y.cls ≠ "java/lang/invoke/MethodHandle" ∧ y.cls ≠ "java/lang/invoke/VarHandle")
    (hK : Eu l R p e below s args z 3 W as' h k1 k2 Q) (hfr : ∀ v h' L, Q v h' L → Fr n0 L) {a : Addr} (E : Exa Z h a Cl) (argsL rest : List Value) {ps : List FieldType} {rr : Option FieldType} (has : (.ref a :: argsL).toArray = as') (hpd : parseMethodDescriptor y.desc = some ⟨ps, rr⟩) (hlen : argsL.length = ps.length) (hstk : st = argsL.reverse ++ .ref a :: rest) (hsz : ls.size = maxL) (hW : (rest.map fun v => v.category).sum ≤ W)
    (hc : cells + k1 ≤ R.cells) (hs : slots + k2 ≤ R.slots) (hd : decode cd pc = .ok (.invokevirtual index, 3))
    (k : ∀ T' h' v L, Bi p l e R s m args below meth c n0 T' h' (cells + k1) (slots + k2) → Q v h' L → Ak p e below En T' (mkF m (pc + 3) ls (v.toList ++ rest))) : Ak p e below En T (mkF m pc ls st) := by
  obtain ⟨locs, kk, nn, X, eT, N, q1, q2⟩ := S
  have hZ := C.2.2.2.2.2.2.2
  obtain ⟨cq, kq, qa, qb, qc⟩ := isOf (T := T) hZ eT E
  obtain ⟨v, vm1, B, -, X', ⟨L, hQ, l1, l2, l3⟩, stp⟩ := X.virtualBack C.1 C.2.2.2.1 (mvT hZ w1) (mvT hZ w2) (own_nf (args := #[]) hyc (mvT hZ w3')) (mvT hZ w3) (mvT hZ w4) hy hK qa qc (g := mkF m pc ls st) rfl (Ei C hsz) (Steps.refl _) (argsL := argsL) (rest := rest) (lenOf hpd hlen) hstk (by show 2 * 0 + _ ≤ W; omega) (By C hd) (fun _ _ => ⟨has, eT, by show kk + k1 ≤ _; omega, by show nn + k2 ≤ _; omega⟩)
  refine Bh (fun t k => stp.trans k) (k B.U _ v L ⟨B.locs, B.cells, B.slots, X', rfl, ?_, ?_, ?_⟩ hQ)
  · rw [l1]; exact Fr.app N (hfr _ _ _ hQ)
  · rw [l2]; show kk + k1 ≤ _; omega
  · rw [l3]; show nn + k2 ≤ _; omega
theorem Cc (C : Bo p s m meth c Z own cd maxL ret nm) (S : Bi p l e R s m args below meth c n0 T h cells slots) {y : MethodName} {index : Nat} {cdy : ByteArray} {maxy : Nat} {rety : Option FieldType} {W k1 k2 : Nat} {as' : Array Value} {Q : Option Value → Heap → List Loc → Prop}
    (w1 : (Jvm.Cond.methodLink own index y).before a0 Z = true) (w2 : (Jvm.Cond.instanceMethod y).before a0 Z = true) (w3 : (Jvm.Cond.selects y.cls y y).before a0 Z = true) (w4 : (Jvm.Cond.privateMethod y).before a0 Z = true) (w5 : (Jvm.Cond.code y cdy maxy rety).before a0 Z = true) (hy : y.cls ≠ "java/lang/invoke/MethodHandle" ∧ y.cls ≠ "java/lang/invoke/VarHandle")
    (hK : Eu l R p e below s args y 3 W as' h k1 k2 Q) (hfr : ∀ v h' L, Q v h' L → Fr n0 L) {a : Addr} {Cl : String} (E : Exa Z h a Cl) (argsL rest : List Value) {ps : List FieldType} {rr : Option FieldType} (has : (.ref a :: argsL).toArray = as') (hpd : parseMethodDescriptor y.desc = some ⟨ps, rr⟩) (hlen : argsL.length = ps.length) (hstk : st = argsL.reverse ++ .ref a :: rest) (hsz : ls.size = maxL) (hW : (rest.map fun v => v.category).sum ≤ W)
    (hc : cells + k1 ≤ R.cells) (hs : slots + k2 ≤ R.slots) (hd : decode cd pc = .ok (.invokevirtual index, 3))
    (k : ∀ T' h' v L, Bi p l e R s m args below meth c n0 T' h' (cells + k1) (slots + k2) → Q v h' L → Ak p e below En T' (mkF m (pc + 3) ls (v.toList ++ rest))) : Ak p e below En T (mkF m pc ls st) := by
  obtain ⟨locs, kk, nn, X, eT, N, q1, q2⟩ := S
  have hZ := C.2.2.2.2.2.2.2
  obtain ⟨cl, hcl, hns⟩ := E.cell
  obtain ⟨v, vm1, B, -, X', ⟨L, hQ, l1, l2, l3⟩, stp⟩ := X.privateBack C.1 C.2.2.2.1 (mvT hZ w1) (mvT hZ w2) (mvT hZ w3) (Cond.privateMethod_at (mvP (args := args) hZ w4)) (mvT hZ w5) hy hK (g := mkF m pc ls st) rfl (Ei C hsz) (Steps.refl _) (a := a) (cell := cl) (by rw [eT]; exact hcl) hns (argsL := argsL) (rest := rest) (lenOf hpd hlen) hstk (by show 2 * 0 + _ ≤ W; omega) (By C hd) (fun _ _ => ⟨has, eT, by show kk + k1 ≤ _; omega, by show nn + k2 ≤ _; omega⟩)
  refine Bh (fun t k => stp.trans k) (k B.U _ v L ⟨B.locs, B.cells, B.slots, X', rfl, ?_, ?_, ?_⟩ hQ)
  · rw [l1]; exact Fr.app N (hfr _ _ _ hQ)
  · rw [l2]; show kk + k1 ≤ _; omega
  · rw [l3]; show nn + k2 ≤ _; omega
/-- ireturn of a byte -/
theorem Dp (C : Bo p s m meth c Z own cd maxL (some .byte) nm) (S : Bi p l e R s m args below meth c n0 T h cells slots) {z : Int32} (hd : decode cd pc = .ok (.ireturn, 1)) (hz : z.toInt8.toInt32 = z) (hc : cells ≤ kc) (hs : slots ≤ ks) (hF : F (some (.int z)) h) : Ak p e below (Dm s n0 F kc ks) T (mkF m pc ls (.int z :: st)) :=
  Et C S hd (by show Value.int (z.toInt8.toInt32) = _; rw [hz]) (Or.inl ⟨rfl, by simp, z, rfl⟩) hc hs hF
theorem own_refne {a b : Addr} (h : a ≠ b) (q : (Value.ref a) = .ref b) : False := h (Value.ref.inj q)
/-- newarray, with the array's class by name -/
theorem Co (C : Bo p s m meth c Z own cd maxL ret nm) (S : Bi p l e R s m args below meth c n0 T h cells slots) {aty : ArrayType} {ad : String} (had : "[" ++ (newarray.typeOf aty).toString = ad) (w : (Jvm.Cond.arrayClass (newarray.typeOf aty)).before a0 Z = true) (hd : decode cd pc = .ok (.newarray aty, 2)) {n : Int32} (hn : ¬ n < 0) (cap : Nat) (hcap : n.toNatClampNeg ≤ cap) (hb : cap * 8 ≤ 536870912) (hc : cells + 1 ≤ R.cells) (hl : slots + cap ≤ R.slots)
    (k : ∀ T' h' a cA, Bi p l e R s m args below meth c n0 T' h' (cells + 1) (slots + cap) → a = h.size → Ext h h' → Arv Z h' a cA (newarray.typeOf aty) n [] (defaultValue (newarray.typeOf aty)) → Exa Z h' a ad → Ak p e below En T' (mkF m (pc + 2) ls (.ref a :: st))) : Ak p e below En T (mkF m pc ls (.int n :: st)) := by
  obtain ⟨locs, kk, nn, X, eT, N, q1, q2⟩ := S
  obtain ⟨T', h', cA, X', e', E, A, B, stp⟩ := newPE X C.1 C.2.2.2.2.2.2.2 w eT (g := mkF m pc ls (.int n :: st)) rfl (By C hd) rfl hn hcap hb (by omega) (by omega) had
  exact Bh stp (k T' h' _ cA ⟨_, _, _, X', e', N, by omega, by omega⟩ rfl E (Arv.new A hn) B)
/-- clone() of an array -/
theorem own_clone (C : Bo p s m meth c Z own cd maxL ret nm) (S : Bi p l e R s m args below meth c n0 T h cells slots) {index : Nat} {ad : String} (w1 : (Jvm.Cond.methodLink own index ⟨ad, "clone", "()Ljava/lang/Object;"⟩).before a0 Z = true) (w2 : (Jvm.Cond.sameMethod ad "java/lang/Object" "clone" "()Ljava/lang/Object;").before a0 Z = true) (w3 : (Jvm.Cond.native ⟨"java/lang/Object", "clone", "()Ljava/lang/Object;"⟩).before a0 Z = true)
    (w4 : (Jvm.Cond.instanceMethod ⟨"java/lang/Object", "clone", "()Ljava/lang/Object;"⟩).before a0 Z = true) (w5 : (Jvm.Cond.selects ad ⟨ad, "clone", "()Ljava/lang/Object;"⟩ ⟨"java/lang/Object", "clone", "()Ljava/lang/Object;"⟩).before a0 Z = true) (w6 : (Jvm.Cond.castable ad "java/lang/Cloneable").before a0 Z = true)
    {a : Addr} {ka : ClassId} {ty : FieldType} {z : Int32} {vs : List Value} {dv : Value} (A : Arv Z h a ka ty z vs dv) (E : Exa Z h a ad) (hsz : ls.size = maxL) (hd : decode cd pc = .ok (.invokevirtual index, 3)) (hf : 1 ≤ R.frames) (W cap : Nat) (hW : (st.map fun v => v.category).sum ≤ W) (hl : W + 14 ≤ R.locals) (hcap : z.toNatClampNeg ≤ cap) (hc : cells + 1 ≤ R.cells) (hsl : slots + cap ≤ R.slots)
    (k : ∀ T' h' b, Bi p l e R s m args below meth c n0 T' h' (cells + 1) (slots + cap) → b = h.size → Ext h h' → Arv Z h' b ka ty z vs dv → Exa Z h' b ad → Ak p e below En T' (mkF m (pc + 3) ls (.ref b :: st))) : Ak p e below En T (mkF m pc ls (.ref a :: st)) := by
  obtain ⟨locs, kk, nn, X, eT, N, q1, q2⟩ := S
  obtain ⟨T', h', X', e', Ex, A', E', stp⟩ := cloneH X C.1 C.2.2.2.2.2.2.2 C.2.2.2.1 w1 w2 w3 w4 w5 w6 eT A.arh E (g := mkF m pc ls (.ref a :: st)) rfl (Ei C hsz) rfl (By C hd) hf (W := W) (cap := cap) (by show 2 * 0 + _ ≤ W; omega) hl hcap (by omega) (by omega)
  exact Bh stp (k T' h' _ ⟨_, _, _, X', e', N, by omega, by omega⟩ rfl Ex A' E')
end OwnKit

section OwnKitW
open Jvm.Free.SB Jvm.Free.SBG
variable {p : Program} {l : Launch} {e : Env} {R : Room} {s : State} {m : MethodId} {args : Array Value} {below : List Frame} {meth : Method} {c : Code} {T : State} {locs : List Loc} {cells slots : Nat} {Z : State} {a0 : Array Value} {h : Heap} {own : String} {cd : ByteArray} {maxL : Nat} {ret : Option FieldType} {nm : String} {n0 : Nat} {F : Option Value → Heap → Prop} {kc ks : Nat} {En : Outcome → State → Prop} {pc : Nat} {ls : Array Slot} {st : List Value} {EL : List (String × Nat)} {G : List Addr}
def Ek (s : State) (n0 : Nat) (Z : State) (EL : List (String × Nat)) (F : Option Value → Heap → Prop) (kc ks : Nat) (o : Outcome) (s₂ : State) : Prop :=
  ∃ v L, o = .returned v ∧ (F v s₂.heap ∧ Fr n0 L) ∧ CHr Z EL s.vm s.heap s₂.vm s₂.heap ∧ ReturnedEndW s o s₂ L kc ks
def Dh (p : Program) (meth : Method) (c : Code) (Z : State) (a0 : Array Value) (EL : List (String × Nat)) (cd : ByteArray) (maxL : Nat) (ret : Option FieldType) (nm : String) : Prop :=
  p.tables.exec = Jvm.exec ∧ c.code = cd ∧ c.maxLocals = maxL ∧ meth.name = nm ∧ meth.sig.returnType = ret ∧ meth.locks = false ∧ EW Z a0 EL ∧ ∀ a ∈ Bundle.stringAtoms, a.before a0 Z = true
def Cz (p : Program) (l : Launch) (e : Env) (R : Room) (s : State) (m : MethodId) (args : Array Value) (below : List Frame) (meth : Method) (c : Code) (n0 : Nat) (Z : State) (EL : List (String × Nat)) (own : String) (T : State) (h : Heap) (G : List Addr) (cells slots : Nat) : Prop :=
  ∃ vm0 k0, Bi p l e R (s.setVm vm0) m args below meth c n0 T h cells slots ∧ s.Since vm0 k0 ∧ k0 ≤ h.size ∧ Z.Warmed39 vm0 ∧ vm0.findClass own = some m.cls ∧ CHr Z EL s.vm s.heap vm0 h ∧ ∀ x ∈ G, x < h.size ∧ Safe Z EL vm0 h x
/-- between two loads the walk is a narrow one, over the start with the tables at hand; 'rb' leads back -/
theorem Bv (C : Dh p meth c Z a0 EL cd maxL ret nm) (S : Cz p l e R s m args below meth c n0 Z EL own T h G cells slots) {g : JFrame}
    (k : ∀ vm0, Bo p (s.setVm vm0) m meth c Z own cd maxL ret nm → Bi p l e R (s.setVm vm0) m args below meth c n0 T h cells slots →
      (∀ T' h' c' s' ws N, Bi p l e R (s.setVm vm0) m args below meth c n0 T' h' c' s' → Keep h h' ws → (∀ x ∈ ws, x ∈ G) → (∀ x ∈ N, h.size ≤ x ∧ x < h'.size) → Cz p l e R s m args below meth c n0 Z EL own T' h' (N ++ G) c' s') → Ak p e below En T g) : Ak p e below En T g := by
  obtain ⟨vm0, k0, S0, hS, hk, hZ, ho, hC, hG⟩ := S
  refine k vm0 ⟨C.1, C.2.1, C.2.2.1, ho, C.2.2.2.1, C.2.2.2.2.1, C.2.2.2.2.2.1, hZ⟩ S0 fun T' h' c' s' ws N S' K hws hN => ?_
  have hs : ∀ x ∈ ws, Safe Z EL vm0 h x := fun x hx => (hG x (hws x hx)).2
  refine ⟨vm0, k0, S', hS, Nat.le_trans hk K.1, hZ, ho, hC.trans (CHr.keep K hs hC.1), fun x hx => ?_⟩
  rcases List.mem_append.mp hx with hx | hx
  · exact ⟨(hN x hx).2, Safe.keep K hs hC.1 (Safe.new (hN x hx).1)⟩
  · exact ⟨Nat.lt_of_lt_of_le (hG x hx).1 K.1, Safe.keep K hs hC.1 (hG x hx).2⟩
/-- the array of a String constant is a byte[] -/
theorem own_litB {vm : Vm} {own : String} {index : Nat} {u : Array UInt16} {a b : Addr} {kb : ClassId} {z : Int32} {vs : List Value} {dv : Value} (hal : Z.vm.Alike vm) (H : CHv Z EL vm h) (hmem : (own, index) ∈ EL) (hB : Booksv vm own index u a) (V : Fld Z h a "java/lang/String" "value" "[B" (.ref b)) (A : Arv Z h b kb .byte z vs dv) : Exa Z h b "[B" := by
  obtain ⟨q, rfl, F⟩ := SlB.of (H _ hmem u a hB)
  have hd := F.hd
  have ha := F.ha
  obtain ⟨cS, ⟨⟨-, -, -, ⟨c1, k1, i1, f1, -⟩, -, -, -, v1, -⟩, -⟩, -, hb, -⟩ := F
  obtain ⟨cell, cf, k, i, f, e1, e2, -, -, -, -, e3⟩ := V
  have ec : cell = q.sC := Option.some.inj (e1.symm.trans ha)
  obtain ⟨k', z4⟩ := ff_back (U := Wst Z vm h) hal f1
  have e4 := e2.symm.trans z4
  simp only [Option.some.injEq, Prod.mk.injEq] at e4
  rw [ec, e4.2.2.2, v1] at e3
  have eb : q.sd = b := by simpa using e3
  subst eb
  obtain ⟨cl, A0, -⟩ := A
  have ecl : cl = q.SA := Option.some.inj (A0.1.symm.trans hd)
  have hst := A0.plain
  obtain ⟨-, k9, hk9, comp, hkind⟩ := A0.2.1
  refine ⟨cl, k9, A0.1, ?_, hk9, hst, fun q => by rw [hkind] at q; cases q⟩
  rw [ecl, ← hal.findClass]; exact hb
theorem own_books {vm : Vm} {own text : String} {index : Nat} {a : Addr} {mc : ClassId} (hW : Z.Warmed39 vm) (ho : vm.findClass own = some mc) (w : (Jvm.Cond.stringLink own index text).before a0 Z = true) (L : Lit (s.setVm vm) own index a) : ∃ u, Booksv vm own index u a := by
  obtain ⟨k0, cf, i, u, h1, h2, h3, h4, -⟩ := Cond.stringLink_spec (args := a0) (s := Wst Z vm Z.heap) ho (mvS (s := Wst Z vm Z.heap) (args := a0) hW w)
  have h1' : vm.classes[mc]? = some k0 := h1
  have q : (s.setVm vm).resolvedAt? own index = some (.string a) := L
  simp only [State.resolvedAt?, Option.bind_eq_bind] at q
  rw [show (s.setVm vm).vm.findClass own = some mc from ho] at q
  simp only [Option.bind_some] at q
  rw [show (s.setVm vm).vm.classes[mc]? = some k0 from h1'] at q
  simp only [Option.bind_some] at q
  refine ⟨u, mc, k0, cf, i, ho, h1', h2, h3, h4, Or.inl ?_⟩
  cases hr : k0.resolved[index]? with
  | none => rw [hr] at q; cases q
  | some o => rw [hr] at q; cases o with
    | none => cases q
    | some r => simpa using q
theorem own_ldcWE (C : Dh p meth c Z a0 EL cd maxL ret nm) (S : Cz p l e R s m args below meth c n0 Z EL own T h G cells slots) {index : Nat} {text : String} (w : (Jvm.Cond.stringLink own index text).before a0 Z = true) (hmem : (own, index) ∈ EL) {vs : List Value} {z : Int32} (ht : (∀ c ∈ text.toList, c.toNat < 256) ∧ text.toList.map (fun c => Value.int (Jvm.Lit.byteI c.toNat.toUInt16)) = vs) (hz : ¬ z < 0) (hl : z.toNatClampNeg = vs.length)
    (hd : decode cd pc = .ok (.ldc index, 2)) (n : Nat) (hn : 4 * text.toList.length ≤ n) (hbig : n ≤ 536870912) (hc : cells + 2 ≤ R.cells) (hl' : slots + (n + 4) ≤ R.slots)
    (k : ∀ T' h' a b kb, Cz p l e R s m args below meth c n0 Z EL own T' h' G (cells + 2) (slots + (n + 4)) → Ext h h' → Exa Z h' a "java/lang/String" → Fld Z h' a "java/lang/String" "coder" "B" (.int 0) → Fld Z h' a "java/lang/String" "value" "[B" (.ref b) → Arv Z h' b kb .byte z vs (.int 0) → (∀ x ∈ G, x ≠ a ∧ x ≠ b) → Exa Z h' b "[B" → Ak p e below En T' (mkF m (pc + 2) ls (.ref a :: st))) : Ak p e below En T (mkF m pc ls st) := by
  obtain ⟨vm0, k0, ⟨locs, kk, nn, X, eT, N, q1, q2⟩, hS, hk, hZ, ho, hC, hG⟩ := S
  obtain ⟨a, T', h', k1, b, kb, X', e', E, hS', hk', hZ', ho', x1, x2, x3, x4, x5, x6, hC', hL, hne, stp⟩ := ldcCH X C.1 hZ ho w C.2.2.2.2.2.2.2 eT hS hk C.2.2.2.2.2.2.1 hmem hC.1 ht hz hl (g := mkF m pc ls st) rfl (by rw [C.2.1]; exact hd) hn hbig (by omega) (by omega)
  have hG' : ∀ x ∈ G, x < h'.size ∧ Safe Z EL T'.vm h' x := fun x hx => ⟨Nat.lt_of_lt_of_le (hG x hx).1 E.1, hC'.safe (hG x hx).1 (hG x hx).2⟩
  exact Bh stp (k T' h' a b kb ⟨T'.vm, k1, ⟨locs, _, _, X', e', N, by omega, by omega⟩, hS', hk', hZ', ho', hC.trans hC', hG'⟩ E x1 x2 x3 x4 (fun x hx => hne x (hG' x hx).2) (by obtain ⟨u, hB⟩ := own_books (s := s) hZ' ho' w hL; exact own_litB hZ'.alike hC'.1 hmem hB x3 x4))
/-- ldc of any String constant: which text it is isn't said -/
theorem Dq (C : Dh p meth c Z a0 EL cd maxL ret nm) (S : Cz p l e R s m args below meth c n0 Z EL own T h G cells slots) {index : Nat} {text : String} (w : (Jvm.Cond.stringLink own index text).before a0 Z = true)
    (hd : decode cd pc = .ok (.ldc index, 2)) (n : Nat) (hn : 4 * text.toList.length ≤ n) (hbig : n ≤ 536870912) (hc : cells + 2 ≤ R.cells) (hl' : slots + (n + 4) ≤ R.slots)
    (k : ∀ T' h' a, Cz p l e R s m args below meth c n0 Z EL own T' h' G (cells + 2) (slots + (n + 4)) → Ext h h' → Ak p e below En T' (mkF m (pc + 2) ls (.ref a :: st))) : Ak p e below En T (mkF m pc ls st) := by
  obtain ⟨vm0, k0, ⟨locs, kk, nn, X, eT, N, q1, q2⟩, hS, hk, hZ, ho, hC, hG⟩ := S
  obtain ⟨a, T', h', k1, X', e', E, hS', hk', hZ', ho', hC', hL, stp⟩ := ldcOH X C.1 hZ ho w C.2.2.2.2.2.2.2 eT hS hk C.2.2.2.2.2.2.1 hC.1 (g := mkF m pc ls st) rfl (by rw [C.2.1]; exact hd) hn hbig (by omega) (by omega)
  have hG' : ∀ x ∈ G, x < h'.size ∧ Safe Z EL T'.vm h' x := fun x hx => ⟨Nat.lt_of_lt_of_le (hG x hx).1 E.1, hC'.safe (hG x hx).1 (hG x hx).2⟩
  exact Bh stp (k T' h' a ⟨T'.vm, k1, ⟨locs, _, _, X', e', N, by omega, by omega⟩, hS', hk', hZ', ho', hC.trans hC', hG'⟩ E)
theorem own_endW (C : Dh p meth c Z a0 EL cd maxL ret nm) (S : Cz p l e R s m args below meth c n0 Z EL own T h G cells slots) {v : Option Value} (hv : meth.sig.returnType = none → v = none) {g : JFrame}
    (hst : ∀ locs kk nn vm0 fs, Stand p l e R (s.setVm vm0) m args below meth c T locs kk nn → (∀ (f : JFrame) (acts : List Action), f.method = m → f.locked = none → f.entered = [] → (doReturn e (T.setTop f) acts v).1 = T.setFrames fs) → Steps p.tables e below (T.setTop g) (T.setFrames fs)) (hc : cells ≤ kc) (hs : slots ≤ ks) (hF : F v h) : Ak p e below (Ek s n0 Z EL F kc ks) T g := by
  obtain ⟨vm0, k0, ⟨locs, kk, nn, X, eT, N, q1, q2⟩, hS, hk, hZ, ho, hC, hG⟩ := S
  obtain ⟨fs, hr, hrun, hended, hret⟩ := X.leaveW hS (by rw [eT]; exact hk) hv C.2.2.2.2.2.1
  refine ⟨_, _, hst locs kk nn vm0 fs X hr, hrun, hended, v, locs, rfl, ⟨?_, N⟩, ?_, ?_⟩
  · show F v T.heap
    rw [eT]; exact hF
  · show CHr Z EL s.vm s.heap T.vm T.heap
    rw [eT]
    exact hC.trans (CHv.at X hZ C.2.2.2.2.2.2.1 hC.1)
  · exact ⟨hret.1, hret.2.1, hret.2.2.1, hret.2.2.2.mono (Nat.le_trans q1 hc) (Nat.le_trans q2 hs)⟩
theorem own_retW {t : FieldType} (C : Dh p meth c Z a0 EL cd maxL (some t) nm) (S : Cz p l e R s m args below meth c n0 Z EL own T h G cells slots) {i : Instr} {w : Value} (hd : decode cd pc = .ok (i, 1)) (hn : narrow t w = w)
    (hi : (i = .ireturn ∧ (t = .int ∨ t = .boolean ∨ t = .byte ∨ t = .char ∨ t = .short) ∧ ∃ z, w = .int z) ∨ (i = .lreturn ∧ t = .long ∧ ∃ z, w = .long z) ∨ (i = .dreturn ∧ t = .double ∧ ∃ z, w = .double z) ∨ (i = .freturn ∧ t = .float ∧ ∃ z, w = .float z) ∨ (i = .areturn ∧ t.isReference = true ∧ w.isRef = true))
    (hc : cells ≤ kc) (hs : slots ≤ ks) (hF : F (some w) h) : Ak p e below (Ek s n0 Z EL F kc ks) T (mkF m pc ls (w :: st)) :=
  own_endW C S (fun q => by rw [C.2.2.2.2.1] at q; cases q) (fun locs kk nn vm0 fs X hr => retOut X C.1 C.2.2.2.2.1 hn hi (by rw [C.2.1]; exact hd) hr) hc hs hF
theorem Dj (C : Dh p meth c Z a0 EL cd maxL (some .boolean) nm) (S : Cz p l e R s m args below meth c n0 Z EL own T h G cells slots) {z : Int32} (hd : decode cd pc = .ok (.ireturn, 1)) (hz : z &&& 1 = z) (hc : cells ≤ kc) (hs : slots ≤ ks) (hF : F (some (.int z)) h) : Ak p e below (Ek s n0 Z EL F kc ks) T (mkF m pc ls (.int z :: st)) :=
  own_retW C S hd (by show Value.int (z &&& 1) = _; rw [hz]) (Or.inl ⟨rfl, Or.inr (Or.inl rfl), z, rfl⟩) hc hs hF
theorem Dg {t : FieldType} (C : Dh p meth c Z a0 EL cd maxL (some t) nm) (S : Cz p l e R s m args below meth c n0 Z EL own T h G cells slots) {w : Value} (ht : t.isReference = true) (hr : w.isRef = true) (hd : decode cd pc = .ok (.areturn, 1)) (hc : cells ≤ kc) (hs : slots ≤ ks) (hF : F (some w) h) : Ak p e below (Ek s n0 Z EL F kc ks) T (mkF m pc ls (w :: st)) :=
  own_retW C S hd (by cases w <;> simp [Value.isRef] at hr <;> cases t <;> first | rfl | (simp [FieldType.isReference] at ht)) (by simp [ht, hr]) hc hs hF
theorem own_retVW (C : Dh p meth c Z a0 EL cd maxL none nm) (S : Cz p l e R s m args below meth c n0 Z EL own T h G cells slots) (hd : decode cd pc = .ok (.return_, 1)) (hc : cells ≤ kc) (hs : slots ≤ ks) (hF : F none h) : Ak p e below (Ek s n0 Z EL F kc ks) T (mkF m pc ls []) :=
  own_endW C S (fun _ => rfl) (fun locs kk nn vm0 fs X hr => X.returnOut C.1 C.2.2.2.2.1 (by rw [C.2.1]; exact hd) hr) hc hs hF
def Cp (l : Launch) (Z : State) (EL : List (String × Nat)) (y : MethodName) (cd : ByteArray) (maxL : Nat) (ret : Option FieldType) (rm : Room) (n0 : Nat) (as' : Array Value) (h0 : Heap) (G0 : List Addr) (Q : Option Value → Heap → Prop) : Prop :=
  ∀ ws, MetFree l y (head1 (Jvm.Cond.code y cd maxL ret :: ws) rm) (fun a U => a = as' ∧ Z.Warmed39 U.vm ∧ U.heap = h0 ∧ CHv Z EL U.vm h0 ∧ ∀ x ∈ G0, x < h0.size ∧ Safe Z EL U.vm h0 x) (fun _ _ _ _ _ => True)
    (fun _ U o U' => ∃ v L, o = .returned v ∧ (Q v U'.heap ∧ Fr n0 L) ∧ CHr Z EL U.vm U.heap U'.vm U'.heap ∧ ReturnedEndW U o U' L rm.cells rm.slots)
theorem Da {y : MethodName} {rm : Room} {as' : Array Value} {h0 : Heap} {G0 : List Addr} {Q : Option Value → Heap → Prop} (hEL : EW Z a0 EL) (wS : ∀ a ∈ Bundle.stringAtoms, a.before a0 Z = true) (hp : plainFor y = true) (ls : Array Slot) (hef : ∀ m, entryFrame m as' maxL = mkF m 0 ls [])
    (H : ∀ (p : Program) (e : Env) (s : State) (m : MethodId) (below : List Frame) (meth : Method) (c : Code) (T : State), Dh p meth c Z a0 EL cd maxL ret y.name → Cz p l e rm s m as' below meth c n0 Z EL y.cls T h0 G0 0 0 → Ak p e below (Ek s n0 Z EL Q rm.cells rm.slots) T (mkF m 0 ls [])) : Cp l Z EL y cd maxL ret rm n0 as' h0 G0 Q := by
  intro ws
  refine MetFree.of_bodySF hp hisR ?_
  intro p e s m args below meth c s₁ Bd hml hP hK
  obtain ⟨rfl, hZ, hh, hC, hG⟩ := hP
  have e0 : s₁.heap = h0 := by rw [← hh, Bd.state]; rfl
  have G := H p e s m below meth c s₁ ⟨Bd.exec, Bd.bytes, hml, (name_of_methodNamed Bd.named Bd.method).1, Bd.returns, BodyLoose.notSynchronized Bd, hEL, wS⟩
    ⟨s.vm, h0.size, ⟨_, _, _, Stand.of_body Bd, e0, Fr.nil n0, Nat.le_refl _, Nat.le_refl _⟩, (State.WarmedH.refl s).since _, Nat.le_refl _, hZ, findClass_of_methodNamed Bd.named, by rw [hh]; exact CHr.refl hC, hG⟩
  rw [← hef m] at G
  exact G
theorem own_payW {vm0 : Vm} {y : MethodName} {cdy : ByteArray} {maxy : Nat} {rety : Option FieldType} {rm : Room} {as' : Array Value} {G0 : List Addr} {Q : Option Value → Heap → Prop} (M : Cp l Z EL y cdy maxy rety rm n0 as' h G0 Q) (hZ : Z.Warmed39 vm0) {len W : Nat} (wc : (Jvm.Cond.code y cdy maxy rety).before a0 Z = true) (wz : (Jvm.Cond.initialized y.cls).before a0 Z = true) (hf : rm.frames + 1 ≤ R.frames) (hl : W + (maxy + 11) + rm.locals ≤ R.locals) (hEL : EW Z a0 EL) (H : CHv Z EL vm0 h) (hG : ∀ x ∈ G0, x < h.size ∧ Safe Z EL vm0 h x) :
    BackS l R p e below (s.setVm vm0) args y len W (fun A a => a = as' ∧ A.U.heap = h ∧ A.cells + rm.cells ≤ R.cells ∧ A.slots + rm.slots ≤ R.slots)
      (fun A _ v B => ∃ L, (Q v B.U.heap ∧ Fr n0 L) ∧ B.locs = A.locs ++ L ∧ B.cells = A.cells + rm.cells ∧ B.slots = A.slots + rm.slots ∧ CHr Z EL vm0 h B.U.vm B.U.heap) :=
  BackS.of_freeW (bytes := cdy) (maxL := maxy) (ret := rety) (E := fun _ first o t L k n => k = rm.cells ∧ n = rm.slots ∧ (∃ v, o = .returned v ∧ (Q v t.heap ∧ Fr n0 L)) ∧ CHr Z EL first.vm first.heap t.vm t.heap) (M []) hf hl
    (fun m meth c A a Y hp => have hU : Z.Warmed39 A.U.vm := wtrans (s := s.setVm vm0) hZ Y.warmed
      ⟨by show (Cond.and _ .tt).before a A.U = true; rw [Cond.before_and, mv hU wc]; rfl, mv hU wc, mv hU wz, hp.2.2.1, hp.2.2.2⟩)
    (fun m meth c A a g mk Y hp => ⟨hp.1, wtrans (s := s.setVm vm0) hZ Y.warmed, hp.2.1, (CHv.at Y hZ hEL H).1, fun x hx => ⟨(hG x hx).1, (CHv.at Y hZ hEL H).safe (hG x hx).1 (hG x hx).2⟩⟩) (fun _ _ _ _ _ _ _ _ _ => trivial)
    (fun _ _ _ _ ⟨v, L, h1, h2, h3, h4⟩ => ⟨L, _, _, h4, rfl, rfl, ⟨v, h1, h2⟩, h3⟩)
    (fun m meth c A a g mk v t L k n Y hp _ _ ⟨e1, e2, ⟨v', e3, e4⟩, e5⟩ => by
      cases e3; subst e1 e2
      refine ⟨L, e4, rfl, rfl, rfl, (CHv.at Y hZ hEL H).trans ?_⟩
      rw [← hp.2.1]; exact e5)
theorem own_backW {T : State} {vm0 : Vm} {k0 : Nat} {B : Pt} {Q : Option Value → Heap → Prop} {v : Option Value} {L : List Loc} {k1 k2 kk nn : Nat} (hS : s.Since vm0 k0) (hk : k0 ≤ h.size) (hZ : Z.Warmed39 vm0) (ho : vm0.findClass own = some m.cls) (hC : CHr Z EL s.vm s.heap vm0 h) (hG : ∀ x ∈ G, x < h.size ∧ Safe Z EL vm0 h x) (N : Fr n0 locs) (q1 : kk ≤ cells) (q2 : nn ≤ slots)
    (X' : Stand p l e R ((s.setVm vm0).setVm B.U.vm) m args below meth c B.U B.locs B.cells B.slots) (h2 : (s.setVm vm0).Since B.U.vm B.U.heap.size) (hg : h.size ≤ B.U.heap.size) (hQ : Q v B.U.heap ∧ Fr n0 L) (l1 : B.locs = locs ++ L) (l2 : B.cells = kk + k1) (l3 : B.slots = nn + k2) (hC' : CHr Z EL vm0 h B.U.vm B.U.heap) :
    Cz p l e R s m args below meth c n0 Z EL own B.U B.U.heap G (cells + k1) (slots + k2) := by
  obtain ⟨X1, hS1, hZ1, ho1⟩ := rebS hS hk X' h2 hg hZ ho
  exact ⟨B.U.vm, _, ⟨B.locs, B.cells, B.slots, X1, rfl, by rw [l1]; exact Fr.app N hQ.2, by omega, by omega⟩, hS1, Nat.le_refl _, hZ1, ho1, hC.trans hC', fun x hx => ⟨Nat.lt_of_lt_of_le (hG x hx).1 hg, hC'.safe (hG x hx).1 (hG x hx).2⟩⟩
theorem Db (C : Dh p meth c Z a0 EL cd maxL ret nm) (S : Cz p l e R s m args below meth c n0 Z EL own T h G cells slots) {y : MethodName} {index : Nat} {cdy : ByteArray} {maxy : Nat} {rety : Option FieldType} {rm : Room} {as' : Array Value} {G0 : List Addr} {Q : Option Value → Heap → Prop}
    (w1 : (Jvm.Cond.methodLink own index y).before a0 Z = true) (w2 : (Jvm.Cond.static y).before a0 Z = true) (w3 : (Jvm.Cond.initialized y.cls).before a0 Z = true) (w4 : (Jvm.Cond.code y cdy maxy rety).before a0 Z = true) (hy : y.cls ≠ "java/lang/invoke/MethodHandle" ∧ y.cls ≠ "java/lang/invoke/VarHandle")
    (M : Cp l Z EL y cdy maxy rety rm n0 as' h G0 Q) (hG0 : ∀ x ∈ G0, x ∈ G) (W : Nat) (hf : rm.frames + 1 ≤ R.frames) (hlo : W + (maxy + 11) + rm.locals ≤ R.locals) (argsL rest : List Value) {ps : List FieldType} {rr : Option FieldType} (has : argsL.toArray = as') (hpd : parseMethodDescriptor y.desc = some ⟨ps, rr⟩) (hlen : argsL.length = ps.length) (hstk : st = argsL.reverse ++ rest) (hsz : ls.size = maxL) (hW : (rest.map fun v => v.category).sum ≤ W)
    (hc : cells + rm.cells ≤ R.cells) (hs : slots + rm.slots ≤ R.slots) (hd : decode cd pc = .ok (.invokestatic index, 3))
    (k : ∀ T' h' v, Cz p l e R s m args below meth c n0 Z EL own T' h' G (cells + rm.cells) (slots + rm.slots) → h.size ≤ h'.size → Q v h' → Ak p e below En T' (mkF m (pc + 3) ls (v.toList ++ rest))) : Ak p e below En T (mkF m pc ls st) := by
  obtain ⟨vm0, k0, ⟨locs, kk, nn, X, eT, N, q1, q2⟩, hS, hk, hZ, ho, hC, hG⟩ := S
  obtain ⟨v, vm1, B, -, X', h2, hg, ⟨L, hQ, l1, l2, l3, hC'⟩, stp⟩ := callSS X C.1 ho (mvT (s := s.setVm vm0) hZ w1) (mvT (s := s.setVm vm0) hZ w2) (mvT (s := s.setVm vm0) hZ w3) (mvT (s := s.setVm vm0) hZ w4) hy (own_payW M hZ w4 w3 hf hlo C.2.2.2.2.2.2.1 hC.1 fun x hx => hG x (hG0 x hx)) (g := mkF m pc ls st) rfl (by rw [C.2.2.1]; exact hsz) (argsL := argsL) (rest := rest) (lenOf hpd hlen) hstk (by show 2 * 0 + _ ≤ W; omega) (by rw [C.2.1]; exact hd) (fun _ _ => ⟨has, eT, by show kk + _ ≤ _; omega, by show nn + _ ≤ _; omega⟩)
  rw [eT] at hg
  exact Bh (fun t k => stp.trans k) (k B.U _ v (own_backW (T := T) hS hk hZ ho hC hG N q1 q2 X' h2 hg hQ l1 l2 l3 hC') hg hQ.1)
theorem own_callIW (C : Dh p meth c Z a0 EL cd maxL ret nm) (S : Cz p l e R s m args below meth c n0 Z EL own T h G cells slots) {y : MethodName} {index : Nat} {cdy : ByteArray} {maxy : Nat} {rm : Room} {as' : Array Value} {G0 : List Addr} {Q : Option Value → Heap → Prop}
    (hy1 : y.name = "<init>") (w1 : (Jvm.Cond.methodLink own index y).before a0 Z = true) (w2 : (Jvm.Cond.instanceMethod y).before a0 Z = true) (w3 : (Jvm.Cond.initialized y.cls).before a0 Z = true) (w4 : (Jvm.Cond.code y cdy maxy none).before a0 Z = true) (hy : y.cls ≠ "java/lang/invoke/MethodHandle" ∧ y.cls ≠ "java/lang/invoke/VarHandle")
    (M : Cp l Z EL y cdy maxy none rm n0 as' h G0 Q) (hG0 : ∀ x ∈ G0, x ∈ G) (W : Nat) (hf : rm.frames + 1 ≤ R.frames) (hlo : W + (maxy + 11) + rm.locals ≤ R.locals) {a : Addr} (argsL rest : List Value) {ps : List FieldType} {rr : Option FieldType} (has : (.ref a :: argsL).toArray = as') (hpd : parseMethodDescriptor y.desc = some ⟨ps, rr⟩) (hlen : argsL.length = ps.length) (hstk : st = argsL.reverse ++ .ref a :: rest) (hsz : ls.size = maxL) (hW : (rest.map fun v => v.category).sum ≤ W)
    (hc : cells + rm.cells ≤ R.cells) (hs : slots + rm.slots ≤ R.slots) (hd : decode cd pc = .ok (.invokespecial index, 3))
    (k : ∀ T' h' v, Cz p l e R s m args below meth c n0 Z EL own T' h' G (cells + rm.cells) (slots + rm.slots) → h.size ≤ h'.size → Q v h' → Ak p e below En T' (mkF m (pc + 3) ls (v.toList ++ rest))) : Ak p e below En T (mkF m pc ls st) := by
  obtain ⟨vm0, k0, ⟨locs, kk, nn, X, eT, N, q1, q2⟩, hS, hk, hZ, ho, hC, hG⟩ := S
  obtain ⟨v, vm1, B, -, X', h2, hg, ⟨L, hQ, l1, l2, l3, hC'⟩, stp⟩ := X.specialBackS C.1 hy1 ho (mvT (s := s.setVm vm0) hZ w1) (mvT (s := s.setVm vm0) hZ w2) (mvT (s := s.setVm vm0) hZ w4) hy (own_payW M hZ w4 w3 hf hlo C.2.2.2.2.2.2.1 hC.1 fun x hx => hG x (hG0 x hx)) (g := mkF m pc ls st) rfl (by rw [C.2.2.1]; exact hsz) (Steps.refl _) (a := a) (argsL := argsL) (rest := rest) (lenOf hpd hlen) hstk (by show 2 * 0 + _ ≤ W; omega) (by rw [C.2.1]; exact hd) (fun _ _ => ⟨has, eT, by show kk + _ ≤ _; omega, by show nn + _ ≤ _; omega⟩)
  rw [eT] at hg
  exact Bh (fun t k => stp.trans k) (k B.U _ v (own_backW (T := T) hS hk hZ ho hC hG N q1 q2 X' h2 hg hQ l1 l2 l3 hC') hg hQ.1)
end OwnKitW
section OwnKitP
open Jvm.Free.SB Jvm.Free.SBG
variable {p : Program} {l : Launch} {e : Env} {R : Room} {s : State} {m : MethodId} {args : Array Value} {below : List Frame} {meth : Method} {c : Code} {T : State} {locs : List Loc} {cells slots : Nat} {Z : State} {a0 : Array Value} {h : Heap} {own : String} {cd : ByteArray} {maxL : Nat} {ret : Option FieldType} {nm : String} {n0 : Nat} {F : Option Value → Heap → Prop} {kc ks : Nat} {En : Outcome → State → Prop} {pc : Nat} {ls : Array Slot} {st : List Value} {EL : List (String × Nat)} {G : List Addr} {CL : List (String × Nat × Nat)} {P1 P2 : Nat} {fC fS : Vm → Nat}
def own_bkB (Z : State) (vm : Vm) (o : String) (i : Nat) : Bool := match (Z.setVm vm).resolvedAt? o i with
  | some (.string _) => true
  | _ => false
def own_bk (Z : State) (vm : Vm) (o : String) (i : Nat) : Prop := ∃ a, Lit (Z.setVm vm) o i a
theorem own_bk_iff {vm : Vm} {o : String} {i : Nat} : own_bkB Z vm o i = true ↔ own_bk Z vm o i := by
  unfold own_bkB own_bk Lit
  cases hr : (Z.setVm vm).resolvedAt? o i with
  | none => simp
  | some r => cases r <;> simp
instance own_bk_dec (Z : State) (vm : Vm) (o : String) (i : Nat) : Decidable (own_bk Z vm o i) := decidable_of_iff _ own_bk_iff
def own_pt (Z : State) (vm : Vm) (f : String × Nat × Nat → Nat) : List (String × Nat × Nat) → Nat
  | [] => 0
  | x :: r => (if own_bk Z vm x.1 x.2.1 then 0 else f x) + own_pt Z vm f r
def own_pC (Z : State) (CL : List (String × Nat × Nat)) (vm : Vm) : Nat := own_pt Z vm (fun _ => 2) CL
def own_pS (Z : State) (CL : List (String × Nat × Nat)) (vm : Vm) : Nat := own_pt Z vm (fun x => x.2.2) CL
def own_FP (Z : State) (CL : List (String × Nat × Nat)) (fC fS : Vm → Nat) : Prop := (∀ vm, fC vm = own_pC Z CL vm) ∧ ∀ vm, fS vm = own_pS Z CL vm
theorem own_FP.eq (h : own_FP Z CL fC fS) : fC = own_pC Z CL ∧ fS = own_pS Z CL := ⟨funext h.1, funext h.2⟩
end OwnKitP
section OwnKitS
variable {p : Program} {l : Launch} {e : Env} {R : Room} {s : State} {m : MethodId} {args : Array Value} {below : List Frame} {meth : Method} {c : Code} {T : State} {locs : List Loc} {cells slots : Nat} {Z : State} {a0 : Array Value} {h : Heap} {own : String} {cd : ByteArray} {maxL : Nat} {ret : Option FieldType} {nm : String} {n0 : Nat} {F : Option Value → Heap → Prop} {kc ks : Nat} {En : Outcome → State → Prop} {pc : Nat} {ls : Array Slot} {st : List Value} {EL : List (String × Nat)} {G : List Addr} {CL : List (String × Nat × Nat)} {P1 P2 : Nat} {fC fS : Vm → Nat} {ps : List FieldType} {rr : Option FieldType}
variable {y z : MethodName} {index : Nat} {cdy : ByteArray} {maxy : Nat} {rety : Option FieldType} {f r1 r2 k1 k2 lo rc rs lo' f' : Nat} {as' : Array Value} {G0 : List Addr} {Q : Option Value → Heap → Prop} {rm : Room} {vm : Vm}
abbrev Ao (a0 : Array Value) (Z : State) : Prop := ∀ d ∈ tables_1, d.before a0 Z = true
abbrev Aa (n : Int32) : Slot := .val (.int n)
abbrev Ab (a : Addr) : Slot := .val (.ref a)
theorem Cn {α : Type _} {L : List α} {x : α} (i : Nat) (h : L[i]? = some x := by exact rfl) : x ∈ L := List.mem_of_getElem? h
theorem At {α : Type _} {P : Prop} {L : List α} {x : α} (i : Nat) (h : L[i]? = some x := by exact rfl) : x ∈ L ∨ P := Or.inl (List.mem_of_getElem? h)
theorem Ar {h0 : Heap} (ls : Array Slot) (H : ∀ (p : Program) (e : Env) (s : State) (m : MethodId) (below : List Frame) (meth : Method) (c : Code) (T : State), Bo p s m meth c Z y.cls cd maxL ret y.name → Bi p l e rm s m as' below meth c n0 T h0 0 0 → Ak p e below (Dm s n0 Q rm.cells rm.slots) T (mkF m 0 ls [])) (hp : plainFor y = true := by decide +kernel) (hef : ∀ m, entryFrame m as' maxL = mkF m 0 ls [] := by intro m; first | (simp [entryFrame, mkF, argsToLocals, Value.category]; done) | rfl) : Af l Z y cd maxL ret rm n0 as' h0 Q := own_met hp ls hef H
theorem Ac (C : Bo p s m meth c Z own cd maxL ret nm) (S : Bi p l e R s m args below meth c n0 T h cells slots) (seg : List (Nat × Instr × Nat)) (pc' : Nat) (ls' : Array Slot) (st' : List Value)
    (k : Ak p e below En T (mkF m pc' ls' st')) (hr : Ej seg pc ls st = some (pc', ls', st') := by exact rfl) (hd : own_dec cd seg = true := by decide +kernel) : Ak p e below En T (mkF m pc ls st) := own_seg C S seg hd pc' ls' st' hr k
theorem Bj (C : Bo p s m meth c Z own cd maxL ret nm) (S : Bi p l e R s m args below meth c n0 T h cells slots) (q : ClassFile.Cond) (o : Int) {x y : Int32} (pc' : Nat)
    (k1 : own_P q x y → Ak p e below En T (mkF m pc' ls st)) (k2 : own_N q x y → Ak p e below En T (mkF m (pc + 3) ls st)) (hd : decode cd pc = .ok (.if_icmp q o, 3) := by decide +kernel) (ho : 0 ≤ (pc : Int) + o := by decide) (hp : ((pc : Int) + o).toNat = pc' := by decide) : Ak p e below En T (mkF m pc ls (.int y :: .int x :: st)) := own_icmp C S hd pc' ho hp k1 k2
theorem Ba (C : Bo p s m meth c Z own cd maxL ret nm) (S : Bi p l e R s m args below meth c n0 T h cells slots) (q : ClassFile.Cond) (o : Int) {x : Int32} (pc' : Nat)
    (k1 : own_P q x 0 → Ak p e below En T (mkF m pc' ls st)) (k2 : own_N q x 0 → Ak p e below En T (mkF m (pc + 3) ls st)) (hd : decode cd pc = .ok (.ifCond q o, 3) := by decide +kernel) (ho : 0 ≤ (pc : Int) + o := by decide) (hp : ((pc : Int) + o).toNat = pc' := by decide) : Ak p e below En T (mkF m pc ls (.int x :: st)) := own_if C S hd pc' ho hp k1 k2
theorem Cb (C : Bo p s m meth c Z own cd maxL ret nm) (S : Bi p l e R s m args below meth c n0 T h cells slots) (hw : ∀ d ∈ tables_1, d.before a0 Z = true) (i1 : Nat) {O n d : String} {a : Addr} {v : Value} (FF : Fld Z h a O n d v)
    (k : ∀ T', Bi p l e R s m args below meth c n0 T' h cells slots → Ak p e below En T' (mkF m (pc + 3) ls (v :: st))) (w : tables_1[i1]? = some (Jvm.Cond.fieldLink own index O n d) := by exact rfl) (hd : decode cd pc = .ok (.getfield index, 3) := by decide +kernel) : Ak p e below En T (mkF m pc ls (.ref a :: st)) := own_getF C S (host := "") (Or.inl (ow hw i1 w)) Via.refl FF hd k
theorem Ah (C : Bo p s m meth c Z own cd maxL ret nm) (S : Bi p l e R s m args below meth c n0 T h cells slots) (hw : ∀ d ∈ tables_1, d.before a0 Z = true) (i1 i2 i3 i4 : Nat) (M : Af l Z y cdy maxy rety rm n0 as' h Q) (W : Nat) (argsL rest : List Value) {ds : String} (hpd : parseMethodDescriptor ds = some ⟨ps, rr⟩)
    (k : ∀ T' h' v L, Bi p l e R s m args below meth c n0 T' h' (cells + rm.cells) (slots + rm.slots) → Q v h' ∧ Fr n0 L → Ak p e below En T' (mkF m (pc + 3) ls (v.toList ++ rest)))
    (w1 : tables_1[i1]? = some (Jvm.Cond.methodLink own index y) := by exact rfl) (w2 : tables_1[i2]? = some (Jvm.Cond.static y) := by exact rfl) (w3 : tables_1[i3]? = some (Jvm.Cond.initialized y.cls) := by exact rfl) (w4 : tables_1[i4]? = some (Jvm.Cond.code y cdy maxy rety) := by exact rfl) (hy : y.cls ≠ "java/lang/invoke/MethodHandle" ∧ y.cls ≠ "java/lang/invoke/VarHandle" := by decide)
    (hf : rm.frames + 1 ≤ R.frames := by decide) (hl : W + (maxy + 11) + rm.locals ≤ R.locals := by decide) (has : argsL.toArray = as' := by exact rfl) (hds : y.desc = ds := by exact rfl) (hlen : argsL.length = ps.length := by exact rfl) (hstk : st = argsL.reverse ++ rest := by exact rfl) (hsz : ls.size = maxL := by exact rfl) (hW : (rest.map fun v => v.category).sum ≤ W := by exact Am rfl) (hc : cells + rm.cells ≤ R.cells := by decide) (hs : slots + rm.slots ≤ R.slots := by decide) (hd : decode cd pc = .ok (.invokestatic index, 3) := by decide +kernel) : Ak p e below En T (mkF m pc ls st) :=
  own_callS C S (ow hw i1 w1) (ow hw i2 w2) (ow hw i3 w3) (ow hw i4 w4) hy (Af.pay M C W (ow hw i4 w4) (ow hw i3 w3) hf hl) (fun _ _ _ q => q.2) argsL rest has (hds ▸ hpd) hlen hstk hsz hW hc hs hd k
theorem Al (C : Bo p s m meth c Z own cd maxL ret nm) (S : Bi p l e R s m args below meth c n0 T h cells slots) (hw : ∀ d ∈ tables_1, d.before a0 Z = true) (i1 i2 i3 i4 i5 i6 i7 : Nat) (M : Af l Z z cdy maxy rety rm n0 as' h Q) (W : Nat) {a : Addr} {Cl : String} (E : Exa Z h a Cl) (argsL rest : List Value) {ds : String} (hpd : parseMethodDescriptor ds = some ⟨ps, rr⟩)
    (k : ∀ T' h' v L, Bi p l e R s m args below meth c n0 T' h' (cells + rm.cells) (slots + rm.slots) → Q v h' ∧ Fr n0 L → Ak p e below En T' (mkF m (pc + 3) ls (v.toList ++ rest))) {Cl' : String} {y' : MethodName}
    (w1 : tables_1[i1]? = some (Jvm.Cond.methodLink own index y) := by exact rfl) (w2 : tables_1[i2]? = some (Jvm.Cond.declares y) := by exact rfl) (w3 : tables_1[i3]? = some (Jvm.Cond.selects Cl y z) := by exact rfl) (w3' : tables_1[i4]? = some (Jvm.Cond.selects Cl' y' y') := by exact rfl) (w4 : tables_1[i5]? = some (Jvm.Cond.instanceMethod z) := by exact rfl) (w5 : tables_1[i6]? = some (Jvm.Cond.code z cdy maxy rety) := by exact rfl) (w6 : tables_1[i7]? = some (Jvm.Cond.initialized z.cls) := by exact rfl) (hyc : y'.cls = y.cls := by exact rfl) (hy : y.cls ≠ "java/lang/invoke/MethodHandle" ∧ y.cls ≠ "java/lang/invoke/VarHandle" := by decide)
    (hf : rm.frames + 1 ≤ R.frames := by decide) (hl : W + (maxy + 11) + rm.locals ≤ R.locals := by decide) (has : (.ref a :: argsL).toArray = as' := by exact rfl) (hds : y.desc = ds := by exact rfl) (hlen : argsL.length = ps.length := by exact rfl) (hstk : st = argsL.reverse ++ .ref a :: rest := by exact rfl) (hsz : ls.size = maxL := by exact rfl) (hW : (rest.map fun v => v.category).sum ≤ W := by exact Am rfl) (hc : cells + rm.cells ≤ R.cells := by decide) (hs : slots + rm.slots ≤ R.slots := by decide) (hd : decode cd pc = .ok (.invokevirtual index, 3) := by decide +kernel) : Ak p e below En T (mkF m pc ls st) :=
  own_callV C S (ow hw i1 w1) (ow hw i2 w2) (ow hw i3 w3) (ow hw i4 w3') hyc (ow hw i5 w4) hy (Af.pay M C W (ow hw i6 w5) (ow hw i7 w6) hf hl) (fun _ _ _ q => q.2) E argsL rest has (hds ▸ hpd) hlen hstk hsz hW hc hs hd k
end OwnKitS

theorem Au (x : Int32) : nar .byte x.toInt8.toInt32 = x.toInt8.toInt32 := by
  have h := Jvm.Free.XT.narrow_b x
  exact Value.int.inj h
theorem own_and255 (x : Int32) : ¬ (x &&& (255 : Int32)) < 0 ∧ ¬ (255 : Int32) < (x &&& (255 : Int32)) := by
  have h := c_and x (255 : Int32) (by decide)
  rw [Int32.lt_iff_toInt_lt, Int32.lt_iff_toInt_lt]
  have e1 : (255 : Int32).toInt = 255 := rfl
  have e2 : (0 : Int32).toInt = 0 := rfl
  omega
theorem Ev {i : Nat} (h : i ≤ 4000) : ¬ Int32.ofNat i < 0 ∧ (Int32.ofNat i).toNatClampNeg = i := by
  have e : (Int32.ofNat i).toInt = i := Int32.toInt_ofNat_of_lt (by omega)
  refine ⟨?_, ?_⟩
  · rw [Int32.lt_iff_toInt_lt, e]
    have e0 : (0 : Int32).toInt = 0 := rfl
    omega
  · simp only [Int32.toNatClampNeg, e]; omega
def own_Ch (r : Int32) : Prop := (¬ r < 0 ∧ ¬ (255 : Int32) < r) ∧ nar .char r = r ∧ r.toUInt32.toUInt16.toUInt32.toInt32 = r
theorem own_Ch.of (x : Int32) : own_Ch (x &&& (255 : Int32)) := ⟨own_and255 x, i2c_mask x, i2c_mask x⟩
theorem own_oN {n : Nat} (h : n ≤ 4000) : (Int32.ofNat n).toInt = n ∧ (Int32.ofNat n).toNatClampNeg = n := by
  have e : (Int32.ofNat n).toInt = n := Int32.toInt_ofNat_of_lt (by omega)
  exact ⟨e, (Ev h).2⟩
abbrev Cm : List (String × Nat) := consts_1
theorem De {a b : Nat} : Int32.ofNat a ||| Int32.ofNat b = Int32.ofNat (a ||| b) := by
  apply Int32.toBitVec_inj.mp
  exact (BitVec.ofNat_or).symm
theorem Dz {a b : Nat} : Int32.ofNat a &&& Int32.ofNat b = Int32.ofNat (a &&& b) := by
  apply Int32.toBitVec_inj.mp
  exact (BitVec.ofNat_and).symm
theorem Ed {a : Nat} {b : Int32} (k : Nat) (hb : b.toBitVec.smod 32 = BitVec.ofNat 32 k) (hk : k < 32) : Int32.ofNat a <<< b = Int32.ofNat (a * 2 ^ k) := by
  apply Int32.toBitVec_inj.mp
  rw [Int32.toBitVec_shiftLeft, hb]
  show BitVec.ofNat 32 a <<< BitVec.ofNat 32 k = BitVec.ofNat 32 (a * 2 ^ k)
  apply BitVec.eq_of_toNat_eq
  rw [BitVec.shiftLeft_eq', BitVec.toNat_shiftLeft, BitVec.toNat_ofNat, BitVec.toNat_ofNat, BitVec.toNat_ofNat, Nat.mod_eq_of_lt (show k < 2 ^ 32 by omega), Nat.shiftLeft_eq, Nat.mod_mul_mod]
theorem own_shr {a : Nat} {b : Int32} (k : Nat) (ha : a < 2 ^ 31) (hb : b.toBitVec.smod 32 = BitVec.ofNat 32 k) (hk : k < 32) : Int32.ofNat a >>> b = Int32.ofNat (a / 2 ^ k) := by
  apply Int32.toBitVec_inj.mp
  rw [Int32.toBitVec_shiftRight, hb]
  show (BitVec.ofNat 32 a).sshiftRight' (BitVec.ofNat 32 k) = BitVec.ofNat 32 (a / 2 ^ k)
  have hm : (BitVec.ofNat 32 a).msb = false := by
    rw [BitVec.msb_eq_false_iff_two_mul_lt, BitVec.toNat_ofNat, Nat.mod_eq_of_lt (by omega)]; omega
  rw [BitVec.sshiftRight_eq', BitVec.sshiftRight_eq_of_msb_false hm]
  apply BitVec.eq_of_toNat_eq
  rw [BitVec.toNat_ushiftRight, BitVec.toNat_ofNat, BitVec.toNat_ofNat, BitVec.toNat_ofNat, Nat.mod_eq_of_lt (show k < 2 ^ 32 by omega), Nat.shiftRight_eq_div_pow, Nat.mod_eq_of_lt (show a < 2 ^ 32 by omega), Nat.mod_eq_of_lt]
  exact Nat.lt_of_le_of_lt (Nat.div_le_self _ _) (by omega)
theorem Er {a : Nat} : (Int32.ofNat a).toInt8 = Int8.ofNat a := by
  simp
theorem Cg {a b : Nat} (h : a % 256 = b % 256) : (Int8.ofNat a).toInt32 = (Int8.ofNat b).toInt32 := by
  congr 1
  apply Int8.toBitVec_inj.mp
  show BitVec.ofNat 8 a = BitVec.ofNat 8 b
  apply BitVec.eq_of_toNat_eq
  rw [BitVec.toNat_ofNat, BitVec.toNat_ofNat]; exact h
theorem own_t32 {z : Int64} {n : Nat} (h : z.toBitVec = BitVec.ofNat 64 n) : z.toInt32 = Int32.ofNat n := by
  apply Int32.toBitVec_inj.mp
  show BitVec.signExtend 32 z.toBitVec = BitVec.ofNat 32 n
  rw [h, BitVec.signExtend_eq_setWidth_of_le _ (by decide)]
  apply BitVec.eq_of_toNat_eq
  rw [BitVec.toNat_setWidth, BitVec.toNat_ofNat, BitVec.toNat_ofNat, Nat.mod_mod_of_dvd]
  exact ⟨2 ^ 32, by decide⟩
theorem own_m63 (y : Int64) : (y &&& 63).toInt32 = Int32.ofNat (y.toBitVec.toNat % 64) := by
  apply own_t32
  show y.toBitVec &&& 63#64 = _
  apply BitVec.eq_of_toNat_eq
  rw [BitVec.toNat_and, BitVec.toNat_ofNat, BitVec.toNat_ofNat]
  have e : y.toBitVec.toNat &&& 63 % 2 ^ 64 = y.toBitVec.toNat % 64 := Nat.and_two_pow_sub_one_eq_mod y.toBitVec.toNat 6
  rw [e]; omega
/-- an arithmetic shift: the low bits are those of the unsigned one -/
theorem own_sr {v s : Int64} (k w : Nat) (hs : s.toBitVec.smod 64 = BitVec.ofNat 64 k) (hk : k + w ≤ 64) : (v >>> s).toBitVec.toNat % 2 ^ w = v.toBitVec.toNat / 2 ^ k % 2 ^ w := by
  rw [Int64.toBitVec_shiftRight, hs]
  apply Nat.eq_of_testBit_eq
  intro i
  rw [Nat.testBit_mod_two_pow, Nat.testBit_mod_two_pow, ← Nat.shiftRight_eq_div_pow, Nat.testBit_shiftRight]
  by_cases hi : i < w
  · simp only [hi, decide_true, Bool.true_and]
    rw [BitVec.sshiftRight_eq', BitVec.toNat_ofNat, Nat.mod_eq_of_lt (show k < 2 ^ 64 by omega)]
    show (v.toBitVec.sshiftRight k).getLsbD i = v.toBitVec.getLsbD (k + i)
    rw [BitVec.getLsbD_sshiftRight]
    have h1 : k + i < 64 := by omega
    have h2 : ¬ 64 ≤ i := by omega
    simp [h1, h2]
  · simp [hi]
theorem own_t8 (y : Int64) : y.toInt32.toInt8 = Int8.ofNat (y.toBitVec.toNat % 256) := by
  apply Int8.toBitVec_inj.mp
  show BitVec.signExtend 8 (BitVec.signExtend 32 y.toBitVec) = BitVec.ofNat 8 _
  rw [BitVec.signExtend_eq_setWidth_of_le _ (by decide), BitVec.signExtend_eq_setWidth_of_le _ (by decide)]
  apply BitVec.eq_of_toNat_eq
  rw [BitVec.toNat_setWidth, BitVec.toNat_setWidth, BitVec.toNat_ofNat]
  omega
/-- four sextets of W -/
theorem El (a b c d : Nat) (hb : b < 64) (hc : c < 64) (hd : d < 64) : (((a * 2 ^ 18) ||| (b * 2 ^ 12)) ||| (c * 2 ^ 6)) ||| d = a * 2 ^ 18 + b * 2 ^ 12 + c * 2 ^ 6 + d := by
  have e1 : a * 2 ^ 18 ||| b * 2 ^ 12 = 2 ^ 18 * a + b * 2 ^ 12 := by
    rw [Nat.two_pow_add_eq_or_of_lt (by omega), Nat.mul_comm a]
  have e2 : (a * 2 ^ 18 ||| b * 2 ^ 12) ||| c * 2 ^ 6 = 2 ^ 12 * (64 * a + b) + c * 2 ^ 6 := by
    rw [Nat.two_pow_add_eq_or_of_lt (by omega), e1]; congr 1; omega
  rw [e2, show 2 ^ 12 * (64 * a + b) + c * 2 ^ 6 = 2 ^ 6 * (64 * (64 * a + b) + c) by omega, ← Nat.two_pow_add_eq_or_of_lt (by omega)]; omega
def Ag (x : Int32) : Prop := ∃ k, k < 64 ∧ x = Int32.ofNat k
def Bf (Z : State) (n0 : Nat) (G1 : Int32) (G3 : Value) (U8 I8 TB DE : Addr) : Prop := (Sta Z Z.heap "java/lang/String" "COMPACT_STRINGS" "Z" (.int G1)) ∧ (Sta Z Z.heap "jdk/internal/util/Preconditions" "SIOOBE_FORMATTER" "Ljava/util/function/BiFunction;" G3) ∧ (¬ G1 = (0 : Int32)) ∧ (G3.isRef = true) ∧ (Sta Z Z.heap "sun/nio/cs/UTF_8" "INSTANCE" "Lsun/nio/cs/UTF_8;" (.ref U8)) ∧ (Sta Z Z.heap "sun/nio/cs/ISO_8859_1" "INSTANCE" "Lsun/nio/cs/ISO_8859_1;" (.ref I8)) ∧ (Sta Z Z.heap "java/util/Base64$Decoder" "fromBase64URL" "[I" (.ref TB)) ∧ (Sta Z Z.heap "com/example/torrey/torrey/Base64Url" "DECODER" "Ljava/util/Base64$Decoder;" (.ref DE)) ∧ (I8 ≠ U8) ∧ (TB < n0) ∧ (DE < n0)
def Ad (x : Int32) : Int32 := if x < 26 then 65 + x else if x < 52 then (97 + x) - 26 else if x < 62 then (48 + x) - 52 else if x = 62 then 45 else 95
def own_TUi : List Int32 := [-1, -1, -1, -1, -1, -1, -1, -1, -1, -1, -1, -1, -1, -1, -1, -1, -1, -1, -1, -1, -1, -1, -1, -1, -1, -1, -1, -1, -1, -1, -1, -1, -1, -1, -1, -1, -1, -1, -1, -1, -1, -1, -1, -1, -1, 62, -1, -1, 52, 53, 54, 55, 56, 57, 58, 59, 60, 61, -1, -1, -1, -2, -1, -1, -1, 0, 1, 2, 3, 4, 5, 6, 7, 8, 9, 10, 11, 12, 13, 14, 15, 16, 17, 18, 19, 20, 21, 22, 23, 24, 25, -1, -1, -1, -1, 63, -1, 26, 27, 28, 29, 30, 31, 32, 33, 34, 35, 36, 37, 38, 39, 40, 41, 42, 43, 44, 45, 46, 47, 48, 49, 50, 51, -1, -1, -1, -1, -1, -1, -1, -1, -1, -1, -1, -1, -1, -1, -1, -1, -1, -1, -1, -1, -1, -1, -1, -1, -1, -1, -1, -1, -1, -1, -1, -1, -1, -1, -1, -1, -1, -1, -1, -1, -1, -1, -1, -1, -1, -1, -1, -1, -1, -1, -1, -1, -1, -1, -1, -1, -1, -1, -1, -1, -1, -1, -1, -1, -1, -1, -1, -1, -1, -1, -1, -1, -1, -1, -1, -1, -1, -1, -1, -1, -1, -1, -1, -1, -1, -1, -1, -1, -1, -1, -1, -1, -1, -1, -1, -1, -1, -1, -1, -1, -1, -1, -1, -1, -1, -1, -1, -1, -1, -1, -1, -1, -1, -1, -1, -1, -1, -1, -1, -1, -1, -1, -1, -1, -1, -1, -1, -1, -1, -1, -1, -1, -1]
def Bt : List Value := own_TUi.map Value.int
def Be (q : Int32) : Int32 := (q >>> ((16 : Int32) &&& 31)).toInt8.toInt32
def Bn (q : Int32) : Int32 := (q >>> ((8 : Int32) &&& 31)).toInt8.toInt32
def Bw (q : Int32) : Int32 := q.toInt8.toInt32
def Df (a b : Int32) : Int32 := ((0 : Int32) ||| (a <<< ((18 : Int32) &&& 31))) ||| (b <<< ((12 : Int32) &&& 31))
def Ch (a b c : Int32) : Int32 := Df a b ||| (c <<< ((6 : Int32) &&& 31))
def Cx (a b c d : Int32) : Int32 := Ch a b c ||| (d <<< ((0 : Int32) &&& 31))
def Ap (a b c d : Int32) : Int32 := (((a <<< ((18 : Int32) &&& 31)) ||| (b <<< ((12 : Int32) &&& 31))) ||| (c <<< ((6 : Int32) &&& 31))) ||| d
theorem own_x0_k : ∀ k < 64, ¬ (Int32.ofNat k) < (0 : Int32) := by decide +kernel
theorem Bp {x : Int32} (h : Ag x) : ¬ x < (0 : Int32) := by
  obtain ⟨k, hk, rfl⟩ := h; exact own_x0_k k hk
theorem own_alR_k : ∀ k < 64, ¬ (Ad (Int32.ofNat k)) < 0 ∧ ¬ (255 : Int32) < (Ad (Int32.ofNat k)) := by decide +kernel
theorem Bx {x : Int32} (h : Ag x) : ¬ (Ad x) < 0 ∧ ¬ (255 : Int32) < (Ad x) := by
  obtain ⟨k, hk, rfl⟩ := h; exact own_alR_k k hk
theorem own_alc_k : ∀ k < 64, (Ad (Int32.ofNat k)).toUInt32.toUInt16.toUInt32.toInt32 = (Ad (Int32.ofNat k)) := by decide +kernel
theorem Aq {x : Int32} (h : Ag x) : (Ad x).toUInt32.toUInt16.toUInt32.toInt32 = (Ad x) := by
  obtain ⟨k, hk, rfl⟩ := h; exact own_alc_k k hk
theorem own_tv_k : ∀ k < 64, Bt.getD ((Ad (Int32.ofNat k)).toInt8.toInt32 &&& (255 : Int32)).toNatClampNeg (.int 0) = .int (Int32.ofNat k) := by decide +kernel
theorem Cd {x : Int32} (h : Ag x) : Bt.getD ((Ad x).toInt8.toInt32 &&& (255 : Int32)).toNatClampNeg (.int 0) = .int x := by
  obtain ⟨k, hk, rfl⟩ := h; exact own_tv_k k hk
theorem own_ti_k : ∀ k < 64, ¬ ((Ad (Int32.ofNat k)).toInt8.toInt32 &&& (255 : Int32)) < 0 ∧ ((Ad (Int32.ofNat k)).toInt8.toInt32 &&& (255 : Int32)) < (256 : Int32) := by decide +kernel
theorem Ce {x : Int32} (h : Ag x) : ¬ ((Ad x).toInt8.toInt32 &&& (255 : Int32)) < 0 ∧ ((Ad x).toInt8.toInt32 &&& (255 : Int32)) < (256 : Int32) := by
  obtain ⟨k, hk, rfl⟩ := h; exact own_ti_k k hk
theorem own_cc_k : ∀ k < 64, ((Ad (Int32.ofNat k)).toInt8.toInt32 &&& (255 : Int32)).toUInt32.toUInt16.toUInt32.toInt32 = (Ad (Int32.ofNat k)) := by decide +kernel
theorem Ca {x : Int32} (h : Ag x) : ((Ad x).toInt8.toInt32 &&& (255 : Int32)).toUInt32.toUInt16.toUInt32.toInt32 = (Ad x) := by
  obtain ⟨k, hk, rfl⟩ := h; exact own_cc_k k hk
theorem own_n61_k : ∀ k < 64, ¬ (Ad (Int32.ofNat k)).toInt8.toInt32 = (61 : Int32) := by decide +kernel
theorem Em {x : Int32} (h : Ag x) : ¬ (Ad x).toInt8.toInt32 = (61 : Int32) := by
  obtain ⟨k, hk, rfl⟩ := h; exact own_n61_k k hk
theorem own_s1_k : ∀ k < 64, ¬ (Ad (Int32.ofNat k)) < (65 : Int32) → ¬ (90 : Int32) < (Ad (Int32.ofNat k)) → (Ad (Int32.ofNat k)) - (65 : Int32) = (Int32.ofNat k) := by decide +kernel
theorem own_s1 {x : Int32} (h : Ag x) : ¬ (Ad x) < (65 : Int32) → ¬ (90 : Int32) < (Ad x) → (Ad x) - (65 : Int32) = x := by
  obtain ⟨k, hk, rfl⟩ := h; exact own_s1_k k hk
theorem own_s2_k : ∀ k < 64, ¬ (Ad (Int32.ofNat k)) < (97 : Int32) → ¬ (122 : Int32) < (Ad (Int32.ofNat k)) → ((Ad (Int32.ofNat k)) - (97 : Int32)) + (26 : Int32) = (Int32.ofNat k) := by decide +kernel
theorem own_s2 {x : Int32} (h : Ag x) : ¬ (Ad x) < (97 : Int32) → ¬ (122 : Int32) < (Ad x) → ((Ad x) - (97 : Int32)) + (26 : Int32) = x := by
  obtain ⟨k, hk, rfl⟩ := h; exact own_s2_k k hk
theorem own_s3_k : ∀ k < 64, ¬ (Ad (Int32.ofNat k)) < (48 : Int32) → ¬ (57 : Int32) < (Ad (Int32.ofNat k)) → ((Ad (Int32.ofNat k)) - (48 : Int32)) + (52 : Int32) = (Int32.ofNat k) := by decide +kernel
theorem own_s3 {x : Int32} (h : Ag x) : ¬ (Ad x) < (48 : Int32) → ¬ (57 : Int32) < (Ad x) → ((Ad x) - (48 : Int32)) + (52 : Int32) = x := by
  obtain ⟨k, hk, rfl⟩ := h; exact own_s3_k k hk
theorem own_s4_k : ∀ k < 64, (Ad (Int32.ofNat k)) = (45 : Int32) → (Int32.ofNat k) = (62 : Int32) := by decide +kernel
theorem own_s4 {x : Int32} (h : Ag x) : (Ad x) = (45 : Int32) → x = (62 : Int32) := by
  obtain ⟨k, hk, rfl⟩ := h; exact own_s4_k k hk
theorem own_s5_k : ∀ k < 64, (Ad (Int32.ofNat k)) = (95 : Int32) → (Int32.ofNat k) = (63 : Int32) := by decide +kernel
theorem own_s5 {x : Int32} (h : Ag x) : (Ad x) = (95 : Int32) → x = (63 : Int32) := by
  obtain ⟨k, hk, rfl⟩ := h; exact own_s5_k k hk
theorem own_s6k_k : ∀ k < 64, (((((decide ((Ad (Int32.ofNat k)) < (65 : Int32)) || decide ((90 : Int32) < (Ad (Int32.ofNat k)))) && (decide ((Ad (Int32.ofNat k)) < (97 : Int32)) || decide ((122 : Int32) < (Ad (Int32.ofNat k))))) && (decide ((Ad (Int32.ofNat k)) < (48 : Int32)) || decide ((57 : Int32) < (Ad (Int32.ofNat k))))) && !decide ((Ad (Int32.ofNat k)) = (45 : Int32))) && !decide ((Ad (Int32.ofNat k)) = (95 : Int32))) = false := by decide +kernel
theorem own_s6k {x : Int32} (h : Ag x) : (((((decide ((Ad x) < (65 : Int32)) || decide ((90 : Int32) < (Ad x))) && (decide ((Ad x) < (97 : Int32)) || decide ((122 : Int32) < (Ad x)))) && (decide ((Ad x) < (48 : Int32)) || decide ((57 : Int32) < (Ad x)))) && !decide ((Ad x) = (45 : Int32))) && !decide ((Ad x) = (95 : Int32))) = false := by
  obtain ⟨k, hk, rfl⟩ := h; exact own_s6k_k k hk
theorem own_s6 {x : Int32} (h : Ag x) (h1 : (Ad x) < (65 : Int32) ∨ (90 : Int32) < (Ad x)) (h2 : (Ad x) < (97 : Int32) ∨ (122 : Int32) < (Ad x)) (h3 : (Ad x) < (48 : Int32) ∨ (57 : Int32) < (Ad x)) (h4 : ¬ (Ad x) = (45 : Int32)) (h5 : ¬ (Ad x) = (95 : Int32)) : ¬ (1 : Int32) = 1 := by
  have q := own_s6k h
  have e1 : (decide ((Ad x) < (65 : Int32)) || decide ((90 : Int32) < (Ad x))) = true := by rcases h1 with z | z <;> simp [z]
  have e2 : (decide ((Ad x) < (97 : Int32)) || decide ((122 : Int32) < (Ad x))) = true := by rcases h2 with z | z <;> simp [z]
  have e3 : (decide ((Ad x) < (48 : Int32)) || decide ((57 : Int32) < (Ad x))) = true := by rcases h3 with z | z <;> simp [z]
  rw [e1, e2, e3, decide_eq_false h4, decide_eq_false h5] at q
  cases q
theorem own_msb {x : BitVec 32} : x.toInt < 0 ↔ x.msb = true := by
  rw [BitVec.msb_eq_toInt, decide_eq_true_iff]
theorem own_or0 {a b : Int32} (ha : ¬ a < 0) (hb : ¬ b < 0) : ¬ (a ||| b) < 0 := by
  intro h
  rw [Int32.lt_iff_toInt_lt] at ha hb h
  have e0 : (0 : Int32).toInt = 0 := rfl
  rw [e0] at ha hb h
  have h1 : (a ||| b).toBitVec.msb = true := own_msb.mp h
  have h2 : a.toBitVec.msb = false := by
    cases q : a.toBitVec.msb
    · rfl
    · exact absurd (own_msb.mpr q) ha
  have h3 : b.toBitVec.msb = false := by
    cases q : b.toBitVec.msb
    · rfl
    · exact absurd (own_msb.mpr q) hb
  rw [Int32.toBitVec_or, BitVec.msb_or, h2, h3] at h1
  cases h1
theorem own_or4 {a b c d : Int32} (ha : Ag a) (hb : Ag b) (hc : Ag c) (hd : Ag d) : ¬ (((a ||| b) ||| c) ||| d) < 0 := own_or0 (own_or0 (own_or0 (Bp ha) (Bp hb)) (Bp hc)) (Bp hd)
theorem own_TA {s : State} {a : Array Value} {t : Term} {ty : FieldType} {dv : Value} {D : Addr} {n : Nat} (vs : List Value) (hn2 : n ≤ 4000) (d1 : t.eval a s none [] s = some (.ref D)) (h1 : (Jvm.Cond.arrayOf t ty).value a s none s [] = some true) (h2 : (Term.length t).eval a s none [] s = some (.int (Int32.ofNat n))) (h3 : ∀ i < n, (Term.elem t (.int (Int32.ofNat i))).eval a s none [] s = some (vs.getD i dv)) (h4 : ∀ i < n, fits ty (vs.getD i dv) = true) :
    ∃ k, Arv s s.heap D k ty (Int32.ofNat n) vs dv := by
  obtain ⟨D', c, d1', d2, e2⟩ := Term.length_spec h2
  cases d1.symm.trans d1'
  obtain ⟨c', A⟩ := Arr.start d1 h1
  have e3 : s.arrayAt? D = some c' := Arr.fin (Vm.Alike.refl _) A
  obtain rfl : c' = c := Option.some.inj (e3.symm.trans d2)
  have hlt : c'.slots.size < 2 ^ 31 := by
    by_cases g : c'.slots.size < 2 ^ 31
    · exact g
    · simp [Term.eval, d1, d2, g] at h2
  have e4 : c'.slots.size.toInt32 = Int32.ofNat n := (Value.int.inj e2).symm
  have e5 : c'.slots.size = n := by
    have := congrArg Int32.toInt e4
    rw [Jvm.RoadKit.len_toInt hlt, (own_oN hn2).1] at this
    omega
  refine ⟨c'.cls, ⟨c', A, rfl, by rw [e5, (own_oN hn2).2], (Ev hn2).1, fun i hi => ?_, fun i hi => h4 i (by omega)⟩⟩
  rw [e5] at hi
  obtain ⟨D', j, cell', g1, g2, g3, -, g4⟩ := Term.elem_spec (h3 i hi)
  rw [d1] at g1; cases g1
  rw [d2] at g3; cases g3
  rw [Term.int_eval] at g2
  cases g2
  rw [(own_oN (n := i) (by omega)).2] at g4
  exact g4
theorem own_fT {s : State} {a : Array Value} {t : Term} {C n d : String} {x : Addr} {v : Value} (e1 : t.eval a s none [] s = some (.ref x)) (e2 : (Term.field t C n d).eval a s none [] s = some v) : Fld s s.heap x C n d v := by
  simp only [Term.eval, e1, Option.bind_eq_bind, Option.bind_some] at e2
  exact Fld.start e2
theorem own_eqT {s : State} {a : Array Value} {t : Term} {v : Int32} (h : (Jvm.Cond.eq t (.int v)).value a s none s [] = some true) : t.eval a s none [] s = some (.int v) := by
  obtain ⟨y, e1, e2⟩ := Cond.eq_one (beq_iff_eq.mpr h : (Jvm.Cond.eq t (.int v)).holds a s none s [] = true)
  rw [Term.int_eval] at e2; cases e2; exact e1
theorem own_exne {s : State} {h : Heap} {a b : Addr} {C D : String} (x : Exa s h a C) (y : Exa s h b D) (hn : C ≠ D) : a ≠ b := by
  rintro rfl
  obtain ⟨c1, k1, a1, a2, a3, -⟩ := x
  obtain ⟨c2, k2, b1, b2, b3, -⟩ := y
  cases a1.symm.trans b1
  exact ids_ne a2 b2 hn rfl

theorem Dd (a b c d : Nat) (ha : a < 64) (hb : b < 64) (hc : c < 64) (hd : d < 64) : Ap (Int32.ofNat a) (Int32.ofNat b) (Int32.ofNat c) (Int32.ofNat d) = Int32.ofNat (a * 2 ^ 18 + b * 2 ^ 12 + c * 2 ^ 6 + d) := by
  unfold Ap
  rw [Ed 18 (by decide) (by decide), Ed 12 (by decide) (by decide), Ed 6 (by decide) (by decide), De, De, De, El a b c d hb hc hd]
theorem own_wS2 (a b : Nat) (ha : a < 64) (hb : b < 64) : Df (Int32.ofNat a) (Int32.ofNat b) = Int32.ofNat (a * 2 ^ 18 + b * 2 ^ 12) := by
  unfold Df
  rw [Ed 18 (by decide) (by decide), Ed 12 (by decide) (by decide), show (0 : Int32) = Int32.ofNat 0 from rfl, De, De, Nat.zero_or]
  have h := El a b 0 0 hb (by decide) (by decide)
  simp only [Nat.zero_mul, Nat.or_zero, Nat.add_zero] at h
  rw [h]
theorem Ew (a b c : Nat) (ha : a < 64) (hb : b < 64) (hc : c < 64) : Ch (Int32.ofNat a) (Int32.ofNat b) (Int32.ofNat c) = Int32.ofNat (a * 2 ^ 18 + b * 2 ^ 12 + c * 2 ^ 6) := by
  unfold Ch
  rw [own_wS2 a b ha hb, Ed 6 (by decide) (by decide), De]
  have h1 := El a b 0 0 hb (by decide) (by decide)
  have h2 := El a b c 0 hb hc (by decide)
  simp only [Nat.zero_mul, Nat.or_zero, Nat.add_zero] at h1 h2
  rw [← h2, h1]
theorem own_wS4 (a b c d : Nat) (ha : a < 64) (hb : b < 64) (hc : c < 64) (hd : d < 64) : Cx (Int32.ofNat a) (Int32.ofNat b) (Int32.ofNat c) (Int32.ofNat d) = Int32.ofNat (a * 2 ^ 18 + b * 2 ^ 12 + c * 2 ^ 6 + d) := by
  unfold Cx
  rw [Ew a b c ha hb hc, Ed 0 (by decide) (by decide), De, Nat.pow_zero, Nat.mul_one]
  have h1 := El a b c 0 hb hc (by decide)
  have h2 := El a b c d hb hc hd
  simp only [Nat.or_zero, Nat.add_zero] at h1
  rw [← h2, h1]
theorem Dn {q : Nat} (h : q < 2 ^ 31) : Be (Int32.ofNat q) = (Int8.ofNat (q / 2 ^ 16)).toInt32 := by
  unfold Be
  rw [own_shr 16 h (by decide) (by decide), Er]
theorem Ee {q : Nat} (h : q < 2 ^ 31) : Bn (Int32.ofNat q) = (Int8.ofNat (q / 2 ^ 8)).toInt32 := by
  unfold Bn
  rw [own_shr 8 h (by decide) (by decide), Er]
theorem Ey {q : Nat} : Bw (Int32.ofNat q) = (Int8.ofNat q).toInt32 := by
  unfold Bw
  rw [Er]
def Ae (v : Int64) (i : Int32) : Int32 := ((v >>> (((42 : Int32) - ((6 : Int32) * i)).toInt64 &&& 63)) &&& 63).toInt32
def Cq (v : Int64) (j : Int32) : Int32 := (v >>> (((40 : Int32) - ((8 : Int32) * j)).toInt64 &&& 63)).toInt32.toInt8.toInt32
theorem own_c1_k : ∀ k < 64, (Int32.ofNat k) < (26 : Int32) → ((65 : Int32) + (Int32.ofNat k)).toUInt32.toUInt16.toUInt32.toInt32 = Ad (Int32.ofNat k) := by decide +kernel
theorem own_c1 {x : Int32} (h : Ag x) : x < (26 : Int32) → ((65 : Int32) + x).toUInt32.toUInt16.toUInt32.toInt32 = Ad x := by
  obtain ⟨k, hk, rfl⟩ := h; exact own_c1_k k hk
theorem own_c2_k : ∀ k < 64, ¬ (Int32.ofNat k) < (26 : Int32) → (Int32.ofNat k) < (52 : Int32) → (((97 : Int32) + (Int32.ofNat k)) - (26 : Int32)).toUInt32.toUInt16.toUInt32.toInt32 = Ad (Int32.ofNat k) := by decide +kernel
theorem own_c2 {x : Int32} (h : Ag x) : ¬ x < (26 : Int32) → x < (52 : Int32) → (((97 : Int32) + x) - (26 : Int32)).toUInt32.toUInt16.toUInt32.toInt32 = Ad x := by
  obtain ⟨k, hk, rfl⟩ := h; exact own_c2_k k hk
theorem own_c3_k : ∀ k < 64, ¬ (Int32.ofNat k) < (52 : Int32) → (Int32.ofNat k) < (62 : Int32) → (((48 : Int32) + (Int32.ofNat k)) - (52 : Int32)).toUInt32.toUInt16.toUInt32.toInt32 = Ad (Int32.ofNat k) := by decide +kernel
theorem own_c3 {x : Int32} (h : Ag x) : ¬ x < (52 : Int32) → x < (62 : Int32) → (((48 : Int32) + x) - (52 : Int32)).toUInt32.toUInt16.toUInt32.toInt32 = Ad x := by
  obtain ⟨k, hk, rfl⟩ := h; exact own_c3_k k hk
theorem own_c4_k : ∀ k < 64, (Int32.ofNat k) = (62 : Int32) → (45 : Int32) = Ad (Int32.ofNat k) := by decide +kernel
theorem own_c4 {x : Int32} (h : Ag x) : x = (62 : Int32) → (45 : Int32) = Ad x := by
  obtain ⟨k, hk, rfl⟩ := h; exact own_c4_k k hk
theorem own_c5_k : ∀ k < 64, ¬ (Int32.ofNat k) < (62 : Int32) → ¬ (Int32.ofNat k) = (62 : Int32) → (95 : Int32) = Ad (Int32.ofNat k) := by decide +kernel
theorem own_c5 {x : Int32} (h : Ag x) : ¬ x < (62 : Int32) → ¬ x = (62 : Int32) → (95 : Int32) = Ad x := by
  obtain ⟨k, hk, rfl⟩ := h; exact own_c5_k k hk

theorem Ai (v : Int64) (i : Int32) : Ag (Ae v i) := ⟨_, Nat.mod_lt _ (by decide), own_m63 _⟩
theorem An (v : Int64) {i : Int32} (k : Nat) (hi : ((((42 : Int32) - ((6 : Int32) * i)).toInt64 &&& 63).toBitVec.smod 64) = BitVec.ofNat 64 k) (hk : k + 6 ≤ 64) : Ae v i = Int32.ofNat (v.toBitVec.toNat / 2 ^ k % 64) := by
  show ((v >>> _) &&& 63).toInt32 = _
  rw [own_m63, own_sr k 6 hi hk]
theorem Ci (v : Int64) {j : Int32} (k : Nat) (hi : ((((40 : Int32) - ((8 : Int32) * j)).toInt64 &&& 63).toBitVec.smod 64) = BitVec.ofNat 64 k) (hk : k + 8 ≤ 64) : Cq v j = (Int8.ofNat (v.toBitVec.toNat / 2 ^ k)).toInt32 := by
  show (v >>> _).toInt32.toInt8.toInt32 = _
  rw [own_t8]
  apply Cg
  rw [show (256 : Nat) = 2 ^ 8 from rfl, own_sr k 8 hi hk]; omega
theorem own_k20 (v : Int64) : (Be (Df (Ae v (0 : Int32)) (Ae v (1 : Int32)))) = Cq v (0 : Int32) := by
  rw [An v (i := (0 : Int32)) 42 (by decide) (by decide), An v (i := (1 : Int32)) 36 (by decide) (by decide), Ci v 40 (by decide) (by decide), own_wS2 _ _ (Nat.mod_lt _ (by decide)) (Nat.mod_lt _ (by decide)), Dn (by have hV : v.toBitVec.toNat < 2 ^ 64 := v.toBitVec.isLt; omega)]
  apply Cg
  have hV : v.toBitVec.toNat < 2 ^ 64 := v.toBitVec.isLt
  omega
theorem own_sp2 (p : Int64) : ((Ae ((p &&& 281474976710655) &&& ((((1 : Int64) <<< (((8 : Int32) * (1 : Int32)).toInt64 &&& 63)) - (1 : Int64)) <<< (((48 : Int32) - ((8 : Int32) * (1 : Int32))).toInt64 &&& 63))) (1 : Int32)) &&& (((1 : Int32) <<< ((4 : Int32) &&& 31)) - (1 : Int32))) = (0 : Int32) := by
  rw [An _ (i := (1 : Int32)) 36 (by decide) (by decide), show (((1 : Int32) <<< ((4 : Int32) &&& 31)) - (1 : Int32)) = Int32.ofNat 15 from by decide, Dz, show (15 : Nat) = 2 ^ 4 - 1 from rfl, Nat.and_two_pow_sub_one_eq_mod]
  have h : ((p &&& 281474976710655) &&& ((((1 : Int64) <<< (((8 : Int32) * (1 : Int32)).toInt64 &&& 63)) - (1 : Int64)) <<< (((48 : Int32) - ((8 : Int32) * (1 : Int32))).toInt64 &&& 63))).toBitVec.toNat % 2 ^ 40 = 0 := by
    rw [Int64.toBitVec_and, BitVec.toNat_and, Nat.and_mod_two_pow, show (((((1 : Int64) <<< (((8 : Int32) * (1 : Int32)).toInt64 &&& 63)) - (1 : Int64)) <<< (((48 : Int32) - ((8 : Int32) * (1 : Int32))).toInt64 &&& 63))).toBitVec.toNat % 2 ^ 40 = 0 from by decide, Nat.and_zero]
  generalize ((p &&& 281474976710655) &&& ((((1 : Int64) <<< (((8 : Int32) * (1 : Int32)).toInt64 &&& 63)) - (1 : Int64)) <<< (((48 : Int32) - ((8 : Int32) * (1 : Int32))).toInt64 &&& 63))).toBitVec.toNat = V at h
  rw [show V / 2 ^ 36 % 64 % 2 ^ 4 = 0 from by omega]
  rfl
theorem own_k30 (v : Int64) : (Be (Ch (Ae v (0 : Int32)) (Ae v (1 : Int32)) (Ae v (2 : Int32)))) = Cq v (0 : Int32) := by
  rw [An v (i := (0 : Int32)) 42 (by decide) (by decide), An v (i := (1 : Int32)) 36 (by decide) (by decide), An v (i := (2 : Int32)) 30 (by decide) (by decide), Ci v 40 (by decide) (by decide), Ew _ _ _ (Nat.mod_lt _ (by decide)) (Nat.mod_lt _ (by decide)) (Nat.mod_lt _ (by decide)), Dn (by have hV : v.toBitVec.toNat < 2 ^ 64 := v.toBitVec.isLt; omega)]
  apply Cg
  have hV : v.toBitVec.toNat < 2 ^ 64 := v.toBitVec.isLt
  omega
theorem own_k31 (v : Int64) : (Bn (Ch (Ae v (0 : Int32)) (Ae v (1 : Int32)) (Ae v (2 : Int32)))) = Cq v (1 : Int32) := by
  rw [An v (i := (0 : Int32)) 42 (by decide) (by decide), An v (i := (1 : Int32)) 36 (by decide) (by decide), An v (i := (2 : Int32)) 30 (by decide) (by decide), Ci v 32 (by decide) (by decide), Ew _ _ _ (Nat.mod_lt _ (by decide)) (Nat.mod_lt _ (by decide)) (Nat.mod_lt _ (by decide)), Ee (by have hV : v.toBitVec.toNat < 2 ^ 64 := v.toBitVec.isLt; omega)]
  apply Cg
  have hV : v.toBitVec.toNat < 2 ^ 64 := v.toBitVec.isLt
  omega
theorem own_sp3 (p : Int64) : ((Ae ((p &&& 281474976710655) &&& ((((1 : Int64) <<< (((8 : Int32) * (2 : Int32)).toInt64 &&& 63)) - (1 : Int64)) <<< (((48 : Int32) - ((8 : Int32) * (2 : Int32))).toInt64 &&& 63))) (2 : Int32)) &&& (((1 : Int32) <<< ((2 : Int32) &&& 31)) - (1 : Int32))) = (0 : Int32) := by
  rw [An _ (i := (2 : Int32)) 30 (by decide) (by decide), show (((1 : Int32) <<< ((2 : Int32) &&& 31)) - (1 : Int32)) = Int32.ofNat 3 from by decide, Dz, show (3 : Nat) = 2 ^ 2 - 1 from rfl, Nat.and_two_pow_sub_one_eq_mod]
  have h : ((p &&& 281474976710655) &&& ((((1 : Int64) <<< (((8 : Int32) * (2 : Int32)).toInt64 &&& 63)) - (1 : Int64)) <<< (((48 : Int32) - ((8 : Int32) * (2 : Int32))).toInt64 &&& 63))).toBitVec.toNat % 2 ^ 32 = 0 := by
    rw [Int64.toBitVec_and, BitVec.toNat_and, Nat.and_mod_two_pow, show (((((1 : Int64) <<< (((8 : Int32) * (2 : Int32)).toInt64 &&& 63)) - (1 : Int64)) <<< (((48 : Int32) - ((8 : Int32) * (2 : Int32))).toInt64 &&& 63))).toBitVec.toNat % 2 ^ 32 = 0 from by decide, Nat.and_zero]
  generalize ((p &&& 281474976710655) &&& ((((1 : Int64) <<< (((8 : Int32) * (2 : Int32)).toInt64 &&& 63)) - (1 : Int64)) <<< (((48 : Int32) - ((8 : Int32) * (2 : Int32))).toInt64 &&& 63))).toBitVec.toNat = V at h
  rw [show V / 2 ^ 30 % 64 % 2 ^ 2 = 0 from by omega]
  rfl
theorem own_k40 (v : Int64) : (Be (Cx (Ae v (0 : Int32)) (Ae v (1 : Int32)) (Ae v (2 : Int32)) (Ae v (3 : Int32)))) = Cq v (0 : Int32) := by
  rw [An v (i := (0 : Int32)) 42 (by decide) (by decide), An v (i := (1 : Int32)) 36 (by decide) (by decide), An v (i := (2 : Int32)) 30 (by decide) (by decide), An v (i := (3 : Int32)) 24 (by decide) (by decide), Ci v 40 (by decide) (by decide), own_wS4 _ _ _ _ (Nat.mod_lt _ (by decide)) (Nat.mod_lt _ (by decide)) (Nat.mod_lt _ (by decide)) (Nat.mod_lt _ (by decide)), Dn (by have hV : v.toBitVec.toNat < 2 ^ 64 := v.toBitVec.isLt; omega)]
  apply Cg
  have hV : v.toBitVec.toNat < 2 ^ 64 := v.toBitVec.isLt
  omega
theorem own_k41 (v : Int64) : (Bn (Cx (Ae v (0 : Int32)) (Ae v (1 : Int32)) (Ae v (2 : Int32)) (Ae v (3 : Int32)))) = Cq v (1 : Int32) := by
  rw [An v (i := (0 : Int32)) 42 (by decide) (by decide), An v (i := (1 : Int32)) 36 (by decide) (by decide), An v (i := (2 : Int32)) 30 (by decide) (by decide), An v (i := (3 : Int32)) 24 (by decide) (by decide), Ci v 32 (by decide) (by decide), own_wS4 _ _ _ _ (Nat.mod_lt _ (by decide)) (Nat.mod_lt _ (by decide)) (Nat.mod_lt _ (by decide)) (Nat.mod_lt _ (by decide)), Ee (by have hV : v.toBitVec.toNat < 2 ^ 64 := v.toBitVec.isLt; omega)]
  apply Cg
  have hV : v.toBitVec.toNat < 2 ^ 64 := v.toBitVec.isLt
  omega
theorem own_k42 (v : Int64) : (Bw (Cx (Ae v (0 : Int32)) (Ae v (1 : Int32)) (Ae v (2 : Int32)) (Ae v (3 : Int32)))) = Cq v (2 : Int32) := by
  rw [An v (i := (0 : Int32)) 42 (by decide) (by decide), An v (i := (1 : Int32)) 36 (by decide) (by decide), An v (i := (2 : Int32)) 30 (by decide) (by decide), An v (i := (3 : Int32)) 24 (by decide) (by decide), Ci v 24 (by decide) (by decide), own_wS4 _ _ _ _ (Nat.mod_lt _ (by decide)) (Nat.mod_lt _ (by decide)) (Nat.mod_lt _ (by decide)) (Nat.mod_lt _ (by decide)), Ey]
  apply Cg
  have hV : v.toBitVec.toNat < 2 ^ 64 := v.toBitVec.isLt
  omega
theorem own_k60 (v : Int64) : (Be (Ap (Ae v (0 : Int32)) (Ae v (1 : Int32)) (Ae v (2 : Int32)) (Ae v (3 : Int32)))) = Cq v (0 : Int32) := by
  rw [An v (i := (0 : Int32)) 42 (by decide) (by decide), An v (i := (1 : Int32)) 36 (by decide) (by decide), An v (i := (2 : Int32)) 30 (by decide) (by decide), An v (i := (3 : Int32)) 24 (by decide) (by decide), Ci v 40 (by decide) (by decide), Dd _ _ _ _ (Nat.mod_lt _ (by decide)) (Nat.mod_lt _ (by decide)) (Nat.mod_lt _ (by decide)) (Nat.mod_lt _ (by decide)), Dn (by have hV : v.toBitVec.toNat < 2 ^ 64 := v.toBitVec.isLt; omega)]
  apply Cg
  have hV : v.toBitVec.toNat < 2 ^ 64 := v.toBitVec.isLt
  omega
theorem own_k61 (v : Int64) : (Bn (Ap (Ae v (0 : Int32)) (Ae v (1 : Int32)) (Ae v (2 : Int32)) (Ae v (3 : Int32)))) = Cq v (1 : Int32) := by
  rw [An v (i := (0 : Int32)) 42 (by decide) (by decide), An v (i := (1 : Int32)) 36 (by decide) (by decide), An v (i := (2 : Int32)) 30 (by decide) (by decide), An v (i := (3 : Int32)) 24 (by decide) (by decide), Ci v 32 (by decide) (by decide), Dd _ _ _ _ (Nat.mod_lt _ (by decide)) (Nat.mod_lt _ (by decide)) (Nat.mod_lt _ (by decide)) (Nat.mod_lt _ (by decide)), Ee (by have hV : v.toBitVec.toNat < 2 ^ 64 := v.toBitVec.isLt; omega)]
  apply Cg
  have hV : v.toBitVec.toNat < 2 ^ 64 := v.toBitVec.isLt
  omega
theorem own_k62 (v : Int64) : (Bw (Ap (Ae v (0 : Int32)) (Ae v (1 : Int32)) (Ae v (2 : Int32)) (Ae v (3 : Int32)))) = Cq v (2 : Int32) := by
  rw [An v (i := (0 : Int32)) 42 (by decide) (by decide), An v (i := (1 : Int32)) 36 (by decide) (by decide), An v (i := (2 : Int32)) 30 (by decide) (by decide), An v (i := (3 : Int32)) 24 (by decide) (by decide), Ci v 24 (by decide) (by decide), Dd _ _ _ _ (Nat.mod_lt _ (by decide)) (Nat.mod_lt _ (by decide)) (Nat.mod_lt _ (by decide)) (Nat.mod_lt _ (by decide)), Ey]
  apply Cg
  have hV : v.toBitVec.toNat < 2 ^ 64 := v.toBitVec.isLt
  omega
theorem own_k63 (v : Int64) : (Be (Df (Ae v (4 : Int32)) (Ae v (5 : Int32)))) = Cq v (3 : Int32) := by
  rw [An v (i := (4 : Int32)) 18 (by decide) (by decide), An v (i := (5 : Int32)) 12 (by decide) (by decide), Ci v 16 (by decide) (by decide), own_wS2 _ _ (Nat.mod_lt _ (by decide)) (Nat.mod_lt _ (by decide)), Dn (by have hV : v.toBitVec.toNat < 2 ^ 64 := v.toBitVec.isLt; omega)]
  apply Cg
  have hV : v.toBitVec.toNat < 2 ^ 64 := v.toBitVec.isLt
  omega
theorem own_sp6 (p : Int64) : ((Ae ((p &&& 281474976710655) &&& ((((1 : Int64) <<< (((8 : Int32) * (4 : Int32)).toInt64 &&& 63)) - (1 : Int64)) <<< (((48 : Int32) - ((8 : Int32) * (4 : Int32))).toInt64 &&& 63))) (5 : Int32)) &&& (((1 : Int32) <<< ((4 : Int32) &&& 31)) - (1 : Int32))) = (0 : Int32) := by
  rw [An _ (i := (5 : Int32)) 12 (by decide) (by decide), show (((1 : Int32) <<< ((4 : Int32) &&& 31)) - (1 : Int32)) = Int32.ofNat 15 from by decide, Dz, show (15 : Nat) = 2 ^ 4 - 1 from rfl, Nat.and_two_pow_sub_one_eq_mod]
  have h : ((p &&& 281474976710655) &&& ((((1 : Int64) <<< (((8 : Int32) * (4 : Int32)).toInt64 &&& 63)) - (1 : Int64)) <<< (((48 : Int32) - ((8 : Int32) * (4 : Int32))).toInt64 &&& 63))).toBitVec.toNat % 2 ^ 16 = 0 := by
    rw [Int64.toBitVec_and, BitVec.toNat_and, Nat.and_mod_two_pow, show (((((1 : Int64) <<< (((8 : Int32) * (4 : Int32)).toInt64 &&& 63)) - (1 : Int64)) <<< (((48 : Int32) - ((8 : Int32) * (4 : Int32))).toInt64 &&& 63))).toBitVec.toNat % 2 ^ 16 = 0 from by decide, Nat.and_zero]
  generalize ((p &&& 281474976710655) &&& ((((1 : Int64) <<< (((8 : Int32) * (4 : Int32)).toInt64 &&& 63)) - (1 : Int64)) <<< (((48 : Int32) - ((8 : Int32) * (4 : Int32))).toInt64 &&& 63))).toBitVec.toNat = V at h
  rw [show V / 2 ^ 12 % 64 % 2 ^ 4 = 0 from by omega]
  rfl
theorem own_k70 (v : Int64) : (Be (Ap (Ae v (0 : Int32)) (Ae v (1 : Int32)) (Ae v (2 : Int32)) (Ae v (3 : Int32)))) = Cq v (0 : Int32) := by
  rw [An v (i := (0 : Int32)) 42 (by decide) (by decide), An v (i := (1 : Int32)) 36 (by decide) (by decide), An v (i := (2 : Int32)) 30 (by decide) (by decide), An v (i := (3 : Int32)) 24 (by decide) (by decide), Ci v 40 (by decide) (by decide), Dd _ _ _ _ (Nat.mod_lt _ (by decide)) (Nat.mod_lt _ (by decide)) (Nat.mod_lt _ (by decide)) (Nat.mod_lt _ (by decide)), Dn (by have hV : v.toBitVec.toNat < 2 ^ 64 := v.toBitVec.isLt; omega)]
  apply Cg
  have hV : v.toBitVec.toNat < 2 ^ 64 := v.toBitVec.isLt
  omega
theorem own_k71 (v : Int64) : (Bn (Ap (Ae v (0 : Int32)) (Ae v (1 : Int32)) (Ae v (2 : Int32)) (Ae v (3 : Int32)))) = Cq v (1 : Int32) := by
  rw [An v (i := (0 : Int32)) 42 (by decide) (by decide), An v (i := (1 : Int32)) 36 (by decide) (by decide), An v (i := (2 : Int32)) 30 (by decide) (by decide), An v (i := (3 : Int32)) 24 (by decide) (by decide), Ci v 32 (by decide) (by decide), Dd _ _ _ _ (Nat.mod_lt _ (by decide)) (Nat.mod_lt _ (by decide)) (Nat.mod_lt _ (by decide)) (Nat.mod_lt _ (by decide)), Ee (by have hV : v.toBitVec.toNat < 2 ^ 64 := v.toBitVec.isLt; omega)]
  apply Cg
  have hV : v.toBitVec.toNat < 2 ^ 64 := v.toBitVec.isLt
  omega
theorem own_k72 (v : Int64) : (Bw (Ap (Ae v (0 : Int32)) (Ae v (1 : Int32)) (Ae v (2 : Int32)) (Ae v (3 : Int32)))) = Cq v (2 : Int32) := by
  rw [An v (i := (0 : Int32)) 42 (by decide) (by decide), An v (i := (1 : Int32)) 36 (by decide) (by decide), An v (i := (2 : Int32)) 30 (by decide) (by decide), An v (i := (3 : Int32)) 24 (by decide) (by decide), Ci v 24 (by decide) (by decide), Dd _ _ _ _ (Nat.mod_lt _ (by decide)) (Nat.mod_lt _ (by decide)) (Nat.mod_lt _ (by decide)) (Nat.mod_lt _ (by decide)), Ey]
  apply Cg
  have hV : v.toBitVec.toNat < 2 ^ 64 := v.toBitVec.isLt
  omega
theorem own_k73 (v : Int64) : (Be (Ch (Ae v (4 : Int32)) (Ae v (5 : Int32)) (Ae v (6 : Int32)))) = Cq v (3 : Int32) := by
  rw [An v (i := (4 : Int32)) 18 (by decide) (by decide), An v (i := (5 : Int32)) 12 (by decide) (by decide), An v (i := (6 : Int32)) 6 (by decide) (by decide), Ci v 16 (by decide) (by decide), Ew _ _ _ (Nat.mod_lt _ (by decide)) (Nat.mod_lt _ (by decide)) (Nat.mod_lt _ (by decide)), Dn (by have hV : v.toBitVec.toNat < 2 ^ 64 := v.toBitVec.isLt; omega)]
  apply Cg
  have hV : v.toBitVec.toNat < 2 ^ 64 := v.toBitVec.isLt
  omega
theorem own_k74 (v : Int64) : (Bn (Ch (Ae v (4 : Int32)) (Ae v (5 : Int32)) (Ae v (6 : Int32)))) = Cq v (4 : Int32) := by
  rw [An v (i := (4 : Int32)) 18 (by decide) (by decide), An v (i := (5 : Int32)) 12 (by decide) (by decide), An v (i := (6 : Int32)) 6 (by decide) (by decide), Ci v 8 (by decide) (by decide), Ew _ _ _ (Nat.mod_lt _ (by decide)) (Nat.mod_lt _ (by decide)) (Nat.mod_lt _ (by decide)), Ee (by have hV : v.toBitVec.toNat < 2 ^ 64 := v.toBitVec.isLt; omega)]
  apply Cg
  have hV : v.toBitVec.toNat < 2 ^ 64 := v.toBitVec.isLt
  omega
theorem own_sp7 (p : Int64) : ((Ae ((p &&& 281474976710655) &&& ((((1 : Int64) <<< (((8 : Int32) * (5 : Int32)).toInt64 &&& 63)) - (1 : Int64)) <<< (((48 : Int32) - ((8 : Int32) * (5 : Int32))).toInt64 &&& 63))) (6 : Int32)) &&& (((1 : Int32) <<< ((2 : Int32) &&& 31)) - (1 : Int32))) = (0 : Int32) := by
  rw [An _ (i := (6 : Int32)) 6 (by decide) (by decide), show (((1 : Int32) <<< ((2 : Int32) &&& 31)) - (1 : Int32)) = Int32.ofNat 3 from by decide, Dz, show (3 : Nat) = 2 ^ 2 - 1 from rfl, Nat.and_two_pow_sub_one_eq_mod]
  have h : ((p &&& 281474976710655) &&& ((((1 : Int64) <<< (((8 : Int32) * (5 : Int32)).toInt64 &&& 63)) - (1 : Int64)) <<< (((48 : Int32) - ((8 : Int32) * (5 : Int32))).toInt64 &&& 63))).toBitVec.toNat % 2 ^ 8 = 0 := by
    rw [Int64.toBitVec_and, BitVec.toNat_and, Nat.and_mod_two_pow, show (((((1 : Int64) <<< (((8 : Int32) * (5 : Int32)).toInt64 &&& 63)) - (1 : Int64)) <<< (((48 : Int32) - ((8 : Int32) * (5 : Int32))).toInt64 &&& 63))).toBitVec.toNat % 2 ^ 8 = 0 from by decide, Nat.and_zero]
  generalize ((p &&& 281474976710655) &&& ((((1 : Int64) <<< (((8 : Int32) * (5 : Int32)).toInt64 &&& 63)) - (1 : Int64)) <<< (((48 : Int32) - ((8 : Int32) * (5 : Int32))).toInt64 &&& 63))).toBitVec.toNat = V at h
  rw [show V / 2 ^ 6 % 64 % 2 ^ 2 = 0 from by omega]
  rfl
theorem own_k80 (v : Int64) : (Be (Ap (Ae v (0 : Int32)) (Ae v (1 : Int32)) (Ae v (2 : Int32)) (Ae v (3 : Int32)))) = Cq v (0 : Int32) := by
  rw [An v (i := (0 : Int32)) 42 (by decide) (by decide), An v (i := (1 : Int32)) 36 (by decide) (by decide), An v (i := (2 : Int32)) 30 (by decide) (by decide), An v (i := (3 : Int32)) 24 (by decide) (by decide), Ci v 40 (by decide) (by decide), Dd _ _ _ _ (Nat.mod_lt _ (by decide)) (Nat.mod_lt _ (by decide)) (Nat.mod_lt _ (by decide)) (Nat.mod_lt _ (by decide)), Dn (by have hV : v.toBitVec.toNat < 2 ^ 64 := v.toBitVec.isLt; omega)]
  apply Cg
  have hV : v.toBitVec.toNat < 2 ^ 64 := v.toBitVec.isLt
  omega
theorem own_k81 (v : Int64) : (Bn (Ap (Ae v (0 : Int32)) (Ae v (1 : Int32)) (Ae v (2 : Int32)) (Ae v (3 : Int32)))) = Cq v (1 : Int32) := by
  rw [An v (i := (0 : Int32)) 42 (by decide) (by decide), An v (i := (1 : Int32)) 36 (by decide) (by decide), An v (i := (2 : Int32)) 30 (by decide) (by decide), An v (i := (3 : Int32)) 24 (by decide) (by decide), Ci v 32 (by decide) (by decide), Dd _ _ _ _ (Nat.mod_lt _ (by decide)) (Nat.mod_lt _ (by decide)) (Nat.mod_lt _ (by decide)) (Nat.mod_lt _ (by decide)), Ee (by have hV : v.toBitVec.toNat < 2 ^ 64 := v.toBitVec.isLt; omega)]
  apply Cg
  have hV : v.toBitVec.toNat < 2 ^ 64 := v.toBitVec.isLt
  omega
theorem own_k82 (v : Int64) : (Bw (Ap (Ae v (0 : Int32)) (Ae v (1 : Int32)) (Ae v (2 : Int32)) (Ae v (3 : Int32)))) = Cq v (2 : Int32) := by
  rw [An v (i := (0 : Int32)) 42 (by decide) (by decide), An v (i := (1 : Int32)) 36 (by decide) (by decide), An v (i := (2 : Int32)) 30 (by decide) (by decide), An v (i := (3 : Int32)) 24 (by decide) (by decide), Ci v 24 (by decide) (by decide), Dd _ _ _ _ (Nat.mod_lt _ (by decide)) (Nat.mod_lt _ (by decide)) (Nat.mod_lt _ (by decide)) (Nat.mod_lt _ (by decide)), Ey]
  apply Cg
  have hV : v.toBitVec.toNat < 2 ^ 64 := v.toBitVec.isLt
  omega
theorem own_k83 (v : Int64) : (Be (Ap (Ae v (4 : Int32)) (Ae v (5 : Int32)) (Ae v (6 : Int32)) (Ae v (7 : Int32)))) = Cq v (3 : Int32) := by
  rw [An v (i := (4 : Int32)) 18 (by decide) (by decide), An v (i := (5 : Int32)) 12 (by decide) (by decide), An v (i := (6 : Int32)) 6 (by decide) (by decide), An v (i := (7 : Int32)) 0 (by decide) (by decide), Ci v 16 (by decide) (by decide), Dd _ _ _ _ (Nat.mod_lt _ (by decide)) (Nat.mod_lt _ (by decide)) (Nat.mod_lt _ (by decide)) (Nat.mod_lt _ (by decide)), Dn (by have hV : v.toBitVec.toNat < 2 ^ 64 := v.toBitVec.isLt; omega)]
  apply Cg
  have hV : v.toBitVec.toNat < 2 ^ 64 := v.toBitVec.isLt
  omega
theorem own_k84 (v : Int64) : (Bn (Ap (Ae v (4 : Int32)) (Ae v (5 : Int32)) (Ae v (6 : Int32)) (Ae v (7 : Int32)))) = Cq v (4 : Int32) := by
  rw [An v (i := (4 : Int32)) 18 (by decide) (by decide), An v (i := (5 : Int32)) 12 (by decide) (by decide), An v (i := (6 : Int32)) 6 (by decide) (by decide), An v (i := (7 : Int32)) 0 (by decide) (by decide), Ci v 8 (by decide) (by decide), Dd _ _ _ _ (Nat.mod_lt _ (by decide)) (Nat.mod_lt _ (by decide)) (Nat.mod_lt _ (by decide)) (Nat.mod_lt _ (by decide)), Ee (by have hV : v.toBitVec.toNat < 2 ^ 64 := v.toBitVec.isLt; omega)]
  apply Cg
  have hV : v.toBitVec.toNat < 2 ^ 64 := v.toBitVec.isLt
  omega
theorem own_k85 (v : Int64) : (Bw (Ap (Ae v (4 : Int32)) (Ae v (5 : Int32)) (Ae v (6 : Int32)) (Ae v (7 : Int32)))) = Cq v (5 : Int32) := by
  rw [An v (i := (4 : Int32)) 18 (by decide) (by decide), An v (i := (5 : Int32)) 12 (by decide) (by decide), An v (i := (6 : Int32)) 6 (by decide) (by decide), An v (i := (7 : Int32)) 0 (by decide) (by decide), Ci v 0 (by decide) (by decide), Dd _ _ _ _ (Nat.mod_lt _ (by decide)) (Nat.mod_lt _ (by decide)) (Nat.mod_lt _ (by decide)) (Nat.mod_lt _ (by decide)), Ey]
  apply Cg
  have hV : v.toBitVec.toNat < 2 ^ 64 := v.toBitVec.isLt
  omega
theorem own_c7 (x : Int32) : (x &&& 2147483647) % (7 : Int32) = 0 ∨ (x &&& 2147483647) % (7 : Int32) = 1 ∨ (x &&& 2147483647) % (7 : Int32) = 2 ∨ (x &&& 2147483647) % (7 : Int32) = 3 ∨ (x &&& 2147483647) % (7 : Int32) = 4 ∨ (x &&& 2147483647) % (7 : Int32) = 5 ∨ (x &&& 2147483647) % (7 : Int32) = 6 := by
  have h := c_and x (2147483647 : Int32) (by decide)
  have e1 : (7 : Int32).toInt = 7 := rfl
  have e2 : ((x &&& 2147483647) % (7 : Int32)).toInt = (x &&& (2147483647 : Int32)).toInt % 7 := by
    rw [Int32.toInt_mod, e1, Int.tmod_eq_emod_of_nonneg h.1]
  generalize (x &&& 2147483647) % (7 : Int32) = z at e2
  have e3 : z.toInt = 0 ∨ z.toInt = 1 ∨ z.toInt = 2 ∨ z.toInt = 3 ∨ z.toInt = 4 ∨ z.toInt = 5 ∨ z.toInt = 6 := by omega
  simp only [← Int32.toInt_inj]
  exact e3

variable (l : Launch) (Z : State) (a0 : Array Value)
theorem own_coder (hw : Ao a0 Z) (G1 : Int32) (G3 : Value) (x : Addr) (h0 : Heap) (n0 : Nat) (z0 : n0 ≤ h0.size) (X00 : Old Z n0 h0) (pC : Fld Z h0 x "java/lang/String" "coder" "B" (.int 0)) (O2 : Sta Z Z.heap "java/lang/String" "COMPACT_STRINGS" "Z" (.int G1)) (O4 : Sta Z Z.heap "jdk/internal/util/Preconditions" "SIOOBE_FORMATTER" "Ljava/util/function/BiFunction;" G3) (P5 : ¬ G1 = (0 : Int32)) (rG3 : G3.isRef = true) :
    Af l Z (⟨"java/lang/String", "coder", "()B"⟩ : MethodName) jdk_42_method_152_code 1 (some .byte) ({ frames := 0, cells := 0, slots := 0, locals := 0 } : Room) n0 #[(.ref x)] h0 (fun v h => v = some (.int 0) ∧ h = h0) := by
  refine Ar #[.val (.ref x)] ?_
  intro p e s m below meth c T0 C S0
  refine Az C S0 (ow hw 25 rfl) Via.refl (O2.ext X00.2) (by decide +kernel) ?_
  intro T1 S2
  refine Ba C S2 .eq 10 13 (fun (hq : G1 = (0 : Int32)) => False.elim (P5 hq)) (fun (q3 : ¬ G1 = (0 : Int32)) => ?_)
  refine Ac C S2 [(6, .aload_n 0, 1)] 7 #[Ab x] [.ref x] ?_
  refine Cb C S2 hw 37 pC ?_
  intro T4 S5
  refine Ac C S5 [(10, .goto 4, 3)] 14 #[Ab x] [.int 0] ?_
  refine Dp C S5 (by decide +kernel) rfl (by decide) (by decide) ?_
  exact ⟨rfl, rfl⟩
theorem own_isL (hw : Ao a0 Z) (G1 : Int32) (G3 : Value) (x : Addr) (h0 : Heap) (n0 : Nat) (z0 : n0 ≤ h0.size) (X00 : Old Z n0 h0) (pC : Fld Z h0 x "java/lang/String" "coder" "B" (.int 0)) (O2 : Sta Z Z.heap "java/lang/String" "COMPACT_STRINGS" "Z" (.int G1)) (O4 : Sta Z Z.heap "jdk/internal/util/Preconditions" "SIOOBE_FORMATTER" "Ljava/util/function/BiFunction;" G3) (P5 : ¬ G1 = (0 : Int32)) (rG3 : G3.isRef = true) :
    Af l Z (⟨"java/lang/String", "isLatin1", "()Z"⟩ : MethodName) jdk_42_method_154_code 1 (some .boolean) ({ frames := 0, cells := 0, slots := 0, locals := 0 } : Room) n0 #[(.ref x)] h0 (fun v h => v = some (.int 1) ∧ h = h0) := by
  refine Ar #[.val (.ref x)] ?_
  intro p e s m below meth c T0 C S0
  refine Az C S0 (ow hw 25 rfl) Via.refl (O2.ext X00.2) (by decide +kernel) ?_
  intro T1 S2
  refine Ba C S2 .eq 14 17 (fun (hq : G1 = (0 : Int32)) => False.elim (P5 hq)) (fun (q3 : ¬ G1 = (0 : Int32)) => ?_)
  refine Ac C S2 [(6, .aload_n 0, 1)] 7 #[Ab x] [.ref x] ?_
  refine Cb C S2 hw 37 pC ?_
  intro T4 S5
  refine Ba C S5 .ne 7 17 (fun (hq : ¬ 0 = (0 : Int32)) => False.elim (hq rfl)) (fun (q6 : 0 = (0 : Int32)) => ?_)
  refine Ac C S5 [(13, .iconst 1, 1), (14, .goto 4, 3)] 18 #[Ab x] [.int 1] ?_
  refine own_retZ C S5 (by decide +kernel) (by decide) (by decide) (by decide) ?_
  exact ⟨rfl, rfl⟩
theorem own_pd0 : parseMethodDescriptor "()B" = some ⟨[], (some .byte)⟩ := by decide +kernel
theorem Bb (hw : Ao a0 Z) (G1 : Int32) (G3 : Value) (x : Addr) (t : Addr) (tk : ClassId) (N : Int32) (vs : List Value) (h0 : Heap) (n0 : Nat) (z0 : n0 ≤ h0.size) (X00 : Old Z n0 h0) (xE : Exa Z h0 x "java/lang/String") (xV : Fld Z h0 x "java/lang/String" "value" "[B" (.ref t)) (xC : Fld Z h0 x "java/lang/String" "coder" "B" (.int 0)) (tK : Arv Z h0 t tk .byte N vs (.int 0)) (O2 : Sta Z Z.heap "java/lang/String" "COMPACT_STRINGS" "Z" (.int G1)) (O4 : Sta Z Z.heap "jdk/internal/util/Preconditions" "SIOOBE_FORMATTER" "Ljava/util/function/BiFunction;" G3) (P5 : ¬ G1 = (0 : Int32)) (rG3 : G3.isRef = true) :
    Af l Z (⟨"java/lang/String", "length", "()I"⟩ : MethodName) jdk_42_method_54_code 1 (some .int) ({ frames := 1, cells := 0, slots := 0, locals := 13 } : Room) n0 #[(.ref x)] h0 (fun v h => v = some (.int (N >>> ((0 : Int32) &&& 31))) ∧ h = h0) := by
  refine Ar #[.val (.ref x)] ?_
  intro p e s m below meth c T0 C S0
  refine Ac C S0 [(0, .aload_n 0, 1)] 1 #[Ab x] [.ref x] ?_
  refine Cb C S0 hw 39 xV ?_
  intro T1 S2
  refine Ay C S2 tK (by decide +kernel) ?_
  refine Ac C S2 [(5, .aload_n 0, 1)] 6 #[Ab x] [.ref x, .int N] ?_
  refine Al C S2 hw 57 58 60 60 59 61 9 (own_coder l Z a0 hw G1 G3 x h0 n0 z0 X00 xC O2 O4 P5 rG3) 1 xE [] [.int N] own_pd0 ?_
  rintro T4 h5 v6 L7 S8 ⟨⟨rfl, e3⟩, -⟩
  rw [e3] at S8; clear e3
  refine Ac C S8 [(9, .ishr, 1)] 10 #[Ab x] [.int (N >>> (0 &&& 31))] ?_
  refine Bq C S8 (by decide +kernel) (by decide) (by decide) ?_
  exact ⟨rfl, rfl⟩
theorem own_pciN (hw : Ao a0 Z) (j : Int32) (n : Int32) (h0 : Heap) (n0 : Nat) (z0 : n0 ≤ h0.size) (hi : ¬ j < 0 ∧ j < n) :
    Af l Z (⟨"jdk/internal/util/Preconditions", "checkIndex", "(IILjava/util/function/BiFunction;)I"⟩ : MethodName) jdk_41_method_11_code 3 (some .int) ({ frames := 0, cells := 0, slots := 0, locals := 0 } : Room) n0 #[(.int j), (.int n), .null] h0 (fun v h => v = some (.int j) ∧ h = h0) := by
  refine Ar #[.val (.int j), .val (.int n), .val .null] ?_
  intro p e s m below meth c T0 C S0
  refine Ac C S0 [(0, .iload_n 0, 1)] 1 #[Aa j, Aa n, .val .null] [.int j] ?_
  refine Ba C S0 .lt 8 9 (fun (hq : j < (0 : Int32)) => False.elim (hi.1 hq)) (fun (q1 : ¬ j < (0 : Int32)) => ?_)
  refine Ac C S0 [(4, .iload_n 0, 1), (5, .iload_n 1, 1)] 6 #[Aa j, Aa n, .val .null] [.int n, .int j] ?_
  refine Bj C S0 .lt 10 16 (fun (q2 : j < n) => ?_) (fun (hq : ¬ j < n) => False.elim (hq hi.2))
  refine Ac C S0 [(16, .iload_n 0, 1)] 17 #[Aa j, Aa n, .val .null] [.int j] ?_
  refine Bq C S0 (by decide +kernel) (by decide) (by decide) ?_
  exact ⟨rfl, rfl⟩
theorem own_pciR (hw : Ao a0 Z) (j : Int32) (n : Int32) (g : Addr) (h0 : Heap) (n0 : Nat) (z0 : n0 ≤ h0.size) (hi : ¬ j < 0 ∧ j < n) :
    Af l Z (⟨"jdk/internal/util/Preconditions", "checkIndex", "(IILjava/util/function/BiFunction;)I"⟩ : MethodName) jdk_41_method_11_code 3 (some .int) ({ frames := 0, cells := 0, slots := 0, locals := 0 } : Room) n0 #[(.int j), (.int n), (.ref g)] h0 (fun v h => v = some (.int j) ∧ h = h0) := by
  refine Ar #[.val (.int j), .val (.int n), .val (.ref g)] ?_
  intro p e s m below meth c T0 C S0
  refine Ac C S0 [(0, .iload_n 0, 1)] 1 #[Aa j, Aa n, Ab g] [.int j] ?_
  refine Ba C S0 .lt 8 9 (fun (hq : j < (0 : Int32)) => False.elim (hi.1 hq)) (fun (q1 : ¬ j < (0 : Int32)) => ?_)
  refine Ac C S0 [(4, .iload_n 0, 1), (5, .iload_n 1, 1)] 6 #[Aa j, Aa n, Ab g] [.int n, .int j] ?_
  refine Bj C S0 .lt 10 16 (fun (q2 : j < n) => ?_) (fun (hq : ¬ j < n) => False.elim (hq hi.2))
  refine Ac C S0 [(16, .iload_n 0, 1)] 17 #[Aa j, Aa n, Ab g] [.int j] ?_
  refine Bq C S0 (by decide +kernel) (by decide) (by decide) ?_
  exact ⟨rfl, rfl⟩
theorem own_pd1 : parseMethodDescriptor "(IILjava/util/function/BiFunction;)I" = some ⟨[.int, .int, (.object "java/util/function/BiFunction")], (some .int)⟩ := by decide +kernel
theorem own_sci (hw : Ao a0 Z) (G1 : Int32) (G3 : Value) (j : Int32) (n : Int32) (h0 : Heap) (n0 : Nat) (z0 : n0 ≤ h0.size) (X00 : Old Z n0 h0) (O2 : Sta Z Z.heap "java/lang/String" "COMPACT_STRINGS" "Z" (.int G1)) (O4 : Sta Z Z.heap "jdk/internal/util/Preconditions" "SIOOBE_FORMATTER" "Ljava/util/function/BiFunction;" G3) (P5 : ¬ G1 = (0 : Int32)) (rG3 : G3.isRef = true) (hi : ¬ j < 0 ∧ j < n) :
    Af l Z (⟨"java/lang/String", "checkIndex", "(II)V"⟩ : MethodName) jdk_42_method_155_code 2 none ({ frames := 1, cells := 0, slots := 0, locals := 14 } : Room) n0 #[(.int j), (.int n)] h0 (fun v h => v = none ∧ h = h0) := by
  refine Ar #[.val (.int j), .val (.int n)] ?_
  intro p e s m below meth c T0 C S0
  refine Ac C S0 [(0, .iload_n 0, 1), (1, .iload_n 1, 1)] 2 #[Aa j, Aa n] [.int n, .int j] ?_
  rcases ref_cases rG3 with e3 | ⟨g, e3⟩
  · subst e3
    refine Az C S0 (ow hw 79 rfl) Via.refl (O4.ext X00.2) (by decide +kernel) ?_
    intro T1 S2
    refine Ah C S2 hw 81 82 80 83 (own_pciN l Z a0 hw j n h0 n0 z0 hi) 0 [.int j, .int n, .null] [] own_pd1 ?_
    rintro T4 h5 v6 L7 S8 ⟨⟨rfl, e3⟩, -⟩
    rw [e3] at S8; clear e3
    refine Ac C S8 [(8, .pop, 1)] 9 #[Aa j, Aa n] [] ?_
    refine Ct C S8 (by decide +kernel) (by decide) (by decide) ?_
    exact ⟨rfl, rfl⟩
  · subst e3
    refine Az C S0 (ow hw 79 rfl) Via.refl (O4.ext X00.2) (by decide +kernel) ?_
    intro T9 S10
    refine Ah C S10 hw 81 82 80 83 (own_pciR l Z a0 hw j n g h0 n0 z0 hi) 0 [.int j, .int n, .ref g] [] own_pd1 ?_
    rintro T12 h13 v14 L15 S16 ⟨⟨rfl, e11⟩, -⟩
    rw [e11] at S16; clear e11
    refine Ac C S16 [(8, .pop, 1)] 9 #[Aa j, Aa n] [] ?_
    refine Ct C S16 (by decide +kernel) (by decide) (by decide) ?_
    exact ⟨rfl, rfl⟩
theorem own_pd2 : parseMethodDescriptor "(II)V" = some ⟨[.int, .int], none⟩ := by decide +kernel
theorem own_lch (hw : Ao a0 Z) (G1 : Int32) (G3 : Value) (t : Addr) (tk : ClassId) (N : Int32) (vs : List Value) (j : Int32) (bv : Int32) (cc : Int32) (h0 : Heap) (n0 : Nat) (z0 : n0 ≤ h0.size) (X00 : Old Z n0 h0) (tK : Arv Z h0 t tk .byte N vs (.int 0)) (O2 : Sta Z Z.heap "java/lang/String" "COMPACT_STRINGS" "Z" (.int G1)) (O4 : Sta Z Z.heap "jdk/internal/util/Preconditions" "SIOOBE_FORMATTER" "Ljava/util/function/BiFunction;" G3) (P5 : ¬ G1 = (0 : Int32)) (rG3 : G3.isRef = true) (hi : ¬ j < 0 ∧ j < N) (hv : vs.getD j.toNatClampNeg (.int 0) = .int bv) (hcc : (bv &&& (255 : Int32)).toUInt32.toUInt16.toUInt32.toInt32 = cc) (hcz : cc.toUInt32.toUInt16.toUInt32.toInt32 = cc) :
    Af l Z (⟨"java/lang/StringLatin1", "charAt", "([BI)C"⟩ : MethodName) jdk_43_method_2_code 2 (some .char) ({ frames := 2, cells := 0, slots := 0, locals := 27 } : Room) n0 #[(.ref t), (.int j)] h0 (fun v h => v = some (.int cc) ∧ h = h0) := by
  refine Ar #[.val (.ref t), .val (.int j)] ?_
  intro p e s m below meth c T0 C S0
  refine Ac C S0 [(0, .iload_n 1, 1), (1, .aload_n 0, 1)] 2 #[Ab t, Aa j] [.ref t, .int j] ?_
  refine Ay C S0 tK (by decide +kernel) ?_
  refine Ah C S0 hw 76 77 9 78 (own_sci l Z a0 hw G1 G3 j N h0 n0 z0 X00 O2 O4 P5 rG3 hi) 0 [.int j, .int N] [] own_pd2 ?_
  rintro T2 h3 v4 L5 S6 ⟨⟨rfl, e1⟩, -⟩
  rw [e1] at S6; clear e1
  refine Ac C S6 [(6, .aload_n 0, 1), (7, .iload_n 1, 1)] 8 #[Ab t, Aa j] [.int j, .ref t] ?_
  refine As C S6 tK hi (.int bv) hv (by decide +kernel) ?_
  refine Ac C S6 [(9, .sipush 255, 3), (12, .iand, 1), (13, .i2c, 1)] 14 #[Ab t, Aa j] [.int ((bv &&& (255 : Int32)).toUInt32.toUInt16.toUInt32.toInt32)] ?_
  rw [show (bv &&& (255 : Int32)).toUInt32.toUInt16.toUInt32.toInt32 = cc from hcc]
  refine Do C S6 (by decide +kernel) hcz (by decide) (by decide) ?_
  exact ⟨rfl, rfl⟩
theorem own_pd3 : parseMethodDescriptor "()Z" = some ⟨[], (some .boolean)⟩ := by decide +kernel
theorem own_pd4 : parseMethodDescriptor "([BI)C" = some ⟨[(.array .byte), .int], (some .char)⟩ := by decide +kernel
theorem Bu (hw : Ao a0 Z) (G1 : Int32) (G3 : Value) (x : Addr) (t : Addr) (tk : ClassId) (N : Int32) (vs : List Value) (j : Int32) (bv : Int32) (cc : Int32) (h0 : Heap) (n0 : Nat) (z0 : n0 ≤ h0.size) (X00 : Old Z n0 h0) (xE : Exa Z h0 x "java/lang/String") (xV : Fld Z h0 x "java/lang/String" "value" "[B" (.ref t)) (xC : Fld Z h0 x "java/lang/String" "coder" "B" (.int 0)) (tK : Arv Z h0 t tk .byte N vs (.int 0)) (O2 : Sta Z Z.heap "java/lang/String" "COMPACT_STRINGS" "Z" (.int G1)) (O4 : Sta Z Z.heap "jdk/internal/util/Preconditions" "SIOOBE_FORMATTER" "Ljava/util/function/BiFunction;" G3) (P5 : ¬ G1 = (0 : Int32)) (rG3 : G3.isRef = true) (hi : ¬ j < 0 ∧ j < N) (hv : vs.getD j.toNatClampNeg (.int 0) = .int bv) (hcc : (bv &&& (255 : Int32)).toUInt32.toUInt16.toUInt32.toInt32 = cc) (hcz : cc.toUInt32.toUInt16.toUInt32.toInt32 = cc) :
    Af l Z (⟨"java/lang/String", "charAt", "(I)C"⟩ : MethodName) jdk_42_method_56_code 2 (some .char) ({ frames := 3, cells := 0, slots := 0, locals := 40 } : Room) n0 #[(.ref x), (.int j)] h0 (fun v h => v = some (.int cc) ∧ h = h0) := by
  refine Ar #[.val (.ref x), .val (.int j)] ?_
  intro p e s m below meth c T0 C S0
  refine Ac C S0 [(0, .aload_n 0, 1)] 1 #[Ab x, Aa j] [.ref x] ?_
  refine Al C S0 hw 67 68 70 70 69 71 9 (own_isL l Z a0 hw G1 G3 x h0 n0 z0 X00 xC O2 O4 P5 rG3) 0 xE [] [] own_pd3 ?_
  rintro T2 h3 v4 L5 S6 ⟨⟨rfl, e1⟩, -⟩
  rw [e1] at S6; clear e1
  refine Ba C S6 .eq 12 16 (fun (hq : (1 : Int32) = 0) => False.elim (absurd hq (by decide))) (fun (q7 : ¬ (1 : Int32) = 0) => ?_)
  refine Ac C S6 [(7, .aload_n 0, 1)] 8 #[Ab x, Aa j] [.ref x] ?_
  refine Cb C S6 hw 39 xV ?_
  intro T8 S9
  refine Ac C S9 [(11, .iload_n 1, 1)] 12 #[Ab x, Aa j] [.int j, .ref t] ?_
  refine Ah C S9 hw 72 73 74 75 (own_lch l Z a0 hw G1 G3 t _ _ _ j bv cc h0 n0 z0 X00 tK O2 O4 P5 rG3 hi hv hcc hcz) 0 [.ref t, .int j] [] own_pd4 ?_
  rintro T11 h12 v13 L14 S15 ⟨⟨rfl, e10⟩, -⟩
  rw [e10] at S15; clear e10
  refine Do C S15 (by decide +kernel) hcz (by decide) (by decide) ?_
  exact ⟨rfl, rfl⟩
theorem own_e3 (hw : Ao a0 Z) (G1 : Int32) (G3 : Value) (U8 : Addr) (I8 : Addr) (TB : Addr) (DE : Addr) (b : Addr) (bk : ClassId) (N : Int32) (vs : List Value) (h0 : Heap) (n0 : Nat) (z0 : n0 ≤ h0.size) (X00 : Old Z n0 h0) (bK : Arv Z h0 b bk .byte N vs (.int 0)) (bE : Exa Z h0 b "[B") (XS : Bf Z n0 G1 G3 U8 I8 TB DE) (hN : N.toNatClampNeg ≤ 8) :
    Af l Z (⟨"java/lang/String", "encode8859_1", "(B[BZ)[B"⟩ : MethodName) jdk_42_method_27_code 10 (some (.array .byte)) ({ frames := 1, cells := 1, slots := 8, locals := 14 } : Room) n0 #[(.int 0), (.ref b), (.int 1)] h0 (fun v h => ∃ r : Addr, v = some (.ref r) ∧ h0.size ≤ r ∧ Keep h0 h [] ∧ Arv Z h r bk .byte N vs (.int 0) ∧ Exa Z h r "[B") := by
  refine Ar #[.val (.int 0), .val (.ref b), .val (.int 1), .unset, .unset, .unset, .unset, .unset, .unset, .unset] ?_
  intro p e s m below meth c T0 C S0
  have XS_ := XS
  obtain ⟨O2, O4, P5, rG3, OU, OI, OT, OD, hUI, TBlt, DElt⟩ := XS_
  refine Ac C S0 [(0, .iload_n 0, 1), (1, .ifCond .ne 11, 3), (4, .aload_n 1, 1)] 5 #[Aa 0, Ab b, Aa 1, .unset, .unset, .unset, .unset, .unset, .unset, .unset] [.ref b] ?_
  refine own_clone C S0 (ow hw 114 rfl) (ow hw 115 rfl) (ow hw 119 rfl) (ow hw 117 rfl) (ow hw 118 rfl) (ow hw 120 rfl) bK bE rfl (by decide +kernel) (by decide) 0 8 (Am rfl) (by decide) hN (by decide) (by decide) ?_
  intro T1 h3 a4 S2 g5 E6 f7 x8
  refine own_cast C S2 (ow hw 121 rfl) (Ins.self x8) (by decide +kernel) ?_
  intro T9 S10
  refine Br C S10 rfl rfl (by decide +kernel) (by decide) (by decide) ?_
  have o11 : h0.size ≤ a4 := by rw [g5]; exact (Nat.le_refl _)
  exact ⟨a4, rfl, o11, ((Keep.refl _ _).ext E6), f7, x8⟩
theorem own_pd5 : parseMethodDescriptor "(B[BZ)[B" = some ⟨[.byte, (.array .byte), .boolean], (some (.array .byte))⟩ := by decide +kernel
theorem own_e2 (hw : Ao a0 Z) (G1 : Int32) (G3 : Value) (U8 : Addr) (I8 : Addr) (TB : Addr) (DE : Addr) (b : Addr) (bk : ClassId) (N : Int32) (vs : List Value) (h0 : Heap) (n0 : Nat) (z0 : n0 ≤ h0.size) (X00 : Old Z n0 h0) (bK : Arv Z h0 b bk .byte N vs (.int 0)) (bE : Exa Z h0 b "[B") (XS : Bf Z n0 G1 G3 U8 I8 TB DE) (hN : N.toNatClampNeg ≤ 8) :
    Af l Z (⟨"java/lang/String", "encode8859_1", "(B[B)[B"⟩ : MethodName) jdk_42_method_26_code 2 (some (.array .byte)) ({ frames := 2, cells := 1, slots := 8, locals := 35 } : Room) n0 #[(.int 0), (.ref b)] h0 (fun v h => ∃ r : Addr, v = some (.ref r) ∧ h0.size ≤ r ∧ Keep h0 h [] ∧ Arv Z h r bk .byte N vs (.int 0) ∧ Exa Z h r "[B") := by
  refine Ar #[.val (.int 0), .val (.ref b)] ?_
  intro p e s m below meth c T0 C S0
  have XS_ := XS
  obtain ⟨O2, O4, P5, rG3, OU, OI, OT, OD, hUI, TBlt, DElt⟩ := XS_
  refine Ac C S0 [(0, .iload_n 0, 1), (1, .aload_n 1, 1), (2, .iconst 1, 1)] 3 #[Aa 0, Ab b] [.int 1, .ref b, .int 0] ?_
  refine Ah C S0 hw 111 112 9 113 (own_e3 l Z a0 hw G1 G3 U8 I8 TB DE b _ _ _ h0 n0 z0 X00 bK bE XS hN) 0 [.int 0, .ref b, .int 1] [] own_pd5 ?_
  rintro T6 h7 v8 L9 S10 ⟨⟨a1, rfl, g2, K3, f4, f5⟩, -⟩
  refine Br C S10 rfl rfl (by decide +kernel) (by decide) (by decide) ?_
  have o11 : h0.size ≤ a1 := Nat.le_trans (Nat.le_refl _) g2
  exact ⟨a1, rfl, o11, ((Keep.refl _ _).trans K3 all0), f4, f5⟩
theorem own_pd6 : parseMethodDescriptor "(B[B)[B" = some ⟨[.byte, (.array .byte)], (some (.array .byte))⟩ := by decide +kernel
theorem own_e1 (hw : Ao a0 Z) (G1 : Int32) (G3 : Value) (U8 : Addr) (I8 : Addr) (TB : Addr) (DE : Addr) (b : Addr) (bk : ClassId) (N : Int32) (vs : List Value) (h0 : Heap) (n0 : Nat) (z0 : n0 ≤ h0.size) (X00 : Old Z n0 h0) (bK : Arv Z h0 b bk .byte N vs (.int 0)) (bE : Exa Z h0 b "[B") (XS : Bf Z n0 G1 G3 U8 I8 TB DE) (hN : N.toNatClampNeg ≤ 8) :
    Af l Z (⟨"java/lang/String", "encode", "(Ljava/nio/charset/Charset;B[B)[B"⟩ : MethodName) jdk_42_method_18_code 3 (some (.array .byte)) ({ frames := 3, cells := 1, slots := 8, locals := 48 } : Room) n0 #[(.ref I8), (.int 0), (.ref b)] h0 (fun v h => ∃ r : Addr, v = some (.ref r) ∧ h0.size ≤ r ∧ Keep h0 h [] ∧ Arv Z h r bk .byte N vs (.int 0) ∧ Exa Z h r "[B") := by
  refine Ar #[.val (.ref I8), .val (.int 0), .val (.ref b)] ?_
  intro p e s m below meth c T0 C S0
  have XS_ := XS
  obtain ⟨O2, O4, P5, rG3, OU, OI, OT, OD, hUI, TBlt, DElt⟩ := XS_
  refine Ac C S0 [(0, .aload_n 0, 1)] 1 #[Ab I8, Aa 0, Ab b] [.ref I8] ?_
  refine Az C S0 (ow hw 105 rfl) Via.refl (OU.ext X00.2) (by decide +kernel) ?_
  intro T1 S2
  refine own_acmp C S2 (q := .ne) (o := 10) rfl rfl (by decide +kernel) 14 (by decide) (by decide) (fun (q3 : ¬ ((.ref I8) : Value) = (.ref U8)) => ?_) (fun (hq : ((.ref I8) : Value) = (.ref U8)) => False.elim (own_refne hUI hq))
  refine Ac C S2 [(14, .aload_n 0, 1)] 15 #[Ab I8, Aa 0, Ab b] [.ref I8] ?_
  refine Az C S2 (ow hw 107 rfl) Via.refl (OI.ext X00.2) (by decide +kernel) ?_
  intro T4 S5
  refine own_acmp C S5 (q := .ne) (o := 9) rfl rfl (by decide +kernel) 27 (by decide) (by decide) (fun (hq : ¬ ((.ref I8) : Value) = (.ref I8)) => False.elim (hq rfl)) (fun (q6 : ((.ref I8) : Value) = (.ref I8)) => ?_)
  refine Ac C S5 [(21, .iload_n 1, 1), (22, .aload_n 2, 1)] 23 #[Ab I8, Aa 0, Ab b] [.ref b, .int 0] ?_
  refine Ah C S5 hw 108 109 9 110 (own_e2 l Z a0 hw G1 G3 U8 I8 TB DE b _ _ _ h0 n0 z0 X00 bK bE XS hN) 0 [.int 0, .ref b] [] own_pd6 ?_
  rintro T12 h13 v14 L15 S16 ⟨⟨a7, rfl, g8, K9, f10, f11⟩, -⟩
  refine Br C S16 rfl rfl (by decide +kernel) (by decide) (by decide) ?_
  have o17 : h0.size ≤ a7 := Nat.le_trans (Nat.le_refl _) g8
  exact ⟨a7, rfl, o17, ((Keep.refl _ _).trans K9 all0), f10, f11⟩
theorem own_pd7 : parseMethodDescriptor "(Ljava/nio/charset/Charset;B[B)[B" = some ⟨[(.object "java/nio/charset/Charset"), .byte, (.array .byte)], (some (.array .byte))⟩ := by decide +kernel
theorem Es (hw : Ao a0 Z) (G1 : Int32) (G3 : Value) (U8 : Addr) (I8 : Addr) (TB : Addr) (DE : Addr) (x : Addr) (b : Addr) (bk : ClassId) (N : Int32) (vs : List Value) (h0 : Heap) (n0 : Nat) (z0 : n0 ≤ h0.size) (X00 : Old Z n0 h0) (xE : Exa Z h0 x "java/lang/String") (xV : Fld Z h0 x "java/lang/String" "value" "[B" (.ref b)) (xC : Fld Z h0 x "java/lang/String" "coder" "B" (.int 0)) (bK : Arv Z h0 b bk .byte N vs (.int 0)) (bE : Exa Z h0 b "[B") (XS : Bf Z n0 G1 G3 U8 I8 TB DE) (hN : N.toNatClampNeg ≤ 8) :
    Af l Z (⟨"java/lang/String", "getBytes", "(Ljava/nio/charset/Charset;)[B"⟩ : MethodName) jdk_42_method_64_code 2 (some (.array .byte)) ({ frames := 4, cells := 1, slots := 8, locals := 62 } : Room) n0 #[(.ref x), (.ref I8)] h0 (fun v h => ∃ r : Addr, v = some (.ref r) ∧ h0.size ≤ r ∧ Keep h0 h [] ∧ Arv Z h r bk .byte N vs (.int 0) ∧ Exa Z h r "[B") := by
  refine Ar #[.val (.ref x), .val (.ref I8)] ?_
  intro p e s m below meth c T0 C S0
  have XS_ := XS
  obtain ⟨O2, O4, P5, rG3, OU, OI, OT, OD, hUI, TBlt, DElt⟩ := XS_
  refine Ac C S0 [(0, .aload_n 1, 1), (1, .ifnonnull 11, 3), (12, .aload_n 1, 1), (13, .aload_n 0, 1)] 14 #[Ab x, Ab I8] [.ref x, .ref I8] ?_
  refine Al C S0 hw 57 58 60 60 59 61 9 (own_coder l Z a0 hw G1 G3 x h0 n0 z0 X00 xC O2 O4 P5 rG3) 1 xE [] [.ref I8] own_pd0 ?_
  rintro T2 h3 v4 L5 S6 ⟨⟨rfl, e1⟩, -⟩
  rw [e1] at S6; clear e1
  refine Ac C S6 [(17, .aload_n 0, 1)] 18 #[Ab x, Ab I8] [.ref x, .int 0, .ref I8] ?_
  refine Cb C S6 hw 39 xV ?_
  intro T7 S8
  refine Ah C S8 hw 102 103 9 104 (own_e1 l Z a0 hw G1 G3 U8 I8 TB DE b _ _ _ h0 n0 z0 X00 bK bE XS hN) 0 [.ref I8, .int 0, .ref b] [] own_pd7 ?_
  rintro T14 h15 v16 L17 S18 ⟨⟨a9, rfl, g10, K11, f12, f13⟩, -⟩
  refine Br C S18 rfl rfl (by decide +kernel) (by decide) (by decide) ?_
  have o19 : h0.size ≤ a9 := Nat.le_trans (Nat.le_refl _) g10
  exact ⟨a9, rfl, o19, ((Keep.refl _ _).trans K11 all0), f12, f13⟩
theorem own_cq2 (hw : Ao a0 Z) (a : Addr) (ak : ClassId) (b : Addr) (bk : ClassId) (c0 : Int32) (c1 : Int32) (h0 : Heap) (n0 : Nat) (z0 : n0 ≤ h0.size) (ge_b : n0 ≤ b) (aK : Arv Z h0 a ak .char (2 : Int32) ([(.int c0), (.int c1)]) (.int 0)) (bK : Arv Z h0 b bk .byte (2 : Int32) ([(.int 0), (.int 0)]) (.int 0)) (ne_a_b : a ≠ b) (gc0 : ¬ (255 : Int32) < c0) (gc1 : ¬ (255 : Int32) < c1) :
    Af l Z (⟨"java/lang/StringUTF16", "compress", "([CI[BII)I"⟩ : MethodName) jdk_52_method_21_code 7 (some .int) ({ frames := 0, cells := 0, slots := 0, locals := 0 } : Room) n0 #[(.ref a), (.int 0), (.ref b), (.int 0), (.int 2)] h0 (fun v h => v = some (.int 2) ∧ Keep h0 h [b] ∧ Arv Z h b bk .byte (2 : Int32) ([(.int c0.toInt8.toInt32), (.int c1.toInt8.toInt32)]) (.int 0)) := by
  refine Ar #[.val (.ref a), .val (.int 0), .val (.ref b), .val (.int 0), .val (.int 2), .unset, .unset] ?_
  intro p e s m below meth c T0 C S0
  refine Ac C S0 [(0, .iconst 0, 1), (1, .istore 5, 2), (3, .iload 5, 2), (5, .iload 4, 2), (7, .if_icmp .ge 37, 3), (10, .aload_n 0, 1), (11, .iload_n 1, 1)] 12 #[Ab a, Aa 0, Ab b, Aa 0, Aa 2, Aa 0, .unset] [.int 0, .ref a] ?_
  refine Bg C S0 aK ⟨(by decide), (by decide)⟩ (.int c0) rfl (by decide +kernel) ?_
  refine Ac C S0 [(13, .istore 6, 2), (15, .iload 6, 2), (17, .sipush 255, 3)] 20 #[Ab a, Aa 0, Ab b, Aa 0, Aa 2, Aa 0, Aa c0] [.int 255, .int c0] ?_
  refine Bj C S0 .le 6 26 (fun (q1 : ¬ (255 : Int32) < c0) => ?_) (fun (hq : (255 : Int32) < c0) => False.elim (gc0 hq))
  refine Ac C S0 [(26, .aload_n 2, 1), (27, .iload_n 3, 1), (28, .iload 6, 2), (30, .i2b, 1)] 31 #[Ab a, Aa 0, Ab b, Aa 0, Aa 2, Aa 0, Aa c0] [.int c0.toInt8.toInt32, .int 0, .ref b] ?_
  refine Aj C S0 bK ⟨(by decide), (by decide)⟩ 0 rfl (Am rfl) c0.toInt8.toInt32 (Au _) ge_b (by decide +kernel) ?_
  intro T2 h4 S3 W5 f6
  have f7 : Arv Z h4 b bk .byte (2 : Int32) ([(.int c0.toInt8.toInt32), (.int 0)]) (.int 0) := f6
  refine Ac C S3 [(32, .iinc 1 1, 3), (35, .iinc 3 1, 3), (38, .iinc 5 1, 3), (41, .goto (-38), 3), (3, .iload 5, 2), (5, .iload 4, 2), (7, .if_icmp .ge 37, 3), (10, .aload_n 0, 1), (11, .iload_n 1, 1)] 12 #[Ab a, Aa 1, Ab b, Aa 1, Aa 2, Aa 1, Aa c0] [.int 1, .ref a] ?_
  have f8 := (aK.other W5 ne_a_b)
  refine Bg C S3 f8 ⟨(by decide), (by decide)⟩ (.int c1) rfl (by decide +kernel) ?_
  refine Ac C S3 [(13, .istore 6, 2), (15, .iload 6, 2), (17, .sipush 255, 3)] 20 #[Ab a, Aa 1, Ab b, Aa 1, Aa 2, Aa 1, Aa c1] [.int 255, .int c1] ?_
  refine Bj C S3 .le 6 26 (fun (q9 : ¬ (255 : Int32) < c1) => ?_) (fun (hq : (255 : Int32) < c1) => False.elim (gc1 hq))
  refine Ac C S3 [(26, .aload_n 2, 1), (27, .iload_n 3, 1), (28, .iload 6, 2), (30, .i2b, 1)] 31 #[Ab a, Aa 1, Ab b, Aa 1, Aa 2, Aa 1, Aa c1] [.int c1.toInt8.toInt32, .int 1, .ref b] ?_
  refine Aj C S3 f7 ⟨(by decide), (by decide)⟩ 1 rfl (Am rfl) c1.toInt8.toInt32 (Au _) ge_b (by decide +kernel) ?_
  intro T10 h12 S11 W13 f14
  have f15 : Arv Z h12 b bk .byte (2 : Int32) ([(.int c0.toInt8.toInt32), (.int c1.toInt8.toInt32)]) (.int 0) := f14
  refine Ac C S11 [(32, .iinc 1 1, 3), (35, .iinc 3 1, 3), (38, .iinc 5 1, 3), (41, .goto (-38), 3), (3, .iload 5, 2), (5, .iload 4, 2), (7, .if_icmp .ge 37, 3), (44, .iload 4, 2)] 46 #[Ab a, Aa 2, Ab b, Aa 2, Aa 2, Aa 2, Aa c1] [.int 2] ?_
  refine Bq C S11 (by decide +kernel) (by decide) (by decide) ?_
  exact ⟨rfl, (((Keep.refl _ _).wr W5 (At 0)).wr W13 (At 0)), f15⟩
theorem Eo : parseMethodDescriptor "([CI[BII)I" = some ⟨[(.array .char), .int, (.array .byte), .int, .int], (some .int)⟩ := by decide +kernel
theorem own_cr2 (hw : Ao a0 Z) (a : Addr) (ak : ClassId) (c0 : Int32) (c1 : Int32) (h0 : Heap) (n0 : Nat) (z0 : n0 ≤ h0.size) (aK : Arv Z h0 a ak .char (2 : Int32) ([(.int c0), (.int c1)]) (.int 0)) (gc0 : ¬ (255 : Int32) < c0) (gc1 : ¬ (255 : Int32) < c1) :
    Af l Z (⟨"java/lang/StringUTF16", "compress", "([CII)[B"⟩ : MethodName) jdk_52_method_16_code 6 (some (.array .byte)) ({ frames := 1, cells := 1, slots := 2, locals := 18 } : Room) n0 #[(.ref a), (.int 0), (.int 2)] h0 (fun v h => ∃ r : Addr, ∃ rk : ClassId, v = some (.ref r) ∧ h0.size ≤ r ∧ Keep h0 h [] ∧ Arv Z h r rk .byte (2 : Int32) ([(.int c0.toInt8.toInt32), (.int c1.toInt8.toInt32)]) (.int 0) ∧ Exa Z h r "[B") := by
  refine Ar #[.val (.ref a), .val (.int 0), .val (.int 2), .unset, .unset, .unset] ?_
  intro p e s m below meth c T0 C S0
  refine Ac C S0 [(0, .iload_n 2, 1)] 1 #[Ab a, Aa 0, Aa 2, .unset, .unset, .unset] [.int 2] ?_
  refine Co C S0 (aty := .byte) (ad := "[B") (by decide) (ow hw 30 rfl) (by decide +kernel) (by decide) 2 (by decide) (by decide) (by decide) (by decide) ?_
  intro T1 h3 a4 k5 S2 g6 E7 f8 x9
  have f10 : Arv Z h3 a4 k5 .byte (2 : Int32) ([(.int 0), (.int 0)]) (.int 0) := Arv.pad f8 (pad_rep [] (.int 0) 2)
  refine Ac C S2 [(3, .astore_n 3, 1), (4, .aload_n 0, 1), (5, .iload_n 1, 1), (6, .aload_n 3, 1), (7, .iconst 0, 1), (8, .iload_n 2, 1)] 9 #[Ab a, Aa 0, Aa 2, Ab a4, .unset, .unset] [.int 2, .int 0, .ref a4, .int 0, .ref a] ?_
  have f11 := (aK.ext E7)
  have f12 : n0 ≤ h3.size := (Nat.le_trans z0 E7.1)
  have g13 : n0 ≤ a4 := by rw [g6]; exact z0
  have n14 : a ≠ a4 := by rw [g6]; exact Nat.ne_of_lt aK.lt
  refine Ah C S2 hw 31 32 28 33 (own_cq2 l Z a0 hw a _ a4 _ _ _ h3 n0 f12 g13 f11 f10 n14 gc0 gc1) 0 [.ref a, .int 0, .ref a4, .int 0, .int 2] [] Eo ?_
  rintro T17 h18 v19 L20 S21 ⟨⟨rfl, K15, f16⟩, -⟩
  refine Ac C S21 [(12, .istore 4, 2), (14, .iload 4, 2), (16, .iload_n 2, 1), (17, .if_icmp .eq 40, 3), (57, .aload_n 3, 1)] 58 #[Ab a, Aa 0, Aa 2, Ab a4, Aa 2, .unset] [.ref a4] ?_
  refine Br C S21 rfl rfl (by decide +kernel) (by decide) (by decide) ?_
  have o22 : h0.size ≤ a4 := by rw [g6]; exact (Nat.le_refl _)
  have f23 := (x9.keep K15)
  exact ⟨a4, k5, rfl, o22, (((Keep.refl _ _).ext E7).trans K15 (allS (Or.inr o22) all0)), f16, f23⟩
theorem own_cl2 (hw : Ao a0 Z) (b : Addr) (bk : ClassId) (vs : List Value) (h0 : Heap) (n0 : Nat) (z0 : n0 ≤ h0.size) (bK : Arv Z h0 b bk .byte (2 : Int32) vs (.int 0)) :
    Af l Z (⟨"java/lang/StringUTF16", "coderFromArrayLen", "([BI)B"⟩ : MethodName) jdk_52_method_15_code 2 (some .byte) ({ frames := 0, cells := 0, slots := 0, locals := 0 } : Room) n0 #[(.ref b), (.int 2)] h0 (fun v h => v = some (.int 0) ∧ h = h0) := by
  refine Ar #[.val (.ref b), .val (.int 2)] ?_
  intro p e s m below meth c T0 C S0
  refine Ac C S0 [(0, .iload_n 1, 1), (1, .aload_n 0, 1)] 2 #[Ab b, Aa 2] [.ref b, .int 2] ?_
  refine Ay C S0 bK (by decide +kernel) ?_
  refine Ac C S0 [(3, .isub, 1), (4, .bipush 31, 2), (6, .iushr, 1), (7, .i2b, 1)] 8 #[Ab b, Aa 2] [.int ((Jvm.Free.XT.ushr ((2 : Int32) - (2 : Int32)) (31 : Int32)).toInt8.toInt32)] ?_
  rw [show (Jvm.Free.XT.ushr ((2 : Int32) - (2 : Int32)) (31 : Int32)).toInt8.toInt32 = (0 : Int32) from (by decide)]
  refine Dp C S0 (by decide +kernel) rfl (by decide) (by decide) ?_
  exact ⟨rfl, rfl⟩
theorem Ep : parseMethodDescriptor "([CII)[B" = some ⟨[(.array .char), .int, .int], (some (.array .byte))⟩ := by decide +kernel
theorem Eb : parseMethodDescriptor "([BI)B" = some ⟨[(.array .byte), .int], (some .byte)⟩ := by decide +kernel
theorem Cv : parseFieldDescriptor "B" = some .byte := by decide +kernel
theorem Cw : parseFieldDescriptor "[B" = some (.array .byte) := by decide +kernel
theorem Ef {Z : State} {a0 : Array Value} (hw : ∀ d ∈ tables_1, d.before a0 Z = true) : Jvm.RoadKit.slotOf Z "java/lang/String" "value" "[B" ≠ Jvm.RoadKit.slotOf Z "java/lang/String" "coder" "B" := slot_ne (Or.inr (ow hw 40 rfl)) (Or.inr (ow hw 38 rfl)) (by decide) Cw Cv
theorem Eg {Z : State} {a0 : Array Value} (hw : ∀ d ∈ tables_1, d.before a0 Z = true) : Jvm.RoadKit.slotOf Z "java/lang/String" "coder" "B" ≠ Jvm.RoadKit.slotOf Z "java/lang/String" "value" "[B" := slot_ne (Or.inr (ow hw 38 rfl)) (Or.inr (ow hw 40 rfl)) (by decide) Cv Cw
theorem own_s4i2 (hw : Ao a0 Z) (G1 : Int32) (G3 : Value) (U8 : Addr) (I8 : Addr) (TB : Addr) (DE : Addr) (x : Addr) (a : Addr) (ak : ClassId) (c0 : Int32) (c1 : Int32) (h0 : Heap) (n0 : Nat) (z0 : n0 ≤ h0.size) (ge_x : n0 ≤ x) (X00 : Old Z n0 h0) (p0 : Exa Z h0 x "java/lang/String") (p1 : Fld Z h0 x "java/lang/String" "value" "[B" .null) (p2 : Fld Z h0 x "java/lang/String" "coder" "B" (.int 0)) (aK : Arv Z h0 a ak .char (2 : Int32) ([(.int c0), (.int c1)]) (.int 0)) (ne_a_x : a ≠ x) (XS : Bf Z n0 G1 G3 U8 I8 TB DE) (gc0 : ¬ (255 : Int32) < c0) (gc1 : ¬ (255 : Int32) < c1) :
    Af l Z (⟨"java/lang/String", "<init>", "([CIILjava/lang/Void;)V"⟩ : MethodName) jdk_42_method_149_code 6 none ({ frames := 2, cells := 1, slots := 2, locals := 35 } : Room) n0 #[(.ref x), (.ref a), (.int 0), (.int 2), .null] h0 (fun v h => ∃ r : Addr, ∃ rk : ClassId, v = none ∧ h0.size ≤ r ∧ Keep h0 h [x] ∧ Exa Z h x "java/lang/String" ∧ Fld Z h x "java/lang/String" "value" "[B" (.ref r) ∧ Fld Z h x "java/lang/String" "coder" "B" (.int 0) ∧ Arv Z h r rk .byte (2 : Int32) ([(.int c0.toInt8.toInt32), (.int c1.toInt8.toInt32)]) (.int 0) ∧ Exa Z h r "[B") := by
  refine Ar #[.val (.ref x), .val (.ref a), .val (.int 0), .val (.int 2), .val .null, .unset] ?_
  intro p e s m below meth c T0 C S0
  have XS_ := XS
  obtain ⟨O2, O4, P5, rG3, OU, OI, OT, OD, hUI, TBlt, DElt⟩ := XS_
  refine Ac C S0 [(0, .aload_n 0, 1)] 1 #[Ab x, Ab a, Aa 0, Aa 2, .val .null, .unset] [.ref x] ?_
  refine Di C S0 (ow hw 22 rfl) (ow hw 23 rfl) (ow hw 24 rfl) rfl (by decide +kernel) (by decide) 0 (Am rfl) (by decide) ?_
  intro T1 S2
  refine Ac C S2 [(4, .iload_n 3, 1), (5, .ifCond .ne 22, 3)] 27 #[Ab x, Ab a, Aa 0, Aa 2, .val .null, .unset] [] ?_
  refine Az C S2 (ow hw 25 rfl) Via.refl (O2.ext X00.2) (by decide +kernel) ?_
  intro T3 S4
  refine Ba C S4 .eq 28 58 (fun (hq : G1 = (0 : Int32)) => False.elim (P5 hq)) (fun (q5 : ¬ G1 = (0 : Int32)) => ?_)
  refine Ac C S4 [(33, .aload_n 1, 1), (34, .iload_n 2, 1), (35, .iload_n 3, 1)] 36 #[Ab x, Ab a, Aa 0, Aa 2, .val .null, .unset] [.int 2, .int 0, .ref a] ?_
  refine Ah C S4 hw 26 27 28 29 (own_cr2 l Z a0 hw a _ _ _ h0 n0 z0 aK gc0 gc1) 0 [.ref a, .int 0, .int 2] [] Ep ?_
  rintro T12 h13 v14 L15 S16 ⟨⟨a6, k7, rfl, g8, K9, f10, f11⟩, -⟩
  refine Ac C S16 [(39, .astore 5, 2), (41, .aload_n 0, 1), (42, .aload 5, 2), (44, .iload_n 3, 1)] 45 #[Ab x, Ab a, Aa 0, Aa 2, .val .null, Ab a6] [.int 2, .ref a6, .ref x] ?_
  have f17 : n0 ≤ h13.size := (Nat.le_trans z0 K9.1)
  refine Ah C S16 hw 34 35 28 36 (own_cl2 l Z a0 hw a6 _ _ h13 n0 f17 f10) 1 [.ref a6, .int 2] [.ref x] Eb ?_
  rintro T19 h20 v21 L22 S23 ⟨⟨rfl, e18⟩, -⟩
  rw [e18] at S23; clear e18
  have f24 := (p2.keep K9 nin0)
  have f25 := (p0.keep K9)
  refine Cs C S23 (ty := .byte) (host := "") (Or.inl (ow hw 37 rfl)) Via.refl f24 f25 (Or.inr ⟨(ow hw 38 rfl), rfl, rfl⟩) (ow hw 8 rfl) Cv rfl rfl ge_x (by decide +kernel) ?_
  intro T26 h28 S27 W29
  have f30 : Fld Z h28 x "java/lang/String" "coder" "B" (.int 0) := Fld.same W29 f24
  refine Ac C S27 [(51, .aload_n 0, 1), (52, .aload 5, 2)] 54 #[Ab x, Ab a, Aa 0, Aa 2, .val .null, Ab a6] [.ref a6, .ref x] ?_
  have f31 := (Fld.other W29 (p1.keep K9 nin0) (Or.inr (Ef hw)))
  have f32 := (Exa.wr W29 f25)
  refine Cs C S27 (ty := (.array .byte)) (host := "") (Or.inl (ow hw 39 rfl)) Via.refl f31 f32 (Or.inr ⟨(ow hw 40 rfl), rfl, rfl⟩) (ow hw 8 rfl) Cw rfl rfl ge_x (by decide +kernel) ?_
  intro T33 h35 S34 W36
  have f37 : Fld Z h35 x "java/lang/String" "value" "[B" (.ref a6) := Fld.same W36 f31
  refine Ct C S34 (by decide +kernel) (by decide) (by decide) ?_
  have o38 : h0.size ≤ a6 := Nat.le_trans (Nat.le_refl _) g8
  have f39 := (Exa.wr W36 f32)
  have f40 := (Fld.other W36 f30 (Or.inr (Eg hw)))
  have n41 : x ≠ a6 := Nat.ne_of_lt (Nat.lt_of_lt_of_le p0.lt g8)
  have f42 := ((f10.other W29 (Ne.symm n41)).other W36 (Ne.symm n41))
  have f43 := (Exa.wr W36 (Exa.wr W29 f11))
  exact ⟨a6, k7, rfl, o38, ((((Keep.refl _ _).trans K9 all0).wr W29 (At 0)).wr W36 (At 0)), f39, f37, f40, f42, f43⟩
theorem Dr : parseMethodDescriptor "([CIILjava/lang/Void;)V" = some ⟨[(.array .char), .int, .int, (.object "java/lang/Void")], none⟩ := by decide +kernel
theorem own_s1i2 (hw : Ao a0 Z) (G1 : Int32) (G3 : Value) (U8 : Addr) (I8 : Addr) (TB : Addr) (DE : Addr) (x : Addr) (a : Addr) (ak : ClassId) (c0 : Int32) (c1 : Int32) (h0 : Heap) (n0 : Nat) (z0 : n0 ≤ h0.size) (ge_x : n0 ≤ x) (X00 : Old Z n0 h0) (p0 : Exa Z h0 x "java/lang/String") (p1 : Fld Z h0 x "java/lang/String" "value" "[B" .null) (p2 : Fld Z h0 x "java/lang/String" "coder" "B" (.int 0)) (aK : Arv Z h0 a ak .char (2 : Int32) ([(.int c0), (.int c1)]) (.int 0)) (ne_a_x : a ≠ x) (XS : Bf Z n0 G1 G3 U8 I8 TB DE) (gc0 : ¬ (255 : Int32) < c0) (gc1 : ¬ (255 : Int32) < c1) :
    Af l Z (⟨"java/lang/String", "<init>", "([C)V"⟩ : MethodName) jdk_42_method_3_code 2 none ({ frames := 3, cells := 1, slots := 2, locals := 52 } : Room) n0 #[(.ref x), (.ref a)] h0 (fun v h => ∃ r : Addr, ∃ rk : ClassId, v = none ∧ h0.size ≤ r ∧ Keep h0 h [x] ∧ Exa Z h x "java/lang/String" ∧ Fld Z h x "java/lang/String" "value" "[B" (.ref r) ∧ Fld Z h x "java/lang/String" "coder" "B" (.int 0) ∧ Arv Z h r rk .byte (2 : Int32) ([(.int c0.toInt8.toInt32), (.int c1.toInt8.toInt32)]) (.int 0) ∧ Exa Z h r "[B") := by
  refine Ar #[.val (.ref x), .val (.ref a)] ?_
  intro p e s m below meth c T0 C S0
  have XS_ := XS
  obtain ⟨O2, O4, P5, rG3, OU, OI, OT, OD, hUI, TBlt, DElt⟩ := XS_
  refine Ac C S0 [(0, .aload_n 0, 1), (1, .aload_n 1, 1), (2, .iconst 0, 1), (3, .aload_n 1, 1)] 4 #[Ab x, Ab a] [.ref a, .int 0, .ref a, .ref x] ?_
  refine Ay C S0 aK (by decide +kernel) ?_
  refine Ac C S0 [(5, .aconst_null, 1)] 6 #[Ab x, Ab a] [.null, .int 2, .int 0, .ref a, .ref x] ?_
  refine Cr C S0 rfl (ow hw 18 rfl) (ow hw 19 rfl) (ow hw 21 rfl) (by decide) (Af.pay (own_s4i2 l Z a0 hw G1 G3 U8 I8 TB DE x a _ _ _ h0 n0 z0 ge_x X00 p0 p1 p2 aK ne_a_x XS gc0 gc1) C 0 (ow hw 21 rfl) (ow hw 9 rfl) (by decide) (by decide)) (fun _ _ _ q => q.2) [.ref a, .int 0, .int 2, .null] [] rfl Dr rfl rfl rfl (Am rfl) (by decide) (by decide) (by decide +kernel) ?_
  rintro T10 h11 v12 L13 S14 ⟨⟨a1, k2, rfl, g3, K4, f5, f6, f7, f8, f9⟩, -⟩
  refine Ct C S14 (by decide +kernel) (by decide) (by decide) ?_
  have o15 : h0.size ≤ a1 := Nat.le_trans (Nat.le_refl _) g3
  exact ⟨a1, k2, rfl, o15, ((Keep.refl _ _).trans K4 (allS (At 0) all0)), f5, f6, f7, f8, f9⟩
theorem own_cq3 (hw : Ao a0 Z) (a : Addr) (ak : ClassId) (b : Addr) (bk : ClassId) (c0 : Int32) (c1 : Int32) (c2 : Int32) (h0 : Heap) (n0 : Nat) (z0 : n0 ≤ h0.size) (ge_b : n0 ≤ b) (aK : Arv Z h0 a ak .char (3 : Int32) ([(.int c0), (.int c1), (.int c2)]) (.int 0)) (bK : Arv Z h0 b bk .byte (3 : Int32) ([(.int 0), (.int 0), (.int 0)]) (.int 0)) (ne_a_b : a ≠ b) (gc0 : ¬ (255 : Int32) < c0) (gc1 : ¬ (255 : Int32) < c1) (gc2 : ¬ (255 : Int32) < c2) :
    Af l Z (⟨"java/lang/StringUTF16", "compress", "([CI[BII)I"⟩ : MethodName) jdk_52_method_21_code 7 (some .int) ({ frames := 0, cells := 0, slots := 0, locals := 0 } : Room) n0 #[(.ref a), (.int 0), (.ref b), (.int 0), (.int 3)] h0 (fun v h => v = some (.int 3) ∧ Keep h0 h [b] ∧ Arv Z h b bk .byte (3 : Int32) ([(.int c0.toInt8.toInt32), (.int c1.toInt8.toInt32), (.int c2.toInt8.toInt32)]) (.int 0)) := by
  refine Ar #[.val (.ref a), .val (.int 0), .val (.ref b), .val (.int 0), .val (.int 3), .unset, .unset] ?_
  intro p e s m below meth c T0 C S0
  refine Ac C S0 [(0, .iconst 0, 1), (1, .istore 5, 2), (3, .iload 5, 2), (5, .iload 4, 2), (7, .if_icmp .ge 37, 3), (10, .aload_n 0, 1), (11, .iload_n 1, 1)] 12 #[Ab a, Aa 0, Ab b, Aa 0, Aa 3, Aa 0, .unset] [.int 0, .ref a] ?_
  refine Bg C S0 aK ⟨(by decide), (by decide)⟩ (.int c0) rfl (by decide +kernel) ?_
  refine Ac C S0 [(13, .istore 6, 2), (15, .iload 6, 2), (17, .sipush 255, 3)] 20 #[Ab a, Aa 0, Ab b, Aa 0, Aa 3, Aa 0, Aa c0] [.int 255, .int c0] ?_
  refine Bj C S0 .le 6 26 (fun (q1 : ¬ (255 : Int32) < c0) => ?_) (fun (hq : (255 : Int32) < c0) => False.elim (gc0 hq))
  refine Ac C S0 [(26, .aload_n 2, 1), (27, .iload_n 3, 1), (28, .iload 6, 2), (30, .i2b, 1)] 31 #[Ab a, Aa 0, Ab b, Aa 0, Aa 3, Aa 0, Aa c0] [.int c0.toInt8.toInt32, .int 0, .ref b] ?_
  refine Aj C S0 bK ⟨(by decide), (by decide)⟩ 0 rfl (Am rfl) c0.toInt8.toInt32 (Au _) ge_b (by decide +kernel) ?_
  intro T2 h4 S3 W5 f6
  have f7 : Arv Z h4 b bk .byte (3 : Int32) ([(.int c0.toInt8.toInt32), (.int 0), (.int 0)]) (.int 0) := f6
  refine Ac C S3 [(32, .iinc 1 1, 3), (35, .iinc 3 1, 3), (38, .iinc 5 1, 3), (41, .goto (-38), 3), (3, .iload 5, 2), (5, .iload 4, 2), (7, .if_icmp .ge 37, 3), (10, .aload_n 0, 1), (11, .iload_n 1, 1)] 12 #[Ab a, Aa 1, Ab b, Aa 1, Aa 3, Aa 1, Aa c0] [.int 1, .ref a] ?_
  have f8 := (aK.other W5 ne_a_b)
  refine Bg C S3 f8 ⟨(by decide), (by decide)⟩ (.int c1) rfl (by decide +kernel) ?_
  refine Ac C S3 [(13, .istore 6, 2), (15, .iload 6, 2), (17, .sipush 255, 3)] 20 #[Ab a, Aa 1, Ab b, Aa 1, Aa 3, Aa 1, Aa c1] [.int 255, .int c1] ?_
  refine Bj C S3 .le 6 26 (fun (q9 : ¬ (255 : Int32) < c1) => ?_) (fun (hq : (255 : Int32) < c1) => False.elim (gc1 hq))
  refine Ac C S3 [(26, .aload_n 2, 1), (27, .iload_n 3, 1), (28, .iload 6, 2), (30, .i2b, 1)] 31 #[Ab a, Aa 1, Ab b, Aa 1, Aa 3, Aa 1, Aa c1] [.int c1.toInt8.toInt32, .int 1, .ref b] ?_
  refine Aj C S3 f7 ⟨(by decide), (by decide)⟩ 1 rfl (Am rfl) c1.toInt8.toInt32 (Au _) ge_b (by decide +kernel) ?_
  intro T10 h12 S11 W13 f14
  have f15 : Arv Z h12 b bk .byte (3 : Int32) ([(.int c0.toInt8.toInt32), (.int c1.toInt8.toInt32), (.int 0)]) (.int 0) := f14
  refine Ac C S11 [(32, .iinc 1 1, 3), (35, .iinc 3 1, 3), (38, .iinc 5 1, 3), (41, .goto (-38), 3), (3, .iload 5, 2), (5, .iload 4, 2), (7, .if_icmp .ge 37, 3), (10, .aload_n 0, 1), (11, .iload_n 1, 1)] 12 #[Ab a, Aa 2, Ab b, Aa 2, Aa 3, Aa 2, Aa c1] [.int 2, .ref a] ?_
  have f16 := (f8.other W13 ne_a_b)
  refine Bg C S11 f16 ⟨(by decide), (by decide)⟩ (.int c2) rfl (by decide +kernel) ?_
  refine Ac C S11 [(13, .istore 6, 2), (15, .iload 6, 2), (17, .sipush 255, 3)] 20 #[Ab a, Aa 2, Ab b, Aa 2, Aa 3, Aa 2, Aa c2] [.int 255, .int c2] ?_
  refine Bj C S11 .le 6 26 (fun (q17 : ¬ (255 : Int32) < c2) => ?_) (fun (hq : (255 : Int32) < c2) => False.elim (gc2 hq))
  refine Ac C S11 [(26, .aload_n 2, 1), (27, .iload_n 3, 1), (28, .iload 6, 2), (30, .i2b, 1)] 31 #[Ab a, Aa 2, Ab b, Aa 2, Aa 3, Aa 2, Aa c2] [.int c2.toInt8.toInt32, .int 2, .ref b] ?_
  refine Aj C S11 f15 ⟨(by decide), (by decide)⟩ 2 rfl (Am rfl) c2.toInt8.toInt32 (Au _) ge_b (by decide +kernel) ?_
  intro T18 h20 S19 W21 f22
  have f23 : Arv Z h20 b bk .byte (3 : Int32) ([(.int c0.toInt8.toInt32), (.int c1.toInt8.toInt32), (.int c2.toInt8.toInt32)]) (.int 0) := f22
  refine Ac C S19 [(32, .iinc 1 1, 3), (35, .iinc 3 1, 3), (38, .iinc 5 1, 3), (41, .goto (-38), 3), (3, .iload 5, 2), (5, .iload 4, 2), (7, .if_icmp .ge 37, 3), (44, .iload 4, 2)] 46 #[Ab a, Aa 3, Ab b, Aa 3, Aa 3, Aa 3, Aa c2] [.int 3] ?_
  refine Bq C S19 (by decide +kernel) (by decide) (by decide) ?_
  exact ⟨rfl, ((((Keep.refl _ _).wr W5 (At 0)).wr W13 (At 0)).wr W21 (At 0)), f23⟩
theorem own_cr3 (hw : Ao a0 Z) (a : Addr) (ak : ClassId) (c0 : Int32) (c1 : Int32) (c2 : Int32) (h0 : Heap) (n0 : Nat) (z0 : n0 ≤ h0.size) (aK : Arv Z h0 a ak .char (3 : Int32) ([(.int c0), (.int c1), (.int c2)]) (.int 0)) (gc0 : ¬ (255 : Int32) < c0) (gc1 : ¬ (255 : Int32) < c1) (gc2 : ¬ (255 : Int32) < c2) :
    Af l Z (⟨"java/lang/StringUTF16", "compress", "([CII)[B"⟩ : MethodName) jdk_52_method_16_code 6 (some (.array .byte)) ({ frames := 1, cells := 1, slots := 3, locals := 18 } : Room) n0 #[(.ref a), (.int 0), (.int 3)] h0 (fun v h => ∃ r : Addr, ∃ rk : ClassId, v = some (.ref r) ∧ h0.size ≤ r ∧ Keep h0 h [] ∧ Arv Z h r rk .byte (3 : Int32) ([(.int c0.toInt8.toInt32), (.int c1.toInt8.toInt32), (.int c2.toInt8.toInt32)]) (.int 0) ∧ Exa Z h r "[B") := by
  refine Ar #[.val (.ref a), .val (.int 0), .val (.int 3), .unset, .unset, .unset] ?_
  intro p e s m below meth c T0 C S0
  refine Ac C S0 [(0, .iload_n 2, 1)] 1 #[Ab a, Aa 0, Aa 3, .unset, .unset, .unset] [.int 3] ?_
  refine Co C S0 (aty := .byte) (ad := "[B") (by decide) (ow hw 30 rfl) (by decide +kernel) (by decide) 3 (by decide) (by decide) (by decide) (by decide) ?_
  intro T1 h3 a4 k5 S2 g6 E7 f8 x9
  have f10 : Arv Z h3 a4 k5 .byte (3 : Int32) ([(.int 0), (.int 0), (.int 0)]) (.int 0) := Arv.pad f8 (pad_rep [] (.int 0) 3)
  refine Ac C S2 [(3, .astore_n 3, 1), (4, .aload_n 0, 1), (5, .iload_n 1, 1), (6, .aload_n 3, 1), (7, .iconst 0, 1), (8, .iload_n 2, 1)] 9 #[Ab a, Aa 0, Aa 3, Ab a4, .unset, .unset] [.int 3, .int 0, .ref a4, .int 0, .ref a] ?_
  have f11 := (aK.ext E7)
  have f12 : n0 ≤ h3.size := (Nat.le_trans z0 E7.1)
  have g13 : n0 ≤ a4 := by rw [g6]; exact z0
  have n14 : a ≠ a4 := by rw [g6]; exact Nat.ne_of_lt aK.lt
  refine Ah C S2 hw 31 32 28 33 (own_cq3 l Z a0 hw a _ a4 _ _ _ _ h3 n0 f12 g13 f11 f10 n14 gc0 gc1 gc2) 0 [.ref a, .int 0, .ref a4, .int 0, .int 3] [] Eo ?_
  rintro T17 h18 v19 L20 S21 ⟨⟨rfl, K15, f16⟩, -⟩
  refine Ac C S21 [(12, .istore 4, 2), (14, .iload 4, 2), (16, .iload_n 2, 1), (17, .if_icmp .eq 40, 3), (57, .aload_n 3, 1)] 58 #[Ab a, Aa 0, Aa 3, Ab a4, Aa 3, .unset] [.ref a4] ?_
  refine Br C S21 rfl rfl (by decide +kernel) (by decide) (by decide) ?_
  have o22 : h0.size ≤ a4 := by rw [g6]; exact (Nat.le_refl _)
  have f23 := (x9.keep K15)
  exact ⟨a4, k5, rfl, o22, (((Keep.refl _ _).ext E7).trans K15 (allS (Or.inr o22) all0)), f16, f23⟩
theorem own_cl3 (hw : Ao a0 Z) (b : Addr) (bk : ClassId) (vs : List Value) (h0 : Heap) (n0 : Nat) (z0 : n0 ≤ h0.size) (bK : Arv Z h0 b bk .byte (3 : Int32) vs (.int 0)) :
    Af l Z (⟨"java/lang/StringUTF16", "coderFromArrayLen", "([BI)B"⟩ : MethodName) jdk_52_method_15_code 2 (some .byte) ({ frames := 0, cells := 0, slots := 0, locals := 0 } : Room) n0 #[(.ref b), (.int 3)] h0 (fun v h => v = some (.int 0) ∧ h = h0) := by
  refine Ar #[.val (.ref b), .val (.int 3)] ?_
  intro p e s m below meth c T0 C S0
  refine Ac C S0 [(0, .iload_n 1, 1), (1, .aload_n 0, 1)] 2 #[Ab b, Aa 3] [.ref b, .int 3] ?_
  refine Ay C S0 bK (by decide +kernel) ?_
  refine Ac C S0 [(3, .isub, 1), (4, .bipush 31, 2), (6, .iushr, 1), (7, .i2b, 1)] 8 #[Ab b, Aa 3] [.int ((Jvm.Free.XT.ushr ((3 : Int32) - (3 : Int32)) (31 : Int32)).toInt8.toInt32)] ?_
  rw [show (Jvm.Free.XT.ushr ((3 : Int32) - (3 : Int32)) (31 : Int32)).toInt8.toInt32 = (0 : Int32) from (by decide)]
  refine Dp C S0 (by decide +kernel) rfl (by decide) (by decide) ?_
  exact ⟨rfl, rfl⟩
theorem own_s4i3 (hw : Ao a0 Z) (G1 : Int32) (G3 : Value) (U8 : Addr) (I8 : Addr) (TB : Addr) (DE : Addr) (x : Addr) (a : Addr) (ak : ClassId) (c0 : Int32) (c1 : Int32) (c2 : Int32) (h0 : Heap) (n0 : Nat) (z0 : n0 ≤ h0.size) (ge_x : n0 ≤ x) (X00 : Old Z n0 h0) (p0 : Exa Z h0 x "java/lang/String") (p1 : Fld Z h0 x "java/lang/String" "value" "[B" .null) (p2 : Fld Z h0 x "java/lang/String" "coder" "B" (.int 0)) (aK : Arv Z h0 a ak .char (3 : Int32) ([(.int c0), (.int c1), (.int c2)]) (.int 0)) (ne_a_x : a ≠ x) (XS : Bf Z n0 G1 G3 U8 I8 TB DE) (gc0 : ¬ (255 : Int32) < c0) (gc1 : ¬ (255 : Int32) < c1) (gc2 : ¬ (255 : Int32) < c2) :
    Af l Z (⟨"java/lang/String", "<init>", "([CIILjava/lang/Void;)V"⟩ : MethodName) jdk_42_method_149_code 6 none ({ frames := 2, cells := 1, slots := 3, locals := 35 } : Room) n0 #[(.ref x), (.ref a), (.int 0), (.int 3), .null] h0 (fun v h => ∃ r : Addr, ∃ rk : ClassId, v = none ∧ h0.size ≤ r ∧ Keep h0 h [x] ∧ Exa Z h x "java/lang/String" ∧ Fld Z h x "java/lang/String" "value" "[B" (.ref r) ∧ Fld Z h x "java/lang/String" "coder" "B" (.int 0) ∧ Arv Z h r rk .byte (3 : Int32) ([(.int c0.toInt8.toInt32), (.int c1.toInt8.toInt32), (.int c2.toInt8.toInt32)]) (.int 0) ∧ Exa Z h r "[B") := by
  refine Ar #[.val (.ref x), .val (.ref a), .val (.int 0), .val (.int 3), .val .null, .unset] ?_
  intro p e s m below meth c T0 C S0
  have XS_ := XS
  obtain ⟨O2, O4, P5, rG3, OU, OI, OT, OD, hUI, TBlt, DElt⟩ := XS_
  refine Ac C S0 [(0, .aload_n 0, 1)] 1 #[Ab x, Ab a, Aa 0, Aa 3, .val .null, .unset] [.ref x] ?_
  refine Di C S0 (ow hw 22 rfl) (ow hw 23 rfl) (ow hw 24 rfl) rfl (by decide +kernel) (by decide) 0 (Am rfl) (by decide) ?_
  intro T1 S2
  refine Ac C S2 [(4, .iload_n 3, 1), (5, .ifCond .ne 22, 3)] 27 #[Ab x, Ab a, Aa 0, Aa 3, .val .null, .unset] [] ?_
  refine Az C S2 (ow hw 25 rfl) Via.refl (O2.ext X00.2) (by decide +kernel) ?_
  intro T3 S4
  refine Ba C S4 .eq 28 58 (fun (hq : G1 = (0 : Int32)) => False.elim (P5 hq)) (fun (q5 : ¬ G1 = (0 : Int32)) => ?_)
  refine Ac C S4 [(33, .aload_n 1, 1), (34, .iload_n 2, 1), (35, .iload_n 3, 1)] 36 #[Ab x, Ab a, Aa 0, Aa 3, .val .null, .unset] [.int 3, .int 0, .ref a] ?_
  refine Ah C S4 hw 26 27 28 29 (own_cr3 l Z a0 hw a _ _ _ _ h0 n0 z0 aK gc0 gc1 gc2) 0 [.ref a, .int 0, .int 3] [] Ep ?_
  rintro T12 h13 v14 L15 S16 ⟨⟨a6, k7, rfl, g8, K9, f10, f11⟩, -⟩
  refine Ac C S16 [(39, .astore 5, 2), (41, .aload_n 0, 1), (42, .aload 5, 2), (44, .iload_n 3, 1)] 45 #[Ab x, Ab a, Aa 0, Aa 3, .val .null, Ab a6] [.int 3, .ref a6, .ref x] ?_
  have f17 : n0 ≤ h13.size := (Nat.le_trans z0 K9.1)
  refine Ah C S16 hw 34 35 28 36 (own_cl3 l Z a0 hw a6 _ _ h13 n0 f17 f10) 1 [.ref a6, .int 3] [.ref x] Eb ?_
  rintro T19 h20 v21 L22 S23 ⟨⟨rfl, e18⟩, -⟩
  rw [e18] at S23; clear e18
  have f24 := (p2.keep K9 nin0)
  have f25 := (p0.keep K9)
  refine Cs C S23 (ty := .byte) (host := "") (Or.inl (ow hw 37 rfl)) Via.refl f24 f25 (Or.inr ⟨(ow hw 38 rfl), rfl, rfl⟩) (ow hw 8 rfl) Cv rfl rfl ge_x (by decide +kernel) ?_
  intro T26 h28 S27 W29
  have f30 : Fld Z h28 x "java/lang/String" "coder" "B" (.int 0) := Fld.same W29 f24
  refine Ac C S27 [(51, .aload_n 0, 1), (52, .aload 5, 2)] 54 #[Ab x, Ab a, Aa 0, Aa 3, .val .null, Ab a6] [.ref a6, .ref x] ?_
  have f31 := (Fld.other W29 (p1.keep K9 nin0) (Or.inr (Ef hw)))
  have f32 := (Exa.wr W29 f25)
  refine Cs C S27 (ty := (.array .byte)) (host := "") (Or.inl (ow hw 39 rfl)) Via.refl f31 f32 (Or.inr ⟨(ow hw 40 rfl), rfl, rfl⟩) (ow hw 8 rfl) Cw rfl rfl ge_x (by decide +kernel) ?_
  intro T33 h35 S34 W36
  have f37 : Fld Z h35 x "java/lang/String" "value" "[B" (.ref a6) := Fld.same W36 f31
  refine Ct C S34 (by decide +kernel) (by decide) (by decide) ?_
  have o38 : h0.size ≤ a6 := Nat.le_trans (Nat.le_refl _) g8
  have f39 := (Exa.wr W36 f32)
  have f40 := (Fld.other W36 f30 (Or.inr (Eg hw)))
  have n41 : x ≠ a6 := Nat.ne_of_lt (Nat.lt_of_lt_of_le p0.lt g8)
  have f42 := ((f10.other W29 (Ne.symm n41)).other W36 (Ne.symm n41))
  have f43 := (Exa.wr W36 (Exa.wr W29 f11))
  exact ⟨a6, k7, rfl, o38, ((((Keep.refl _ _).trans K9 all0).wr W29 (At 0)).wr W36 (At 0)), f39, f37, f40, f42, f43⟩
theorem own_s1i3 (hw : Ao a0 Z) (G1 : Int32) (G3 : Value) (U8 : Addr) (I8 : Addr) (TB : Addr) (DE : Addr) (x : Addr) (a : Addr) (ak : ClassId) (c0 : Int32) (c1 : Int32) (c2 : Int32) (h0 : Heap) (n0 : Nat) (z0 : n0 ≤ h0.size) (ge_x : n0 ≤ x) (X00 : Old Z n0 h0) (p0 : Exa Z h0 x "java/lang/String") (p1 : Fld Z h0 x "java/lang/String" "value" "[B" .null) (p2 : Fld Z h0 x "java/lang/String" "coder" "B" (.int 0)) (aK : Arv Z h0 a ak .char (3 : Int32) ([(.int c0), (.int c1), (.int c2)]) (.int 0)) (ne_a_x : a ≠ x) (XS : Bf Z n0 G1 G3 U8 I8 TB DE) (gc0 : ¬ (255 : Int32) < c0) (gc1 : ¬ (255 : Int32) < c1) (gc2 : ¬ (255 : Int32) < c2) :
    Af l Z (⟨"java/lang/String", "<init>", "([C)V"⟩ : MethodName) jdk_42_method_3_code 2 none ({ frames := 3, cells := 1, slots := 3, locals := 52 } : Room) n0 #[(.ref x), (.ref a)] h0 (fun v h => ∃ r : Addr, ∃ rk : ClassId, v = none ∧ h0.size ≤ r ∧ Keep h0 h [x] ∧ Exa Z h x "java/lang/String" ∧ Fld Z h x "java/lang/String" "value" "[B" (.ref r) ∧ Fld Z h x "java/lang/String" "coder" "B" (.int 0) ∧ Arv Z h r rk .byte (3 : Int32) ([(.int c0.toInt8.toInt32), (.int c1.toInt8.toInt32), (.int c2.toInt8.toInt32)]) (.int 0) ∧ Exa Z h r "[B") := by
  refine Ar #[.val (.ref x), .val (.ref a)] ?_
  intro p e s m below meth c T0 C S0
  have XS_ := XS
  obtain ⟨O2, O4, P5, rG3, OU, OI, OT, OD, hUI, TBlt, DElt⟩ := XS_
  refine Ac C S0 [(0, .aload_n 0, 1), (1, .aload_n 1, 1), (2, .iconst 0, 1), (3, .aload_n 1, 1)] 4 #[Ab x, Ab a] [.ref a, .int 0, .ref a, .ref x] ?_
  refine Ay C S0 aK (by decide +kernel) ?_
  refine Ac C S0 [(5, .aconst_null, 1)] 6 #[Ab x, Ab a] [.null, .int 3, .int 0, .ref a, .ref x] ?_
  refine Cr C S0 rfl (ow hw 18 rfl) (ow hw 19 rfl) (ow hw 21 rfl) (by decide) (Af.pay (own_s4i3 l Z a0 hw G1 G3 U8 I8 TB DE x a _ _ _ _ h0 n0 z0 ge_x X00 p0 p1 p2 aK ne_a_x XS gc0 gc1 gc2) C 0 (ow hw 21 rfl) (ow hw 9 rfl) (by decide) (by decide)) (fun _ _ _ q => q.2) [.ref a, .int 0, .int 3, .null] [] rfl Dr rfl rfl rfl (Am rfl) (by decide) (by decide) (by decide +kernel) ?_
  rintro T10 h11 v12 L13 S14 ⟨⟨a1, k2, rfl, g3, K4, f5, f6, f7, f8, f9⟩, -⟩
  refine Ct C S14 (by decide +kernel) (by decide) (by decide) ?_
  have o15 : h0.size ≤ a1 := Nat.le_trans (Nat.le_refl _) g3
  exact ⟨a1, k2, rfl, o15, ((Keep.refl _ _).trans K4 (allS (At 0) all0)), f5, f6, f7, f8, f9⟩
theorem own_cq4 (hw : Ao a0 Z) (a : Addr) (ak : ClassId) (b : Addr) (bk : ClassId) (c0 : Int32) (c1 : Int32) (c2 : Int32) (c3 : Int32) (h0 : Heap) (n0 : Nat) (z0 : n0 ≤ h0.size) (ge_b : n0 ≤ b) (aK : Arv Z h0 a ak .char (4 : Int32) ([(.int c0), (.int c1), (.int c2), (.int c3)]) (.int 0)) (bK : Arv Z h0 b bk .byte (4 : Int32) ([(.int 0), (.int 0), (.int 0), (.int 0)]) (.int 0)) (ne_a_b : a ≠ b) (gc0 : ¬ (255 : Int32) < c0) (gc1 : ¬ (255 : Int32) < c1) (gc2 : ¬ (255 : Int32) < c2) (gc3 : ¬ (255 : Int32) < c3) :
    Af l Z (⟨"java/lang/StringUTF16", "compress", "([CI[BII)I"⟩ : MethodName) jdk_52_method_21_code 7 (some .int) ({ frames := 0, cells := 0, slots := 0, locals := 0 } : Room) n0 #[(.ref a), (.int 0), (.ref b), (.int 0), (.int 4)] h0 (fun v h => v = some (.int 4) ∧ Keep h0 h [b] ∧ Arv Z h b bk .byte (4 : Int32) ([(.int c0.toInt8.toInt32), (.int c1.toInt8.toInt32), (.int c2.toInt8.toInt32), (.int c3.toInt8.toInt32)]) (.int 0)) := by
  refine Ar #[.val (.ref a), .val (.int 0), .val (.ref b), .val (.int 0), .val (.int 4), .unset, .unset] ?_
  intro p e s m below meth c T0 C S0
  refine Ac C S0 [(0, .iconst 0, 1), (1, .istore 5, 2), (3, .iload 5, 2), (5, .iload 4, 2), (7, .if_icmp .ge 37, 3), (10, .aload_n 0, 1), (11, .iload_n 1, 1)] 12 #[Ab a, Aa 0, Ab b, Aa 0, Aa 4, Aa 0, .unset] [.int 0, .ref a] ?_
  refine Bg C S0 aK ⟨(by decide), (by decide)⟩ (.int c0) rfl (by decide +kernel) ?_
  refine Ac C S0 [(13, .istore 6, 2), (15, .iload 6, 2), (17, .sipush 255, 3)] 20 #[Ab a, Aa 0, Ab b, Aa 0, Aa 4, Aa 0, Aa c0] [.int 255, .int c0] ?_
  refine Bj C S0 .le 6 26 (fun (q1 : ¬ (255 : Int32) < c0) => ?_) (fun (hq : (255 : Int32) < c0) => False.elim (gc0 hq))
  refine Ac C S0 [(26, .aload_n 2, 1), (27, .iload_n 3, 1), (28, .iload 6, 2), (30, .i2b, 1)] 31 #[Ab a, Aa 0, Ab b, Aa 0, Aa 4, Aa 0, Aa c0] [.int c0.toInt8.toInt32, .int 0, .ref b] ?_
  refine Aj C S0 bK ⟨(by decide), (by decide)⟩ 0 rfl (Am rfl) c0.toInt8.toInt32 (Au _) ge_b (by decide +kernel) ?_
  intro T2 h4 S3 W5 f6
  have f7 : Arv Z h4 b bk .byte (4 : Int32) ([(.int c0.toInt8.toInt32), (.int 0), (.int 0), (.int 0)]) (.int 0) := f6
  refine Ac C S3 [(32, .iinc 1 1, 3), (35, .iinc 3 1, 3), (38, .iinc 5 1, 3), (41, .goto (-38), 3), (3, .iload 5, 2), (5, .iload 4, 2), (7, .if_icmp .ge 37, 3), (10, .aload_n 0, 1), (11, .iload_n 1, 1)] 12 #[Ab a, Aa 1, Ab b, Aa 1, Aa 4, Aa 1, Aa c0] [.int 1, .ref a] ?_
  have f8 := (aK.other W5 ne_a_b)
  refine Bg C S3 f8 ⟨(by decide), (by decide)⟩ (.int c1) rfl (by decide +kernel) ?_
  refine Ac C S3 [(13, .istore 6, 2), (15, .iload 6, 2), (17, .sipush 255, 3)] 20 #[Ab a, Aa 1, Ab b, Aa 1, Aa 4, Aa 1, Aa c1] [.int 255, .int c1] ?_
  refine Bj C S3 .le 6 26 (fun (q9 : ¬ (255 : Int32) < c1) => ?_) (fun (hq : (255 : Int32) < c1) => False.elim (gc1 hq))
  refine Ac C S3 [(26, .aload_n 2, 1), (27, .iload_n 3, 1), (28, .iload 6, 2), (30, .i2b, 1)] 31 #[Ab a, Aa 1, Ab b, Aa 1, Aa 4, Aa 1, Aa c1] [.int c1.toInt8.toInt32, .int 1, .ref b] ?_
  refine Aj C S3 f7 ⟨(by decide), (by decide)⟩ 1 rfl (Am rfl) c1.toInt8.toInt32 (Au _) ge_b (by decide +kernel) ?_
  intro T10 h12 S11 W13 f14
  have f15 : Arv Z h12 b bk .byte (4 : Int32) ([(.int c0.toInt8.toInt32), (.int c1.toInt8.toInt32), (.int 0), (.int 0)]) (.int 0) := f14
  refine Ac C S11 [(32, .iinc 1 1, 3), (35, .iinc 3 1, 3), (38, .iinc 5 1, 3), (41, .goto (-38), 3), (3, .iload 5, 2), (5, .iload 4, 2), (7, .if_icmp .ge 37, 3), (10, .aload_n 0, 1), (11, .iload_n 1, 1)] 12 #[Ab a, Aa 2, Ab b, Aa 2, Aa 4, Aa 2, Aa c1] [.int 2, .ref a] ?_
  have f16 := (f8.other W13 ne_a_b)
  refine Bg C S11 f16 ⟨(by decide), (by decide)⟩ (.int c2) rfl (by decide +kernel) ?_
  refine Ac C S11 [(13, .istore 6, 2), (15, .iload 6, 2), (17, .sipush 255, 3)] 20 #[Ab a, Aa 2, Ab b, Aa 2, Aa 4, Aa 2, Aa c2] [.int 255, .int c2] ?_
  refine Bj C S11 .le 6 26 (fun (q17 : ¬ (255 : Int32) < c2) => ?_) (fun (hq : (255 : Int32) < c2) => False.elim (gc2 hq))
  refine Ac C S11 [(26, .aload_n 2, 1), (27, .iload_n 3, 1), (28, .iload 6, 2), (30, .i2b, 1)] 31 #[Ab a, Aa 2, Ab b, Aa 2, Aa 4, Aa 2, Aa c2] [.int c2.toInt8.toInt32, .int 2, .ref b] ?_
  refine Aj C S11 f15 ⟨(by decide), (by decide)⟩ 2 rfl (Am rfl) c2.toInt8.toInt32 (Au _) ge_b (by decide +kernel) ?_
  intro T18 h20 S19 W21 f22
  have f23 : Arv Z h20 b bk .byte (4 : Int32) ([(.int c0.toInt8.toInt32), (.int c1.toInt8.toInt32), (.int c2.toInt8.toInt32), (.int 0)]) (.int 0) := f22
  refine Ac C S19 [(32, .iinc 1 1, 3), (35, .iinc 3 1, 3), (38, .iinc 5 1, 3), (41, .goto (-38), 3), (3, .iload 5, 2), (5, .iload 4, 2), (7, .if_icmp .ge 37, 3), (10, .aload_n 0, 1), (11, .iload_n 1, 1)] 12 #[Ab a, Aa 3, Ab b, Aa 3, Aa 4, Aa 3, Aa c2] [.int 3, .ref a] ?_
  have f24 := (f16.other W21 ne_a_b)
  refine Bg C S19 f24 ⟨(by decide), (by decide)⟩ (.int c3) rfl (by decide +kernel) ?_
  refine Ac C S19 [(13, .istore 6, 2), (15, .iload 6, 2), (17, .sipush 255, 3)] 20 #[Ab a, Aa 3, Ab b, Aa 3, Aa 4, Aa 3, Aa c3] [.int 255, .int c3] ?_
  refine Bj C S19 .le 6 26 (fun (q25 : ¬ (255 : Int32) < c3) => ?_) (fun (hq : (255 : Int32) < c3) => False.elim (gc3 hq))
  refine Ac C S19 [(26, .aload_n 2, 1), (27, .iload_n 3, 1), (28, .iload 6, 2), (30, .i2b, 1)] 31 #[Ab a, Aa 3, Ab b, Aa 3, Aa 4, Aa 3, Aa c3] [.int c3.toInt8.toInt32, .int 3, .ref b] ?_
  refine Aj C S19 f23 ⟨(by decide), (by decide)⟩ 3 rfl (Am rfl) c3.toInt8.toInt32 (Au _) ge_b (by decide +kernel) ?_
  intro T26 h28 S27 W29 f30
  have f31 : Arv Z h28 b bk .byte (4 : Int32) ([(.int c0.toInt8.toInt32), (.int c1.toInt8.toInt32), (.int c2.toInt8.toInt32), (.int c3.toInt8.toInt32)]) (.int 0) := f30
  refine Ac C S27 [(32, .iinc 1 1, 3), (35, .iinc 3 1, 3), (38, .iinc 5 1, 3), (41, .goto (-38), 3), (3, .iload 5, 2), (5, .iload 4, 2), (7, .if_icmp .ge 37, 3), (44, .iload 4, 2)] 46 #[Ab a, Aa 4, Ab b, Aa 4, Aa 4, Aa 4, Aa c3] [.int 4] ?_
  refine Bq C S27 (by decide +kernel) (by decide) (by decide) ?_
  exact ⟨rfl, (((((Keep.refl _ _).wr W5 (At 0)).wr W13 (At 0)).wr W21 (At 0)).wr W29 (At 0)), f31⟩
theorem own_cr4 (hw : Ao a0 Z) (a : Addr) (ak : ClassId) (c0 : Int32) (c1 : Int32) (c2 : Int32) (c3 : Int32) (h0 : Heap) (n0 : Nat) (z0 : n0 ≤ h0.size) (aK : Arv Z h0 a ak .char (4 : Int32) ([(.int c0), (.int c1), (.int c2), (.int c3)]) (.int 0)) (gc0 : ¬ (255 : Int32) < c0) (gc1 : ¬ (255 : Int32) < c1) (gc2 : ¬ (255 : Int32) < c2) (gc3 : ¬ (255 : Int32) < c3) :
    Af l Z (⟨"java/lang/StringUTF16", "compress", "([CII)[B"⟩ : MethodName) jdk_52_method_16_code 6 (some (.array .byte)) ({ frames := 1, cells := 1, slots := 4, locals := 18 } : Room) n0 #[(.ref a), (.int 0), (.int 4)] h0 (fun v h => ∃ r : Addr, ∃ rk : ClassId, v = some (.ref r) ∧ h0.size ≤ r ∧ Keep h0 h [] ∧ Arv Z h r rk .byte (4 : Int32) ([(.int c0.toInt8.toInt32), (.int c1.toInt8.toInt32), (.int c2.toInt8.toInt32), (.int c3.toInt8.toInt32)]) (.int 0) ∧ Exa Z h r "[B") := by
  refine Ar #[.val (.ref a), .val (.int 0), .val (.int 4), .unset, .unset, .unset] ?_
  intro p e s m below meth c T0 C S0
  refine Ac C S0 [(0, .iload_n 2, 1)] 1 #[Ab a, Aa 0, Aa 4, .unset, .unset, .unset] [.int 4] ?_
  refine Co C S0 (aty := .byte) (ad := "[B") (by decide) (ow hw 30 rfl) (by decide +kernel) (by decide) 4 (by decide) (by decide) (by decide) (by decide) ?_
  intro T1 h3 a4 k5 S2 g6 E7 f8 x9
  have f10 : Arv Z h3 a4 k5 .byte (4 : Int32) ([(.int 0), (.int 0), (.int 0), (.int 0)]) (.int 0) := Arv.pad f8 (pad_rep [] (.int 0) 4)
  refine Ac C S2 [(3, .astore_n 3, 1), (4, .aload_n 0, 1), (5, .iload_n 1, 1), (6, .aload_n 3, 1), (7, .iconst 0, 1), (8, .iload_n 2, 1)] 9 #[Ab a, Aa 0, Aa 4, Ab a4, .unset, .unset] [.int 4, .int 0, .ref a4, .int 0, .ref a] ?_
  have f11 := (aK.ext E7)
  have f12 : n0 ≤ h3.size := (Nat.le_trans z0 E7.1)
  have g13 : n0 ≤ a4 := by rw [g6]; exact z0
  have n14 : a ≠ a4 := by rw [g6]; exact Nat.ne_of_lt aK.lt
  refine Ah C S2 hw 31 32 28 33 (own_cq4 l Z a0 hw a _ a4 _ _ _ _ _ h3 n0 f12 g13 f11 f10 n14 gc0 gc1 gc2 gc3) 0 [.ref a, .int 0, .ref a4, .int 0, .int 4] [] Eo ?_
  rintro T17 h18 v19 L20 S21 ⟨⟨rfl, K15, f16⟩, -⟩
  refine Ac C S21 [(12, .istore 4, 2), (14, .iload 4, 2), (16, .iload_n 2, 1), (17, .if_icmp .eq 40, 3), (57, .aload_n 3, 1)] 58 #[Ab a, Aa 0, Aa 4, Ab a4, Aa 4, .unset] [.ref a4] ?_
  refine Br C S21 rfl rfl (by decide +kernel) (by decide) (by decide) ?_
  have o22 : h0.size ≤ a4 := by rw [g6]; exact (Nat.le_refl _)
  have f23 := (x9.keep K15)
  exact ⟨a4, k5, rfl, o22, (((Keep.refl _ _).ext E7).trans K15 (allS (Or.inr o22) all0)), f16, f23⟩
theorem own_cl4 (hw : Ao a0 Z) (b : Addr) (bk : ClassId) (vs : List Value) (h0 : Heap) (n0 : Nat) (z0 : n0 ≤ h0.size) (bK : Arv Z h0 b bk .byte (4 : Int32) vs (.int 0)) :
    Af l Z (⟨"java/lang/StringUTF16", "coderFromArrayLen", "([BI)B"⟩ : MethodName) jdk_52_method_15_code 2 (some .byte) ({ frames := 0, cells := 0, slots := 0, locals := 0 } : Room) n0 #[(.ref b), (.int 4)] h0 (fun v h => v = some (.int 0) ∧ h = h0) := by
  refine Ar #[.val (.ref b), .val (.int 4)] ?_
  intro p e s m below meth c T0 C S0
  refine Ac C S0 [(0, .iload_n 1, 1), (1, .aload_n 0, 1)] 2 #[Ab b, Aa 4] [.ref b, .int 4] ?_
  refine Ay C S0 bK (by decide +kernel) ?_
  refine Ac C S0 [(3, .isub, 1), (4, .bipush 31, 2), (6, .iushr, 1), (7, .i2b, 1)] 8 #[Ab b, Aa 4] [.int ((Jvm.Free.XT.ushr ((4 : Int32) - (4 : Int32)) (31 : Int32)).toInt8.toInt32)] ?_
  rw [show (Jvm.Free.XT.ushr ((4 : Int32) - (4 : Int32)) (31 : Int32)).toInt8.toInt32 = (0 : Int32) from (by decide)]
  refine Dp C S0 (by decide +kernel) rfl (by decide) (by decide) ?_
  exact ⟨rfl, rfl⟩
theorem own_s4i4 (hw : Ao a0 Z) (G1 : Int32) (G3 : Value) (U8 : Addr) (I8 : Addr) (TB : Addr) (DE : Addr) (x : Addr) (a : Addr) (ak : ClassId) (c0 : Int32) (c1 : Int32) (c2 : Int32) (c3 : Int32) (h0 : Heap) (n0 : Nat) (z0 : n0 ≤ h0.size) (ge_x : n0 ≤ x) (X00 : Old Z n0 h0) (p0 : Exa Z h0 x "java/lang/String") (p1 : Fld Z h0 x "java/lang/String" "value" "[B" .null) (p2 : Fld Z h0 x "java/lang/String" "coder" "B" (.int 0)) (aK : Arv Z h0 a ak .char (4 : Int32) ([(.int c0), (.int c1), (.int c2), (.int c3)]) (.int 0)) (ne_a_x : a ≠ x) (XS : Bf Z n0 G1 G3 U8 I8 TB DE) (gc0 : ¬ (255 : Int32) < c0) (gc1 : ¬ (255 : Int32) < c1) (gc2 : ¬ (255 : Int32) < c2) (gc3 : ¬ (255 : Int32) < c3) :
    Af l Z (⟨"java/lang/String", "<init>", "([CIILjava/lang/Void;)V"⟩ : MethodName) jdk_42_method_149_code 6 none ({ frames := 2, cells := 1, slots := 4, locals := 35 } : Room) n0 #[(.ref x), (.ref a), (.int 0), (.int 4), .null] h0 (fun v h => ∃ r : Addr, ∃ rk : ClassId, v = none ∧ h0.size ≤ r ∧ Keep h0 h [x] ∧ Exa Z h x "java/lang/String" ∧ Fld Z h x "java/lang/String" "value" "[B" (.ref r) ∧ Fld Z h x "java/lang/String" "coder" "B" (.int 0) ∧ Arv Z h r rk .byte (4 : Int32) ([(.int c0.toInt8.toInt32), (.int c1.toInt8.toInt32), (.int c2.toInt8.toInt32), (.int c3.toInt8.toInt32)]) (.int 0) ∧ Exa Z h r "[B") := by
  refine Ar #[.val (.ref x), .val (.ref a), .val (.int 0), .val (.int 4), .val .null, .unset] ?_
  intro p e s m below meth c T0 C S0
  have XS_ := XS
  obtain ⟨O2, O4, P5, rG3, OU, OI, OT, OD, hUI, TBlt, DElt⟩ := XS_
  refine Ac C S0 [(0, .aload_n 0, 1)] 1 #[Ab x, Ab a, Aa 0, Aa 4, .val .null, .unset] [.ref x] ?_
  refine Di C S0 (ow hw 22 rfl) (ow hw 23 rfl) (ow hw 24 rfl) rfl (by decide +kernel) (by decide) 0 (Am rfl) (by decide) ?_
  intro T1 S2
  refine Ac C S2 [(4, .iload_n 3, 1), (5, .ifCond .ne 22, 3)] 27 #[Ab x, Ab a, Aa 0, Aa 4, .val .null, .unset] [] ?_
  refine Az C S2 (ow hw 25 rfl) Via.refl (O2.ext X00.2) (by decide +kernel) ?_
  intro T3 S4
  refine Ba C S4 .eq 28 58 (fun (hq : G1 = (0 : Int32)) => False.elim (P5 hq)) (fun (q5 : ¬ G1 = (0 : Int32)) => ?_)
  refine Ac C S4 [(33, .aload_n 1, 1), (34, .iload_n 2, 1), (35, .iload_n 3, 1)] 36 #[Ab x, Ab a, Aa 0, Aa 4, .val .null, .unset] [.int 4, .int 0, .ref a] ?_
  refine Ah C S4 hw 26 27 28 29 (own_cr4 l Z a0 hw a _ _ _ _ _ h0 n0 z0 aK gc0 gc1 gc2 gc3) 0 [.ref a, .int 0, .int 4] [] Ep ?_
  rintro T12 h13 v14 L15 S16 ⟨⟨a6, k7, rfl, g8, K9, f10, f11⟩, -⟩
  refine Ac C S16 [(39, .astore 5, 2), (41, .aload_n 0, 1), (42, .aload 5, 2), (44, .iload_n 3, 1)] 45 #[Ab x, Ab a, Aa 0, Aa 4, .val .null, Ab a6] [.int 4, .ref a6, .ref x] ?_
  have f17 : n0 ≤ h13.size := (Nat.le_trans z0 K9.1)
  refine Ah C S16 hw 34 35 28 36 (own_cl4 l Z a0 hw a6 _ _ h13 n0 f17 f10) 1 [.ref a6, .int 4] [.ref x] Eb ?_
  rintro T19 h20 v21 L22 S23 ⟨⟨rfl, e18⟩, -⟩
  rw [e18] at S23; clear e18
  have f24 := (p2.keep K9 nin0)
  have f25 := (p0.keep K9)
  refine Cs C S23 (ty := .byte) (host := "") (Or.inl (ow hw 37 rfl)) Via.refl f24 f25 (Or.inr ⟨(ow hw 38 rfl), rfl, rfl⟩) (ow hw 8 rfl) Cv rfl rfl ge_x (by decide +kernel) ?_
  intro T26 h28 S27 W29
  have f30 : Fld Z h28 x "java/lang/String" "coder" "B" (.int 0) := Fld.same W29 f24
  refine Ac C S27 [(51, .aload_n 0, 1), (52, .aload 5, 2)] 54 #[Ab x, Ab a, Aa 0, Aa 4, .val .null, Ab a6] [.ref a6, .ref x] ?_
  have f31 := (Fld.other W29 (p1.keep K9 nin0) (Or.inr (Ef hw)))
  have f32 := (Exa.wr W29 f25)
  refine Cs C S27 (ty := (.array .byte)) (host := "") (Or.inl (ow hw 39 rfl)) Via.refl f31 f32 (Or.inr ⟨(ow hw 40 rfl), rfl, rfl⟩) (ow hw 8 rfl) Cw rfl rfl ge_x (by decide +kernel) ?_
  intro T33 h35 S34 W36
  have f37 : Fld Z h35 x "java/lang/String" "value" "[B" (.ref a6) := Fld.same W36 f31
  refine Ct C S34 (by decide +kernel) (by decide) (by decide) ?_
  have o38 : h0.size ≤ a6 := Nat.le_trans (Nat.le_refl _) g8
  have f39 := (Exa.wr W36 f32)
  have f40 := (Fld.other W36 f30 (Or.inr (Eg hw)))
  have n41 : x ≠ a6 := Nat.ne_of_lt (Nat.lt_of_lt_of_le p0.lt g8)
  have f42 := ((f10.other W29 (Ne.symm n41)).other W36 (Ne.symm n41))
  have f43 := (Exa.wr W36 (Exa.wr W29 f11))
  exact ⟨a6, k7, rfl, o38, ((((Keep.refl _ _).trans K9 all0).wr W29 (At 0)).wr W36 (At 0)), f39, f37, f40, f42, f43⟩
theorem own_s1i4 (hw : Ao a0 Z) (G1 : Int32) (G3 : Value) (U8 : Addr) (I8 : Addr) (TB : Addr) (DE : Addr) (x : Addr) (a : Addr) (ak : ClassId) (c0 : Int32) (c1 : Int32) (c2 : Int32) (c3 : Int32) (h0 : Heap) (n0 : Nat) (z0 : n0 ≤ h0.size) (ge_x : n0 ≤ x) (X00 : Old Z n0 h0) (p0 : Exa Z h0 x "java/lang/String") (p1 : Fld Z h0 x "java/lang/String" "value" "[B" .null) (p2 : Fld Z h0 x "java/lang/String" "coder" "B" (.int 0)) (aK : Arv Z h0 a ak .char (4 : Int32) ([(.int c0), (.int c1), (.int c2), (.int c3)]) (.int 0)) (ne_a_x : a ≠ x) (XS : Bf Z n0 G1 G3 U8 I8 TB DE) (gc0 : ¬ (255 : Int32) < c0) (gc1 : ¬ (255 : Int32) < c1) (gc2 : ¬ (255 : Int32) < c2) (gc3 : ¬ (255 : Int32) < c3) :
    Af l Z (⟨"java/lang/String", "<init>", "([C)V"⟩ : MethodName) jdk_42_method_3_code 2 none ({ frames := 3, cells := 1, slots := 4, locals := 52 } : Room) n0 #[(.ref x), (.ref a)] h0 (fun v h => ∃ r : Addr, ∃ rk : ClassId, v = none ∧ h0.size ≤ r ∧ Keep h0 h [x] ∧ Exa Z h x "java/lang/String" ∧ Fld Z h x "java/lang/String" "value" "[B" (.ref r) ∧ Fld Z h x "java/lang/String" "coder" "B" (.int 0) ∧ Arv Z h r rk .byte (4 : Int32) ([(.int c0.toInt8.toInt32), (.int c1.toInt8.toInt32), (.int c2.toInt8.toInt32), (.int c3.toInt8.toInt32)]) (.int 0) ∧ Exa Z h r "[B") := by
  refine Ar #[.val (.ref x), .val (.ref a)] ?_
  intro p e s m below meth c T0 C S0
  have XS_ := XS
  obtain ⟨O2, O4, P5, rG3, OU, OI, OT, OD, hUI, TBlt, DElt⟩ := XS_
  refine Ac C S0 [(0, .aload_n 0, 1), (1, .aload_n 1, 1), (2, .iconst 0, 1), (3, .aload_n 1, 1)] 4 #[Ab x, Ab a] [.ref a, .int 0, .ref a, .ref x] ?_
  refine Ay C S0 aK (by decide +kernel) ?_
  refine Ac C S0 [(5, .aconst_null, 1)] 6 #[Ab x, Ab a] [.null, .int 4, .int 0, .ref a, .ref x] ?_
  refine Cr C S0 rfl (ow hw 18 rfl) (ow hw 19 rfl) (ow hw 21 rfl) (by decide) (Af.pay (own_s4i4 l Z a0 hw G1 G3 U8 I8 TB DE x a _ _ _ _ _ h0 n0 z0 ge_x X00 p0 p1 p2 aK ne_a_x XS gc0 gc1 gc2 gc3) C 0 (ow hw 21 rfl) (ow hw 9 rfl) (by decide) (by decide)) (fun _ _ _ q => q.2) [.ref a, .int 0, .int 4, .null] [] rfl Dr rfl rfl rfl (Am rfl) (by decide) (by decide) (by decide +kernel) ?_
  rintro T10 h11 v12 L13 S14 ⟨⟨a1, k2, rfl, g3, K4, f5, f6, f7, f8, f9⟩, -⟩
  refine Ct C S14 (by decide +kernel) (by decide) (by decide) ?_
  have o15 : h0.size ≤ a1 := Nat.le_trans (Nat.le_refl _) g3
  exact ⟨a1, k2, rfl, o15, ((Keep.refl _ _).trans K4 (allS (At 0) all0)), f5, f6, f7, f8, f9⟩
theorem own_cq6 (hw : Ao a0 Z) (a : Addr) (ak : ClassId) (b : Addr) (bk : ClassId) (c0 : Int32) (c1 : Int32) (c2 : Int32) (c3 : Int32) (c4 : Int32) (c5 : Int32) (h0 : Heap) (n0 : Nat) (z0 : n0 ≤ h0.size) (ge_b : n0 ≤ b) (aK : Arv Z h0 a ak .char (6 : Int32) ([(.int c0), (.int c1), (.int c2), (.int c3), (.int c4), (.int c5)]) (.int 0)) (bK : Arv Z h0 b bk .byte (6 : Int32) ([(.int 0), (.int 0), (.int 0), (.int 0), (.int 0), (.int 0)]) (.int 0)) (ne_a_b : a ≠ b) (gc0 : ¬ (255 : Int32) < c0) (gc1 : ¬ (255 : Int32) < c1) (gc2 : ¬ (255 : Int32) < c2) (gc3 : ¬ (255 : Int32) < c3) (gc4 : ¬ (255 : Int32) < c4) (gc5 : ¬ (255 : Int32) < c5) :
    Af l Z (⟨"java/lang/StringUTF16", "compress", "([CI[BII)I"⟩ : MethodName) jdk_52_method_21_code 7 (some .int) ({ frames := 0, cells := 0, slots := 0, locals := 0 } : Room) n0 #[(.ref a), (.int 0), (.ref b), (.int 0), (.int 6)] h0 (fun v h => v = some (.int 6) ∧ Keep h0 h [b] ∧ Arv Z h b bk .byte (6 : Int32) ([(.int c0.toInt8.toInt32), (.int c1.toInt8.toInt32), (.int c2.toInt8.toInt32), (.int c3.toInt8.toInt32), (.int c4.toInt8.toInt32), (.int c5.toInt8.toInt32)]) (.int 0)) := by
  refine Ar #[.val (.ref a), .val (.int 0), .val (.ref b), .val (.int 0), .val (.int 6), .unset, .unset] ?_
  intro p e s m below meth c T0 C S0
  refine Ac C S0 [(0, .iconst 0, 1), (1, .istore 5, 2), (3, .iload 5, 2), (5, .iload 4, 2), (7, .if_icmp .ge 37, 3), (10, .aload_n 0, 1), (11, .iload_n 1, 1)] 12 #[Ab a, Aa 0, Ab b, Aa 0, Aa 6, Aa 0, .unset] [.int 0, .ref a] ?_
  refine Bg C S0 aK ⟨(by decide), (by decide)⟩ (.int c0) rfl (by decide +kernel) ?_
  refine Ac C S0 [(13, .istore 6, 2), (15, .iload 6, 2), (17, .sipush 255, 3)] 20 #[Ab a, Aa 0, Ab b, Aa 0, Aa 6, Aa 0, Aa c0] [.int 255, .int c0] ?_
  refine Bj C S0 .le 6 26 (fun (q1 : ¬ (255 : Int32) < c0) => ?_) (fun (hq : (255 : Int32) < c0) => False.elim (gc0 hq))
  refine Ac C S0 [(26, .aload_n 2, 1), (27, .iload_n 3, 1), (28, .iload 6, 2), (30, .i2b, 1)] 31 #[Ab a, Aa 0, Ab b, Aa 0, Aa 6, Aa 0, Aa c0] [.int c0.toInt8.toInt32, .int 0, .ref b] ?_
  refine Aj C S0 bK ⟨(by decide), (by decide)⟩ 0 rfl (Am rfl) c0.toInt8.toInt32 (Au _) ge_b (by decide +kernel) ?_
  intro T2 h4 S3 W5 f6
  have f7 : Arv Z h4 b bk .byte (6 : Int32) ([(.int c0.toInt8.toInt32), (.int 0), (.int 0), (.int 0), (.int 0), (.int 0)]) (.int 0) := f6
  refine Ac C S3 [(32, .iinc 1 1, 3), (35, .iinc 3 1, 3), (38, .iinc 5 1, 3), (41, .goto (-38), 3), (3, .iload 5, 2), (5, .iload 4, 2), (7, .if_icmp .ge 37, 3), (10, .aload_n 0, 1), (11, .iload_n 1, 1)] 12 #[Ab a, Aa 1, Ab b, Aa 1, Aa 6, Aa 1, Aa c0] [.int 1, .ref a] ?_
  have f8 := (aK.other W5 ne_a_b)
  refine Bg C S3 f8 ⟨(by decide), (by decide)⟩ (.int c1) rfl (by decide +kernel) ?_
  refine Ac C S3 [(13, .istore 6, 2), (15, .iload 6, 2), (17, .sipush 255, 3)] 20 #[Ab a, Aa 1, Ab b, Aa 1, Aa 6, Aa 1, Aa c1] [.int 255, .int c1] ?_
  refine Bj C S3 .le 6 26 (fun (q9 : ¬ (255 : Int32) < c1) => ?_) (fun (hq : (255 : Int32) < c1) => False.elim (gc1 hq))
  refine Ac C S3 [(26, .aload_n 2, 1), (27, .iload_n 3, 1), (28, .iload 6, 2), (30, .i2b, 1)] 31 #[Ab a, Aa 1, Ab b, Aa 1, Aa 6, Aa 1, Aa c1] [.int c1.toInt8.toInt32, .int 1, .ref b] ?_
  refine Aj C S3 f7 ⟨(by decide), (by decide)⟩ 1 rfl (Am rfl) c1.toInt8.toInt32 (Au _) ge_b (by decide +kernel) ?_
  intro T10 h12 S11 W13 f14
  have f15 : Arv Z h12 b bk .byte (6 : Int32) ([(.int c0.toInt8.toInt32), (.int c1.toInt8.toInt32), (.int 0), (.int 0), (.int 0), (.int 0)]) (.int 0) := f14
  refine Ac C S11 [(32, .iinc 1 1, 3), (35, .iinc 3 1, 3), (38, .iinc 5 1, 3), (41, .goto (-38), 3), (3, .iload 5, 2), (5, .iload 4, 2), (7, .if_icmp .ge 37, 3), (10, .aload_n 0, 1), (11, .iload_n 1, 1)] 12 #[Ab a, Aa 2, Ab b, Aa 2, Aa 6, Aa 2, Aa c1] [.int 2, .ref a] ?_
  have f16 := (f8.other W13 ne_a_b)
  refine Bg C S11 f16 ⟨(by decide), (by decide)⟩ (.int c2) rfl (by decide +kernel) ?_
  refine Ac C S11 [(13, .istore 6, 2), (15, .iload 6, 2), (17, .sipush 255, 3)] 20 #[Ab a, Aa 2, Ab b, Aa 2, Aa 6, Aa 2, Aa c2] [.int 255, .int c2] ?_
  refine Bj C S11 .le 6 26 (fun (q17 : ¬ (255 : Int32) < c2) => ?_) (fun (hq : (255 : Int32) < c2) => False.elim (gc2 hq))
  refine Ac C S11 [(26, .aload_n 2, 1), (27, .iload_n 3, 1), (28, .iload 6, 2), (30, .i2b, 1)] 31 #[Ab a, Aa 2, Ab b, Aa 2, Aa 6, Aa 2, Aa c2] [.int c2.toInt8.toInt32, .int 2, .ref b] ?_
  refine Aj C S11 f15 ⟨(by decide), (by decide)⟩ 2 rfl (Am rfl) c2.toInt8.toInt32 (Au _) ge_b (by decide +kernel) ?_
  intro T18 h20 S19 W21 f22
  have f23 : Arv Z h20 b bk .byte (6 : Int32) ([(.int c0.toInt8.toInt32), (.int c1.toInt8.toInt32), (.int c2.toInt8.toInt32), (.int 0), (.int 0), (.int 0)]) (.int 0) := f22
  refine Ac C S19 [(32, .iinc 1 1, 3), (35, .iinc 3 1, 3), (38, .iinc 5 1, 3), (41, .goto (-38), 3), (3, .iload 5, 2), (5, .iload 4, 2), (7, .if_icmp .ge 37, 3), (10, .aload_n 0, 1), (11, .iload_n 1, 1)] 12 #[Ab a, Aa 3, Ab b, Aa 3, Aa 6, Aa 3, Aa c2] [.int 3, .ref a] ?_
  have f24 := (f16.other W21 ne_a_b)
  refine Bg C S19 f24 ⟨(by decide), (by decide)⟩ (.int c3) rfl (by decide +kernel) ?_
  refine Ac C S19 [(13, .istore 6, 2), (15, .iload 6, 2), (17, .sipush 255, 3)] 20 #[Ab a, Aa 3, Ab b, Aa 3, Aa 6, Aa 3, Aa c3] [.int 255, .int c3] ?_
  refine Bj C S19 .le 6 26 (fun (q25 : ¬ (255 : Int32) < c3) => ?_) (fun (hq : (255 : Int32) < c3) => False.elim (gc3 hq))
  refine Ac C S19 [(26, .aload_n 2, 1), (27, .iload_n 3, 1), (28, .iload 6, 2), (30, .i2b, 1)] 31 #[Ab a, Aa 3, Ab b, Aa 3, Aa 6, Aa 3, Aa c3] [.int c3.toInt8.toInt32, .int 3, .ref b] ?_
  refine Aj C S19 f23 ⟨(by decide), (by decide)⟩ 3 rfl (Am rfl) c3.toInt8.toInt32 (Au _) ge_b (by decide +kernel) ?_
  intro T26 h28 S27 W29 f30
  have f31 : Arv Z h28 b bk .byte (6 : Int32) ([(.int c0.toInt8.toInt32), (.int c1.toInt8.toInt32), (.int c2.toInt8.toInt32), (.int c3.toInt8.toInt32), (.int 0), (.int 0)]) (.int 0) := f30
  refine Ac C S27 [(32, .iinc 1 1, 3), (35, .iinc 3 1, 3), (38, .iinc 5 1, 3), (41, .goto (-38), 3), (3, .iload 5, 2), (5, .iload 4, 2), (7, .if_icmp .ge 37, 3), (10, .aload_n 0, 1), (11, .iload_n 1, 1)] 12 #[Ab a, Aa 4, Ab b, Aa 4, Aa 6, Aa 4, Aa c3] [.int 4, .ref a] ?_
  have f32 := (f24.other W29 ne_a_b)
  refine Bg C S27 f32 ⟨(by decide), (by decide)⟩ (.int c4) rfl (by decide +kernel) ?_
  refine Ac C S27 [(13, .istore 6, 2), (15, .iload 6, 2), (17, .sipush 255, 3)] 20 #[Ab a, Aa 4, Ab b, Aa 4, Aa 6, Aa 4, Aa c4] [.int 255, .int c4] ?_
  refine Bj C S27 .le 6 26 (fun (q33 : ¬ (255 : Int32) < c4) => ?_) (fun (hq : (255 : Int32) < c4) => False.elim (gc4 hq))
  refine Ac C S27 [(26, .aload_n 2, 1), (27, .iload_n 3, 1), (28, .iload 6, 2), (30, .i2b, 1)] 31 #[Ab a, Aa 4, Ab b, Aa 4, Aa 6, Aa 4, Aa c4] [.int c4.toInt8.toInt32, .int 4, .ref b] ?_
  refine Aj C S27 f31 ⟨(by decide), (by decide)⟩ 4 rfl (Am rfl) c4.toInt8.toInt32 (Au _) ge_b (by decide +kernel) ?_
  intro T34 h36 S35 W37 f38
  have f39 : Arv Z h36 b bk .byte (6 : Int32) ([(.int c0.toInt8.toInt32), (.int c1.toInt8.toInt32), (.int c2.toInt8.toInt32), (.int c3.toInt8.toInt32), (.int c4.toInt8.toInt32), (.int 0)]) (.int 0) := f38
  refine Ac C S35 [(32, .iinc 1 1, 3), (35, .iinc 3 1, 3), (38, .iinc 5 1, 3), (41, .goto (-38), 3), (3, .iload 5, 2), (5, .iload 4, 2), (7, .if_icmp .ge 37, 3), (10, .aload_n 0, 1), (11, .iload_n 1, 1)] 12 #[Ab a, Aa 5, Ab b, Aa 5, Aa 6, Aa 5, Aa c4] [.int 5, .ref a] ?_
  have f40 := (f32.other W37 ne_a_b)
  refine Bg C S35 f40 ⟨(by decide), (by decide)⟩ (.int c5) rfl (by decide +kernel) ?_
  refine Ac C S35 [(13, .istore 6, 2), (15, .iload 6, 2), (17, .sipush 255, 3)] 20 #[Ab a, Aa 5, Ab b, Aa 5, Aa 6, Aa 5, Aa c5] [.int 255, .int c5] ?_
  refine Bj C S35 .le 6 26 (fun (q41 : ¬ (255 : Int32) < c5) => ?_) (fun (hq : (255 : Int32) < c5) => False.elim (gc5 hq))
  refine Ac C S35 [(26, .aload_n 2, 1), (27, .iload_n 3, 1), (28, .iload 6, 2), (30, .i2b, 1)] 31 #[Ab a, Aa 5, Ab b, Aa 5, Aa 6, Aa 5, Aa c5] [.int c5.toInt8.toInt32, .int 5, .ref b] ?_
  refine Aj C S35 f39 ⟨(by decide), (by decide)⟩ 5 rfl (Am rfl) c5.toInt8.toInt32 (Au _) ge_b (by decide +kernel) ?_
  intro T42 h44 S43 W45 f46
  have f47 : Arv Z h44 b bk .byte (6 : Int32) ([(.int c0.toInt8.toInt32), (.int c1.toInt8.toInt32), (.int c2.toInt8.toInt32), (.int c3.toInt8.toInt32), (.int c4.toInt8.toInt32), (.int c5.toInt8.toInt32)]) (.int 0) := f46
  refine Ac C S43 [(32, .iinc 1 1, 3), (35, .iinc 3 1, 3), (38, .iinc 5 1, 3), (41, .goto (-38), 3), (3, .iload 5, 2), (5, .iload 4, 2), (7, .if_icmp .ge 37, 3), (44, .iload 4, 2)] 46 #[Ab a, Aa 6, Ab b, Aa 6, Aa 6, Aa 6, Aa c5] [.int 6] ?_
  refine Bq C S43 (by decide +kernel) (by decide) (by decide) ?_
  exact ⟨rfl, (((((((Keep.refl _ _).wr W5 (At 0)).wr W13 (At 0)).wr W21 (At 0)).wr W29 (At 0)).wr W37 (At 0)).wr W45 (At 0)), f47⟩
theorem own_cr6 (hw : Ao a0 Z) (a : Addr) (ak : ClassId) (c0 : Int32) (c1 : Int32) (c2 : Int32) (c3 : Int32) (c4 : Int32) (c5 : Int32) (h0 : Heap) (n0 : Nat) (z0 : n0 ≤ h0.size) (aK : Arv Z h0 a ak .char (6 : Int32) ([(.int c0), (.int c1), (.int c2), (.int c3), (.int c4), (.int c5)]) (.int 0)) (gc0 : ¬ (255 : Int32) < c0) (gc1 : ¬ (255 : Int32) < c1) (gc2 : ¬ (255 : Int32) < c2) (gc3 : ¬ (255 : Int32) < c3) (gc4 : ¬ (255 : Int32) < c4) (gc5 : ¬ (255 : Int32) < c5) :
    Af l Z (⟨"java/lang/StringUTF16", "compress", "([CII)[B"⟩ : MethodName) jdk_52_method_16_code 6 (some (.array .byte)) ({ frames := 1, cells := 1, slots := 6, locals := 18 } : Room) n0 #[(.ref a), (.int 0), (.int 6)] h0 (fun v h => ∃ r : Addr, ∃ rk : ClassId, v = some (.ref r) ∧ h0.size ≤ r ∧ Keep h0 h [] ∧ Arv Z h r rk .byte (6 : Int32) ([(.int c0.toInt8.toInt32), (.int c1.toInt8.toInt32), (.int c2.toInt8.toInt32), (.int c3.toInt8.toInt32), (.int c4.toInt8.toInt32), (.int c5.toInt8.toInt32)]) (.int 0) ∧ Exa Z h r "[B") := by
  refine Ar #[.val (.ref a), .val (.int 0), .val (.int 6), .unset, .unset, .unset] ?_
  intro p e s m below meth c T0 C S0
  refine Ac C S0 [(0, .iload_n 2, 1)] 1 #[Ab a, Aa 0, Aa 6, .unset, .unset, .unset] [.int 6] ?_
  refine Co C S0 (aty := .byte) (ad := "[B") (by decide) (ow hw 30 rfl) (by decide +kernel) (by decide) 6 (by decide) (by decide) (by decide) (by decide) ?_
  intro T1 h3 a4 k5 S2 g6 E7 f8 x9
  have f10 : Arv Z h3 a4 k5 .byte (6 : Int32) ([(.int 0), (.int 0), (.int 0), (.int 0), (.int 0), (.int 0)]) (.int 0) := Arv.pad f8 (pad_rep [] (.int 0) 6)
  refine Ac C S2 [(3, .astore_n 3, 1), (4, .aload_n 0, 1), (5, .iload_n 1, 1), (6, .aload_n 3, 1), (7, .iconst 0, 1), (8, .iload_n 2, 1)] 9 #[Ab a, Aa 0, Aa 6, Ab a4, .unset, .unset] [.int 6, .int 0, .ref a4, .int 0, .ref a] ?_
  have f11 := (aK.ext E7)
  have f12 : n0 ≤ h3.size := (Nat.le_trans z0 E7.1)
  have g13 : n0 ≤ a4 := by rw [g6]; exact z0
  have n14 : a ≠ a4 := by rw [g6]; exact Nat.ne_of_lt aK.lt
  refine Ah C S2 hw 31 32 28 33 (own_cq6 l Z a0 hw a _ a4 _ _ _ _ _ _ _ h3 n0 f12 g13 f11 f10 n14 gc0 gc1 gc2 gc3 gc4 gc5) 0 [.ref a, .int 0, .ref a4, .int 0, .int 6] [] Eo ?_
  rintro T17 h18 v19 L20 S21 ⟨⟨rfl, K15, f16⟩, -⟩
  refine Ac C S21 [(12, .istore 4, 2), (14, .iload 4, 2), (16, .iload_n 2, 1), (17, .if_icmp .eq 40, 3), (57, .aload_n 3, 1)] 58 #[Ab a, Aa 0, Aa 6, Ab a4, Aa 6, .unset] [.ref a4] ?_
  refine Br C S21 rfl rfl (by decide +kernel) (by decide) (by decide) ?_
  have o22 : h0.size ≤ a4 := by rw [g6]; exact (Nat.le_refl _)
  have f23 := (x9.keep K15)
  exact ⟨a4, k5, rfl, o22, (((Keep.refl _ _).ext E7).trans K15 (allS (Or.inr o22) all0)), f16, f23⟩
theorem own_cl6 (hw : Ao a0 Z) (b : Addr) (bk : ClassId) (vs : List Value) (h0 : Heap) (n0 : Nat) (z0 : n0 ≤ h0.size) (bK : Arv Z h0 b bk .byte (6 : Int32) vs (.int 0)) :
    Af l Z (⟨"java/lang/StringUTF16", "coderFromArrayLen", "([BI)B"⟩ : MethodName) jdk_52_method_15_code 2 (some .byte) ({ frames := 0, cells := 0, slots := 0, locals := 0 } : Room) n0 #[(.ref b), (.int 6)] h0 (fun v h => v = some (.int 0) ∧ h = h0) := by
  refine Ar #[.val (.ref b), .val (.int 6)] ?_
  intro p e s m below meth c T0 C S0
  refine Ac C S0 [(0, .iload_n 1, 1), (1, .aload_n 0, 1)] 2 #[Ab b, Aa 6] [.ref b, .int 6] ?_
  refine Ay C S0 bK (by decide +kernel) ?_
  refine Ac C S0 [(3, .isub, 1), (4, .bipush 31, 2), (6, .iushr, 1), (7, .i2b, 1)] 8 #[Ab b, Aa 6] [.int ((Jvm.Free.XT.ushr ((6 : Int32) - (6 : Int32)) (31 : Int32)).toInt8.toInt32)] ?_
  rw [show (Jvm.Free.XT.ushr ((6 : Int32) - (6 : Int32)) (31 : Int32)).toInt8.toInt32 = (0 : Int32) from (by decide)]
  refine Dp C S0 (by decide +kernel) rfl (by decide) (by decide) ?_
  exact ⟨rfl, rfl⟩
theorem own_s4i6 (hw : Ao a0 Z) (G1 : Int32) (G3 : Value) (U8 : Addr) (I8 : Addr) (TB : Addr) (DE : Addr) (x : Addr) (a : Addr) (ak : ClassId) (c0 : Int32) (c1 : Int32) (c2 : Int32) (c3 : Int32) (c4 : Int32) (c5 : Int32) (h0 : Heap) (n0 : Nat) (z0 : n0 ≤ h0.size) (ge_x : n0 ≤ x) (X00 : Old Z n0 h0) (p0 : Exa Z h0 x "java/lang/String") (p1 : Fld Z h0 x "java/lang/String" "value" "[B" .null) (p2 : Fld Z h0 x "java/lang/String" "coder" "B" (.int 0)) (aK : Arv Z h0 a ak .char (6 : Int32) ([(.int c0), (.int c1), (.int c2), (.int c3), (.int c4), (.int c5)]) (.int 0)) (ne_a_x : a ≠ x) (XS : Bf Z n0 G1 G3 U8 I8 TB DE) (gc0 : ¬ (255 : Int32) < c0) (gc1 : ¬ (255 : Int32) < c1) (gc2 : ¬ (255 : Int32) < c2) (gc3 : ¬ (255 : Int32) < c3) (gc4 : ¬ (255 : Int32) < c4) (gc5 : ¬ (255 : Int32) < c5) :
    Af l Z (⟨"java/lang/String", "<init>", "([CIILjava/lang/Void;)V"⟩ : MethodName) jdk_42_method_149_code 6 none ({ frames := 2, cells := 1, slots := 6, locals := 35 } : Room) n0 #[(.ref x), (.ref a), (.int 0), (.int 6), .null] h0 (fun v h => ∃ r : Addr, ∃ rk : ClassId, v = none ∧ h0.size ≤ r ∧ Keep h0 h [x] ∧ Exa Z h x "java/lang/String" ∧ Fld Z h x "java/lang/String" "value" "[B" (.ref r) ∧ Fld Z h x "java/lang/String" "coder" "B" (.int 0) ∧ Arv Z h r rk .byte (6 : Int32) ([(.int c0.toInt8.toInt32), (.int c1.toInt8.toInt32), (.int c2.toInt8.toInt32), (.int c3.toInt8.toInt32), (.int c4.toInt8.toInt32), (.int c5.toInt8.toInt32)]) (.int 0) ∧ Exa Z h r "[B") := by
  refine Ar #[.val (.ref x), .val (.ref a), .val (.int 0), .val (.int 6), .val .null, .unset] ?_
  intro p e s m below meth c T0 C S0
  have XS_ := XS
  obtain ⟨O2, O4, P5, rG3, OU, OI, OT, OD, hUI, TBlt, DElt⟩ := XS_
  refine Ac C S0 [(0, .aload_n 0, 1)] 1 #[Ab x, Ab a, Aa 0, Aa 6, .val .null, .unset] [.ref x] ?_
  refine Di C S0 (ow hw 22 rfl) (ow hw 23 rfl) (ow hw 24 rfl) rfl (by decide +kernel) (by decide) 0 (Am rfl) (by decide) ?_
  intro T1 S2
  refine Ac C S2 [(4, .iload_n 3, 1), (5, .ifCond .ne 22, 3)] 27 #[Ab x, Ab a, Aa 0, Aa 6, .val .null, .unset] [] ?_
  refine Az C S2 (ow hw 25 rfl) Via.refl (O2.ext X00.2) (by decide +kernel) ?_
  intro T3 S4
  refine Ba C S4 .eq 28 58 (fun (hq : G1 = (0 : Int32)) => False.elim (P5 hq)) (fun (q5 : ¬ G1 = (0 : Int32)) => ?_)
  refine Ac C S4 [(33, .aload_n 1, 1), (34, .iload_n 2, 1), (35, .iload_n 3, 1)] 36 #[Ab x, Ab a, Aa 0, Aa 6, .val .null, .unset] [.int 6, .int 0, .ref a] ?_
  refine Ah C S4 hw 26 27 28 29 (own_cr6 l Z a0 hw a _ _ _ _ _ _ _ h0 n0 z0 aK gc0 gc1 gc2 gc3 gc4 gc5) 0 [.ref a, .int 0, .int 6] [] Ep ?_
  rintro T12 h13 v14 L15 S16 ⟨⟨a6, k7, rfl, g8, K9, f10, f11⟩, -⟩
  refine Ac C S16 [(39, .astore 5, 2), (41, .aload_n 0, 1), (42, .aload 5, 2), (44, .iload_n 3, 1)] 45 #[Ab x, Ab a, Aa 0, Aa 6, .val .null, Ab a6] [.int 6, .ref a6, .ref x] ?_
  have f17 : n0 ≤ h13.size := (Nat.le_trans z0 K9.1)
  refine Ah C S16 hw 34 35 28 36 (own_cl6 l Z a0 hw a6 _ _ h13 n0 f17 f10) 1 [.ref a6, .int 6] [.ref x] Eb ?_
  rintro T19 h20 v21 L22 S23 ⟨⟨rfl, e18⟩, -⟩
  rw [e18] at S23; clear e18
  have f24 := (p2.keep K9 nin0)
  have f25 := (p0.keep K9)
  refine Cs C S23 (ty := .byte) (host := "") (Or.inl (ow hw 37 rfl)) Via.refl f24 f25 (Or.inr ⟨(ow hw 38 rfl), rfl, rfl⟩) (ow hw 8 rfl) Cv rfl rfl ge_x (by decide +kernel) ?_
  intro T26 h28 S27 W29
  have f30 : Fld Z h28 x "java/lang/String" "coder" "B" (.int 0) := Fld.same W29 f24
  refine Ac C S27 [(51, .aload_n 0, 1), (52, .aload 5, 2)] 54 #[Ab x, Ab a, Aa 0, Aa 6, .val .null, Ab a6] [.ref a6, .ref x] ?_
  have f31 := (Fld.other W29 (p1.keep K9 nin0) (Or.inr (Ef hw)))
  have f32 := (Exa.wr W29 f25)
  refine Cs C S27 (ty := (.array .byte)) (host := "") (Or.inl (ow hw 39 rfl)) Via.refl f31 f32 (Or.inr ⟨(ow hw 40 rfl), rfl, rfl⟩) (ow hw 8 rfl) Cw rfl rfl ge_x (by decide +kernel) ?_
  intro T33 h35 S34 W36
  have f37 : Fld Z h35 x "java/lang/String" "value" "[B" (.ref a6) := Fld.same W36 f31
  refine Ct C S34 (by decide +kernel) (by decide) (by decide) ?_
  have o38 : h0.size ≤ a6 := Nat.le_trans (Nat.le_refl _) g8
  have f39 := (Exa.wr W36 f32)
  have f40 := (Fld.other W36 f30 (Or.inr (Eg hw)))
  have n41 : x ≠ a6 := Nat.ne_of_lt (Nat.lt_of_lt_of_le p0.lt g8)
  have f42 := ((f10.other W29 (Ne.symm n41)).other W36 (Ne.symm n41))
  have f43 := (Exa.wr W36 (Exa.wr W29 f11))
  exact ⟨a6, k7, rfl, o38, ((((Keep.refl _ _).trans K9 all0).wr W29 (At 0)).wr W36 (At 0)), f39, f37, f40, f42, f43⟩
theorem own_s1i6 (hw : Ao a0 Z) (G1 : Int32) (G3 : Value) (U8 : Addr) (I8 : Addr) (TB : Addr) (DE : Addr) (x : Addr) (a : Addr) (ak : ClassId) (c0 : Int32) (c1 : Int32) (c2 : Int32) (c3 : Int32) (c4 : Int32) (c5 : Int32) (h0 : Heap) (n0 : Nat) (z0 : n0 ≤ h0.size) (ge_x : n0 ≤ x) (X00 : Old Z n0 h0) (p0 : Exa Z h0 x "java/lang/String") (p1 : Fld Z h0 x "java/lang/String" "value" "[B" .null) (p2 : Fld Z h0 x "java/lang/String" "coder" "B" (.int 0)) (aK : Arv Z h0 a ak .char (6 : Int32) ([(.int c0), (.int c1), (.int c2), (.int c3), (.int c4), (.int c5)]) (.int 0)) (ne_a_x : a ≠ x) (XS : Bf Z n0 G1 G3 U8 I8 TB DE) (gc0 : ¬ (255 : Int32) < c0) (gc1 : ¬ (255 : Int32) < c1) (gc2 : ¬ (255 : Int32) < c2) (gc3 : ¬ (255 : Int32) < c3) (gc4 : ¬ (255 : Int32) < c4) (gc5 : ¬ (255 : Int32) < c5) :
    Af l Z (⟨"java/lang/String", "<init>", "([C)V"⟩ : MethodName) jdk_42_method_3_code 2 none ({ frames := 3, cells := 1, slots := 6, locals := 52 } : Room) n0 #[(.ref x), (.ref a)] h0 (fun v h => ∃ r : Addr, ∃ rk : ClassId, v = none ∧ h0.size ≤ r ∧ Keep h0 h [x] ∧ Exa Z h x "java/lang/String" ∧ Fld Z h x "java/lang/String" "value" "[B" (.ref r) ∧ Fld Z h x "java/lang/String" "coder" "B" (.int 0) ∧ Arv Z h r rk .byte (6 : Int32) ([(.int c0.toInt8.toInt32), (.int c1.toInt8.toInt32), (.int c2.toInt8.toInt32), (.int c3.toInt8.toInt32), (.int c4.toInt8.toInt32), (.int c5.toInt8.toInt32)]) (.int 0) ∧ Exa Z h r "[B") := by
  refine Ar #[.val (.ref x), .val (.ref a)] ?_
  intro p e s m below meth c T0 C S0
  have XS_ := XS
  obtain ⟨O2, O4, P5, rG3, OU, OI, OT, OD, hUI, TBlt, DElt⟩ := XS_
  refine Ac C S0 [(0, .aload_n 0, 1), (1, .aload_n 1, 1), (2, .iconst 0, 1), (3, .aload_n 1, 1)] 4 #[Ab x, Ab a] [.ref a, .int 0, .ref a, .ref x] ?_
  refine Ay C S0 aK (by decide +kernel) ?_
  refine Ac C S0 [(5, .aconst_null, 1)] 6 #[Ab x, Ab a] [.null, .int 6, .int 0, .ref a, .ref x] ?_
  refine Cr C S0 rfl (ow hw 18 rfl) (ow hw 19 rfl) (ow hw 21 rfl) (by decide) (Af.pay (own_s4i6 l Z a0 hw G1 G3 U8 I8 TB DE x a _ _ _ _ _ _ _ h0 n0 z0 ge_x X00 p0 p1 p2 aK ne_a_x XS gc0 gc1 gc2 gc3 gc4 gc5) C 0 (ow hw 21 rfl) (ow hw 9 rfl) (by decide) (by decide)) (fun _ _ _ q => q.2) [.ref a, .int 0, .int 6, .null] [] rfl Dr rfl rfl rfl (Am rfl) (by decide) (by decide) (by decide +kernel) ?_
  rintro T10 h11 v12 L13 S14 ⟨⟨a1, k2, rfl, g3, K4, f5, f6, f7, f8, f9⟩, -⟩
  refine Ct C S14 (by decide +kernel) (by decide) (by decide) ?_
  have o15 : h0.size ≤ a1 := Nat.le_trans (Nat.le_refl _) g3
  exact ⟨a1, k2, rfl, o15, ((Keep.refl _ _).trans K4 (allS (At 0) all0)), f5, f6, f7, f8, f9⟩
theorem own_cq7 (hw : Ao a0 Z) (a : Addr) (ak : ClassId) (b : Addr) (bk : ClassId) (c0 : Int32) (c1 : Int32) (c2 : Int32) (c3 : Int32) (c4 : Int32) (c5 : Int32) (c6 : Int32) (h0 : Heap) (n0 : Nat) (z0 : n0 ≤ h0.size) (ge_b : n0 ≤ b) (aK : Arv Z h0 a ak .char (7 : Int32) ([(.int c0), (.int c1), (.int c2), (.int c3), (.int c4), (.int c5), (.int c6)]) (.int 0)) (bK : Arv Z h0 b bk .byte (7 : Int32) ([(.int 0), (.int 0), (.int 0), (.int 0), (.int 0), (.int 0), (.int 0)]) (.int 0)) (ne_a_b : a ≠ b) (gc0 : ¬ (255 : Int32) < c0) (gc1 : ¬ (255 : Int32) < c1) (gc2 : ¬ (255 : Int32) < c2) (gc3 : ¬ (255 : Int32) < c3) (gc4 : ¬ (255 : Int32) < c4) (gc5 : ¬ (255 : Int32) < c5) (gc6 : ¬ (255 : Int32) < c6) :
    Af l Z (⟨"java/lang/StringUTF16", "compress", "([CI[BII)I"⟩ : MethodName) jdk_52_method_21_code 7 (some .int) ({ frames := 0, cells := 0, slots := 0, locals := 0 } : Room) n0 #[(.ref a), (.int 0), (.ref b), (.int 0), (.int 7)] h0 (fun v h => v = some (.int 7) ∧ Keep h0 h [b] ∧ Arv Z h b bk .byte (7 : Int32) ([(.int c0.toInt8.toInt32), (.int c1.toInt8.toInt32), (.int c2.toInt8.toInt32), (.int c3.toInt8.toInt32), (.int c4.toInt8.toInt32), (.int c5.toInt8.toInt32), (.int c6.toInt8.toInt32)]) (.int 0)) := by
  refine Ar #[.val (.ref a), .val (.int 0), .val (.ref b), .val (.int 0), .val (.int 7), .unset, .unset] ?_
  intro p e s m below meth c T0 C S0
  refine Ac C S0 [(0, .iconst 0, 1), (1, .istore 5, 2), (3, .iload 5, 2), (5, .iload 4, 2), (7, .if_icmp .ge 37, 3), (10, .aload_n 0, 1), (11, .iload_n 1, 1)] 12 #[Ab a, Aa 0, Ab b, Aa 0, Aa 7, Aa 0, .unset] [.int 0, .ref a] ?_
  refine Bg C S0 aK ⟨(by decide), (by decide)⟩ (.int c0) rfl (by decide +kernel) ?_
  refine Ac C S0 [(13, .istore 6, 2), (15, .iload 6, 2), (17, .sipush 255, 3)] 20 #[Ab a, Aa 0, Ab b, Aa 0, Aa 7, Aa 0, Aa c0] [.int 255, .int c0] ?_
  refine Bj C S0 .le 6 26 (fun (q1 : ¬ (255 : Int32) < c0) => ?_) (fun (hq : (255 : Int32) < c0) => False.elim (gc0 hq))
  refine Ac C S0 [(26, .aload_n 2, 1), (27, .iload_n 3, 1), (28, .iload 6, 2), (30, .i2b, 1)] 31 #[Ab a, Aa 0, Ab b, Aa 0, Aa 7, Aa 0, Aa c0] [.int c0.toInt8.toInt32, .int 0, .ref b] ?_
  refine Aj C S0 bK ⟨(by decide), (by decide)⟩ 0 rfl (Am rfl) c0.toInt8.toInt32 (Au _) ge_b (by decide +kernel) ?_
  intro T2 h4 S3 W5 f6
  have f7 : Arv Z h4 b bk .byte (7 : Int32) ([(.int c0.toInt8.toInt32), (.int 0), (.int 0), (.int 0), (.int 0), (.int 0), (.int 0)]) (.int 0) := f6
  refine Ac C S3 [(32, .iinc 1 1, 3), (35, .iinc 3 1, 3), (38, .iinc 5 1, 3), (41, .goto (-38), 3), (3, .iload 5, 2), (5, .iload 4, 2), (7, .if_icmp .ge 37, 3), (10, .aload_n 0, 1), (11, .iload_n 1, 1)] 12 #[Ab a, Aa 1, Ab b, Aa 1, Aa 7, Aa 1, Aa c0] [.int 1, .ref a] ?_
  have f8 := (aK.other W5 ne_a_b)
  refine Bg C S3 f8 ⟨(by decide), (by decide)⟩ (.int c1) rfl (by decide +kernel) ?_
  refine Ac C S3 [(13, .istore 6, 2), (15, .iload 6, 2), (17, .sipush 255, 3)] 20 #[Ab a, Aa 1, Ab b, Aa 1, Aa 7, Aa 1, Aa c1] [.int 255, .int c1] ?_
  refine Bj C S3 .le 6 26 (fun (q9 : ¬ (255 : Int32) < c1) => ?_) (fun (hq : (255 : Int32) < c1) => False.elim (gc1 hq))
  refine Ac C S3 [(26, .aload_n 2, 1), (27, .iload_n 3, 1), (28, .iload 6, 2), (30, .i2b, 1)] 31 #[Ab a, Aa 1, Ab b, Aa 1, Aa 7, Aa 1, Aa c1] [.int c1.toInt8.toInt32, .int 1, .ref b] ?_
  refine Aj C S3 f7 ⟨(by decide), (by decide)⟩ 1 rfl (Am rfl) c1.toInt8.toInt32 (Au _) ge_b (by decide +kernel) ?_
  intro T10 h12 S11 W13 f14
  have f15 : Arv Z h12 b bk .byte (7 : Int32) ([(.int c0.toInt8.toInt32), (.int c1.toInt8.toInt32), (.int 0), (.int 0), (.int 0), (.int 0), (.int 0)]) (.int 0) := f14
  refine Ac C S11 [(32, .iinc 1 1, 3), (35, .iinc 3 1, 3), (38, .iinc 5 1, 3), (41, .goto (-38), 3), (3, .iload 5, 2), (5, .iload 4, 2), (7, .if_icmp .ge 37, 3), (10, .aload_n 0, 1), (11, .iload_n 1, 1)] 12 #[Ab a, Aa 2, Ab b, Aa 2, Aa 7, Aa 2, Aa c1] [.int 2, .ref a] ?_
  have f16 := (f8.other W13 ne_a_b)
  refine Bg C S11 f16 ⟨(by decide), (by decide)⟩ (.int c2) rfl (by decide +kernel) ?_
  refine Ac C S11 [(13, .istore 6, 2), (15, .iload 6, 2), (17, .sipush 255, 3)] 20 #[Ab a, Aa 2, Ab b, Aa 2, Aa 7, Aa 2, Aa c2] [.int 255, .int c2] ?_
  refine Bj C S11 .le 6 26 (fun (q17 : ¬ (255 : Int32) < c2) => ?_) (fun (hq : (255 : Int32) < c2) => False.elim (gc2 hq))
  refine Ac C S11 [(26, .aload_n 2, 1), (27, .iload_n 3, 1), (28, .iload 6, 2), (30, .i2b, 1)] 31 #[Ab a, Aa 2, Ab b, Aa 2, Aa 7, Aa 2, Aa c2] [.int c2.toInt8.toInt32, .int 2, .ref b] ?_
  refine Aj C S11 f15 ⟨(by decide), (by decide)⟩ 2 rfl (Am rfl) c2.toInt8.toInt32 (Au _) ge_b (by decide +kernel) ?_
  intro T18 h20 S19 W21 f22
  have f23 : Arv Z h20 b bk .byte (7 : Int32) ([(.int c0.toInt8.toInt32), (.int c1.toInt8.toInt32), (.int c2.toInt8.toInt32), (.int 0), (.int 0), (.int 0), (.int 0)]) (.int 0) := f22
  refine Ac C S19 [(32, .iinc 1 1, 3), (35, .iinc 3 1, 3), (38, .iinc 5 1, 3), (41, .goto (-38), 3), (3, .iload 5, 2), (5, .iload 4, 2), (7, .if_icmp .ge 37, 3), (10, .aload_n 0, 1), (11, .iload_n 1, 1)] 12 #[Ab a, Aa 3, Ab b, Aa 3, Aa 7, Aa 3, Aa c2] [.int 3, .ref a] ?_
  have f24 := (f16.other W21 ne_a_b)
  refine Bg C S19 f24 ⟨(by decide), (by decide)⟩ (.int c3) rfl (by decide +kernel) ?_
  refine Ac C S19 [(13, .istore 6, 2), (15, .iload 6, 2), (17, .sipush 255, 3)] 20 #[Ab a, Aa 3, Ab b, Aa 3, Aa 7, Aa 3, Aa c3] [.int 255, .int c3] ?_
  refine Bj C S19 .le 6 26 (fun (q25 : ¬ (255 : Int32) < c3) => ?_) (fun (hq : (255 : Int32) < c3) => False.elim (gc3 hq))
  refine Ac C S19 [(26, .aload_n 2, 1), (27, .iload_n 3, 1), (28, .iload 6, 2), (30, .i2b, 1)] 31 #[Ab a, Aa 3, Ab b, Aa 3, Aa 7, Aa 3, Aa c3] [.int c3.toInt8.toInt32, .int 3, .ref b] ?_
  refine Aj C S19 f23 ⟨(by decide), (by decide)⟩ 3 rfl (Am rfl) c3.toInt8.toInt32 (Au _) ge_b (by decide +kernel) ?_
  intro T26 h28 S27 W29 f30
  have f31 : Arv Z h28 b bk .byte (7 : Int32) ([(.int c0.toInt8.toInt32), (.int c1.toInt8.toInt32), (.int c2.toInt8.toInt32), (.int c3.toInt8.toInt32), (.int 0), (.int 0), (.int 0)]) (.int 0) := f30
  refine Ac C S27 [(32, .iinc 1 1, 3), (35, .iinc 3 1, 3), (38, .iinc 5 1, 3), (41, .goto (-38), 3), (3, .iload 5, 2), (5, .iload 4, 2), (7, .if_icmp .ge 37, 3), (10, .aload_n 0, 1), (11, .iload_n 1, 1)] 12 #[Ab a, Aa 4, Ab b, Aa 4, Aa 7, Aa 4, Aa c3] [.int 4, .ref a] ?_
  have f32 := (f24.other W29 ne_a_b)
  refine Bg C S27 f32 ⟨(by decide), (by decide)⟩ (.int c4) rfl (by decide +kernel) ?_
  refine Ac C S27 [(13, .istore 6, 2), (15, .iload 6, 2), (17, .sipush 255, 3)] 20 #[Ab a, Aa 4, Ab b, Aa 4, Aa 7, Aa 4, Aa c4] [.int 255, .int c4] ?_
  refine Bj C S27 .le 6 26 (fun (q33 : ¬ (255 : Int32) < c4) => ?_) (fun (hq : (255 : Int32) < c4) => False.elim (gc4 hq))
  refine Ac C S27 [(26, .aload_n 2, 1), (27, .iload_n 3, 1), (28, .iload 6, 2), (30, .i2b, 1)] 31 #[Ab a, Aa 4, Ab b, Aa 4, Aa 7, Aa 4, Aa c4] [.int c4.toInt8.toInt32, .int 4, .ref b] ?_
  refine Aj C S27 f31 ⟨(by decide), (by decide)⟩ 4 rfl (Am rfl) c4.toInt8.toInt32 (Au _) ge_b (by decide +kernel) ?_
  intro T34 h36 S35 W37 f38
  have f39 : Arv Z h36 b bk .byte (7 : Int32) ([(.int c0.toInt8.toInt32), (.int c1.toInt8.toInt32), (.int c2.toInt8.toInt32), (.int c3.toInt8.toInt32), (.int c4.toInt8.toInt32), (.int 0), (.int 0)]) (.int 0) := f38
  refine Ac C S35 [(32, .iinc 1 1, 3), (35, .iinc 3 1, 3), (38, .iinc 5 1, 3), (41, .goto (-38), 3), (3, .iload 5, 2), (5, .iload 4, 2), (7, .if_icmp .ge 37, 3), (10, .aload_n 0, 1), (11, .iload_n 1, 1)] 12 #[Ab a, Aa 5, Ab b, Aa 5, Aa 7, Aa 5, Aa c4] [.int 5, .ref a] ?_
  have f40 := (f32.other W37 ne_a_b)
  refine Bg C S35 f40 ⟨(by decide), (by decide)⟩ (.int c5) rfl (by decide +kernel) ?_
  refine Ac C S35 [(13, .istore 6, 2), (15, .iload 6, 2), (17, .sipush 255, 3)] 20 #[Ab a, Aa 5, Ab b, Aa 5, Aa 7, Aa 5, Aa c5] [.int 255, .int c5] ?_
  refine Bj C S35 .le 6 26 (fun (q41 : ¬ (255 : Int32) < c5) => ?_) (fun (hq : (255 : Int32) < c5) => False.elim (gc5 hq))
  refine Ac C S35 [(26, .aload_n 2, 1), (27, .iload_n 3, 1), (28, .iload 6, 2), (30, .i2b, 1)] 31 #[Ab a, Aa 5, Ab b, Aa 5, Aa 7, Aa 5, Aa c5] [.int c5.toInt8.toInt32, .int 5, .ref b] ?_
  refine Aj C S35 f39 ⟨(by decide), (by decide)⟩ 5 rfl (Am rfl) c5.toInt8.toInt32 (Au _) ge_b (by decide +kernel) ?_
  intro T42 h44 S43 W45 f46
  have f47 : Arv Z h44 b bk .byte (7 : Int32) ([(.int c0.toInt8.toInt32), (.int c1.toInt8.toInt32), (.int c2.toInt8.toInt32), (.int c3.toInt8.toInt32), (.int c4.toInt8.toInt32), (.int c5.toInt8.toInt32), (.int 0)]) (.int 0) := f46
  refine Ac C S43 [(32, .iinc 1 1, 3), (35, .iinc 3 1, 3), (38, .iinc 5 1, 3), (41, .goto (-38), 3), (3, .iload 5, 2), (5, .iload 4, 2), (7, .if_icmp .ge 37, 3), (10, .aload_n 0, 1), (11, .iload_n 1, 1)] 12 #[Ab a, Aa 6, Ab b, Aa 6, Aa 7, Aa 6, Aa c5] [.int 6, .ref a] ?_
  have f48 := (f40.other W45 ne_a_b)
  refine Bg C S43 f48 ⟨(by decide), (by decide)⟩ (.int c6) rfl (by decide +kernel) ?_
  refine Ac C S43 [(13, .istore 6, 2), (15, .iload 6, 2), (17, .sipush 255, 3)] 20 #[Ab a, Aa 6, Ab b, Aa 6, Aa 7, Aa 6, Aa c6] [.int 255, .int c6] ?_
  refine Bj C S43 .le 6 26 (fun (q49 : ¬ (255 : Int32) < c6) => ?_) (fun (hq : (255 : Int32) < c6) => False.elim (gc6 hq))
  refine Ac C S43 [(26, .aload_n 2, 1), (27, .iload_n 3, 1), (28, .iload 6, 2), (30, .i2b, 1)] 31 #[Ab a, Aa 6, Ab b, Aa 6, Aa 7, Aa 6, Aa c6] [.int c6.toInt8.toInt32, .int 6, .ref b] ?_
  refine Aj C S43 f47 ⟨(by decide), (by decide)⟩ 6 rfl (Am rfl) c6.toInt8.toInt32 (Au _) ge_b (by decide +kernel) ?_
  intro T50 h52 S51 W53 f54
  have f55 : Arv Z h52 b bk .byte (7 : Int32) ([(.int c0.toInt8.toInt32), (.int c1.toInt8.toInt32), (.int c2.toInt8.toInt32), (.int c3.toInt8.toInt32), (.int c4.toInt8.toInt32), (.int c5.toInt8.toInt32), (.int c6.toInt8.toInt32)]) (.int 0) := f54
  refine Ac C S51 [(32, .iinc 1 1, 3), (35, .iinc 3 1, 3), (38, .iinc 5 1, 3), (41, .goto (-38), 3), (3, .iload 5, 2), (5, .iload 4, 2), (7, .if_icmp .ge 37, 3), (44, .iload 4, 2)] 46 #[Ab a, Aa 7, Ab b, Aa 7, Aa 7, Aa 7, Aa c6] [.int 7] ?_
  refine Bq C S51 (by decide +kernel) (by decide) (by decide) ?_
  exact ⟨rfl, ((((((((Keep.refl _ _).wr W5 (At 0)).wr W13 (At 0)).wr W21 (At 0)).wr W29 (At 0)).wr W37 (At 0)).wr W45 (At 0)).wr W53 (At 0)), f55⟩
theorem own_cr7 (hw : Ao a0 Z) (a : Addr) (ak : ClassId) (c0 : Int32) (c1 : Int32) (c2 : Int32) (c3 : Int32) (c4 : Int32) (c5 : Int32) (c6 : Int32) (h0 : Heap) (n0 : Nat) (z0 : n0 ≤ h0.size) (aK : Arv Z h0 a ak .char (7 : Int32) ([(.int c0), (.int c1), (.int c2), (.int c3), (.int c4), (.int c5), (.int c6)]) (.int 0)) (gc0 : ¬ (255 : Int32) < c0) (gc1 : ¬ (255 : Int32) < c1) (gc2 : ¬ (255 : Int32) < c2) (gc3 : ¬ (255 : Int32) < c3) (gc4 : ¬ (255 : Int32) < c4) (gc5 : ¬ (255 : Int32) < c5) (gc6 : ¬ (255 : Int32) < c6) :
    Af l Z (⟨"java/lang/StringUTF16", "compress", "([CII)[B"⟩ : MethodName) jdk_52_method_16_code 6 (some (.array .byte)) ({ frames := 1, cells := 1, slots := 7, locals := 18 } : Room) n0 #[(.ref a), (.int 0), (.int 7)] h0 (fun v h => ∃ r : Addr, ∃ rk : ClassId, v = some (.ref r) ∧ h0.size ≤ r ∧ Keep h0 h [] ∧ Arv Z h r rk .byte (7 : Int32) ([(.int c0.toInt8.toInt32), (.int c1.toInt8.toInt32), (.int c2.toInt8.toInt32), (.int c3.toInt8.toInt32), (.int c4.toInt8.toInt32), (.int c5.toInt8.toInt32), (.int c6.toInt8.toInt32)]) (.int 0) ∧ Exa Z h r "[B") := by
  refine Ar #[.val (.ref a), .val (.int 0), .val (.int 7), .unset, .unset, .unset] ?_
  intro p e s m below meth c T0 C S0
  refine Ac C S0 [(0, .iload_n 2, 1)] 1 #[Ab a, Aa 0, Aa 7, .unset, .unset, .unset] [.int 7] ?_
  refine Co C S0 (aty := .byte) (ad := "[B") (by decide) (ow hw 30 rfl) (by decide +kernel) (by decide) 7 (by decide) (by decide) (by decide) (by decide) ?_
  intro T1 h3 a4 k5 S2 g6 E7 f8 x9
  have f10 : Arv Z h3 a4 k5 .byte (7 : Int32) ([(.int 0), (.int 0), (.int 0), (.int 0), (.int 0), (.int 0), (.int 0)]) (.int 0) := Arv.pad f8 (pad_rep [] (.int 0) 7)
  refine Ac C S2 [(3, .astore_n 3, 1), (4, .aload_n 0, 1), (5, .iload_n 1, 1), (6, .aload_n 3, 1), (7, .iconst 0, 1), (8, .iload_n 2, 1)] 9 #[Ab a, Aa 0, Aa 7, Ab a4, .unset, .unset] [.int 7, .int 0, .ref a4, .int 0, .ref a] ?_
  have f11 := (aK.ext E7)
  have f12 : n0 ≤ h3.size := (Nat.le_trans z0 E7.1)
  have g13 : n0 ≤ a4 := by rw [g6]; exact z0
  have n14 : a ≠ a4 := by rw [g6]; exact Nat.ne_of_lt aK.lt
  refine Ah C S2 hw 31 32 28 33 (own_cq7 l Z a0 hw a _ a4 _ _ _ _ _ _ _ _ h3 n0 f12 g13 f11 f10 n14 gc0 gc1 gc2 gc3 gc4 gc5 gc6) 0 [.ref a, .int 0, .ref a4, .int 0, .int 7] [] Eo ?_
  rintro T17 h18 v19 L20 S21 ⟨⟨rfl, K15, f16⟩, -⟩
  refine Ac C S21 [(12, .istore 4, 2), (14, .iload 4, 2), (16, .iload_n 2, 1), (17, .if_icmp .eq 40, 3), (57, .aload_n 3, 1)] 58 #[Ab a, Aa 0, Aa 7, Ab a4, Aa 7, .unset] [.ref a4] ?_
  refine Br C S21 rfl rfl (by decide +kernel) (by decide) (by decide) ?_
  have o22 : h0.size ≤ a4 := by rw [g6]; exact (Nat.le_refl _)
  have f23 := (x9.keep K15)
  exact ⟨a4, k5, rfl, o22, (((Keep.refl _ _).ext E7).trans K15 (allS (Or.inr o22) all0)), f16, f23⟩
theorem own_cl7 (hw : Ao a0 Z) (b : Addr) (bk : ClassId) (vs : List Value) (h0 : Heap) (n0 : Nat) (z0 : n0 ≤ h0.size) (bK : Arv Z h0 b bk .byte (7 : Int32) vs (.int 0)) :
    Af l Z (⟨"java/lang/StringUTF16", "coderFromArrayLen", "([BI)B"⟩ : MethodName) jdk_52_method_15_code 2 (some .byte) ({ frames := 0, cells := 0, slots := 0, locals := 0 } : Room) n0 #[(.ref b), (.int 7)] h0 (fun v h => v = some (.int 0) ∧ h = h0) := by
  refine Ar #[.val (.ref b), .val (.int 7)] ?_
  intro p e s m below meth c T0 C S0
  refine Ac C S0 [(0, .iload_n 1, 1), (1, .aload_n 0, 1)] 2 #[Ab b, Aa 7] [.ref b, .int 7] ?_
  refine Ay C S0 bK (by decide +kernel) ?_
  refine Ac C S0 [(3, .isub, 1), (4, .bipush 31, 2), (6, .iushr, 1), (7, .i2b, 1)] 8 #[Ab b, Aa 7] [.int ((Jvm.Free.XT.ushr ((7 : Int32) - (7 : Int32)) (31 : Int32)).toInt8.toInt32)] ?_
  rw [show (Jvm.Free.XT.ushr ((7 : Int32) - (7 : Int32)) (31 : Int32)).toInt8.toInt32 = (0 : Int32) from (by decide)]
  refine Dp C S0 (by decide +kernel) rfl (by decide) (by decide) ?_
  exact ⟨rfl, rfl⟩
theorem own_s4i7 (hw : Ao a0 Z) (G1 : Int32) (G3 : Value) (U8 : Addr) (I8 : Addr) (TB : Addr) (DE : Addr) (x : Addr) (a : Addr) (ak : ClassId) (c0 : Int32) (c1 : Int32) (c2 : Int32) (c3 : Int32) (c4 : Int32) (c5 : Int32) (c6 : Int32) (h0 : Heap) (n0 : Nat) (z0 : n0 ≤ h0.size) (ge_x : n0 ≤ x) (X00 : Old Z n0 h0) (p0 : Exa Z h0 x "java/lang/String") (p1 : Fld Z h0 x "java/lang/String" "value" "[B" .null) (p2 : Fld Z h0 x "java/lang/String" "coder" "B" (.int 0)) (aK : Arv Z h0 a ak .char (7 : Int32) ([(.int c0), (.int c1), (.int c2), (.int c3), (.int c4), (.int c5), (.int c6)]) (.int 0)) (ne_a_x : a ≠ x) (XS : Bf Z n0 G1 G3 U8 I8 TB DE) (gc0 : ¬ (255 : Int32) < c0) (gc1 : ¬ (255 : Int32) < c1) (gc2 : ¬ (255 : Int32) < c2) (gc3 : ¬ (255 : Int32) < c3) (gc4 : ¬ (255 : Int32) < c4) (gc5 : ¬ (255 : Int32) < c5) (gc6 : ¬ (255 : Int32) < c6) :
    Af l Z (⟨"java/lang/String", "<init>", "([CIILjava/lang/Void;)V"⟩ : MethodName) jdk_42_method_149_code 6 none ({ frames := 2, cells := 1, slots := 7, locals := 35 } : Room) n0 #[(.ref x), (.ref a), (.int 0), (.int 7), .null] h0 (fun v h => ∃ r : Addr, ∃ rk : ClassId, v = none ∧ h0.size ≤ r ∧ Keep h0 h [x] ∧ Exa Z h x "java/lang/String" ∧ Fld Z h x "java/lang/String" "value" "[B" (.ref r) ∧ Fld Z h x "java/lang/String" "coder" "B" (.int 0) ∧ Arv Z h r rk .byte (7 : Int32) ([(.int c0.toInt8.toInt32), (.int c1.toInt8.toInt32), (.int c2.toInt8.toInt32), (.int c3.toInt8.toInt32), (.int c4.toInt8.toInt32), (.int c5.toInt8.toInt32), (.int c6.toInt8.toInt32)]) (.int 0) ∧ Exa Z h r "[B") := by
  refine Ar #[.val (.ref x), .val (.ref a), .val (.int 0), .val (.int 7), .val .null, .unset] ?_
  intro p e s m below meth c T0 C S0
  have XS_ := XS
  obtain ⟨O2, O4, P5, rG3, OU, OI, OT, OD, hUI, TBlt, DElt⟩ := XS_
  refine Ac C S0 [(0, .aload_n 0, 1)] 1 #[Ab x, Ab a, Aa 0, Aa 7, .val .null, .unset] [.ref x] ?_
  refine Di C S0 (ow hw 22 rfl) (ow hw 23 rfl) (ow hw 24 rfl) rfl (by decide +kernel) (by decide) 0 (Am rfl) (by decide) ?_
  intro T1 S2
  refine Ac C S2 [(4, .iload_n 3, 1), (5, .ifCond .ne 22, 3)] 27 #[Ab x, Ab a, Aa 0, Aa 7, .val .null, .unset] [] ?_
  refine Az C S2 (ow hw 25 rfl) Via.refl (O2.ext X00.2) (by decide +kernel) ?_
  intro T3 S4
  refine Ba C S4 .eq 28 58 (fun (hq : G1 = (0 : Int32)) => False.elim (P5 hq)) (fun (q5 : ¬ G1 = (0 : Int32)) => ?_)
  refine Ac C S4 [(33, .aload_n 1, 1), (34, .iload_n 2, 1), (35, .iload_n 3, 1)] 36 #[Ab x, Ab a, Aa 0, Aa 7, .val .null, .unset] [.int 7, .int 0, .ref a] ?_
  refine Ah C S4 hw 26 27 28 29 (own_cr7 l Z a0 hw a _ _ _ _ _ _ _ _ h0 n0 z0 aK gc0 gc1 gc2 gc3 gc4 gc5 gc6) 0 [.ref a, .int 0, .int 7] [] Ep ?_
  rintro T12 h13 v14 L15 S16 ⟨⟨a6, k7, rfl, g8, K9, f10, f11⟩, -⟩
  refine Ac C S16 [(39, .astore 5, 2), (41, .aload_n 0, 1), (42, .aload 5, 2), (44, .iload_n 3, 1)] 45 #[Ab x, Ab a, Aa 0, Aa 7, .val .null, Ab a6] [.int 7, .ref a6, .ref x] ?_
  have f17 : n0 ≤ h13.size := (Nat.le_trans z0 K9.1)
  refine Ah C S16 hw 34 35 28 36 (own_cl7 l Z a0 hw a6 _ _ h13 n0 f17 f10) 1 [.ref a6, .int 7] [.ref x] Eb ?_
  rintro T19 h20 v21 L22 S23 ⟨⟨rfl, e18⟩, -⟩
  rw [e18] at S23; clear e18
  have f24 := (p2.keep K9 nin0)
  have f25 := (p0.keep K9)
  refine Cs C S23 (ty := .byte) (host := "") (Or.inl (ow hw 37 rfl)) Via.refl f24 f25 (Or.inr ⟨(ow hw 38 rfl), rfl, rfl⟩) (ow hw 8 rfl) Cv rfl rfl ge_x (by decide +kernel) ?_
  intro T26 h28 S27 W29
  have f30 : Fld Z h28 x "java/lang/String" "coder" "B" (.int 0) := Fld.same W29 f24
  refine Ac C S27 [(51, .aload_n 0, 1), (52, .aload 5, 2)] 54 #[Ab x, Ab a, Aa 0, Aa 7, .val .null, Ab a6] [.ref a6, .ref x] ?_
  have f31 := (Fld.other W29 (p1.keep K9 nin0) (Or.inr (Ef hw)))
  have f32 := (Exa.wr W29 f25)
  refine Cs C S27 (ty := (.array .byte)) (host := "") (Or.inl (ow hw 39 rfl)) Via.refl f31 f32 (Or.inr ⟨(ow hw 40 rfl), rfl, rfl⟩) (ow hw 8 rfl) Cw rfl rfl ge_x (by decide +kernel) ?_
  intro T33 h35 S34 W36
  have f37 : Fld Z h35 x "java/lang/String" "value" "[B" (.ref a6) := Fld.same W36 f31
  refine Ct C S34 (by decide +kernel) (by decide) (by decide) ?_
  have o38 : h0.size ≤ a6 := Nat.le_trans (Nat.le_refl _) g8
  have f39 := (Exa.wr W36 f32)
  have f40 := (Fld.other W36 f30 (Or.inr (Eg hw)))
  have n41 : x ≠ a6 := Nat.ne_of_lt (Nat.lt_of_lt_of_le p0.lt g8)
  have f42 := ((f10.other W29 (Ne.symm n41)).other W36 (Ne.symm n41))
  have f43 := (Exa.wr W36 (Exa.wr W29 f11))
  exact ⟨a6, k7, rfl, o38, ((((Keep.refl _ _).trans K9 all0).wr W29 (At 0)).wr W36 (At 0)), f39, f37, f40, f42, f43⟩
theorem own_s1i7 (hw : Ao a0 Z) (G1 : Int32) (G3 : Value) (U8 : Addr) (I8 : Addr) (TB : Addr) (DE : Addr) (x : Addr) (a : Addr) (ak : ClassId) (c0 : Int32) (c1 : Int32) (c2 : Int32) (c3 : Int32) (c4 : Int32) (c5 : Int32) (c6 : Int32) (h0 : Heap) (n0 : Nat) (z0 : n0 ≤ h0.size) (ge_x : n0 ≤ x) (X00 : Old Z n0 h0) (p0 : Exa Z h0 x "java/lang/String") (p1 : Fld Z h0 x "java/lang/String" "value" "[B" .null) (p2 : Fld Z h0 x "java/lang/String" "coder" "B" (.int 0)) (aK : Arv Z h0 a ak .char (7 : Int32) ([(.int c0), (.int c1), (.int c2), (.int c3), (.int c4), (.int c5), (.int c6)]) (.int 0)) (ne_a_x : a ≠ x) (XS : Bf Z n0 G1 G3 U8 I8 TB DE) (gc0 : ¬ (255 : Int32) < c0) (gc1 : ¬ (255 : Int32) < c1) (gc2 : ¬ (255 : Int32) < c2) (gc3 : ¬ (255 : Int32) < c3) (gc4 : ¬ (255 : Int32) < c4) (gc5 : ¬ (255 : Int32) < c5) (gc6 : ¬ (255 : Int32) < c6) :
    Af l Z (⟨"java/lang/String", "<init>", "([C)V"⟩ : MethodName) jdk_42_method_3_code 2 none ({ frames := 3, cells := 1, slots := 7, locals := 52 } : Room) n0 #[(.ref x), (.ref a)] h0 (fun v h => ∃ r : Addr, ∃ rk : ClassId, v = none ∧ h0.size ≤ r ∧ Keep h0 h [x] ∧ Exa Z h x "java/lang/String" ∧ Fld Z h x "java/lang/String" "value" "[B" (.ref r) ∧ Fld Z h x "java/lang/String" "coder" "B" (.int 0) ∧ Arv Z h r rk .byte (7 : Int32) ([(.int c0.toInt8.toInt32), (.int c1.toInt8.toInt32), (.int c2.toInt8.toInt32), (.int c3.toInt8.toInt32), (.int c4.toInt8.toInt32), (.int c5.toInt8.toInt32), (.int c6.toInt8.toInt32)]) (.int 0) ∧ Exa Z h r "[B") := by
  refine Ar #[.val (.ref x), .val (.ref a)] ?_
  intro p e s m below meth c T0 C S0
  have XS_ := XS
  obtain ⟨O2, O4, P5, rG3, OU, OI, OT, OD, hUI, TBlt, DElt⟩ := XS_
  refine Ac C S0 [(0, .aload_n 0, 1), (1, .aload_n 1, 1), (2, .iconst 0, 1), (3, .aload_n 1, 1)] 4 #[Ab x, Ab a] [.ref a, .int 0, .ref a, .ref x] ?_
  refine Ay C S0 aK (by decide +kernel) ?_
  refine Ac C S0 [(5, .aconst_null, 1)] 6 #[Ab x, Ab a] [.null, .int 7, .int 0, .ref a, .ref x] ?_
  refine Cr C S0 rfl (ow hw 18 rfl) (ow hw 19 rfl) (ow hw 21 rfl) (by decide) (Af.pay (own_s4i7 l Z a0 hw G1 G3 U8 I8 TB DE x a _ _ _ _ _ _ _ _ h0 n0 z0 ge_x X00 p0 p1 p2 aK ne_a_x XS gc0 gc1 gc2 gc3 gc4 gc5 gc6) C 0 (ow hw 21 rfl) (ow hw 9 rfl) (by decide) (by decide)) (fun _ _ _ q => q.2) [.ref a, .int 0, .int 7, .null] [] rfl Dr rfl rfl rfl (Am rfl) (by decide) (by decide) (by decide +kernel) ?_
  rintro T10 h11 v12 L13 S14 ⟨⟨a1, k2, rfl, g3, K4, f5, f6, f7, f8, f9⟩, -⟩
  refine Ct C S14 (by decide +kernel) (by decide) (by decide) ?_
  have o15 : h0.size ≤ a1 := Nat.le_trans (Nat.le_refl _) g3
  exact ⟨a1, k2, rfl, o15, ((Keep.refl _ _).trans K4 (allS (At 0) all0)), f5, f6, f7, f8, f9⟩
theorem own_cq8 (hw : Ao a0 Z) (a : Addr) (ak : ClassId) (b : Addr) (bk : ClassId) (c0 : Int32) (c1 : Int32) (c2 : Int32) (c3 : Int32) (c4 : Int32) (c5 : Int32) (c6 : Int32) (c7 : Int32) (h0 : Heap) (n0 : Nat) (z0 : n0 ≤ h0.size) (ge_b : n0 ≤ b) (aK : Arv Z h0 a ak .char (8 : Int32) ([(.int c0), (.int c1), (.int c2), (.int c3), (.int c4), (.int c5), (.int c6), (.int c7)]) (.int 0)) (bK : Arv Z h0 b bk .byte (8 : Int32) ([(.int 0), (.int 0), (.int 0), (.int 0), (.int 0), (.int 0), (.int 0), (.int 0)]) (.int 0)) (ne_a_b : a ≠ b) (gc0 : ¬ (255 : Int32) < c0) (gc1 : ¬ (255 : Int32) < c1) (gc2 : ¬ (255 : Int32) < c2) (gc3 : ¬ (255 : Int32) < c3) (gc4 : ¬ (255 : Int32) < c4) (gc5 : ¬ (255 : Int32) < c5) (gc6 : ¬ (255 : Int32) < c6) (gc7 : ¬ (255 : Int32) < c7) :
    Af l Z (⟨"java/lang/StringUTF16", "compress", "([CI[BII)I"⟩ : MethodName) jdk_52_method_21_code 7 (some .int) ({ frames := 0, cells := 0, slots := 0, locals := 0 } : Room) n0 #[(.ref a), (.int 0), (.ref b), (.int 0), (.int 8)] h0 (fun v h => v = some (.int 8) ∧ Keep h0 h [b] ∧ Arv Z h b bk .byte (8 : Int32) ([(.int c0.toInt8.toInt32), (.int c1.toInt8.toInt32), (.int c2.toInt8.toInt32), (.int c3.toInt8.toInt32), (.int c4.toInt8.toInt32), (.int c5.toInt8.toInt32), (.int c6.toInt8.toInt32), (.int c7.toInt8.toInt32)]) (.int 0)) := by
  refine Ar #[.val (.ref a), .val (.int 0), .val (.ref b), .val (.int 0), .val (.int 8), .unset, .unset] ?_
  intro p e s m below meth c T0 C S0
  refine Ac C S0 [(0, .iconst 0, 1), (1, .istore 5, 2), (3, .iload 5, 2), (5, .iload 4, 2), (7, .if_icmp .ge 37, 3), (10, .aload_n 0, 1), (11, .iload_n 1, 1)] 12 #[Ab a, Aa 0, Ab b, Aa 0, Aa 8, Aa 0, .unset] [.int 0, .ref a] ?_
  refine Bg C S0 aK ⟨(by decide), (by decide)⟩ (.int c0) rfl (by decide +kernel) ?_
  refine Ac C S0 [(13, .istore 6, 2), (15, .iload 6, 2), (17, .sipush 255, 3)] 20 #[Ab a, Aa 0, Ab b, Aa 0, Aa 8, Aa 0, Aa c0] [.int 255, .int c0] ?_
  refine Bj C S0 .le 6 26 (fun (q1 : ¬ (255 : Int32) < c0) => ?_) (fun (hq : (255 : Int32) < c0) => False.elim (gc0 hq))
  refine Ac C S0 [(26, .aload_n 2, 1), (27, .iload_n 3, 1), (28, .iload 6, 2), (30, .i2b, 1)] 31 #[Ab a, Aa 0, Ab b, Aa 0, Aa 8, Aa 0, Aa c0] [.int c0.toInt8.toInt32, .int 0, .ref b] ?_
  refine Aj C S0 bK ⟨(by decide), (by decide)⟩ 0 rfl (Am rfl) c0.toInt8.toInt32 (Au _) ge_b (by decide +kernel) ?_
  intro T2 h4 S3 W5 f6
  have f7 : Arv Z h4 b bk .byte (8 : Int32) ([(.int c0.toInt8.toInt32), (.int 0), (.int 0), (.int 0), (.int 0), (.int 0), (.int 0), (.int 0)]) (.int 0) := f6
  refine Ac C S3 [(32, .iinc 1 1, 3), (35, .iinc 3 1, 3), (38, .iinc 5 1, 3), (41, .goto (-38), 3), (3, .iload 5, 2), (5, .iload 4, 2), (7, .if_icmp .ge 37, 3), (10, .aload_n 0, 1), (11, .iload_n 1, 1)] 12 #[Ab a, Aa 1, Ab b, Aa 1, Aa 8, Aa 1, Aa c0] [.int 1, .ref a] ?_
  have f8 := (aK.other W5 ne_a_b)
  refine Bg C S3 f8 ⟨(by decide), (by decide)⟩ (.int c1) rfl (by decide +kernel) ?_
  refine Ac C S3 [(13, .istore 6, 2), (15, .iload 6, 2), (17, .sipush 255, 3)] 20 #[Ab a, Aa 1, Ab b, Aa 1, Aa 8, Aa 1, Aa c1] [.int 255, .int c1] ?_
  refine Bj C S3 .le 6 26 (fun (q9 : ¬ (255 : Int32) < c1) => ?_) (fun (hq : (255 : Int32) < c1) => False.elim (gc1 hq))
  refine Ac C S3 [(26, .aload_n 2, 1), (27, .iload_n 3, 1), (28, .iload 6, 2), (30, .i2b, 1)] 31 #[Ab a, Aa 1, Ab b, Aa 1, Aa 8, Aa 1, Aa c1] [.int c1.toInt8.toInt32, .int 1, .ref b] ?_
  refine Aj C S3 f7 ⟨(by decide), (by decide)⟩ 1 rfl (Am rfl) c1.toInt8.toInt32 (Au _) ge_b (by decide +kernel) ?_
  intro T10 h12 S11 W13 f14
  have f15 : Arv Z h12 b bk .byte (8 : Int32) ([(.int c0.toInt8.toInt32), (.int c1.toInt8.toInt32), (.int 0), (.int 0), (.int 0), (.int 0), (.int 0), (.int 0)]) (.int 0) := f14
  refine Ac C S11 [(32, .iinc 1 1, 3), (35, .iinc 3 1, 3), (38, .iinc 5 1, 3), (41, .goto (-38), 3), (3, .iload 5, 2), (5, .iload 4, 2), (7, .if_icmp .ge 37, 3), (10, .aload_n 0, 1), (11, .iload_n 1, 1)] 12 #[Ab a, Aa 2, Ab b, Aa 2, Aa 8, Aa 2, Aa c1] [.int 2, .ref a] ?_
  have f16 := (f8.other W13 ne_a_b)
  refine Bg C S11 f16 ⟨(by decide), (by decide)⟩ (.int c2) rfl (by decide +kernel) ?_
  refine Ac C S11 [(13, .istore 6, 2), (15, .iload 6, 2), (17, .sipush 255, 3)] 20 #[Ab a, Aa 2, Ab b, Aa 2, Aa 8, Aa 2, Aa c2] [.int 255, .int c2] ?_
  refine Bj C S11 .le 6 26 (fun (q17 : ¬ (255 : Int32) < c2) => ?_) (fun (hq : (255 : Int32) < c2) => False.elim (gc2 hq))
  refine Ac C S11 [(26, .aload_n 2, 1), (27, .iload_n 3, 1), (28, .iload 6, 2), (30, .i2b, 1)] 31 #[Ab a, Aa 2, Ab b, Aa 2, Aa 8, Aa 2, Aa c2] [.int c2.toInt8.toInt32, .int 2, .ref b] ?_
  refine Aj C S11 f15 ⟨(by decide), (by decide)⟩ 2 rfl (Am rfl) c2.toInt8.toInt32 (Au _) ge_b (by decide +kernel) ?_
  intro T18 h20 S19 W21 f22
  have f23 : Arv Z h20 b bk .byte (8 : Int32) ([(.int c0.toInt8.toInt32), (.int c1.toInt8.toInt32), (.int c2.toInt8.toInt32), (.int 0), (.int 0), (.int 0), (.int 0), (.int 0)]) (.int 0) := f22
  refine Ac C S19 [(32, .iinc 1 1, 3), (35, .iinc 3 1, 3), (38, .iinc 5 1, 3), (41, .goto (-38), 3), (3, .iload 5, 2), (5, .iload 4, 2), (7, .if_icmp .ge 37, 3), (10, .aload_n 0, 1), (11, .iload_n 1, 1)] 12 #[Ab a, Aa 3, Ab b, Aa 3, Aa 8, Aa 3, Aa c2] [.int 3, .ref a] ?_
  have f24 := (f16.other W21 ne_a_b)
  refine Bg C S19 f24 ⟨(by decide), (by decide)⟩ (.int c3) rfl (by decide +kernel) ?_
  refine Ac C S19 [(13, .istore 6, 2), (15, .iload 6, 2), (17, .sipush 255, 3)] 20 #[Ab a, Aa 3, Ab b, Aa 3, Aa 8, Aa 3, Aa c3] [.int 255, .int c3] ?_
  refine Bj C S19 .le 6 26 (fun (q25 : ¬ (255 : Int32) < c3) => ?_) (fun (hq : (255 : Int32) < c3) => False.elim (gc3 hq))
  refine Ac C S19 [(26, .aload_n 2, 1), (27, .iload_n 3, 1), (28, .iload 6, 2), (30, .i2b, 1)] 31 #[Ab a, Aa 3, Ab b, Aa 3, Aa 8, Aa 3, Aa c3] [.int c3.toInt8.toInt32, .int 3, .ref b] ?_
  refine Aj C S19 f23 ⟨(by decide), (by decide)⟩ 3 rfl (Am rfl) c3.toInt8.toInt32 (Au _) ge_b (by decide +kernel) ?_
  intro T26 h28 S27 W29 f30
  have f31 : Arv Z h28 b bk .byte (8 : Int32) ([(.int c0.toInt8.toInt32), (.int c1.toInt8.toInt32), (.int c2.toInt8.toInt32), (.int c3.toInt8.toInt32), (.int 0), (.int 0), (.int 0), (.int 0)]) (.int 0) := f30
  refine Ac C S27 [(32, .iinc 1 1, 3), (35, .iinc 3 1, 3), (38, .iinc 5 1, 3), (41, .goto (-38), 3), (3, .iload 5, 2), (5, .iload 4, 2), (7, .if_icmp .ge 37, 3), (10, .aload_n 0, 1), (11, .iload_n 1, 1)] 12 #[Ab a, Aa 4, Ab b, Aa 4, Aa 8, Aa 4, Aa c3] [.int 4, .ref a] ?_
  have f32 := (f24.other W29 ne_a_b)
  refine Bg C S27 f32 ⟨(by decide), (by decide)⟩ (.int c4) rfl (by decide +kernel) ?_
  refine Ac C S27 [(13, .istore 6, 2), (15, .iload 6, 2), (17, .sipush 255, 3)] 20 #[Ab a, Aa 4, Ab b, Aa 4, Aa 8, Aa 4, Aa c4] [.int 255, .int c4] ?_
  refine Bj C S27 .le 6 26 (fun (q33 : ¬ (255 : Int32) < c4) => ?_) (fun (hq : (255 : Int32) < c4) => False.elim (gc4 hq))
  refine Ac C S27 [(26, .aload_n 2, 1), (27, .iload_n 3, 1), (28, .iload 6, 2), (30, .i2b, 1)] 31 #[Ab a, Aa 4, Ab b, Aa 4, Aa 8, Aa 4, Aa c4] [.int c4.toInt8.toInt32, .int 4, .ref b] ?_
  refine Aj C S27 f31 ⟨(by decide), (by decide)⟩ 4 rfl (Am rfl) c4.toInt8.toInt32 (Au _) ge_b (by decide +kernel) ?_
  intro T34 h36 S35 W37 f38
  have f39 : Arv Z h36 b bk .byte (8 : Int32) ([(.int c0.toInt8.toInt32), (.int c1.toInt8.toInt32), (.int c2.toInt8.toInt32), (.int c3.toInt8.toInt32), (.int c4.toInt8.toInt32), (.int 0), (.int 0), (.int 0)]) (.int 0) := f38
  refine Ac C S35 [(32, .iinc 1 1, 3), (35, .iinc 3 1, 3), (38, .iinc 5 1, 3), (41, .goto (-38), 3), (3, .iload 5, 2), (5, .iload 4, 2), (7, .if_icmp .ge 37, 3), (10, .aload_n 0, 1), (11, .iload_n 1, 1)] 12 #[Ab a, Aa 5, Ab b, Aa 5, Aa 8, Aa 5, Aa c4] [.int 5, .ref a] ?_
  have f40 := (f32.other W37 ne_a_b)
  refine Bg C S35 f40 ⟨(by decide), (by decide)⟩ (.int c5) rfl (by decide +kernel) ?_
  refine Ac C S35 [(13, .istore 6, 2), (15, .iload 6, 2), (17, .sipush 255, 3)] 20 #[Ab a, Aa 5, Ab b, Aa 5, Aa 8, Aa 5, Aa c5] [.int 255, .int c5] ?_
  refine Bj C S35 .le 6 26 (fun (q41 : ¬ (255 : Int32) < c5) => ?_) (fun (hq : (255 : Int32) < c5) => False.elim (gc5 hq))
  refine Ac C S35 [(26, .aload_n 2, 1), (27, .iload_n 3, 1), (28, .iload 6, 2), (30, .i2b, 1)] 31 #[Ab a, Aa 5, Ab b, Aa 5, Aa 8, Aa 5, Aa c5] [.int c5.toInt8.toInt32, .int 5, .ref b] ?_
  refine Aj C S35 f39 ⟨(by decide), (by decide)⟩ 5 rfl (Am rfl) c5.toInt8.toInt32 (Au _) ge_b (by decide +kernel) ?_
  intro T42 h44 S43 W45 f46
  have f47 : Arv Z h44 b bk .byte (8 : Int32) ([(.int c0.toInt8.toInt32), (.int c1.toInt8.toInt32), (.int c2.toInt8.toInt32), (.int c3.toInt8.toInt32), (.int c4.toInt8.toInt32), (.int c5.toInt8.toInt32), (.int 0), (.int 0)]) (.int 0) := f46
  refine Ac C S43 [(32, .iinc 1 1, 3), (35, .iinc 3 1, 3), (38, .iinc 5 1, 3), (41, .goto (-38), 3), (3, .iload 5, 2), (5, .iload 4, 2), (7, .if_icmp .ge 37, 3), (10, .aload_n 0, 1), (11, .iload_n 1, 1)] 12 #[Ab a, Aa 6, Ab b, Aa 6, Aa 8, Aa 6, Aa c5] [.int 6, .ref a] ?_
  have f48 := (f40.other W45 ne_a_b)
  refine Bg C S43 f48 ⟨(by decide), (by decide)⟩ (.int c6) rfl (by decide +kernel) ?_
  refine Ac C S43 [(13, .istore 6, 2), (15, .iload 6, 2), (17, .sipush 255, 3)] 20 #[Ab a, Aa 6, Ab b, Aa 6, Aa 8, Aa 6, Aa c6] [.int 255, .int c6] ?_
  refine Bj C S43 .le 6 26 (fun (q49 : ¬ (255 : Int32) < c6) => ?_) (fun (hq : (255 : Int32) < c6) => False.elim (gc6 hq))
  refine Ac C S43 [(26, .aload_n 2, 1), (27, .iload_n 3, 1), (28, .iload 6, 2), (30, .i2b, 1)] 31 #[Ab a, Aa 6, Ab b, Aa 6, Aa 8, Aa 6, Aa c6] [.int c6.toInt8.toInt32, .int 6, .ref b] ?_
  refine Aj C S43 f47 ⟨(by decide), (by decide)⟩ 6 rfl (Am rfl) c6.toInt8.toInt32 (Au _) ge_b (by decide +kernel) ?_
  intro T50 h52 S51 W53 f54
  have f55 : Arv Z h52 b bk .byte (8 : Int32) ([(.int c0.toInt8.toInt32), (.int c1.toInt8.toInt32), (.int c2.toInt8.toInt32), (.int c3.toInt8.toInt32), (.int c4.toInt8.toInt32), (.int c5.toInt8.toInt32), (.int c6.toInt8.toInt32), (.int 0)]) (.int 0) := f54
  refine Ac C S51 [(32, .iinc 1 1, 3), (35, .iinc 3 1, 3), (38, .iinc 5 1, 3), (41, .goto (-38), 3), (3, .iload 5, 2), (5, .iload 4, 2), (7, .if_icmp .ge 37, 3), (10, .aload_n 0, 1), (11, .iload_n 1, 1)] 12 #[Ab a, Aa 7, Ab b, Aa 7, Aa 8, Aa 7, Aa c6] [.int 7, .ref a] ?_
  have f56 := (f48.other W53 ne_a_b)
  refine Bg C S51 f56 ⟨(by decide), (by decide)⟩ (.int c7) rfl (by decide +kernel) ?_
  refine Ac C S51 [(13, .istore 6, 2), (15, .iload 6, 2), (17, .sipush 255, 3)] 20 #[Ab a, Aa 7, Ab b, Aa 7, Aa 8, Aa 7, Aa c7] [.int 255, .int c7] ?_
  refine Bj C S51 .le 6 26 (fun (q57 : ¬ (255 : Int32) < c7) => ?_) (fun (hq : (255 : Int32) < c7) => False.elim (gc7 hq))
  refine Ac C S51 [(26, .aload_n 2, 1), (27, .iload_n 3, 1), (28, .iload 6, 2), (30, .i2b, 1)] 31 #[Ab a, Aa 7, Ab b, Aa 7, Aa 8, Aa 7, Aa c7] [.int c7.toInt8.toInt32, .int 7, .ref b] ?_
  refine Aj C S51 f55 ⟨(by decide), (by decide)⟩ 7 rfl (Am rfl) c7.toInt8.toInt32 (Au _) ge_b (by decide +kernel) ?_
  intro T58 h60 S59 W61 f62
  have f63 : Arv Z h60 b bk .byte (8 : Int32) ([(.int c0.toInt8.toInt32), (.int c1.toInt8.toInt32), (.int c2.toInt8.toInt32), (.int c3.toInt8.toInt32), (.int c4.toInt8.toInt32), (.int c5.toInt8.toInt32), (.int c6.toInt8.toInt32), (.int c7.toInt8.toInt32)]) (.int 0) := f62
  refine Ac C S59 [(32, .iinc 1 1, 3), (35, .iinc 3 1, 3), (38, .iinc 5 1, 3), (41, .goto (-38), 3), (3, .iload 5, 2), (5, .iload 4, 2), (7, .if_icmp .ge 37, 3), (44, .iload 4, 2)] 46 #[Ab a, Aa 8, Ab b, Aa 8, Aa 8, Aa 8, Aa c7] [.int 8] ?_
  refine Bq C S59 (by decide +kernel) (by decide) (by decide) ?_
  exact ⟨rfl, (((((((((Keep.refl _ _).wr W5 (At 0)).wr W13 (At 0)).wr W21 (At 0)).wr W29 (At 0)).wr W37 (At 0)).wr W45 (At 0)).wr W53 (At 0)).wr W61 (At 0)), f63⟩
theorem own_cr8 (hw : Ao a0 Z) (a : Addr) (ak : ClassId) (c0 : Int32) (c1 : Int32) (c2 : Int32) (c3 : Int32) (c4 : Int32) (c5 : Int32) (c6 : Int32) (c7 : Int32) (h0 : Heap) (n0 : Nat) (z0 : n0 ≤ h0.size) (aK : Arv Z h0 a ak .char (8 : Int32) ([(.int c0), (.int c1), (.int c2), (.int c3), (.int c4), (.int c5), (.int c6), (.int c7)]) (.int 0)) (gc0 : ¬ (255 : Int32) < c0) (gc1 : ¬ (255 : Int32) < c1) (gc2 : ¬ (255 : Int32) < c2) (gc3 : ¬ (255 : Int32) < c3) (gc4 : ¬ (255 : Int32) < c4) (gc5 : ¬ (255 : Int32) < c5) (gc6 : ¬ (255 : Int32) < c6) (gc7 : ¬ (255 : Int32) < c7) :
    Af l Z (⟨"java/lang/StringUTF16", "compress", "([CII)[B"⟩ : MethodName) jdk_52_method_16_code 6 (some (.array .byte)) ({ frames := 1, cells := 1, slots := 8, locals := 18 } : Room) n0 #[(.ref a), (.int 0), (.int 8)] h0 (fun v h => ∃ r : Addr, ∃ rk : ClassId, v = some (.ref r) ∧ h0.size ≤ r ∧ Keep h0 h [] ∧ Arv Z h r rk .byte (8 : Int32) ([(.int c0.toInt8.toInt32), (.int c1.toInt8.toInt32), (.int c2.toInt8.toInt32), (.int c3.toInt8.toInt32), (.int c4.toInt8.toInt32), (.int c5.toInt8.toInt32), (.int c6.toInt8.toInt32), (.int c7.toInt8.toInt32)]) (.int 0) ∧ Exa Z h r "[B") := by
  refine Ar #[.val (.ref a), .val (.int 0), .val (.int 8), .unset, .unset, .unset] ?_
  intro p e s m below meth c T0 C S0
  refine Ac C S0 [(0, .iload_n 2, 1)] 1 #[Ab a, Aa 0, Aa 8, .unset, .unset, .unset] [.int 8] ?_
  refine Co C S0 (aty := .byte) (ad := "[B") (by decide) (ow hw 30 rfl) (by decide +kernel) (by decide) 8 (by decide) (by decide) (by decide) (by decide) ?_
  intro T1 h3 a4 k5 S2 g6 E7 f8 x9
  have f10 : Arv Z h3 a4 k5 .byte (8 : Int32) ([(.int 0), (.int 0), (.int 0), (.int 0), (.int 0), (.int 0), (.int 0), (.int 0)]) (.int 0) := Arv.pad f8 (pad_rep [] (.int 0) 8)
  refine Ac C S2 [(3, .astore_n 3, 1), (4, .aload_n 0, 1), (5, .iload_n 1, 1), (6, .aload_n 3, 1), (7, .iconst 0, 1), (8, .iload_n 2, 1)] 9 #[Ab a, Aa 0, Aa 8, Ab a4, .unset, .unset] [.int 8, .int 0, .ref a4, .int 0, .ref a] ?_
  have f11 := (aK.ext E7)
  have f12 : n0 ≤ h3.size := (Nat.le_trans z0 E7.1)
  have g13 : n0 ≤ a4 := by rw [g6]; exact z0
  have n14 : a ≠ a4 := by rw [g6]; exact Nat.ne_of_lt aK.lt
  refine Ah C S2 hw 31 32 28 33 (own_cq8 l Z a0 hw a _ a4 _ _ _ _ _ _ _ _ _ h3 n0 f12 g13 f11 f10 n14 gc0 gc1 gc2 gc3 gc4 gc5 gc6 gc7) 0 [.ref a, .int 0, .ref a4, .int 0, .int 8] [] Eo ?_
  rintro T17 h18 v19 L20 S21 ⟨⟨rfl, K15, f16⟩, -⟩
  refine Ac C S21 [(12, .istore 4, 2), (14, .iload 4, 2), (16, .iload_n 2, 1), (17, .if_icmp .eq 40, 3), (57, .aload_n 3, 1)] 58 #[Ab a, Aa 0, Aa 8, Ab a4, Aa 8, .unset] [.ref a4] ?_
  refine Br C S21 rfl rfl (by decide +kernel) (by decide) (by decide) ?_
  have o22 : h0.size ≤ a4 := by rw [g6]; exact (Nat.le_refl _)
  have f23 := (x9.keep K15)
  exact ⟨a4, k5, rfl, o22, (((Keep.refl _ _).ext E7).trans K15 (allS (Or.inr o22) all0)), f16, f23⟩
theorem own_cl8 (hw : Ao a0 Z) (b : Addr) (bk : ClassId) (vs : List Value) (h0 : Heap) (n0 : Nat) (z0 : n0 ≤ h0.size) (bK : Arv Z h0 b bk .byte (8 : Int32) vs (.int 0)) :
    Af l Z (⟨"java/lang/StringUTF16", "coderFromArrayLen", "([BI)B"⟩ : MethodName) jdk_52_method_15_code 2 (some .byte) ({ frames := 0, cells := 0, slots := 0, locals := 0 } : Room) n0 #[(.ref b), (.int 8)] h0 (fun v h => v = some (.int 0) ∧ h = h0) := by
  refine Ar #[.val (.ref b), .val (.int 8)] ?_
  intro p e s m below meth c T0 C S0
  refine Ac C S0 [(0, .iload_n 1, 1), (1, .aload_n 0, 1)] 2 #[Ab b, Aa 8] [.ref b, .int 8] ?_
  refine Ay C S0 bK (by decide +kernel) ?_
  refine Ac C S0 [(3, .isub, 1), (4, .bipush 31, 2), (6, .iushr, 1), (7, .i2b, 1)] 8 #[Ab b, Aa 8] [.int ((Jvm.Free.XT.ushr ((8 : Int32) - (8 : Int32)) (31 : Int32)).toInt8.toInt32)] ?_
  rw [show (Jvm.Free.XT.ushr ((8 : Int32) - (8 : Int32)) (31 : Int32)).toInt8.toInt32 = (0 : Int32) from (by decide)]
  refine Dp C S0 (by decide +kernel) rfl (by decide) (by decide) ?_
  exact ⟨rfl, rfl⟩
theorem own_s4i8 (hw : Ao a0 Z) (G1 : Int32) (G3 : Value) (U8 : Addr) (I8 : Addr) (TB : Addr) (DE : Addr) (x : Addr) (a : Addr) (ak : ClassId) (c0 : Int32) (c1 : Int32) (c2 : Int32) (c3 : Int32) (c4 : Int32) (c5 : Int32) (c6 : Int32) (c7 : Int32) (h0 : Heap) (n0 : Nat) (z0 : n0 ≤ h0.size) (ge_x : n0 ≤ x) (X00 : Old Z n0 h0) (p0 : Exa Z h0 x "java/lang/String") (p1 : Fld Z h0 x "java/lang/String" "value" "[B" .null) (p2 : Fld Z h0 x "java/lang/String" "coder" "B" (.int 0)) (aK : Arv Z h0 a ak .char (8 : Int32) ([(.int c0), (.int c1), (.int c2), (.int c3), (.int c4), (.int c5), (.int c6), (.int c7)]) (.int 0)) (ne_a_x : a ≠ x) (XS : Bf Z n0 G1 G3 U8 I8 TB DE) (gc0 : ¬ (255 : Int32) < c0) (gc1 : ¬ (255 : Int32) < c1) (gc2 : ¬ (255 : Int32) < c2) (gc3 : ¬ (255 : Int32) < c3) (gc4 : ¬ (255 : Int32) < c4) (gc5 : ¬ (255 : Int32) < c5) (gc6 : ¬ (255 : Int32) < c6) (gc7 : ¬ (255 : Int32) < c7) :
    Af l Z (⟨"java/lang/String", "<init>", "([CIILjava/lang/Void;)V"⟩ : MethodName) jdk_42_method_149_code 6 none ({ frames := 2, cells := 1, slots := 8, locals := 35 } : Room) n0 #[(.ref x), (.ref a), (.int 0), (.int 8), .null] h0 (fun v h => ∃ r : Addr, ∃ rk : ClassId, v = none ∧ h0.size ≤ r ∧ Keep h0 h [x] ∧ Exa Z h x "java/lang/String" ∧ Fld Z h x "java/lang/String" "value" "[B" (.ref r) ∧ Fld Z h x "java/lang/String" "coder" "B" (.int 0) ∧ Arv Z h r rk .byte (8 : Int32) ([(.int c0.toInt8.toInt32), (.int c1.toInt8.toInt32), (.int c2.toInt8.toInt32), (.int c3.toInt8.toInt32), (.int c4.toInt8.toInt32), (.int c5.toInt8.toInt32), (.int c6.toInt8.toInt32), (.int c7.toInt8.toInt32)]) (.int 0) ∧ Exa Z h r "[B") := by
  refine Ar #[.val (.ref x), .val (.ref a), .val (.int 0), .val (.int 8), .val .null, .unset] ?_
  intro p e s m below meth c T0 C S0
  have XS_ := XS
  obtain ⟨O2, O4, P5, rG3, OU, OI, OT, OD, hUI, TBlt, DElt⟩ := XS_
  refine Ac C S0 [(0, .aload_n 0, 1)] 1 #[Ab x, Ab a, Aa 0, Aa 8, .val .null, .unset] [.ref x] ?_
  refine Di C S0 (ow hw 22 rfl) (ow hw 23 rfl) (ow hw 24 rfl) rfl (by decide +kernel) (by decide) 0 (Am rfl) (by decide) ?_
  intro T1 S2
  refine Ac C S2 [(4, .iload_n 3, 1), (5, .ifCond .ne 22, 3)] 27 #[Ab x, Ab a, Aa 0, Aa 8, .val .null, .unset] [] ?_
  refine Az C S2 (ow hw 25 rfl) Via.refl (O2.ext X00.2) (by decide +kernel) ?_
  intro T3 S4
  refine Ba C S4 .eq 28 58 (fun (hq : G1 = (0 : Int32)) => False.elim (P5 hq)) (fun (q5 : ¬ G1 = (0 : Int32)) => ?_)
  refine Ac C S4 [(33, .aload_n 1, 1), (34, .iload_n 2, 1), (35, .iload_n 3, 1)] 36 #[Ab x, Ab a, Aa 0, Aa 8, .val .null, .unset] [.int 8, .int 0, .ref a] ?_
  refine Ah C S4 hw 26 27 28 29 (own_cr8 l Z a0 hw a _ _ _ _ _ _ _ _ _ h0 n0 z0 aK gc0 gc1 gc2 gc3 gc4 gc5 gc6 gc7) 0 [.ref a, .int 0, .int 8] [] Ep ?_
  rintro T12 h13 v14 L15 S16 ⟨⟨a6, k7, rfl, g8, K9, f10, f11⟩, -⟩
  refine Ac C S16 [(39, .astore 5, 2), (41, .aload_n 0, 1), (42, .aload 5, 2), (44, .iload_n 3, 1)] 45 #[Ab x, Ab a, Aa 0, Aa 8, .val .null, Ab a6] [.int 8, .ref a6, .ref x] ?_
  have f17 : n0 ≤ h13.size := (Nat.le_trans z0 K9.1)
  refine Ah C S16 hw 34 35 28 36 (own_cl8 l Z a0 hw a6 _ _ h13 n0 f17 f10) 1 [.ref a6, .int 8] [.ref x] Eb ?_
  rintro T19 h20 v21 L22 S23 ⟨⟨rfl, e18⟩, -⟩
  rw [e18] at S23; clear e18
  have f24 := (p2.keep K9 nin0)
  have f25 := (p0.keep K9)
  refine Cs C S23 (ty := .byte) (host := "") (Or.inl (ow hw 37 rfl)) Via.refl f24 f25 (Or.inr ⟨(ow hw 38 rfl), rfl, rfl⟩) (ow hw 8 rfl) Cv rfl rfl ge_x (by decide +kernel) ?_
  intro T26 h28 S27 W29
  have f30 : Fld Z h28 x "java/lang/String" "coder" "B" (.int 0) := Fld.same W29 f24
  refine Ac C S27 [(51, .aload_n 0, 1), (52, .aload 5, 2)] 54 #[Ab x, Ab a, Aa 0, Aa 8, .val .null, Ab a6] [.ref a6, .ref x] ?_
  have f31 := (Fld.other W29 (p1.keep K9 nin0) (Or.inr (Ef hw)))
  have f32 := (Exa.wr W29 f25)
  refine Cs C S27 (ty := (.array .byte)) (host := "") (Or.inl (ow hw 39 rfl)) Via.refl f31 f32 (Or.inr ⟨(ow hw 40 rfl), rfl, rfl⟩) (ow hw 8 rfl) Cw rfl rfl ge_x (by decide +kernel) ?_
  intro T33 h35 S34 W36
  have f37 : Fld Z h35 x "java/lang/String" "value" "[B" (.ref a6) := Fld.same W36 f31
  refine Ct C S34 (by decide +kernel) (by decide) (by decide) ?_
  have o38 : h0.size ≤ a6 := Nat.le_trans (Nat.le_refl _) g8
  have f39 := (Exa.wr W36 f32)
  have f40 := (Fld.other W36 f30 (Or.inr (Eg hw)))
  have n41 : x ≠ a6 := Nat.ne_of_lt (Nat.lt_of_lt_of_le p0.lt g8)
  have f42 := ((f10.other W29 (Ne.symm n41)).other W36 (Ne.symm n41))
  have f43 := (Exa.wr W36 (Exa.wr W29 f11))
  exact ⟨a6, k7, rfl, o38, ((((Keep.refl _ _).trans K9 all0).wr W29 (At 0)).wr W36 (At 0)), f39, f37, f40, f42, f43⟩
theorem own_s1i8 (hw : Ao a0 Z) (G1 : Int32) (G3 : Value) (U8 : Addr) (I8 : Addr) (TB : Addr) (DE : Addr) (x : Addr) (a : Addr) (ak : ClassId) (c0 : Int32) (c1 : Int32) (c2 : Int32) (c3 : Int32) (c4 : Int32) (c5 : Int32) (c6 : Int32) (c7 : Int32) (h0 : Heap) (n0 : Nat) (z0 : n0 ≤ h0.size) (ge_x : n0 ≤ x) (X00 : Old Z n0 h0) (p0 : Exa Z h0 x "java/lang/String") (p1 : Fld Z h0 x "java/lang/String" "value" "[B" .null) (p2 : Fld Z h0 x "java/lang/String" "coder" "B" (.int 0)) (aK : Arv Z h0 a ak .char (8 : Int32) ([(.int c0), (.int c1), (.int c2), (.int c3), (.int c4), (.int c5), (.int c6), (.int c7)]) (.int 0)) (ne_a_x : a ≠ x) (XS : Bf Z n0 G1 G3 U8 I8 TB DE) (gc0 : ¬ (255 : Int32) < c0) (gc1 : ¬ (255 : Int32) < c1) (gc2 : ¬ (255 : Int32) < c2) (gc3 : ¬ (255 : Int32) < c3) (gc4 : ¬ (255 : Int32) < c4) (gc5 : ¬ (255 : Int32) < c5) (gc6 : ¬ (255 : Int32) < c6) (gc7 : ¬ (255 : Int32) < c7) :
    Af l Z (⟨"java/lang/String", "<init>", "([C)V"⟩ : MethodName) jdk_42_method_3_code 2 none ({ frames := 3, cells := 1, slots := 8, locals := 52 } : Room) n0 #[(.ref x), (.ref a)] h0 (fun v h => ∃ r : Addr, ∃ rk : ClassId, v = none ∧ h0.size ≤ r ∧ Keep h0 h [x] ∧ Exa Z h x "java/lang/String" ∧ Fld Z h x "java/lang/String" "value" "[B" (.ref r) ∧ Fld Z h x "java/lang/String" "coder" "B" (.int 0) ∧ Arv Z h r rk .byte (8 : Int32) ([(.int c0.toInt8.toInt32), (.int c1.toInt8.toInt32), (.int c2.toInt8.toInt32), (.int c3.toInt8.toInt32), (.int c4.toInt8.toInt32), (.int c5.toInt8.toInt32), (.int c6.toInt8.toInt32), (.int c7.toInt8.toInt32)]) (.int 0) ∧ Exa Z h r "[B") := by
  refine Ar #[.val (.ref x), .val (.ref a)] ?_
  intro p e s m below meth c T0 C S0
  have XS_ := XS
  obtain ⟨O2, O4, P5, rG3, OU, OI, OT, OD, hUI, TBlt, DElt⟩ := XS_
  refine Ac C S0 [(0, .aload_n 0, 1), (1, .aload_n 1, 1), (2, .iconst 0, 1), (3, .aload_n 1, 1)] 4 #[Ab x, Ab a] [.ref a, .int 0, .ref a, .ref x] ?_
  refine Ay C S0 aK (by decide +kernel) ?_
  refine Ac C S0 [(5, .aconst_null, 1)] 6 #[Ab x, Ab a] [.null, .int 8, .int 0, .ref a, .ref x] ?_
  refine Cr C S0 rfl (ow hw 18 rfl) (ow hw 19 rfl) (ow hw 21 rfl) (by decide) (Af.pay (own_s4i8 l Z a0 hw G1 G3 U8 I8 TB DE x a _ _ _ _ _ _ _ _ _ h0 n0 z0 ge_x X00 p0 p1 p2 aK ne_a_x XS gc0 gc1 gc2 gc3 gc4 gc5 gc6 gc7) C 0 (ow hw 21 rfl) (ow hw 9 rfl) (by decide) (by decide)) (fun _ _ _ q => q.2) [.ref a, .int 0, .int 8, .null] [] rfl Dr rfl rfl rfl (Am rfl) (by decide) (by decide) (by decide +kernel) ?_
  rintro T10 h11 v12 L13 S14 ⟨⟨a1, k2, rfl, g3, K4, f5, f6, f7, f8, f9⟩, -⟩
  refine Ct C S14 (by decide +kernel) (by decide) (by decide) ?_
  have o15 : h0.size ≤ a1 := Nat.le_trans (Nat.le_refl _) g3
  exact ⟨a1, k2, rfl, o15, ((Keep.refl _ _).trans K4 (allS (At 0) all0)), f5, f6, f7, f8, f9⟩
theorem own_se4 (hw : Ao a0 Z) (hEL : EW Z a0 Cm) (wS : ∀ a ∈ Bundle.stringAtoms, a.before a0 Z = true) (x : Addr) (y : Addr) (h0 : Heap) (n0 : Nat) (z0 : n0 ≤ h0.size) (ge_x : n0 ≤ x) (p0 : Exa Z h0 x "java/lang/String") (p1 : Fld Z h0 x "java/lang/String" "value" "[B" .null) (p2 : Fld Z h0 x "java/lang/String" "coder" "B" (.int 0)) :
    Cp l Z Cm (⟨"java/lang/String", "<init>", "([CIILjava/lang/Void;)V"⟩ : MethodName) jdk_42_method_149_code 6 none ({ frames := 1, cells := 4, slots := 8, locals := 12 } : Room) n0 #[(.ref x), (.ref y), (.int 0), (.int 0), .null] h0 [x] (fun v h => ∃ t : Addr, ∃ tk : ClassId, v = none ∧ Keep h0 h [x] ∧ Exa Z h x "java/lang/String" ∧ Fld Z h x "java/lang/String" "coder" "B" (.int 0) ∧ Fld Z h x "java/lang/String" "value" "[B" (.ref t) ∧ Arv Z h t tk .byte (0 : Int32) ([]) (.int 0) ∧ Exa Z h t "[B") := by
  refine Da hEL wS (by decide +kernel) #[.val (.ref x), .val (.ref y), .val (.int 0), .val (.int 0), .val .null, .unset] (fun m => by first | (simp [entryFrame, mkF, argsToLocals, Value.category]; done) | rfl) ?_
  intro p e s m below meth c T0 CW SW0
  refine Bv CW SW0 ?_
  intro vm1 C S2 rb3
  refine Ac C S2 [(0, .aload_n 0, 1)] 1 #[Ab x, Ab y, Aa 0, Aa 0, .val .null, .unset] [.ref x] ?_
  refine Di C S2 (ow hw 22 rfl) (ow hw 23 rfl) (ow hw 24 rfl) rfl (by decide +kernel) (by decide) 0 (Am rfl) (by decide) ?_
  intro T4 S5
  refine Ac C S5 [(4, .iload_n 3, 1)] 5 #[Ab x, Ab y, Aa 0, Aa 0, .val .null, .unset] [.int 0] ?_
  refine Ba C S5 .ne 22 27 (fun (hq : ¬ (0 : Int32) = 0) => False.elim (hq rfl)) (fun (q6 : (0 : Int32) = 0) => ?_)
  refine Ac C S5 [(8, .aload_n 0, 1)] 9 #[Ab x, Ab y, Aa 0, Aa 0, .val .null, .unset] [.ref x] ?_
  have SW7 := rb3 _ _ _ _ [] [] S5 (Keep.refl _ _) all0 all0
  refine own_ldcWE CW SW7 (ow hw 153 rfl) (Cn 1) (z := (0 : Int32)) (vs := []) ⟨by decide, by decide⟩ (by decide) rfl (by decide +kernel) 0 (by decide) (by decide) (by decide) (by decide) ?_
  intro T8 h9 a10 b11 k12 SW13 E14 x15 f16 f17 f18 ne19 x20
  refine Bv CW SW13 ?_
  intro vm21 C S22 rb23
  refine Cb C S22 hw 39 f17 ?_
  intro T24 S25
  have f26 := (Fld.ext E14 p1)
  have f27 := (Exa.ext E14 p0)
  refine Cs C S25 (ty := (.array .byte)) (host := "") (Or.inl (ow hw 39 rfl)) Via.refl f26 f27 (Or.inr ⟨(ow hw 40 rfl), rfl, rfl⟩) (ow hw 8 rfl) Cw rfl rfl ge_x (by decide +kernel) ?_
  intro T28 h30 S29 W31
  have f32 : Fld Z h30 x "java/lang/String" "value" "[B" (.ref b11) := Fld.same W31 f26
  refine Ac C S29 [(17, .aload_n 0, 1)] 18 #[Ab x, Ab y, Aa 0, Aa 0, .val .null, .unset] [.ref x] ?_
  have SW33 := rb23 _ _ _ _ [x] [] S29 ((Keep.refl _ _).wr W31 (At 0)) (allS (Cn 0) all0) all0
  refine own_ldcWE CW SW33 (ow hw 153 rfl) (Cn 1) (z := (0 : Int32)) (vs := []) ⟨by decide, by decide⟩ (by decide) rfl (by decide +kernel) 0 (by decide) (by decide) (by decide) (by decide) ?_
  intro T34 h35 a36 b37 k38 SW39 E40 x41 f42 f43 f44 ne45 x46
  refine Bv CW SW39 ?_
  intro vm47 C S48 rb49
  refine Cb C S48 hw 37 f42 ?_
  intro T50 S51
  have f52 := (Fld.ext E40 (Fld.other W31 (Fld.ext E14 p2) (Or.inr (Eg hw))))
  have f53 := (Exa.ext E40 (Exa.wr W31 f27))
  refine Cs C S51 (ty := .byte) (host := "") (Or.inl (ow hw 37 rfl)) Via.refl f52 f53 (Or.inr ⟨(ow hw 38 rfl), rfl, rfl⟩) (ow hw 8 rfl) Cv rfl rfl ge_x (by decide +kernel) ?_
  intro T54 h56 S55 W57
  have f58 : Fld Z h56 x "java/lang/String" "coder" "B" (.int 0) := Fld.same W57 f52
  have SW59 := rb49 _ _ _ _ [x] [] S55 ((Keep.refl _ _).wr W57 (At 0)) (allS (Cn 0) all0) all0
  refine own_retVW CW SW59 (by decide +kernel) (by decide) (by decide) ?_
  have f60 := (Exa.wr W57 f53)
  have f61 := (Fld.other W57 (Fld.ext E40 f32) (Or.inr (Ef hw)))
  have f62 := (((f18.other W31 (Ne.symm (ne19 x (Cn 0)).2)).ext E40).other W57 (Ne.symm (ne19 x (Cn 0)).2))
  have f63 := (Exa.wr W57 (Exa.ext E40 (Exa.wr W31 x20)))
  exact ⟨b11, k12, rfl, (((((Keep.refl _ _).ext E14).wr W31 (At 0)).ext E40).wr W57 (At 0)), f60, f58, f61, f62, f63⟩
theorem own_se1 (hw : Ao a0 Z) (hEL : EW Z a0 Cm) (wS : ∀ a ∈ Bundle.stringAtoms, a.before a0 Z = true) (x : Addr) (y : Addr) (yk : ClassId) (yvs : List Value) (yd : Value) (h0 : Heap) (n0 : Nat) (z0 : n0 ≤ h0.size) (ge_x : n0 ≤ x) (p0 : Exa Z h0 x "java/lang/String") (p1 : Fld Z h0 x "java/lang/String" "value" "[B" .null) (p2 : Fld Z h0 x "java/lang/String" "coder" "B" (.int 0)) (yK : Arv Z h0 y yk .char (0 : Int32) yvs yd) :
    Cp l Z Cm (⟨"java/lang/String", "<init>", "([C)V"⟩ : MethodName) jdk_42_method_3_code 2 none ({ frames := 2, cells := 4, slots := 8, locals := 29 } : Room) n0 #[(.ref x), (.ref y)] h0 [x] (fun v h => ∃ t : Addr, ∃ tk : ClassId, v = none ∧ Keep h0 h [x] ∧ Exa Z h x "java/lang/String" ∧ Fld Z h x "java/lang/String" "coder" "B" (.int 0) ∧ Fld Z h x "java/lang/String" "value" "[B" (.ref t) ∧ Arv Z h t tk .byte (0 : Int32) ([]) (.int 0) ∧ Exa Z h t "[B") := by
  refine Da hEL wS (by decide +kernel) #[.val (.ref x), .val (.ref y)] (fun m => by first | (simp [entryFrame, mkF, argsToLocals, Value.category]; done) | rfl) ?_
  intro p e s m below meth c T0 CW SW0
  refine Bv CW SW0 ?_
  intro vm1 C S2 rb3
  refine Ac C S2 [(0, .aload_n 0, 1), (1, .aload_n 1, 1), (2, .iconst 0, 1), (3, .aload_n 1, 1)] 4 #[Ab x, Ab y] [.ref y, .int 0, .ref y, .ref x] ?_
  refine Ay C S2 yK (by decide +kernel) ?_
  have SW4 := rb3 _ _ _ _ [] [] S2 (Keep.refl _ _) all0 all0
  refine Ac C S2 [(5, .aconst_null, 1)] 6 #[Ab x, Ab y] [.null, .int 0, .int 0, .ref y, .ref x] ?_
  refine own_callIW CW SW4 rfl (ow hw 18 rfl) (ow hw 19 rfl) (ow hw 9 rfl) (ow hw 21 rfl) (by decide) (own_se4 l Z a0 hw hEL wS x y h0 n0 z0 ge_x p0 p1 p2) (allS (Cn 0) all0) 0 (by decide) (by decide) [(.ref y), (.int 0), (.int 0), .null] [] rfl Dr rfl rfl rfl (Am rfl) (by decide) (by decide) (by decide +kernel) ?_
  rintro T18 h19 v20 SW21 hg22 ⟨a5, k6, rfl, K7, f8, f9, f10, f11, f12⟩
  refine own_retVW CW SW21 (by decide +kernel) (by decide) (by decide) ?_
  exact ⟨a5, k6, rfl, ((Keep.refl _ _).trans K7 (allS (At 0) all0)), f8, f9, f10, f11, f12⟩
theorem Bk (hw : Ao a0 Z) (x : Int32) (h0 : Heap) (n0 : Nat) (z0 : n0 ≤ h0.size) (hx : Ag x) :
    Af l Z (⟨"com/example/torrey/torrey/Base64Url", "sextet", "(C)I"⟩ : MethodName) prog_1_method_5_code 1 (some .int) ({ frames := 0, cells := 0, slots := 0, locals := 0 } : Room) n0 #[(.int (Ad x))] h0 (fun v h => v = some (.int x) ∧ h = h0) := by
  refine Ar #[.val (.int (Ad x))] ?_
  intro p e s m below meth c T0 C S0
  have J57 : ∀ (T1 : State), Bi p l e ({ frames := 0, cells := 0, slots := 0, locals := 0 } : Room) s m #[(.int (Ad x))] below meth c n0 T1 h0 0 0 → (Ad x) < (65 : Int32) ∨ (90 : Int32) < (Ad x) → (Ad x) < (97 : Int32) ∨ (122 : Int32) < (Ad x) → (Ad x) < (48 : Int32) ∨ (57 : Int32) < (Ad x) → Ak p e below (Dm s n0 (fun v h => v = some (.int x) ∧ h = h0) ({ frames := 0, cells := 0, slots := 0, locals := 0 } : Room).cells ({ frames := 0, cells := 0, slots := 0, locals := 0 } : Room).slots) T1 (mkF m 57 #[Aa (Ad x)] []) := by
    intro T1 S2 h1 h2 h3
    refine Ac C S2 [(57, .iload_n 0, 1), (58, .bipush 45, 2)] 60 #[Aa (Ad x)] [.int 45, .int (Ad x)] ?_
    refine Bj C S2 .ne 6 66 (fun (q3 : ¬ (Ad x) = (45 : Int32)) => ?_) (fun (q4 : (Ad x) = (45 : Int32)) => ?_)
    · refine Ac C S2 [(66, .iload_n 0, 1), (67, .bipush 95, 2)] 69 #[Aa (Ad x)] [.int 95, .int (Ad x)] ?_
      refine Bj C S2 .ne 6 75 (fun (q5 : ¬ (Ad x) = (95 : Int32)) => ?_) (fun (q6 : (Ad x) = (95 : Int32)) => ?_)
      · exact absurd rfl (own_s6 hx h1 h2 h3 q3 q5)
      · refine Ac C S2 [(72, .bipush 63, 2)] 74 #[Aa (Ad x)] [.int 63] ?_
        refine Bq C S2 (by decide +kernel) (by decide) (by decide) ?_
        exact ⟨(by rw [own_s5 hx q6]), rfl⟩
    · refine Ac C S2 [(63, .bipush 62, 2)] 65 #[Aa (Ad x)] [.int 62] ?_
      refine Bq C S2 (by decide +kernel) (by decide) (by decide) ?_
      exact ⟨(by rw [own_s4 hx q4]), rfl⟩
  have J37 : ∀ (T7 : State), Bi p l e ({ frames := 0, cells := 0, slots := 0, locals := 0 } : Room) s m #[(.int (Ad x))] below meth c n0 T7 h0 0 0 → (Ad x) < (65 : Int32) ∨ (90 : Int32) < (Ad x) → (Ad x) < (97 : Int32) ∨ (122 : Int32) < (Ad x) → Ak p e below (Dm s n0 (fun v h => v = some (.int x) ∧ h = h0) ({ frames := 0, cells := 0, slots := 0, locals := 0 } : Room).cells ({ frames := 0, cells := 0, slots := 0, locals := 0 } : Room).slots) T7 (mkF m 37 #[Aa (Ad x)] []) := by
    intro T7 S8 h1 h2
    refine Ac C S8 [(37, .iload_n 0, 1), (38, .bipush 48, 2)] 40 #[Aa (Ad x)] [.int 48, .int (Ad x)] ?_
    refine Bj C S8 .lt 17 57 (fun (q9 : (Ad x) < (48 : Int32)) => ?_) (fun (q10 : ¬ (Ad x) < (48 : Int32)) => ?_)
    · exact J57 T7 S8 h1 h2 (Or.inl q9)
    · refine Ac C S8 [(43, .iload_n 0, 1), (44, .bipush 57, 2)] 46 #[Aa (Ad x)] [.int 57, .int (Ad x)] ?_
      refine Bj C S8 .gt 11 57 (fun (q11 : (57 : Int32) < (Ad x)) => ?_) (fun (q12 : ¬ (57 : Int32) < (Ad x)) => ?_)
      · exact J57 T7 S8 h1 h2 (Or.inr q11)
      · refine Ac C S8 [(49, .iload_n 0, 1), (50, .bipush 48, 2), (52, .isub, 1), (53, .bipush 52, 2), (55, .iadd, 1)] 56 #[Aa (Ad x)] [.int (((Ad x) - (48 : Int32)) + (52 : Int32))] ?_
        refine Bq C S8 (by decide +kernel) (by decide) (by decide) ?_
        exact ⟨(by rw [own_s3 hx q10 q12]), rfl⟩
  have J17 : ∀ (T13 : State), Bi p l e ({ frames := 0, cells := 0, slots := 0, locals := 0 } : Room) s m #[(.int (Ad x))] below meth c n0 T13 h0 0 0 → (Ad x) < (65 : Int32) ∨ (90 : Int32) < (Ad x) → Ak p e below (Dm s n0 (fun v h => v = some (.int x) ∧ h = h0) ({ frames := 0, cells := 0, slots := 0, locals := 0 } : Room).cells ({ frames := 0, cells := 0, slots := 0, locals := 0 } : Room).slots) T13 (mkF m 17 #[Aa (Ad x)] []) := by
    intro T13 S14 h1
    refine Ac C S14 [(17, .iload_n 0, 1), (18, .bipush 97, 2)] 20 #[Aa (Ad x)] [.int 97, .int (Ad x)] ?_
    refine Bj C S14 .lt 17 37 (fun (q15 : (Ad x) < (97 : Int32)) => ?_) (fun (q16 : ¬ (Ad x) < (97 : Int32)) => ?_)
    · exact J37 T13 S14 h1 (Or.inl q15)
    · refine Ac C S14 [(23, .iload_n 0, 1), (24, .bipush 122, 2)] 26 #[Aa (Ad x)] [.int 122, .int (Ad x)] ?_
      refine Bj C S14 .gt 11 37 (fun (q17 : (122 : Int32) < (Ad x)) => ?_) (fun (q18 : ¬ (122 : Int32) < (Ad x)) => ?_)
      · exact J37 T13 S14 h1 (Or.inr q17)
      · refine Ac C S14 [(29, .iload_n 0, 1), (30, .bipush 97, 2), (32, .isub, 1), (33, .bipush 26, 2), (35, .iadd, 1)] 36 #[Aa (Ad x)] [.int (((Ad x) - (97 : Int32)) + (26 : Int32))] ?_
        refine Bq C S14 (by decide +kernel) (by decide) (by decide) ?_
        exact ⟨(by rw [own_s2 hx q16 q18]), rfl⟩
  refine Ac C S0 [(0, .iload_n 0, 1), (1, .bipush 65, 2)] 3 #[Aa (Ad x)] [.int 65, .int (Ad x)] ?_
  refine Bj C S0 .lt 14 17 (fun (q19 : (Ad x) < (65 : Int32)) => ?_) (fun (q20 : ¬ (Ad x) < (65 : Int32)) => ?_)
  · exact J17 T0 S0  (Or.inl q19)
  · refine Ac C S0 [(6, .iload_n 0, 1), (7, .bipush 90, 2)] 9 #[Aa (Ad x)] [.int 90, .int (Ad x)] ?_
    refine Bj C S0 .gt 8 17 (fun (q21 : (90 : Int32) < (Ad x)) => ?_) (fun (q22 : ¬ (90 : Int32) < (Ad x)) => ?_)
    · exact J17 T0 S0  (Or.inr q21)
    · refine Ac C S0 [(12, .iload_n 0, 1), (13, .bipush 65, 2), (15, .isub, 1)] 16 #[Aa (Ad x)] [.int ((Ad x) - (65 : Int32))] ?_
      refine Bq C S0 (by decide +kernel) (by decide) (by decide) ?_
      exact ⟨(by rw [own_s1 hx q20 q22]), rfl⟩
theorem Eh (hw : Ao a0 Z) (x : Addr) (y : Addr) (h0 : Heap) (n0 : Nat) (z0 : n0 ≤ h0.size) :
    Af l Z (⟨"java/util/Objects", "requireNonNull", "(Ljava/lang/Object;Ljava/lang/String;)Ljava/lang/Object;"⟩ : MethodName) jdk_31_method_11_code 2 (some (.object "java/lang/Object")) ({ frames := 0, cells := 0, slots := 0, locals := 0 } : Room) n0 #[(.ref x), (.ref y)] h0 (fun v h => v = some (.ref x) ∧ h = h0) := by
  refine Ar #[.val (.ref x), .val (.ref y)] ?_
  intro p e s m below meth c T0 C S0
  refine Ac C S0 [(0, .aload_n 0, 1), (1, .ifnonnull 12, 3), (13, .aload_n 0, 1)] 14 #[Ab x, Ab y] [.ref x] ?_
  refine Br C S0 rfl rfl (by decide +kernel) (by decide) (by decide) ?_
  exact ⟨rfl, rfl⟩
theorem own_dl0 (hw : Ao a0 Z) (G1 : Int32) (G3 : Value) (U8 : Addr) (I8 : Addr) (TB : Addr) (TBk : ClassId) (DE : Addr) (b : Addr) (bk : ClassId) (h0 : Heap) (n0 : Nat) (z0 : n0 ≤ h0.size) (X00 : Old Z n0 h0) (TK : Arv Z h0 TB TBk .int 256 Bt (.int 0)) (DEx : Exa Z h0 DE "java/util/Base64$Decoder") (DEu : Fld Z h0 DE "java/util/Base64$Decoder" "isURL" "Z" (.int 1)) (DEm : Fld Z h0 DE "java/util/Base64$Decoder" "isMIME" "Z" (.int 0)) (b0 : Arv Z h0 b bk .byte (0 : Int32) ([]) (.int 0)) (b1 : Exa Z h0 b "[B") (XS : Bf Z n0 G1 G3 U8 I8 TB DE) :
    Af l Z (⟨"java/util/Base64$Decoder", "decodedOutLength", "([BII)I"⟩ : MethodName) jdk_2450_method_7_code 9 (some .int) ({ frames := 0, cells := 0, slots := 0, locals := 0 } : Room) n0 #[(.ref DE), (.ref b), (.int 0), (.int 0)] h0 (fun v h => v = some (.int 0) ∧ h = h0) := by
  refine Ar #[.val (.ref DE), .val (.ref b), .val (.int 0), .val (.int 0), .unset, .unset, .unset, .unset, .unset] ?_
  intro p e s m below meth c T0 C S0
  have XS_ := XS
  obtain ⟨O2, O4, P5, rG3, OU, OI, OT, OD, hUI, TBlt, DElt⟩ := XS_
  refine Ac C S0 [(0, .aload_n 0, 1)] 1 #[Ab DE, Ab b, Aa 0, Aa 0, .unset, .unset, .unset, .unset, .unset] [.ref DE] ?_
  refine Cb C S0 hw 133 DEu ?_
  intro T1 S2
  refine Ac C S2 [(4, .ifCond .eq 9, 3)] 7 #[Ab DE, Ab b, Aa 0, Aa 0, .unset, .unset, .unset, .unset, .unset] [] ?_
  refine Az C S2 (ow hw 135 rfl) Via.refl (OT.ext X00.2) (by decide +kernel) ?_
  intro T3 S4
  refine Ac C S4 [(10, .goto 6, 3), (16, .astore 4, 2), (18, .iconst 0, 1), (19, .istore 5, 2), (21, .iload_n 3, 1), (22, .iload_n 2, 1), (23, .isub, 1), (24, .istore 6, 2), (26, .iload 6, 2), (28, .ifCond .ne 5, 3), (31, .iconst 0, 1)] 32 #[Ab DE, Ab b, Aa 0, Aa 0, Ab TB, Aa 0, Aa 0, .unset, .unset] [.int 0] ?_
  refine Bq C S4 (by decide +kernel) (by decide) (by decide) ?_
  exact ⟨rfl, rfl⟩
theorem own_d00 (hw : Ao a0 Z) (G1 : Int32) (G3 : Value) (U8 : Addr) (I8 : Addr) (TB : Addr) (TBk : ClassId) (DE : Addr) (b : Addr) (bk : ClassId) (d : Addr) (dk : ClassId) (h0 : Heap) (n0 : Nat) (z0 : n0 ≤ h0.size) (ge_d : n0 ≤ d) (X00 : Old Z n0 h0) (TK : Arv Z h0 TB TBk .int 256 Bt (.int 0)) (DEx : Exa Z h0 DE "java/util/Base64$Decoder") (DEu : Fld Z h0 DE "java/util/Base64$Decoder" "isURL" "Z" (.int 1)) (DEm : Fld Z h0 DE "java/util/Base64$Decoder" "isMIME" "Z" (.int 0)) (b0 : Arv Z h0 b bk .byte (0 : Int32) ([]) (.int 0)) (b1 : Exa Z h0 b "[B") (dK : Arv Z h0 d dk .byte (0 : Int32) ([]) (.int 0)) (ne_b_d : b ≠ d) (XS : Bf Z n0 G1 G3 U8 I8 TB DE) :
    Af l Z (⟨"java/util/Base64$Decoder", "decode0", "([BII[B)I"⟩ : MethodName) jdk_2450_method_9_code 11 (some .int) ({ frames := 0, cells := 0, slots := 0, locals := 0 } : Room) n0 #[(.ref DE), (.ref b), (.int 0), (.int 0), (.ref d)] h0 (fun v h => v = some (.int 0) ∧ Keep h0 h [d] ∧ Arv Z h d dk .byte (0 : Int32) ([]) (.int 0)) := by
  refine Ar #[.val (.ref DE), .val (.ref b), .val (.int 0), .val (.int 0), .val (.ref d), .unset, .unset, .unset, .unset, .unset, .unset] ?_
  intro p e s m below meth c T0 C S0
  have XS_ := XS
  obtain ⟨O2, O4, P5, rG3, OU, OI, OT, OD, hUI, TBlt, DElt⟩ := XS_
  refine Ac C S0 [(0, .aload_n 0, 1)] 1 #[Ab DE, Ab b, Aa 0, Aa 0, Ab d, .unset, .unset, .unset, .unset, .unset, .unset] [.ref DE] ?_
  refine Cb C S0 hw 133 DEu ?_
  intro T1 S2
  refine Ac C S2 [(4, .ifCond .eq 9, 3)] 7 #[Ab DE, Ab b, Aa 0, Aa 0, Ab d, .unset, .unset, .unset, .unset, .unset, .unset] [] ?_
  refine Az C S2 (ow hw 135 rfl) Via.refl (OT.ext X00.2) (by decide +kernel) ?_
  intro T3 S4
  refine Ac C S4 [(10, .goto 6, 3), (16, .astore 5, 2), (18, .iconst 0, 1), (19, .istore 6, 2), (21, .iconst 0, 1), (22, .istore 7, 2), (24, .bipush 18, 2), (26, .istore 8, 2), (28, .iload_n 2, 1), (29, .iload_n 3, 1), (30, .if_icmp .ge 251, 3), (281, .iload 8, 2), (283, .bipush 6, 2), (285, .if_icmp .ne 20, 3), (305, .iload 8, 2), (307, .ifCond .ne 34, 3), (341, .iload 8, 2), (343, .bipush 12, 2), (345, .if_icmp .ne 13, 3), (358, .iload_n 2, 1), (359, .iload_n 3, 1), (360, .if_icmp .ge 56, 3), (416, .iload 6, 2)] 418 #[Ab DE, Ab b, Aa 0, Aa 0, Ab d, Ab TB, Aa 0, Aa 0, Aa 18, .unset, .unset] [.int 0] ?_
  refine Bq C S4 (by decide +kernel) (by decide) (by decide) ?_
  exact ⟨rfl, (Keep.refl _ _), dK⟩
theorem Ds : parseMethodDescriptor "([BII)I" = some ⟨[(.array .byte), .int, .int], (some .int)⟩ := by decide +kernel
theorem Dt : parseMethodDescriptor "([BII[B)I" = some ⟨[(.array .byte), .int, .int, (.array .byte)], (some .int)⟩ := by decide +kernel
theorem own_da0 (hw : Ao a0 Z) (G1 : Int32) (G3 : Value) (U8 : Addr) (I8 : Addr) (TB : Addr) (TBk : ClassId) (DE : Addr) (b : Addr) (bk : ClassId) (h0 : Heap) (n0 : Nat) (z0 : n0 ≤ h0.size) (X00 : Old Z n0 h0) (TK : Arv Z h0 TB TBk .int 256 Bt (.int 0)) (DEx : Exa Z h0 DE "java/util/Base64$Decoder") (DEu : Fld Z h0 DE "java/util/Base64$Decoder" "isURL" "Z" (.int 1)) (DEm : Fld Z h0 DE "java/util/Base64$Decoder" "isMIME" "Z" (.int 0)) (b0 : Arv Z h0 b bk .byte (0 : Int32) ([]) (.int 0)) (b1 : Exa Z h0 b "[B") (XS : Bf Z n0 G1 G3 U8 I8 TB DE) :
    Af l Z (⟨"java/util/Base64$Decoder", "decode", "([B)[B"⟩ : MethodName) jdk_2450_method_2_code 4 (some (.array .byte)) ({ frames := 1, cells := 1, slots := 0, locals := 22 } : Room) n0 #[(.ref DE), (.ref b)] h0 (fun v h => ∃ r : Addr, ∃ rk : ClassId, v = some (.ref r) ∧ h0.size ≤ r ∧ Keep h0 h [] ∧ Arv Z h r rk .byte (0 : Int32) ([]) (.int 0)) := by
  refine Ar #[.val (.ref DE), .val (.ref b), .unset, .unset] ?_
  intro p e s m below meth c T0 C S0
  have XS_ := XS
  obtain ⟨O2, O4, P5, rG3, OU, OI, OT, OD, hUI, TBlt, DElt⟩ := XS_
  refine Ac C S0 [(0, .aload_n 0, 1), (1, .aload_n 1, 1), (2, .iconst 0, 1), (3, .aload_n 1, 1)] 4 #[Ab DE, Ab b, .unset, .unset] [.ref b, .int 0, .ref b, .ref DE] ?_
  refine Ay C S0 b0 (by decide +kernel) ?_
  refine Cc C S0 (ow hw 128 rfl) (ow hw 129 rfl) (ow hw 131 rfl) (ow hw 130 rfl) (ow hw 132 rfl) (by decide) (Af.pay (own_dl0 l Z a0 hw G1 G3 U8 I8 TB TBk DE b _ h0 n0 z0 X00 TK DEx DEu DEm b0 b1 XS) C 0 (ow hw 132 rfl) (ow hw 93 rfl) (by decide) (by decide)) (fun _ _ _ q => q.2) DEx [.ref b, .int 0, .int 0] [] rfl Ds rfl rfl rfl (Am rfl) (by decide) (by decide) (by decide +kernel) ?_
  rintro T2 h3 v4 L5 S6 ⟨⟨rfl, e1⟩, -⟩
  rw [e1] at S6; clear e1
  refine Co C S6 (aty := .byte) (ad := "[B") (by decide) (ow hw 30 rfl) (by decide +kernel) (by decide) 0 (by decide) (by decide) (by decide) (by decide) ?_
  intro T7 h9 a10 k11 S8 g12 E13 f14 x15
  have f16 : Arv Z h9 a10 k11 .byte (0 : Int32) ([]) (.int 0) := Arv.pad f14 (pad_rep [] (.int 0) 0)
  refine Ac C S8 [(10, .astore_n 2, 1), (11, .aload_n 0, 1), (12, .aload_n 1, 1), (13, .iconst 0, 1), (14, .aload_n 1, 1)] 15 #[Ab DE, Ab b, Ab a10, .unset] [.ref b, .int 0, .ref b, .ref DE] ?_
  have f17 := (b0.ext E13)
  refine Ay C S8 f17 (by decide +kernel) ?_
  refine Ac C S8 [(16, .aload_n 2, 1)] 17 #[Ab DE, Ab b, Ab a10, .unset] [.ref a10, .int 0, .int 0, .ref b, .ref DE] ?_
  have f18 := (X00.ext E13)
  have f19 := (TK.ext E13)
  have f20 := (Exa.ext E13 DEx)
  have f21 := (Fld.ext E13 DEu)
  have f22 := (Fld.ext E13 DEm)
  have f23 := (Exa.ext E13 b1)
  have f24 : n0 ≤ h9.size := (Nat.le_trans z0 E13.1)
  have g25 : n0 ≤ a10 := by rw [g12]; exact z0
  have n26 : b ≠ a10 := by rw [g12]; exact Nat.ne_of_lt b0.lt
  refine Cc C S8 (ow hw 140 rfl) (ow hw 141 rfl) (ow hw 143 rfl) (ow hw 142 rfl) (ow hw 144 rfl) (by decide) (Af.pay (own_d00 l Z a0 hw G1 G3 U8 I8 TB TBk DE b _ a10 _ h9 n0 f24 g25 f18 f19 f20 f21 f22 f17 f23 f16 n26 XS) C 0 (ow hw 144 rfl) (ow hw 93 rfl) (by decide) (by decide)) (fun _ _ _ q => q.2) f20 [.ref b, .int 0, .int 0, .ref a10] [] rfl Dt rfl rfl rfl (Am rfl) (by decide) (by decide) (by decide +kernel) ?_
  rintro T29 h30 v31 L32 S33 ⟨⟨rfl, K27, f28⟩, -⟩
  refine Ac C S33 [(20, .istore_n 3, 1), (21, .iload_n 3, 1), (22, .aload_n 2, 1)] 23 #[Ab DE, Ab b, Ab a10, Aa 0] [.ref a10, .int 0] ?_
  refine Ay C S33 f28 (by decide +kernel) ?_
  refine Ac C S33 [(24, .if_icmp .eq 9, 3), (33, .aload_n 2, 1)] 34 #[Ab DE, Ab b, Ab a10, Aa 0] [.ref a10] ?_
  refine Br C S33 rfl rfl (by decide +kernel) (by decide) (by decide) ?_
  have o34 : h0.size ≤ a10 := by rw [g12]; exact (Nat.le_refl _)
  exact ⟨a10, k11, rfl, o34, (((Keep.refl _ _).ext E13).trans K27 (allS (Or.inr o34) all0)), f28⟩
theorem Du : parseMethodDescriptor "(Ljava/nio/charset/Charset;)[B" = some ⟨[(.object "java/nio/charset/Charset")], (some (.array .byte))⟩ := by decide +kernel
theorem Dv : parseMethodDescriptor "([B)[B" = some ⟨[(.array .byte)], (some (.array .byte))⟩ := by decide +kernel
theorem own_ds0 (hw : Ao a0 Z) (G1 : Int32) (G3 : Value) (U8 : Addr) (I8 : Addr) (TB : Addr) (TBk : ClassId) (DE : Addr) (x : Addr) (xt : Addr) (xtk : ClassId) (h0 : Heap) (n0 : Nat) (z0 : n0 ≤ h0.size) (X00 : Old Z n0 h0) (TK : Arv Z h0 TB TBk .int 256 Bt (.int 0)) (DEx : Exa Z h0 DE "java/util/Base64$Decoder") (DEu : Fld Z h0 DE "java/util/Base64$Decoder" "isURL" "Z" (.int 1)) (DEm : Fld Z h0 DE "java/util/Base64$Decoder" "isMIME" "Z" (.int 0)) (s0 : Exa Z h0 x "java/lang/String") (s1 : Fld Z h0 x "java/lang/String" "value" "[B" (.ref xt)) (s2 : Fld Z h0 x "java/lang/String" "coder" "B" (.int 0)) (s3 : Arv Z h0 xt xtk .byte (0 : Int32) ([]) (.int 0)) (s4 : Exa Z h0 xt "[B") (XS : Bf Z n0 G1 G3 U8 I8 TB DE) :
    Af l Z (⟨"java/util/Base64$Decoder", "decode", "(Ljava/lang/String;)[B"⟩ : MethodName) jdk_2450_method_3_code 2 (some (.array .byte)) ({ frames := 5, cells := 2, slots := 8, locals := 76 } : Room) n0 #[(.ref DE), (.ref x)] h0 (fun v h => ∃ r : Addr, ∃ rk : ClassId, v = some (.ref r) ∧ h0.size ≤ r ∧ Keep h0 h [] ∧ Arv Z h r rk .byte (0 : Int32) ([]) (.int 0)) := by
  refine Ar #[.val (.ref DE), .val (.ref x)] ?_
  intro p e s m below meth c T0 C S0
  have XS_ := XS
  obtain ⟨O2, O4, P5, rG3, OU, OI, OT, OD, hUI, TBlt, DElt⟩ := XS_
  refine Ac C S0 [(0, .aload_n 0, 1), (1, .aload_n 1, 1)] 2 #[Ab DE, Ab x] [.ref x, .ref DE] ?_
  refine Az C S0 (ow hw 95 rfl) Via.refl (OI.ext X00.2) (by decide +kernel) ?_
  intro T1 S2
  refine Al C S2 hw 97 98 100 100 99 101 9 (Es l Z a0 hw G1 G3 U8 I8 TB DE x _ _ _ _ h0 n0 z0 X00 s0 s1 s2 s3 s4 XS (Am rfl)) 1 s0 [.ref I8] [.ref DE] Du ?_
  rintro T8 h9 v10 L11 S12 ⟨⟨a3, rfl, g4, K5, f6, f7⟩, -⟩
  have f13 := (X00.keep K5 all0)
  have f14 := (TK.keep K5 nin0)
  have f15 := (DEx.keep K5)
  have f16 := (DEu.keep K5 nin0)
  have f17 := (DEm.keep K5 nin0)
  have f18 : n0 ≤ h9.size := (Nat.le_trans z0 K5.1)
  refine Al C S12 hw 123 124 126 126 125 127 93 (own_da0 l Z a0 hw G1 G3 U8 I8 TB TBk DE a3 _ h9 n0 f18 f13 f14 f15 f16 f17 f6 f7 XS) 0 f15 [.ref a3] [] Dv ?_
  rintro T24 h25 v26 L27 S28 ⟨⟨a19, k20, rfl, g21, K22, f23⟩, -⟩
  refine Br C S28 rfl rfl (by decide +kernel) (by decide) (by decide) ?_
  have o30 : h0.size ≤ h9.size := (Nat.le_trans (Nat.le_refl _) K5.1)
  have o29 : h0.size ≤ a19 := Nat.le_trans o30 g21
  exact ⟨a19, k20, rfl, o29, (((Keep.refl _ _).trans K5 all0).trans K22 all0), f23⟩
theorem Dw : parseMethodDescriptor "(Ljava/lang/Object;Ljava/lang/String;)Ljava/lang/Object;" = some ⟨[(.object "java/lang/Object"), (.object "java/lang/String")], (some (.object "java/lang/Object"))⟩ := by decide +kernel
theorem Av : parseMethodDescriptor "()I" = some ⟨[], (some .int)⟩ := by decide +kernel
theorem Cu : parseMethodDescriptor "(Ljava/lang/String;)[B" = some ⟨[(.object "java/lang/String")], (some (.array .byte))⟩ := by decide +kernel
theorem own_du0 (hw : Ao a0 Z) (hEL : EW Z a0 Cm) (wS : ∀ a ∈ Bundle.stringAtoms, a.before a0 Z = true) (G1 : Int32) (G3 : Value) (U8 : Addr) (I8 : Addr) (TB : Addr) (TBk : ClassId) (DE : Addr) (x : Addr) (xt : Addr) (xtk : ClassId) (h0 : Heap) (n0 : Nat) (z0 : n0 ≤ h0.size) (X00 : Old Z n0 h0) (TK : Arv Z h0 TB TBk .int 256 Bt (.int 0)) (DEx : Exa Z h0 DE "java/util/Base64$Decoder") (DEu : Fld Z h0 DE "java/util/Base64$Decoder" "isURL" "Z" (.int 1)) (DEm : Fld Z h0 DE "java/util/Base64$Decoder" "isMIME" "Z" (.int 0)) (s0 : Exa Z h0 x "java/lang/String") (s1 : Fld Z h0 x "java/lang/String" "value" "[B" (.ref xt)) (s2 : Fld Z h0 x "java/lang/String" "coder" "B" (.int 0)) (s3 : Arv Z h0 xt xtk .byte (0 : Int32) ([]) (.int 0)) (s4 : Exa Z h0 xt "[B") (XS : Bf Z n0 G1 G3 U8 I8 TB DE) :
    Cp l Z Cm (⟨"com/example/torrey/torrey/Base64Url", "decode", "(Ljava/lang/String;)[B"⟩ : MethodName) prog_1_method_3_code 3 (some (.array .byte)) ({ frames := 6, cells := 4, slots := 28, locals := 89 } : Room) n0 #[(.ref x)] h0 [] (fun v h => ∃ r : Addr, ∃ rk : ClassId, v = some (.ref r) ∧ h0.size ≤ r ∧ Keep h0 h [] ∧ Arv Z h r rk .byte (0 : Int32) ([]) (.int 0)) := by
  refine Da hEL wS (by decide +kernel) #[.val (.ref x), .unset, .unset] (fun m => by first | (simp [entryFrame, mkF, argsToLocals, Value.category]; done) | rfl) ?_
  intro p e s m below meth c T0 CW SW0
  have XS_ := XS
  obtain ⟨O2, O4, P5, rG3, OU, OI, OT, OD, hUI, TBlt, DElt⟩ := XS_
  refine Bv CW SW0 ?_
  intro vm1 C S2 rb3
  refine Ac C S2 [(0, .aload_n 0, 1)] 1 #[Ab x, .unset, .unset] [.ref x] ?_
  have SW4 := rb3 _ _ _ _ [] [] S2 (Keep.refl _ _) all0 all0
  refine Dq CW SW4 (ow hw 45 rfl) (by decide +kernel) 16 (by decide) (by decide) (by decide) (by decide) ?_
  intro T5 h6 a7 SW8 E9
  have f10 : n0 ≤ h6.size := (Nat.le_trans z0 E9.1)
  refine Bv CW SW8 ?_
  intro vm17 C S18 rb19
  refine Ah C S18 hw 48 49 50 51 (Eh l Z a0 hw x a7 h6 n0 f10) 0 [.ref x, .ref a7] [] Dw ?_
  rintro T12 h13 v14 L15 S16 ⟨⟨rfl, e11⟩, -⟩
  rw [e11] at S16; clear e11
  refine Ac C S16 [(6, .pop, 1), (7, .iconst 0, 1), (8, .istore_n 1, 1), (9, .iload_n 1, 1), (10, .aload_n 0, 1)] 11 #[Ab x, Aa 0, .unset] [.ref x, .int 0] ?_
  have f20 := (X00.ext E9)
  have f21 := (Exa.ext E9 s0)
  have f22 := (Fld.ext E9 s1)
  have f23 := (Fld.ext E9 s2)
  have f24 := (s3.ext E9)
  refine Al C S16 hw 52 53 55 55 54 56 9 (Bb l Z a0 hw G1 G3 x _ _ _ _ h6 n0 f10 f20 f21 f22 f23 f24 O2 O4 P5 rG3) 1 f21 [] [.int 0] Av ?_
  rintro T26 h27 v28 L29 S30 ⟨⟨rfl, e25⟩, -⟩
  rw [e25] at S30; clear e25
  refine Ac C S30 [(14, .if_icmp .ge 39, 3), (53, .aload_n 0, 1)] 54 #[Ab x, Aa 0, .unset] [.ref x] ?_
  refine Al C S30 hw 52 53 55 55 54 56 9 (Bb l Z a0 hw G1 G3 x _ _ _ _ h6 n0 f10 f20 f21 f22 f23 f24 O2 O4 P5 rG3) 0 f21 [] [] Av ?_
  rintro T32 h33 v34 L35 S36 ⟨⟨rfl, e31⟩, -⟩
  rw [e31] at S36; clear e31
  refine Ac C S36 [(57, .iconst 1, 1), (58, .isub, 1), (59, .istore_n 1, 1), (60, .aload_n 0, 1)] 61 #[Ab x, Aa (-1), .unset] [.ref x] ?_
  refine Al C S36 hw 52 53 55 55 54 56 9 (Bb l Z a0 hw G1 G3 x _ _ _ _ h6 n0 f10 f20 f21 f22 f23 f24 O2 O4 P5 rG3) 0 f21 [] [] Av ?_
  rintro T38 h39 v40 L41 S42 ⟨⟨rfl, e37⟩, -⟩
  rw [e37] at S42; clear e37
  refine Ac C S42 [(64, .iconst 4, 1)] 65 #[Ab x, Aa (-1), .unset] [.int 4, .int 0] ?_
  refine Dk C S42 (by decide +kernel) (by decide) ?_
  refine own_tso C S42 (df := 53) (lo := 1) (hi := 3) (offs := #[26, 45, 49]) (len := 26) (by decide +kernel) (by decide) (by decide) 119 (by decide) ?_
  refine Ac C S42 [(119, .iconst 0, 1), (120, .istore_n 2, 1), (121, .iload_n 2, 1), (122, .ifCond .le 39, 3)] 161 #[Ab x, Aa (-1), Aa 0] [] ?_
  refine Az C S42 (ow hw 87 rfl) Via.refl (OD.ext f20.2) (by decide +kernel) ?_
  intro T43 S44
  refine Ac C S44 [(164, .aload_n 0, 1)] 165 #[Ab x, Aa (-1), Aa 0] [.ref x, .ref DE] ?_
  have f45 := (TK.ext E9)
  have f46 := (Exa.ext E9 DEx)
  have f47 := (Fld.ext E9 DEu)
  have f48 := (Fld.ext E9 DEm)
  have f49 := (Exa.ext E9 s4)
  refine Al C S44 hw 89 90 92 92 91 94 93 (own_ds0 l Z a0 hw G1 G3 U8 I8 TB TBk DE x _ _ h6 n0 f10 f20 f45 f46 f47 f48 f21 f22 f23 f24 f49 XS) 0 f46 [.ref x] [] Cu ?_
  rintro T55 h56 v57 L58 S59 ⟨⟨a50, k51, rfl, g52, K53, f54⟩, -⟩
  have o60 : h6.size ≤ a50 := Nat.le_trans (Nat.le_refl _) g52
  have SW61 := rb19 _ _ _ _ [] [a50] S59 ((Keep.refl _ _).trans K53 all0) all0 (allS ⟨o60, f54.lt⟩ all0)
  refine Dg CW SW61 rfl rfl (by decide +kernel) (by decide) (by decide) ?_
  have o63 : h0.size ≤ h6.size := (Nat.le_trans (Nat.le_refl _) E9.1)
  have o62 : h0.size ≤ a50 := Nat.le_trans o63 g52
  exact ⟨a50, k51, rfl, o62, (((Keep.refl _ _).ext E9).trans K53 all0), f54⟩
theorem own_dl2 (hw : Ao a0 Z) (G1 : Int32) (G3 : Value) (U8 : Addr) (I8 : Addr) (TB : Addr) (TBk : ClassId) (DE : Addr) (b : Addr) (bk : ClassId) (x0 : Int32) (x1 : Int32) (h0 : Heap) (n0 : Nat) (z0 : n0 ≤ h0.size) (X00 : Old Z n0 h0) (TK : Arv Z h0 TB TBk .int 256 Bt (.int 0)) (DEx : Exa Z h0 DE "java/util/Base64$Decoder") (DEu : Fld Z h0 DE "java/util/Base64$Decoder" "isURL" "Z" (.int 1)) (DEm : Fld Z h0 DE "java/util/Base64$Decoder" "isMIME" "Z" (.int 0)) (b0 : Arv Z h0 b bk .byte (2 : Int32) ([(.int ((Ad x0).toInt8.toInt32)), (.int ((Ad x1).toInt8.toInt32))]) (.int 0)) (b1 : Exa Z h0 b "[B") (XS : Bf Z n0 G1 G3 U8 I8 TB DE) (hx0 : Ag x0) (hx1 : Ag x1) :
    Af l Z (⟨"java/util/Base64$Decoder", "decodedOutLength", "([BII)I"⟩ : MethodName) jdk_2450_method_7_code 9 (some .int) ({ frames := 0, cells := 0, slots := 0, locals := 0 } : Room) n0 #[(.ref DE), (.ref b), (.int 0), (.int 2)] h0 (fun v h => v = some (.int 1) ∧ h = h0) := by
  refine Ar #[.val (.ref DE), .val (.ref b), .val (.int 0), .val (.int 2), .unset, .unset, .unset, .unset, .unset] ?_
  intro p e s m below meth c T0 C S0
  have XS_ := XS
  obtain ⟨O2, O4, P5, rG3, OU, OI, OT, OD, hUI, TBlt, DElt⟩ := XS_
  refine Ac C S0 [(0, .aload_n 0, 1)] 1 #[Ab DE, Ab b, Aa 0, Aa 2, .unset, .unset, .unset, .unset, .unset] [.ref DE] ?_
  refine Cb C S0 hw 133 DEu ?_
  intro T1 S2
  refine Ac C S2 [(4, .ifCond .eq 9, 3)] 7 #[Ab DE, Ab b, Aa 0, Aa 2, .unset, .unset, .unset, .unset, .unset] [] ?_
  refine Az C S2 (ow hw 135 rfl) Via.refl (OT.ext X00.2) (by decide +kernel) ?_
  intro T3 S4
  refine Ac C S4 [(10, .goto 6, 3), (16, .astore 4, 2), (18, .iconst 0, 1), (19, .istore 5, 2), (21, .iload_n 3, 1), (22, .iload_n 2, 1), (23, .isub, 1), (24, .istore 6, 2), (26, .iload 6, 2), (28, .ifCond .ne 5, 3), (33, .iload 6, 2), (35, .iconst 2, 1), (36, .if_icmp .ge 30, 3), (66, .aload_n 0, 1)] 67 #[Ab DE, Ab b, Aa 0, Aa 2, Ab TB, Aa 0, Aa 2, .unset, .unset] [.ref DE] ?_
  refine Cb C S4 hw 136 DEm ?_
  intro T5 S6
  refine Ac C S6 [(70, .ifCond .eq 71, 3), (141, .aload_n 1, 1), (142, .iload_n 3, 1), (143, .iconst 1, 1), (144, .isub, 1)] 145 #[Ab DE, Ab b, Aa 0, Aa 2, Ab TB, Aa 0, Aa 2, .unset, .unset] [.int 1, .ref b] ?_
  refine As C S6 b0 ⟨(by decide), (by decide)⟩ (.int ((Ad x1).toInt8.toInt32)) rfl (by decide +kernel) ?_
  refine Ac C S6 [(146, .bipush 61, 2)] 148 #[Ab DE, Ab b, Aa 0, Aa 2, Ab TB, Aa 0, Aa 2, .unset, .unset] [.int 61, .int ((Ad x1).toInt8.toInt32)] ?_
  refine Bj C S6 .ne 19 167 (fun (q7 : ¬ ((Ad x1).toInt8.toInt32) = (61 : Int32)) => ?_) (fun (hq : ((Ad x1).toInt8.toInt32) = (61 : Int32)) => False.elim (Em hx1 hq))
  refine Ac C S6 [(167, .iload 5, 2), (169, .ifCond .ne 18, 3), (172, .iload 6, 2), (174, .iconst 3, 1), (175, .iand, 1), (176, .ifCond .eq 11, 3), (179, .iconst 4, 1), (180, .iload 6, 2), (182, .iconst 3, 1), (183, .iand, 1), (184, .isub, 1), (185, .istore 5, 2), (187, .iconst 3, 1), (188, .iload 6, 2), (190, .i2l, 1)] 191 #[Ab DE, Ab b, Aa 0, Aa 2, Ab TB, Aa 2, Aa 2, .unset, .unset] [.long ((2 : Int32).toInt64), .int 3] ?_
  refine Bz C S6 (ow hw 138 rfl) (by decide +kernel) ?_
  refine Ac C S6 [(194, .ladd, 1)] 195 #[Ab DE, Ab b, Aa 0, Aa 2, Ab TB, Aa 2, Aa 2, .unset, .unset] [.long ((2 : Int32).toInt64 + 3), .int 3] ?_
  refine Bz C S6 (ow hw 139 rfl) (by decide +kernel) ?_
  refine Ea C S6 (by decide +kernel) (by decide) ?_
  rw [show (((2 : Int32).toInt64 + 3) / 4) = (1 : Int64) from (by decide)]
  refine Ac C S6 [(199, .l2i, 1), (200, .imul, 1), (201, .iload 5, 2), (203, .isub, 1)] 204 #[Ab DE, Ab b, Aa 0, Aa 2, Ab TB, Aa 2, Aa 2, .unset, .unset] [.int (((3 : Int32) * (1 : Int64).toInt32) - (2 : Int32))] ?_
  rw [show (((3 : Int32) * (1 : Int64).toInt32) - (2 : Int32)) = (1 : Int32) from (by decide)]
  refine Bq C S6 (by decide +kernel) (by decide) (by decide) ?_
  exact ⟨rfl, rfl⟩
theorem own_d02 (hw : Ao a0 Z) (G1 : Int32) (G3 : Value) (U8 : Addr) (I8 : Addr) (TB : Addr) (TBk : ClassId) (DE : Addr) (b : Addr) (bk : ClassId) (d : Addr) (dk : ClassId) (x0 : Int32) (x1 : Int32) (h0 : Heap) (n0 : Nat) (z0 : n0 ≤ h0.size) (ge_d : n0 ≤ d) (X00 : Old Z n0 h0) (TK : Arv Z h0 TB TBk .int 256 Bt (.int 0)) (DEx : Exa Z h0 DE "java/util/Base64$Decoder") (DEu : Fld Z h0 DE "java/util/Base64$Decoder" "isURL" "Z" (.int 1)) (DEm : Fld Z h0 DE "java/util/Base64$Decoder" "isMIME" "Z" (.int 0)) (b0 : Arv Z h0 b bk .byte (2 : Int32) ([(.int ((Ad x0).toInt8.toInt32)), (.int ((Ad x1).toInt8.toInt32))]) (.int 0)) (b1 : Exa Z h0 b "[B") (dK : Arv Z h0 d dk .byte (1 : Int32) ([(.int 0)]) (.int 0)) (ne_b_d : b ≠ d) (XS : Bf Z n0 G1 G3 U8 I8 TB DE) (hx0 : Ag x0) (hx1 : Ag x1) :
    Af l Z (⟨"java/util/Base64$Decoder", "decode0", "([BII[B)I"⟩ : MethodName) jdk_2450_method_9_code 11 (some .int) ({ frames := 0, cells := 0, slots := 0, locals := 0 } : Room) n0 #[(.ref DE), (.ref b), (.int 0), (.int 2), (.ref d)] h0 (fun v h => v = some (.int 1) ∧ Keep h0 h [d] ∧ Arv Z h d dk .byte (1 : Int32) ([(.int (Be (Df x0 x1)))]) (.int 0)) := by
  refine Ar #[.val (.ref DE), .val (.ref b), .val (.int 0), .val (.int 2), .val (.ref d), .unset, .unset, .unset, .unset, .unset, .unset] ?_
  intro p e s m below meth c T0 C S0
  have XS_ := XS
  obtain ⟨O2, O4, P5, rG3, OU, OI, OT, OD, hUI, TBlt, DElt⟩ := XS_
  refine Ac C S0 [(0, .aload_n 0, 1)] 1 #[Ab DE, Ab b, Aa 0, Aa 2, Ab d, .unset, .unset, .unset, .unset, .unset, .unset] [.ref DE] ?_
  refine Cb C S0 hw 133 DEu ?_
  intro T1 S2
  refine Ac C S2 [(4, .ifCond .eq 9, 3)] 7 #[Ab DE, Ab b, Aa 0, Aa 2, Ab d, .unset, .unset, .unset, .unset, .unset, .unset] [] ?_
  refine Az C S2 (ow hw 135 rfl) Via.refl (OT.ext X00.2) (by decide +kernel) ?_
  intro T3 S4
  refine Ac C S4 [(10, .goto 6, 3), (16, .astore 5, 2), (18, .iconst 0, 1), (19, .istore 6, 2), (21, .iconst 0, 1), (22, .istore 7, 2), (24, .bipush 18, 2), (26, .istore 8, 2), (28, .iload_n 2, 1), (29, .iload_n 3, 1), (30, .if_icmp .ge 251, 3), (33, .iload 8, 2), (35, .bipush 18, 2), (37, .if_icmp .ne 53, 3), (40, .iload_n 2, 1), (41, .iload_n 3, 1), (42, .iconst 4, 1), (43, .isub, 1), (44, .if_icmp .ge 46, 3), (90, .iload_n 2, 1), (91, .iload_n 3, 1), (92, .if_icmp .lt 6, 3), (98, .aload_n 1, 1), (99, .iload_n 2, 1), (100, .iinc 2 1, 3)] 103 #[Ab DE, Ab b, Aa 1, Aa 2, Ab d, Ab TB, Aa 0, Aa 0, Aa 18, .unset, .unset] [.int 0, .ref b] ?_
  refine As C S4 b0 ⟨(by decide), (by decide)⟩ (.int ((Ad x0).toInt8.toInt32)) rfl (by decide +kernel) ?_
  refine Ac C S4 [(104, .sipush 255, 3), (107, .iand, 1), (108, .istore 9, 2), (110, .aload 5, 2), (112, .iload 9, 2)] 114 #[Ab DE, Ab b, Aa 1, Aa 2, Ab d, Ab TB, Aa 0, Aa 0, Aa 18, Aa ((Ad x0).toInt8.toInt32 &&& (255 : Int32)), .unset] [.int ((Ad x0).toInt8.toInt32 &&& (255 : Int32)), .ref TB] ?_
  refine Aw C S4 TK (Ce hx0) (.int x0) (Cd hx0) (by decide +kernel) ?_
  refine Ac C S4 [(115, .dup, 1), (116, .istore 9, 2)] 118 #[Ab DE, Ab b, Aa 1, Aa 2, Ab d, Ab TB, Aa 0, Aa 0, Aa 18, Aa x0, .unset] [.int x0] ?_
  refine Ba C S4 .ge 96 214 (fun (q5 : ¬ x0 < (0 : Int32)) => ?_) (fun (hq : x0 < (0 : Int32)) => False.elim (Bp hx0 hq))
  refine Ac C S4 [(214, .iload 7, 2), (216, .iload 9, 2), (218, .iload 8, 2), (220, .ishl, 1), (221, .ior, 1), (222, .istore 7, 2), (224, .iinc 8 (-6), 3), (227, .iload 8, 2), (229, .ifCond .ge 49, 3), (278, .goto (-250), 3), (28, .iload_n 2, 1), (29, .iload_n 3, 1), (30, .if_icmp .ge 251, 3), (33, .iload 8, 2), (35, .bipush 18, 2), (37, .if_icmp .ne 53, 3), (90, .iload_n 2, 1), (91, .iload_n 3, 1), (92, .if_icmp .lt 6, 3), (98, .aload_n 1, 1), (99, .iload_n 2, 1), (100, .iinc 2 1, 3)] 103 #[Ab DE, Ab b, Aa 2, Aa 2, Ab d, Ab TB, Aa 0, Aa ((0 : Int32) ||| (x0 <<< ((18 : Int32) &&& 31))), Aa 12, Aa x0, .unset] [.int 1, .ref b] ?_
  refine As C S4 b0 ⟨(by decide), (by decide)⟩ (.int ((Ad x1).toInt8.toInt32)) rfl (by decide +kernel) ?_
  refine Ac C S4 [(104, .sipush 255, 3), (107, .iand, 1), (108, .istore 9, 2), (110, .aload 5, 2), (112, .iload 9, 2)] 114 #[Ab DE, Ab b, Aa 2, Aa 2, Ab d, Ab TB, Aa 0, Aa ((0 : Int32) ||| (x0 <<< ((18 : Int32) &&& 31))), Aa 12, Aa ((Ad x1).toInt8.toInt32 &&& (255 : Int32)), .unset] [.int ((Ad x1).toInt8.toInt32 &&& (255 : Int32)), .ref TB] ?_
  refine Aw C S4 TK (Ce hx1) (.int x1) (Cd hx1) (by decide +kernel) ?_
  refine Ac C S4 [(115, .dup, 1), (116, .istore 9, 2)] 118 #[Ab DE, Ab b, Aa 2, Aa 2, Ab d, Ab TB, Aa 0, Aa ((0 : Int32) ||| (x0 <<< ((18 : Int32) &&& 31))), Aa 12, Aa x1, .unset] [.int x1] ?_
  refine Ba C S4 .ge 96 214 (fun (q6 : ¬ x1 < (0 : Int32)) => ?_) (fun (hq : x1 < (0 : Int32)) => False.elim (Bp hx1 hq))
  refine Ac C S4 [(214, .iload 7, 2), (216, .iload 9, 2), (218, .iload 8, 2), (220, .ishl, 1), (221, .ior, 1), (222, .istore 7, 2), (224, .iinc 8 (-6), 3), (227, .iload 8, 2), (229, .ifCond .ge 49, 3), (278, .goto (-250), 3), (28, .iload_n 2, 1), (29, .iload_n 3, 1), (30, .if_icmp .ge 251, 3), (281, .iload 8, 2), (283, .bipush 6, 2), (285, .if_icmp .ne 20, 3), (288, .aload 4, 2), (290, .iload 6, 2), (292, .iinc 6 1, 3), (295, .iload 7, 2), (297, .bipush 16, 2), (299, .ishr, 1), (300, .i2b, 1)] 301 #[Ab DE, Ab b, Aa 2, Aa 2, Ab d, Ab TB, Aa 1, Aa (((0 : Int32) ||| (x0 <<< ((18 : Int32) &&& 31))) ||| (x1 <<< ((12 : Int32) &&& 31))), Aa 6, Aa x1, .unset] [.int (((((0 : Int32) ||| (x0 <<< ((18 : Int32) &&& 31))) ||| (x1 <<< ((12 : Int32) &&& 31))) >>> ((16 : Int32) &&& 31)).toInt8.toInt32), .int 0, .ref d] ?_
  refine Aj C S4 dK ⟨(by decide), (by decide)⟩ 0 rfl (Am rfl) (((((0 : Int32) ||| (x0 <<< ((18 : Int32) &&& 31))) ||| (x1 <<< ((12 : Int32) &&& 31))) >>> ((16 : Int32) &&& 31)).toInt8.toInt32) (Au _) ge_d (by decide +kernel) ?_
  intro T7 h9 S8 W10 f11
  have f12 : Arv Z h9 d dk .byte (1 : Int32) ([(.int (((((0 : Int32) ||| (x0 <<< ((18 : Int32) &&& 31))) ||| (x1 <<< ((12 : Int32) &&& 31))) >>> ((16 : Int32) &&& 31)).toInt8.toInt32))]) (.int 0) := f11
  refine Ac C S8 [(302, .goto 56, 3), (358, .iload_n 2, 1), (359, .iload_n 3, 1), (360, .if_icmp .ge 56, 3), (416, .iload 6, 2)] 418 #[Ab DE, Ab b, Aa 2, Aa 2, Ab d, Ab TB, Aa 1, Aa (((0 : Int32) ||| (x0 <<< ((18 : Int32) &&& 31))) ||| (x1 <<< ((12 : Int32) &&& 31))), Aa 6, Aa x1, .unset] [.int 1] ?_
  refine Bq C S8 (by decide +kernel) (by decide) (by decide) ?_
  exact ⟨rfl, ((Keep.refl _ _).wr W10 (At 0)), f12⟩
theorem own_da2 (hw : Ao a0 Z) (G1 : Int32) (G3 : Value) (U8 : Addr) (I8 : Addr) (TB : Addr) (TBk : ClassId) (DE : Addr) (b : Addr) (bk : ClassId) (x0 : Int32) (x1 : Int32) (h0 : Heap) (n0 : Nat) (z0 : n0 ≤ h0.size) (X00 : Old Z n0 h0) (TK : Arv Z h0 TB TBk .int 256 Bt (.int 0)) (DEx : Exa Z h0 DE "java/util/Base64$Decoder") (DEu : Fld Z h0 DE "java/util/Base64$Decoder" "isURL" "Z" (.int 1)) (DEm : Fld Z h0 DE "java/util/Base64$Decoder" "isMIME" "Z" (.int 0)) (b0 : Arv Z h0 b bk .byte (2 : Int32) ([(.int ((Ad x0).toInt8.toInt32)), (.int ((Ad x1).toInt8.toInt32))]) (.int 0)) (b1 : Exa Z h0 b "[B") (XS : Bf Z n0 G1 G3 U8 I8 TB DE) (hx0 : Ag x0) (hx1 : Ag x1) :
    Af l Z (⟨"java/util/Base64$Decoder", "decode", "([B)[B"⟩ : MethodName) jdk_2450_method_2_code 4 (some (.array .byte)) ({ frames := 1, cells := 1, slots := 1, locals := 22 } : Room) n0 #[(.ref DE), (.ref b)] h0 (fun v h => ∃ r : Addr, ∃ rk : ClassId, v = some (.ref r) ∧ h0.size ≤ r ∧ Keep h0 h [] ∧ Arv Z h r rk .byte (1 : Int32) ([(.int (Be (Df x0 x1)))]) (.int 0)) := by
  refine Ar #[.val (.ref DE), .val (.ref b), .unset, .unset] ?_
  intro p e s m below meth c T0 C S0
  have XS_ := XS
  obtain ⟨O2, O4, P5, rG3, OU, OI, OT, OD, hUI, TBlt, DElt⟩ := XS_
  refine Ac C S0 [(0, .aload_n 0, 1), (1, .aload_n 1, 1), (2, .iconst 0, 1), (3, .aload_n 1, 1)] 4 #[Ab DE, Ab b, .unset, .unset] [.ref b, .int 0, .ref b, .ref DE] ?_
  refine Ay C S0 b0 (by decide +kernel) ?_
  refine Cc C S0 (ow hw 128 rfl) (ow hw 129 rfl) (ow hw 131 rfl) (ow hw 130 rfl) (ow hw 132 rfl) (by decide) (Af.pay (own_dl2 l Z a0 hw G1 G3 U8 I8 TB TBk DE b _ x0 x1 h0 n0 z0 X00 TK DEx DEu DEm b0 b1 XS hx0 hx1) C 0 (ow hw 132 rfl) (ow hw 93 rfl) (by decide) (by decide)) (fun _ _ _ q => q.2) DEx [.ref b, .int 0, .int 2] [] rfl Ds rfl rfl rfl (Am rfl) (by decide) (by decide) (by decide +kernel) ?_
  rintro T2 h3 v4 L5 S6 ⟨⟨rfl, e1⟩, -⟩
  rw [e1] at S6; clear e1
  refine Co C S6 (aty := .byte) (ad := "[B") (by decide) (ow hw 30 rfl) (by decide +kernel) (by decide) 1 (by decide) (by decide) (by decide) (by decide) ?_
  intro T7 h9 a10 k11 S8 g12 E13 f14 x15
  have f16 : Arv Z h9 a10 k11 .byte (1 : Int32) ([(.int 0)]) (.int 0) := Arv.pad f14 (pad_rep [] (.int 0) 1)
  refine Ac C S8 [(10, .astore_n 2, 1), (11, .aload_n 0, 1), (12, .aload_n 1, 1), (13, .iconst 0, 1), (14, .aload_n 1, 1)] 15 #[Ab DE, Ab b, Ab a10, .unset] [.ref b, .int 0, .ref b, .ref DE] ?_
  have f17 := (b0.ext E13)
  refine Ay C S8 f17 (by decide +kernel) ?_
  refine Ac C S8 [(16, .aload_n 2, 1)] 17 #[Ab DE, Ab b, Ab a10, .unset] [.ref a10, .int 2, .int 0, .ref b, .ref DE] ?_
  have f18 := (X00.ext E13)
  have f19 := (TK.ext E13)
  have f20 := (Exa.ext E13 DEx)
  have f21 := (Fld.ext E13 DEu)
  have f22 := (Fld.ext E13 DEm)
  have f23 := (Exa.ext E13 b1)
  have f24 : n0 ≤ h9.size := (Nat.le_trans z0 E13.1)
  have g25 : n0 ≤ a10 := by rw [g12]; exact z0
  have n26 : b ≠ a10 := by rw [g12]; exact Nat.ne_of_lt b0.lt
  refine Cc C S8 (ow hw 140 rfl) (ow hw 141 rfl) (ow hw 143 rfl) (ow hw 142 rfl) (ow hw 144 rfl) (by decide) (Af.pay (own_d02 l Z a0 hw G1 G3 U8 I8 TB TBk DE b _ a10 _ x0 x1 h9 n0 f24 g25 f18 f19 f20 f21 f22 f17 f23 f16 n26 XS hx0 hx1) C 0 (ow hw 144 rfl) (ow hw 93 rfl) (by decide) (by decide)) (fun _ _ _ q => q.2) f20 [.ref b, .int 0, .int 2, .ref a10] [] rfl Dt rfl rfl rfl (Am rfl) (by decide) (by decide) (by decide +kernel) ?_
  rintro T29 h30 v31 L32 S33 ⟨⟨rfl, K27, f28⟩, -⟩
  refine Ac C S33 [(20, .istore_n 3, 1), (21, .iload_n 3, 1), (22, .aload_n 2, 1)] 23 #[Ab DE, Ab b, Ab a10, Aa 1] [.ref a10, .int 1] ?_
  refine Ay C S33 f28 (by decide +kernel) ?_
  refine Ac C S33 [(24, .if_icmp .eq 9, 3), (33, .aload_n 2, 1)] 34 #[Ab DE, Ab b, Ab a10, Aa 1] [.ref a10] ?_
  refine Br C S33 rfl rfl (by decide +kernel) (by decide) (by decide) ?_
  have o34 : h0.size ≤ a10 := by rw [g12]; exact (Nat.le_refl _)
  exact ⟨a10, k11, rfl, o34, (((Keep.refl _ _).ext E13).trans K27 (allS (Or.inr o34) all0)), f28⟩
theorem own_ds2 (hw : Ao a0 Z) (G1 : Int32) (G3 : Value) (U8 : Addr) (I8 : Addr) (TB : Addr) (TBk : ClassId) (DE : Addr) (x : Addr) (xt : Addr) (xtk : ClassId) (x0 : Int32) (x1 : Int32) (h0 : Heap) (n0 : Nat) (z0 : n0 ≤ h0.size) (X00 : Old Z n0 h0) (TK : Arv Z h0 TB TBk .int 256 Bt (.int 0)) (DEx : Exa Z h0 DE "java/util/Base64$Decoder") (DEu : Fld Z h0 DE "java/util/Base64$Decoder" "isURL" "Z" (.int 1)) (DEm : Fld Z h0 DE "java/util/Base64$Decoder" "isMIME" "Z" (.int 0)) (s0 : Exa Z h0 x "java/lang/String") (s1 : Fld Z h0 x "java/lang/String" "value" "[B" (.ref xt)) (s2 : Fld Z h0 x "java/lang/String" "coder" "B" (.int 0)) (s3 : Arv Z h0 xt xtk .byte (2 : Int32) ([(.int ((Ad x0).toInt8.toInt32)), (.int ((Ad x1).toInt8.toInt32))]) (.int 0)) (s4 : Exa Z h0 xt "[B") (XS : Bf Z n0 G1 G3 U8 I8 TB DE) (hx0 : Ag x0) (hx1 : Ag x1) :
    Af l Z (⟨"java/util/Base64$Decoder", "decode", "(Ljava/lang/String;)[B"⟩ : MethodName) jdk_2450_method_3_code 2 (some (.array .byte)) ({ frames := 5, cells := 2, slots := 9, locals := 76 } : Room) n0 #[(.ref DE), (.ref x)] h0 (fun v h => ∃ r : Addr, ∃ rk : ClassId, v = some (.ref r) ∧ h0.size ≤ r ∧ Keep h0 h [] ∧ Arv Z h r rk .byte (1 : Int32) ([(.int (Be (Df x0 x1)))]) (.int 0)) := by
  refine Ar #[.val (.ref DE), .val (.ref x)] ?_
  intro p e s m below meth c T0 C S0
  have XS_ := XS
  obtain ⟨O2, O4, P5, rG3, OU, OI, OT, OD, hUI, TBlt, DElt⟩ := XS_
  refine Ac C S0 [(0, .aload_n 0, 1), (1, .aload_n 1, 1)] 2 #[Ab DE, Ab x] [.ref x, .ref DE] ?_
  refine Az C S0 (ow hw 95 rfl) Via.refl (OI.ext X00.2) (by decide +kernel) ?_
  intro T1 S2
  refine Al C S2 hw 97 98 100 100 99 101 9 (Es l Z a0 hw G1 G3 U8 I8 TB DE x _ _ _ _ h0 n0 z0 X00 s0 s1 s2 s3 s4 XS (Am rfl)) 1 s0 [.ref I8] [.ref DE] Du ?_
  rintro T8 h9 v10 L11 S12 ⟨⟨a3, rfl, g4, K5, f6, f7⟩, -⟩
  have f13 := (X00.keep K5 all0)
  have f14 := (TK.keep K5 nin0)
  have f15 := (DEx.keep K5)
  have f16 := (DEu.keep K5 nin0)
  have f17 := (DEm.keep K5 nin0)
  have f18 : n0 ≤ h9.size := (Nat.le_trans z0 K5.1)
  refine Al C S12 hw 123 124 126 126 125 127 93 (own_da2 l Z a0 hw G1 G3 U8 I8 TB TBk DE a3 _ x0 x1 h9 n0 f18 f13 f14 f15 f16 f17 f6 f7 XS hx0 hx1) 0 f15 [.ref a3] [] Dv ?_
  rintro T24 h25 v26 L27 S28 ⟨⟨a19, k20, rfl, g21, K22, f23⟩, -⟩
  refine Br C S28 rfl rfl (by decide +kernel) (by decide) (by decide) ?_
  have o30 : h0.size ≤ h9.size := (Nat.le_trans (Nat.le_refl _) K5.1)
  have o29 : h0.size ≤ a19 := Nat.le_trans o30 g21
  exact ⟨a19, k20, rfl, o29, (((Keep.refl _ _).trans K5 all0).trans K22 all0), f23⟩
theorem Bl : parseMethodDescriptor "(I)C" = some ⟨[.int], (some .char)⟩ := by decide +kernel
theorem Bm : parseMethodDescriptor "(C)I" = some ⟨[.char], (some .int)⟩ := by decide +kernel
theorem own_du2 (hw : Ao a0 Z) (hEL : EW Z a0 Cm) (wS : ∀ a ∈ Bundle.stringAtoms, a.before a0 Z = true) (G1 : Int32) (G3 : Value) (U8 : Addr) (I8 : Addr) (TB : Addr) (TBk : ClassId) (DE : Addr) (x : Addr) (xt : Addr) (xtk : ClassId) (x0 : Int32) (x1 : Int32) (h0 : Heap) (n0 : Nat) (z0 : n0 ≤ h0.size) (X00 : Old Z n0 h0) (TK : Arv Z h0 TB TBk .int 256 Bt (.int 0)) (DEx : Exa Z h0 DE "java/util/Base64$Decoder") (DEu : Fld Z h0 DE "java/util/Base64$Decoder" "isURL" "Z" (.int 1)) (DEm : Fld Z h0 DE "java/util/Base64$Decoder" "isMIME" "Z" (.int 0)) (s0 : Exa Z h0 x "java/lang/String") (s1 : Fld Z h0 x "java/lang/String" "value" "[B" (.ref xt)) (s2 : Fld Z h0 x "java/lang/String" "coder" "B" (.int 0)) (s3 : Arv Z h0 xt xtk .byte (2 : Int32) ([(.int ((Ad x0).toInt8.toInt32)), (.int ((Ad x1).toInt8.toInt32))]) (.int 0)) (s4 : Exa Z h0 xt "[B") (XS : Bf Z n0 G1 G3 U8 I8 TB DE) (hx0 : Ag x0) (hx1 : Ag x1) (hs : (x1 &&& (((1 : Int32) <<< ((4 : Int32) &&& 31)) - (1 : Int32))) = (0 : Int32)) :
    Cp l Z Cm (⟨"com/example/torrey/torrey/Base64Url", "decode", "(Ljava/lang/String;)[B"⟩ : MethodName) prog_1_method_3_code 3 (some (.array .byte)) ({ frames := 6, cells := 4, slots := 29, locals := 89 } : Room) n0 #[(.ref x)] h0 [] (fun v h => ∃ r : Addr, ∃ rk : ClassId, v = some (.ref r) ∧ h0.size ≤ r ∧ Keep h0 h [] ∧ Arv Z h r rk .byte (1 : Int32) ([(.int (Be (Df x0 x1)))]) (.int 0)) := by
  refine Da hEL wS (by decide +kernel) #[.val (.ref x), .unset, .unset] (fun m => by first | (simp [entryFrame, mkF, argsToLocals, Value.category]; done) | rfl) ?_
  intro p e s m below meth c T0 CW SW0
  have XS_ := XS
  obtain ⟨O2, O4, P5, rG3, OU, OI, OT, OD, hUI, TBlt, DElt⟩ := XS_
  refine Bv CW SW0 ?_
  intro vm1 C S2 rb3
  refine Ac C S2 [(0, .aload_n 0, 1)] 1 #[Ab x, .unset, .unset] [.ref x] ?_
  have SW4 := rb3 _ _ _ _ [] [] S2 (Keep.refl _ _) all0 all0
  refine Dq CW SW4 (ow hw 45 rfl) (by decide +kernel) 16 (by decide) (by decide) (by decide) (by decide) ?_
  intro T5 h6 a7 SW8 E9
  have f10 : n0 ≤ h6.size := (Nat.le_trans z0 E9.1)
  refine Bv CW SW8 ?_
  intro vm17 C S18 rb19
  refine Ah C S18 hw 48 49 50 51 (Eh l Z a0 hw x a7 h6 n0 f10) 0 [.ref x, .ref a7] [] Dw ?_
  rintro T12 h13 v14 L15 S16 ⟨⟨rfl, e11⟩, -⟩
  rw [e11] at S16; clear e11
  refine Ac C S16 [(6, .pop, 1), (7, .iconst 0, 1), (8, .istore_n 1, 1), (9, .iload_n 1, 1), (10, .aload_n 0, 1)] 11 #[Ab x, Aa 0, .unset] [.ref x, .int 0] ?_
  have f20 := (X00.ext E9)
  have f21 := (Exa.ext E9 s0)
  have f22 := (Fld.ext E9 s1)
  have f23 := (Fld.ext E9 s2)
  have f24 := (s3.ext E9)
  refine Al C S16 hw 52 53 55 55 54 56 9 (Bb l Z a0 hw G1 G3 x _ _ _ _ h6 n0 f10 f20 f21 f22 f23 f24 O2 O4 P5 rG3) 1 f21 [] [.int 0] Av ?_
  rintro T26 h27 v28 L29 S30 ⟨⟨rfl, e25⟩, -⟩
  rw [e25] at S30; clear e25
  refine Ac C S30 [(14, .if_icmp .ge 39, 3), (17, .aload_n 0, 1), (18, .iload_n 1, 1)] 19 #[Ab x, Aa 0, .unset] [.int 0, .ref x] ?_
  refine Al C S30 hw 62 63 65 65 64 66 9 (Bu l Z a0 hw G1 G3 x _ _ _ _ 0 ((Ad x0).toInt8.toInt32) (Ad x0) h6 n0 f10 f20 f21 f22 f23 f24 O2 O4 P5 rG3 (⟨(by decide), (by decide)⟩) rfl (Ca hx0) (Aq hx0)) 0 f21 [.int 0] [] Bl ?_
  rintro T32 h33 v34 L35 S36 ⟨⟨rfl, e31⟩, -⟩
  rw [e31] at S36; clear e31
  refine Ah C S36 hw 84 85 43 86 (Bk l Z a0 hw x0 h6 n0 f10 hx0) 0 [.int (Ad x0)] [] Bm ?_
  rintro T38 h39 v40 L41 S42 ⟨⟨rfl, e37⟩, -⟩
  rw [e37] at S42; clear e37
  refine Ba C S42 .ge 22 47 (fun (q43 : ¬ x0 < (0 : Int32)) => ?_) (fun (hq : x0 < (0 : Int32)) => False.elim (Bp hx0 hq))
  refine Ac C S42 [(47, .iinc 1 1, 3), (50, .goto (-41), 3), (9, .iload_n 1, 1), (10, .aload_n 0, 1)] 11 #[Ab x, Aa 1, .unset] [.ref x, .int 1] ?_
  refine Al C S42 hw 52 53 55 55 54 56 9 (Bb l Z a0 hw G1 G3 x _ _ _ _ h6 n0 f10 f20 f21 f22 f23 f24 O2 O4 P5 rG3) 1 f21 [] [.int 1] Av ?_
  rintro T45 h46 v47 L48 S49 ⟨⟨rfl, e44⟩, -⟩
  rw [e44] at S49; clear e44
  refine Ac C S49 [(14, .if_icmp .ge 39, 3), (17, .aload_n 0, 1), (18, .iload_n 1, 1)] 19 #[Ab x, Aa 1, .unset] [.int 1, .ref x] ?_
  refine Al C S49 hw 62 63 65 65 64 66 9 (Bu l Z a0 hw G1 G3 x _ _ _ _ 1 ((Ad x1).toInt8.toInt32) (Ad x1) h6 n0 f10 f20 f21 f22 f23 f24 O2 O4 P5 rG3 (⟨(by decide), (by decide)⟩) rfl (Ca hx1) (Aq hx1)) 0 f21 [.int 1] [] Bl ?_
  rintro T51 h52 v53 L54 S55 ⟨⟨rfl, e50⟩, -⟩
  rw [e50] at S55; clear e50
  refine Ah C S55 hw 84 85 43 86 (Bk l Z a0 hw x1 h6 n0 f10 hx1) 0 [.int (Ad x1)] [] Bm ?_
  rintro T57 h58 v59 L60 S61 ⟨⟨rfl, e56⟩, -⟩
  rw [e56] at S61; clear e56
  refine Ba C S61 .ge 22 47 (fun (q62 : ¬ x1 < (0 : Int32)) => ?_) (fun (hq : x1 < (0 : Int32)) => False.elim (Bp hx1 hq))
  refine Ac C S61 [(47, .iinc 1 1, 3), (50, .goto (-41), 3), (9, .iload_n 1, 1), (10, .aload_n 0, 1)] 11 #[Ab x, Aa 2, .unset] [.ref x, .int 2] ?_
  refine Al C S61 hw 52 53 55 55 54 56 9 (Bb l Z a0 hw G1 G3 x _ _ _ _ h6 n0 f10 f20 f21 f22 f23 f24 O2 O4 P5 rG3) 1 f21 [] [.int 2] Av ?_
  rintro T64 h65 v66 L67 S68 ⟨⟨rfl, e63⟩, -⟩
  rw [e63] at S68; clear e63
  refine Ac C S68 [(14, .if_icmp .ge 39, 3), (53, .aload_n 0, 1)] 54 #[Ab x, Aa 2, .unset] [.ref x] ?_
  refine Al C S68 hw 52 53 55 55 54 56 9 (Bb l Z a0 hw G1 G3 x _ _ _ _ h6 n0 f10 f20 f21 f22 f23 f24 O2 O4 P5 rG3) 0 f21 [] [] Av ?_
  rintro T70 h71 v72 L73 S74 ⟨⟨rfl, e69⟩, -⟩
  rw [e69] at S74; clear e69
  refine Ac C S74 [(57, .iconst 1, 1), (58, .isub, 1), (59, .istore_n 1, 1), (60, .aload_n 0, 1)] 61 #[Ab x, Aa 1, .unset] [.ref x] ?_
  refine Al C S74 hw 52 53 55 55 54 56 9 (Bb l Z a0 hw G1 G3 x _ _ _ _ h6 n0 f10 f20 f21 f22 f23 f24 O2 O4 P5 rG3) 0 f21 [] [] Av ?_
  rintro T76 h77 v78 L79 S80 ⟨⟨rfl, e75⟩, -⟩
  rw [e75] at S80; clear e75
  refine Ac C S80 [(64, .iconst 4, 1)] 65 #[Ab x, Aa 1, .unset] [.int 4, .int 2] ?_
  refine Dk C S80 (by decide +kernel) (by decide) ?_
  refine own_tsi C S80 (df := 53) (lo := 1) (hi := 3) (offs := #[26, 45, 49]) (len := 26) (o := 45) (by decide +kernel) (by decide) (by decide) (by decide) 111 (by decide) ?_
  refine Ac C S80 [(111, .iconst 4, 1), (112, .goto 8, 3), (120, .istore_n 2, 1), (121, .iload_n 2, 1), (122, .ifCond .le 39, 3), (125, .aload_n 0, 1), (126, .iload_n 1, 1)] 127 #[Ab x, Aa 1, Aa 4] [.int 1, .ref x] ?_
  refine Al C S80 hw 62 63 65 65 64 66 9 (Bu l Z a0 hw G1 G3 x _ _ _ _ 1 ((Ad x1).toInt8.toInt32) (Ad x1) h6 n0 f10 f20 f21 f22 f23 f24 O2 O4 P5 rG3 (⟨(by decide), (by decide)⟩) rfl (Ca hx1) (Aq hx1)) 0 f21 [.int 1] [] Bl ?_
  rintro T82 h83 v84 L85 S86 ⟨⟨rfl, e81⟩, -⟩
  rw [e81] at S86; clear e81
  refine Ah C S86 hw 84 85 43 86 (Bk l Z a0 hw x1 h6 n0 f10 hx1) 0 [.int (Ad x1)] [] Bm ?_
  rintro T88 h89 v90 L91 S92 ⟨⟨rfl, e87⟩, -⟩
  rw [e87] at S92; clear e87
  refine Ac C S92 [(133, .iconst 1, 1), (134, .iload_n 2, 1), (135, .ishl, 1), (136, .iconst 1, 1), (137, .isub, 1), (138, .iand, 1)] 139 #[Ab x, Aa 1, Aa 4] [.int (x1 &&& (((1 : Int32) <<< ((4 : Int32) &&& 31)) - (1 : Int32)))] ?_
  refine Ba C S92 .eq 22 161 (fun (q93 : (x1 &&& (((1 : Int32) <<< ((4 : Int32) &&& 31)) - (1 : Int32))) = (0 : Int32)) => ?_) (fun (hq : ¬ (x1 &&& (((1 : Int32) <<< ((4 : Int32) &&& 31)) - (1 : Int32))) = (0 : Int32)) => False.elim (hq hs))
  refine Az C S92 (ow hw 87 rfl) Via.refl (OD.ext f20.2) (by decide +kernel) ?_
  intro T94 S95
  refine Ac C S95 [(164, .aload_n 0, 1)] 165 #[Ab x, Aa 1, Aa 4] [.ref x, .ref DE] ?_
  have f96 := (TK.ext E9)
  have f97 := (Exa.ext E9 DEx)
  have f98 := (Fld.ext E9 DEu)
  have f99 := (Fld.ext E9 DEm)
  have f100 := (Exa.ext E9 s4)
  refine Al C S95 hw 89 90 92 92 91 94 93 (own_ds2 l Z a0 hw G1 G3 U8 I8 TB TBk DE x _ _ x0 x1 h6 n0 f10 f20 f96 f97 f98 f99 f21 f22 f23 f24 f100 XS hx0 hx1) 0 f97 [.ref x] [] Cu ?_
  rintro T106 h107 v108 L109 S110 ⟨⟨a101, k102, rfl, g103, K104, f105⟩, -⟩
  have o111 : h6.size ≤ a101 := Nat.le_trans (Nat.le_refl _) g103
  have SW112 := rb19 _ _ _ _ [] [a101] S110 ((Keep.refl _ _).trans K104 all0) all0 (allS ⟨o111, f105.lt⟩ all0)
  refine Dg CW SW112 rfl rfl (by decide +kernel) (by decide) (by decide) ?_
  have o114 : h0.size ≤ h6.size := (Nat.le_trans (Nat.le_refl _) E9.1)
  have o113 : h0.size ≤ a101 := Nat.le_trans o114 g103
  exact ⟨a101, k102, rfl, o113, (((Keep.refl _ _).ext E9).trans K104 all0), f105⟩
theorem own_dl3 (hw : Ao a0 Z) (G1 : Int32) (G3 : Value) (U8 : Addr) (I8 : Addr) (TB : Addr) (TBk : ClassId) (DE : Addr) (b : Addr) (bk : ClassId) (x0 : Int32) (x1 : Int32) (x2 : Int32) (h0 : Heap) (n0 : Nat) (z0 : n0 ≤ h0.size) (X00 : Old Z n0 h0) (TK : Arv Z h0 TB TBk .int 256 Bt (.int 0)) (DEx : Exa Z h0 DE "java/util/Base64$Decoder") (DEu : Fld Z h0 DE "java/util/Base64$Decoder" "isURL" "Z" (.int 1)) (DEm : Fld Z h0 DE "java/util/Base64$Decoder" "isMIME" "Z" (.int 0)) (b0 : Arv Z h0 b bk .byte (3 : Int32) ([(.int ((Ad x0).toInt8.toInt32)), (.int ((Ad x1).toInt8.toInt32)), (.int ((Ad x2).toInt8.toInt32))]) (.int 0)) (b1 : Exa Z h0 b "[B") (XS : Bf Z n0 G1 G3 U8 I8 TB DE) (hx0 : Ag x0) (hx1 : Ag x1) (hx2 : Ag x2) :
    Af l Z (⟨"java/util/Base64$Decoder", "decodedOutLength", "([BII)I"⟩ : MethodName) jdk_2450_method_7_code 9 (some .int) ({ frames := 0, cells := 0, slots := 0, locals := 0 } : Room) n0 #[(.ref DE), (.ref b), (.int 0), (.int 3)] h0 (fun v h => v = some (.int 2) ∧ h = h0) := by
  refine Ar #[.val (.ref DE), .val (.ref b), .val (.int 0), .val (.int 3), .unset, .unset, .unset, .unset, .unset] ?_
  intro p e s m below meth c T0 C S0
  have XS_ := XS
  obtain ⟨O2, O4, P5, rG3, OU, OI, OT, OD, hUI, TBlt, DElt⟩ := XS_
  refine Ac C S0 [(0, .aload_n 0, 1)] 1 #[Ab DE, Ab b, Aa 0, Aa 3, .unset, .unset, .unset, .unset, .unset] [.ref DE] ?_
  refine Cb C S0 hw 133 DEu ?_
  intro T1 S2
  refine Ac C S2 [(4, .ifCond .eq 9, 3)] 7 #[Ab DE, Ab b, Aa 0, Aa 3, .unset, .unset, .unset, .unset, .unset] [] ?_
  refine Az C S2 (ow hw 135 rfl) Via.refl (OT.ext X00.2) (by decide +kernel) ?_
  intro T3 S4
  refine Ac C S4 [(10, .goto 6, 3), (16, .astore 4, 2), (18, .iconst 0, 1), (19, .istore 5, 2), (21, .iload_n 3, 1), (22, .iload_n 2, 1), (23, .isub, 1), (24, .istore 6, 2), (26, .iload 6, 2), (28, .ifCond .ne 5, 3), (33, .iload 6, 2), (35, .iconst 2, 1), (36, .if_icmp .ge 30, 3), (66, .aload_n 0, 1)] 67 #[Ab DE, Ab b, Aa 0, Aa 3, Ab TB, Aa 0, Aa 3, .unset, .unset] [.ref DE] ?_
  refine Cb C S4 hw 136 DEm ?_
  intro T5 S6
  refine Ac C S6 [(70, .ifCond .eq 71, 3), (141, .aload_n 1, 1), (142, .iload_n 3, 1), (143, .iconst 1, 1), (144, .isub, 1)] 145 #[Ab DE, Ab b, Aa 0, Aa 3, Ab TB, Aa 0, Aa 3, .unset, .unset] [.int 2, .ref b] ?_
  refine As C S6 b0 ⟨(by decide), (by decide)⟩ (.int ((Ad x2).toInt8.toInt32)) rfl (by decide +kernel) ?_
  refine Ac C S6 [(146, .bipush 61, 2)] 148 #[Ab DE, Ab b, Aa 0, Aa 3, Ab TB, Aa 0, Aa 3, .unset, .unset] [.int 61, .int ((Ad x2).toInt8.toInt32)] ?_
  refine Bj C S6 .ne 19 167 (fun (q7 : ¬ ((Ad x2).toInt8.toInt32) = (61 : Int32)) => ?_) (fun (hq : ((Ad x2).toInt8.toInt32) = (61 : Int32)) => False.elim (Em hx2 hq))
  refine Ac C S6 [(167, .iload 5, 2), (169, .ifCond .ne 18, 3), (172, .iload 6, 2), (174, .iconst 3, 1), (175, .iand, 1), (176, .ifCond .eq 11, 3), (179, .iconst 4, 1), (180, .iload 6, 2), (182, .iconst 3, 1), (183, .iand, 1), (184, .isub, 1), (185, .istore 5, 2), (187, .iconst 3, 1), (188, .iload 6, 2), (190, .i2l, 1)] 191 #[Ab DE, Ab b, Aa 0, Aa 3, Ab TB, Aa 1, Aa 3, .unset, .unset] [.long ((3 : Int32).toInt64), .int 3] ?_
  refine Bz C S6 (ow hw 138 rfl) (by decide +kernel) ?_
  refine Ac C S6 [(194, .ladd, 1)] 195 #[Ab DE, Ab b, Aa 0, Aa 3, Ab TB, Aa 1, Aa 3, .unset, .unset] [.long ((3 : Int32).toInt64 + 3), .int 3] ?_
  refine Bz C S6 (ow hw 139 rfl) (by decide +kernel) ?_
  refine Ea C S6 (by decide +kernel) (by decide) ?_
  rw [show (((3 : Int32).toInt64 + 3) / 4) = (1 : Int64) from (by decide)]
  refine Ac C S6 [(199, .l2i, 1), (200, .imul, 1), (201, .iload 5, 2), (203, .isub, 1)] 204 #[Ab DE, Ab b, Aa 0, Aa 3, Ab TB, Aa 1, Aa 3, .unset, .unset] [.int (((3 : Int32) * (1 : Int64).toInt32) - (1 : Int32))] ?_
  rw [show (((3 : Int32) * (1 : Int64).toInt32) - (1 : Int32)) = (2 : Int32) from (by decide)]
  refine Bq C S6 (by decide +kernel) (by decide) (by decide) ?_
  exact ⟨rfl, rfl⟩
theorem own_d03 (hw : Ao a0 Z) (G1 : Int32) (G3 : Value) (U8 : Addr) (I8 : Addr) (TB : Addr) (TBk : ClassId) (DE : Addr) (b : Addr) (bk : ClassId) (d : Addr) (dk : ClassId) (x0 : Int32) (x1 : Int32) (x2 : Int32) (h0 : Heap) (n0 : Nat) (z0 : n0 ≤ h0.size) (ge_d : n0 ≤ d) (X00 : Old Z n0 h0) (TK : Arv Z h0 TB TBk .int 256 Bt (.int 0)) (DEx : Exa Z h0 DE "java/util/Base64$Decoder") (DEu : Fld Z h0 DE "java/util/Base64$Decoder" "isURL" "Z" (.int 1)) (DEm : Fld Z h0 DE "java/util/Base64$Decoder" "isMIME" "Z" (.int 0)) (b0 : Arv Z h0 b bk .byte (3 : Int32) ([(.int ((Ad x0).toInt8.toInt32)), (.int ((Ad x1).toInt8.toInt32)), (.int ((Ad x2).toInt8.toInt32))]) (.int 0)) (b1 : Exa Z h0 b "[B") (dK : Arv Z h0 d dk .byte (2 : Int32) ([(.int 0), (.int 0)]) (.int 0)) (ne_b_d : b ≠ d) (XS : Bf Z n0 G1 G3 U8 I8 TB DE) (hx0 : Ag x0) (hx1 : Ag x1) (hx2 : Ag x2) :
    Af l Z (⟨"java/util/Base64$Decoder", "decode0", "([BII[B)I"⟩ : MethodName) jdk_2450_method_9_code 11 (some .int) ({ frames := 0, cells := 0, slots := 0, locals := 0 } : Room) n0 #[(.ref DE), (.ref b), (.int 0), (.int 3), (.ref d)] h0 (fun v h => v = some (.int 2) ∧ Keep h0 h [d] ∧ Arv Z h d dk .byte (2 : Int32) ([(.int (Be (Ch x0 x1 x2))), (.int (Bn (Ch x0 x1 x2)))]) (.int 0)) := by
  refine Ar #[.val (.ref DE), .val (.ref b), .val (.int 0), .val (.int 3), .val (.ref d), .unset, .unset, .unset, .unset, .unset, .unset] ?_
  intro p e s m below meth c T0 C S0
  have XS_ := XS
  obtain ⟨O2, O4, P5, rG3, OU, OI, OT, OD, hUI, TBlt, DElt⟩ := XS_
  refine Ac C S0 [(0, .aload_n 0, 1)] 1 #[Ab DE, Ab b, Aa 0, Aa 3, Ab d, .unset, .unset, .unset, .unset, .unset, .unset] [.ref DE] ?_
  refine Cb C S0 hw 133 DEu ?_
  intro T1 S2
  refine Ac C S2 [(4, .ifCond .eq 9, 3)] 7 #[Ab DE, Ab b, Aa 0, Aa 3, Ab d, .unset, .unset, .unset, .unset, .unset, .unset] [] ?_
  refine Az C S2 (ow hw 135 rfl) Via.refl (OT.ext X00.2) (by decide +kernel) ?_
  intro T3 S4
  refine Ac C S4 [(10, .goto 6, 3), (16, .astore 5, 2), (18, .iconst 0, 1), (19, .istore 6, 2), (21, .iconst 0, 1), (22, .istore 7, 2), (24, .bipush 18, 2), (26, .istore 8, 2), (28, .iload_n 2, 1), (29, .iload_n 3, 1), (30, .if_icmp .ge 251, 3), (33, .iload 8, 2), (35, .bipush 18, 2), (37, .if_icmp .ne 53, 3), (40, .iload_n 2, 1), (41, .iload_n 3, 1), (42, .iconst 4, 1), (43, .isub, 1), (44, .if_icmp .ge 46, 3), (90, .iload_n 2, 1), (91, .iload_n 3, 1), (92, .if_icmp .lt 6, 3), (98, .aload_n 1, 1), (99, .iload_n 2, 1), (100, .iinc 2 1, 3)] 103 #[Ab DE, Ab b, Aa 1, Aa 3, Ab d, Ab TB, Aa 0, Aa 0, Aa 18, .unset, .unset] [.int 0, .ref b] ?_
  refine As C S4 b0 ⟨(by decide), (by decide)⟩ (.int ((Ad x0).toInt8.toInt32)) rfl (by decide +kernel) ?_
  refine Ac C S4 [(104, .sipush 255, 3), (107, .iand, 1), (108, .istore 9, 2), (110, .aload 5, 2), (112, .iload 9, 2)] 114 #[Ab DE, Ab b, Aa 1, Aa 3, Ab d, Ab TB, Aa 0, Aa 0, Aa 18, Aa ((Ad x0).toInt8.toInt32 &&& (255 : Int32)), .unset] [.int ((Ad x0).toInt8.toInt32 &&& (255 : Int32)), .ref TB] ?_
  refine Aw C S4 TK (Ce hx0) (.int x0) (Cd hx0) (by decide +kernel) ?_
  refine Ac C S4 [(115, .dup, 1), (116, .istore 9, 2)] 118 #[Ab DE, Ab b, Aa 1, Aa 3, Ab d, Ab TB, Aa 0, Aa 0, Aa 18, Aa x0, .unset] [.int x0] ?_
  refine Ba C S4 .ge 96 214 (fun (q5 : ¬ x0 < (0 : Int32)) => ?_) (fun (hq : x0 < (0 : Int32)) => False.elim (Bp hx0 hq))
  refine Ac C S4 [(214, .iload 7, 2), (216, .iload 9, 2), (218, .iload 8, 2), (220, .ishl, 1), (221, .ior, 1), (222, .istore 7, 2), (224, .iinc 8 (-6), 3), (227, .iload 8, 2), (229, .ifCond .ge 49, 3), (278, .goto (-250), 3), (28, .iload_n 2, 1), (29, .iload_n 3, 1), (30, .if_icmp .ge 251, 3), (33, .iload 8, 2), (35, .bipush 18, 2), (37, .if_icmp .ne 53, 3), (90, .iload_n 2, 1), (91, .iload_n 3, 1), (92, .if_icmp .lt 6, 3), (98, .aload_n 1, 1), (99, .iload_n 2, 1), (100, .iinc 2 1, 3)] 103 #[Ab DE, Ab b, Aa 2, Aa 3, Ab d, Ab TB, Aa 0, Aa ((0 : Int32) ||| (x0 <<< ((18 : Int32) &&& 31))), Aa 12, Aa x0, .unset] [.int 1, .ref b] ?_
  refine As C S4 b0 ⟨(by decide), (by decide)⟩ (.int ((Ad x1).toInt8.toInt32)) rfl (by decide +kernel) ?_
  refine Ac C S4 [(104, .sipush 255, 3), (107, .iand, 1), (108, .istore 9, 2), (110, .aload 5, 2), (112, .iload 9, 2)] 114 #[Ab DE, Ab b, Aa 2, Aa 3, Ab d, Ab TB, Aa 0, Aa ((0 : Int32) ||| (x0 <<< ((18 : Int32) &&& 31))), Aa 12, Aa ((Ad x1).toInt8.toInt32 &&& (255 : Int32)), .unset] [.int ((Ad x1).toInt8.toInt32 &&& (255 : Int32)), .ref TB] ?_
  refine Aw C S4 TK (Ce hx1) (.int x1) (Cd hx1) (by decide +kernel) ?_
  refine Ac C S4 [(115, .dup, 1), (116, .istore 9, 2)] 118 #[Ab DE, Ab b, Aa 2, Aa 3, Ab d, Ab TB, Aa 0, Aa ((0 : Int32) ||| (x0 <<< ((18 : Int32) &&& 31))), Aa 12, Aa x1, .unset] [.int x1] ?_
  refine Ba C S4 .ge 96 214 (fun (q6 : ¬ x1 < (0 : Int32)) => ?_) (fun (hq : x1 < (0 : Int32)) => False.elim (Bp hx1 hq))
  refine Ac C S4 [(214, .iload 7, 2), (216, .iload 9, 2), (218, .iload 8, 2), (220, .ishl, 1), (221, .ior, 1), (222, .istore 7, 2), (224, .iinc 8 (-6), 3), (227, .iload 8, 2), (229, .ifCond .ge 49, 3), (278, .goto (-250), 3), (28, .iload_n 2, 1), (29, .iload_n 3, 1), (30, .if_icmp .ge 251, 3), (33, .iload 8, 2), (35, .bipush 18, 2), (37, .if_icmp .ne 53, 3), (90, .iload_n 2, 1), (91, .iload_n 3, 1), (92, .if_icmp .lt 6, 3), (98, .aload_n 1, 1), (99, .iload_n 2, 1), (100, .iinc 2 1, 3)] 103 #[Ab DE, Ab b, Aa 3, Aa 3, Ab d, Ab TB, Aa 0, Aa (((0 : Int32) ||| (x0 <<< ((18 : Int32) &&& 31))) ||| (x1 <<< ((12 : Int32) &&& 31))), Aa 6, Aa x1, .unset] [.int 2, .ref b] ?_
  refine As C S4 b0 ⟨(by decide), (by decide)⟩ (.int ((Ad x2).toInt8.toInt32)) rfl (by decide +kernel) ?_
  refine Ac C S4 [(104, .sipush 255, 3), (107, .iand, 1), (108, .istore 9, 2), (110, .aload 5, 2), (112, .iload 9, 2)] 114 #[Ab DE, Ab b, Aa 3, Aa 3, Ab d, Ab TB, Aa 0, Aa (((0 : Int32) ||| (x0 <<< ((18 : Int32) &&& 31))) ||| (x1 <<< ((12 : Int32) &&& 31))), Aa 6, Aa ((Ad x2).toInt8.toInt32 &&& (255 : Int32)), .unset] [.int ((Ad x2).toInt8.toInt32 &&& (255 : Int32)), .ref TB] ?_
  refine Aw C S4 TK (Ce hx2) (.int x2) (Cd hx2) (by decide +kernel) ?_
  refine Ac C S4 [(115, .dup, 1), (116, .istore 9, 2)] 118 #[Ab DE, Ab b, Aa 3, Aa 3, Ab d, Ab TB, Aa 0, Aa (((0 : Int32) ||| (x0 <<< ((18 : Int32) &&& 31))) ||| (x1 <<< ((12 : Int32) &&& 31))), Aa 6, Aa x2, .unset] [.int x2] ?_
  refine Ba C S4 .ge 96 214 (fun (q7 : ¬ x2 < (0 : Int32)) => ?_) (fun (hq : x2 < (0 : Int32)) => False.elim (Bp hx2 hq))
  refine Ac C S4 [(214, .iload 7, 2), (216, .iload 9, 2), (218, .iload 8, 2), (220, .ishl, 1), (221, .ior, 1), (222, .istore 7, 2), (224, .iinc 8 (-6), 3), (227, .iload 8, 2), (229, .ifCond .ge 49, 3), (278, .goto (-250), 3), (28, .iload_n 2, 1), (29, .iload_n 3, 1), (30, .if_icmp .ge 251, 3), (281, .iload 8, 2), (283, .bipush 6, 2), (285, .if_icmp .ne 20, 3), (305, .iload 8, 2), (307, .ifCond .ne 34, 3), (310, .aload 4, 2), (312, .iload 6, 2), (314, .iinc 6 1, 3), (317, .iload 7, 2), (319, .bipush 16, 2), (321, .ishr, 1), (322, .i2b, 1)] 323 #[Ab DE, Ab b, Aa 3, Aa 3, Ab d, Ab TB, Aa 1, Aa ((((0 : Int32) ||| (x0 <<< ((18 : Int32) &&& 31))) ||| (x1 <<< ((12 : Int32) &&& 31))) ||| (x2 <<< ((6 : Int32) &&& 31))), Aa 0, Aa x2, .unset] [.int ((((((0 : Int32) ||| (x0 <<< ((18 : Int32) &&& 31))) ||| (x1 <<< ((12 : Int32) &&& 31))) ||| (x2 <<< ((6 : Int32) &&& 31))) >>> ((16 : Int32) &&& 31)).toInt8.toInt32), .int 0, .ref d] ?_
  refine Aj C S4 dK ⟨(by decide), (by decide)⟩ 0 rfl (Am rfl) ((((((0 : Int32) ||| (x0 <<< ((18 : Int32) &&& 31))) ||| (x1 <<< ((12 : Int32) &&& 31))) ||| (x2 <<< ((6 : Int32) &&& 31))) >>> ((16 : Int32) &&& 31)).toInt8.toInt32) (Au _) ge_d (by decide +kernel) ?_
  intro T8 h10 S9 W11 f12
  have f13 : Arv Z h10 d dk .byte (2 : Int32) ([(.int ((((((0 : Int32) ||| (x0 <<< ((18 : Int32) &&& 31))) ||| (x1 <<< ((12 : Int32) &&& 31))) ||| (x2 <<< ((6 : Int32) &&& 31))) >>> ((16 : Int32) &&& 31)).toInt8.toInt32)), (.int 0)]) (.int 0) := f12
  refine Ac C S9 [(324, .aload 4, 2), (326, .iload 6, 2), (328, .iinc 6 1, 3), (331, .iload 7, 2), (333, .bipush 8, 2), (335, .ishr, 1), (336, .i2b, 1)] 337 #[Ab DE, Ab b, Aa 3, Aa 3, Ab d, Ab TB, Aa 2, Aa ((((0 : Int32) ||| (x0 <<< ((18 : Int32) &&& 31))) ||| (x1 <<< ((12 : Int32) &&& 31))) ||| (x2 <<< ((6 : Int32) &&& 31))), Aa 0, Aa x2, .unset] [.int ((((((0 : Int32) ||| (x0 <<< ((18 : Int32) &&& 31))) ||| (x1 <<< ((12 : Int32) &&& 31))) ||| (x2 <<< ((6 : Int32) &&& 31))) >>> ((8 : Int32) &&& 31)).toInt8.toInt32), .int 1, .ref d] ?_
  refine Aj C S9 f13 ⟨(by decide), (by decide)⟩ 1 rfl (Am rfl) ((((((0 : Int32) ||| (x0 <<< ((18 : Int32) &&& 31))) ||| (x1 <<< ((12 : Int32) &&& 31))) ||| (x2 <<< ((6 : Int32) &&& 31))) >>> ((8 : Int32) &&& 31)).toInt8.toInt32) (Au _) ge_d (by decide +kernel) ?_
  intro T14 h16 S15 W17 f18
  have f19 : Arv Z h16 d dk .byte (2 : Int32) ([(.int ((((((0 : Int32) ||| (x0 <<< ((18 : Int32) &&& 31))) ||| (x1 <<< ((12 : Int32) &&& 31))) ||| (x2 <<< ((6 : Int32) &&& 31))) >>> ((16 : Int32) &&& 31)).toInt8.toInt32)), (.int ((((((0 : Int32) ||| (x0 <<< ((18 : Int32) &&& 31))) ||| (x1 <<< ((12 : Int32) &&& 31))) ||| (x2 <<< ((6 : Int32) &&& 31))) >>> ((8 : Int32) &&& 31)).toInt8.toInt32))]) (.int 0) := f18
  refine Ac C S15 [(338, .goto 20, 3), (358, .iload_n 2, 1), (359, .iload_n 3, 1), (360, .if_icmp .ge 56, 3), (416, .iload 6, 2)] 418 #[Ab DE, Ab b, Aa 3, Aa 3, Ab d, Ab TB, Aa 2, Aa ((((0 : Int32) ||| (x0 <<< ((18 : Int32) &&& 31))) ||| (x1 <<< ((12 : Int32) &&& 31))) ||| (x2 <<< ((6 : Int32) &&& 31))), Aa 0, Aa x2, .unset] [.int 2] ?_
  refine Bq C S15 (by decide +kernel) (by decide) (by decide) ?_
  exact ⟨rfl, (((Keep.refl _ _).wr W11 (At 0)).wr W17 (At 0)), f19⟩
theorem own_da3 (hw : Ao a0 Z) (G1 : Int32) (G3 : Value) (U8 : Addr) (I8 : Addr) (TB : Addr) (TBk : ClassId) (DE : Addr) (b : Addr) (bk : ClassId) (x0 : Int32) (x1 : Int32) (x2 : Int32) (h0 : Heap) (n0 : Nat) (z0 : n0 ≤ h0.size) (X00 : Old Z n0 h0) (TK : Arv Z h0 TB TBk .int 256 Bt (.int 0)) (DEx : Exa Z h0 DE "java/util/Base64$Decoder") (DEu : Fld Z h0 DE "java/util/Base64$Decoder" "isURL" "Z" (.int 1)) (DEm : Fld Z h0 DE "java/util/Base64$Decoder" "isMIME" "Z" (.int 0)) (b0 : Arv Z h0 b bk .byte (3 : Int32) ([(.int ((Ad x0).toInt8.toInt32)), (.int ((Ad x1).toInt8.toInt32)), (.int ((Ad x2).toInt8.toInt32))]) (.int 0)) (b1 : Exa Z h0 b "[B") (XS : Bf Z n0 G1 G3 U8 I8 TB DE) (hx0 : Ag x0) (hx1 : Ag x1) (hx2 : Ag x2) :
    Af l Z (⟨"java/util/Base64$Decoder", "decode", "([B)[B"⟩ : MethodName) jdk_2450_method_2_code 4 (some (.array .byte)) ({ frames := 1, cells := 1, slots := 2, locals := 22 } : Room) n0 #[(.ref DE), (.ref b)] h0 (fun v h => ∃ r : Addr, ∃ rk : ClassId, v = some (.ref r) ∧ h0.size ≤ r ∧ Keep h0 h [] ∧ Arv Z h r rk .byte (2 : Int32) ([(.int (Be (Ch x0 x1 x2))), (.int (Bn (Ch x0 x1 x2)))]) (.int 0)) := by
  refine Ar #[.val (.ref DE), .val (.ref b), .unset, .unset] ?_
  intro p e s m below meth c T0 C S0
  have XS_ := XS
  obtain ⟨O2, O4, P5, rG3, OU, OI, OT, OD, hUI, TBlt, DElt⟩ := XS_
  refine Ac C S0 [(0, .aload_n 0, 1), (1, .aload_n 1, 1), (2, .iconst 0, 1), (3, .aload_n 1, 1)] 4 #[Ab DE, Ab b, .unset, .unset] [.ref b, .int 0, .ref b, .ref DE] ?_
  refine Ay C S0 b0 (by decide +kernel) ?_
  refine Cc C S0 (ow hw 128 rfl) (ow hw 129 rfl) (ow hw 131 rfl) (ow hw 130 rfl) (ow hw 132 rfl) (by decide) (Af.pay (own_dl3 l Z a0 hw G1 G3 U8 I8 TB TBk DE b _ x0 x1 x2 h0 n0 z0 X00 TK DEx DEu DEm b0 b1 XS hx0 hx1 hx2) C 0 (ow hw 132 rfl) (ow hw 93 rfl) (by decide) (by decide)) (fun _ _ _ q => q.2) DEx [.ref b, .int 0, .int 3] [] rfl Ds rfl rfl rfl (Am rfl) (by decide) (by decide) (by decide +kernel) ?_
  rintro T2 h3 v4 L5 S6 ⟨⟨rfl, e1⟩, -⟩
  rw [e1] at S6; clear e1
  refine Co C S6 (aty := .byte) (ad := "[B") (by decide) (ow hw 30 rfl) (by decide +kernel) (by decide) 2 (by decide) (by decide) (by decide) (by decide) ?_
  intro T7 h9 a10 k11 S8 g12 E13 f14 x15
  have f16 : Arv Z h9 a10 k11 .byte (2 : Int32) ([(.int 0), (.int 0)]) (.int 0) := Arv.pad f14 (pad_rep [] (.int 0) 2)
  refine Ac C S8 [(10, .astore_n 2, 1), (11, .aload_n 0, 1), (12, .aload_n 1, 1), (13, .iconst 0, 1), (14, .aload_n 1, 1)] 15 #[Ab DE, Ab b, Ab a10, .unset] [.ref b, .int 0, .ref b, .ref DE] ?_
  have f17 := (b0.ext E13)
  refine Ay C S8 f17 (by decide +kernel) ?_
  refine Ac C S8 [(16, .aload_n 2, 1)] 17 #[Ab DE, Ab b, Ab a10, .unset] [.ref a10, .int 3, .int 0, .ref b, .ref DE] ?_
  have f18 := (X00.ext E13)
  have f19 := (TK.ext E13)
  have f20 := (Exa.ext E13 DEx)
  have f21 := (Fld.ext E13 DEu)
  have f22 := (Fld.ext E13 DEm)
  have f23 := (Exa.ext E13 b1)
  have f24 : n0 ≤ h9.size := (Nat.le_trans z0 E13.1)
  have g25 : n0 ≤ a10 := by rw [g12]; exact z0
  have n26 : b ≠ a10 := by rw [g12]; exact Nat.ne_of_lt b0.lt
  refine Cc C S8 (ow hw 140 rfl) (ow hw 141 rfl) (ow hw 143 rfl) (ow hw 142 rfl) (ow hw 144 rfl) (by decide) (Af.pay (own_d03 l Z a0 hw G1 G3 U8 I8 TB TBk DE b _ a10 _ x0 x1 x2 h9 n0 f24 g25 f18 f19 f20 f21 f22 f17 f23 f16 n26 XS hx0 hx1 hx2) C 0 (ow hw 144 rfl) (ow hw 93 rfl) (by decide) (by decide)) (fun _ _ _ q => q.2) f20 [.ref b, .int 0, .int 3, .ref a10] [] rfl Dt rfl rfl rfl (Am rfl) (by decide) (by decide) (by decide +kernel) ?_
  rintro T29 h30 v31 L32 S33 ⟨⟨rfl, K27, f28⟩, -⟩
  refine Ac C S33 [(20, .istore_n 3, 1), (21, .iload_n 3, 1), (22, .aload_n 2, 1)] 23 #[Ab DE, Ab b, Ab a10, Aa 2] [.ref a10, .int 2] ?_
  refine Ay C S33 f28 (by decide +kernel) ?_
  refine Ac C S33 [(24, .if_icmp .eq 9, 3), (33, .aload_n 2, 1)] 34 #[Ab DE, Ab b, Ab a10, Aa 2] [.ref a10] ?_
  refine Br C S33 rfl rfl (by decide +kernel) (by decide) (by decide) ?_
  have o34 : h0.size ≤ a10 := by rw [g12]; exact (Nat.le_refl _)
  exact ⟨a10, k11, rfl, o34, (((Keep.refl _ _).ext E13).trans K27 (allS (Or.inr o34) all0)), f28⟩
theorem own_ds3 (hw : Ao a0 Z) (G1 : Int32) (G3 : Value) (U8 : Addr) (I8 : Addr) (TB : Addr) (TBk : ClassId) (DE : Addr) (x : Addr) (xt : Addr) (xtk : ClassId) (x0 : Int32) (x1 : Int32) (x2 : Int32) (h0 : Heap) (n0 : Nat) (z0 : n0 ≤ h0.size) (X00 : Old Z n0 h0) (TK : Arv Z h0 TB TBk .int 256 Bt (.int 0)) (DEx : Exa Z h0 DE "java/util/Base64$Decoder") (DEu : Fld Z h0 DE "java/util/Base64$Decoder" "isURL" "Z" (.int 1)) (DEm : Fld Z h0 DE "java/util/Base64$Decoder" "isMIME" "Z" (.int 0)) (s0 : Exa Z h0 x "java/lang/String") (s1 : Fld Z h0 x "java/lang/String" "value" "[B" (.ref xt)) (s2 : Fld Z h0 x "java/lang/String" "coder" "B" (.int 0)) (s3 : Arv Z h0 xt xtk .byte (3 : Int32) ([(.int ((Ad x0).toInt8.toInt32)), (.int ((Ad x1).toInt8.toInt32)), (.int ((Ad x2).toInt8.toInt32))]) (.int 0)) (s4 : Exa Z h0 xt "[B") (XS : Bf Z n0 G1 G3 U8 I8 TB DE) (hx0 : Ag x0) (hx1 : Ag x1) (hx2 : Ag x2) :
    Af l Z (⟨"java/util/Base64$Decoder", "decode", "(Ljava/lang/String;)[B"⟩ : MethodName) jdk_2450_method_3_code 2 (some (.array .byte)) ({ frames := 5, cells := 2, slots := 10, locals := 76 } : Room) n0 #[(.ref DE), (.ref x)] h0 (fun v h => ∃ r : Addr, ∃ rk : ClassId, v = some (.ref r) ∧ h0.size ≤ r ∧ Keep h0 h [] ∧ Arv Z h r rk .byte (2 : Int32) ([(.int (Be (Ch x0 x1 x2))), (.int (Bn (Ch x0 x1 x2)))]) (.int 0)) := by
  refine Ar #[.val (.ref DE), .val (.ref x)] ?_
  intro p e s m below meth c T0 C S0
  have XS_ := XS
  obtain ⟨O2, O4, P5, rG3, OU, OI, OT, OD, hUI, TBlt, DElt⟩ := XS_
  refine Ac C S0 [(0, .aload_n 0, 1), (1, .aload_n 1, 1)] 2 #[Ab DE, Ab x] [.ref x, .ref DE] ?_
  refine Az C S0 (ow hw 95 rfl) Via.refl (OI.ext X00.2) (by decide +kernel) ?_
  intro T1 S2
  refine Al C S2 hw 97 98 100 100 99 101 9 (Es l Z a0 hw G1 G3 U8 I8 TB DE x _ _ _ _ h0 n0 z0 X00 s0 s1 s2 s3 s4 XS (Am rfl)) 1 s0 [.ref I8] [.ref DE] Du ?_
  rintro T8 h9 v10 L11 S12 ⟨⟨a3, rfl, g4, K5, f6, f7⟩, -⟩
  have f13 := (X00.keep K5 all0)
  have f14 := (TK.keep K5 nin0)
  have f15 := (DEx.keep K5)
  have f16 := (DEu.keep K5 nin0)
  have f17 := (DEm.keep K5 nin0)
  have f18 : n0 ≤ h9.size := (Nat.le_trans z0 K5.1)
  refine Al C S12 hw 123 124 126 126 125 127 93 (own_da3 l Z a0 hw G1 G3 U8 I8 TB TBk DE a3 _ x0 x1 x2 h9 n0 f18 f13 f14 f15 f16 f17 f6 f7 XS hx0 hx1 hx2) 0 f15 [.ref a3] [] Dv ?_
  rintro T24 h25 v26 L27 S28 ⟨⟨a19, k20, rfl, g21, K22, f23⟩, -⟩
  refine Br C S28 rfl rfl (by decide +kernel) (by decide) (by decide) ?_
  have o30 : h0.size ≤ h9.size := (Nat.le_trans (Nat.le_refl _) K5.1)
  have o29 : h0.size ≤ a19 := Nat.le_trans o30 g21
  exact ⟨a19, k20, rfl, o29, (((Keep.refl _ _).trans K5 all0).trans K22 all0), f23⟩
theorem own_du3 (hw : Ao a0 Z) (hEL : EW Z a0 Cm) (wS : ∀ a ∈ Bundle.stringAtoms, a.before a0 Z = true) (G1 : Int32) (G3 : Value) (U8 : Addr) (I8 : Addr) (TB : Addr) (TBk : ClassId) (DE : Addr) (x : Addr) (xt : Addr) (xtk : ClassId) (x0 : Int32) (x1 : Int32) (x2 : Int32) (h0 : Heap) (n0 : Nat) (z0 : n0 ≤ h0.size) (X00 : Old Z n0 h0) (TK : Arv Z h0 TB TBk .int 256 Bt (.int 0)) (DEx : Exa Z h0 DE "java/util/Base64$Decoder") (DEu : Fld Z h0 DE "java/util/Base64$Decoder" "isURL" "Z" (.int 1)) (DEm : Fld Z h0 DE "java/util/Base64$Decoder" "isMIME" "Z" (.int 0)) (s0 : Exa Z h0 x "java/lang/String") (s1 : Fld Z h0 x "java/lang/String" "value" "[B" (.ref xt)) (s2 : Fld Z h0 x "java/lang/String" "coder" "B" (.int 0)) (s3 : Arv Z h0 xt xtk .byte (3 : Int32) ([(.int ((Ad x0).toInt8.toInt32)), (.int ((Ad x1).toInt8.toInt32)), (.int ((Ad x2).toInt8.toInt32))]) (.int 0)) (s4 : Exa Z h0 xt "[B") (XS : Bf Z n0 G1 G3 U8 I8 TB DE) (hx0 : Ag x0) (hx1 : Ag x1) (hx2 : Ag x2) (hs : (x2 &&& (((1 : Int32) <<< ((2 : Int32) &&& 31)) - (1 : Int32))) = (0 : Int32)) :
    Cp l Z Cm (⟨"com/example/torrey/torrey/Base64Url", "decode", "(Ljava/lang/String;)[B"⟩ : MethodName) prog_1_method_3_code 3 (some (.array .byte)) ({ frames := 6, cells := 4, slots := 30, locals := 89 } : Room) n0 #[(.ref x)] h0 [] (fun v h => ∃ r : Addr, ∃ rk : ClassId, v = some (.ref r) ∧ h0.size ≤ r ∧ Keep h0 h [] ∧ Arv Z h r rk .byte (2 : Int32) ([(.int (Be (Ch x0 x1 x2))), (.int (Bn (Ch x0 x1 x2)))]) (.int 0)) := by
  refine Da hEL wS (by decide +kernel) #[.val (.ref x), .unset, .unset] (fun m => by first | (simp [entryFrame, mkF, argsToLocals, Value.category]; done) | rfl) ?_
  intro p e s m below meth c T0 CW SW0
  have XS_ := XS
  obtain ⟨O2, O4, P5, rG3, OU, OI, OT, OD, hUI, TBlt, DElt⟩ := XS_
  refine Bv CW SW0 ?_
  intro vm1 C S2 rb3
  refine Ac C S2 [(0, .aload_n 0, 1)] 1 #[Ab x, .unset, .unset] [.ref x] ?_
  have SW4 := rb3 _ _ _ _ [] [] S2 (Keep.refl _ _) all0 all0
  refine Dq CW SW4 (ow hw 45 rfl) (by decide +kernel) 16 (by decide) (by decide) (by decide) (by decide) ?_
  intro T5 h6 a7 SW8 E9
  have f10 : n0 ≤ h6.size := (Nat.le_trans z0 E9.1)
  refine Bv CW SW8 ?_
  intro vm17 C S18 rb19
  refine Ah C S18 hw 48 49 50 51 (Eh l Z a0 hw x a7 h6 n0 f10) 0 [.ref x, .ref a7] [] Dw ?_
  rintro T12 h13 v14 L15 S16 ⟨⟨rfl, e11⟩, -⟩
  rw [e11] at S16; clear e11
  refine Ac C S16 [(6, .pop, 1), (7, .iconst 0, 1), (8, .istore_n 1, 1), (9, .iload_n 1, 1), (10, .aload_n 0, 1)] 11 #[Ab x, Aa 0, .unset] [.ref x, .int 0] ?_
  have f20 := (X00.ext E9)
  have f21 := (Exa.ext E9 s0)
  have f22 := (Fld.ext E9 s1)
  have f23 := (Fld.ext E9 s2)
  have f24 := (s3.ext E9)
  refine Al C S16 hw 52 53 55 55 54 56 9 (Bb l Z a0 hw G1 G3 x _ _ _ _ h6 n0 f10 f20 f21 f22 f23 f24 O2 O4 P5 rG3) 1 f21 [] [.int 0] Av ?_
  rintro T26 h27 v28 L29 S30 ⟨⟨rfl, e25⟩, -⟩
  rw [e25] at S30; clear e25
  refine Ac C S30 [(14, .if_icmp .ge 39, 3), (17, .aload_n 0, 1), (18, .iload_n 1, 1)] 19 #[Ab x, Aa 0, .unset] [.int 0, .ref x] ?_
  refine Al C S30 hw 62 63 65 65 64 66 9 (Bu l Z a0 hw G1 G3 x _ _ _ _ 0 ((Ad x0).toInt8.toInt32) (Ad x0) h6 n0 f10 f20 f21 f22 f23 f24 O2 O4 P5 rG3 (⟨(by decide), (by decide)⟩) rfl (Ca hx0) (Aq hx0)) 0 f21 [.int 0] [] Bl ?_
  rintro T32 h33 v34 L35 S36 ⟨⟨rfl, e31⟩, -⟩
  rw [e31] at S36; clear e31
  refine Ah C S36 hw 84 85 43 86 (Bk l Z a0 hw x0 h6 n0 f10 hx0) 0 [.int (Ad x0)] [] Bm ?_
  rintro T38 h39 v40 L41 S42 ⟨⟨rfl, e37⟩, -⟩
  rw [e37] at S42; clear e37
  refine Ba C S42 .ge 22 47 (fun (q43 : ¬ x0 < (0 : Int32)) => ?_) (fun (hq : x0 < (0 : Int32)) => False.elim (Bp hx0 hq))
  refine Ac C S42 [(47, .iinc 1 1, 3), (50, .goto (-41), 3), (9, .iload_n 1, 1), (10, .aload_n 0, 1)] 11 #[Ab x, Aa 1, .unset] [.ref x, .int 1] ?_
  refine Al C S42 hw 52 53 55 55 54 56 9 (Bb l Z a0 hw G1 G3 x _ _ _ _ h6 n0 f10 f20 f21 f22 f23 f24 O2 O4 P5 rG3) 1 f21 [] [.int 1] Av ?_
  rintro T45 h46 v47 L48 S49 ⟨⟨rfl, e44⟩, -⟩
  rw [e44] at S49; clear e44
  refine Ac C S49 [(14, .if_icmp .ge 39, 3), (17, .aload_n 0, 1), (18, .iload_n 1, 1)] 19 #[Ab x, Aa 1, .unset] [.int 1, .ref x] ?_
  refine Al C S49 hw 62 63 65 65 64 66 9 (Bu l Z a0 hw G1 G3 x _ _ _ _ 1 ((Ad x1).toInt8.toInt32) (Ad x1) h6 n0 f10 f20 f21 f22 f23 f24 O2 O4 P5 rG3 (⟨(by decide), (by decide)⟩) rfl (Ca hx1) (Aq hx1)) 0 f21 [.int 1] [] Bl ?_
  rintro T51 h52 v53 L54 S55 ⟨⟨rfl, e50⟩, -⟩
  rw [e50] at S55; clear e50
  refine Ah C S55 hw 84 85 43 86 (Bk l Z a0 hw x1 h6 n0 f10 hx1) 0 [.int (Ad x1)] [] Bm ?_
  rintro T57 h58 v59 L60 S61 ⟨⟨rfl, e56⟩, -⟩
  rw [e56] at S61; clear e56
  refine Ba C S61 .ge 22 47 (fun (q62 : ¬ x1 < (0 : Int32)) => ?_) (fun (hq : x1 < (0 : Int32)) => False.elim (Bp hx1 hq))
  refine Ac C S61 [(47, .iinc 1 1, 3), (50, .goto (-41), 3), (9, .iload_n 1, 1), (10, .aload_n 0, 1)] 11 #[Ab x, Aa 2, .unset] [.ref x, .int 2] ?_
  refine Al C S61 hw 52 53 55 55 54 56 9 (Bb l Z a0 hw G1 G3 x _ _ _ _ h6 n0 f10 f20 f21 f22 f23 f24 O2 O4 P5 rG3) 1 f21 [] [.int 2] Av ?_
  rintro T64 h65 v66 L67 S68 ⟨⟨rfl, e63⟩, -⟩
  rw [e63] at S68; clear e63
  refine Ac C S68 [(14, .if_icmp .ge 39, 3), (17, .aload_n 0, 1), (18, .iload_n 1, 1)] 19 #[Ab x, Aa 2, .unset] [.int 2, .ref x] ?_
  refine Al C S68 hw 62 63 65 65 64 66 9 (Bu l Z a0 hw G1 G3 x _ _ _ _ 2 ((Ad x2).toInt8.toInt32) (Ad x2) h6 n0 f10 f20 f21 f22 f23 f24 O2 O4 P5 rG3 (⟨(by decide), (by decide)⟩) rfl (Ca hx2) (Aq hx2)) 0 f21 [.int 2] [] Bl ?_
  rintro T70 h71 v72 L73 S74 ⟨⟨rfl, e69⟩, -⟩
  rw [e69] at S74; clear e69
  refine Ah C S74 hw 84 85 43 86 (Bk l Z a0 hw x2 h6 n0 f10 hx2) 0 [.int (Ad x2)] [] Bm ?_
  rintro T76 h77 v78 L79 S80 ⟨⟨rfl, e75⟩, -⟩
  rw [e75] at S80; clear e75
  refine Ba C S80 .ge 22 47 (fun (q81 : ¬ x2 < (0 : Int32)) => ?_) (fun (hq : x2 < (0 : Int32)) => False.elim (Bp hx2 hq))
  refine Ac C S80 [(47, .iinc 1 1, 3), (50, .goto (-41), 3), (9, .iload_n 1, 1), (10, .aload_n 0, 1)] 11 #[Ab x, Aa 3, .unset] [.ref x, .int 3] ?_
  refine Al C S80 hw 52 53 55 55 54 56 9 (Bb l Z a0 hw G1 G3 x _ _ _ _ h6 n0 f10 f20 f21 f22 f23 f24 O2 O4 P5 rG3) 1 f21 [] [.int 3] Av ?_
  rintro T83 h84 v85 L86 S87 ⟨⟨rfl, e82⟩, -⟩
  rw [e82] at S87; clear e82
  refine Ac C S87 [(14, .if_icmp .ge 39, 3), (53, .aload_n 0, 1)] 54 #[Ab x, Aa 3, .unset] [.ref x] ?_
  refine Al C S87 hw 52 53 55 55 54 56 9 (Bb l Z a0 hw G1 G3 x _ _ _ _ h6 n0 f10 f20 f21 f22 f23 f24 O2 O4 P5 rG3) 0 f21 [] [] Av ?_
  rintro T89 h90 v91 L92 S93 ⟨⟨rfl, e88⟩, -⟩
  rw [e88] at S93; clear e88
  refine Ac C S93 [(57, .iconst 1, 1), (58, .isub, 1), (59, .istore_n 1, 1), (60, .aload_n 0, 1)] 61 #[Ab x, Aa 2, .unset] [.ref x] ?_
  refine Al C S93 hw 52 53 55 55 54 56 9 (Bb l Z a0 hw G1 G3 x _ _ _ _ h6 n0 f10 f20 f21 f22 f23 f24 O2 O4 P5 rG3) 0 f21 [] [] Av ?_
  rintro T95 h96 v97 L98 S99 ⟨⟨rfl, e94⟩, -⟩
  rw [e94] at S99; clear e94
  refine Ac C S99 [(64, .iconst 4, 1)] 65 #[Ab x, Aa 2, .unset] [.int 4, .int 3] ?_
  refine Dk C S99 (by decide +kernel) (by decide) ?_
  refine own_tsi C S99 (df := 53) (lo := 1) (hi := 3) (offs := #[26, 45, 49]) (len := 26) (o := 49) (by decide +kernel) (by decide) (by decide) (by decide) 115 (by decide) ?_
  refine Ac C S99 [(115, .iconst 2, 1), (116, .goto 4, 3), (120, .istore_n 2, 1), (121, .iload_n 2, 1), (122, .ifCond .le 39, 3), (125, .aload_n 0, 1), (126, .iload_n 1, 1)] 127 #[Ab x, Aa 2, Aa 2] [.int 2, .ref x] ?_
  refine Al C S99 hw 62 63 65 65 64 66 9 (Bu l Z a0 hw G1 G3 x _ _ _ _ 2 ((Ad x2).toInt8.toInt32) (Ad x2) h6 n0 f10 f20 f21 f22 f23 f24 O2 O4 P5 rG3 (⟨(by decide), (by decide)⟩) rfl (Ca hx2) (Aq hx2)) 0 f21 [.int 2] [] Bl ?_
  rintro T101 h102 v103 L104 S105 ⟨⟨rfl, e100⟩, -⟩
  rw [e100] at S105; clear e100
  refine Ah C S105 hw 84 85 43 86 (Bk l Z a0 hw x2 h6 n0 f10 hx2) 0 [.int (Ad x2)] [] Bm ?_
  rintro T107 h108 v109 L110 S111 ⟨⟨rfl, e106⟩, -⟩
  rw [e106] at S111; clear e106
  refine Ac C S111 [(133, .iconst 1, 1), (134, .iload_n 2, 1), (135, .ishl, 1), (136, .iconst 1, 1), (137, .isub, 1), (138, .iand, 1)] 139 #[Ab x, Aa 2, Aa 2] [.int (x2 &&& (((1 : Int32) <<< ((2 : Int32) &&& 31)) - (1 : Int32)))] ?_
  refine Ba C S111 .eq 22 161 (fun (q112 : (x2 &&& (((1 : Int32) <<< ((2 : Int32) &&& 31)) - (1 : Int32))) = (0 : Int32)) => ?_) (fun (hq : ¬ (x2 &&& (((1 : Int32) <<< ((2 : Int32) &&& 31)) - (1 : Int32))) = (0 : Int32)) => False.elim (hq hs))
  refine Az C S111 (ow hw 87 rfl) Via.refl (OD.ext f20.2) (by decide +kernel) ?_
  intro T113 S114
  refine Ac C S114 [(164, .aload_n 0, 1)] 165 #[Ab x, Aa 2, Aa 2] [.ref x, .ref DE] ?_
  have f115 := (TK.ext E9)
  have f116 := (Exa.ext E9 DEx)
  have f117 := (Fld.ext E9 DEu)
  have f118 := (Fld.ext E9 DEm)
  have f119 := (Exa.ext E9 s4)
  refine Al C S114 hw 89 90 92 92 91 94 93 (own_ds3 l Z a0 hw G1 G3 U8 I8 TB TBk DE x _ _ x0 x1 x2 h6 n0 f10 f20 f115 f116 f117 f118 f21 f22 f23 f24 f119 XS hx0 hx1 hx2) 0 f116 [.ref x] [] Cu ?_
  rintro T125 h126 v127 L128 S129 ⟨⟨a120, k121, rfl, g122, K123, f124⟩, -⟩
  have o130 : h6.size ≤ a120 := Nat.le_trans (Nat.le_refl _) g122
  have SW131 := rb19 _ _ _ _ [] [a120] S129 ((Keep.refl _ _).trans K123 all0) all0 (allS ⟨o130, f124.lt⟩ all0)
  refine Dg CW SW131 rfl rfl (by decide +kernel) (by decide) (by decide) ?_
  have o133 : h0.size ≤ h6.size := (Nat.le_trans (Nat.le_refl _) E9.1)
  have o132 : h0.size ≤ a120 := Nat.le_trans o133 g122
  exact ⟨a120, k121, rfl, o132, (((Keep.refl _ _).ext E9).trans K123 all0), f124⟩
theorem own_dl4 (hw : Ao a0 Z) (G1 : Int32) (G3 : Value) (U8 : Addr) (I8 : Addr) (TB : Addr) (TBk : ClassId) (DE : Addr) (b : Addr) (bk : ClassId) (x0 : Int32) (x1 : Int32) (x2 : Int32) (x3 : Int32) (h0 : Heap) (n0 : Nat) (z0 : n0 ≤ h0.size) (X00 : Old Z n0 h0) (TK : Arv Z h0 TB TBk .int 256 Bt (.int 0)) (DEx : Exa Z h0 DE "java/util/Base64$Decoder") (DEu : Fld Z h0 DE "java/util/Base64$Decoder" "isURL" "Z" (.int 1)) (DEm : Fld Z h0 DE "java/util/Base64$Decoder" "isMIME" "Z" (.int 0)) (b0 : Arv Z h0 b bk .byte (4 : Int32) ([(.int ((Ad x0).toInt8.toInt32)), (.int ((Ad x1).toInt8.toInt32)), (.int ((Ad x2).toInt8.toInt32)), (.int ((Ad x3).toInt8.toInt32))]) (.int 0)) (b1 : Exa Z h0 b "[B") (XS : Bf Z n0 G1 G3 U8 I8 TB DE) (hx0 : Ag x0) (hx1 : Ag x1) (hx2 : Ag x2) (hx3 : Ag x3) :
    Af l Z (⟨"java/util/Base64$Decoder", "decodedOutLength", "([BII)I"⟩ : MethodName) jdk_2450_method_7_code 9 (some .int) ({ frames := 0, cells := 0, slots := 0, locals := 0 } : Room) n0 #[(.ref DE), (.ref b), (.int 0), (.int 4)] h0 (fun v h => v = some (.int 3) ∧ h = h0) := by
  refine Ar #[.val (.ref DE), .val (.ref b), .val (.int 0), .val (.int 4), .unset, .unset, .unset, .unset, .unset] ?_
  intro p e s m below meth c T0 C S0
  have XS_ := XS
  obtain ⟨O2, O4, P5, rG3, OU, OI, OT, OD, hUI, TBlt, DElt⟩ := XS_
  refine Ac C S0 [(0, .aload_n 0, 1)] 1 #[Ab DE, Ab b, Aa 0, Aa 4, .unset, .unset, .unset, .unset, .unset] [.ref DE] ?_
  refine Cb C S0 hw 133 DEu ?_
  intro T1 S2
  refine Ac C S2 [(4, .ifCond .eq 9, 3)] 7 #[Ab DE, Ab b, Aa 0, Aa 4, .unset, .unset, .unset, .unset, .unset] [] ?_
  refine Az C S2 (ow hw 135 rfl) Via.refl (OT.ext X00.2) (by decide +kernel) ?_
  intro T3 S4
  refine Ac C S4 [(10, .goto 6, 3), (16, .astore 4, 2), (18, .iconst 0, 1), (19, .istore 5, 2), (21, .iload_n 3, 1), (22, .iload_n 2, 1), (23, .isub, 1), (24, .istore 6, 2), (26, .iload 6, 2), (28, .ifCond .ne 5, 3), (33, .iload 6, 2), (35, .iconst 2, 1), (36, .if_icmp .ge 30, 3), (66, .aload_n 0, 1)] 67 #[Ab DE, Ab b, Aa 0, Aa 4, Ab TB, Aa 0, Aa 4, .unset, .unset] [.ref DE] ?_
  refine Cb C S4 hw 136 DEm ?_
  intro T5 S6
  refine Ac C S6 [(70, .ifCond .eq 71, 3), (141, .aload_n 1, 1), (142, .iload_n 3, 1), (143, .iconst 1, 1), (144, .isub, 1)] 145 #[Ab DE, Ab b, Aa 0, Aa 4, Ab TB, Aa 0, Aa 4, .unset, .unset] [.int 3, .ref b] ?_
  refine As C S6 b0 ⟨(by decide), (by decide)⟩ (.int ((Ad x3).toInt8.toInt32)) rfl (by decide +kernel) ?_
  refine Ac C S6 [(146, .bipush 61, 2)] 148 #[Ab DE, Ab b, Aa 0, Aa 4, Ab TB, Aa 0, Aa 4, .unset, .unset] [.int 61, .int ((Ad x3).toInt8.toInt32)] ?_
  refine Bj C S6 .ne 19 167 (fun (q7 : ¬ ((Ad x3).toInt8.toInt32) = (61 : Int32)) => ?_) (fun (hq : ((Ad x3).toInt8.toInt32) = (61 : Int32)) => False.elim (Em hx3 hq))
  refine Ac C S6 [(167, .iload 5, 2), (169, .ifCond .ne 18, 3), (172, .iload 6, 2), (174, .iconst 3, 1), (175, .iand, 1), (176, .ifCond .eq 11, 3), (187, .iconst 3, 1), (188, .iload 6, 2), (190, .i2l, 1)] 191 #[Ab DE, Ab b, Aa 0, Aa 4, Ab TB, Aa 0, Aa 4, .unset, .unset] [.long ((4 : Int32).toInt64), .int 3] ?_
  refine Bz C S6 (ow hw 138 rfl) (by decide +kernel) ?_
  refine Ac C S6 [(194, .ladd, 1)] 195 #[Ab DE, Ab b, Aa 0, Aa 4, Ab TB, Aa 0, Aa 4, .unset, .unset] [.long ((4 : Int32).toInt64 + 3), .int 3] ?_
  refine Bz C S6 (ow hw 139 rfl) (by decide +kernel) ?_
  refine Ea C S6 (by decide +kernel) (by decide) ?_
  rw [show (((4 : Int32).toInt64 + 3) / 4) = (1 : Int64) from (by decide)]
  refine Ac C S6 [(199, .l2i, 1), (200, .imul, 1), (201, .iload 5, 2), (203, .isub, 1)] 204 #[Ab DE, Ab b, Aa 0, Aa 4, Ab TB, Aa 0, Aa 4, .unset, .unset] [.int (((3 : Int32) * (1 : Int64).toInt32) - (0 : Int32))] ?_
  rw [show (((3 : Int32) * (1 : Int64).toInt32) - (0 : Int32)) = (3 : Int32) from (by decide)]
  refine Bq C S6 (by decide +kernel) (by decide) (by decide) ?_
  exact ⟨rfl, rfl⟩
theorem own_d04 (hw : Ao a0 Z) (G1 : Int32) (G3 : Value) (U8 : Addr) (I8 : Addr) (TB : Addr) (TBk : ClassId) (DE : Addr) (b : Addr) (bk : ClassId) (d : Addr) (dk : ClassId) (x0 : Int32) (x1 : Int32) (x2 : Int32) (x3 : Int32) (h0 : Heap) (n0 : Nat) (z0 : n0 ≤ h0.size) (ge_d : n0 ≤ d) (X00 : Old Z n0 h0) (TK : Arv Z h0 TB TBk .int 256 Bt (.int 0)) (DEx : Exa Z h0 DE "java/util/Base64$Decoder") (DEu : Fld Z h0 DE "java/util/Base64$Decoder" "isURL" "Z" (.int 1)) (DEm : Fld Z h0 DE "java/util/Base64$Decoder" "isMIME" "Z" (.int 0)) (b0 : Arv Z h0 b bk .byte (4 : Int32) ([(.int ((Ad x0).toInt8.toInt32)), (.int ((Ad x1).toInt8.toInt32)), (.int ((Ad x2).toInt8.toInt32)), (.int ((Ad x3).toInt8.toInt32))]) (.int 0)) (b1 : Exa Z h0 b "[B") (dK : Arv Z h0 d dk .byte (3 : Int32) ([(.int 0), (.int 0), (.int 0)]) (.int 0)) (ne_b_d : b ≠ d) (XS : Bf Z n0 G1 G3 U8 I8 TB DE) (hx0 : Ag x0) (hx1 : Ag x1) (hx2 : Ag x2) (hx3 : Ag x3) :
    Af l Z (⟨"java/util/Base64$Decoder", "decode0", "([BII[B)I"⟩ : MethodName) jdk_2450_method_9_code 11 (some .int) ({ frames := 0, cells := 0, slots := 0, locals := 0 } : Room) n0 #[(.ref DE), (.ref b), (.int 0), (.int 4), (.ref d)] h0 (fun v h => v = some (.int 3) ∧ Keep h0 h [d] ∧ Arv Z h d dk .byte (3 : Int32) ([(.int (Be (Cx x0 x1 x2 x3))), (.int (Bn (Cx x0 x1 x2 x3))), (.int (Bw (Cx x0 x1 x2 x3)))]) (.int 0)) := by
  refine Ar #[.val (.ref DE), .val (.ref b), .val (.int 0), .val (.int 4), .val (.ref d), .unset, .unset, .unset, .unset, .unset, .unset] ?_
  intro p e s m below meth c T0 C S0
  have XS_ := XS
  obtain ⟨O2, O4, P5, rG3, OU, OI, OT, OD, hUI, TBlt, DElt⟩ := XS_
  refine Ac C S0 [(0, .aload_n 0, 1)] 1 #[Ab DE, Ab b, Aa 0, Aa 4, Ab d, .unset, .unset, .unset, .unset, .unset, .unset] [.ref DE] ?_
  refine Cb C S0 hw 133 DEu ?_
  intro T1 S2
  refine Ac C S2 [(4, .ifCond .eq 9, 3)] 7 #[Ab DE, Ab b, Aa 0, Aa 4, Ab d, .unset, .unset, .unset, .unset, .unset, .unset] [] ?_
  refine Az C S2 (ow hw 135 rfl) Via.refl (OT.ext X00.2) (by decide +kernel) ?_
  intro T3 S4
  refine Ac C S4 [(10, .goto 6, 3), (16, .astore 5, 2), (18, .iconst 0, 1), (19, .istore 6, 2), (21, .iconst 0, 1), (22, .istore 7, 2), (24, .bipush 18, 2), (26, .istore 8, 2), (28, .iload_n 2, 1), (29, .iload_n 3, 1), (30, .if_icmp .ge 251, 3), (33, .iload 8, 2), (35, .bipush 18, 2), (37, .if_icmp .ne 53, 3), (40, .iload_n 2, 1), (41, .iload_n 3, 1), (42, .iconst 4, 1), (43, .isub, 1), (44, .if_icmp .ge 46, 3), (90, .iload_n 2, 1), (91, .iload_n 3, 1), (92, .if_icmp .lt 6, 3), (98, .aload_n 1, 1), (99, .iload_n 2, 1), (100, .iinc 2 1, 3)] 103 #[Ab DE, Ab b, Aa 1, Aa 4, Ab d, Ab TB, Aa 0, Aa 0, Aa 18, .unset, .unset] [.int 0, .ref b] ?_
  refine As C S4 b0 ⟨(by decide), (by decide)⟩ (.int ((Ad x0).toInt8.toInt32)) rfl (by decide +kernel) ?_
  refine Ac C S4 [(104, .sipush 255, 3), (107, .iand, 1), (108, .istore 9, 2), (110, .aload 5, 2), (112, .iload 9, 2)] 114 #[Ab DE, Ab b, Aa 1, Aa 4, Ab d, Ab TB, Aa 0, Aa 0, Aa 18, Aa ((Ad x0).toInt8.toInt32 &&& (255 : Int32)), .unset] [.int ((Ad x0).toInt8.toInt32 &&& (255 : Int32)), .ref TB] ?_
  refine Aw C S4 TK (Ce hx0) (.int x0) (Cd hx0) (by decide +kernel) ?_
  refine Ac C S4 [(115, .dup, 1), (116, .istore 9, 2)] 118 #[Ab DE, Ab b, Aa 1, Aa 4, Ab d, Ab TB, Aa 0, Aa 0, Aa 18, Aa x0, .unset] [.int x0] ?_
  refine Ba C S4 .ge 96 214 (fun (q5 : ¬ x0 < (0 : Int32)) => ?_) (fun (hq : x0 < (0 : Int32)) => False.elim (Bp hx0 hq))
  refine Ac C S4 [(214, .iload 7, 2), (216, .iload 9, 2), (218, .iload 8, 2), (220, .ishl, 1), (221, .ior, 1), (222, .istore 7, 2), (224, .iinc 8 (-6), 3), (227, .iload 8, 2), (229, .ifCond .ge 49, 3), (278, .goto (-250), 3), (28, .iload_n 2, 1), (29, .iload_n 3, 1), (30, .if_icmp .ge 251, 3), (33, .iload 8, 2), (35, .bipush 18, 2), (37, .if_icmp .ne 53, 3), (90, .iload_n 2, 1), (91, .iload_n 3, 1), (92, .if_icmp .lt 6, 3), (98, .aload_n 1, 1), (99, .iload_n 2, 1), (100, .iinc 2 1, 3)] 103 #[Ab DE, Ab b, Aa 2, Aa 4, Ab d, Ab TB, Aa 0, Aa ((0 : Int32) ||| (x0 <<< ((18 : Int32) &&& 31))), Aa 12, Aa x0, .unset] [.int 1, .ref b] ?_
  refine As C S4 b0 ⟨(by decide), (by decide)⟩ (.int ((Ad x1).toInt8.toInt32)) rfl (by decide +kernel) ?_
  refine Ac C S4 [(104, .sipush 255, 3), (107, .iand, 1), (108, .istore 9, 2), (110, .aload 5, 2), (112, .iload 9, 2)] 114 #[Ab DE, Ab b, Aa 2, Aa 4, Ab d, Ab TB, Aa 0, Aa ((0 : Int32) ||| (x0 <<< ((18 : Int32) &&& 31))), Aa 12, Aa ((Ad x1).toInt8.toInt32 &&& (255 : Int32)), .unset] [.int ((Ad x1).toInt8.toInt32 &&& (255 : Int32)), .ref TB] ?_
  refine Aw C S4 TK (Ce hx1) (.int x1) (Cd hx1) (by decide +kernel) ?_
  refine Ac C S4 [(115, .dup, 1), (116, .istore 9, 2)] 118 #[Ab DE, Ab b, Aa 2, Aa 4, Ab d, Ab TB, Aa 0, Aa ((0 : Int32) ||| (x0 <<< ((18 : Int32) &&& 31))), Aa 12, Aa x1, .unset] [.int x1] ?_
  refine Ba C S4 .ge 96 214 (fun (q6 : ¬ x1 < (0 : Int32)) => ?_) (fun (hq : x1 < (0 : Int32)) => False.elim (Bp hx1 hq))
  refine Ac C S4 [(214, .iload 7, 2), (216, .iload 9, 2), (218, .iload 8, 2), (220, .ishl, 1), (221, .ior, 1), (222, .istore 7, 2), (224, .iinc 8 (-6), 3), (227, .iload 8, 2), (229, .ifCond .ge 49, 3), (278, .goto (-250), 3), (28, .iload_n 2, 1), (29, .iload_n 3, 1), (30, .if_icmp .ge 251, 3), (33, .iload 8, 2), (35, .bipush 18, 2), (37, .if_icmp .ne 53, 3), (90, .iload_n 2, 1), (91, .iload_n 3, 1), (92, .if_icmp .lt 6, 3), (98, .aload_n 1, 1), (99, .iload_n 2, 1), (100, .iinc 2 1, 3)] 103 #[Ab DE, Ab b, Aa 3, Aa 4, Ab d, Ab TB, Aa 0, Aa (((0 : Int32) ||| (x0 <<< ((18 : Int32) &&& 31))) ||| (x1 <<< ((12 : Int32) &&& 31))), Aa 6, Aa x1, .unset] [.int 2, .ref b] ?_
  refine As C S4 b0 ⟨(by decide), (by decide)⟩ (.int ((Ad x2).toInt8.toInt32)) rfl (by decide +kernel) ?_
  refine Ac C S4 [(104, .sipush 255, 3), (107, .iand, 1), (108, .istore 9, 2), (110, .aload 5, 2), (112, .iload 9, 2)] 114 #[Ab DE, Ab b, Aa 3, Aa 4, Ab d, Ab TB, Aa 0, Aa (((0 : Int32) ||| (x0 <<< ((18 : Int32) &&& 31))) ||| (x1 <<< ((12 : Int32) &&& 31))), Aa 6, Aa ((Ad x2).toInt8.toInt32 &&& (255 : Int32)), .unset] [.int ((Ad x2).toInt8.toInt32 &&& (255 : Int32)), .ref TB] ?_
  refine Aw C S4 TK (Ce hx2) (.int x2) (Cd hx2) (by decide +kernel) ?_
  refine Ac C S4 [(115, .dup, 1), (116, .istore 9, 2)] 118 #[Ab DE, Ab b, Aa 3, Aa 4, Ab d, Ab TB, Aa 0, Aa (((0 : Int32) ||| (x0 <<< ((18 : Int32) &&& 31))) ||| (x1 <<< ((12 : Int32) &&& 31))), Aa 6, Aa x2, .unset] [.int x2] ?_
  refine Ba C S4 .ge 96 214 (fun (q7 : ¬ x2 < (0 : Int32)) => ?_) (fun (hq : x2 < (0 : Int32)) => False.elim (Bp hx2 hq))
  refine Ac C S4 [(214, .iload 7, 2), (216, .iload 9, 2), (218, .iload 8, 2), (220, .ishl, 1), (221, .ior, 1), (222, .istore 7, 2), (224, .iinc 8 (-6), 3), (227, .iload 8, 2), (229, .ifCond .ge 49, 3), (278, .goto (-250), 3), (28, .iload_n 2, 1), (29, .iload_n 3, 1), (30, .if_icmp .ge 251, 3), (33, .iload 8, 2), (35, .bipush 18, 2), (37, .if_icmp .ne 53, 3), (90, .iload_n 2, 1), (91, .iload_n 3, 1), (92, .if_icmp .lt 6, 3), (98, .aload_n 1, 1), (99, .iload_n 2, 1), (100, .iinc 2 1, 3)] 103 #[Ab DE, Ab b, Aa 4, Aa 4, Ab d, Ab TB, Aa 0, Aa ((((0 : Int32) ||| (x0 <<< ((18 : Int32) &&& 31))) ||| (x1 <<< ((12 : Int32) &&& 31))) ||| (x2 <<< ((6 : Int32) &&& 31))), Aa 0, Aa x2, .unset] [.int 3, .ref b] ?_
  refine As C S4 b0 ⟨(by decide), (by decide)⟩ (.int ((Ad x3).toInt8.toInt32)) rfl (by decide +kernel) ?_
  refine Ac C S4 [(104, .sipush 255, 3), (107, .iand, 1), (108, .istore 9, 2), (110, .aload 5, 2), (112, .iload 9, 2)] 114 #[Ab DE, Ab b, Aa 4, Aa 4, Ab d, Ab TB, Aa 0, Aa ((((0 : Int32) ||| (x0 <<< ((18 : Int32) &&& 31))) ||| (x1 <<< ((12 : Int32) &&& 31))) ||| (x2 <<< ((6 : Int32) &&& 31))), Aa 0, Aa ((Ad x3).toInt8.toInt32 &&& (255 : Int32)), .unset] [.int ((Ad x3).toInt8.toInt32 &&& (255 : Int32)), .ref TB] ?_
  refine Aw C S4 TK (Ce hx3) (.int x3) (Cd hx3) (by decide +kernel) ?_
  refine Ac C S4 [(115, .dup, 1), (116, .istore 9, 2)] 118 #[Ab DE, Ab b, Aa 4, Aa 4, Ab d, Ab TB, Aa 0, Aa ((((0 : Int32) ||| (x0 <<< ((18 : Int32) &&& 31))) ||| (x1 <<< ((12 : Int32) &&& 31))) ||| (x2 <<< ((6 : Int32) &&& 31))), Aa 0, Aa x3, .unset] [.int x3] ?_
  refine Ba C S4 .ge 96 214 (fun (q8 : ¬ x3 < (0 : Int32)) => ?_) (fun (hq : x3 < (0 : Int32)) => False.elim (Bp hx3 hq))
  refine Ac C S4 [(214, .iload 7, 2), (216, .iload 9, 2), (218, .iload 8, 2), (220, .ishl, 1), (221, .ior, 1), (222, .istore 7, 2), (224, .iinc 8 (-6), 3), (227, .iload 8, 2), (229, .ifCond .ge 49, 3), (232, .aload 4, 2), (234, .iload 6, 2), (236, .iinc 6 1, 3), (239, .iload 7, 2), (241, .bipush 16, 2), (243, .ishr, 1), (244, .i2b, 1)] 245 #[Ab DE, Ab b, Aa 4, Aa 4, Ab d, Ab TB, Aa 1, Aa (((((0 : Int32) ||| (x0 <<< ((18 : Int32) &&& 31))) ||| (x1 <<< ((12 : Int32) &&& 31))) ||| (x2 <<< ((6 : Int32) &&& 31))) ||| (x3 <<< ((0 : Int32) &&& 31))), Aa (-6), Aa x3, .unset] [.int (((((((0 : Int32) ||| (x0 <<< ((18 : Int32) &&& 31))) ||| (x1 <<< ((12 : Int32) &&& 31))) ||| (x2 <<< ((6 : Int32) &&& 31))) ||| (x3 <<< ((0 : Int32) &&& 31))) >>> ((16 : Int32) &&& 31)).toInt8.toInt32), .int 0, .ref d] ?_
  refine Aj C S4 dK ⟨(by decide), (by decide)⟩ 0 rfl (Am rfl) (((((((0 : Int32) ||| (x0 <<< ((18 : Int32) &&& 31))) ||| (x1 <<< ((12 : Int32) &&& 31))) ||| (x2 <<< ((6 : Int32) &&& 31))) ||| (x3 <<< ((0 : Int32) &&& 31))) >>> ((16 : Int32) &&& 31)).toInt8.toInt32) (Au _) ge_d (by decide +kernel) ?_
  intro T9 h11 S10 W12 f13
  have f14 : Arv Z h11 d dk .byte (3 : Int32) ([(.int (((((((0 : Int32) ||| (x0 <<< ((18 : Int32) &&& 31))) ||| (x1 <<< ((12 : Int32) &&& 31))) ||| (x2 <<< ((6 : Int32) &&& 31))) ||| (x3 <<< ((0 : Int32) &&& 31))) >>> ((16 : Int32) &&& 31)).toInt8.toInt32)), (.int 0), (.int 0)]) (.int 0) := f13
  refine Ac C S10 [(246, .aload 4, 2), (248, .iload 6, 2), (250, .iinc 6 1, 3), (253, .iload 7, 2), (255, .bipush 8, 2), (257, .ishr, 1), (258, .i2b, 1)] 259 #[Ab DE, Ab b, Aa 4, Aa 4, Ab d, Ab TB, Aa 2, Aa (((((0 : Int32) ||| (x0 <<< ((18 : Int32) &&& 31))) ||| (x1 <<< ((12 : Int32) &&& 31))) ||| (x2 <<< ((6 : Int32) &&& 31))) ||| (x3 <<< ((0 : Int32) &&& 31))), Aa (-6), Aa x3, .unset] [.int (((((((0 : Int32) ||| (x0 <<< ((18 : Int32) &&& 31))) ||| (x1 <<< ((12 : Int32) &&& 31))) ||| (x2 <<< ((6 : Int32) &&& 31))) ||| (x3 <<< ((0 : Int32) &&& 31))) >>> ((8 : Int32) &&& 31)).toInt8.toInt32), .int 1, .ref d] ?_
  refine Aj C S10 f14 ⟨(by decide), (by decide)⟩ 1 rfl (Am rfl) (((((((0 : Int32) ||| (x0 <<< ((18 : Int32) &&& 31))) ||| (x1 <<< ((12 : Int32) &&& 31))) ||| (x2 <<< ((6 : Int32) &&& 31))) ||| (x3 <<< ((0 : Int32) &&& 31))) >>> ((8 : Int32) &&& 31)).toInt8.toInt32) (Au _) ge_d (by decide +kernel) ?_
  intro T15 h17 S16 W18 f19
  have f20 : Arv Z h17 d dk .byte (3 : Int32) ([(.int (((((((0 : Int32) ||| (x0 <<< ((18 : Int32) &&& 31))) ||| (x1 <<< ((12 : Int32) &&& 31))) ||| (x2 <<< ((6 : Int32) &&& 31))) ||| (x3 <<< ((0 : Int32) &&& 31))) >>> ((16 : Int32) &&& 31)).toInt8.toInt32)), (.int (((((((0 : Int32) ||| (x0 <<< ((18 : Int32) &&& 31))) ||| (x1 <<< ((12 : Int32) &&& 31))) ||| (x2 <<< ((6 : Int32) &&& 31))) ||| (x3 <<< ((0 : Int32) &&& 31))) >>> ((8 : Int32) &&& 31)).toInt8.toInt32)), (.int 0)]) (.int 0) := f19
  refine Ac C S16 [(260, .aload 4, 2), (262, .iload 6, 2), (264, .iinc 6 1, 3), (267, .iload 7, 2), (269, .i2b, 1)] 270 #[Ab DE, Ab b, Aa 4, Aa 4, Ab d, Ab TB, Aa 3, Aa (((((0 : Int32) ||| (x0 <<< ((18 : Int32) &&& 31))) ||| (x1 <<< ((12 : Int32) &&& 31))) ||| (x2 <<< ((6 : Int32) &&& 31))) ||| (x3 <<< ((0 : Int32) &&& 31))), Aa (-6), Aa x3, .unset] [.int ((((((0 : Int32) ||| (x0 <<< ((18 : Int32) &&& 31))) ||| (x1 <<< ((12 : Int32) &&& 31))) ||| (x2 <<< ((6 : Int32) &&& 31))) ||| (x3 <<< ((0 : Int32) &&& 31))).toInt8.toInt32), .int 2, .ref d] ?_
  refine Aj C S16 f20 ⟨(by decide), (by decide)⟩ 2 rfl (Am rfl) ((((((0 : Int32) ||| (x0 <<< ((18 : Int32) &&& 31))) ||| (x1 <<< ((12 : Int32) &&& 31))) ||| (x2 <<< ((6 : Int32) &&& 31))) ||| (x3 <<< ((0 : Int32) &&& 31))).toInt8.toInt32) (Au _) ge_d (by decide +kernel) ?_
  intro T21 h23 S22 W24 f25
  have f26 : Arv Z h23 d dk .byte (3 : Int32) ([(.int (((((((0 : Int32) ||| (x0 <<< ((18 : Int32) &&& 31))) ||| (x1 <<< ((12 : Int32) &&& 31))) ||| (x2 <<< ((6 : Int32) &&& 31))) ||| (x3 <<< ((0 : Int32) &&& 31))) >>> ((16 : Int32) &&& 31)).toInt8.toInt32)), (.int (((((((0 : Int32) ||| (x0 <<< ((18 : Int32) &&& 31))) ||| (x1 <<< ((12 : Int32) &&& 31))) ||| (x2 <<< ((6 : Int32) &&& 31))) ||| (x3 <<< ((0 : Int32) &&& 31))) >>> ((8 : Int32) &&& 31)).toInt8.toInt32)), (.int ((((((0 : Int32) ||| (x0 <<< ((18 : Int32) &&& 31))) ||| (x1 <<< ((12 : Int32) &&& 31))) ||| (x2 <<< ((6 : Int32) &&& 31))) ||| (x3 <<< ((0 : Int32) &&& 31))).toInt8.toInt32))]) (.int 0) := f25
  refine Ac C S22 [(271, .bipush 18, 2), (273, .istore 8, 2), (275, .iconst 0, 1), (276, .istore 7, 2), (278, .goto (-250), 3), (28, .iload_n 2, 1), (29, .iload_n 3, 1), (30, .if_icmp .ge 251, 3), (281, .iload 8, 2), (283, .bipush 6, 2), (285, .if_icmp .ne 20, 3), (305, .iload 8, 2), (307, .ifCond .ne 34, 3), (341, .iload 8, 2), (343, .bipush 12, 2), (345, .if_icmp .ne 13, 3), (358, .iload_n 2, 1), (359, .iload_n 3, 1), (360, .if_icmp .ge 56, 3), (416, .iload 6, 2)] 418 #[Ab DE, Ab b, Aa 4, Aa 4, Ab d, Ab TB, Aa 3, Aa 0, Aa 18, Aa x3, .unset] [.int 3] ?_
  refine Bq C S22 (by decide +kernel) (by decide) (by decide) ?_
  exact ⟨rfl, ((((Keep.refl _ _).wr W12 (At 0)).wr W18 (At 0)).wr W24 (At 0)), f26⟩
theorem own_da4 (hw : Ao a0 Z) (G1 : Int32) (G3 : Value) (U8 : Addr) (I8 : Addr) (TB : Addr) (TBk : ClassId) (DE : Addr) (b : Addr) (bk : ClassId) (x0 : Int32) (x1 : Int32) (x2 : Int32) (x3 : Int32) (h0 : Heap) (n0 : Nat) (z0 : n0 ≤ h0.size) (X00 : Old Z n0 h0) (TK : Arv Z h0 TB TBk .int 256 Bt (.int 0)) (DEx : Exa Z h0 DE "java/util/Base64$Decoder") (DEu : Fld Z h0 DE "java/util/Base64$Decoder" "isURL" "Z" (.int 1)) (DEm : Fld Z h0 DE "java/util/Base64$Decoder" "isMIME" "Z" (.int 0)) (b0 : Arv Z h0 b bk .byte (4 : Int32) ([(.int ((Ad x0).toInt8.toInt32)), (.int ((Ad x1).toInt8.toInt32)), (.int ((Ad x2).toInt8.toInt32)), (.int ((Ad x3).toInt8.toInt32))]) (.int 0)) (b1 : Exa Z h0 b "[B") (XS : Bf Z n0 G1 G3 U8 I8 TB DE) (hx0 : Ag x0) (hx1 : Ag x1) (hx2 : Ag x2) (hx3 : Ag x3) :
    Af l Z (⟨"java/util/Base64$Decoder", "decode", "([B)[B"⟩ : MethodName) jdk_2450_method_2_code 4 (some (.array .byte)) ({ frames := 1, cells := 1, slots := 3, locals := 22 } : Room) n0 #[(.ref DE), (.ref b)] h0 (fun v h => ∃ r : Addr, ∃ rk : ClassId, v = some (.ref r) ∧ h0.size ≤ r ∧ Keep h0 h [] ∧ Arv Z h r rk .byte (3 : Int32) ([(.int (Be (Cx x0 x1 x2 x3))), (.int (Bn (Cx x0 x1 x2 x3))), (.int (Bw (Cx x0 x1 x2 x3)))]) (.int 0)) := by
  refine Ar #[.val (.ref DE), .val (.ref b), .unset, .unset] ?_
  intro p e s m below meth c T0 C S0
  have XS_ := XS
  obtain ⟨O2, O4, P5, rG3, OU, OI, OT, OD, hUI, TBlt, DElt⟩ := XS_
  refine Ac C S0 [(0, .aload_n 0, 1), (1, .aload_n 1, 1), (2, .iconst 0, 1), (3, .aload_n 1, 1)] 4 #[Ab DE, Ab b, .unset, .unset] [.ref b, .int 0, .ref b, .ref DE] ?_
  refine Ay C S0 b0 (by decide +kernel) ?_
  refine Cc C S0 (ow hw 128 rfl) (ow hw 129 rfl) (ow hw 131 rfl) (ow hw 130 rfl) (ow hw 132 rfl) (by decide) (Af.pay (own_dl4 l Z a0 hw G1 G3 U8 I8 TB TBk DE b _ x0 x1 x2 x3 h0 n0 z0 X00 TK DEx DEu DEm b0 b1 XS hx0 hx1 hx2 hx3) C 0 (ow hw 132 rfl) (ow hw 93 rfl) (by decide) (by decide)) (fun _ _ _ q => q.2) DEx [.ref b, .int 0, .int 4] [] rfl Ds rfl rfl rfl (Am rfl) (by decide) (by decide) (by decide +kernel) ?_
  rintro T2 h3 v4 L5 S6 ⟨⟨rfl, e1⟩, -⟩
  rw [e1] at S6; clear e1
  refine Co C S6 (aty := .byte) (ad := "[B") (by decide) (ow hw 30 rfl) (by decide +kernel) (by decide) 3 (by decide) (by decide) (by decide) (by decide) ?_
  intro T7 h9 a10 k11 S8 g12 E13 f14 x15
  have f16 : Arv Z h9 a10 k11 .byte (3 : Int32) ([(.int 0), (.int 0), (.int 0)]) (.int 0) := Arv.pad f14 (pad_rep [] (.int 0) 3)
  refine Ac C S8 [(10, .astore_n 2, 1), (11, .aload_n 0, 1), (12, .aload_n 1, 1), (13, .iconst 0, 1), (14, .aload_n 1, 1)] 15 #[Ab DE, Ab b, Ab a10, .unset] [.ref b, .int 0, .ref b, .ref DE] ?_
  have f17 := (b0.ext E13)
  refine Ay C S8 f17 (by decide +kernel) ?_
  refine Ac C S8 [(16, .aload_n 2, 1)] 17 #[Ab DE, Ab b, Ab a10, .unset] [.ref a10, .int 4, .int 0, .ref b, .ref DE] ?_
  have f18 := (X00.ext E13)
  have f19 := (TK.ext E13)
  have f20 := (Exa.ext E13 DEx)
  have f21 := (Fld.ext E13 DEu)
  have f22 := (Fld.ext E13 DEm)
  have f23 := (Exa.ext E13 b1)
  have f24 : n0 ≤ h9.size := (Nat.le_trans z0 E13.1)
  have g25 : n0 ≤ a10 := by rw [g12]; exact z0
  have n26 : b ≠ a10 := by rw [g12]; exact Nat.ne_of_lt b0.lt
  refine Cc C S8 (ow hw 140 rfl) (ow hw 141 rfl) (ow hw 143 rfl) (ow hw 142 rfl) (ow hw 144 rfl) (by decide) (Af.pay (own_d04 l Z a0 hw G1 G3 U8 I8 TB TBk DE b _ a10 _ x0 x1 x2 x3 h9 n0 f24 g25 f18 f19 f20 f21 f22 f17 f23 f16 n26 XS hx0 hx1 hx2 hx3) C 0 (ow hw 144 rfl) (ow hw 93 rfl) (by decide) (by decide)) (fun _ _ _ q => q.2) f20 [.ref b, .int 0, .int 4, .ref a10] [] rfl Dt rfl rfl rfl (Am rfl) (by decide) (by decide) (by decide +kernel) ?_
  rintro T29 h30 v31 L32 S33 ⟨⟨rfl, K27, f28⟩, -⟩
  refine Ac C S33 [(20, .istore_n 3, 1), (21, .iload_n 3, 1), (22, .aload_n 2, 1)] 23 #[Ab DE, Ab b, Ab a10, Aa 3] [.ref a10, .int 3] ?_
  refine Ay C S33 f28 (by decide +kernel) ?_
  refine Ac C S33 [(24, .if_icmp .eq 9, 3), (33, .aload_n 2, 1)] 34 #[Ab DE, Ab b, Ab a10, Aa 3] [.ref a10] ?_
  refine Br C S33 rfl rfl (by decide +kernel) (by decide) (by decide) ?_
  have o34 : h0.size ≤ a10 := by rw [g12]; exact (Nat.le_refl _)
  exact ⟨a10, k11, rfl, o34, (((Keep.refl _ _).ext E13).trans K27 (allS (Or.inr o34) all0)), f28⟩
theorem own_ds4 (hw : Ao a0 Z) (G1 : Int32) (G3 : Value) (U8 : Addr) (I8 : Addr) (TB : Addr) (TBk : ClassId) (DE : Addr) (x : Addr) (xt : Addr) (xtk : ClassId) (x0 : Int32) (x1 : Int32) (x2 : Int32) (x3 : Int32) (h0 : Heap) (n0 : Nat) (z0 : n0 ≤ h0.size) (X00 : Old Z n0 h0) (TK : Arv Z h0 TB TBk .int 256 Bt (.int 0)) (DEx : Exa Z h0 DE "java/util/Base64$Decoder") (DEu : Fld Z h0 DE "java/util/Base64$Decoder" "isURL" "Z" (.int 1)) (DEm : Fld Z h0 DE "java/util/Base64$Decoder" "isMIME" "Z" (.int 0)) (s0 : Exa Z h0 x "java/lang/String") (s1 : Fld Z h0 x "java/lang/String" "value" "[B" (.ref xt)) (s2 : Fld Z h0 x "java/lang/String" "coder" "B" (.int 0)) (s3 : Arv Z h0 xt xtk .byte (4 : Int32) ([(.int ((Ad x0).toInt8.toInt32)), (.int ((Ad x1).toInt8.toInt32)), (.int ((Ad x2).toInt8.toInt32)), (.int ((Ad x3).toInt8.toInt32))]) (.int 0)) (s4 : Exa Z h0 xt "[B") (XS : Bf Z n0 G1 G3 U8 I8 TB DE) (hx0 : Ag x0) (hx1 : Ag x1) (hx2 : Ag x2) (hx3 : Ag x3) :
    Af l Z (⟨"java/util/Base64$Decoder", "decode", "(Ljava/lang/String;)[B"⟩ : MethodName) jdk_2450_method_3_code 2 (some (.array .byte)) ({ frames := 5, cells := 2, slots := 11, locals := 76 } : Room) n0 #[(.ref DE), (.ref x)] h0 (fun v h => ∃ r : Addr, ∃ rk : ClassId, v = some (.ref r) ∧ h0.size ≤ r ∧ Keep h0 h [] ∧ Arv Z h r rk .byte (3 : Int32) ([(.int (Be (Cx x0 x1 x2 x3))), (.int (Bn (Cx x0 x1 x2 x3))), (.int (Bw (Cx x0 x1 x2 x3)))]) (.int 0)) := by
  refine Ar #[.val (.ref DE), .val (.ref x)] ?_
  intro p e s m below meth c T0 C S0
  have XS_ := XS
  obtain ⟨O2, O4, P5, rG3, OU, OI, OT, OD, hUI, TBlt, DElt⟩ := XS_
  refine Ac C S0 [(0, .aload_n 0, 1), (1, .aload_n 1, 1)] 2 #[Ab DE, Ab x] [.ref x, .ref DE] ?_
  refine Az C S0 (ow hw 95 rfl) Via.refl (OI.ext X00.2) (by decide +kernel) ?_
  intro T1 S2
  refine Al C S2 hw 97 98 100 100 99 101 9 (Es l Z a0 hw G1 G3 U8 I8 TB DE x _ _ _ _ h0 n0 z0 X00 s0 s1 s2 s3 s4 XS (Am rfl)) 1 s0 [.ref I8] [.ref DE] Du ?_
  rintro T8 h9 v10 L11 S12 ⟨⟨a3, rfl, g4, K5, f6, f7⟩, -⟩
  have f13 := (X00.keep K5 all0)
  have f14 := (TK.keep K5 nin0)
  have f15 := (DEx.keep K5)
  have f16 := (DEu.keep K5 nin0)
  have f17 := (DEm.keep K5 nin0)
  have f18 : n0 ≤ h9.size := (Nat.le_trans z0 K5.1)
  refine Al C S12 hw 123 124 126 126 125 127 93 (own_da4 l Z a0 hw G1 G3 U8 I8 TB TBk DE a3 _ x0 x1 x2 x3 h9 n0 f18 f13 f14 f15 f16 f17 f6 f7 XS hx0 hx1 hx2 hx3) 0 f15 [.ref a3] [] Dv ?_
  rintro T24 h25 v26 L27 S28 ⟨⟨a19, k20, rfl, g21, K22, f23⟩, -⟩
  refine Br C S28 rfl rfl (by decide +kernel) (by decide) (by decide) ?_
  have o30 : h0.size ≤ h9.size := (Nat.le_trans (Nat.le_refl _) K5.1)
  have o29 : h0.size ≤ a19 := Nat.le_trans o30 g21
  exact ⟨a19, k20, rfl, o29, (((Keep.refl _ _).trans K5 all0).trans K22 all0), f23⟩
theorem own_du4 (hw : Ao a0 Z) (hEL : EW Z a0 Cm) (wS : ∀ a ∈ Bundle.stringAtoms, a.before a0 Z = true) (G1 : Int32) (G3 : Value) (U8 : Addr) (I8 : Addr) (TB : Addr) (TBk : ClassId) (DE : Addr) (x : Addr) (xt : Addr) (xtk : ClassId) (x0 : Int32) (x1 : Int32) (x2 : Int32) (x3 : Int32) (h0 : Heap) (n0 : Nat) (z0 : n0 ≤ h0.size) (X00 : Old Z n0 h0) (TK : Arv Z h0 TB TBk .int 256 Bt (.int 0)) (DEx : Exa Z h0 DE "java/util/Base64$Decoder") (DEu : Fld Z h0 DE "java/util/Base64$Decoder" "isURL" "Z" (.int 1)) (DEm : Fld Z h0 DE "java/util/Base64$Decoder" "isMIME" "Z" (.int 0)) (s0 : Exa Z h0 x "java/lang/String") (s1 : Fld Z h0 x "java/lang/String" "value" "[B" (.ref xt)) (s2 : Fld Z h0 x "java/lang/String" "coder" "B" (.int 0)) (s3 : Arv Z h0 xt xtk .byte (4 : Int32) ([(.int ((Ad x0).toInt8.toInt32)), (.int ((Ad x1).toInt8.toInt32)), (.int ((Ad x2).toInt8.toInt32)), (.int ((Ad x3).toInt8.toInt32))]) (.int 0)) (s4 : Exa Z h0 xt "[B") (XS : Bf Z n0 G1 G3 U8 I8 TB DE) (hx0 : Ag x0) (hx1 : Ag x1) (hx2 : Ag x2) (hx3 : Ag x3) :
    Cp l Z Cm (⟨"com/example/torrey/torrey/Base64Url", "decode", "(Ljava/lang/String;)[B"⟩ : MethodName) prog_1_method_3_code 3 (some (.array .byte)) ({ frames := 6, cells := 4, slots := 31, locals := 89 } : Room) n0 #[(.ref x)] h0 [] (fun v h => ∃ r : Addr, ∃ rk : ClassId, v = some (.ref r) ∧ h0.size ≤ r ∧ Keep h0 h [] ∧ Arv Z h r rk .byte (3 : Int32) ([(.int (Be (Cx x0 x1 x2 x3))), (.int (Bn (Cx x0 x1 x2 x3))), (.int (Bw (Cx x0 x1 x2 x3)))]) (.int 0)) := by
  refine Da hEL wS (by decide +kernel) #[.val (.ref x), .unset, .unset] (fun m => by first | (simp [entryFrame, mkF, argsToLocals, Value.category]; done) | rfl) ?_
  intro p e s m below meth c T0 CW SW0
  have XS_ := XS
  obtain ⟨O2, O4, P5, rG3, OU, OI, OT, OD, hUI, TBlt, DElt⟩ := XS_
  refine Bv CW SW0 ?_
  intro vm1 C S2 rb3
  refine Ac C S2 [(0, .aload_n 0, 1)] 1 #[Ab x, .unset, .unset] [.ref x] ?_
  have SW4 := rb3 _ _ _ _ [] [] S2 (Keep.refl _ _) all0 all0
  refine Dq CW SW4 (ow hw 45 rfl) (by decide +kernel) 16 (by decide) (by decide) (by decide) (by decide) ?_
  intro T5 h6 a7 SW8 E9
  have f10 : n0 ≤ h6.size := (Nat.le_trans z0 E9.1)
  refine Bv CW SW8 ?_
  intro vm17 C S18 rb19
  refine Ah C S18 hw 48 49 50 51 (Eh l Z a0 hw x a7 h6 n0 f10) 0 [.ref x, .ref a7] [] Dw ?_
  rintro T12 h13 v14 L15 S16 ⟨⟨rfl, e11⟩, -⟩
  rw [e11] at S16; clear e11
  refine Ac C S16 [(6, .pop, 1), (7, .iconst 0, 1), (8, .istore_n 1, 1), (9, .iload_n 1, 1), (10, .aload_n 0, 1)] 11 #[Ab x, Aa 0, .unset] [.ref x, .int 0] ?_
  have f20 := (X00.ext E9)
  have f21 := (Exa.ext E9 s0)
  have f22 := (Fld.ext E9 s1)
  have f23 := (Fld.ext E9 s2)
  have f24 := (s3.ext E9)
  refine Al C S16 hw 52 53 55 55 54 56 9 (Bb l Z a0 hw G1 G3 x _ _ _ _ h6 n0 f10 f20 f21 f22 f23 f24 O2 O4 P5 rG3) 1 f21 [] [.int 0] Av ?_
  rintro T26 h27 v28 L29 S30 ⟨⟨rfl, e25⟩, -⟩
  rw [e25] at S30; clear e25
  refine Ac C S30 [(14, .if_icmp .ge 39, 3), (17, .aload_n 0, 1), (18, .iload_n 1, 1)] 19 #[Ab x, Aa 0, .unset] [.int 0, .ref x] ?_
  refine Al C S30 hw 62 63 65 65 64 66 9 (Bu l Z a0 hw G1 G3 x _ _ _ _ 0 ((Ad x0).toInt8.toInt32) (Ad x0) h6 n0 f10 f20 f21 f22 f23 f24 O2 O4 P5 rG3 (⟨(by decide), (by decide)⟩) rfl (Ca hx0) (Aq hx0)) 0 f21 [.int 0] [] Bl ?_
  rintro T32 h33 v34 L35 S36 ⟨⟨rfl, e31⟩, -⟩
  rw [e31] at S36; clear e31
  refine Ah C S36 hw 84 85 43 86 (Bk l Z a0 hw x0 h6 n0 f10 hx0) 0 [.int (Ad x0)] [] Bm ?_
  rintro T38 h39 v40 L41 S42 ⟨⟨rfl, e37⟩, -⟩
  rw [e37] at S42; clear e37
  refine Ba C S42 .ge 22 47 (fun (q43 : ¬ x0 < (0 : Int32)) => ?_) (fun (hq : x0 < (0 : Int32)) => False.elim (Bp hx0 hq))
  refine Ac C S42 [(47, .iinc 1 1, 3), (50, .goto (-41), 3), (9, .iload_n 1, 1), (10, .aload_n 0, 1)] 11 #[Ab x, Aa 1, .unset] [.ref x, .int 1] ?_
  refine Al C S42 hw 52 53 55 55 54 56 9 (Bb l Z a0 hw G1 G3 x _ _ _ _ h6 n0 f10 f20 f21 f22 f23 f24 O2 O4 P5 rG3) 1 f21 [] [.int 1] Av ?_
  rintro T45 h46 v47 L48 S49 ⟨⟨rfl, e44⟩, -⟩
  rw [e44] at S49; clear e44
  refine Ac C S49 [(14, .if_icmp .ge 39, 3), (17, .aload_n 0, 1), (18, .iload_n 1, 1)] 19 #[Ab x, Aa 1, .unset] [.int 1, .ref x] ?_
  refine Al C S49 hw 62 63 65 65 64 66 9 (Bu l Z a0 hw G1 G3 x _ _ _ _ 1 ((Ad x1).toInt8.toInt32) (Ad x1) h6 n0 f10 f20 f21 f22 f23 f24 O2 O4 P5 rG3 (⟨(by decide), (by decide)⟩) rfl (Ca hx1) (Aq hx1)) 0 f21 [.int 1] [] Bl ?_
  rintro T51 h52 v53 L54 S55 ⟨⟨rfl, e50⟩, -⟩
  rw [e50] at S55; clear e50
  refine Ah C S55 hw 84 85 43 86 (Bk l Z a0 hw x1 h6 n0 f10 hx1) 0 [.int (Ad x1)] [] Bm ?_
  rintro T57 h58 v59 L60 S61 ⟨⟨rfl, e56⟩, -⟩
  rw [e56] at S61; clear e56
  refine Ba C S61 .ge 22 47 (fun (q62 : ¬ x1 < (0 : Int32)) => ?_) (fun (hq : x1 < (0 : Int32)) => False.elim (Bp hx1 hq))
  refine Ac C S61 [(47, .iinc 1 1, 3), (50, .goto (-41), 3), (9, .iload_n 1, 1), (10, .aload_n 0, 1)] 11 #[Ab x, Aa 2, .unset] [.ref x, .int 2] ?_
  refine Al C S61 hw 52 53 55 55 54 56 9 (Bb l Z a0 hw G1 G3 x _ _ _ _ h6 n0 f10 f20 f21 f22 f23 f24 O2 O4 P5 rG3) 1 f21 [] [.int 2] Av ?_
  rintro T64 h65 v66 L67 S68 ⟨⟨rfl, e63⟩, -⟩
  rw [e63] at S68; clear e63
  refine Ac C S68 [(14, .if_icmp .ge 39, 3), (17, .aload_n 0, 1), (18, .iload_n 1, 1)] 19 #[Ab x, Aa 2, .unset] [.int 2, .ref x] ?_
  refine Al C S68 hw 62 63 65 65 64 66 9 (Bu l Z a0 hw G1 G3 x _ _ _ _ 2 ((Ad x2).toInt8.toInt32) (Ad x2) h6 n0 f10 f20 f21 f22 f23 f24 O2 O4 P5 rG3 (⟨(by decide), (by decide)⟩) rfl (Ca hx2) (Aq hx2)) 0 f21 [.int 2] [] Bl ?_
  rintro T70 h71 v72 L73 S74 ⟨⟨rfl, e69⟩, -⟩
  rw [e69] at S74; clear e69
  refine Ah C S74 hw 84 85 43 86 (Bk l Z a0 hw x2 h6 n0 f10 hx2) 0 [.int (Ad x2)] [] Bm ?_
  rintro T76 h77 v78 L79 S80 ⟨⟨rfl, e75⟩, -⟩
  rw [e75] at S80; clear e75
  refine Ba C S80 .ge 22 47 (fun (q81 : ¬ x2 < (0 : Int32)) => ?_) (fun (hq : x2 < (0 : Int32)) => False.elim (Bp hx2 hq))
  refine Ac C S80 [(47, .iinc 1 1, 3), (50, .goto (-41), 3), (9, .iload_n 1, 1), (10, .aload_n 0, 1)] 11 #[Ab x, Aa 3, .unset] [.ref x, .int 3] ?_
  refine Al C S80 hw 52 53 55 55 54 56 9 (Bb l Z a0 hw G1 G3 x _ _ _ _ h6 n0 f10 f20 f21 f22 f23 f24 O2 O4 P5 rG3) 1 f21 [] [.int 3] Av ?_
  rintro T83 h84 v85 L86 S87 ⟨⟨rfl, e82⟩, -⟩
  rw [e82] at S87; clear e82
  refine Ac C S87 [(14, .if_icmp .ge 39, 3), (17, .aload_n 0, 1), (18, .iload_n 1, 1)] 19 #[Ab x, Aa 3, .unset] [.int 3, .ref x] ?_
  refine Al C S87 hw 62 63 65 65 64 66 9 (Bu l Z a0 hw G1 G3 x _ _ _ _ 3 ((Ad x3).toInt8.toInt32) (Ad x3) h6 n0 f10 f20 f21 f22 f23 f24 O2 O4 P5 rG3 (⟨(by decide), (by decide)⟩) rfl (Ca hx3) (Aq hx3)) 0 f21 [.int 3] [] Bl ?_
  rintro T89 h90 v91 L92 S93 ⟨⟨rfl, e88⟩, -⟩
  rw [e88] at S93; clear e88
  refine Ah C S93 hw 84 85 43 86 (Bk l Z a0 hw x3 h6 n0 f10 hx3) 0 [.int (Ad x3)] [] Bm ?_
  rintro T95 h96 v97 L98 S99 ⟨⟨rfl, e94⟩, -⟩
  rw [e94] at S99; clear e94
  refine Ba C S99 .ge 22 47 (fun (q100 : ¬ x3 < (0 : Int32)) => ?_) (fun (hq : x3 < (0 : Int32)) => False.elim (Bp hx3 hq))
  refine Ac C S99 [(47, .iinc 1 1, 3), (50, .goto (-41), 3), (9, .iload_n 1, 1), (10, .aload_n 0, 1)] 11 #[Ab x, Aa 4, .unset] [.ref x, .int 4] ?_
  refine Al C S99 hw 52 53 55 55 54 56 9 (Bb l Z a0 hw G1 G3 x _ _ _ _ h6 n0 f10 f20 f21 f22 f23 f24 O2 O4 P5 rG3) 1 f21 [] [.int 4] Av ?_
  rintro T102 h103 v104 L105 S106 ⟨⟨rfl, e101⟩, -⟩
  rw [e101] at S106; clear e101
  refine Ac C S106 [(14, .if_icmp .ge 39, 3), (53, .aload_n 0, 1)] 54 #[Ab x, Aa 4, .unset] [.ref x] ?_
  refine Al C S106 hw 52 53 55 55 54 56 9 (Bb l Z a0 hw G1 G3 x _ _ _ _ h6 n0 f10 f20 f21 f22 f23 f24 O2 O4 P5 rG3) 0 f21 [] [] Av ?_
  rintro T108 h109 v110 L111 S112 ⟨⟨rfl, e107⟩, -⟩
  rw [e107] at S112; clear e107
  refine Ac C S112 [(57, .iconst 1, 1), (58, .isub, 1), (59, .istore_n 1, 1), (60, .aload_n 0, 1)] 61 #[Ab x, Aa 3, .unset] [.ref x] ?_
  refine Al C S112 hw 52 53 55 55 54 56 9 (Bb l Z a0 hw G1 G3 x _ _ _ _ h6 n0 f10 f20 f21 f22 f23 f24 O2 O4 P5 rG3) 0 f21 [] [] Av ?_
  rintro T114 h115 v116 L117 S118 ⟨⟨rfl, e113⟩, -⟩
  rw [e113] at S118; clear e113
  refine Ac C S118 [(64, .iconst 4, 1)] 65 #[Ab x, Aa 3, .unset] [.int 4, .int 4] ?_
  refine Dk C S118 (by decide +kernel) (by decide) ?_
  refine own_tso C S118 (df := 53) (lo := 1) (hi := 3) (offs := #[26, 45, 49]) (len := 26) (by decide +kernel) (by decide) (by decide) 119 (by decide) ?_
  refine Ac C S118 [(119, .iconst 0, 1), (120, .istore_n 2, 1), (121, .iload_n 2, 1), (122, .ifCond .le 39, 3)] 161 #[Ab x, Aa 3, Aa 0] [] ?_
  refine Az C S118 (ow hw 87 rfl) Via.refl (OD.ext f20.2) (by decide +kernel) ?_
  intro T119 S120
  refine Ac C S120 [(164, .aload_n 0, 1)] 165 #[Ab x, Aa 3, Aa 0] [.ref x, .ref DE] ?_
  have f121 := (TK.ext E9)
  have f122 := (Exa.ext E9 DEx)
  have f123 := (Fld.ext E9 DEu)
  have f124 := (Fld.ext E9 DEm)
  have f125 := (Exa.ext E9 s4)
  refine Al C S120 hw 89 90 92 92 91 94 93 (own_ds4 l Z a0 hw G1 G3 U8 I8 TB TBk DE x _ _ x0 x1 x2 x3 h6 n0 f10 f20 f121 f122 f123 f124 f21 f22 f23 f24 f125 XS hx0 hx1 hx2 hx3) 0 f122 [.ref x] [] Cu ?_
  rintro T131 h132 v133 L134 S135 ⟨⟨a126, k127, rfl, g128, K129, f130⟩, -⟩
  have o136 : h6.size ≤ a126 := Nat.le_trans (Nat.le_refl _) g128
  have SW137 := rb19 _ _ _ _ [] [a126] S135 ((Keep.refl _ _).trans K129 all0) all0 (allS ⟨o136, f130.lt⟩ all0)
  refine Dg CW SW137 rfl rfl (by decide +kernel) (by decide) (by decide) ?_
  have o139 : h0.size ≤ h6.size := (Nat.le_trans (Nat.le_refl _) E9.1)
  have o138 : h0.size ≤ a126 := Nat.le_trans o139 g128
  exact ⟨a126, k127, rfl, o138, (((Keep.refl _ _).ext E9).trans K129 all0), f130⟩
theorem own_dl6 (hw : Ao a0 Z) (G1 : Int32) (G3 : Value) (U8 : Addr) (I8 : Addr) (TB : Addr) (TBk : ClassId) (DE : Addr) (b : Addr) (bk : ClassId) (x0 : Int32) (x1 : Int32) (x2 : Int32) (x3 : Int32) (x4 : Int32) (x5 : Int32) (h0 : Heap) (n0 : Nat) (z0 : n0 ≤ h0.size) (X00 : Old Z n0 h0) (TK : Arv Z h0 TB TBk .int 256 Bt (.int 0)) (DEx : Exa Z h0 DE "java/util/Base64$Decoder") (DEu : Fld Z h0 DE "java/util/Base64$Decoder" "isURL" "Z" (.int 1)) (DEm : Fld Z h0 DE "java/util/Base64$Decoder" "isMIME" "Z" (.int 0)) (b0 : Arv Z h0 b bk .byte (6 : Int32) ([(.int ((Ad x0).toInt8.toInt32)), (.int ((Ad x1).toInt8.toInt32)), (.int ((Ad x2).toInt8.toInt32)), (.int ((Ad x3).toInt8.toInt32)), (.int ((Ad x4).toInt8.toInt32)), (.int ((Ad x5).toInt8.toInt32))]) (.int 0)) (b1 : Exa Z h0 b "[B") (XS : Bf Z n0 G1 G3 U8 I8 TB DE) (hx0 : Ag x0) (hx1 : Ag x1) (hx2 : Ag x2) (hx3 : Ag x3) (hx4 : Ag x4) (hx5 : Ag x5) :
    Af l Z (⟨"java/util/Base64$Decoder", "decodedOutLength", "([BII)I"⟩ : MethodName) jdk_2450_method_7_code 9 (some .int) ({ frames := 0, cells := 0, slots := 0, locals := 0 } : Room) n0 #[(.ref DE), (.ref b), (.int 0), (.int 6)] h0 (fun v h => v = some (.int 4) ∧ h = h0) := by
  refine Ar #[.val (.ref DE), .val (.ref b), .val (.int 0), .val (.int 6), .unset, .unset, .unset, .unset, .unset] ?_
  intro p e s m below meth c T0 C S0
  have XS_ := XS
  obtain ⟨O2, O4, P5, rG3, OU, OI, OT, OD, hUI, TBlt, DElt⟩ := XS_
  refine Ac C S0 [(0, .aload_n 0, 1)] 1 #[Ab DE, Ab b, Aa 0, Aa 6, .unset, .unset, .unset, .unset, .unset] [.ref DE] ?_
  refine Cb C S0 hw 133 DEu ?_
  intro T1 S2
  refine Ac C S2 [(4, .ifCond .eq 9, 3)] 7 #[Ab DE, Ab b, Aa 0, Aa 6, .unset, .unset, .unset, .unset, .unset] [] ?_
  refine Az C S2 (ow hw 135 rfl) Via.refl (OT.ext X00.2) (by decide +kernel) ?_
  intro T3 S4
  refine Ac C S4 [(10, .goto 6, 3), (16, .astore 4, 2), (18, .iconst 0, 1), (19, .istore 5, 2), (21, .iload_n 3, 1), (22, .iload_n 2, 1), (23, .isub, 1), (24, .istore 6, 2), (26, .iload 6, 2), (28, .ifCond .ne 5, 3), (33, .iload 6, 2), (35, .iconst 2, 1), (36, .if_icmp .ge 30, 3), (66, .aload_n 0, 1)] 67 #[Ab DE, Ab b, Aa 0, Aa 6, Ab TB, Aa 0, Aa 6, .unset, .unset] [.ref DE] ?_
  refine Cb C S4 hw 136 DEm ?_
  intro T5 S6
  refine Ac C S6 [(70, .ifCond .eq 71, 3), (141, .aload_n 1, 1), (142, .iload_n 3, 1), (143, .iconst 1, 1), (144, .isub, 1)] 145 #[Ab DE, Ab b, Aa 0, Aa 6, Ab TB, Aa 0, Aa 6, .unset, .unset] [.int 5, .ref b] ?_
  refine As C S6 b0 ⟨(by decide), (by decide)⟩ (.int ((Ad x5).toInt8.toInt32)) rfl (by decide +kernel) ?_
  refine Ac C S6 [(146, .bipush 61, 2)] 148 #[Ab DE, Ab b, Aa 0, Aa 6, Ab TB, Aa 0, Aa 6, .unset, .unset] [.int 61, .int ((Ad x5).toInt8.toInt32)] ?_
  refine Bj C S6 .ne 19 167 (fun (q7 : ¬ ((Ad x5).toInt8.toInt32) = (61 : Int32)) => ?_) (fun (hq : ((Ad x5).toInt8.toInt32) = (61 : Int32)) => False.elim (Em hx5 hq))
  refine Ac C S6 [(167, .iload 5, 2), (169, .ifCond .ne 18, 3), (172, .iload 6, 2), (174, .iconst 3, 1), (175, .iand, 1), (176, .ifCond .eq 11, 3), (179, .iconst 4, 1), (180, .iload 6, 2), (182, .iconst 3, 1), (183, .iand, 1), (184, .isub, 1), (185, .istore 5, 2), (187, .iconst 3, 1), (188, .iload 6, 2), (190, .i2l, 1)] 191 #[Ab DE, Ab b, Aa 0, Aa 6, Ab TB, Aa 2, Aa 6, .unset, .unset] [.long ((6 : Int32).toInt64), .int 3] ?_
  refine Bz C S6 (ow hw 138 rfl) (by decide +kernel) ?_
  refine Ac C S6 [(194, .ladd, 1)] 195 #[Ab DE, Ab b, Aa 0, Aa 6, Ab TB, Aa 2, Aa 6, .unset, .unset] [.long ((6 : Int32).toInt64 + 3), .int 3] ?_
  refine Bz C S6 (ow hw 139 rfl) (by decide +kernel) ?_
  refine Ea C S6 (by decide +kernel) (by decide) ?_
  rw [show (((6 : Int32).toInt64 + 3) / 4) = (2 : Int64) from (by decide)]
  refine Ac C S6 [(199, .l2i, 1), (200, .imul, 1), (201, .iload 5, 2), (203, .isub, 1)] 204 #[Ab DE, Ab b, Aa 0, Aa 6, Ab TB, Aa 2, Aa 6, .unset, .unset] [.int (((3 : Int32) * (2 : Int64).toInt32) - (2 : Int32))] ?_
  rw [show (((3 : Int32) * (2 : Int64).toInt32) - (2 : Int32)) = (4 : Int32) from (by decide)]
  refine Bq C S6 (by decide +kernel) (by decide) (by decide) ?_
  exact ⟨rfl, rfl⟩
theorem own_db6 (hw : Ao a0 Z) (G1 : Int32) (G3 : Value) (U8 : Addr) (I8 : Addr) (TB : Addr) (TBk : ClassId) (DE : Addr) (b : Addr) (bk : ClassId) (d : Addr) (dk : ClassId) (x0 : Int32) (x1 : Int32) (x2 : Int32) (x3 : Int32) (x4 : Int32) (x5 : Int32) (h0 : Heap) (n0 : Nat) (z0 : n0 ≤ h0.size) (ge_d : n0 ≤ d) (X00 : Old Z n0 h0) (TK : Arv Z h0 TB TBk .int 256 Bt (.int 0)) (DEx : Exa Z h0 DE "java/util/Base64$Decoder") (DEu : Fld Z h0 DE "java/util/Base64$Decoder" "isURL" "Z" (.int 1)) (DEm : Fld Z h0 DE "java/util/Base64$Decoder" "isMIME" "Z" (.int 0)) (b0 : Arv Z h0 b bk .byte (6 : Int32) ([(.int ((Ad x0).toInt8.toInt32)), (.int ((Ad x1).toInt8.toInt32)), (.int ((Ad x2).toInt8.toInt32)), (.int ((Ad x3).toInt8.toInt32)), (.int ((Ad x4).toInt8.toInt32)), (.int ((Ad x5).toInt8.toInt32))]) (.int 0)) (b1 : Exa Z h0 b "[B") (dK : Arv Z h0 d dk .byte (4 : Int32) ([(.int 0), (.int 0), (.int 0), (.int 0)]) (.int 0)) (ne_b_d : b ≠ d) (XS : Bf Z n0 G1 G3 U8 I8 TB DE) (hx0 : Ag x0) (hx1 : Ag x1) (hx2 : Ag x2) (hx3 : Ag x3) (hx4 : Ag x4) (hx5 : Ag x5) :
    Af l Z (⟨"java/util/Base64$Decoder", "decodeBlock", "([BII[BIZZ)I"⟩ : MethodName) jdk_2450_method_8_code 16 (some .int) ({ frames := 0, cells := 0, slots := 0, locals := 0 } : Room) n0 #[(.ref DE), (.ref b), (.int 0), (.int 6), (.ref d), (.int 0), (.int 1), (.int 0)] h0 (fun v h => v = some (.int 3) ∧ Keep h0 h [d] ∧ Arv Z h d dk .byte (4 : Int32) ([(.int (Be (Ap x0 x1 x2 x3))), (.int (Bn (Ap x0 x1 x2 x3))), (.int (Bw (Ap x0 x1 x2 x3))), (.int 0)]) (.int 0)) := by
  refine Ar #[.val (.ref DE), .val (.ref b), .val (.int 0), .val (.int 6), .val (.ref d), .val (.int 0), .val (.int 1), .val (.int 0), .unset, .unset, .unset, .unset, .unset, .unset, .unset, .unset] ?_
  intro p e s m below meth c T0 C S0
  have XS_ := XS
  obtain ⟨O2, O4, P5, rG3, OU, OI, OT, OD, hUI, TBlt, DElt⟩ := XS_
  refine Ac C S0 [(0, .iload 6, 2), (2, .ifCond .eq 9, 3)] 5 #[Ab DE, Ab b, Aa 0, Aa 6, Ab d, Aa 0, Aa 1, Aa 0, .unset, .unset, .unset, .unset, .unset, .unset, .unset, .unset] [] ?_
  refine Az C S0 (ow hw 135 rfl) Via.refl (OT.ext X00.2) (by decide +kernel) ?_
  intro T1 S2
  refine Ac C S2 [(8, .goto 6, 3), (14, .astore 8, 2), (16, .iload_n 2, 1), (17, .iload_n 3, 1), (18, .iload_n 2, 1), (19, .isub, 1), (20, .bipush (-4), 2), (22, .iand, 1), (23, .iadd, 1), (24, .istore 9, 2), (26, .iload 5, 2), (28, .istore 10, 2), (30, .iload_n 2, 1), (31, .iload 9, 2), (33, .if_icmp .ge 147, 3), (36, .aload 8, 2), (38, .aload_n 1, 1), (39, .iload_n 2, 1), (40, .iinc 2 1, 3)] 43 #[Ab DE, Ab b, Aa 1, Aa 6, Ab d, Aa 0, Aa 1, Aa 0, Ab TB, Aa 4, Aa 0, .unset, .unset, .unset, .unset, .unset] [.int 0, .ref b, .ref TB] ?_
  refine As C S2 b0 ⟨(by decide), (by decide)⟩ (.int ((Ad x0).toInt8.toInt32)) rfl (by decide +kernel) ?_
  refine Ac C S2 [(44, .sipush 255, 3), (47, .iand, 1)] 48 #[Ab DE, Ab b, Aa 1, Aa 6, Ab d, Aa 0, Aa 1, Aa 0, Ab TB, Aa 4, Aa 0, .unset, .unset, .unset, .unset, .unset] [.int ((Ad x0).toInt8.toInt32 &&& (255 : Int32)), .ref TB] ?_
  refine Aw C S2 TK (Ce hx0) (.int x0) (Cd hx0) (by decide +kernel) ?_
  refine Ac C S2 [(49, .istore 11, 2), (51, .aload 8, 2), (53, .aload_n 1, 1), (54, .iload_n 2, 1), (55, .iinc 2 1, 3)] 58 #[Ab DE, Ab b, Aa 2, Aa 6, Ab d, Aa 0, Aa 1, Aa 0, Ab TB, Aa 4, Aa 0, Aa x0, .unset, .unset, .unset, .unset] [.int 1, .ref b, .ref TB] ?_
  refine As C S2 b0 ⟨(by decide), (by decide)⟩ (.int ((Ad x1).toInt8.toInt32)) rfl (by decide +kernel) ?_
  refine Ac C S2 [(59, .sipush 255, 3), (62, .iand, 1)] 63 #[Ab DE, Ab b, Aa 2, Aa 6, Ab d, Aa 0, Aa 1, Aa 0, Ab TB, Aa 4, Aa 0, Aa x0, .unset, .unset, .unset, .unset] [.int ((Ad x1).toInt8.toInt32 &&& (255 : Int32)), .ref TB] ?_
  refine Aw C S2 TK (Ce hx1) (.int x1) (Cd hx1) (by decide +kernel) ?_
  refine Ac C S2 [(64, .istore 12, 2), (66, .aload 8, 2), (68, .aload_n 1, 1), (69, .iload_n 2, 1), (70, .iinc 2 1, 3)] 73 #[Ab DE, Ab b, Aa 3, Aa 6, Ab d, Aa 0, Aa 1, Aa 0, Ab TB, Aa 4, Aa 0, Aa x0, Aa x1, .unset, .unset, .unset] [.int 2, .ref b, .ref TB] ?_
  refine As C S2 b0 ⟨(by decide), (by decide)⟩ (.int ((Ad x2).toInt8.toInt32)) rfl (by decide +kernel) ?_
  refine Ac C S2 [(74, .sipush 255, 3), (77, .iand, 1)] 78 #[Ab DE, Ab b, Aa 3, Aa 6, Ab d, Aa 0, Aa 1, Aa 0, Ab TB, Aa 4, Aa 0, Aa x0, Aa x1, .unset, .unset, .unset] [.int ((Ad x2).toInt8.toInt32 &&& (255 : Int32)), .ref TB] ?_
  refine Aw C S2 TK (Ce hx2) (.int x2) (Cd hx2) (by decide +kernel) ?_
  refine Ac C S2 [(79, .istore 13, 2), (81, .aload 8, 2), (83, .aload_n 1, 1), (84, .iload_n 2, 1), (85, .iinc 2 1, 3)] 88 #[Ab DE, Ab b, Aa 4, Aa 6, Ab d, Aa 0, Aa 1, Aa 0, Ab TB, Aa 4, Aa 0, Aa x0, Aa x1, Aa x2, .unset, .unset] [.int 3, .ref b, .ref TB] ?_
  refine As C S2 b0 ⟨(by decide), (by decide)⟩ (.int ((Ad x3).toInt8.toInt32)) rfl (by decide +kernel) ?_
  refine Ac C S2 [(89, .sipush 255, 3), (92, .iand, 1)] 93 #[Ab DE, Ab b, Aa 4, Aa 6, Ab d, Aa 0, Aa 1, Aa 0, Ab TB, Aa 4, Aa 0, Aa x0, Aa x1, Aa x2, .unset, .unset] [.int ((Ad x3).toInt8.toInt32 &&& (255 : Int32)), .ref TB] ?_
  refine Aw C S2 TK (Ce hx3) (.int x3) (Cd hx3) (by decide +kernel) ?_
  refine Ac C S2 [(94, .istore 14, 2), (96, .iload 11, 2), (98, .iload 12, 2), (100, .ior, 1), (101, .iload 13, 2), (103, .ior, 1), (104, .iload 14, 2), (106, .ior, 1)] 107 #[Ab DE, Ab b, Aa 4, Aa 6, Ab d, Aa 0, Aa 1, Aa 0, Ab TB, Aa 4, Aa 0, Aa x0, Aa x1, Aa x2, Aa x3, .unset] [.int (((x0 ||| x1) ||| x2) ||| x3)] ?_
  refine Ba C S2 .ge 9 116 (fun (q3 : ¬ (((x0 ||| x1) ||| x2) ||| x3) < (0 : Int32)) => ?_) (fun (hq : (((x0 ||| x1) ||| x2) ||| x3) < (0 : Int32)) => False.elim (own_or4 hx0 hx1 hx2 hx3 hq))
  refine Ac C S2 [(116, .iload 11, 2), (118, .bipush 18, 2), (120, .ishl, 1), (121, .iload 12, 2), (123, .bipush 12, 2), (125, .ishl, 1), (126, .ior, 1), (127, .iload 13, 2), (129, .bipush 6, 2), (131, .ishl, 1), (132, .ior, 1), (133, .iload 14, 2), (135, .ior, 1), (136, .istore 15, 2), (138, .aload 4, 2), (140, .iload 10, 2), (142, .iinc 10 1, 3), (145, .iload 15, 2), (147, .bipush 16, 2), (149, .ishr, 1), (150, .i2b, 1)] 151 #[Ab DE, Ab b, Aa 4, Aa 6, Ab d, Aa 0, Aa 1, Aa 0, Ab TB, Aa 4, Aa 1, Aa x0, Aa x1, Aa x2, Aa x3, Aa ((((x0 <<< ((18 : Int32) &&& 31)) ||| (x1 <<< ((12 : Int32) &&& 31))) ||| (x2 <<< ((6 : Int32) &&& 31))) ||| x3)] [.int ((((((x0 <<< ((18 : Int32) &&& 31)) ||| (x1 <<< ((12 : Int32) &&& 31))) ||| (x2 <<< ((6 : Int32) &&& 31))) ||| x3) >>> ((16 : Int32) &&& 31)).toInt8.toInt32), .int 0, .ref d] ?_
  refine Aj C S2 dK ⟨(by decide), (by decide)⟩ 0 rfl (Am rfl) ((((((x0 <<< ((18 : Int32) &&& 31)) ||| (x1 <<< ((12 : Int32) &&& 31))) ||| (x2 <<< ((6 : Int32) &&& 31))) ||| x3) >>> ((16 : Int32) &&& 31)).toInt8.toInt32) (Au _) ge_d (by decide +kernel) ?_
  intro T4 h6 S5 W7 f8
  have f9 : Arv Z h6 d dk .byte (4 : Int32) ([(.int ((((((x0 <<< ((18 : Int32) &&& 31)) ||| (x1 <<< ((12 : Int32) &&& 31))) ||| (x2 <<< ((6 : Int32) &&& 31))) ||| x3) >>> ((16 : Int32) &&& 31)).toInt8.toInt32)), (.int 0), (.int 0), (.int 0)]) (.int 0) := f8
  refine Ac C S5 [(152, .aload 4, 2), (154, .iload 10, 2), (156, .iinc 10 1, 3), (159, .iload 15, 2), (161, .bipush 8, 2), (163, .ishr, 1), (164, .i2b, 1)] 165 #[Ab DE, Ab b, Aa 4, Aa 6, Ab d, Aa 0, Aa 1, Aa 0, Ab TB, Aa 4, Aa 2, Aa x0, Aa x1, Aa x2, Aa x3, Aa ((((x0 <<< ((18 : Int32) &&& 31)) ||| (x1 <<< ((12 : Int32) &&& 31))) ||| (x2 <<< ((6 : Int32) &&& 31))) ||| x3)] [.int ((((((x0 <<< ((18 : Int32) &&& 31)) ||| (x1 <<< ((12 : Int32) &&& 31))) ||| (x2 <<< ((6 : Int32) &&& 31))) ||| x3) >>> ((8 : Int32) &&& 31)).toInt8.toInt32), .int 1, .ref d] ?_
  refine Aj C S5 f9 ⟨(by decide), (by decide)⟩ 1 rfl (Am rfl) ((((((x0 <<< ((18 : Int32) &&& 31)) ||| (x1 <<< ((12 : Int32) &&& 31))) ||| (x2 <<< ((6 : Int32) &&& 31))) ||| x3) >>> ((8 : Int32) &&& 31)).toInt8.toInt32) (Au _) ge_d (by decide +kernel) ?_
  intro T10 h12 S11 W13 f14
  have f15 : Arv Z h12 d dk .byte (4 : Int32) ([(.int ((((((x0 <<< ((18 : Int32) &&& 31)) ||| (x1 <<< ((12 : Int32) &&& 31))) ||| (x2 <<< ((6 : Int32) &&& 31))) ||| x3) >>> ((16 : Int32) &&& 31)).toInt8.toInt32)), (.int ((((((x0 <<< ((18 : Int32) &&& 31)) ||| (x1 <<< ((12 : Int32) &&& 31))) ||| (x2 <<< ((6 : Int32) &&& 31))) ||| x3) >>> ((8 : Int32) &&& 31)).toInt8.toInt32)), (.int 0), (.int 0)]) (.int 0) := f14
  refine Ac C S11 [(166, .aload 4, 2), (168, .iload 10, 2), (170, .iinc 10 1, 3), (173, .iload 15, 2), (175, .i2b, 1)] 176 #[Ab DE, Ab b, Aa 4, Aa 6, Ab d, Aa 0, Aa 1, Aa 0, Ab TB, Aa 4, Aa 3, Aa x0, Aa x1, Aa x2, Aa x3, Aa ((((x0 <<< ((18 : Int32) &&& 31)) ||| (x1 <<< ((12 : Int32) &&& 31))) ||| (x2 <<< ((6 : Int32) &&& 31))) ||| x3)] [.int (((((x0 <<< ((18 : Int32) &&& 31)) ||| (x1 <<< ((12 : Int32) &&& 31))) ||| (x2 <<< ((6 : Int32) &&& 31))) ||| x3).toInt8.toInt32), .int 2, .ref d] ?_
  refine Aj C S11 f15 ⟨(by decide), (by decide)⟩ 2 rfl (Am rfl) (((((x0 <<< ((18 : Int32) &&& 31)) ||| (x1 <<< ((12 : Int32) &&& 31))) ||| (x2 <<< ((6 : Int32) &&& 31))) ||| x3).toInt8.toInt32) (Au _) ge_d (by decide +kernel) ?_
  intro T16 h18 S17 W19 f20
  have f21 : Arv Z h18 d dk .byte (4 : Int32) ([(.int ((((((x0 <<< ((18 : Int32) &&& 31)) ||| (x1 <<< ((12 : Int32) &&& 31))) ||| (x2 <<< ((6 : Int32) &&& 31))) ||| x3) >>> ((16 : Int32) &&& 31)).toInt8.toInt32)), (.int ((((((x0 <<< ((18 : Int32) &&& 31)) ||| (x1 <<< ((12 : Int32) &&& 31))) ||| (x2 <<< ((6 : Int32) &&& 31))) ||| x3) >>> ((8 : Int32) &&& 31)).toInt8.toInt32)), (.int (((((x0 <<< ((18 : Int32) &&& 31)) ||| (x1 <<< ((12 : Int32) &&& 31))) ||| (x2 <<< ((6 : Int32) &&& 31))) ||| x3).toInt8.toInt32)), (.int 0)]) (.int 0) := f20
  refine Ac C S17 [(177, .goto (-147), 3), (30, .iload_n 2, 1), (31, .iload 9, 2), (33, .if_icmp .ge 147, 3), (180, .iload 10, 2), (182, .iload 5, 2), (184, .isub, 1)] 185 #[Ab DE, Ab b, Aa 4, Aa 6, Ab d, Aa 0, Aa 1, Aa 0, Ab TB, Aa 4, Aa 3, Aa x0, Aa x1, Aa x2, Aa x3, Aa ((((x0 <<< ((18 : Int32) &&& 31)) ||| (x1 <<< ((12 : Int32) &&& 31))) ||| (x2 <<< ((6 : Int32) &&& 31))) ||| x3)] [.int 3] ?_
  refine Bq C S17 (by decide +kernel) (by decide) (by decide) ?_
  exact ⟨rfl, ((((Keep.refl _ _).wr W7 (At 0)).wr W13 (At 0)).wr W19 (At 0)), f21⟩
theorem own_pd21 : parseMethodDescriptor "([BII[BIZZ)I" = some ⟨[(.array .byte), .int, .int, (.array .byte), .int, .boolean, .boolean], (some .int)⟩ := by decide +kernel
theorem own_d06 (hw : Ao a0 Z) (G1 : Int32) (G3 : Value) (U8 : Addr) (I8 : Addr) (TB : Addr) (TBk : ClassId) (DE : Addr) (b : Addr) (bk : ClassId) (d : Addr) (dk : ClassId) (x0 : Int32) (x1 : Int32) (x2 : Int32) (x3 : Int32) (x4 : Int32) (x5 : Int32) (h0 : Heap) (n0 : Nat) (z0 : n0 ≤ h0.size) (ge_d : n0 ≤ d) (X00 : Old Z n0 h0) (TK : Arv Z h0 TB TBk .int 256 Bt (.int 0)) (DEx : Exa Z h0 DE "java/util/Base64$Decoder") (DEu : Fld Z h0 DE "java/util/Base64$Decoder" "isURL" "Z" (.int 1)) (DEm : Fld Z h0 DE "java/util/Base64$Decoder" "isMIME" "Z" (.int 0)) (b0 : Arv Z h0 b bk .byte (6 : Int32) ([(.int ((Ad x0).toInt8.toInt32)), (.int ((Ad x1).toInt8.toInt32)), (.int ((Ad x2).toInt8.toInt32)), (.int ((Ad x3).toInt8.toInt32)), (.int ((Ad x4).toInt8.toInt32)), (.int ((Ad x5).toInt8.toInt32))]) (.int 0)) (b1 : Exa Z h0 b "[B") (dK : Arv Z h0 d dk .byte (4 : Int32) ([(.int 0), (.int 0), (.int 0), (.int 0)]) (.int 0)) (ne_b_d : b ≠ d) (XS : Bf Z n0 G1 G3 U8 I8 TB DE) (hx0 : Ag x0) (hx1 : Ag x1) (hx2 : Ag x2) (hx3 : Ag x3) (hx4 : Ag x4) (hx5 : Ag x5) :
    Af l Z (⟨"java/util/Base64$Decoder", "decode0", "([BII[B)I"⟩ : MethodName) jdk_2450_method_9_code 11 (some .int) ({ frames := 1, cells := 0, slots := 0, locals := 27 } : Room) n0 #[(.ref DE), (.ref b), (.int 0), (.int 6), (.ref d)] h0 (fun v h => v = some (.int 4) ∧ Keep h0 h [d] ∧ Arv Z h d dk .byte (4 : Int32) ([(.int (Be (Ap x0 x1 x2 x3))), (.int (Bn (Ap x0 x1 x2 x3))), (.int (Bw (Ap x0 x1 x2 x3))), (.int (Be (Df x4 x5)))]) (.int 0)) := by
  refine Ar #[.val (.ref DE), .val (.ref b), .val (.int 0), .val (.int 6), .val (.ref d), .unset, .unset, .unset, .unset, .unset, .unset] ?_
  intro p e s m below meth c T0 C S0
  have XS_ := XS
  obtain ⟨O2, O4, P5, rG3, OU, OI, OT, OD, hUI, TBlt, DElt⟩ := XS_
  refine Ac C S0 [(0, .aload_n 0, 1)] 1 #[Ab DE, Ab b, Aa 0, Aa 6, Ab d, .unset, .unset, .unset, .unset, .unset, .unset] [.ref DE] ?_
  refine Cb C S0 hw 133 DEu ?_
  intro T1 S2
  refine Ac C S2 [(4, .ifCond .eq 9, 3)] 7 #[Ab DE, Ab b, Aa 0, Aa 6, Ab d, .unset, .unset, .unset, .unset, .unset, .unset] [] ?_
  refine Az C S2 (ow hw 135 rfl) Via.refl (OT.ext X00.2) (by decide +kernel) ?_
  intro T3 S4
  refine Ac C S4 [(10, .goto 6, 3), (16, .astore 5, 2), (18, .iconst 0, 1), (19, .istore 6, 2), (21, .iconst 0, 1), (22, .istore 7, 2), (24, .bipush 18, 2), (26, .istore 8, 2), (28, .iload_n 2, 1), (29, .iload_n 3, 1), (30, .if_icmp .ge 251, 3), (33, .iload 8, 2), (35, .bipush 18, 2), (37, .if_icmp .ne 53, 3), (40, .iload_n 2, 1), (41, .iload_n 3, 1), (42, .iconst 4, 1), (43, .isub, 1), (44, .if_icmp .ge 46, 3), (47, .aload_n 0, 1), (48, .aload_n 1, 1), (49, .iload_n 2, 1), (50, .iload_n 3, 1), (51, .aload 4, 2), (53, .iload 6, 2), (55, .aload_n 0, 1)] 56 #[Ab DE, Ab b, Aa 0, Aa 6, Ab d, Ab TB, Aa 0, Aa 0, Aa 18, .unset, .unset] [.ref DE, .int 0, .ref d, .int 6, .int 0, .ref b, .ref DE] ?_
  refine Cb C S4 hw 133 DEu ?_
  intro T5 S6
  refine Ac C S6 [(59, .aload_n 0, 1)] 60 #[Ab DE, Ab b, Aa 0, Aa 6, Ab d, Ab TB, Aa 0, Aa 0, Aa 18, .unset, .unset] [.ref DE, .int 1, .int 0, .ref d, .int 6, .int 0, .ref b, .ref DE] ?_
  refine Cb C S6 hw 136 DEm ?_
  intro T7 S8
  refine Cc C S8 (ow hw 148 rfl) (ow hw 149 rfl) (ow hw 151 rfl) (ow hw 150 rfl) (ow hw 152 rfl) (by decide) (Af.pay (own_db6 l Z a0 hw G1 G3 U8 I8 TB TBk DE b _ d _ x0 x1 x2 x3 x4 x5 h0 n0 z0 ge_d X00 TK DEx DEu DEm b0 b1 dK ne_b_d XS hx0 hx1 hx2 hx3 hx4 hx5) C 0 (ow hw 152 rfl) (ow hw 93 rfl) (by decide) (by decide)) (fun _ _ _ q => q.2) DEx [.ref b, .int 0, .int 6, .ref d, .int 0, .int 1, .int 0] [] rfl own_pd21 rfl rfl rfl (Am rfl) (by decide) (by decide) (by decide +kernel) ?_
  rintro T11 h12 v13 L14 S15 ⟨⟨rfl, K9, f10⟩, -⟩
  refine Ac C S15 [(66, .istore 9, 2), (68, .iload 9, 2), (70, .iconst 2, 1), (71, .iadd, 1), (72, .iconst 3, 1)] 73 #[Ab DE, Ab b, Aa 0, Aa 6, Ab d, Ab TB, Aa 0, Aa 0, Aa 18, Aa 3, .unset] [.int 3, .int 5] ?_
  refine Dc C S15 (by decide +kernel) (by decide) ?_
  refine Ac C S15 [(74, .iconst 4, 1), (75, .imul, 1), (76, .istore 10, 2), (78, .iload_n 2, 1), (79, .iload 10, 2), (81, .iadd, 1), (82, .istore_n 2, 1), (83, .iload 6, 2), (85, .iload 9, 2), (87, .iadd, 1), (88, .istore 6, 2), (90, .iload_n 2, 1), (91, .iload_n 3, 1), (92, .if_icmp .lt 6, 3), (98, .aload_n 1, 1), (99, .iload_n 2, 1), (100, .iinc 2 1, 3)] 103 #[Ab DE, Ab b, Aa 5, Aa 6, Ab d, Ab TB, Aa 3, Aa 0, Aa 18, Aa 3, Aa 4] [.int 4, .ref b] ?_
  have f16 := (b0.keep K9 (ninS ne_b_d nin0))
  refine As C S15 f16 ⟨(by decide), (by decide)⟩ (.int ((Ad x4).toInt8.toInt32)) rfl (by decide +kernel) ?_
  refine Ac C S15 [(104, .sipush 255, 3), (107, .iand, 1), (108, .istore 9, 2), (110, .aload 5, 2), (112, .iload 9, 2)] 114 #[Ab DE, Ab b, Aa 5, Aa 6, Ab d, Ab TB, Aa 3, Aa 0, Aa 18, Aa ((Ad x4).toInt8.toInt32 &&& (255 : Int32)), Aa 4] [.int ((Ad x4).toInt8.toInt32 &&& (255 : Int32)), .ref TB] ?_
  have n17 : TB ≠ d := Nat.ne_of_lt (Nat.lt_of_lt_of_le TBlt ge_d)
  have f18 := (TK.keep K9 (ninS n17 nin0))
  refine Aw C S15 f18 (Ce hx4) (.int x4) (Cd hx4) (by decide +kernel) ?_
  refine Ac C S15 [(115, .dup, 1), (116, .istore 9, 2)] 118 #[Ab DE, Ab b, Aa 5, Aa 6, Ab d, Ab TB, Aa 3, Aa 0, Aa 18, Aa x4, Aa 4] [.int x4] ?_
  refine Ba C S15 .ge 96 214 (fun (q19 : ¬ x4 < (0 : Int32)) => ?_) (fun (hq : x4 < (0 : Int32)) => False.elim (Bp hx4 hq))
  refine Ac C S15 [(214, .iload 7, 2), (216, .iload 9, 2), (218, .iload 8, 2), (220, .ishl, 1), (221, .ior, 1), (222, .istore 7, 2), (224, .iinc 8 (-6), 3), (227, .iload 8, 2), (229, .ifCond .ge 49, 3), (278, .goto (-250), 3), (28, .iload_n 2, 1), (29, .iload_n 3, 1), (30, .if_icmp .ge 251, 3), (33, .iload 8, 2), (35, .bipush 18, 2), (37, .if_icmp .ne 53, 3), (90, .iload_n 2, 1), (91, .iload_n 3, 1), (92, .if_icmp .lt 6, 3), (98, .aload_n 1, 1), (99, .iload_n 2, 1), (100, .iinc 2 1, 3)] 103 #[Ab DE, Ab b, Aa 6, Aa 6, Ab d, Ab TB, Aa 3, Aa ((0 : Int32) ||| (x4 <<< ((18 : Int32) &&& 31))), Aa 12, Aa x4, Aa 4] [.int 5, .ref b] ?_
  refine As C S15 f16 ⟨(by decide), (by decide)⟩ (.int ((Ad x5).toInt8.toInt32)) rfl (by decide +kernel) ?_
  refine Ac C S15 [(104, .sipush 255, 3), (107, .iand, 1), (108, .istore 9, 2), (110, .aload 5, 2), (112, .iload 9, 2)] 114 #[Ab DE, Ab b, Aa 6, Aa 6, Ab d, Ab TB, Aa 3, Aa ((0 : Int32) ||| (x4 <<< ((18 : Int32) &&& 31))), Aa 12, Aa ((Ad x5).toInt8.toInt32 &&& (255 : Int32)), Aa 4] [.int ((Ad x5).toInt8.toInt32 &&& (255 : Int32)), .ref TB] ?_
  refine Aw C S15 f18 (Ce hx5) (.int x5) (Cd hx5) (by decide +kernel) ?_
  refine Ac C S15 [(115, .dup, 1), (116, .istore 9, 2)] 118 #[Ab DE, Ab b, Aa 6, Aa 6, Ab d, Ab TB, Aa 3, Aa ((0 : Int32) ||| (x4 <<< ((18 : Int32) &&& 31))), Aa 12, Aa x5, Aa 4] [.int x5] ?_
  refine Ba C S15 .ge 96 214 (fun (q20 : ¬ x5 < (0 : Int32)) => ?_) (fun (hq : x5 < (0 : Int32)) => False.elim (Bp hx5 hq))
  refine Ac C S15 [(214, .iload 7, 2), (216, .iload 9, 2), (218, .iload 8, 2), (220, .ishl, 1), (221, .ior, 1), (222, .istore 7, 2), (224, .iinc 8 (-6), 3), (227, .iload 8, 2), (229, .ifCond .ge 49, 3), (278, .goto (-250), 3), (28, .iload_n 2, 1), (29, .iload_n 3, 1), (30, .if_icmp .ge 251, 3), (281, .iload 8, 2), (283, .bipush 6, 2), (285, .if_icmp .ne 20, 3), (288, .aload 4, 2), (290, .iload 6, 2), (292, .iinc 6 1, 3), (295, .iload 7, 2), (297, .bipush 16, 2), (299, .ishr, 1), (300, .i2b, 1)] 301 #[Ab DE, Ab b, Aa 6, Aa 6, Ab d, Ab TB, Aa 4, Aa (((0 : Int32) ||| (x4 <<< ((18 : Int32) &&& 31))) ||| (x5 <<< ((12 : Int32) &&& 31))), Aa 6, Aa x5, Aa 4] [.int (((((0 : Int32) ||| (x4 <<< ((18 : Int32) &&& 31))) ||| (x5 <<< ((12 : Int32) &&& 31))) >>> ((16 : Int32) &&& 31)).toInt8.toInt32), .int 3, .ref d] ?_
  refine Aj C S15 f10 ⟨(by decide), (by decide)⟩ 3 rfl (Am rfl) (((((0 : Int32) ||| (x4 <<< ((18 : Int32) &&& 31))) ||| (x5 <<< ((12 : Int32) &&& 31))) >>> ((16 : Int32) &&& 31)).toInt8.toInt32) (Au _) ge_d (by decide +kernel) ?_
  intro T21 h23 S22 W24 f25
  have f26 : Arv Z h23 d dk .byte (4 : Int32) ([(.int (Be (Ap x0 x1 x2 x3))), (.int (Bn (Ap x0 x1 x2 x3))), (.int (Bw (Ap x0 x1 x2 x3))), (.int (((((0 : Int32) ||| (x4 <<< ((18 : Int32) &&& 31))) ||| (x5 <<< ((12 : Int32) &&& 31))) >>> ((16 : Int32) &&& 31)).toInt8.toInt32))]) (.int 0) := f25
  refine Ac C S22 [(302, .goto 56, 3), (358, .iload_n 2, 1), (359, .iload_n 3, 1), (360, .if_icmp .ge 56, 3), (416, .iload 6, 2)] 418 #[Ab DE, Ab b, Aa 6, Aa 6, Ab d, Ab TB, Aa 4, Aa (((0 : Int32) ||| (x4 <<< ((18 : Int32) &&& 31))) ||| (x5 <<< ((12 : Int32) &&& 31))), Aa 6, Aa x5, Aa 4] [.int 4] ?_
  refine Bq C S22 (by decide +kernel) (by decide) (by decide) ?_
  exact ⟨rfl, (((Keep.refl _ _).trans K9 (allS (At 0) all0)).wr W24 (At 0)), f26⟩
theorem own_da6 (hw : Ao a0 Z) (G1 : Int32) (G3 : Value) (U8 : Addr) (I8 : Addr) (TB : Addr) (TBk : ClassId) (DE : Addr) (b : Addr) (bk : ClassId) (x0 : Int32) (x1 : Int32) (x2 : Int32) (x3 : Int32) (x4 : Int32) (x5 : Int32) (h0 : Heap) (n0 : Nat) (z0 : n0 ≤ h0.size) (X00 : Old Z n0 h0) (TK : Arv Z h0 TB TBk .int 256 Bt (.int 0)) (DEx : Exa Z h0 DE "java/util/Base64$Decoder") (DEu : Fld Z h0 DE "java/util/Base64$Decoder" "isURL" "Z" (.int 1)) (DEm : Fld Z h0 DE "java/util/Base64$Decoder" "isMIME" "Z" (.int 0)) (b0 : Arv Z h0 b bk .byte (6 : Int32) ([(.int ((Ad x0).toInt8.toInt32)), (.int ((Ad x1).toInt8.toInt32)), (.int ((Ad x2).toInt8.toInt32)), (.int ((Ad x3).toInt8.toInt32)), (.int ((Ad x4).toInt8.toInt32)), (.int ((Ad x5).toInt8.toInt32))]) (.int 0)) (b1 : Exa Z h0 b "[B") (XS : Bf Z n0 G1 G3 U8 I8 TB DE) (hx0 : Ag x0) (hx1 : Ag x1) (hx2 : Ag x2) (hx3 : Ag x3) (hx4 : Ag x4) (hx5 : Ag x5) :
    Af l Z (⟨"java/util/Base64$Decoder", "decode", "([B)[B"⟩ : MethodName) jdk_2450_method_2_code 4 (some (.array .byte)) ({ frames := 2, cells := 1, slots := 4, locals := 49 } : Room) n0 #[(.ref DE), (.ref b)] h0 (fun v h => ∃ r : Addr, ∃ rk : ClassId, v = some (.ref r) ∧ h0.size ≤ r ∧ Keep h0 h [] ∧ Arv Z h r rk .byte (4 : Int32) ([(.int (Be (Ap x0 x1 x2 x3))), (.int (Bn (Ap x0 x1 x2 x3))), (.int (Bw (Ap x0 x1 x2 x3))), (.int (Be (Df x4 x5)))]) (.int 0)) := by
  refine Ar #[.val (.ref DE), .val (.ref b), .unset, .unset] ?_
  intro p e s m below meth c T0 C S0
  have XS_ := XS
  obtain ⟨O2, O4, P5, rG3, OU, OI, OT, OD, hUI, TBlt, DElt⟩ := XS_
  refine Ac C S0 [(0, .aload_n 0, 1), (1, .aload_n 1, 1), (2, .iconst 0, 1), (3, .aload_n 1, 1)] 4 #[Ab DE, Ab b, .unset, .unset] [.ref b, .int 0, .ref b, .ref DE] ?_
  refine Ay C S0 b0 (by decide +kernel) ?_
  refine Cc C S0 (ow hw 128 rfl) (ow hw 129 rfl) (ow hw 131 rfl) (ow hw 130 rfl) (ow hw 132 rfl) (by decide) (Af.pay (own_dl6 l Z a0 hw G1 G3 U8 I8 TB TBk DE b _ x0 x1 x2 x3 x4 x5 h0 n0 z0 X00 TK DEx DEu DEm b0 b1 XS hx0 hx1 hx2 hx3 hx4 hx5) C 0 (ow hw 132 rfl) (ow hw 93 rfl) (by decide) (by decide)) (fun _ _ _ q => q.2) DEx [.ref b, .int 0, .int 6] [] rfl Ds rfl rfl rfl (Am rfl) (by decide) (by decide) (by decide +kernel) ?_
  rintro T2 h3 v4 L5 S6 ⟨⟨rfl, e1⟩, -⟩
  rw [e1] at S6; clear e1
  refine Co C S6 (aty := .byte) (ad := "[B") (by decide) (ow hw 30 rfl) (by decide +kernel) (by decide) 4 (by decide) (by decide) (by decide) (by decide) ?_
  intro T7 h9 a10 k11 S8 g12 E13 f14 x15
  have f16 : Arv Z h9 a10 k11 .byte (4 : Int32) ([(.int 0), (.int 0), (.int 0), (.int 0)]) (.int 0) := Arv.pad f14 (pad_rep [] (.int 0) 4)
  refine Ac C S8 [(10, .astore_n 2, 1), (11, .aload_n 0, 1), (12, .aload_n 1, 1), (13, .iconst 0, 1), (14, .aload_n 1, 1)] 15 #[Ab DE, Ab b, Ab a10, .unset] [.ref b, .int 0, .ref b, .ref DE] ?_
  have f17 := (b0.ext E13)
  refine Ay C S8 f17 (by decide +kernel) ?_
  refine Ac C S8 [(16, .aload_n 2, 1)] 17 #[Ab DE, Ab b, Ab a10, .unset] [.ref a10, .int 6, .int 0, .ref b, .ref DE] ?_
  have f18 := (X00.ext E13)
  have f19 := (TK.ext E13)
  have f20 := (Exa.ext E13 DEx)
  have f21 := (Fld.ext E13 DEu)
  have f22 := (Fld.ext E13 DEm)
  have f23 := (Exa.ext E13 b1)
  have f24 : n0 ≤ h9.size := (Nat.le_trans z0 E13.1)
  have g25 : n0 ≤ a10 := by rw [g12]; exact z0
  have n26 : b ≠ a10 := by rw [g12]; exact Nat.ne_of_lt b0.lt
  refine Cc C S8 (ow hw 140 rfl) (ow hw 141 rfl) (ow hw 143 rfl) (ow hw 142 rfl) (ow hw 144 rfl) (by decide) (Af.pay (own_d06 l Z a0 hw G1 G3 U8 I8 TB TBk DE b _ a10 _ x0 x1 x2 x3 x4 x5 h9 n0 f24 g25 f18 f19 f20 f21 f22 f17 f23 f16 n26 XS hx0 hx1 hx2 hx3 hx4 hx5) C 0 (ow hw 144 rfl) (ow hw 93 rfl) (by decide) (by decide)) (fun _ _ _ q => q.2) f20 [.ref b, .int 0, .int 6, .ref a10] [] rfl Dt rfl rfl rfl (Am rfl) (by decide) (by decide) (by decide +kernel) ?_
  rintro T29 h30 v31 L32 S33 ⟨⟨rfl, K27, f28⟩, -⟩
  refine Ac C S33 [(20, .istore_n 3, 1), (21, .iload_n 3, 1), (22, .aload_n 2, 1)] 23 #[Ab DE, Ab b, Ab a10, Aa 4] [.ref a10, .int 4] ?_
  refine Ay C S33 f28 (by decide +kernel) ?_
  refine Ac C S33 [(24, .if_icmp .eq 9, 3), (33, .aload_n 2, 1)] 34 #[Ab DE, Ab b, Ab a10, Aa 4] [.ref a10] ?_
  refine Br C S33 rfl rfl (by decide +kernel) (by decide) (by decide) ?_
  have o34 : h0.size ≤ a10 := by rw [g12]; exact (Nat.le_refl _)
  exact ⟨a10, k11, rfl, o34, (((Keep.refl _ _).ext E13).trans K27 (allS (Or.inr o34) all0)), f28⟩
theorem own_ds6 (hw : Ao a0 Z) (G1 : Int32) (G3 : Value) (U8 : Addr) (I8 : Addr) (TB : Addr) (TBk : ClassId) (DE : Addr) (x : Addr) (xt : Addr) (xtk : ClassId) (x0 : Int32) (x1 : Int32) (x2 : Int32) (x3 : Int32) (x4 : Int32) (x5 : Int32) (h0 : Heap) (n0 : Nat) (z0 : n0 ≤ h0.size) (X00 : Old Z n0 h0) (TK : Arv Z h0 TB TBk .int 256 Bt (.int 0)) (DEx : Exa Z h0 DE "java/util/Base64$Decoder") (DEu : Fld Z h0 DE "java/util/Base64$Decoder" "isURL" "Z" (.int 1)) (DEm : Fld Z h0 DE "java/util/Base64$Decoder" "isMIME" "Z" (.int 0)) (s0 : Exa Z h0 x "java/lang/String") (s1 : Fld Z h0 x "java/lang/String" "value" "[B" (.ref xt)) (s2 : Fld Z h0 x "java/lang/String" "coder" "B" (.int 0)) (s3 : Arv Z h0 xt xtk .byte (6 : Int32) ([(.int ((Ad x0).toInt8.toInt32)), (.int ((Ad x1).toInt8.toInt32)), (.int ((Ad x2).toInt8.toInt32)), (.int ((Ad x3).toInt8.toInt32)), (.int ((Ad x4).toInt8.toInt32)), (.int ((Ad x5).toInt8.toInt32))]) (.int 0)) (s4 : Exa Z h0 xt "[B") (XS : Bf Z n0 G1 G3 U8 I8 TB DE) (hx0 : Ag x0) (hx1 : Ag x1) (hx2 : Ag x2) (hx3 : Ag x3) (hx4 : Ag x4) (hx5 : Ag x5) :
    Af l Z (⟨"java/util/Base64$Decoder", "decode", "(Ljava/lang/String;)[B"⟩ : MethodName) jdk_2450_method_3_code 2 (some (.array .byte)) ({ frames := 5, cells := 2, slots := 12, locals := 76 } : Room) n0 #[(.ref DE), (.ref x)] h0 (fun v h => ∃ r : Addr, ∃ rk : ClassId, v = some (.ref r) ∧ h0.size ≤ r ∧ Keep h0 h [] ∧ Arv Z h r rk .byte (4 : Int32) ([(.int (Be (Ap x0 x1 x2 x3))), (.int (Bn (Ap x0 x1 x2 x3))), (.int (Bw (Ap x0 x1 x2 x3))), (.int (Be (Df x4 x5)))]) (.int 0)) := by
  refine Ar #[.val (.ref DE), .val (.ref x)] ?_
  intro p e s m below meth c T0 C S0
  have XS_ := XS
  obtain ⟨O2, O4, P5, rG3, OU, OI, OT, OD, hUI, TBlt, DElt⟩ := XS_
  refine Ac C S0 [(0, .aload_n 0, 1), (1, .aload_n 1, 1)] 2 #[Ab DE, Ab x] [.ref x, .ref DE] ?_
  refine Az C S0 (ow hw 95 rfl) Via.refl (OI.ext X00.2) (by decide +kernel) ?_
  intro T1 S2
  refine Al C S2 hw 97 98 100 100 99 101 9 (Es l Z a0 hw G1 G3 U8 I8 TB DE x _ _ _ _ h0 n0 z0 X00 s0 s1 s2 s3 s4 XS (Am rfl)) 1 s0 [.ref I8] [.ref DE] Du ?_
  rintro T8 h9 v10 L11 S12 ⟨⟨a3, rfl, g4, K5, f6, f7⟩, -⟩
  have f13 := (X00.keep K5 all0)
  have f14 := (TK.keep K5 nin0)
  have f15 := (DEx.keep K5)
  have f16 := (DEu.keep K5 nin0)
  have f17 := (DEm.keep K5 nin0)
  have f18 : n0 ≤ h9.size := (Nat.le_trans z0 K5.1)
  refine Al C S12 hw 123 124 126 126 125 127 93 (own_da6 l Z a0 hw G1 G3 U8 I8 TB TBk DE a3 _ x0 x1 x2 x3 x4 x5 h9 n0 f18 f13 f14 f15 f16 f17 f6 f7 XS hx0 hx1 hx2 hx3 hx4 hx5) 0 f15 [.ref a3] [] Dv ?_
  rintro T24 h25 v26 L27 S28 ⟨⟨a19, k20, rfl, g21, K22, f23⟩, -⟩
  refine Br C S28 rfl rfl (by decide +kernel) (by decide) (by decide) ?_
  have o30 : h0.size ≤ h9.size := (Nat.le_trans (Nat.le_refl _) K5.1)
  have o29 : h0.size ≤ a19 := Nat.le_trans o30 g21
  exact ⟨a19, k20, rfl, o29, (((Keep.refl _ _).trans K5 all0).trans K22 all0), f23⟩
theorem own_du6 (hw : Ao a0 Z) (hEL : EW Z a0 Cm) (wS : ∀ a ∈ Bundle.stringAtoms, a.before a0 Z = true) (G1 : Int32) (G3 : Value) (U8 : Addr) (I8 : Addr) (TB : Addr) (TBk : ClassId) (DE : Addr) (x : Addr) (xt : Addr) (xtk : ClassId) (x0 : Int32) (x1 : Int32) (x2 : Int32) (x3 : Int32) (x4 : Int32) (x5 : Int32) (h0 : Heap) (n0 : Nat) (z0 : n0 ≤ h0.size) (X00 : Old Z n0 h0) (TK : Arv Z h0 TB TBk .int 256 Bt (.int 0)) (DEx : Exa Z h0 DE "java/util/Base64$Decoder") (DEu : Fld Z h0 DE "java/util/Base64$Decoder" "isURL" "Z" (.int 1)) (DEm : Fld Z h0 DE "java/util/Base64$Decoder" "isMIME" "Z" (.int 0)) (s0 : Exa Z h0 x "java/lang/String") (s1 : Fld Z h0 x "java/lang/String" "value" "[B" (.ref xt)) (s2 : Fld Z h0 x "java/lang/String" "coder" "B" (.int 0)) (s3 : Arv Z h0 xt xtk .byte (6 : Int32) ([(.int ((Ad x0).toInt8.toInt32)), (.int ((Ad x1).toInt8.toInt32)), (.int ((Ad x2).toInt8.toInt32)), (.int ((Ad x3).toInt8.toInt32)), (.int ((Ad x4).toInt8.toInt32)), (.int ((Ad x5).toInt8.toInt32))]) (.int 0)) (s4 : Exa Z h0 xt "[B") (XS : Bf Z n0 G1 G3 U8 I8 TB DE) (hx0 : Ag x0) (hx1 : Ag x1) (hx2 : Ag x2) (hx3 : Ag x3) (hx4 : Ag x4) (hx5 : Ag x5) (hs : (x5 &&& (((1 : Int32) <<< ((4 : Int32) &&& 31)) - (1 : Int32))) = (0 : Int32)) :
    Cp l Z Cm (⟨"com/example/torrey/torrey/Base64Url", "decode", "(Ljava/lang/String;)[B"⟩ : MethodName) prog_1_method_3_code 3 (some (.array .byte)) ({ frames := 6, cells := 4, slots := 32, locals := 89 } : Room) n0 #[(.ref x)] h0 [] (fun v h => ∃ r : Addr, ∃ rk : ClassId, v = some (.ref r) ∧ h0.size ≤ r ∧ Keep h0 h [] ∧ Arv Z h r rk .byte (4 : Int32) ([(.int (Be (Ap x0 x1 x2 x3))), (.int (Bn (Ap x0 x1 x2 x3))), (.int (Bw (Ap x0 x1 x2 x3))), (.int (Be (Df x4 x5)))]) (.int 0)) := by
  refine Da hEL wS (by decide +kernel) #[.val (.ref x), .unset, .unset] (fun m => by first | (simp [entryFrame, mkF, argsToLocals, Value.category]; done) | rfl) ?_
  intro p e s m below meth c T0 CW SW0
  have XS_ := XS
  obtain ⟨O2, O4, P5, rG3, OU, OI, OT, OD, hUI, TBlt, DElt⟩ := XS_
  refine Bv CW SW0 ?_
  intro vm1 C S2 rb3
  refine Ac C S2 [(0, .aload_n 0, 1)] 1 #[Ab x, .unset, .unset] [.ref x] ?_
  have SW4 := rb3 _ _ _ _ [] [] S2 (Keep.refl _ _) all0 all0
  refine Dq CW SW4 (ow hw 45 rfl) (by decide +kernel) 16 (by decide) (by decide) (by decide) (by decide) ?_
  intro T5 h6 a7 SW8 E9
  have f10 : n0 ≤ h6.size := (Nat.le_trans z0 E9.1)
  refine Bv CW SW8 ?_
  intro vm17 C S18 rb19
  refine Ah C S18 hw 48 49 50 51 (Eh l Z a0 hw x a7 h6 n0 f10) 0 [.ref x, .ref a7] [] Dw ?_
  rintro T12 h13 v14 L15 S16 ⟨⟨rfl, e11⟩, -⟩
  rw [e11] at S16; clear e11
  refine Ac C S16 [(6, .pop, 1), (7, .iconst 0, 1), (8, .istore_n 1, 1), (9, .iload_n 1, 1), (10, .aload_n 0, 1)] 11 #[Ab x, Aa 0, .unset] [.ref x, .int 0] ?_
  have f20 := (X00.ext E9)
  have f21 := (Exa.ext E9 s0)
  have f22 := (Fld.ext E9 s1)
  have f23 := (Fld.ext E9 s2)
  have f24 := (s3.ext E9)
  refine Al C S16 hw 52 53 55 55 54 56 9 (Bb l Z a0 hw G1 G3 x _ _ _ _ h6 n0 f10 f20 f21 f22 f23 f24 O2 O4 P5 rG3) 1 f21 [] [.int 0] Av ?_
  rintro T26 h27 v28 L29 S30 ⟨⟨rfl, e25⟩, -⟩
  rw [e25] at S30; clear e25
  refine Ac C S30 [(14, .if_icmp .ge 39, 3), (17, .aload_n 0, 1), (18, .iload_n 1, 1)] 19 #[Ab x, Aa 0, .unset] [.int 0, .ref x] ?_
  refine Al C S30 hw 62 63 65 65 64 66 9 (Bu l Z a0 hw G1 G3 x _ _ _ _ 0 ((Ad x0).toInt8.toInt32) (Ad x0) h6 n0 f10 f20 f21 f22 f23 f24 O2 O4 P5 rG3 (⟨(by decide), (by decide)⟩) rfl (Ca hx0) (Aq hx0)) 0 f21 [.int 0] [] Bl ?_
  rintro T32 h33 v34 L35 S36 ⟨⟨rfl, e31⟩, -⟩
  rw [e31] at S36; clear e31
  refine Ah C S36 hw 84 85 43 86 (Bk l Z a0 hw x0 h6 n0 f10 hx0) 0 [.int (Ad x0)] [] Bm ?_
  rintro T38 h39 v40 L41 S42 ⟨⟨rfl, e37⟩, -⟩
  rw [e37] at S42; clear e37
  refine Ba C S42 .ge 22 47 (fun (q43 : ¬ x0 < (0 : Int32)) => ?_) (fun (hq : x0 < (0 : Int32)) => False.elim (Bp hx0 hq))
  refine Ac C S42 [(47, .iinc 1 1, 3), (50, .goto (-41), 3), (9, .iload_n 1, 1), (10, .aload_n 0, 1)] 11 #[Ab x, Aa 1, .unset] [.ref x, .int 1] ?_
  refine Al C S42 hw 52 53 55 55 54 56 9 (Bb l Z a0 hw G1 G3 x _ _ _ _ h6 n0 f10 f20 f21 f22 f23 f24 O2 O4 P5 rG3) 1 f21 [] [.int 1] Av ?_
  rintro T45 h46 v47 L48 S49 ⟨⟨rfl, e44⟩, -⟩
  rw [e44] at S49; clear e44
  refine Ac C S49 [(14, .if_icmp .ge 39, 3), (17, .aload_n 0, 1), (18, .iload_n 1, 1)] 19 #[Ab x, Aa 1, .unset] [.int 1, .ref x] ?_
  refine Al C S49 hw 62 63 65 65 64 66 9 (Bu l Z a0 hw G1 G3 x _ _ _ _ 1 ((Ad x1).toInt8.toInt32) (Ad x1) h6 n0 f10 f20 f21 f22 f23 f24 O2 O4 P5 rG3 (⟨(by decide), (by decide)⟩) rfl (Ca hx1) (Aq hx1)) 0 f21 [.int 1] [] Bl ?_
  rintro T51 h52 v53 L54 S55 ⟨⟨rfl, e50⟩, -⟩
  rw [e50] at S55; clear e50
  refine Ah C S55 hw 84 85 43 86 (Bk l Z a0 hw x1 h6 n0 f10 hx1) 0 [.int (Ad x1)] [] Bm ?_
  rintro T57 h58 v59 L60 S61 ⟨⟨rfl, e56⟩, -⟩
  rw [e56] at S61; clear e56
  refine Ba C S61 .ge 22 47 (fun (q62 : ¬ x1 < (0 : Int32)) => ?_) (fun (hq : x1 < (0 : Int32)) => False.elim (Bp hx1 hq))
  refine Ac C S61 [(47, .iinc 1 1, 3), (50, .goto (-41), 3), (9, .iload_n 1, 1), (10, .aload_n 0, 1)] 11 #[Ab x, Aa 2, .unset] [.ref x, .int 2] ?_
  refine Al C S61 hw 52 53 55 55 54 56 9 (Bb l Z a0 hw G1 G3 x _ _ _ _ h6 n0 f10 f20 f21 f22 f23 f24 O2 O4 P5 rG3) 1 f21 [] [.int 2] Av ?_
  rintro T64 h65 v66 L67 S68 ⟨⟨rfl, e63⟩, -⟩
  rw [e63] at S68; clear e63
  refine Ac C S68 [(14, .if_icmp .ge 39, 3), (17, .aload_n 0, 1), (18, .iload_n 1, 1)] 19 #[Ab x, Aa 2, .unset] [.int 2, .ref x] ?_
  refine Al C S68 hw 62 63 65 65 64 66 9 (Bu l Z a0 hw G1 G3 x _ _ _ _ 2 ((Ad x2).toInt8.toInt32) (Ad x2) h6 n0 f10 f20 f21 f22 f23 f24 O2 O4 P5 rG3 (⟨(by decide), (by decide)⟩) rfl (Ca hx2) (Aq hx2)) 0 f21 [.int 2] [] Bl ?_
  rintro T70 h71 v72 L73 S74 ⟨⟨rfl, e69⟩, -⟩
  rw [e69] at S74; clear e69
  refine Ah C S74 hw 84 85 43 86 (Bk l Z a0 hw x2 h6 n0 f10 hx2) 0 [.int (Ad x2)] [] Bm ?_
  rintro T76 h77 v78 L79 S80 ⟨⟨rfl, e75⟩, -⟩
  rw [e75] at S80; clear e75
  refine Ba C S80 .ge 22 47 (fun (q81 : ¬ x2 < (0 : Int32)) => ?_) (fun (hq : x2 < (0 : Int32)) => False.elim (Bp hx2 hq))
  refine Ac C S80 [(47, .iinc 1 1, 3), (50, .goto (-41), 3), (9, .iload_n 1, 1), (10, .aload_n 0, 1)] 11 #[Ab x, Aa 3, .unset] [.ref x, .int 3] ?_
  refine Al C S80 hw 52 53 55 55 54 56 9 (Bb l Z a0 hw G1 G3 x _ _ _ _ h6 n0 f10 f20 f21 f22 f23 f24 O2 O4 P5 rG3) 1 f21 [] [.int 3] Av ?_
  rintro T83 h84 v85 L86 S87 ⟨⟨rfl, e82⟩, -⟩
  rw [e82] at S87; clear e82
  refine Ac C S87 [(14, .if_icmp .ge 39, 3), (17, .aload_n 0, 1), (18, .iload_n 1, 1)] 19 #[Ab x, Aa 3, .unset] [.int 3, .ref x] ?_
  refine Al C S87 hw 62 63 65 65 64 66 9 (Bu l Z a0 hw G1 G3 x _ _ _ _ 3 ((Ad x3).toInt8.toInt32) (Ad x3) h6 n0 f10 f20 f21 f22 f23 f24 O2 O4 P5 rG3 (⟨(by decide), (by decide)⟩) rfl (Ca hx3) (Aq hx3)) 0 f21 [.int 3] [] Bl ?_
  rintro T89 h90 v91 L92 S93 ⟨⟨rfl, e88⟩, -⟩
  rw [e88] at S93; clear e88
  refine Ah C S93 hw 84 85 43 86 (Bk l Z a0 hw x3 h6 n0 f10 hx3) 0 [.int (Ad x3)] [] Bm ?_
  rintro T95 h96 v97 L98 S99 ⟨⟨rfl, e94⟩, -⟩
  rw [e94] at S99; clear e94
  refine Ba C S99 .ge 22 47 (fun (q100 : ¬ x3 < (0 : Int32)) => ?_) (fun (hq : x3 < (0 : Int32)) => False.elim (Bp hx3 hq))
  refine Ac C S99 [(47, .iinc 1 1, 3), (50, .goto (-41), 3), (9, .iload_n 1, 1), (10, .aload_n 0, 1)] 11 #[Ab x, Aa 4, .unset] [.ref x, .int 4] ?_
  refine Al C S99 hw 52 53 55 55 54 56 9 (Bb l Z a0 hw G1 G3 x _ _ _ _ h6 n0 f10 f20 f21 f22 f23 f24 O2 O4 P5 rG3) 1 f21 [] [.int 4] Av ?_
  rintro T102 h103 v104 L105 S106 ⟨⟨rfl, e101⟩, -⟩
  rw [e101] at S106; clear e101
  refine Ac C S106 [(14, .if_icmp .ge 39, 3), (17, .aload_n 0, 1), (18, .iload_n 1, 1)] 19 #[Ab x, Aa 4, .unset] [.int 4, .ref x] ?_
  refine Al C S106 hw 62 63 65 65 64 66 9 (Bu l Z a0 hw G1 G3 x _ _ _ _ 4 ((Ad x4).toInt8.toInt32) (Ad x4) h6 n0 f10 f20 f21 f22 f23 f24 O2 O4 P5 rG3 (⟨(by decide), (by decide)⟩) rfl (Ca hx4) (Aq hx4)) 0 f21 [.int 4] [] Bl ?_
  rintro T108 h109 v110 L111 S112 ⟨⟨rfl, e107⟩, -⟩
  rw [e107] at S112; clear e107
  refine Ah C S112 hw 84 85 43 86 (Bk l Z a0 hw x4 h6 n0 f10 hx4) 0 [.int (Ad x4)] [] Bm ?_
  rintro T114 h115 v116 L117 S118 ⟨⟨rfl, e113⟩, -⟩
  rw [e113] at S118; clear e113
  refine Ba C S118 .ge 22 47 (fun (q119 : ¬ x4 < (0 : Int32)) => ?_) (fun (hq : x4 < (0 : Int32)) => False.elim (Bp hx4 hq))
  refine Ac C S118 [(47, .iinc 1 1, 3), (50, .goto (-41), 3), (9, .iload_n 1, 1), (10, .aload_n 0, 1)] 11 #[Ab x, Aa 5, .unset] [.ref x, .int 5] ?_
  refine Al C S118 hw 52 53 55 55 54 56 9 (Bb l Z a0 hw G1 G3 x _ _ _ _ h6 n0 f10 f20 f21 f22 f23 f24 O2 O4 P5 rG3) 1 f21 [] [.int 5] Av ?_
  rintro T121 h122 v123 L124 S125 ⟨⟨rfl, e120⟩, -⟩
  rw [e120] at S125; clear e120
  refine Ac C S125 [(14, .if_icmp .ge 39, 3), (17, .aload_n 0, 1), (18, .iload_n 1, 1)] 19 #[Ab x, Aa 5, .unset] [.int 5, .ref x] ?_
  refine Al C S125 hw 62 63 65 65 64 66 9 (Bu l Z a0 hw G1 G3 x _ _ _ _ 5 ((Ad x5).toInt8.toInt32) (Ad x5) h6 n0 f10 f20 f21 f22 f23 f24 O2 O4 P5 rG3 (⟨(by decide), (by decide)⟩) rfl (Ca hx5) (Aq hx5)) 0 f21 [.int 5] [] Bl ?_
  rintro T127 h128 v129 L130 S131 ⟨⟨rfl, e126⟩, -⟩
  rw [e126] at S131; clear e126
  refine Ah C S131 hw 84 85 43 86 (Bk l Z a0 hw x5 h6 n0 f10 hx5) 0 [.int (Ad x5)] [] Bm ?_
  rintro T133 h134 v135 L136 S137 ⟨⟨rfl, e132⟩, -⟩
  rw [e132] at S137; clear e132
  refine Ba C S137 .ge 22 47 (fun (q138 : ¬ x5 < (0 : Int32)) => ?_) (fun (hq : x5 < (0 : Int32)) => False.elim (Bp hx5 hq))
  refine Ac C S137 [(47, .iinc 1 1, 3), (50, .goto (-41), 3), (9, .iload_n 1, 1), (10, .aload_n 0, 1)] 11 #[Ab x, Aa 6, .unset] [.ref x, .int 6] ?_
  refine Al C S137 hw 52 53 55 55 54 56 9 (Bb l Z a0 hw G1 G3 x _ _ _ _ h6 n0 f10 f20 f21 f22 f23 f24 O2 O4 P5 rG3) 1 f21 [] [.int 6] Av ?_
  rintro T140 h141 v142 L143 S144 ⟨⟨rfl, e139⟩, -⟩
  rw [e139] at S144; clear e139
  refine Ac C S144 [(14, .if_icmp .ge 39, 3), (53, .aload_n 0, 1)] 54 #[Ab x, Aa 6, .unset] [.ref x] ?_
  refine Al C S144 hw 52 53 55 55 54 56 9 (Bb l Z a0 hw G1 G3 x _ _ _ _ h6 n0 f10 f20 f21 f22 f23 f24 O2 O4 P5 rG3) 0 f21 [] [] Av ?_
  rintro T146 h147 v148 L149 S150 ⟨⟨rfl, e145⟩, -⟩
  rw [e145] at S150; clear e145
  refine Ac C S150 [(57, .iconst 1, 1), (58, .isub, 1), (59, .istore_n 1, 1), (60, .aload_n 0, 1)] 61 #[Ab x, Aa 5, .unset] [.ref x] ?_
  refine Al C S150 hw 52 53 55 55 54 56 9 (Bb l Z a0 hw G1 G3 x _ _ _ _ h6 n0 f10 f20 f21 f22 f23 f24 O2 O4 P5 rG3) 0 f21 [] [] Av ?_
  rintro T152 h153 v154 L155 S156 ⟨⟨rfl, e151⟩, -⟩
  rw [e151] at S156; clear e151
  refine Ac C S156 [(64, .iconst 4, 1)] 65 #[Ab x, Aa 5, .unset] [.int 4, .int 6] ?_
  refine Dk C S156 (by decide +kernel) (by decide) ?_
  refine own_tsi C S156 (df := 53) (lo := 1) (hi := 3) (offs := #[26, 45, 49]) (len := 26) (o := 45) (by decide +kernel) (by decide) (by decide) (by decide) 111 (by decide) ?_
  refine Ac C S156 [(111, .iconst 4, 1), (112, .goto 8, 3), (120, .istore_n 2, 1), (121, .iload_n 2, 1), (122, .ifCond .le 39, 3), (125, .aload_n 0, 1), (126, .iload_n 1, 1)] 127 #[Ab x, Aa 5, Aa 4] [.int 5, .ref x] ?_
  refine Al C S156 hw 62 63 65 65 64 66 9 (Bu l Z a0 hw G1 G3 x _ _ _ _ 5 ((Ad x5).toInt8.toInt32) (Ad x5) h6 n0 f10 f20 f21 f22 f23 f24 O2 O4 P5 rG3 (⟨(by decide), (by decide)⟩) rfl (Ca hx5) (Aq hx5)) 0 f21 [.int 5] [] Bl ?_
  rintro T158 h159 v160 L161 S162 ⟨⟨rfl, e157⟩, -⟩
  rw [e157] at S162; clear e157
  refine Ah C S162 hw 84 85 43 86 (Bk l Z a0 hw x5 h6 n0 f10 hx5) 0 [.int (Ad x5)] [] Bm ?_
  rintro T164 h165 v166 L167 S168 ⟨⟨rfl, e163⟩, -⟩
  rw [e163] at S168; clear e163
  refine Ac C S168 [(133, .iconst 1, 1), (134, .iload_n 2, 1), (135, .ishl, 1), (136, .iconst 1, 1), (137, .isub, 1), (138, .iand, 1)] 139 #[Ab x, Aa 5, Aa 4] [.int (x5 &&& (((1 : Int32) <<< ((4 : Int32) &&& 31)) - (1 : Int32)))] ?_
  refine Ba C S168 .eq 22 161 (fun (q169 : (x5 &&& (((1 : Int32) <<< ((4 : Int32) &&& 31)) - (1 : Int32))) = (0 : Int32)) => ?_) (fun (hq : ¬ (x5 &&& (((1 : Int32) <<< ((4 : Int32) &&& 31)) - (1 : Int32))) = (0 : Int32)) => False.elim (hq hs))
  refine Az C S168 (ow hw 87 rfl) Via.refl (OD.ext f20.2) (by decide +kernel) ?_
  intro T170 S171
  refine Ac C S171 [(164, .aload_n 0, 1)] 165 #[Ab x, Aa 5, Aa 4] [.ref x, .ref DE] ?_
  have f172 := (TK.ext E9)
  have f173 := (Exa.ext E9 DEx)
  have f174 := (Fld.ext E9 DEu)
  have f175 := (Fld.ext E9 DEm)
  have f176 := (Exa.ext E9 s4)
  refine Al C S171 hw 89 90 92 92 91 94 93 (own_ds6 l Z a0 hw G1 G3 U8 I8 TB TBk DE x _ _ x0 x1 x2 x3 x4 x5 h6 n0 f10 f20 f172 f173 f174 f175 f21 f22 f23 f24 f176 XS hx0 hx1 hx2 hx3 hx4 hx5) 0 f173 [.ref x] [] Cu ?_
  rintro T182 h183 v184 L185 S186 ⟨⟨a177, k178, rfl, g179, K180, f181⟩, -⟩
  have o187 : h6.size ≤ a177 := Nat.le_trans (Nat.le_refl _) g179
  have SW188 := rb19 _ _ _ _ [] [a177] S186 ((Keep.refl _ _).trans K180 all0) all0 (allS ⟨o187, f181.lt⟩ all0)
  refine Dg CW SW188 rfl rfl (by decide +kernel) (by decide) (by decide) ?_
  have o190 : h0.size ≤ h6.size := (Nat.le_trans (Nat.le_refl _) E9.1)
  have o189 : h0.size ≤ a177 := Nat.le_trans o190 g179
  exact ⟨a177, k178, rfl, o189, (((Keep.refl _ _).ext E9).trans K180 all0), f181⟩
theorem own_dl7 (hw : Ao a0 Z) (G1 : Int32) (G3 : Value) (U8 : Addr) (I8 : Addr) (TB : Addr) (TBk : ClassId) (DE : Addr) (b : Addr) (bk : ClassId) (x0 : Int32) (x1 : Int32) (x2 : Int32) (x3 : Int32) (x4 : Int32) (x5 : Int32) (x6 : Int32) (h0 : Heap) (n0 : Nat) (z0 : n0 ≤ h0.size) (X00 : Old Z n0 h0) (TK : Arv Z h0 TB TBk .int 256 Bt (.int 0)) (DEx : Exa Z h0 DE "java/util/Base64$Decoder") (DEu : Fld Z h0 DE "java/util/Base64$Decoder" "isURL" "Z" (.int 1)) (DEm : Fld Z h0 DE "java/util/Base64$Decoder" "isMIME" "Z" (.int 0)) (b0 : Arv Z h0 b bk .byte (7 : Int32) ([(.int ((Ad x0).toInt8.toInt32)), (.int ((Ad x1).toInt8.toInt32)), (.int ((Ad x2).toInt8.toInt32)), (.int ((Ad x3).toInt8.toInt32)), (.int ((Ad x4).toInt8.toInt32)), (.int ((Ad x5).toInt8.toInt32)), (.int ((Ad x6).toInt8.toInt32))]) (.int 0)) (b1 : Exa Z h0 b "[B") (XS : Bf Z n0 G1 G3 U8 I8 TB DE) (hx0 : Ag x0) (hx1 : Ag x1) (hx2 : Ag x2) (hx3 : Ag x3) (hx4 : Ag x4) (hx5 : Ag x5) (hx6 : Ag x6) :
    Af l Z (⟨"java/util/Base64$Decoder", "decodedOutLength", "([BII)I"⟩ : MethodName) jdk_2450_method_7_code 9 (some .int) ({ frames := 0, cells := 0, slots := 0, locals := 0 } : Room) n0 #[(.ref DE), (.ref b), (.int 0), (.int 7)] h0 (fun v h => v = some (.int 5) ∧ h = h0) := by
  refine Ar #[.val (.ref DE), .val (.ref b), .val (.int 0), .val (.int 7), .unset, .unset, .unset, .unset, .unset] ?_
  intro p e s m below meth c T0 C S0
  have XS_ := XS
  obtain ⟨O2, O4, P5, rG3, OU, OI, OT, OD, hUI, TBlt, DElt⟩ := XS_
  refine Ac C S0 [(0, .aload_n 0, 1)] 1 #[Ab DE, Ab b, Aa 0, Aa 7, .unset, .unset, .unset, .unset, .unset] [.ref DE] ?_
  refine Cb C S0 hw 133 DEu ?_
  intro T1 S2
  refine Ac C S2 [(4, .ifCond .eq 9, 3)] 7 #[Ab DE, Ab b, Aa 0, Aa 7, .unset, .unset, .unset, .unset, .unset] [] ?_
  refine Az C S2 (ow hw 135 rfl) Via.refl (OT.ext X00.2) (by decide +kernel) ?_
  intro T3 S4
  refine Ac C S4 [(10, .goto 6, 3), (16, .astore 4, 2), (18, .iconst 0, 1), (19, .istore 5, 2), (21, .iload_n 3, 1), (22, .iload_n 2, 1), (23, .isub, 1), (24, .istore 6, 2), (26, .iload 6, 2), (28, .ifCond .ne 5, 3), (33, .iload 6, 2), (35, .iconst 2, 1), (36, .if_icmp .ge 30, 3), (66, .aload_n 0, 1)] 67 #[Ab DE, Ab b, Aa 0, Aa 7, Ab TB, Aa 0, Aa 7, .unset, .unset] [.ref DE] ?_
  refine Cb C S4 hw 136 DEm ?_
  intro T5 S6
  refine Ac C S6 [(70, .ifCond .eq 71, 3), (141, .aload_n 1, 1), (142, .iload_n 3, 1), (143, .iconst 1, 1), (144, .isub, 1)] 145 #[Ab DE, Ab b, Aa 0, Aa 7, Ab TB, Aa 0, Aa 7, .unset, .unset] [.int 6, .ref b] ?_
  refine As C S6 b0 ⟨(by decide), (by decide)⟩ (.int ((Ad x6).toInt8.toInt32)) rfl (by decide +kernel) ?_
  refine Ac C S6 [(146, .bipush 61, 2)] 148 #[Ab DE, Ab b, Aa 0, Aa 7, Ab TB, Aa 0, Aa 7, .unset, .unset] [.int 61, .int ((Ad x6).toInt8.toInt32)] ?_
  refine Bj C S6 .ne 19 167 (fun (q7 : ¬ ((Ad x6).toInt8.toInt32) = (61 : Int32)) => ?_) (fun (hq : ((Ad x6).toInt8.toInt32) = (61 : Int32)) => False.elim (Em hx6 hq))
  refine Ac C S6 [(167, .iload 5, 2), (169, .ifCond .ne 18, 3), (172, .iload 6, 2), (174, .iconst 3, 1), (175, .iand, 1), (176, .ifCond .eq 11, 3), (179, .iconst 4, 1), (180, .iload 6, 2), (182, .iconst 3, 1), (183, .iand, 1), (184, .isub, 1), (185, .istore 5, 2), (187, .iconst 3, 1), (188, .iload 6, 2), (190, .i2l, 1)] 191 #[Ab DE, Ab b, Aa 0, Aa 7, Ab TB, Aa 1, Aa 7, .unset, .unset] [.long ((7 : Int32).toInt64), .int 3] ?_
  refine Bz C S6 (ow hw 138 rfl) (by decide +kernel) ?_
  refine Ac C S6 [(194, .ladd, 1)] 195 #[Ab DE, Ab b, Aa 0, Aa 7, Ab TB, Aa 1, Aa 7, .unset, .unset] [.long ((7 : Int32).toInt64 + 3), .int 3] ?_
  refine Bz C S6 (ow hw 139 rfl) (by decide +kernel) ?_
  refine Ea C S6 (by decide +kernel) (by decide) ?_
  rw [show (((7 : Int32).toInt64 + 3) / 4) = (2 : Int64) from (by decide)]
  refine Ac C S6 [(199, .l2i, 1), (200, .imul, 1), (201, .iload 5, 2), (203, .isub, 1)] 204 #[Ab DE, Ab b, Aa 0, Aa 7, Ab TB, Aa 1, Aa 7, .unset, .unset] [.int (((3 : Int32) * (2 : Int64).toInt32) - (1 : Int32))] ?_
  rw [show (((3 : Int32) * (2 : Int64).toInt32) - (1 : Int32)) = (5 : Int32) from (by decide)]
  refine Bq C S6 (by decide +kernel) (by decide) (by decide) ?_
  exact ⟨rfl, rfl⟩
theorem own_db7 (hw : Ao a0 Z) (G1 : Int32) (G3 : Value) (U8 : Addr) (I8 : Addr) (TB : Addr) (TBk : ClassId) (DE : Addr) (b : Addr) (bk : ClassId) (d : Addr) (dk : ClassId) (x0 : Int32) (x1 : Int32) (x2 : Int32) (x3 : Int32) (x4 : Int32) (x5 : Int32) (x6 : Int32) (h0 : Heap) (n0 : Nat) (z0 : n0 ≤ h0.size) (ge_d : n0 ≤ d) (X00 : Old Z n0 h0) (TK : Arv Z h0 TB TBk .int 256 Bt (.int 0)) (DEx : Exa Z h0 DE "java/util/Base64$Decoder") (DEu : Fld Z h0 DE "java/util/Base64$Decoder" "isURL" "Z" (.int 1)) (DEm : Fld Z h0 DE "java/util/Base64$Decoder" "isMIME" "Z" (.int 0)) (b0 : Arv Z h0 b bk .byte (7 : Int32) ([(.int ((Ad x0).toInt8.toInt32)), (.int ((Ad x1).toInt8.toInt32)), (.int ((Ad x2).toInt8.toInt32)), (.int ((Ad x3).toInt8.toInt32)), (.int ((Ad x4).toInt8.toInt32)), (.int ((Ad x5).toInt8.toInt32)), (.int ((Ad x6).toInt8.toInt32))]) (.int 0)) (b1 : Exa Z h0 b "[B") (dK : Arv Z h0 d dk .byte (5 : Int32) ([(.int 0), (.int 0), (.int 0), (.int 0), (.int 0)]) (.int 0)) (ne_b_d : b ≠ d) (XS : Bf Z n0 G1 G3 U8 I8 TB DE) (hx0 : Ag x0) (hx1 : Ag x1) (hx2 : Ag x2) (hx3 : Ag x3) (hx4 : Ag x4) (hx5 : Ag x5) (hx6 : Ag x6) :
    Af l Z (⟨"java/util/Base64$Decoder", "decodeBlock", "([BII[BIZZ)I"⟩ : MethodName) jdk_2450_method_8_code 16 (some .int) ({ frames := 0, cells := 0, slots := 0, locals := 0 } : Room) n0 #[(.ref DE), (.ref b), (.int 0), (.int 7), (.ref d), (.int 0), (.int 1), (.int 0)] h0 (fun v h => v = some (.int 3) ∧ Keep h0 h [d] ∧ Arv Z h d dk .byte (5 : Int32) ([(.int (Be (Ap x0 x1 x2 x3))), (.int (Bn (Ap x0 x1 x2 x3))), (.int (Bw (Ap x0 x1 x2 x3))), (.int 0), (.int 0)]) (.int 0)) := by
  refine Ar #[.val (.ref DE), .val (.ref b), .val (.int 0), .val (.int 7), .val (.ref d), .val (.int 0), .val (.int 1), .val (.int 0), .unset, .unset, .unset, .unset, .unset, .unset, .unset, .unset] ?_
  intro p e s m below meth c T0 C S0
  have XS_ := XS
  obtain ⟨O2, O4, P5, rG3, OU, OI, OT, OD, hUI, TBlt, DElt⟩ := XS_
  refine Ac C S0 [(0, .iload 6, 2), (2, .ifCond .eq 9, 3)] 5 #[Ab DE, Ab b, Aa 0, Aa 7, Ab d, Aa 0, Aa 1, Aa 0, .unset, .unset, .unset, .unset, .unset, .unset, .unset, .unset] [] ?_
  refine Az C S0 (ow hw 135 rfl) Via.refl (OT.ext X00.2) (by decide +kernel) ?_
  intro T1 S2
  refine Ac C S2 [(8, .goto 6, 3), (14, .astore 8, 2), (16, .iload_n 2, 1), (17, .iload_n 3, 1), (18, .iload_n 2, 1), (19, .isub, 1), (20, .bipush (-4), 2), (22, .iand, 1), (23, .iadd, 1), (24, .istore 9, 2), (26, .iload 5, 2), (28, .istore 10, 2), (30, .iload_n 2, 1), (31, .iload 9, 2), (33, .if_icmp .ge 147, 3), (36, .aload 8, 2), (38, .aload_n 1, 1), (39, .iload_n 2, 1), (40, .iinc 2 1, 3)] 43 #[Ab DE, Ab b, Aa 1, Aa 7, Ab d, Aa 0, Aa 1, Aa 0, Ab TB, Aa 4, Aa 0, .unset, .unset, .unset, .unset, .unset] [.int 0, .ref b, .ref TB] ?_
  refine As C S2 b0 ⟨(by decide), (by decide)⟩ (.int ((Ad x0).toInt8.toInt32)) rfl (by decide +kernel) ?_
  refine Ac C S2 [(44, .sipush 255, 3), (47, .iand, 1)] 48 #[Ab DE, Ab b, Aa 1, Aa 7, Ab d, Aa 0, Aa 1, Aa 0, Ab TB, Aa 4, Aa 0, .unset, .unset, .unset, .unset, .unset] [.int ((Ad x0).toInt8.toInt32 &&& (255 : Int32)), .ref TB] ?_
  refine Aw C S2 TK (Ce hx0) (.int x0) (Cd hx0) (by decide +kernel) ?_
  refine Ac C S2 [(49, .istore 11, 2), (51, .aload 8, 2), (53, .aload_n 1, 1), (54, .iload_n 2, 1), (55, .iinc 2 1, 3)] 58 #[Ab DE, Ab b, Aa 2, Aa 7, Ab d, Aa 0, Aa 1, Aa 0, Ab TB, Aa 4, Aa 0, Aa x0, .unset, .unset, .unset, .unset] [.int 1, .ref b, .ref TB] ?_
  refine As C S2 b0 ⟨(by decide), (by decide)⟩ (.int ((Ad x1).toInt8.toInt32)) rfl (by decide +kernel) ?_
  refine Ac C S2 [(59, .sipush 255, 3), (62, .iand, 1)] 63 #[Ab DE, Ab b, Aa 2, Aa 7, Ab d, Aa 0, Aa 1, Aa 0, Ab TB, Aa 4, Aa 0, Aa x0, .unset, .unset, .unset, .unset] [.int ((Ad x1).toInt8.toInt32 &&& (255 : Int32)), .ref TB] ?_
  refine Aw C S2 TK (Ce hx1) (.int x1) (Cd hx1) (by decide +kernel) ?_
  refine Ac C S2 [(64, .istore 12, 2), (66, .aload 8, 2), (68, .aload_n 1, 1), (69, .iload_n 2, 1), (70, .iinc 2 1, 3)] 73 #[Ab DE, Ab b, Aa 3, Aa 7, Ab d, Aa 0, Aa 1, Aa 0, Ab TB, Aa 4, Aa 0, Aa x0, Aa x1, .unset, .unset, .unset] [.int 2, .ref b, .ref TB] ?_
  refine As C S2 b0 ⟨(by decide), (by decide)⟩ (.int ((Ad x2).toInt8.toInt32)) rfl (by decide +kernel) ?_
  refine Ac C S2 [(74, .sipush 255, 3), (77, .iand, 1)] 78 #[Ab DE, Ab b, Aa 3, Aa 7, Ab d, Aa 0, Aa 1, Aa 0, Ab TB, Aa 4, Aa 0, Aa x0, Aa x1, .unset, .unset, .unset] [.int ((Ad x2).toInt8.toInt32 &&& (255 : Int32)), .ref TB] ?_
  refine Aw C S2 TK (Ce hx2) (.int x2) (Cd hx2) (by decide +kernel) ?_
  refine Ac C S2 [(79, .istore 13, 2), (81, .aload 8, 2), (83, .aload_n 1, 1), (84, .iload_n 2, 1), (85, .iinc 2 1, 3)] 88 #[Ab DE, Ab b, Aa 4, Aa 7, Ab d, Aa 0, Aa 1, Aa 0, Ab TB, Aa 4, Aa 0, Aa x0, Aa x1, Aa x2, .unset, .unset] [.int 3, .ref b, .ref TB] ?_
  refine As C S2 b0 ⟨(by decide), (by decide)⟩ (.int ((Ad x3).toInt8.toInt32)) rfl (by decide +kernel) ?_
  refine Ac C S2 [(89, .sipush 255, 3), (92, .iand, 1)] 93 #[Ab DE, Ab b, Aa 4, Aa 7, Ab d, Aa 0, Aa 1, Aa 0, Ab TB, Aa 4, Aa 0, Aa x0, Aa x1, Aa x2, .unset, .unset] [.int ((Ad x3).toInt8.toInt32 &&& (255 : Int32)), .ref TB] ?_
  refine Aw C S2 TK (Ce hx3) (.int x3) (Cd hx3) (by decide +kernel) ?_
  refine Ac C S2 [(94, .istore 14, 2), (96, .iload 11, 2), (98, .iload 12, 2), (100, .ior, 1), (101, .iload 13, 2), (103, .ior, 1), (104, .iload 14, 2), (106, .ior, 1)] 107 #[Ab DE, Ab b, Aa 4, Aa 7, Ab d, Aa 0, Aa 1, Aa 0, Ab TB, Aa 4, Aa 0, Aa x0, Aa x1, Aa x2, Aa x3, .unset] [.int (((x0 ||| x1) ||| x2) ||| x3)] ?_
  refine Ba C S2 .ge 9 116 (fun (q3 : ¬ (((x0 ||| x1) ||| x2) ||| x3) < (0 : Int32)) => ?_) (fun (hq : (((x0 ||| x1) ||| x2) ||| x3) < (0 : Int32)) => False.elim (own_or4 hx0 hx1 hx2 hx3 hq))
  refine Ac C S2 [(116, .iload 11, 2), (118, .bipush 18, 2), (120, .ishl, 1), (121, .iload 12, 2), (123, .bipush 12, 2), (125, .ishl, 1), (126, .ior, 1), (127, .iload 13, 2), (129, .bipush 6, 2), (131, .ishl, 1), (132, .ior, 1), (133, .iload 14, 2), (135, .ior, 1), (136, .istore 15, 2), (138, .aload 4, 2), (140, .iload 10, 2), (142, .iinc 10 1, 3), (145, .iload 15, 2), (147, .bipush 16, 2), (149, .ishr, 1), (150, .i2b, 1)] 151 #[Ab DE, Ab b, Aa 4, Aa 7, Ab d, Aa 0, Aa 1, Aa 0, Ab TB, Aa 4, Aa 1, Aa x0, Aa x1, Aa x2, Aa x3, Aa ((((x0 <<< ((18 : Int32) &&& 31)) ||| (x1 <<< ((12 : Int32) &&& 31))) ||| (x2 <<< ((6 : Int32) &&& 31))) ||| x3)] [.int ((((((x0 <<< ((18 : Int32) &&& 31)) ||| (x1 <<< ((12 : Int32) &&& 31))) ||| (x2 <<< ((6 : Int32) &&& 31))) ||| x3) >>> ((16 : Int32) &&& 31)).toInt8.toInt32), .int 0, .ref d] ?_
  refine Aj C S2 dK ⟨(by decide), (by decide)⟩ 0 rfl (Am rfl) ((((((x0 <<< ((18 : Int32) &&& 31)) ||| (x1 <<< ((12 : Int32) &&& 31))) ||| (x2 <<< ((6 : Int32) &&& 31))) ||| x3) >>> ((16 : Int32) &&& 31)).toInt8.toInt32) (Au _) ge_d (by decide +kernel) ?_
  intro T4 h6 S5 W7 f8
  have f9 : Arv Z h6 d dk .byte (5 : Int32) ([(.int ((((((x0 <<< ((18 : Int32) &&& 31)) ||| (x1 <<< ((12 : Int32) &&& 31))) ||| (x2 <<< ((6 : Int32) &&& 31))) ||| x3) >>> ((16 : Int32) &&& 31)).toInt8.toInt32)), (.int 0), (.int 0), (.int 0), (.int 0)]) (.int 0) := f8
  refine Ac C S5 [(152, .aload 4, 2), (154, .iload 10, 2), (156, .iinc 10 1, 3), (159, .iload 15, 2), (161, .bipush 8, 2), (163, .ishr, 1), (164, .i2b, 1)] 165 #[Ab DE, Ab b, Aa 4, Aa 7, Ab d, Aa 0, Aa 1, Aa 0, Ab TB, Aa 4, Aa 2, Aa x0, Aa x1, Aa x2, Aa x3, Aa ((((x0 <<< ((18 : Int32) &&& 31)) ||| (x1 <<< ((12 : Int32) &&& 31))) ||| (x2 <<< ((6 : Int32) &&& 31))) ||| x3)] [.int ((((((x0 <<< ((18 : Int32) &&& 31)) ||| (x1 <<< ((12 : Int32) &&& 31))) ||| (x2 <<< ((6 : Int32) &&& 31))) ||| x3) >>> ((8 : Int32) &&& 31)).toInt8.toInt32), .int 1, .ref d] ?_
  refine Aj C S5 f9 ⟨(by decide), (by decide)⟩ 1 rfl (Am rfl) ((((((x0 <<< ((18 : Int32) &&& 31)) ||| (x1 <<< ((12 : Int32) &&& 31))) ||| (x2 <<< ((6 : Int32) &&& 31))) ||| x3) >>> ((8 : Int32) &&& 31)).toInt8.toInt32) (Au _) ge_d (by decide +kernel) ?_
  intro T10 h12 S11 W13 f14
  have f15 : Arv Z h12 d dk .byte (5 : Int32) ([(.int ((((((x0 <<< ((18 : Int32) &&& 31)) ||| (x1 <<< ((12 : Int32) &&& 31))) ||| (x2 <<< ((6 : Int32) &&& 31))) ||| x3) >>> ((16 : Int32) &&& 31)).toInt8.toInt32)), (.int ((((((x0 <<< ((18 : Int32) &&& 31)) ||| (x1 <<< ((12 : Int32) &&& 31))) ||| (x2 <<< ((6 : Int32) &&& 31))) ||| x3) >>> ((8 : Int32) &&& 31)).toInt8.toInt32)), (.int 0), (.int 0), (.int 0)]) (.int 0) := f14
  refine Ac C S11 [(166, .aload 4, 2), (168, .iload 10, 2), (170, .iinc 10 1, 3), (173, .iload 15, 2), (175, .i2b, 1)] 176 #[Ab DE, Ab b, Aa 4, Aa 7, Ab d, Aa 0, Aa 1, Aa 0, Ab TB, Aa 4, Aa 3, Aa x0, Aa x1, Aa x2, Aa x3, Aa ((((x0 <<< ((18 : Int32) &&& 31)) ||| (x1 <<< ((12 : Int32) &&& 31))) ||| (x2 <<< ((6 : Int32) &&& 31))) ||| x3)] [.int (((((x0 <<< ((18 : Int32) &&& 31)) ||| (x1 <<< ((12 : Int32) &&& 31))) ||| (x2 <<< ((6 : Int32) &&& 31))) ||| x3).toInt8.toInt32), .int 2, .ref d] ?_
  refine Aj C S11 f15 ⟨(by decide), (by decide)⟩ 2 rfl (Am rfl) (((((x0 <<< ((18 : Int32) &&& 31)) ||| (x1 <<< ((12 : Int32) &&& 31))) ||| (x2 <<< ((6 : Int32) &&& 31))) ||| x3).toInt8.toInt32) (Au _) ge_d (by decide +kernel) ?_
  intro T16 h18 S17 W19 f20
  have f21 : Arv Z h18 d dk .byte (5 : Int32) ([(.int ((((((x0 <<< ((18 : Int32) &&& 31)) ||| (x1 <<< ((12 : Int32) &&& 31))) ||| (x2 <<< ((6 : Int32) &&& 31))) ||| x3) >>> ((16 : Int32) &&& 31)).toInt8.toInt32)), (.int ((((((x0 <<< ((18 : Int32) &&& 31)) ||| (x1 <<< ((12 : Int32) &&& 31))) ||| (x2 <<< ((6 : Int32) &&& 31))) ||| x3) >>> ((8 : Int32) &&& 31)).toInt8.toInt32)), (.int (((((x0 <<< ((18 : Int32) &&& 31)) ||| (x1 <<< ((12 : Int32) &&& 31))) ||| (x2 <<< ((6 : Int32) &&& 31))) ||| x3).toInt8.toInt32)), (.int 0), (.int 0)]) (.int 0) := f20
  refine Ac C S17 [(177, .goto (-147), 3), (30, .iload_n 2, 1), (31, .iload 9, 2), (33, .if_icmp .ge 147, 3), (180, .iload 10, 2), (182, .iload 5, 2), (184, .isub, 1)] 185 #[Ab DE, Ab b, Aa 4, Aa 7, Ab d, Aa 0, Aa 1, Aa 0, Ab TB, Aa 4, Aa 3, Aa x0, Aa x1, Aa x2, Aa x3, Aa ((((x0 <<< ((18 : Int32) &&& 31)) ||| (x1 <<< ((12 : Int32) &&& 31))) ||| (x2 <<< ((6 : Int32) &&& 31))) ||| x3)] [.int 3] ?_
  refine Bq C S17 (by decide +kernel) (by decide) (by decide) ?_
  exact ⟨rfl, ((((Keep.refl _ _).wr W7 (At 0)).wr W13 (At 0)).wr W19 (At 0)), f21⟩
theorem own_d07 (hw : Ao a0 Z) (G1 : Int32) (G3 : Value) (U8 : Addr) (I8 : Addr) (TB : Addr) (TBk : ClassId) (DE : Addr) (b : Addr) (bk : ClassId) (d : Addr) (dk : ClassId) (x0 : Int32) (x1 : Int32) (x2 : Int32) (x3 : Int32) (x4 : Int32) (x5 : Int32) (x6 : Int32) (h0 : Heap) (n0 : Nat) (z0 : n0 ≤ h0.size) (ge_d : n0 ≤ d) (X00 : Old Z n0 h0) (TK : Arv Z h0 TB TBk .int 256 Bt (.int 0)) (DEx : Exa Z h0 DE "java/util/Base64$Decoder") (DEu : Fld Z h0 DE "java/util/Base64$Decoder" "isURL" "Z" (.int 1)) (DEm : Fld Z h0 DE "java/util/Base64$Decoder" "isMIME" "Z" (.int 0)) (b0 : Arv Z h0 b bk .byte (7 : Int32) ([(.int ((Ad x0).toInt8.toInt32)), (.int ((Ad x1).toInt8.toInt32)), (.int ((Ad x2).toInt8.toInt32)), (.int ((Ad x3).toInt8.toInt32)), (.int ((Ad x4).toInt8.toInt32)), (.int ((Ad x5).toInt8.toInt32)), (.int ((Ad x6).toInt8.toInt32))]) (.int 0)) (b1 : Exa Z h0 b "[B") (dK : Arv Z h0 d dk .byte (5 : Int32) ([(.int 0), (.int 0), (.int 0), (.int 0), (.int 0)]) (.int 0)) (ne_b_d : b ≠ d) (XS : Bf Z n0 G1 G3 U8 I8 TB DE) (hx0 : Ag x0) (hx1 : Ag x1) (hx2 : Ag x2) (hx3 : Ag x3) (hx4 : Ag x4) (hx5 : Ag x5) (hx6 : Ag x6) :
    Af l Z (⟨"java/util/Base64$Decoder", "decode0", "([BII[B)I"⟩ : MethodName) jdk_2450_method_9_code 11 (some .int) ({ frames := 1, cells := 0, slots := 0, locals := 27 } : Room) n0 #[(.ref DE), (.ref b), (.int 0), (.int 7), (.ref d)] h0 (fun v h => v = some (.int 5) ∧ Keep h0 h [d] ∧ Arv Z h d dk .byte (5 : Int32) ([(.int (Be (Ap x0 x1 x2 x3))), (.int (Bn (Ap x0 x1 x2 x3))), (.int (Bw (Ap x0 x1 x2 x3))), (.int (Be (Ch x4 x5 x6))), (.int (Bn (Ch x4 x5 x6)))]) (.int 0)) := by
  refine Ar #[.val (.ref DE), .val (.ref b), .val (.int 0), .val (.int 7), .val (.ref d), .unset, .unset, .unset, .unset, .unset, .unset] ?_
  intro p e s m below meth c T0 C S0
  have XS_ := XS
  obtain ⟨O2, O4, P5, rG3, OU, OI, OT, OD, hUI, TBlt, DElt⟩ := XS_
  refine Ac C S0 [(0, .aload_n 0, 1)] 1 #[Ab DE, Ab b, Aa 0, Aa 7, Ab d, .unset, .unset, .unset, .unset, .unset, .unset] [.ref DE] ?_
  refine Cb C S0 hw 133 DEu ?_
  intro T1 S2
  refine Ac C S2 [(4, .ifCond .eq 9, 3)] 7 #[Ab DE, Ab b, Aa 0, Aa 7, Ab d, .unset, .unset, .unset, .unset, .unset, .unset] [] ?_
  refine Az C S2 (ow hw 135 rfl) Via.refl (OT.ext X00.2) (by decide +kernel) ?_
  intro T3 S4
  refine Ac C S4 [(10, .goto 6, 3), (16, .astore 5, 2), (18, .iconst 0, 1), (19, .istore 6, 2), (21, .iconst 0, 1), (22, .istore 7, 2), (24, .bipush 18, 2), (26, .istore 8, 2), (28, .iload_n 2, 1), (29, .iload_n 3, 1), (30, .if_icmp .ge 251, 3), (33, .iload 8, 2), (35, .bipush 18, 2), (37, .if_icmp .ne 53, 3), (40, .iload_n 2, 1), (41, .iload_n 3, 1), (42, .iconst 4, 1), (43, .isub, 1), (44, .if_icmp .ge 46, 3), (47, .aload_n 0, 1), (48, .aload_n 1, 1), (49, .iload_n 2, 1), (50, .iload_n 3, 1), (51, .aload 4, 2), (53, .iload 6, 2), (55, .aload_n 0, 1)] 56 #[Ab DE, Ab b, Aa 0, Aa 7, Ab d, Ab TB, Aa 0, Aa 0, Aa 18, .unset, .unset] [.ref DE, .int 0, .ref d, .int 7, .int 0, .ref b, .ref DE] ?_
  refine Cb C S4 hw 133 DEu ?_
  intro T5 S6
  refine Ac C S6 [(59, .aload_n 0, 1)] 60 #[Ab DE, Ab b, Aa 0, Aa 7, Ab d, Ab TB, Aa 0, Aa 0, Aa 18, .unset, .unset] [.ref DE, .int 1, .int 0, .ref d, .int 7, .int 0, .ref b, .ref DE] ?_
  refine Cb C S6 hw 136 DEm ?_
  intro T7 S8
  refine Cc C S8 (ow hw 148 rfl) (ow hw 149 rfl) (ow hw 151 rfl) (ow hw 150 rfl) (ow hw 152 rfl) (by decide) (Af.pay (own_db7 l Z a0 hw G1 G3 U8 I8 TB TBk DE b _ d _ x0 x1 x2 x3 x4 x5 x6 h0 n0 z0 ge_d X00 TK DEx DEu DEm b0 b1 dK ne_b_d XS hx0 hx1 hx2 hx3 hx4 hx5 hx6) C 0 (ow hw 152 rfl) (ow hw 93 rfl) (by decide) (by decide)) (fun _ _ _ q => q.2) DEx [.ref b, .int 0, .int 7, .ref d, .int 0, .int 1, .int 0] [] rfl own_pd21 rfl rfl rfl (Am rfl) (by decide) (by decide) (by decide +kernel) ?_
  rintro T11 h12 v13 L14 S15 ⟨⟨rfl, K9, f10⟩, -⟩
  refine Ac C S15 [(66, .istore 9, 2), (68, .iload 9, 2), (70, .iconst 2, 1), (71, .iadd, 1), (72, .iconst 3, 1)] 73 #[Ab DE, Ab b, Aa 0, Aa 7, Ab d, Ab TB, Aa 0, Aa 0, Aa 18, Aa 3, .unset] [.int 3, .int 5] ?_
  refine Dc C S15 (by decide +kernel) (by decide) ?_
  refine Ac C S15 [(74, .iconst 4, 1), (75, .imul, 1), (76, .istore 10, 2), (78, .iload_n 2, 1), (79, .iload 10, 2), (81, .iadd, 1), (82, .istore_n 2, 1), (83, .iload 6, 2), (85, .iload 9, 2), (87, .iadd, 1), (88, .istore 6, 2), (90, .iload_n 2, 1), (91, .iload_n 3, 1), (92, .if_icmp .lt 6, 3), (98, .aload_n 1, 1), (99, .iload_n 2, 1), (100, .iinc 2 1, 3)] 103 #[Ab DE, Ab b, Aa 5, Aa 7, Ab d, Ab TB, Aa 3, Aa 0, Aa 18, Aa 3, Aa 4] [.int 4, .ref b] ?_
  have f16 := (b0.keep K9 (ninS ne_b_d nin0))
  refine As C S15 f16 ⟨(by decide), (by decide)⟩ (.int ((Ad x4).toInt8.toInt32)) rfl (by decide +kernel) ?_
  refine Ac C S15 [(104, .sipush 255, 3), (107, .iand, 1), (108, .istore 9, 2), (110, .aload 5, 2), (112, .iload 9, 2)] 114 #[Ab DE, Ab b, Aa 5, Aa 7, Ab d, Ab TB, Aa 3, Aa 0, Aa 18, Aa ((Ad x4).toInt8.toInt32 &&& (255 : Int32)), Aa 4] [.int ((Ad x4).toInt8.toInt32 &&& (255 : Int32)), .ref TB] ?_
  have n17 : TB ≠ d := Nat.ne_of_lt (Nat.lt_of_lt_of_le TBlt ge_d)
  have f18 := (TK.keep K9 (ninS n17 nin0))
  refine Aw C S15 f18 (Ce hx4) (.int x4) (Cd hx4) (by decide +kernel) ?_
  refine Ac C S15 [(115, .dup, 1), (116, .istore 9, 2)] 118 #[Ab DE, Ab b, Aa 5, Aa 7, Ab d, Ab TB, Aa 3, Aa 0, Aa 18, Aa x4, Aa 4] [.int x4] ?_
  refine Ba C S15 .ge 96 214 (fun (q19 : ¬ x4 < (0 : Int32)) => ?_) (fun (hq : x4 < (0 : Int32)) => False.elim (Bp hx4 hq))
  refine Ac C S15 [(214, .iload 7, 2), (216, .iload 9, 2), (218, .iload 8, 2), (220, .ishl, 1), (221, .ior, 1), (222, .istore 7, 2), (224, .iinc 8 (-6), 3), (227, .iload 8, 2), (229, .ifCond .ge 49, 3), (278, .goto (-250), 3), (28, .iload_n 2, 1), (29, .iload_n 3, 1), (30, .if_icmp .ge 251, 3), (33, .iload 8, 2), (35, .bipush 18, 2), (37, .if_icmp .ne 53, 3), (90, .iload_n 2, 1), (91, .iload_n 3, 1), (92, .if_icmp .lt 6, 3), (98, .aload_n 1, 1), (99, .iload_n 2, 1), (100, .iinc 2 1, 3)] 103 #[Ab DE, Ab b, Aa 6, Aa 7, Ab d, Ab TB, Aa 3, Aa ((0 : Int32) ||| (x4 <<< ((18 : Int32) &&& 31))), Aa 12, Aa x4, Aa 4] [.int 5, .ref b] ?_
  refine As C S15 f16 ⟨(by decide), (by decide)⟩ (.int ((Ad x5).toInt8.toInt32)) rfl (by decide +kernel) ?_
  refine Ac C S15 [(104, .sipush 255, 3), (107, .iand, 1), (108, .istore 9, 2), (110, .aload 5, 2), (112, .iload 9, 2)] 114 #[Ab DE, Ab b, Aa 6, Aa 7, Ab d, Ab TB, Aa 3, Aa ((0 : Int32) ||| (x4 <<< ((18 : Int32) &&& 31))), Aa 12, Aa ((Ad x5).toInt8.toInt32 &&& (255 : Int32)), Aa 4] [.int ((Ad x5).toInt8.toInt32 &&& (255 : Int32)), .ref TB] ?_
  refine Aw C S15 f18 (Ce hx5) (.int x5) (Cd hx5) (by decide +kernel) ?_
  refine Ac C S15 [(115, .dup, 1), (116, .istore 9, 2)] 118 #[Ab DE, Ab b, Aa 6, Aa 7, Ab d, Ab TB, Aa 3, Aa ((0 : Int32) ||| (x4 <<< ((18 : Int32) &&& 31))), Aa 12, Aa x5, Aa 4] [.int x5] ?_
  refine Ba C S15 .ge 96 214 (fun (q20 : ¬ x5 < (0 : Int32)) => ?_) (fun (hq : x5 < (0 : Int32)) => False.elim (Bp hx5 hq))
  refine Ac C S15 [(214, .iload 7, 2), (216, .iload 9, 2), (218, .iload 8, 2), (220, .ishl, 1), (221, .ior, 1), (222, .istore 7, 2), (224, .iinc 8 (-6), 3), (227, .iload 8, 2), (229, .ifCond .ge 49, 3), (278, .goto (-250), 3), (28, .iload_n 2, 1), (29, .iload_n 3, 1), (30, .if_icmp .ge 251, 3), (33, .iload 8, 2), (35, .bipush 18, 2), (37, .if_icmp .ne 53, 3), (90, .iload_n 2, 1), (91, .iload_n 3, 1), (92, .if_icmp .lt 6, 3), (98, .aload_n 1, 1), (99, .iload_n 2, 1), (100, .iinc 2 1, 3)] 103 #[Ab DE, Ab b, Aa 7, Aa 7, Ab d, Ab TB, Aa 3, Aa (((0 : Int32) ||| (x4 <<< ((18 : Int32) &&& 31))) ||| (x5 <<< ((12 : Int32) &&& 31))), Aa 6, Aa x5, Aa 4] [.int 6, .ref b] ?_
  refine As C S15 f16 ⟨(by decide), (by decide)⟩ (.int ((Ad x6).toInt8.toInt32)) rfl (by decide +kernel) ?_
  refine Ac C S15 [(104, .sipush 255, 3), (107, .iand, 1), (108, .istore 9, 2), (110, .aload 5, 2), (112, .iload 9, 2)] 114 #[Ab DE, Ab b, Aa 7, Aa 7, Ab d, Ab TB, Aa 3, Aa (((0 : Int32) ||| (x4 <<< ((18 : Int32) &&& 31))) ||| (x5 <<< ((12 : Int32) &&& 31))), Aa 6, Aa ((Ad x6).toInt8.toInt32 &&& (255 : Int32)), Aa 4] [.int ((Ad x6).toInt8.toInt32 &&& (255 : Int32)), .ref TB] ?_
  refine Aw C S15 f18 (Ce hx6) (.int x6) (Cd hx6) (by decide +kernel) ?_
  refine Ac C S15 [(115, .dup, 1), (116, .istore 9, 2)] 118 #[Ab DE, Ab b, Aa 7, Aa 7, Ab d, Ab TB, Aa 3, Aa (((0 : Int32) ||| (x4 <<< ((18 : Int32) &&& 31))) ||| (x5 <<< ((12 : Int32) &&& 31))), Aa 6, Aa x6, Aa 4] [.int x6] ?_
  refine Ba C S15 .ge 96 214 (fun (q21 : ¬ x6 < (0 : Int32)) => ?_) (fun (hq : x6 < (0 : Int32)) => False.elim (Bp hx6 hq))
  refine Ac C S15 [(214, .iload 7, 2), (216, .iload 9, 2), (218, .iload 8, 2), (220, .ishl, 1), (221, .ior, 1), (222, .istore 7, 2), (224, .iinc 8 (-6), 3), (227, .iload 8, 2), (229, .ifCond .ge 49, 3), (278, .goto (-250), 3), (28, .iload_n 2, 1), (29, .iload_n 3, 1), (30, .if_icmp .ge 251, 3), (281, .iload 8, 2), (283, .bipush 6, 2), (285, .if_icmp .ne 20, 3), (305, .iload 8, 2), (307, .ifCond .ne 34, 3), (310, .aload 4, 2), (312, .iload 6, 2), (314, .iinc 6 1, 3), (317, .iload 7, 2), (319, .bipush 16, 2), (321, .ishr, 1), (322, .i2b, 1)] 323 #[Ab DE, Ab b, Aa 7, Aa 7, Ab d, Ab TB, Aa 4, Aa ((((0 : Int32) ||| (x4 <<< ((18 : Int32) &&& 31))) ||| (x5 <<< ((12 : Int32) &&& 31))) ||| (x6 <<< ((6 : Int32) &&& 31))), Aa 0, Aa x6, Aa 4] [.int ((((((0 : Int32) ||| (x4 <<< ((18 : Int32) &&& 31))) ||| (x5 <<< ((12 : Int32) &&& 31))) ||| (x6 <<< ((6 : Int32) &&& 31))) >>> ((16 : Int32) &&& 31)).toInt8.toInt32), .int 3, .ref d] ?_
  refine Aj C S15 f10 ⟨(by decide), (by decide)⟩ 3 rfl (Am rfl) ((((((0 : Int32) ||| (x4 <<< ((18 : Int32) &&& 31))) ||| (x5 <<< ((12 : Int32) &&& 31))) ||| (x6 <<< ((6 : Int32) &&& 31))) >>> ((16 : Int32) &&& 31)).toInt8.toInt32) (Au _) ge_d (by decide +kernel) ?_
  intro T22 h24 S23 W25 f26
  have f27 : Arv Z h24 d dk .byte (5 : Int32) ([(.int (Be (Ap x0 x1 x2 x3))), (.int (Bn (Ap x0 x1 x2 x3))), (.int (Bw (Ap x0 x1 x2 x3))), (.int ((((((0 : Int32) ||| (x4 <<< ((18 : Int32) &&& 31))) ||| (x5 <<< ((12 : Int32) &&& 31))) ||| (x6 <<< ((6 : Int32) &&& 31))) >>> ((16 : Int32) &&& 31)).toInt8.toInt32)), (.int 0)]) (.int 0) := f26
  refine Ac C S23 [(324, .aload 4, 2), (326, .iload 6, 2), (328, .iinc 6 1, 3), (331, .iload 7, 2), (333, .bipush 8, 2), (335, .ishr, 1), (336, .i2b, 1)] 337 #[Ab DE, Ab b, Aa 7, Aa 7, Ab d, Ab TB, Aa 5, Aa ((((0 : Int32) ||| (x4 <<< ((18 : Int32) &&& 31))) ||| (x5 <<< ((12 : Int32) &&& 31))) ||| (x6 <<< ((6 : Int32) &&& 31))), Aa 0, Aa x6, Aa 4] [.int ((((((0 : Int32) ||| (x4 <<< ((18 : Int32) &&& 31))) ||| (x5 <<< ((12 : Int32) &&& 31))) ||| (x6 <<< ((6 : Int32) &&& 31))) >>> ((8 : Int32) &&& 31)).toInt8.toInt32), .int 4, .ref d] ?_
  refine Aj C S23 f27 ⟨(by decide), (by decide)⟩ 4 rfl (Am rfl) ((((((0 : Int32) ||| (x4 <<< ((18 : Int32) &&& 31))) ||| (x5 <<< ((12 : Int32) &&& 31))) ||| (x6 <<< ((6 : Int32) &&& 31))) >>> ((8 : Int32) &&& 31)).toInt8.toInt32) (Au _) ge_d (by decide +kernel) ?_
  intro T28 h30 S29 W31 f32
  have f33 : Arv Z h30 d dk .byte (5 : Int32) ([(.int (Be (Ap x0 x1 x2 x3))), (.int (Bn (Ap x0 x1 x2 x3))), (.int (Bw (Ap x0 x1 x2 x3))), (.int ((((((0 : Int32) ||| (x4 <<< ((18 : Int32) &&& 31))) ||| (x5 <<< ((12 : Int32) &&& 31))) ||| (x6 <<< ((6 : Int32) &&& 31))) >>> ((16 : Int32) &&& 31)).toInt8.toInt32)), (.int ((((((0 : Int32) ||| (x4 <<< ((18 : Int32) &&& 31))) ||| (x5 <<< ((12 : Int32) &&& 31))) ||| (x6 <<< ((6 : Int32) &&& 31))) >>> ((8 : Int32) &&& 31)).toInt8.toInt32))]) (.int 0) := f32
  refine Ac C S29 [(338, .goto 20, 3), (358, .iload_n 2, 1), (359, .iload_n 3, 1), (360, .if_icmp .ge 56, 3), (416, .iload 6, 2)] 418 #[Ab DE, Ab b, Aa 7, Aa 7, Ab d, Ab TB, Aa 5, Aa ((((0 : Int32) ||| (x4 <<< ((18 : Int32) &&& 31))) ||| (x5 <<< ((12 : Int32) &&& 31))) ||| (x6 <<< ((6 : Int32) &&& 31))), Aa 0, Aa x6, Aa 4] [.int 5] ?_
  refine Bq C S29 (by decide +kernel) (by decide) (by decide) ?_
  exact ⟨rfl, ((((Keep.refl _ _).trans K9 (allS (At 0) all0)).wr W25 (At 0)).wr W31 (At 0)), f33⟩
theorem own_da7 (hw : Ao a0 Z) (G1 : Int32) (G3 : Value) (U8 : Addr) (I8 : Addr) (TB : Addr) (TBk : ClassId) (DE : Addr) (b : Addr) (bk : ClassId) (x0 : Int32) (x1 : Int32) (x2 : Int32) (x3 : Int32) (x4 : Int32) (x5 : Int32) (x6 : Int32) (h0 : Heap) (n0 : Nat) (z0 : n0 ≤ h0.size) (X00 : Old Z n0 h0) (TK : Arv Z h0 TB TBk .int 256 Bt (.int 0)) (DEx : Exa Z h0 DE "java/util/Base64$Decoder") (DEu : Fld Z h0 DE "java/util/Base64$Decoder" "isURL" "Z" (.int 1)) (DEm : Fld Z h0 DE "java/util/Base64$Decoder" "isMIME" "Z" (.int 0)) (b0 : Arv Z h0 b bk .byte (7 : Int32) ([(.int ((Ad x0).toInt8.toInt32)), (.int ((Ad x1).toInt8.toInt32)), (.int ((Ad x2).toInt8.toInt32)), (.int ((Ad x3).toInt8.toInt32)), (.int ((Ad x4).toInt8.toInt32)), (.int ((Ad x5).toInt8.toInt32)), (.int ((Ad x6).toInt8.toInt32))]) (.int 0)) (b1 : Exa Z h0 b "[B") (XS : Bf Z n0 G1 G3 U8 I8 TB DE) (hx0 : Ag x0) (hx1 : Ag x1) (hx2 : Ag x2) (hx3 : Ag x3) (hx4 : Ag x4) (hx5 : Ag x5) (hx6 : Ag x6) :
    Af l Z (⟨"java/util/Base64$Decoder", "decode", "([B)[B"⟩ : MethodName) jdk_2450_method_2_code 4 (some (.array .byte)) ({ frames := 2, cells := 1, slots := 5, locals := 49 } : Room) n0 #[(.ref DE), (.ref b)] h0 (fun v h => ∃ r : Addr, ∃ rk : ClassId, v = some (.ref r) ∧ h0.size ≤ r ∧ Keep h0 h [] ∧ Arv Z h r rk .byte (5 : Int32) ([(.int (Be (Ap x0 x1 x2 x3))), (.int (Bn (Ap x0 x1 x2 x3))), (.int (Bw (Ap x0 x1 x2 x3))), (.int (Be (Ch x4 x5 x6))), (.int (Bn (Ch x4 x5 x6)))]) (.int 0)) := by
  refine Ar #[.val (.ref DE), .val (.ref b), .unset, .unset] ?_
  intro p e s m below meth c T0 C S0
  have XS_ := XS
  obtain ⟨O2, O4, P5, rG3, OU, OI, OT, OD, hUI, TBlt, DElt⟩ := XS_
  refine Ac C S0 [(0, .aload_n 0, 1), (1, .aload_n 1, 1), (2, .iconst 0, 1), (3, .aload_n 1, 1)] 4 #[Ab DE, Ab b, .unset, .unset] [.ref b, .int 0, .ref b, .ref DE] ?_
  refine Ay C S0 b0 (by decide +kernel) ?_
  refine Cc C S0 (ow hw 128 rfl) (ow hw 129 rfl) (ow hw 131 rfl) (ow hw 130 rfl) (ow hw 132 rfl) (by decide) (Af.pay (own_dl7 l Z a0 hw G1 G3 U8 I8 TB TBk DE b _ x0 x1 x2 x3 x4 x5 x6 h0 n0 z0 X00 TK DEx DEu DEm b0 b1 XS hx0 hx1 hx2 hx3 hx4 hx5 hx6) C 0 (ow hw 132 rfl) (ow hw 93 rfl) (by decide) (by decide)) (fun _ _ _ q => q.2) DEx [.ref b, .int 0, .int 7] [] rfl Ds rfl rfl rfl (Am rfl) (by decide) (by decide) (by decide +kernel) ?_
  rintro T2 h3 v4 L5 S6 ⟨⟨rfl, e1⟩, -⟩
  rw [e1] at S6; clear e1
  refine Co C S6 (aty := .byte) (ad := "[B") (by decide) (ow hw 30 rfl) (by decide +kernel) (by decide) 5 (by decide) (by decide) (by decide) (by decide) ?_
  intro T7 h9 a10 k11 S8 g12 E13 f14 x15
  have f16 : Arv Z h9 a10 k11 .byte (5 : Int32) ([(.int 0), (.int 0), (.int 0), (.int 0), (.int 0)]) (.int 0) := Arv.pad f14 (pad_rep [] (.int 0) 5)
  refine Ac C S8 [(10, .astore_n 2, 1), (11, .aload_n 0, 1), (12, .aload_n 1, 1), (13, .iconst 0, 1), (14, .aload_n 1, 1)] 15 #[Ab DE, Ab b, Ab a10, .unset] [.ref b, .int 0, .ref b, .ref DE] ?_
  have f17 := (b0.ext E13)
  refine Ay C S8 f17 (by decide +kernel) ?_
  refine Ac C S8 [(16, .aload_n 2, 1)] 17 #[Ab DE, Ab b, Ab a10, .unset] [.ref a10, .int 7, .int 0, .ref b, .ref DE] ?_
  have f18 := (X00.ext E13)
  have f19 := (TK.ext E13)
  have f20 := (Exa.ext E13 DEx)
  have f21 := (Fld.ext E13 DEu)
  have f22 := (Fld.ext E13 DEm)
  have f23 := (Exa.ext E13 b1)
  have f24 : n0 ≤ h9.size := (Nat.le_trans z0 E13.1)
  have g25 : n0 ≤ a10 := by rw [g12]; exact z0
  have n26 : b ≠ a10 := by rw [g12]; exact Nat.ne_of_lt b0.lt
  refine Cc C S8 (ow hw 140 rfl) (ow hw 141 rfl) (ow hw 143 rfl) (ow hw 142 rfl) (ow hw 144 rfl) (by decide) (Af.pay (own_d07 l Z a0 hw G1 G3 U8 I8 TB TBk DE b _ a10 _ x0 x1 x2 x3 x4 x5 x6 h9 n0 f24 g25 f18 f19 f20 f21 f22 f17 f23 f16 n26 XS hx0 hx1 hx2 hx3 hx4 hx5 hx6) C 0 (ow hw 144 rfl) (ow hw 93 rfl) (by decide) (by decide)) (fun _ _ _ q => q.2) f20 [.ref b, .int 0, .int 7, .ref a10] [] rfl Dt rfl rfl rfl (Am rfl) (by decide) (by decide) (by decide +kernel) ?_
  rintro T29 h30 v31 L32 S33 ⟨⟨rfl, K27, f28⟩, -⟩
  refine Ac C S33 [(20, .istore_n 3, 1), (21, .iload_n 3, 1), (22, .aload_n 2, 1)] 23 #[Ab DE, Ab b, Ab a10, Aa 5] [.ref a10, .int 5] ?_
  refine Ay C S33 f28 (by decide +kernel) ?_
  refine Ac C S33 [(24, .if_icmp .eq 9, 3), (33, .aload_n 2, 1)] 34 #[Ab DE, Ab b, Ab a10, Aa 5] [.ref a10] ?_
  refine Br C S33 rfl rfl (by decide +kernel) (by decide) (by decide) ?_
  have o34 : h0.size ≤ a10 := by rw [g12]; exact (Nat.le_refl _)
  exact ⟨a10, k11, rfl, o34, (((Keep.refl _ _).ext E13).trans K27 (allS (Or.inr o34) all0)), f28⟩
theorem own_ds7 (hw : Ao a0 Z) (G1 : Int32) (G3 : Value) (U8 : Addr) (I8 : Addr) (TB : Addr) (TBk : ClassId) (DE : Addr) (x : Addr) (xt : Addr) (xtk : ClassId) (x0 : Int32) (x1 : Int32) (x2 : Int32) (x3 : Int32) (x4 : Int32) (x5 : Int32) (x6 : Int32) (h0 : Heap) (n0 : Nat) (z0 : n0 ≤ h0.size) (X00 : Old Z n0 h0) (TK : Arv Z h0 TB TBk .int 256 Bt (.int 0)) (DEx : Exa Z h0 DE "java/util/Base64$Decoder") (DEu : Fld Z h0 DE "java/util/Base64$Decoder" "isURL" "Z" (.int 1)) (DEm : Fld Z h0 DE "java/util/Base64$Decoder" "isMIME" "Z" (.int 0)) (s0 : Exa Z h0 x "java/lang/String") (s1 : Fld Z h0 x "java/lang/String" "value" "[B" (.ref xt)) (s2 : Fld Z h0 x "java/lang/String" "coder" "B" (.int 0)) (s3 : Arv Z h0 xt xtk .byte (7 : Int32) ([(.int ((Ad x0).toInt8.toInt32)), (.int ((Ad x1).toInt8.toInt32)), (.int ((Ad x2).toInt8.toInt32)), (.int ((Ad x3).toInt8.toInt32)), (.int ((Ad x4).toInt8.toInt32)), (.int ((Ad x5).toInt8.toInt32)), (.int ((Ad x6).toInt8.toInt32))]) (.int 0)) (s4 : Exa Z h0 xt "[B") (XS : Bf Z n0 G1 G3 U8 I8 TB DE) (hx0 : Ag x0) (hx1 : Ag x1) (hx2 : Ag x2) (hx3 : Ag x3) (hx4 : Ag x4) (hx5 : Ag x5) (hx6 : Ag x6) :
    Af l Z (⟨"java/util/Base64$Decoder", "decode", "(Ljava/lang/String;)[B"⟩ : MethodName) jdk_2450_method_3_code 2 (some (.array .byte)) ({ frames := 5, cells := 2, slots := 13, locals := 76 } : Room) n0 #[(.ref DE), (.ref x)] h0 (fun v h => ∃ r : Addr, ∃ rk : ClassId, v = some (.ref r) ∧ h0.size ≤ r ∧ Keep h0 h [] ∧ Arv Z h r rk .byte (5 : Int32) ([(.int (Be (Ap x0 x1 x2 x3))), (.int (Bn (Ap x0 x1 x2 x3))), (.int (Bw (Ap x0 x1 x2 x3))), (.int (Be (Ch x4 x5 x6))), (.int (Bn (Ch x4 x5 x6)))]) (.int 0)) := by
  refine Ar #[.val (.ref DE), .val (.ref x)] ?_
  intro p e s m below meth c T0 C S0
  have XS_ := XS
  obtain ⟨O2, O4, P5, rG3, OU, OI, OT, OD, hUI, TBlt, DElt⟩ := XS_
  refine Ac C S0 [(0, .aload_n 0, 1), (1, .aload_n 1, 1)] 2 #[Ab DE, Ab x] [.ref x, .ref DE] ?_
  refine Az C S0 (ow hw 95 rfl) Via.refl (OI.ext X00.2) (by decide +kernel) ?_
  intro T1 S2
  refine Al C S2 hw 97 98 100 100 99 101 9 (Es l Z a0 hw G1 G3 U8 I8 TB DE x _ _ _ _ h0 n0 z0 X00 s0 s1 s2 s3 s4 XS (Am rfl)) 1 s0 [.ref I8] [.ref DE] Du ?_
  rintro T8 h9 v10 L11 S12 ⟨⟨a3, rfl, g4, K5, f6, f7⟩, -⟩
  have f13 := (X00.keep K5 all0)
  have f14 := (TK.keep K5 nin0)
  have f15 := (DEx.keep K5)
  have f16 := (DEu.keep K5 nin0)
  have f17 := (DEm.keep K5 nin0)
  have f18 : n0 ≤ h9.size := (Nat.le_trans z0 K5.1)
  refine Al C S12 hw 123 124 126 126 125 127 93 (own_da7 l Z a0 hw G1 G3 U8 I8 TB TBk DE a3 _ x0 x1 x2 x3 x4 x5 x6 h9 n0 f18 f13 f14 f15 f16 f17 f6 f7 XS hx0 hx1 hx2 hx3 hx4 hx5 hx6) 0 f15 [.ref a3] [] Dv ?_
  rintro T24 h25 v26 L27 S28 ⟨⟨a19, k20, rfl, g21, K22, f23⟩, -⟩
  refine Br C S28 rfl rfl (by decide +kernel) (by decide) (by decide) ?_
  have o30 : h0.size ≤ h9.size := (Nat.le_trans (Nat.le_refl _) K5.1)
  have o29 : h0.size ≤ a19 := Nat.le_trans o30 g21
  exact ⟨a19, k20, rfl, o29, (((Keep.refl _ _).trans K5 all0).trans K22 all0), f23⟩
theorem own_du7 (hw : Ao a0 Z) (hEL : EW Z a0 Cm) (wS : ∀ a ∈ Bundle.stringAtoms, a.before a0 Z = true) (G1 : Int32) (G3 : Value) (U8 : Addr) (I8 : Addr) (TB : Addr) (TBk : ClassId) (DE : Addr) (x : Addr) (xt : Addr) (xtk : ClassId) (x0 : Int32) (x1 : Int32) (x2 : Int32) (x3 : Int32) (x4 : Int32) (x5 : Int32) (x6 : Int32) (h0 : Heap) (n0 : Nat) (z0 : n0 ≤ h0.size) (X00 : Old Z n0 h0) (TK : Arv Z h0 TB TBk .int 256 Bt (.int 0)) (DEx : Exa Z h0 DE "java/util/Base64$Decoder") (DEu : Fld Z h0 DE "java/util/Base64$Decoder" "isURL" "Z" (.int 1)) (DEm : Fld Z h0 DE "java/util/Base64$Decoder" "isMIME" "Z" (.int 0)) (s0 : Exa Z h0 x "java/lang/String") (s1 : Fld Z h0 x "java/lang/String" "value" "[B" (.ref xt)) (s2 : Fld Z h0 x "java/lang/String" "coder" "B" (.int 0)) (s3 : Arv Z h0 xt xtk .byte (7 : Int32) ([(.int ((Ad x0).toInt8.toInt32)), (.int ((Ad x1).toInt8.toInt32)), (.int ((Ad x2).toInt8.toInt32)), (.int ((Ad x3).toInt8.toInt32)), (.int ((Ad x4).toInt8.toInt32)), (.int ((Ad x5).toInt8.toInt32)), (.int ((Ad x6).toInt8.toInt32))]) (.int 0)) (s4 : Exa Z h0 xt "[B") (XS : Bf Z n0 G1 G3 U8 I8 TB DE) (hx0 : Ag x0) (hx1 : Ag x1) (hx2 : Ag x2) (hx3 : Ag x3) (hx4 : Ag x4) (hx5 : Ag x5) (hx6 : Ag x6) (hs : (x6 &&& (((1 : Int32) <<< ((2 : Int32) &&& 31)) - (1 : Int32))) = (0 : Int32)) :
    Cp l Z Cm (⟨"com/example/torrey/torrey/Base64Url", "decode", "(Ljava/lang/String;)[B"⟩ : MethodName) prog_1_method_3_code 3 (some (.array .byte)) ({ frames := 6, cells := 4, slots := 33, locals := 89 } : Room) n0 #[(.ref x)] h0 [] (fun v h => ∃ r : Addr, ∃ rk : ClassId, v = some (.ref r) ∧ h0.size ≤ r ∧ Keep h0 h [] ∧ Arv Z h r rk .byte (5 : Int32) ([(.int (Be (Ap x0 x1 x2 x3))), (.int (Bn (Ap x0 x1 x2 x3))), (.int (Bw (Ap x0 x1 x2 x3))), (.int (Be (Ch x4 x5 x6))), (.int (Bn (Ch x4 x5 x6)))]) (.int 0)) := by
  refine Da hEL wS (by decide +kernel) #[.val (.ref x), .unset, .unset] (fun m => by first | (simp [entryFrame, mkF, argsToLocals, Value.category]; done) | rfl) ?_
  intro p e s m below meth c T0 CW SW0
  have XS_ := XS
  obtain ⟨O2, O4, P5, rG3, OU, OI, OT, OD, hUI, TBlt, DElt⟩ := XS_
  refine Bv CW SW0 ?_
  intro vm1 C S2 rb3
  refine Ac C S2 [(0, .aload_n 0, 1)] 1 #[Ab x, .unset, .unset] [.ref x] ?_
  have SW4 := rb3 _ _ _ _ [] [] S2 (Keep.refl _ _) all0 all0
  refine Dq CW SW4 (ow hw 45 rfl) (by decide +kernel) 16 (by decide) (by decide) (by decide) (by decide) ?_
  intro T5 h6 a7 SW8 E9
  have f10 : n0 ≤ h6.size := (Nat.le_trans z0 E9.1)
  refine Bv CW SW8 ?_
  intro vm17 C S18 rb19
  refine Ah C S18 hw 48 49 50 51 (Eh l Z a0 hw x a7 h6 n0 f10) 0 [.ref x, .ref a7] [] Dw ?_
  rintro T12 h13 v14 L15 S16 ⟨⟨rfl, e11⟩, -⟩
  rw [e11] at S16; clear e11
  refine Ac C S16 [(6, .pop, 1), (7, .iconst 0, 1), (8, .istore_n 1, 1), (9, .iload_n 1, 1), (10, .aload_n 0, 1)] 11 #[Ab x, Aa 0, .unset] [.ref x, .int 0] ?_
  have f20 := (X00.ext E9)
  have f21 := (Exa.ext E9 s0)
  have f22 := (Fld.ext E9 s1)
  have f23 := (Fld.ext E9 s2)
  have f24 := (s3.ext E9)
  refine Al C S16 hw 52 53 55 55 54 56 9 (Bb l Z a0 hw G1 G3 x _ _ _ _ h6 n0 f10 f20 f21 f22 f23 f24 O2 O4 P5 rG3) 1 f21 [] [.int 0] Av ?_
  rintro T26 h27 v28 L29 S30 ⟨⟨rfl, e25⟩, -⟩
  rw [e25] at S30; clear e25
  refine Ac C S30 [(14, .if_icmp .ge 39, 3), (17, .aload_n 0, 1), (18, .iload_n 1, 1)] 19 #[Ab x, Aa 0, .unset] [.int 0, .ref x] ?_
  refine Al C S30 hw 62 63 65 65 64 66 9 (Bu l Z a0 hw G1 G3 x _ _ _ _ 0 ((Ad x0).toInt8.toInt32) (Ad x0) h6 n0 f10 f20 f21 f22 f23 f24 O2 O4 P5 rG3 (⟨(by decide), (by decide)⟩) rfl (Ca hx0) (Aq hx0)) 0 f21 [.int 0] [] Bl ?_
  rintro T32 h33 v34 L35 S36 ⟨⟨rfl, e31⟩, -⟩
  rw [e31] at S36; clear e31
  refine Ah C S36 hw 84 85 43 86 (Bk l Z a0 hw x0 h6 n0 f10 hx0) 0 [.int (Ad x0)] [] Bm ?_
  rintro T38 h39 v40 L41 S42 ⟨⟨rfl, e37⟩, -⟩
  rw [e37] at S42; clear e37
  refine Ba C S42 .ge 22 47 (fun (q43 : ¬ x0 < (0 : Int32)) => ?_) (fun (hq : x0 < (0 : Int32)) => False.elim (Bp hx0 hq))
  refine Ac C S42 [(47, .iinc 1 1, 3), (50, .goto (-41), 3), (9, .iload_n 1, 1), (10, .aload_n 0, 1)] 11 #[Ab x, Aa 1, .unset] [.ref x, .int 1] ?_
  refine Al C S42 hw 52 53 55 55 54 56 9 (Bb l Z a0 hw G1 G3 x _ _ _ _ h6 n0 f10 f20 f21 f22 f23 f24 O2 O4 P5 rG3) 1 f21 [] [.int 1] Av ?_
  rintro T45 h46 v47 L48 S49 ⟨⟨rfl, e44⟩, -⟩
  rw [e44] at S49; clear e44
  refine Ac C S49 [(14, .if_icmp .ge 39, 3), (17, .aload_n 0, 1), (18, .iload_n 1, 1)] 19 #[Ab x, Aa 1, .unset] [.int 1, .ref x] ?_
  refine Al C S49 hw 62 63 65 65 64 66 9 (Bu l Z a0 hw G1 G3 x _ _ _ _ 1 ((Ad x1).toInt8.toInt32) (Ad x1) h6 n0 f10 f20 f21 f22 f23 f24 O2 O4 P5 rG3 (⟨(by decide), (by decide)⟩) rfl (Ca hx1) (Aq hx1)) 0 f21 [.int 1] [] Bl ?_
  rintro T51 h52 v53 L54 S55 ⟨⟨rfl, e50⟩, -⟩
  rw [e50] at S55; clear e50
  refine Ah C S55 hw 84 85 43 86 (Bk l Z a0 hw x1 h6 n0 f10 hx1) 0 [.int (Ad x1)] [] Bm ?_
  rintro T57 h58 v59 L60 S61 ⟨⟨rfl, e56⟩, -⟩
  rw [e56] at S61; clear e56
  refine Ba C S61 .ge 22 47 (fun (q62 : ¬ x1 < (0 : Int32)) => ?_) (fun (hq : x1 < (0 : Int32)) => False.elim (Bp hx1 hq))
  refine Ac C S61 [(47, .iinc 1 1, 3), (50, .goto (-41), 3), (9, .iload_n 1, 1), (10, .aload_n 0, 1)] 11 #[Ab x, Aa 2, .unset] [.ref x, .int 2] ?_
  refine Al C S61 hw 52 53 55 55 54 56 9 (Bb l Z a0 hw G1 G3 x _ _ _ _ h6 n0 f10 f20 f21 f22 f23 f24 O2 O4 P5 rG3) 1 f21 [] [.int 2] Av ?_
  rintro T64 h65 v66 L67 S68 ⟨⟨rfl, e63⟩, -⟩
  rw [e63] at S68; clear e63
  refine Ac C S68 [(14, .if_icmp .ge 39, 3), (17, .aload_n 0, 1), (18, .iload_n 1, 1)] 19 #[Ab x, Aa 2, .unset] [.int 2, .ref x] ?_
  refine Al C S68 hw 62 63 65 65 64 66 9 (Bu l Z a0 hw G1 G3 x _ _ _ _ 2 ((Ad x2).toInt8.toInt32) (Ad x2) h6 n0 f10 f20 f21 f22 f23 f24 O2 O4 P5 rG3 (⟨(by decide), (by decide)⟩) rfl (Ca hx2) (Aq hx2)) 0 f21 [.int 2] [] Bl ?_
  rintro T70 h71 v72 L73 S74 ⟨⟨rfl, e69⟩, -⟩
  rw [e69] at S74; clear e69
  refine Ah C S74 hw 84 85 43 86 (Bk l Z a0 hw x2 h6 n0 f10 hx2) 0 [.int (Ad x2)] [] Bm ?_
  rintro T76 h77 v78 L79 S80 ⟨⟨rfl, e75⟩, -⟩
  rw [e75] at S80; clear e75
  refine Ba C S80 .ge 22 47 (fun (q81 : ¬ x2 < (0 : Int32)) => ?_) (fun (hq : x2 < (0 : Int32)) => False.elim (Bp hx2 hq))
  refine Ac C S80 [(47, .iinc 1 1, 3), (50, .goto (-41), 3), (9, .iload_n 1, 1), (10, .aload_n 0, 1)] 11 #[Ab x, Aa 3, .unset] [.ref x, .int 3] ?_
  refine Al C S80 hw 52 53 55 55 54 56 9 (Bb l Z a0 hw G1 G3 x _ _ _ _ h6 n0 f10 f20 f21 f22 f23 f24 O2 O4 P5 rG3) 1 f21 [] [.int 3] Av ?_
  rintro T83 h84 v85 L86 S87 ⟨⟨rfl, e82⟩, -⟩
  rw [e82] at S87; clear e82
  refine Ac C S87 [(14, .if_icmp .ge 39, 3), (17, .aload_n 0, 1), (18, .iload_n 1, 1)] 19 #[Ab x, Aa 3, .unset] [.int 3, .ref x] ?_
  refine Al C S87 hw 62 63 65 65 64 66 9 (Bu l Z a0 hw G1 G3 x _ _ _ _ 3 ((Ad x3).toInt8.toInt32) (Ad x3) h6 n0 f10 f20 f21 f22 f23 f24 O2 O4 P5 rG3 (⟨(by decide), (by decide)⟩) rfl (Ca hx3) (Aq hx3)) 0 f21 [.int 3] [] Bl ?_
  rintro T89 h90 v91 L92 S93 ⟨⟨rfl, e88⟩, -⟩
  rw [e88] at S93; clear e88
  refine Ah C S93 hw 84 85 43 86 (Bk l Z a0 hw x3 h6 n0 f10 hx3) 0 [.int (Ad x3)] [] Bm ?_
  rintro T95 h96 v97 L98 S99 ⟨⟨rfl, e94⟩, -⟩
  rw [e94] at S99; clear e94
  refine Ba C S99 .ge 22 47 (fun (q100 : ¬ x3 < (0 : Int32)) => ?_) (fun (hq : x3 < (0 : Int32)) => False.elim (Bp hx3 hq))
  refine Ac C S99 [(47, .iinc 1 1, 3), (50, .goto (-41), 3), (9, .iload_n 1, 1), (10, .aload_n 0, 1)] 11 #[Ab x, Aa 4, .unset] [.ref x, .int 4] ?_
  refine Al C S99 hw 52 53 55 55 54 56 9 (Bb l Z a0 hw G1 G3 x _ _ _ _ h6 n0 f10 f20 f21 f22 f23 f24 O2 O4 P5 rG3) 1 f21 [] [.int 4] Av ?_
  rintro T102 h103 v104 L105 S106 ⟨⟨rfl, e101⟩, -⟩
  rw [e101] at S106; clear e101
  refine Ac C S106 [(14, .if_icmp .ge 39, 3), (17, .aload_n 0, 1), (18, .iload_n 1, 1)] 19 #[Ab x, Aa 4, .unset] [.int 4, .ref x] ?_
  refine Al C S106 hw 62 63 65 65 64 66 9 (Bu l Z a0 hw G1 G3 x _ _ _ _ 4 ((Ad x4).toInt8.toInt32) (Ad x4) h6 n0 f10 f20 f21 f22 f23 f24 O2 O4 P5 rG3 (⟨(by decide), (by decide)⟩) rfl (Ca hx4) (Aq hx4)) 0 f21 [.int 4] [] Bl ?_
  rintro T108 h109 v110 L111 S112 ⟨⟨rfl, e107⟩, -⟩
  rw [e107] at S112; clear e107
  refine Ah C S112 hw 84 85 43 86 (Bk l Z a0 hw x4 h6 n0 f10 hx4) 0 [.int (Ad x4)] [] Bm ?_
  rintro T114 h115 v116 L117 S118 ⟨⟨rfl, e113⟩, -⟩
  rw [e113] at S118; clear e113
  refine Ba C S118 .ge 22 47 (fun (q119 : ¬ x4 < (0 : Int32)) => ?_) (fun (hq : x4 < (0 : Int32)) => False.elim (Bp hx4 hq))
  refine Ac C S118 [(47, .iinc 1 1, 3), (50, .goto (-41), 3), (9, .iload_n 1, 1), (10, .aload_n 0, 1)] 11 #[Ab x, Aa 5, .unset] [.ref x, .int 5] ?_
  refine Al C S118 hw 52 53 55 55 54 56 9 (Bb l Z a0 hw G1 G3 x _ _ _ _ h6 n0 f10 f20 f21 f22 f23 f24 O2 O4 P5 rG3) 1 f21 [] [.int 5] Av ?_
  rintro T121 h122 v123 L124 S125 ⟨⟨rfl, e120⟩, -⟩
  rw [e120] at S125; clear e120
  refine Ac C S125 [(14, .if_icmp .ge 39, 3), (17, .aload_n 0, 1), (18, .iload_n 1, 1)] 19 #[Ab x, Aa 5, .unset] [.int 5, .ref x] ?_
  refine Al C S125 hw 62 63 65 65 64 66 9 (Bu l Z a0 hw G1 G3 x _ _ _ _ 5 ((Ad x5).toInt8.toInt32) (Ad x5) h6 n0 f10 f20 f21 f22 f23 f24 O2 O4 P5 rG3 (⟨(by decide), (by decide)⟩) rfl (Ca hx5) (Aq hx5)) 0 f21 [.int 5] [] Bl ?_
  rintro T127 h128 v129 L130 S131 ⟨⟨rfl, e126⟩, -⟩
  rw [e126] at S131; clear e126
  refine Ah C S131 hw 84 85 43 86 (Bk l Z a0 hw x5 h6 n0 f10 hx5) 0 [.int (Ad x5)] [] Bm ?_
  rintro T133 h134 v135 L136 S137 ⟨⟨rfl, e132⟩, -⟩
  rw [e132] at S137; clear e132
  refine Ba C S137 .ge 22 47 (fun (q138 : ¬ x5 < (0 : Int32)) => ?_) (fun (hq : x5 < (0 : Int32)) => False.elim (Bp hx5 hq))
  refine Ac C S137 [(47, .iinc 1 1, 3), (50, .goto (-41), 3), (9, .iload_n 1, 1), (10, .aload_n 0, 1)] 11 #[Ab x, Aa 6, .unset] [.ref x, .int 6] ?_
  refine Al C S137 hw 52 53 55 55 54 56 9 (Bb l Z a0 hw G1 G3 x _ _ _ _ h6 n0 f10 f20 f21 f22 f23 f24 O2 O4 P5 rG3) 1 f21 [] [.int 6] Av ?_
  rintro T140 h141 v142 L143 S144 ⟨⟨rfl, e139⟩, -⟩
  rw [e139] at S144; clear e139
  refine Ac C S144 [(14, .if_icmp .ge 39, 3), (17, .aload_n 0, 1), (18, .iload_n 1, 1)] 19 #[Ab x, Aa 6, .unset] [.int 6, .ref x] ?_
  refine Al C S144 hw 62 63 65 65 64 66 9 (Bu l Z a0 hw G1 G3 x _ _ _ _ 6 ((Ad x6).toInt8.toInt32) (Ad x6) h6 n0 f10 f20 f21 f22 f23 f24 O2 O4 P5 rG3 (⟨(by decide), (by decide)⟩) rfl (Ca hx6) (Aq hx6)) 0 f21 [.int 6] [] Bl ?_
  rintro T146 h147 v148 L149 S150 ⟨⟨rfl, e145⟩, -⟩
  rw [e145] at S150; clear e145
  refine Ah C S150 hw 84 85 43 86 (Bk l Z a0 hw x6 h6 n0 f10 hx6) 0 [.int (Ad x6)] [] Bm ?_
  rintro T152 h153 v154 L155 S156 ⟨⟨rfl, e151⟩, -⟩
  rw [e151] at S156; clear e151
  refine Ba C S156 .ge 22 47 (fun (q157 : ¬ x6 < (0 : Int32)) => ?_) (fun (hq : x6 < (0 : Int32)) => False.elim (Bp hx6 hq))
  refine Ac C S156 [(47, .iinc 1 1, 3), (50, .goto (-41), 3), (9, .iload_n 1, 1), (10, .aload_n 0, 1)] 11 #[Ab x, Aa 7, .unset] [.ref x, .int 7] ?_
  refine Al C S156 hw 52 53 55 55 54 56 9 (Bb l Z a0 hw G1 G3 x _ _ _ _ h6 n0 f10 f20 f21 f22 f23 f24 O2 O4 P5 rG3) 1 f21 [] [.int 7] Av ?_
  rintro T159 h160 v161 L162 S163 ⟨⟨rfl, e158⟩, -⟩
  rw [e158] at S163; clear e158
  refine Ac C S163 [(14, .if_icmp .ge 39, 3), (53, .aload_n 0, 1)] 54 #[Ab x, Aa 7, .unset] [.ref x] ?_
  refine Al C S163 hw 52 53 55 55 54 56 9 (Bb l Z a0 hw G1 G3 x _ _ _ _ h6 n0 f10 f20 f21 f22 f23 f24 O2 O4 P5 rG3) 0 f21 [] [] Av ?_
  rintro T165 h166 v167 L168 S169 ⟨⟨rfl, e164⟩, -⟩
  rw [e164] at S169; clear e164
  refine Ac C S169 [(57, .iconst 1, 1), (58, .isub, 1), (59, .istore_n 1, 1), (60, .aload_n 0, 1)] 61 #[Ab x, Aa 6, .unset] [.ref x] ?_
  refine Al C S169 hw 52 53 55 55 54 56 9 (Bb l Z a0 hw G1 G3 x _ _ _ _ h6 n0 f10 f20 f21 f22 f23 f24 O2 O4 P5 rG3) 0 f21 [] [] Av ?_
  rintro T171 h172 v173 L174 S175 ⟨⟨rfl, e170⟩, -⟩
  rw [e170] at S175; clear e170
  refine Ac C S175 [(64, .iconst 4, 1)] 65 #[Ab x, Aa 6, .unset] [.int 4, .int 7] ?_
  refine Dk C S175 (by decide +kernel) (by decide) ?_
  refine own_tsi C S175 (df := 53) (lo := 1) (hi := 3) (offs := #[26, 45, 49]) (len := 26) (o := 49) (by decide +kernel) (by decide) (by decide) (by decide) 115 (by decide) ?_
  refine Ac C S175 [(115, .iconst 2, 1), (116, .goto 4, 3), (120, .istore_n 2, 1), (121, .iload_n 2, 1), (122, .ifCond .le 39, 3), (125, .aload_n 0, 1), (126, .iload_n 1, 1)] 127 #[Ab x, Aa 6, Aa 2] [.int 6, .ref x] ?_
  refine Al C S175 hw 62 63 65 65 64 66 9 (Bu l Z a0 hw G1 G3 x _ _ _ _ 6 ((Ad x6).toInt8.toInt32) (Ad x6) h6 n0 f10 f20 f21 f22 f23 f24 O2 O4 P5 rG3 (⟨(by decide), (by decide)⟩) rfl (Ca hx6) (Aq hx6)) 0 f21 [.int 6] [] Bl ?_
  rintro T177 h178 v179 L180 S181 ⟨⟨rfl, e176⟩, -⟩
  rw [e176] at S181; clear e176
  refine Ah C S181 hw 84 85 43 86 (Bk l Z a0 hw x6 h6 n0 f10 hx6) 0 [.int (Ad x6)] [] Bm ?_
  rintro T183 h184 v185 L186 S187 ⟨⟨rfl, e182⟩, -⟩
  rw [e182] at S187; clear e182
  refine Ac C S187 [(133, .iconst 1, 1), (134, .iload_n 2, 1), (135, .ishl, 1), (136, .iconst 1, 1), (137, .isub, 1), (138, .iand, 1)] 139 #[Ab x, Aa 6, Aa 2] [.int (x6 &&& (((1 : Int32) <<< ((2 : Int32) &&& 31)) - (1 : Int32)))] ?_
  refine Ba C S187 .eq 22 161 (fun (q188 : (x6 &&& (((1 : Int32) <<< ((2 : Int32) &&& 31)) - (1 : Int32))) = (0 : Int32)) => ?_) (fun (hq : ¬ (x6 &&& (((1 : Int32) <<< ((2 : Int32) &&& 31)) - (1 : Int32))) = (0 : Int32)) => False.elim (hq hs))
  refine Az C S187 (ow hw 87 rfl) Via.refl (OD.ext f20.2) (by decide +kernel) ?_
  intro T189 S190
  refine Ac C S190 [(164, .aload_n 0, 1)] 165 #[Ab x, Aa 6, Aa 2] [.ref x, .ref DE] ?_
  have f191 := (TK.ext E9)
  have f192 := (Exa.ext E9 DEx)
  have f193 := (Fld.ext E9 DEu)
  have f194 := (Fld.ext E9 DEm)
  have f195 := (Exa.ext E9 s4)
  refine Al C S190 hw 89 90 92 92 91 94 93 (own_ds7 l Z a0 hw G1 G3 U8 I8 TB TBk DE x _ _ x0 x1 x2 x3 x4 x5 x6 h6 n0 f10 f20 f191 f192 f193 f194 f21 f22 f23 f24 f195 XS hx0 hx1 hx2 hx3 hx4 hx5 hx6) 0 f192 [.ref x] [] Cu ?_
  rintro T201 h202 v203 L204 S205 ⟨⟨a196, k197, rfl, g198, K199, f200⟩, -⟩
  have o206 : h6.size ≤ a196 := Nat.le_trans (Nat.le_refl _) g198
  have SW207 := rb19 _ _ _ _ [] [a196] S205 ((Keep.refl _ _).trans K199 all0) all0 (allS ⟨o206, f200.lt⟩ all0)
  refine Dg CW SW207 rfl rfl (by decide +kernel) (by decide) (by decide) ?_
  have o209 : h0.size ≤ h6.size := (Nat.le_trans (Nat.le_refl _) E9.1)
  have o208 : h0.size ≤ a196 := Nat.le_trans o209 g198
  exact ⟨a196, k197, rfl, o208, (((Keep.refl _ _).ext E9).trans K199 all0), f200⟩
theorem own_dl8 (hw : Ao a0 Z) (G1 : Int32) (G3 : Value) (U8 : Addr) (I8 : Addr) (TB : Addr) (TBk : ClassId) (DE : Addr) (b : Addr) (bk : ClassId) (x0 : Int32) (x1 : Int32) (x2 : Int32) (x3 : Int32) (x4 : Int32) (x5 : Int32) (x6 : Int32) (x7 : Int32) (h0 : Heap) (n0 : Nat) (z0 : n0 ≤ h0.size) (X00 : Old Z n0 h0) (TK : Arv Z h0 TB TBk .int 256 Bt (.int 0)) (DEx : Exa Z h0 DE "java/util/Base64$Decoder") (DEu : Fld Z h0 DE "java/util/Base64$Decoder" "isURL" "Z" (.int 1)) (DEm : Fld Z h0 DE "java/util/Base64$Decoder" "isMIME" "Z" (.int 0)) (b0 : Arv Z h0 b bk .byte (8 : Int32) ([(.int ((Ad x0).toInt8.toInt32)), (.int ((Ad x1).toInt8.toInt32)), (.int ((Ad x2).toInt8.toInt32)), (.int ((Ad x3).toInt8.toInt32)), (.int ((Ad x4).toInt8.toInt32)), (.int ((Ad x5).toInt8.toInt32)), (.int ((Ad x6).toInt8.toInt32)), (.int ((Ad x7).toInt8.toInt32))]) (.int 0)) (b1 : Exa Z h0 b "[B") (XS : Bf Z n0 G1 G3 U8 I8 TB DE) (hx0 : Ag x0) (hx1 : Ag x1) (hx2 : Ag x2) (hx3 : Ag x3) (hx4 : Ag x4) (hx5 : Ag x5) (hx6 : Ag x6) (hx7 : Ag x7) :
    Af l Z (⟨"java/util/Base64$Decoder", "decodedOutLength", "([BII)I"⟩ : MethodName) jdk_2450_method_7_code 9 (some .int) ({ frames := 0, cells := 0, slots := 0, locals := 0 } : Room) n0 #[(.ref DE), (.ref b), (.int 0), (.int 8)] h0 (fun v h => v = some (.int 6) ∧ h = h0) := by
  refine Ar #[.val (.ref DE), .val (.ref b), .val (.int 0), .val (.int 8), .unset, .unset, .unset, .unset, .unset] ?_
  intro p e s m below meth c T0 C S0
  have XS_ := XS
  obtain ⟨O2, O4, P5, rG3, OU, OI, OT, OD, hUI, TBlt, DElt⟩ := XS_
  refine Ac C S0 [(0, .aload_n 0, 1)] 1 #[Ab DE, Ab b, Aa 0, Aa 8, .unset, .unset, .unset, .unset, .unset] [.ref DE] ?_
  refine Cb C S0 hw 133 DEu ?_
  intro T1 S2
  refine Ac C S2 [(4, .ifCond .eq 9, 3)] 7 #[Ab DE, Ab b, Aa 0, Aa 8, .unset, .unset, .unset, .unset, .unset] [] ?_
  refine Az C S2 (ow hw 135 rfl) Via.refl (OT.ext X00.2) (by decide +kernel) ?_
  intro T3 S4
  refine Ac C S4 [(10, .goto 6, 3), (16, .astore 4, 2), (18, .iconst 0, 1), (19, .istore 5, 2), (21, .iload_n 3, 1), (22, .iload_n 2, 1), (23, .isub, 1), (24, .istore 6, 2), (26, .iload 6, 2), (28, .ifCond .ne 5, 3), (33, .iload 6, 2), (35, .iconst 2, 1), (36, .if_icmp .ge 30, 3), (66, .aload_n 0, 1)] 67 #[Ab DE, Ab b, Aa 0, Aa 8, Ab TB, Aa 0, Aa 8, .unset, .unset] [.ref DE] ?_
  refine Cb C S4 hw 136 DEm ?_
  intro T5 S6
  refine Ac C S6 [(70, .ifCond .eq 71, 3), (141, .aload_n 1, 1), (142, .iload_n 3, 1), (143, .iconst 1, 1), (144, .isub, 1)] 145 #[Ab DE, Ab b, Aa 0, Aa 8, Ab TB, Aa 0, Aa 8, .unset, .unset] [.int 7, .ref b] ?_
  refine As C S6 b0 ⟨(by decide), (by decide)⟩ (.int ((Ad x7).toInt8.toInt32)) rfl (by decide +kernel) ?_
  refine Ac C S6 [(146, .bipush 61, 2)] 148 #[Ab DE, Ab b, Aa 0, Aa 8, Ab TB, Aa 0, Aa 8, .unset, .unset] [.int 61, .int ((Ad x7).toInt8.toInt32)] ?_
  refine Bj C S6 .ne 19 167 (fun (q7 : ¬ ((Ad x7).toInt8.toInt32) = (61 : Int32)) => ?_) (fun (hq : ((Ad x7).toInt8.toInt32) = (61 : Int32)) => False.elim (Em hx7 hq))
  refine Ac C S6 [(167, .iload 5, 2), (169, .ifCond .ne 18, 3), (172, .iload 6, 2), (174, .iconst 3, 1), (175, .iand, 1), (176, .ifCond .eq 11, 3), (187, .iconst 3, 1), (188, .iload 6, 2), (190, .i2l, 1)] 191 #[Ab DE, Ab b, Aa 0, Aa 8, Ab TB, Aa 0, Aa 8, .unset, .unset] [.long ((8 : Int32).toInt64), .int 3] ?_
  refine Bz C S6 (ow hw 138 rfl) (by decide +kernel) ?_
  refine Ac C S6 [(194, .ladd, 1)] 195 #[Ab DE, Ab b, Aa 0, Aa 8, Ab TB, Aa 0, Aa 8, .unset, .unset] [.long ((8 : Int32).toInt64 + 3), .int 3] ?_
  refine Bz C S6 (ow hw 139 rfl) (by decide +kernel) ?_
  refine Ea C S6 (by decide +kernel) (by decide) ?_
  rw [show (((8 : Int32).toInt64 + 3) / 4) = (2 : Int64) from (by decide)]
  refine Ac C S6 [(199, .l2i, 1), (200, .imul, 1), (201, .iload 5, 2), (203, .isub, 1)] 204 #[Ab DE, Ab b, Aa 0, Aa 8, Ab TB, Aa 0, Aa 8, .unset, .unset] [.int (((3 : Int32) * (2 : Int64).toInt32) - (0 : Int32))] ?_
  rw [show (((3 : Int32) * (2 : Int64).toInt32) - (0 : Int32)) = (6 : Int32) from (by decide)]
  refine Bq C S6 (by decide +kernel) (by decide) (by decide) ?_
  exact ⟨rfl, rfl⟩
theorem own_db8 (hw : Ao a0 Z) (G1 : Int32) (G3 : Value) (U8 : Addr) (I8 : Addr) (TB : Addr) (TBk : ClassId) (DE : Addr) (b : Addr) (bk : ClassId) (d : Addr) (dk : ClassId) (x0 : Int32) (x1 : Int32) (x2 : Int32) (x3 : Int32) (x4 : Int32) (x5 : Int32) (x6 : Int32) (x7 : Int32) (h0 : Heap) (n0 : Nat) (z0 : n0 ≤ h0.size) (ge_d : n0 ≤ d) (X00 : Old Z n0 h0) (TK : Arv Z h0 TB TBk .int 256 Bt (.int 0)) (DEx : Exa Z h0 DE "java/util/Base64$Decoder") (DEu : Fld Z h0 DE "java/util/Base64$Decoder" "isURL" "Z" (.int 1)) (DEm : Fld Z h0 DE "java/util/Base64$Decoder" "isMIME" "Z" (.int 0)) (b0 : Arv Z h0 b bk .byte (8 : Int32) ([(.int ((Ad x0).toInt8.toInt32)), (.int ((Ad x1).toInt8.toInt32)), (.int ((Ad x2).toInt8.toInt32)), (.int ((Ad x3).toInt8.toInt32)), (.int ((Ad x4).toInt8.toInt32)), (.int ((Ad x5).toInt8.toInt32)), (.int ((Ad x6).toInt8.toInt32)), (.int ((Ad x7).toInt8.toInt32))]) (.int 0)) (b1 : Exa Z h0 b "[B") (dK : Arv Z h0 d dk .byte (6 : Int32) ([(.int 0), (.int 0), (.int 0), (.int 0), (.int 0), (.int 0)]) (.int 0)) (ne_b_d : b ≠ d) (XS : Bf Z n0 G1 G3 U8 I8 TB DE) (hx0 : Ag x0) (hx1 : Ag x1) (hx2 : Ag x2) (hx3 : Ag x3) (hx4 : Ag x4) (hx5 : Ag x5) (hx6 : Ag x6) (hx7 : Ag x7) :
    Af l Z (⟨"java/util/Base64$Decoder", "decodeBlock", "([BII[BIZZ)I"⟩ : MethodName) jdk_2450_method_8_code 16 (some .int) ({ frames := 0, cells := 0, slots := 0, locals := 0 } : Room) n0 #[(.ref DE), (.ref b), (.int 0), (.int 8), (.ref d), (.int 0), (.int 1), (.int 0)] h0 (fun v h => v = some (.int 6) ∧ Keep h0 h [d] ∧ Arv Z h d dk .byte (6 : Int32) ([(.int (Be (Ap x0 x1 x2 x3))), (.int (Bn (Ap x0 x1 x2 x3))), (.int (Bw (Ap x0 x1 x2 x3))), (.int (Be (Ap x4 x5 x6 x7))), (.int (Bn (Ap x4 x5 x6 x7))), (.int (Bw (Ap x4 x5 x6 x7)))]) (.int 0)) := by
  refine Ar #[.val (.ref DE), .val (.ref b), .val (.int 0), .val (.int 8), .val (.ref d), .val (.int 0), .val (.int 1), .val (.int 0), .unset, .unset, .unset, .unset, .unset, .unset, .unset, .unset] ?_
  intro p e s m below meth c T0 C S0
  have XS_ := XS
  obtain ⟨O2, O4, P5, rG3, OU, OI, OT, OD, hUI, TBlt, DElt⟩ := XS_
  refine Ac C S0 [(0, .iload 6, 2), (2, .ifCond .eq 9, 3)] 5 #[Ab DE, Ab b, Aa 0, Aa 8, Ab d, Aa 0, Aa 1, Aa 0, .unset, .unset, .unset, .unset, .unset, .unset, .unset, .unset] [] ?_
  refine Az C S0 (ow hw 135 rfl) Via.refl (OT.ext X00.2) (by decide +kernel) ?_
  intro T1 S2
  refine Ac C S2 [(8, .goto 6, 3), (14, .astore 8, 2), (16, .iload_n 2, 1), (17, .iload_n 3, 1), (18, .iload_n 2, 1), (19, .isub, 1), (20, .bipush (-4), 2), (22, .iand, 1), (23, .iadd, 1), (24, .istore 9, 2), (26, .iload 5, 2), (28, .istore 10, 2), (30, .iload_n 2, 1), (31, .iload 9, 2), (33, .if_icmp .ge 147, 3), (36, .aload 8, 2), (38, .aload_n 1, 1), (39, .iload_n 2, 1), (40, .iinc 2 1, 3)] 43 #[Ab DE, Ab b, Aa 1, Aa 8, Ab d, Aa 0, Aa 1, Aa 0, Ab TB, Aa 8, Aa 0, .unset, .unset, .unset, .unset, .unset] [.int 0, .ref b, .ref TB] ?_
  refine As C S2 b0 ⟨(by decide), (by decide)⟩ (.int ((Ad x0).toInt8.toInt32)) rfl (by decide +kernel) ?_
  refine Ac C S2 [(44, .sipush 255, 3), (47, .iand, 1)] 48 #[Ab DE, Ab b, Aa 1, Aa 8, Ab d, Aa 0, Aa 1, Aa 0, Ab TB, Aa 8, Aa 0, .unset, .unset, .unset, .unset, .unset] [.int ((Ad x0).toInt8.toInt32 &&& (255 : Int32)), .ref TB] ?_
  refine Aw C S2 TK (Ce hx0) (.int x0) (Cd hx0) (by decide +kernel) ?_
  refine Ac C S2 [(49, .istore 11, 2), (51, .aload 8, 2), (53, .aload_n 1, 1), (54, .iload_n 2, 1), (55, .iinc 2 1, 3)] 58 #[Ab DE, Ab b, Aa 2, Aa 8, Ab d, Aa 0, Aa 1, Aa 0, Ab TB, Aa 8, Aa 0, Aa x0, .unset, .unset, .unset, .unset] [.int 1, .ref b, .ref TB] ?_
  refine As C S2 b0 ⟨(by decide), (by decide)⟩ (.int ((Ad x1).toInt8.toInt32)) rfl (by decide +kernel) ?_
  refine Ac C S2 [(59, .sipush 255, 3), (62, .iand, 1)] 63 #[Ab DE, Ab b, Aa 2, Aa 8, Ab d, Aa 0, Aa 1, Aa 0, Ab TB, Aa 8, Aa 0, Aa x0, .unset, .unset, .unset, .unset] [.int ((Ad x1).toInt8.toInt32 &&& (255 : Int32)), .ref TB] ?_
  refine Aw C S2 TK (Ce hx1) (.int x1) (Cd hx1) (by decide +kernel) ?_
  refine Ac C S2 [(64, .istore 12, 2), (66, .aload 8, 2), (68, .aload_n 1, 1), (69, .iload_n 2, 1), (70, .iinc 2 1, 3)] 73 #[Ab DE, Ab b, Aa 3, Aa 8, Ab d, Aa 0, Aa 1, Aa 0, Ab TB, Aa 8, Aa 0, Aa x0, Aa x1, .unset, .unset, .unset] [.int 2, .ref b, .ref TB] ?_
  refine As C S2 b0 ⟨(by decide), (by decide)⟩ (.int ((Ad x2).toInt8.toInt32)) rfl (by decide +kernel) ?_
  refine Ac C S2 [(74, .sipush 255, 3), (77, .iand, 1)] 78 #[Ab DE, Ab b, Aa 3, Aa 8, Ab d, Aa 0, Aa 1, Aa 0, Ab TB, Aa 8, Aa 0, Aa x0, Aa x1, .unset, .unset, .unset] [.int ((Ad x2).toInt8.toInt32 &&& (255 : Int32)), .ref TB] ?_
  refine Aw C S2 TK (Ce hx2) (.int x2) (Cd hx2) (by decide +kernel) ?_
  refine Ac C S2 [(79, .istore 13, 2), (81, .aload 8, 2), (83, .aload_n 1, 1), (84, .iload_n 2, 1), (85, .iinc 2 1, 3)] 88 #[Ab DE, Ab b, Aa 4, Aa 8, Ab d, Aa 0, Aa 1, Aa 0, Ab TB, Aa 8, Aa 0, Aa x0, Aa x1, Aa x2, .unset, .unset] [.int 3, .ref b, .ref TB] ?_
  refine As C S2 b0 ⟨(by decide), (by decide)⟩ (.int ((Ad x3).toInt8.toInt32)) rfl (by decide +kernel) ?_
  refine Ac C S2 [(89, .sipush 255, 3), (92, .iand, 1)] 93 #[Ab DE, Ab b, Aa 4, Aa 8, Ab d, Aa 0, Aa 1, Aa 0, Ab TB, Aa 8, Aa 0, Aa x0, Aa x1, Aa x2, .unset, .unset] [.int ((Ad x3).toInt8.toInt32 &&& (255 : Int32)), .ref TB] ?_
  refine Aw C S2 TK (Ce hx3) (.int x3) (Cd hx3) (by decide +kernel) ?_
  refine Ac C S2 [(94, .istore 14, 2), (96, .iload 11, 2), (98, .iload 12, 2), (100, .ior, 1), (101, .iload 13, 2), (103, .ior, 1), (104, .iload 14, 2), (106, .ior, 1)] 107 #[Ab DE, Ab b, Aa 4, Aa 8, Ab d, Aa 0, Aa 1, Aa 0, Ab TB, Aa 8, Aa 0, Aa x0, Aa x1, Aa x2, Aa x3, .unset] [.int (((x0 ||| x1) ||| x2) ||| x3)] ?_
  refine Ba C S2 .ge 9 116 (fun (q3 : ¬ (((x0 ||| x1) ||| x2) ||| x3) < (0 : Int32)) => ?_) (fun (hq : (((x0 ||| x1) ||| x2) ||| x3) < (0 : Int32)) => False.elim (own_or4 hx0 hx1 hx2 hx3 hq))
  refine Ac C S2 [(116, .iload 11, 2), (118, .bipush 18, 2), (120, .ishl, 1), (121, .iload 12, 2), (123, .bipush 12, 2), (125, .ishl, 1), (126, .ior, 1), (127, .iload 13, 2), (129, .bipush 6, 2), (131, .ishl, 1), (132, .ior, 1), (133, .iload 14, 2), (135, .ior, 1), (136, .istore 15, 2), (138, .aload 4, 2), (140, .iload 10, 2), (142, .iinc 10 1, 3), (145, .iload 15, 2), (147, .bipush 16, 2), (149, .ishr, 1), (150, .i2b, 1)] 151 #[Ab DE, Ab b, Aa 4, Aa 8, Ab d, Aa 0, Aa 1, Aa 0, Ab TB, Aa 8, Aa 1, Aa x0, Aa x1, Aa x2, Aa x3, Aa ((((x0 <<< ((18 : Int32) &&& 31)) ||| (x1 <<< ((12 : Int32) &&& 31))) ||| (x2 <<< ((6 : Int32) &&& 31))) ||| x3)] [.int ((((((x0 <<< ((18 : Int32) &&& 31)) ||| (x1 <<< ((12 : Int32) &&& 31))) ||| (x2 <<< ((6 : Int32) &&& 31))) ||| x3) >>> ((16 : Int32) &&& 31)).toInt8.toInt32), .int 0, .ref d] ?_
  refine Aj C S2 dK ⟨(by decide), (by decide)⟩ 0 rfl (Am rfl) ((((((x0 <<< ((18 : Int32) &&& 31)) ||| (x1 <<< ((12 : Int32) &&& 31))) ||| (x2 <<< ((6 : Int32) &&& 31))) ||| x3) >>> ((16 : Int32) &&& 31)).toInt8.toInt32) (Au _) ge_d (by decide +kernel) ?_
  intro T4 h6 S5 W7 f8
  have f9 : Arv Z h6 d dk .byte (6 : Int32) ([(.int ((((((x0 <<< ((18 : Int32) &&& 31)) ||| (x1 <<< ((12 : Int32) &&& 31))) ||| (x2 <<< ((6 : Int32) &&& 31))) ||| x3) >>> ((16 : Int32) &&& 31)).toInt8.toInt32)), (.int 0), (.int 0), (.int 0), (.int 0), (.int 0)]) (.int 0) := f8
  refine Ac C S5 [(152, .aload 4, 2), (154, .iload 10, 2), (156, .iinc 10 1, 3), (159, .iload 15, 2), (161, .bipush 8, 2), (163, .ishr, 1), (164, .i2b, 1)] 165 #[Ab DE, Ab b, Aa 4, Aa 8, Ab d, Aa 0, Aa 1, Aa 0, Ab TB, Aa 8, Aa 2, Aa x0, Aa x1, Aa x2, Aa x3, Aa ((((x0 <<< ((18 : Int32) &&& 31)) ||| (x1 <<< ((12 : Int32) &&& 31))) ||| (x2 <<< ((6 : Int32) &&& 31))) ||| x3)] [.int ((((((x0 <<< ((18 : Int32) &&& 31)) ||| (x1 <<< ((12 : Int32) &&& 31))) ||| (x2 <<< ((6 : Int32) &&& 31))) ||| x3) >>> ((8 : Int32) &&& 31)).toInt8.toInt32), .int 1, .ref d] ?_
  refine Aj C S5 f9 ⟨(by decide), (by decide)⟩ 1 rfl (Am rfl) ((((((x0 <<< ((18 : Int32) &&& 31)) ||| (x1 <<< ((12 : Int32) &&& 31))) ||| (x2 <<< ((6 : Int32) &&& 31))) ||| x3) >>> ((8 : Int32) &&& 31)).toInt8.toInt32) (Au _) ge_d (by decide +kernel) ?_
  intro T10 h12 S11 W13 f14
  have f15 : Arv Z h12 d dk .byte (6 : Int32) ([(.int ((((((x0 <<< ((18 : Int32) &&& 31)) ||| (x1 <<< ((12 : Int32) &&& 31))) ||| (x2 <<< ((6 : Int32) &&& 31))) ||| x3) >>> ((16 : Int32) &&& 31)).toInt8.toInt32)), (.int ((((((x0 <<< ((18 : Int32) &&& 31)) ||| (x1 <<< ((12 : Int32) &&& 31))) ||| (x2 <<< ((6 : Int32) &&& 31))) ||| x3) >>> ((8 : Int32) &&& 31)).toInt8.toInt32)), (.int 0), (.int 0), (.int 0), (.int 0)]) (.int 0) := f14
  refine Ac C S11 [(166, .aload 4, 2), (168, .iload 10, 2), (170, .iinc 10 1, 3), (173, .iload 15, 2), (175, .i2b, 1)] 176 #[Ab DE, Ab b, Aa 4, Aa 8, Ab d, Aa 0, Aa 1, Aa 0, Ab TB, Aa 8, Aa 3, Aa x0, Aa x1, Aa x2, Aa x3, Aa ((((x0 <<< ((18 : Int32) &&& 31)) ||| (x1 <<< ((12 : Int32) &&& 31))) ||| (x2 <<< ((6 : Int32) &&& 31))) ||| x3)] [.int (((((x0 <<< ((18 : Int32) &&& 31)) ||| (x1 <<< ((12 : Int32) &&& 31))) ||| (x2 <<< ((6 : Int32) &&& 31))) ||| x3).toInt8.toInt32), .int 2, .ref d] ?_
  refine Aj C S11 f15 ⟨(by decide), (by decide)⟩ 2 rfl (Am rfl) (((((x0 <<< ((18 : Int32) &&& 31)) ||| (x1 <<< ((12 : Int32) &&& 31))) ||| (x2 <<< ((6 : Int32) &&& 31))) ||| x3).toInt8.toInt32) (Au _) ge_d (by decide +kernel) ?_
  intro T16 h18 S17 W19 f20
  have f21 : Arv Z h18 d dk .byte (6 : Int32) ([(.int ((((((x0 <<< ((18 : Int32) &&& 31)) ||| (x1 <<< ((12 : Int32) &&& 31))) ||| (x2 <<< ((6 : Int32) &&& 31))) ||| x3) >>> ((16 : Int32) &&& 31)).toInt8.toInt32)), (.int ((((((x0 <<< ((18 : Int32) &&& 31)) ||| (x1 <<< ((12 : Int32) &&& 31))) ||| (x2 <<< ((6 : Int32) &&& 31))) ||| x3) >>> ((8 : Int32) &&& 31)).toInt8.toInt32)), (.int (((((x0 <<< ((18 : Int32) &&& 31)) ||| (x1 <<< ((12 : Int32) &&& 31))) ||| (x2 <<< ((6 : Int32) &&& 31))) ||| x3).toInt8.toInt32)), (.int 0), (.int 0), (.int 0)]) (.int 0) := f20
  refine Ac C S17 [(177, .goto (-147), 3), (30, .iload_n 2, 1), (31, .iload 9, 2), (33, .if_icmp .ge 147, 3), (36, .aload 8, 2), (38, .aload_n 1, 1), (39, .iload_n 2, 1), (40, .iinc 2 1, 3)] 43 #[Ab DE, Ab b, Aa 5, Aa 8, Ab d, Aa 0, Aa 1, Aa 0, Ab TB, Aa 8, Aa 3, Aa x0, Aa x1, Aa x2, Aa x3, Aa ((((x0 <<< ((18 : Int32) &&& 31)) ||| (x1 <<< ((12 : Int32) &&& 31))) ||| (x2 <<< ((6 : Int32) &&& 31))) ||| x3)] [.int 4, .ref b, .ref TB] ?_
  have f22 := (((b0.other W7 ne_b_d).other W13 ne_b_d).other W19 ne_b_d)
  refine As C S17 f22 ⟨(by decide), (by decide)⟩ (.int ((Ad x4).toInt8.toInt32)) rfl (by decide +kernel) ?_
  refine Ac C S17 [(44, .sipush 255, 3), (47, .iand, 1)] 48 #[Ab DE, Ab b, Aa 5, Aa 8, Ab d, Aa 0, Aa 1, Aa 0, Ab TB, Aa 8, Aa 3, Aa x0, Aa x1, Aa x2, Aa x3, Aa ((((x0 <<< ((18 : Int32) &&& 31)) ||| (x1 <<< ((12 : Int32) &&& 31))) ||| (x2 <<< ((6 : Int32) &&& 31))) ||| x3)] [.int ((Ad x4).toInt8.toInt32 &&& (255 : Int32)), .ref TB] ?_
  have n23 : TB ≠ d := Nat.ne_of_lt (Nat.lt_of_lt_of_le TBlt ge_d)
  have f24 := (((TK.other W7 n23).other W13 n23).other W19 n23)
  refine Aw C S17 f24 (Ce hx4) (.int x4) (Cd hx4) (by decide +kernel) ?_
  refine Ac C S17 [(49, .istore 11, 2), (51, .aload 8, 2), (53, .aload_n 1, 1), (54, .iload_n 2, 1), (55, .iinc 2 1, 3)] 58 #[Ab DE, Ab b, Aa 6, Aa 8, Ab d, Aa 0, Aa 1, Aa 0, Ab TB, Aa 8, Aa 3, Aa x4, Aa x1, Aa x2, Aa x3, Aa ((((x0 <<< ((18 : Int32) &&& 31)) ||| (x1 <<< ((12 : Int32) &&& 31))) ||| (x2 <<< ((6 : Int32) &&& 31))) ||| x3)] [.int 5, .ref b, .ref TB] ?_
  refine As C S17 f22 ⟨(by decide), (by decide)⟩ (.int ((Ad x5).toInt8.toInt32)) rfl (by decide +kernel) ?_
  refine Ac C S17 [(59, .sipush 255, 3), (62, .iand, 1)] 63 #[Ab DE, Ab b, Aa 6, Aa 8, Ab d, Aa 0, Aa 1, Aa 0, Ab TB, Aa 8, Aa 3, Aa x4, Aa x1, Aa x2, Aa x3, Aa ((((x0 <<< ((18 : Int32) &&& 31)) ||| (x1 <<< ((12 : Int32) &&& 31))) ||| (x2 <<< ((6 : Int32) &&& 31))) ||| x3)] [.int ((Ad x5).toInt8.toInt32 &&& (255 : Int32)), .ref TB] ?_
  refine Aw C S17 f24 (Ce hx5) (.int x5) (Cd hx5) (by decide +kernel) ?_
  refine Ac C S17 [(64, .istore 12, 2), (66, .aload 8, 2), (68, .aload_n 1, 1), (69, .iload_n 2, 1), (70, .iinc 2 1, 3)] 73 #[Ab DE, Ab b, Aa 7, Aa 8, Ab d, Aa 0, Aa 1, Aa 0, Ab TB, Aa 8, Aa 3, Aa x4, Aa x5, Aa x2, Aa x3, Aa ((((x0 <<< ((18 : Int32) &&& 31)) ||| (x1 <<< ((12 : Int32) &&& 31))) ||| (x2 <<< ((6 : Int32) &&& 31))) ||| x3)] [.int 6, .ref b, .ref TB] ?_
  refine As C S17 f22 ⟨(by decide), (by decide)⟩ (.int ((Ad x6).toInt8.toInt32)) rfl (by decide +kernel) ?_
  refine Ac C S17 [(74, .sipush 255, 3), (77, .iand, 1)] 78 #[Ab DE, Ab b, Aa 7, Aa 8, Ab d, Aa 0, Aa 1, Aa 0, Ab TB, Aa 8, Aa 3, Aa x4, Aa x5, Aa x2, Aa x3, Aa ((((x0 <<< ((18 : Int32) &&& 31)) ||| (x1 <<< ((12 : Int32) &&& 31))) ||| (x2 <<< ((6 : Int32) &&& 31))) ||| x3)] [.int ((Ad x6).toInt8.toInt32 &&& (255 : Int32)), .ref TB] ?_
  refine Aw C S17 f24 (Ce hx6) (.int x6) (Cd hx6) (by decide +kernel) ?_
  refine Ac C S17 [(79, .istore 13, 2), (81, .aload 8, 2), (83, .aload_n 1, 1), (84, .iload_n 2, 1), (85, .iinc 2 1, 3)] 88 #[Ab DE, Ab b, Aa 8, Aa 8, Ab d, Aa 0, Aa 1, Aa 0, Ab TB, Aa 8, Aa 3, Aa x4, Aa x5, Aa x6, Aa x3, Aa ((((x0 <<< ((18 : Int32) &&& 31)) ||| (x1 <<< ((12 : Int32) &&& 31))) ||| (x2 <<< ((6 : Int32) &&& 31))) ||| x3)] [.int 7, .ref b, .ref TB] ?_
  refine As C S17 f22 ⟨(by decide), (by decide)⟩ (.int ((Ad x7).toInt8.toInt32)) rfl (by decide +kernel) ?_
  refine Ac C S17 [(89, .sipush 255, 3), (92, .iand, 1)] 93 #[Ab DE, Ab b, Aa 8, Aa 8, Ab d, Aa 0, Aa 1, Aa 0, Ab TB, Aa 8, Aa 3, Aa x4, Aa x5, Aa x6, Aa x3, Aa ((((x0 <<< ((18 : Int32) &&& 31)) ||| (x1 <<< ((12 : Int32) &&& 31))) ||| (x2 <<< ((6 : Int32) &&& 31))) ||| x3)] [.int ((Ad x7).toInt8.toInt32 &&& (255 : Int32)), .ref TB] ?_
  refine Aw C S17 f24 (Ce hx7) (.int x7) (Cd hx7) (by decide +kernel) ?_
  refine Ac C S17 [(94, .istore 14, 2), (96, .iload 11, 2), (98, .iload 12, 2), (100, .ior, 1), (101, .iload 13, 2), (103, .ior, 1), (104, .iload 14, 2), (106, .ior, 1)] 107 #[Ab DE, Ab b, Aa 8, Aa 8, Ab d, Aa 0, Aa 1, Aa 0, Ab TB, Aa 8, Aa 3, Aa x4, Aa x5, Aa x6, Aa x7, Aa ((((x0 <<< ((18 : Int32) &&& 31)) ||| (x1 <<< ((12 : Int32) &&& 31))) ||| (x2 <<< ((6 : Int32) &&& 31))) ||| x3)] [.int (((x4 ||| x5) ||| x6) ||| x7)] ?_
  refine Ba C S17 .ge 9 116 (fun (q25 : ¬ (((x4 ||| x5) ||| x6) ||| x7) < (0 : Int32)) => ?_) (fun (hq : (((x4 ||| x5) ||| x6) ||| x7) < (0 : Int32)) => False.elim (own_or4 hx4 hx5 hx6 hx7 hq))
  refine Ac C S17 [(116, .iload 11, 2), (118, .bipush 18, 2), (120, .ishl, 1), (121, .iload 12, 2), (123, .bipush 12, 2), (125, .ishl, 1), (126, .ior, 1), (127, .iload 13, 2), (129, .bipush 6, 2), (131, .ishl, 1), (132, .ior, 1), (133, .iload 14, 2), (135, .ior, 1), (136, .istore 15, 2), (138, .aload 4, 2), (140, .iload 10, 2), (142, .iinc 10 1, 3), (145, .iload 15, 2), (147, .bipush 16, 2), (149, .ishr, 1), (150, .i2b, 1)] 151 #[Ab DE, Ab b, Aa 8, Aa 8, Ab d, Aa 0, Aa 1, Aa 0, Ab TB, Aa 8, Aa 4, Aa x4, Aa x5, Aa x6, Aa x7, Aa ((((x4 <<< ((18 : Int32) &&& 31)) ||| (x5 <<< ((12 : Int32) &&& 31))) ||| (x6 <<< ((6 : Int32) &&& 31))) ||| x7)] [.int ((((((x4 <<< ((18 : Int32) &&& 31)) ||| (x5 <<< ((12 : Int32) &&& 31))) ||| (x6 <<< ((6 : Int32) &&& 31))) ||| x7) >>> ((16 : Int32) &&& 31)).toInt8.toInt32), .int 3, .ref d] ?_
  refine Aj C S17 f21 ⟨(by decide), (by decide)⟩ 3 rfl (Am rfl) ((((((x4 <<< ((18 : Int32) &&& 31)) ||| (x5 <<< ((12 : Int32) &&& 31))) ||| (x6 <<< ((6 : Int32) &&& 31))) ||| x7) >>> ((16 : Int32) &&& 31)).toInt8.toInt32) (Au _) ge_d (by decide +kernel) ?_
  intro T26 h28 S27 W29 f30
  have f31 : Arv Z h28 d dk .byte (6 : Int32) ([(.int ((((((x0 <<< ((18 : Int32) &&& 31)) ||| (x1 <<< ((12 : Int32) &&& 31))) ||| (x2 <<< ((6 : Int32) &&& 31))) ||| x3) >>> ((16 : Int32) &&& 31)).toInt8.toInt32)), (.int ((((((x0 <<< ((18 : Int32) &&& 31)) ||| (x1 <<< ((12 : Int32) &&& 31))) ||| (x2 <<< ((6 : Int32) &&& 31))) ||| x3) >>> ((8 : Int32) &&& 31)).toInt8.toInt32)), (.int (((((x0 <<< ((18 : Int32) &&& 31)) ||| (x1 <<< ((12 : Int32) &&& 31))) ||| (x2 <<< ((6 : Int32) &&& 31))) ||| x3).toInt8.toInt32)), (.int ((((((x4 <<< ((18 : Int32) &&& 31)) ||| (x5 <<< ((12 : Int32) &&& 31))) ||| (x6 <<< ((6 : Int32) &&& 31))) ||| x7) >>> ((16 : Int32) &&& 31)).toInt8.toInt32)), (.int 0), (.int 0)]) (.int 0) := f30
  refine Ac C S27 [(152, .aload 4, 2), (154, .iload 10, 2), (156, .iinc 10 1, 3), (159, .iload 15, 2), (161, .bipush 8, 2), (163, .ishr, 1), (164, .i2b, 1)] 165 #[Ab DE, Ab b, Aa 8, Aa 8, Ab d, Aa 0, Aa 1, Aa 0, Ab TB, Aa 8, Aa 5, Aa x4, Aa x5, Aa x6, Aa x7, Aa ((((x4 <<< ((18 : Int32) &&& 31)) ||| (x5 <<< ((12 : Int32) &&& 31))) ||| (x6 <<< ((6 : Int32) &&& 31))) ||| x7)] [.int ((((((x4 <<< ((18 : Int32) &&& 31)) ||| (x5 <<< ((12 : Int32) &&& 31))) ||| (x6 <<< ((6 : Int32) &&& 31))) ||| x7) >>> ((8 : Int32) &&& 31)).toInt8.toInt32), .int 4, .ref d] ?_
  refine Aj C S27 f31 ⟨(by decide), (by decide)⟩ 4 rfl (Am rfl) ((((((x4 <<< ((18 : Int32) &&& 31)) ||| (x5 <<< ((12 : Int32) &&& 31))) ||| (x6 <<< ((6 : Int32) &&& 31))) ||| x7) >>> ((8 : Int32) &&& 31)).toInt8.toInt32) (Au _) ge_d (by decide +kernel) ?_
  intro T32 h34 S33 W35 f36
  have f37 : Arv Z h34 d dk .byte (6 : Int32) ([(.int ((((((x0 <<< ((18 : Int32) &&& 31)) ||| (x1 <<< ((12 : Int32) &&& 31))) ||| (x2 <<< ((6 : Int32) &&& 31))) ||| x3) >>> ((16 : Int32) &&& 31)).toInt8.toInt32)), (.int ((((((x0 <<< ((18 : Int32) &&& 31)) ||| (x1 <<< ((12 : Int32) &&& 31))) ||| (x2 <<< ((6 : Int32) &&& 31))) ||| x3) >>> ((8 : Int32) &&& 31)).toInt8.toInt32)), (.int (((((x0 <<< ((18 : Int32) &&& 31)) ||| (x1 <<< ((12 : Int32) &&& 31))) ||| (x2 <<< ((6 : Int32) &&& 31))) ||| x3).toInt8.toInt32)), (.int ((((((x4 <<< ((18 : Int32) &&& 31)) ||| (x5 <<< ((12 : Int32) &&& 31))) ||| (x6 <<< ((6 : Int32) &&& 31))) ||| x7) >>> ((16 : Int32) &&& 31)).toInt8.toInt32)), (.int ((((((x4 <<< ((18 : Int32) &&& 31)) ||| (x5 <<< ((12 : Int32) &&& 31))) ||| (x6 <<< ((6 : Int32) &&& 31))) ||| x7) >>> ((8 : Int32) &&& 31)).toInt8.toInt32)), (.int 0)]) (.int 0) := f36
  refine Ac C S33 [(166, .aload 4, 2), (168, .iload 10, 2), (170, .iinc 10 1, 3), (173, .iload 15, 2), (175, .i2b, 1)] 176 #[Ab DE, Ab b, Aa 8, Aa 8, Ab d, Aa 0, Aa 1, Aa 0, Ab TB, Aa 8, Aa 6, Aa x4, Aa x5, Aa x6, Aa x7, Aa ((((x4 <<< ((18 : Int32) &&& 31)) ||| (x5 <<< ((12 : Int32) &&& 31))) ||| (x6 <<< ((6 : Int32) &&& 31))) ||| x7)] [.int (((((x4 <<< ((18 : Int32) &&& 31)) ||| (x5 <<< ((12 : Int32) &&& 31))) ||| (x6 <<< ((6 : Int32) &&& 31))) ||| x7).toInt8.toInt32), .int 5, .ref d] ?_
  refine Aj C S33 f37 ⟨(by decide), (by decide)⟩ 5 rfl (Am rfl) (((((x4 <<< ((18 : Int32) &&& 31)) ||| (x5 <<< ((12 : Int32) &&& 31))) ||| (x6 <<< ((6 : Int32) &&& 31))) ||| x7).toInt8.toInt32) (Au _) ge_d (by decide +kernel) ?_
  intro T38 h40 S39 W41 f42
  have f43 : Arv Z h40 d dk .byte (6 : Int32) ([(.int ((((((x0 <<< ((18 : Int32) &&& 31)) ||| (x1 <<< ((12 : Int32) &&& 31))) ||| (x2 <<< ((6 : Int32) &&& 31))) ||| x3) >>> ((16 : Int32) &&& 31)).toInt8.toInt32)), (.int ((((((x0 <<< ((18 : Int32) &&& 31)) ||| (x1 <<< ((12 : Int32) &&& 31))) ||| (x2 <<< ((6 : Int32) &&& 31))) ||| x3) >>> ((8 : Int32) &&& 31)).toInt8.toInt32)), (.int (((((x0 <<< ((18 : Int32) &&& 31)) ||| (x1 <<< ((12 : Int32) &&& 31))) ||| (x2 <<< ((6 : Int32) &&& 31))) ||| x3).toInt8.toInt32)), (.int ((((((x4 <<< ((18 : Int32) &&& 31)) ||| (x5 <<< ((12 : Int32) &&& 31))) ||| (x6 <<< ((6 : Int32) &&& 31))) ||| x7) >>> ((16 : Int32) &&& 31)).toInt8.toInt32)), (.int ((((((x4 <<< ((18 : Int32) &&& 31)) ||| (x5 <<< ((12 : Int32) &&& 31))) ||| (x6 <<< ((6 : Int32) &&& 31))) ||| x7) >>> ((8 : Int32) &&& 31)).toInt8.toInt32)), (.int (((((x4 <<< ((18 : Int32) &&& 31)) ||| (x5 <<< ((12 : Int32) &&& 31))) ||| (x6 <<< ((6 : Int32) &&& 31))) ||| x7).toInt8.toInt32))]) (.int 0) := f42
  refine Ac C S39 [(177, .goto (-147), 3), (30, .iload_n 2, 1), (31, .iload 9, 2), (33, .if_icmp .ge 147, 3), (180, .iload 10, 2), (182, .iload 5, 2), (184, .isub, 1)] 185 #[Ab DE, Ab b, Aa 8, Aa 8, Ab d, Aa 0, Aa 1, Aa 0, Ab TB, Aa 8, Aa 6, Aa x4, Aa x5, Aa x6, Aa x7, Aa ((((x4 <<< ((18 : Int32) &&& 31)) ||| (x5 <<< ((12 : Int32) &&& 31))) ||| (x6 <<< ((6 : Int32) &&& 31))) ||| x7)] [.int 6] ?_
  refine Bq C S39 (by decide +kernel) (by decide) (by decide) ?_
  exact ⟨rfl, (((((((Keep.refl _ _).wr W7 (At 0)).wr W13 (At 0)).wr W19 (At 0)).wr W29 (At 0)).wr W35 (At 0)).wr W41 (At 0)), f43⟩
theorem own_d08 (hw : Ao a0 Z) (G1 : Int32) (G3 : Value) (U8 : Addr) (I8 : Addr) (TB : Addr) (TBk : ClassId) (DE : Addr) (b : Addr) (bk : ClassId) (d : Addr) (dk : ClassId) (x0 : Int32) (x1 : Int32) (x2 : Int32) (x3 : Int32) (x4 : Int32) (x5 : Int32) (x6 : Int32) (x7 : Int32) (h0 : Heap) (n0 : Nat) (z0 : n0 ≤ h0.size) (ge_d : n0 ≤ d) (X00 : Old Z n0 h0) (TK : Arv Z h0 TB TBk .int 256 Bt (.int 0)) (DEx : Exa Z h0 DE "java/util/Base64$Decoder") (DEu : Fld Z h0 DE "java/util/Base64$Decoder" "isURL" "Z" (.int 1)) (DEm : Fld Z h0 DE "java/util/Base64$Decoder" "isMIME" "Z" (.int 0)) (b0 : Arv Z h0 b bk .byte (8 : Int32) ([(.int ((Ad x0).toInt8.toInt32)), (.int ((Ad x1).toInt8.toInt32)), (.int ((Ad x2).toInt8.toInt32)), (.int ((Ad x3).toInt8.toInt32)), (.int ((Ad x4).toInt8.toInt32)), (.int ((Ad x5).toInt8.toInt32)), (.int ((Ad x6).toInt8.toInt32)), (.int ((Ad x7).toInt8.toInt32))]) (.int 0)) (b1 : Exa Z h0 b "[B") (dK : Arv Z h0 d dk .byte (6 : Int32) ([(.int 0), (.int 0), (.int 0), (.int 0), (.int 0), (.int 0)]) (.int 0)) (ne_b_d : b ≠ d) (XS : Bf Z n0 G1 G3 U8 I8 TB DE) (hx0 : Ag x0) (hx1 : Ag x1) (hx2 : Ag x2) (hx3 : Ag x3) (hx4 : Ag x4) (hx5 : Ag x5) (hx6 : Ag x6) (hx7 : Ag x7) :
    Af l Z (⟨"java/util/Base64$Decoder", "decode0", "([BII[B)I"⟩ : MethodName) jdk_2450_method_9_code 11 (some .int) ({ frames := 1, cells := 0, slots := 0, locals := 27 } : Room) n0 #[(.ref DE), (.ref b), (.int 0), (.int 8), (.ref d)] h0 (fun v h => v = some (.int 6) ∧ Keep h0 h [d] ∧ Arv Z h d dk .byte (6 : Int32) ([(.int (Be (Ap x0 x1 x2 x3))), (.int (Bn (Ap x0 x1 x2 x3))), (.int (Bw (Ap x0 x1 x2 x3))), (.int (Be (Ap x4 x5 x6 x7))), (.int (Bn (Ap x4 x5 x6 x7))), (.int (Bw (Ap x4 x5 x6 x7)))]) (.int 0)) := by
  refine Ar #[.val (.ref DE), .val (.ref b), .val (.int 0), .val (.int 8), .val (.ref d), .unset, .unset, .unset, .unset, .unset, .unset] ?_
  intro p e s m below meth c T0 C S0
  have XS_ := XS
  obtain ⟨O2, O4, P5, rG3, OU, OI, OT, OD, hUI, TBlt, DElt⟩ := XS_
  refine Ac C S0 [(0, .aload_n 0, 1)] 1 #[Ab DE, Ab b, Aa 0, Aa 8, Ab d, .unset, .unset, .unset, .unset, .unset, .unset] [.ref DE] ?_
  refine Cb C S0 hw 133 DEu ?_
  intro T1 S2
  refine Ac C S2 [(4, .ifCond .eq 9, 3)] 7 #[Ab DE, Ab b, Aa 0, Aa 8, Ab d, .unset, .unset, .unset, .unset, .unset, .unset] [] ?_
  refine Az C S2 (ow hw 135 rfl) Via.refl (OT.ext X00.2) (by decide +kernel) ?_
  intro T3 S4
  refine Ac C S4 [(10, .goto 6, 3), (16, .astore 5, 2), (18, .iconst 0, 1), (19, .istore 6, 2), (21, .iconst 0, 1), (22, .istore 7, 2), (24, .bipush 18, 2), (26, .istore 8, 2), (28, .iload_n 2, 1), (29, .iload_n 3, 1), (30, .if_icmp .ge 251, 3), (33, .iload 8, 2), (35, .bipush 18, 2), (37, .if_icmp .ne 53, 3), (40, .iload_n 2, 1), (41, .iload_n 3, 1), (42, .iconst 4, 1), (43, .isub, 1), (44, .if_icmp .ge 46, 3), (47, .aload_n 0, 1), (48, .aload_n 1, 1), (49, .iload_n 2, 1), (50, .iload_n 3, 1), (51, .aload 4, 2), (53, .iload 6, 2), (55, .aload_n 0, 1)] 56 #[Ab DE, Ab b, Aa 0, Aa 8, Ab d, Ab TB, Aa 0, Aa 0, Aa 18, .unset, .unset] [.ref DE, .int 0, .ref d, .int 8, .int 0, .ref b, .ref DE] ?_
  refine Cb C S4 hw 133 DEu ?_
  intro T5 S6
  refine Ac C S6 [(59, .aload_n 0, 1)] 60 #[Ab DE, Ab b, Aa 0, Aa 8, Ab d, Ab TB, Aa 0, Aa 0, Aa 18, .unset, .unset] [.ref DE, .int 1, .int 0, .ref d, .int 8, .int 0, .ref b, .ref DE] ?_
  refine Cb C S6 hw 136 DEm ?_
  intro T7 S8
  refine Cc C S8 (ow hw 148 rfl) (ow hw 149 rfl) (ow hw 151 rfl) (ow hw 150 rfl) (ow hw 152 rfl) (by decide) (Af.pay (own_db8 l Z a0 hw G1 G3 U8 I8 TB TBk DE b _ d _ x0 x1 x2 x3 x4 x5 x6 x7 h0 n0 z0 ge_d X00 TK DEx DEu DEm b0 b1 dK ne_b_d XS hx0 hx1 hx2 hx3 hx4 hx5 hx6 hx7) C 0 (ow hw 152 rfl) (ow hw 93 rfl) (by decide) (by decide)) (fun _ _ _ q => q.2) DEx [.ref b, .int 0, .int 8, .ref d, .int 0, .int 1, .int 0] [] rfl own_pd21 rfl rfl rfl (Am rfl) (by decide) (by decide) (by decide +kernel) ?_
  rintro T11 h12 v13 L14 S15 ⟨⟨rfl, K9, f10⟩, -⟩
  refine Ac C S15 [(66, .istore 9, 2), (68, .iload 9, 2), (70, .iconst 2, 1), (71, .iadd, 1), (72, .iconst 3, 1)] 73 #[Ab DE, Ab b, Aa 0, Aa 8, Ab d, Ab TB, Aa 0, Aa 0, Aa 18, Aa 6, .unset] [.int 3, .int 8] ?_
  refine Dc C S15 (by decide +kernel) (by decide) ?_
  refine Ac C S15 [(74, .iconst 4, 1), (75, .imul, 1), (76, .istore 10, 2), (78, .iload_n 2, 1), (79, .iload 10, 2), (81, .iadd, 1), (82, .istore_n 2, 1), (83, .iload 6, 2), (85, .iload 9, 2), (87, .iadd, 1), (88, .istore 6, 2), (90, .iload_n 2, 1), (91, .iload_n 3, 1), (92, .if_icmp .lt 6, 3), (95, .goto 186, 3), (281, .iload 8, 2), (283, .bipush 6, 2), (285, .if_icmp .ne 20, 3), (305, .iload 8, 2), (307, .ifCond .ne 34, 3), (341, .iload 8, 2), (343, .bipush 12, 2), (345, .if_icmp .ne 13, 3), (358, .iload_n 2, 1), (359, .iload_n 3, 1), (360, .if_icmp .ge 56, 3), (416, .iload 6, 2)] 418 #[Ab DE, Ab b, Aa 8, Aa 8, Ab d, Ab TB, Aa 6, Aa 0, Aa 18, Aa 6, Aa 8] [.int 6] ?_
  refine Bq C S15 (by decide +kernel) (by decide) (by decide) ?_
  exact ⟨rfl, ((Keep.refl _ _).trans K9 (allS (At 0) all0)), f10⟩
theorem own_da8 (hw : Ao a0 Z) (G1 : Int32) (G3 : Value) (U8 : Addr) (I8 : Addr) (TB : Addr) (TBk : ClassId) (DE : Addr) (b : Addr) (bk : ClassId) (x0 : Int32) (x1 : Int32) (x2 : Int32) (x3 : Int32) (x4 : Int32) (x5 : Int32) (x6 : Int32) (x7 : Int32) (h0 : Heap) (n0 : Nat) (z0 : n0 ≤ h0.size) (X00 : Old Z n0 h0) (TK : Arv Z h0 TB TBk .int 256 Bt (.int 0)) (DEx : Exa Z h0 DE "java/util/Base64$Decoder") (DEu : Fld Z h0 DE "java/util/Base64$Decoder" "isURL" "Z" (.int 1)) (DEm : Fld Z h0 DE "java/util/Base64$Decoder" "isMIME" "Z" (.int 0)) (b0 : Arv Z h0 b bk .byte (8 : Int32) ([(.int ((Ad x0).toInt8.toInt32)), (.int ((Ad x1).toInt8.toInt32)), (.int ((Ad x2).toInt8.toInt32)), (.int ((Ad x3).toInt8.toInt32)), (.int ((Ad x4).toInt8.toInt32)), (.int ((Ad x5).toInt8.toInt32)), (.int ((Ad x6).toInt8.toInt32)), (.int ((Ad x7).toInt8.toInt32))]) (.int 0)) (b1 : Exa Z h0 b "[B") (XS : Bf Z n0 G1 G3 U8 I8 TB DE) (hx0 : Ag x0) (hx1 : Ag x1) (hx2 : Ag x2) (hx3 : Ag x3) (hx4 : Ag x4) (hx5 : Ag x5) (hx6 : Ag x6) (hx7 : Ag x7) :
    Af l Z (⟨"java/util/Base64$Decoder", "decode", "([B)[B"⟩ : MethodName) jdk_2450_method_2_code 4 (some (.array .byte)) ({ frames := 2, cells := 1, slots := 6, locals := 49 } : Room) n0 #[(.ref DE), (.ref b)] h0 (fun v h => ∃ r : Addr, ∃ rk : ClassId, v = some (.ref r) ∧ h0.size ≤ r ∧ Keep h0 h [] ∧ Arv Z h r rk .byte (6 : Int32) ([(.int (Be (Ap x0 x1 x2 x3))), (.int (Bn (Ap x0 x1 x2 x3))), (.int (Bw (Ap x0 x1 x2 x3))), (.int (Be (Ap x4 x5 x6 x7))), (.int (Bn (Ap x4 x5 x6 x7))), (.int (Bw (Ap x4 x5 x6 x7)))]) (.int 0)) := by
  refine Ar #[.val (.ref DE), .val (.ref b), .unset, .unset] ?_
  intro p e s m below meth c T0 C S0
  have XS_ := XS
  obtain ⟨O2, O4, P5, rG3, OU, OI, OT, OD, hUI, TBlt, DElt⟩ := XS_
  refine Ac C S0 [(0, .aload_n 0, 1), (1, .aload_n 1, 1), (2, .iconst 0, 1), (3, .aload_n 1, 1)] 4 #[Ab DE, Ab b, .unset, .unset] [.ref b, .int 0, .ref b, .ref DE] ?_
  refine Ay C S0 b0 (by decide +kernel) ?_
  refine Cc C S0 (ow hw 128 rfl) (ow hw 129 rfl) (ow hw 131 rfl) (ow hw 130 rfl) (ow hw 132 rfl) (by decide) (Af.pay (own_dl8 l Z a0 hw G1 G3 U8 I8 TB TBk DE b _ x0 x1 x2 x3 x4 x5 x6 x7 h0 n0 z0 X00 TK DEx DEu DEm b0 b1 XS hx0 hx1 hx2 hx3 hx4 hx5 hx6 hx7) C 0 (ow hw 132 rfl) (ow hw 93 rfl) (by decide) (by decide)) (fun _ _ _ q => q.2) DEx [.ref b, .int 0, .int 8] [] rfl Ds rfl rfl rfl (Am rfl) (by decide) (by decide) (by decide +kernel) ?_
  rintro T2 h3 v4 L5 S6 ⟨⟨rfl, e1⟩, -⟩
  rw [e1] at S6; clear e1
  refine Co C S6 (aty := .byte) (ad := "[B") (by decide) (ow hw 30 rfl) (by decide +kernel) (by decide) 6 (by decide) (by decide) (by decide) (by decide) ?_
  intro T7 h9 a10 k11 S8 g12 E13 f14 x15
  have f16 : Arv Z h9 a10 k11 .byte (6 : Int32) ([(.int 0), (.int 0), (.int 0), (.int 0), (.int 0), (.int 0)]) (.int 0) := Arv.pad f14 (pad_rep [] (.int 0) 6)
  refine Ac C S8 [(10, .astore_n 2, 1), (11, .aload_n 0, 1), (12, .aload_n 1, 1), (13, .iconst 0, 1), (14, .aload_n 1, 1)] 15 #[Ab DE, Ab b, Ab a10, .unset] [.ref b, .int 0, .ref b, .ref DE] ?_
  have f17 := (b0.ext E13)
  refine Ay C S8 f17 (by decide +kernel) ?_
  refine Ac C S8 [(16, .aload_n 2, 1)] 17 #[Ab DE, Ab b, Ab a10, .unset] [.ref a10, .int 8, .int 0, .ref b, .ref DE] ?_
  have f18 := (X00.ext E13)
  have f19 := (TK.ext E13)
  have f20 := (Exa.ext E13 DEx)
  have f21 := (Fld.ext E13 DEu)
  have f22 := (Fld.ext E13 DEm)
  have f23 := (Exa.ext E13 b1)
  have f24 : n0 ≤ h9.size := (Nat.le_trans z0 E13.1)
  have g25 : n0 ≤ a10 := by rw [g12]; exact z0
  have n26 : b ≠ a10 := by rw [g12]; exact Nat.ne_of_lt b0.lt
  refine Cc C S8 (ow hw 140 rfl) (ow hw 141 rfl) (ow hw 143 rfl) (ow hw 142 rfl) (ow hw 144 rfl) (by decide) (Af.pay (own_d08 l Z a0 hw G1 G3 U8 I8 TB TBk DE b _ a10 _ x0 x1 x2 x3 x4 x5 x6 x7 h9 n0 f24 g25 f18 f19 f20 f21 f22 f17 f23 f16 n26 XS hx0 hx1 hx2 hx3 hx4 hx5 hx6 hx7) C 0 (ow hw 144 rfl) (ow hw 93 rfl) (by decide) (by decide)) (fun _ _ _ q => q.2) f20 [.ref b, .int 0, .int 8, .ref a10] [] rfl Dt rfl rfl rfl (Am rfl) (by decide) (by decide) (by decide +kernel) ?_
  rintro T29 h30 v31 L32 S33 ⟨⟨rfl, K27, f28⟩, -⟩
  refine Ac C S33 [(20, .istore_n 3, 1), (21, .iload_n 3, 1), (22, .aload_n 2, 1)] 23 #[Ab DE, Ab b, Ab a10, Aa 6] [.ref a10, .int 6] ?_
  refine Ay C S33 f28 (by decide +kernel) ?_
  refine Ac C S33 [(24, .if_icmp .eq 9, 3), (33, .aload_n 2, 1)] 34 #[Ab DE, Ab b, Ab a10, Aa 6] [.ref a10] ?_
  refine Br C S33 rfl rfl (by decide +kernel) (by decide) (by decide) ?_
  have o34 : h0.size ≤ a10 := by rw [g12]; exact (Nat.le_refl _)
  exact ⟨a10, k11, rfl, o34, (((Keep.refl _ _).ext E13).trans K27 (allS (Or.inr o34) all0)), f28⟩
theorem own_ds8 (hw : Ao a0 Z) (G1 : Int32) (G3 : Value) (U8 : Addr) (I8 : Addr) (TB : Addr) (TBk : ClassId) (DE : Addr) (x : Addr) (xt : Addr) (xtk : ClassId) (x0 : Int32) (x1 : Int32) (x2 : Int32) (x3 : Int32) (x4 : Int32) (x5 : Int32) (x6 : Int32) (x7 : Int32) (h0 : Heap) (n0 : Nat) (z0 : n0 ≤ h0.size) (X00 : Old Z n0 h0) (TK : Arv Z h0 TB TBk .int 256 Bt (.int 0)) (DEx : Exa Z h0 DE "java/util/Base64$Decoder") (DEu : Fld Z h0 DE "java/util/Base64$Decoder" "isURL" "Z" (.int 1)) (DEm : Fld Z h0 DE "java/util/Base64$Decoder" "isMIME" "Z" (.int 0)) (s0 : Exa Z h0 x "java/lang/String") (s1 : Fld Z h0 x "java/lang/String" "value" "[B" (.ref xt)) (s2 : Fld Z h0 x "java/lang/String" "coder" "B" (.int 0)) (s3 : Arv Z h0 xt xtk .byte (8 : Int32) ([(.int ((Ad x0).toInt8.toInt32)), (.int ((Ad x1).toInt8.toInt32)), (.int ((Ad x2).toInt8.toInt32)), (.int ((Ad x3).toInt8.toInt32)), (.int ((Ad x4).toInt8.toInt32)), (.int ((Ad x5).toInt8.toInt32)), (.int ((Ad x6).toInt8.toInt32)), (.int ((Ad x7).toInt8.toInt32))]) (.int 0)) (s4 : Exa Z h0 xt "[B") (XS : Bf Z n0 G1 G3 U8 I8 TB DE) (hx0 : Ag x0) (hx1 : Ag x1) (hx2 : Ag x2) (hx3 : Ag x3) (hx4 : Ag x4) (hx5 : Ag x5) (hx6 : Ag x6) (hx7 : Ag x7) :
    Af l Z (⟨"java/util/Base64$Decoder", "decode", "(Ljava/lang/String;)[B"⟩ : MethodName) jdk_2450_method_3_code 2 (some (.array .byte)) ({ frames := 5, cells := 2, slots := 14, locals := 76 } : Room) n0 #[(.ref DE), (.ref x)] h0 (fun v h => ∃ r : Addr, ∃ rk : ClassId, v = some (.ref r) ∧ h0.size ≤ r ∧ Keep h0 h [] ∧ Arv Z h r rk .byte (6 : Int32) ([(.int (Be (Ap x0 x1 x2 x3))), (.int (Bn (Ap x0 x1 x2 x3))), (.int (Bw (Ap x0 x1 x2 x3))), (.int (Be (Ap x4 x5 x6 x7))), (.int (Bn (Ap x4 x5 x6 x7))), (.int (Bw (Ap x4 x5 x6 x7)))]) (.int 0)) := by
  refine Ar #[.val (.ref DE), .val (.ref x)] ?_
  intro p e s m below meth c T0 C S0
  have XS_ := XS
  obtain ⟨O2, O4, P5, rG3, OU, OI, OT, OD, hUI, TBlt, DElt⟩ := XS_
  refine Ac C S0 [(0, .aload_n 0, 1), (1, .aload_n 1, 1)] 2 #[Ab DE, Ab x] [.ref x, .ref DE] ?_
  refine Az C S0 (ow hw 95 rfl) Via.refl (OI.ext X00.2) (by decide +kernel) ?_
  intro T1 S2
  refine Al C S2 hw 97 98 100 100 99 101 9 (Es l Z a0 hw G1 G3 U8 I8 TB DE x _ _ _ _ h0 n0 z0 X00 s0 s1 s2 s3 s4 XS (Am rfl)) 1 s0 [.ref I8] [.ref DE] Du ?_
  rintro T8 h9 v10 L11 S12 ⟨⟨a3, rfl, g4, K5, f6, f7⟩, -⟩
  have f13 := (X00.keep K5 all0)
  have f14 := (TK.keep K5 nin0)
  have f15 := (DEx.keep K5)
  have f16 := (DEu.keep K5 nin0)
  have f17 := (DEm.keep K5 nin0)
  have f18 : n0 ≤ h9.size := (Nat.le_trans z0 K5.1)
  refine Al C S12 hw 123 124 126 126 125 127 93 (own_da8 l Z a0 hw G1 G3 U8 I8 TB TBk DE a3 _ x0 x1 x2 x3 x4 x5 x6 x7 h9 n0 f18 f13 f14 f15 f16 f17 f6 f7 XS hx0 hx1 hx2 hx3 hx4 hx5 hx6 hx7) 0 f15 [.ref a3] [] Dv ?_
  rintro T24 h25 v26 L27 S28 ⟨⟨a19, k20, rfl, g21, K22, f23⟩, -⟩
  refine Br C S28 rfl rfl (by decide +kernel) (by decide) (by decide) ?_
  have o30 : h0.size ≤ h9.size := (Nat.le_trans (Nat.le_refl _) K5.1)
  have o29 : h0.size ≤ a19 := Nat.le_trans o30 g21
  exact ⟨a19, k20, rfl, o29, (((Keep.refl _ _).trans K5 all0).trans K22 all0), f23⟩
theorem own_du8 (hw : Ao a0 Z) (hEL : EW Z a0 Cm) (wS : ∀ a ∈ Bundle.stringAtoms, a.before a0 Z = true) (G1 : Int32) (G3 : Value) (U8 : Addr) (I8 : Addr) (TB : Addr) (TBk : ClassId) (DE : Addr) (x : Addr) (xt : Addr) (xtk : ClassId) (x0 : Int32) (x1 : Int32) (x2 : Int32) (x3 : Int32) (x4 : Int32) (x5 : Int32) (x6 : Int32) (x7 : Int32) (h0 : Heap) (n0 : Nat) (z0 : n0 ≤ h0.size) (X00 : Old Z n0 h0) (TK : Arv Z h0 TB TBk .int 256 Bt (.int 0)) (DEx : Exa Z h0 DE "java/util/Base64$Decoder") (DEu : Fld Z h0 DE "java/util/Base64$Decoder" "isURL" "Z" (.int 1)) (DEm : Fld Z h0 DE "java/util/Base64$Decoder" "isMIME" "Z" (.int 0)) (s0 : Exa Z h0 x "java/lang/String") (s1 : Fld Z h0 x "java/lang/String" "value" "[B" (.ref xt)) (s2 : Fld Z h0 x "java/lang/String" "coder" "B" (.int 0)) (s3 : Arv Z h0 xt xtk .byte (8 : Int32) ([(.int ((Ad x0).toInt8.toInt32)), (.int ((Ad x1).toInt8.toInt32)), (.int ((Ad x2).toInt8.toInt32)), (.int ((Ad x3).toInt8.toInt32)), (.int ((Ad x4).toInt8.toInt32)), (.int ((Ad x5).toInt8.toInt32)), (.int ((Ad x6).toInt8.toInt32)), (.int ((Ad x7).toInt8.toInt32))]) (.int 0)) (s4 : Exa Z h0 xt "[B") (XS : Bf Z n0 G1 G3 U8 I8 TB DE) (hx0 : Ag x0) (hx1 : Ag x1) (hx2 : Ag x2) (hx3 : Ag x3) (hx4 : Ag x4) (hx5 : Ag x5) (hx6 : Ag x6) (hx7 : Ag x7) :
    Cp l Z Cm (⟨"com/example/torrey/torrey/Base64Url", "decode", "(Ljava/lang/String;)[B"⟩ : MethodName) prog_1_method_3_code 3 (some (.array .byte)) ({ frames := 6, cells := 4, slots := 34, locals := 89 } : Room) n0 #[(.ref x)] h0 [] (fun v h => ∃ r : Addr, ∃ rk : ClassId, v = some (.ref r) ∧ h0.size ≤ r ∧ Keep h0 h [] ∧ Arv Z h r rk .byte (6 : Int32) ([(.int (Be (Ap x0 x1 x2 x3))), (.int (Bn (Ap x0 x1 x2 x3))), (.int (Bw (Ap x0 x1 x2 x3))), (.int (Be (Ap x4 x5 x6 x7))), (.int (Bn (Ap x4 x5 x6 x7))), (.int (Bw (Ap x4 x5 x6 x7)))]) (.int 0)) := by
  refine Da hEL wS (by decide +kernel) #[.val (.ref x), .unset, .unset] (fun m => by first | (simp [entryFrame, mkF, argsToLocals, Value.category]; done) | rfl) ?_
  intro p e s m below meth c T0 CW SW0
  have XS_ := XS
  obtain ⟨O2, O4, P5, rG3, OU, OI, OT, OD, hUI, TBlt, DElt⟩ := XS_
  refine Bv CW SW0 ?_
  intro vm1 C S2 rb3
  refine Ac C S2 [(0, .aload_n 0, 1)] 1 #[Ab x, .unset, .unset] [.ref x] ?_
  have SW4 := rb3 _ _ _ _ [] [] S2 (Keep.refl _ _) all0 all0
  refine Dq CW SW4 (ow hw 45 rfl) (by decide +kernel) 16 (by decide) (by decide) (by decide) (by decide) ?_
  intro T5 h6 a7 SW8 E9
  have f10 : n0 ≤ h6.size := (Nat.le_trans z0 E9.1)
  refine Bv CW SW8 ?_
  intro vm17 C S18 rb19
  refine Ah C S18 hw 48 49 50 51 (Eh l Z a0 hw x a7 h6 n0 f10) 0 [.ref x, .ref a7] [] Dw ?_
  rintro T12 h13 v14 L15 S16 ⟨⟨rfl, e11⟩, -⟩
  rw [e11] at S16; clear e11
  refine Ac C S16 [(6, .pop, 1), (7, .iconst 0, 1), (8, .istore_n 1, 1), (9, .iload_n 1, 1), (10, .aload_n 0, 1)] 11 #[Ab x, Aa 0, .unset] [.ref x, .int 0] ?_
  have f20 := (X00.ext E9)
  have f21 := (Exa.ext E9 s0)
  have f22 := (Fld.ext E9 s1)
  have f23 := (Fld.ext E9 s2)
  have f24 := (s3.ext E9)
  refine Al C S16 hw 52 53 55 55 54 56 9 (Bb l Z a0 hw G1 G3 x _ _ _ _ h6 n0 f10 f20 f21 f22 f23 f24 O2 O4 P5 rG3) 1 f21 [] [.int 0] Av ?_
  rintro T26 h27 v28 L29 S30 ⟨⟨rfl, e25⟩, -⟩
  rw [e25] at S30; clear e25
  refine Ac C S30 [(14, .if_icmp .ge 39, 3), (17, .aload_n 0, 1), (18, .iload_n 1, 1)] 19 #[Ab x, Aa 0, .unset] [.int 0, .ref x] ?_
  refine Al C S30 hw 62 63 65 65 64 66 9 (Bu l Z a0 hw G1 G3 x _ _ _ _ 0 ((Ad x0).toInt8.toInt32) (Ad x0) h6 n0 f10 f20 f21 f22 f23 f24 O2 O4 P5 rG3 (⟨(by decide), (by decide)⟩) rfl (Ca hx0) (Aq hx0)) 0 f21 [.int 0] [] Bl ?_
  rintro T32 h33 v34 L35 S36 ⟨⟨rfl, e31⟩, -⟩
  rw [e31] at S36; clear e31
  refine Ah C S36 hw 84 85 43 86 (Bk l Z a0 hw x0 h6 n0 f10 hx0) 0 [.int (Ad x0)] [] Bm ?_
  rintro T38 h39 v40 L41 S42 ⟨⟨rfl, e37⟩, -⟩
  rw [e37] at S42; clear e37
  refine Ba C S42 .ge 22 47 (fun (q43 : ¬ x0 < (0 : Int32)) => ?_) (fun (hq : x0 < (0 : Int32)) => False.elim (Bp hx0 hq))
  refine Ac C S42 [(47, .iinc 1 1, 3), (50, .goto (-41), 3), (9, .iload_n 1, 1), (10, .aload_n 0, 1)] 11 #[Ab x, Aa 1, .unset] [.ref x, .int 1] ?_
  refine Al C S42 hw 52 53 55 55 54 56 9 (Bb l Z a0 hw G1 G3 x _ _ _ _ h6 n0 f10 f20 f21 f22 f23 f24 O2 O4 P5 rG3) 1 f21 [] [.int 1] Av ?_
  rintro T45 h46 v47 L48 S49 ⟨⟨rfl, e44⟩, -⟩
  rw [e44] at S49; clear e44
  refine Ac C S49 [(14, .if_icmp .ge 39, 3), (17, .aload_n 0, 1), (18, .iload_n 1, 1)] 19 #[Ab x, Aa 1, .unset] [.int 1, .ref x] ?_
  refine Al C S49 hw 62 63 65 65 64 66 9 (Bu l Z a0 hw G1 G3 x _ _ _ _ 1 ((Ad x1).toInt8.toInt32) (Ad x1) h6 n0 f10 f20 f21 f22 f23 f24 O2 O4 P5 rG3 (⟨(by decide), (by decide)⟩) rfl (Ca hx1) (Aq hx1)) 0 f21 [.int 1] [] Bl ?_
  rintro T51 h52 v53 L54 S55 ⟨⟨rfl, e50⟩, -⟩
  rw [e50] at S55; clear e50
  refine Ah C S55 hw 84 85 43 86 (Bk l Z a0 hw x1 h6 n0 f10 hx1) 0 [.int (Ad x1)] [] Bm ?_
  rintro T57 h58 v59 L60 S61 ⟨⟨rfl, e56⟩, -⟩
  rw [e56] at S61; clear e56
  refine Ba C S61 .ge 22 47 (fun (q62 : ¬ x1 < (0 : Int32)) => ?_) (fun (hq : x1 < (0 : Int32)) => False.elim (Bp hx1 hq))
  refine Ac C S61 [(47, .iinc 1 1, 3), (50, .goto (-41), 3), (9, .iload_n 1, 1), (10, .aload_n 0, 1)] 11 #[Ab x, Aa 2, .unset] [.ref x, .int 2] ?_
  refine Al C S61 hw 52 53 55 55 54 56 9 (Bb l Z a0 hw G1 G3 x _ _ _ _ h6 n0 f10 f20 f21 f22 f23 f24 O2 O4 P5 rG3) 1 f21 [] [.int 2] Av ?_
  rintro T64 h65 v66 L67 S68 ⟨⟨rfl, e63⟩, -⟩
  rw [e63] at S68; clear e63
  refine Ac C S68 [(14, .if_icmp .ge 39, 3), (17, .aload_n 0, 1), (18, .iload_n 1, 1)] 19 #[Ab x, Aa 2, .unset] [.int 2, .ref x] ?_
  refine Al C S68 hw 62 63 65 65 64 66 9 (Bu l Z a0 hw G1 G3 x _ _ _ _ 2 ((Ad x2).toInt8.toInt32) (Ad x2) h6 n0 f10 f20 f21 f22 f23 f24 O2 O4 P5 rG3 (⟨(by decide), (by decide)⟩) rfl (Ca hx2) (Aq hx2)) 0 f21 [.int 2] [] Bl ?_
  rintro T70 h71 v72 L73 S74 ⟨⟨rfl, e69⟩, -⟩
  rw [e69] at S74; clear e69
  refine Ah C S74 hw 84 85 43 86 (Bk l Z a0 hw x2 h6 n0 f10 hx2) 0 [.int (Ad x2)] [] Bm ?_
  rintro T76 h77 v78 L79 S80 ⟨⟨rfl, e75⟩, -⟩
  rw [e75] at S80; clear e75
  refine Ba C S80 .ge 22 47 (fun (q81 : ¬ x2 < (0 : Int32)) => ?_) (fun (hq : x2 < (0 : Int32)) => False.elim (Bp hx2 hq))
  refine Ac C S80 [(47, .iinc 1 1, 3), (50, .goto (-41), 3), (9, .iload_n 1, 1), (10, .aload_n 0, 1)] 11 #[Ab x, Aa 3, .unset] [.ref x, .int 3] ?_
  refine Al C S80 hw 52 53 55 55 54 56 9 (Bb l Z a0 hw G1 G3 x _ _ _ _ h6 n0 f10 f20 f21 f22 f23 f24 O2 O4 P5 rG3) 1 f21 [] [.int 3] Av ?_
  rintro T83 h84 v85 L86 S87 ⟨⟨rfl, e82⟩, -⟩
  rw [e82] at S87; clear e82
  refine Ac C S87 [(14, .if_icmp .ge 39, 3), (17, .aload_n 0, 1), (18, .iload_n 1, 1)] 19 #[Ab x, Aa 3, .unset] [.int 3, .ref x] ?_
  refine Al C S87 hw 62 63 65 65 64 66 9 (Bu l Z a0 hw G1 G3 x _ _ _ _ 3 ((Ad x3).toInt8.toInt32) (Ad x3) h6 n0 f10 f20 f21 f22 f23 f24 O2 O4 P5 rG3 (⟨(by decide), (by decide)⟩) rfl (Ca hx3) (Aq hx3)) 0 f21 [.int 3] [] Bl ?_
  rintro T89 h90 v91 L92 S93 ⟨⟨rfl, e88⟩, -⟩
  rw [e88] at S93; clear e88
  refine Ah C S93 hw 84 85 43 86 (Bk l Z a0 hw x3 h6 n0 f10 hx3) 0 [.int (Ad x3)] [] Bm ?_
  rintro T95 h96 v97 L98 S99 ⟨⟨rfl, e94⟩, -⟩
  rw [e94] at S99; clear e94
  refine Ba C S99 .ge 22 47 (fun (q100 : ¬ x3 < (0 : Int32)) => ?_) (fun (hq : x3 < (0 : Int32)) => False.elim (Bp hx3 hq))
  refine Ac C S99 [(47, .iinc 1 1, 3), (50, .goto (-41), 3), (9, .iload_n 1, 1), (10, .aload_n 0, 1)] 11 #[Ab x, Aa 4, .unset] [.ref x, .int 4] ?_
  refine Al C S99 hw 52 53 55 55 54 56 9 (Bb l Z a0 hw G1 G3 x _ _ _ _ h6 n0 f10 f20 f21 f22 f23 f24 O2 O4 P5 rG3) 1 f21 [] [.int 4] Av ?_
  rintro T102 h103 v104 L105 S106 ⟨⟨rfl, e101⟩, -⟩
  rw [e101] at S106; clear e101
  refine Ac C S106 [(14, .if_icmp .ge 39, 3), (17, .aload_n 0, 1), (18, .iload_n 1, 1)] 19 #[Ab x, Aa 4, .unset] [.int 4, .ref x] ?_
  refine Al C S106 hw 62 63 65 65 64 66 9 (Bu l Z a0 hw G1 G3 x _ _ _ _ 4 ((Ad x4).toInt8.toInt32) (Ad x4) h6 n0 f10 f20 f21 f22 f23 f24 O2 O4 P5 rG3 (⟨(by decide), (by decide)⟩) rfl (Ca hx4) (Aq hx4)) 0 f21 [.int 4] [] Bl ?_
  rintro T108 h109 v110 L111 S112 ⟨⟨rfl, e107⟩, -⟩
  rw [e107] at S112; clear e107
  refine Ah C S112 hw 84 85 43 86 (Bk l Z a0 hw x4 h6 n0 f10 hx4) 0 [.int (Ad x4)] [] Bm ?_
  rintro T114 h115 v116 L117 S118 ⟨⟨rfl, e113⟩, -⟩
  rw [e113] at S118; clear e113
  refine Ba C S118 .ge 22 47 (fun (q119 : ¬ x4 < (0 : Int32)) => ?_) (fun (hq : x4 < (0 : Int32)) => False.elim (Bp hx4 hq))
  refine Ac C S118 [(47, .iinc 1 1, 3), (50, .goto (-41), 3), (9, .iload_n 1, 1), (10, .aload_n 0, 1)] 11 #[Ab x, Aa 5, .unset] [.ref x, .int 5] ?_
  refine Al C S118 hw 52 53 55 55 54 56 9 (Bb l Z a0 hw G1 G3 x _ _ _ _ h6 n0 f10 f20 f21 f22 f23 f24 O2 O4 P5 rG3) 1 f21 [] [.int 5] Av ?_
  rintro T121 h122 v123 L124 S125 ⟨⟨rfl, e120⟩, -⟩
  rw [e120] at S125; clear e120
  refine Ac C S125 [(14, .if_icmp .ge 39, 3), (17, .aload_n 0, 1), (18, .iload_n 1, 1)] 19 #[Ab x, Aa 5, .unset] [.int 5, .ref x] ?_
  refine Al C S125 hw 62 63 65 65 64 66 9 (Bu l Z a0 hw G1 G3 x _ _ _ _ 5 ((Ad x5).toInt8.toInt32) (Ad x5) h6 n0 f10 f20 f21 f22 f23 f24 O2 O4 P5 rG3 (⟨(by decide), (by decide)⟩) rfl (Ca hx5) (Aq hx5)) 0 f21 [.int 5] [] Bl ?_
  rintro T127 h128 v129 L130 S131 ⟨⟨rfl, e126⟩, -⟩
  rw [e126] at S131; clear e126
  refine Ah C S131 hw 84 85 43 86 (Bk l Z a0 hw x5 h6 n0 f10 hx5) 0 [.int (Ad x5)] [] Bm ?_
  rintro T133 h134 v135 L136 S137 ⟨⟨rfl, e132⟩, -⟩
  rw [e132] at S137; clear e132
  refine Ba C S137 .ge 22 47 (fun (q138 : ¬ x5 < (0 : Int32)) => ?_) (fun (hq : x5 < (0 : Int32)) => False.elim (Bp hx5 hq))
  refine Ac C S137 [(47, .iinc 1 1, 3), (50, .goto (-41), 3), (9, .iload_n 1, 1), (10, .aload_n 0, 1)] 11 #[Ab x, Aa 6, .unset] [.ref x, .int 6] ?_
  refine Al C S137 hw 52 53 55 55 54 56 9 (Bb l Z a0 hw G1 G3 x _ _ _ _ h6 n0 f10 f20 f21 f22 f23 f24 O2 O4 P5 rG3) 1 f21 [] [.int 6] Av ?_
  rintro T140 h141 v142 L143 S144 ⟨⟨rfl, e139⟩, -⟩
  rw [e139] at S144; clear e139
  refine Ac C S144 [(14, .if_icmp .ge 39, 3), (17, .aload_n 0, 1), (18, .iload_n 1, 1)] 19 #[Ab x, Aa 6, .unset] [.int 6, .ref x] ?_
  refine Al C S144 hw 62 63 65 65 64 66 9 (Bu l Z a0 hw G1 G3 x _ _ _ _ 6 ((Ad x6).toInt8.toInt32) (Ad x6) h6 n0 f10 f20 f21 f22 f23 f24 O2 O4 P5 rG3 (⟨(by decide), (by decide)⟩) rfl (Ca hx6) (Aq hx6)) 0 f21 [.int 6] [] Bl ?_
  rintro T146 h147 v148 L149 S150 ⟨⟨rfl, e145⟩, -⟩
  rw [e145] at S150; clear e145
  refine Ah C S150 hw 84 85 43 86 (Bk l Z a0 hw x6 h6 n0 f10 hx6) 0 [.int (Ad x6)] [] Bm ?_
  rintro T152 h153 v154 L155 S156 ⟨⟨rfl, e151⟩, -⟩
  rw [e151] at S156; clear e151
  refine Ba C S156 .ge 22 47 (fun (q157 : ¬ x6 < (0 : Int32)) => ?_) (fun (hq : x6 < (0 : Int32)) => False.elim (Bp hx6 hq))
  refine Ac C S156 [(47, .iinc 1 1, 3), (50, .goto (-41), 3), (9, .iload_n 1, 1), (10, .aload_n 0, 1)] 11 #[Ab x, Aa 7, .unset] [.ref x, .int 7] ?_
  refine Al C S156 hw 52 53 55 55 54 56 9 (Bb l Z a0 hw G1 G3 x _ _ _ _ h6 n0 f10 f20 f21 f22 f23 f24 O2 O4 P5 rG3) 1 f21 [] [.int 7] Av ?_
  rintro T159 h160 v161 L162 S163 ⟨⟨rfl, e158⟩, -⟩
  rw [e158] at S163; clear e158
  refine Ac C S163 [(14, .if_icmp .ge 39, 3), (17, .aload_n 0, 1), (18, .iload_n 1, 1)] 19 #[Ab x, Aa 7, .unset] [.int 7, .ref x] ?_
  refine Al C S163 hw 62 63 65 65 64 66 9 (Bu l Z a0 hw G1 G3 x _ _ _ _ 7 ((Ad x7).toInt8.toInt32) (Ad x7) h6 n0 f10 f20 f21 f22 f23 f24 O2 O4 P5 rG3 (⟨(by decide), (by decide)⟩) rfl (Ca hx7) (Aq hx7)) 0 f21 [.int 7] [] Bl ?_
  rintro T165 h166 v167 L168 S169 ⟨⟨rfl, e164⟩, -⟩
  rw [e164] at S169; clear e164
  refine Ah C S169 hw 84 85 43 86 (Bk l Z a0 hw x7 h6 n0 f10 hx7) 0 [.int (Ad x7)] [] Bm ?_
  rintro T171 h172 v173 L174 S175 ⟨⟨rfl, e170⟩, -⟩
  rw [e170] at S175; clear e170
  refine Ba C S175 .ge 22 47 (fun (q176 : ¬ x7 < (0 : Int32)) => ?_) (fun (hq : x7 < (0 : Int32)) => False.elim (Bp hx7 hq))
  refine Ac C S175 [(47, .iinc 1 1, 3), (50, .goto (-41), 3), (9, .iload_n 1, 1), (10, .aload_n 0, 1)] 11 #[Ab x, Aa 8, .unset] [.ref x, .int 8] ?_
  refine Al C S175 hw 52 53 55 55 54 56 9 (Bb l Z a0 hw G1 G3 x _ _ _ _ h6 n0 f10 f20 f21 f22 f23 f24 O2 O4 P5 rG3) 1 f21 [] [.int 8] Av ?_
  rintro T178 h179 v180 L181 S182 ⟨⟨rfl, e177⟩, -⟩
  rw [e177] at S182; clear e177
  refine Ac C S182 [(14, .if_icmp .ge 39, 3), (53, .aload_n 0, 1)] 54 #[Ab x, Aa 8, .unset] [.ref x] ?_
  refine Al C S182 hw 52 53 55 55 54 56 9 (Bb l Z a0 hw G1 G3 x _ _ _ _ h6 n0 f10 f20 f21 f22 f23 f24 O2 O4 P5 rG3) 0 f21 [] [] Av ?_
  rintro T184 h185 v186 L187 S188 ⟨⟨rfl, e183⟩, -⟩
  rw [e183] at S188; clear e183
  refine Ac C S188 [(57, .iconst 1, 1), (58, .isub, 1), (59, .istore_n 1, 1), (60, .aload_n 0, 1)] 61 #[Ab x, Aa 7, .unset] [.ref x] ?_
  refine Al C S188 hw 52 53 55 55 54 56 9 (Bb l Z a0 hw G1 G3 x _ _ _ _ h6 n0 f10 f20 f21 f22 f23 f24 O2 O4 P5 rG3) 0 f21 [] [] Av ?_
  rintro T190 h191 v192 L193 S194 ⟨⟨rfl, e189⟩, -⟩
  rw [e189] at S194; clear e189
  refine Ac C S194 [(64, .iconst 4, 1)] 65 #[Ab x, Aa 7, .unset] [.int 4, .int 8] ?_
  refine Dk C S194 (by decide +kernel) (by decide) ?_
  refine own_tso C S194 (df := 53) (lo := 1) (hi := 3) (offs := #[26, 45, 49]) (len := 26) (by decide +kernel) (by decide) (by decide) 119 (by decide) ?_
  refine Ac C S194 [(119, .iconst 0, 1), (120, .istore_n 2, 1), (121, .iload_n 2, 1), (122, .ifCond .le 39, 3)] 161 #[Ab x, Aa 7, Aa 0] [] ?_
  refine Az C S194 (ow hw 87 rfl) Via.refl (OD.ext f20.2) (by decide +kernel) ?_
  intro T195 S196
  refine Ac C S196 [(164, .aload_n 0, 1)] 165 #[Ab x, Aa 7, Aa 0] [.ref x, .ref DE] ?_
  have f197 := (TK.ext E9)
  have f198 := (Exa.ext E9 DEx)
  have f199 := (Fld.ext E9 DEu)
  have f200 := (Fld.ext E9 DEm)
  have f201 := (Exa.ext E9 s4)
  refine Al C S196 hw 89 90 92 92 91 94 93 (own_ds8 l Z a0 hw G1 G3 U8 I8 TB TBk DE x _ _ x0 x1 x2 x3 x4 x5 x6 x7 h6 n0 f10 f20 f197 f198 f199 f200 f21 f22 f23 f24 f201 XS hx0 hx1 hx2 hx3 hx4 hx5 hx6 hx7) 0 f198 [.ref x] [] Cu ?_
  rintro T207 h208 v209 L210 S211 ⟨⟨a202, k203, rfl, g204, K205, f206⟩, -⟩
  have o212 : h6.size ≤ a202 := Nat.le_trans (Nat.le_refl _) g204
  have SW213 := rb19 _ _ _ _ [] [a202] S211 ((Keep.refl _ _).trans K205 all0) all0 (allS ⟨o212, f206.lt⟩ all0)
  refine Dg CW SW213 rfl rfl (by decide +kernel) (by decide) (by decide) ?_
  have o215 : h0.size ≤ h6.size := (Nat.le_trans (Nat.le_refl _) E9.1)
  have o214 : h0.size ≤ a202 := Nat.le_trans o215 g204
  exact ⟨a202, k203, rfl, o214, (((Keep.refl _ _).ext E9).trans K205 all0), f206⟩
theorem Cf (hw : Ao a0 Z) (vv : Int64) (i : Int32) (h0 : Heap) (n0 : Nat) (z0 : n0 ≤ h0.size) :
    Af l Z (⟨"com/example/torrey/torrey/Base64UrlDecodePinLaw", "ch", "(JI)C"⟩ : MethodName) method_4_code 4 (some .char) ({ frames := 0, cells := 0, slots := 0, locals := 0 } : Room) n0 #[(.long vv), (.int i)] h0 (fun v h => v = some (.int (Ad (Ae vv i))) ∧ h = h0) := by
  refine Ar #[.val (.long vv), .second, .val (.int i), .unset] ?_
  intro p e s m below meth c T0 C S0
  refine Ac C S0 [(0, .lload_n 0, 1), (1, .bipush 42, 2), (3, .bipush 6, 2), (5, .iload_n 2, 1), (6, .imul, 1), (7, .isub, 1), (8, .lshr, 1)] 9 #[.val (.long vv), .second, Aa i, .unset] [.long (vv >>> (((42 : Int32) - ((6 : Int32) * i)).toInt64 &&& 63))] ?_
  refine Bz C S0 (ow hw 14 rfl) (by decide +kernel) ?_
  refine Ac C S0 [(12, .land, 1), (13, .l2i, 1)] 14 #[.val (.long vv), .second, Aa i, .unset] [.int (((vv >>> (((42 : Int32) - ((6 : Int32) * i)).toInt64 &&& 63)) &&& 63).toInt32)] ?_
  rw [show ((vv >>> (((42 : Int32) - ((6 : Int32) * i)).toInt64 &&& 63)) &&& 63).toInt32 = (Ae vv i) from rfl]
  refine Ac C S0 [(14, .istore_n 3, 1), (15, .iload_n 3, 1), (16, .bipush 26, 2)] 18 #[.val (.long vv), .second, Aa i, Aa (Ae vv i)] [.int 26, .int (Ae vv i)] ?_
  refine Bj C S0 .ge 9 27 (fun (q1 : ¬ (Ae vv i) < (26 : Int32)) => ?_) (fun (q2 : (Ae vv i) < (26 : Int32)) => ?_)
  · refine Ac C S0 [(27, .iload_n 3, 1), (28, .bipush 52, 2)] 30 #[.val (.long vv), .second, Aa i, Aa (Ae vv i)] [.int 52, .int (Ae vv i)] ?_
    refine Bj C S0 .ge 12 42 (fun (q3 : ¬ (Ae vv i) < (52 : Int32)) => ?_) (fun (q4 : (Ae vv i) < (52 : Int32)) => ?_)
    · refine Ac C S0 [(42, .iload_n 3, 1), (43, .bipush 62, 2)] 45 #[.val (.long vv), .second, Aa i, Aa (Ae vv i)] [.int 62, .int (Ae vv i)] ?_
      refine Bj C S0 .ge 12 57 (fun (q5 : ¬ (Ae vv i) < (62 : Int32)) => ?_) (fun (q6 : (Ae vv i) < (62 : Int32)) => ?_)
      · refine Ac C S0 [(57, .iload_n 3, 1), (58, .bipush 62, 2)] 60 #[.val (.long vv), .second, Aa i, Aa (Ae vv i)] [.int 62, .int (Ae vv i)] ?_
        refine Bj C S0 .ne 6 66 (fun (q7 : ¬ (Ae vv i) = (62 : Int32)) => ?_) (fun (q8 : (Ae vv i) = (62 : Int32)) => ?_)
        · refine Ac C S0 [(66, .bipush 95, 2)] 68 #[.val (.long vv), .second, Aa i, Aa (Ae vv i)] [.int 95] ?_
          rw [show (95 : Int32) = (Ad (Ae vv i)) from own_c5 (Ai vv i) q5 q7]
          refine Do C S0 (by decide +kernel) (Aq (Ai vv i)) (by decide) (by decide) ?_
          exact ⟨rfl, rfl⟩
        · refine Ac C S0 [(63, .bipush 45, 2)] 65 #[.val (.long vv), .second, Aa i, Aa (Ae vv i)] [.int 45] ?_
          rw [show (45 : Int32) = (Ad (Ae vv i)) from own_c4 (Ai vv i) q8]
          refine Do C S0 (by decide +kernel) (Aq (Ai vv i)) (by decide) (by decide) ?_
          exact ⟨rfl, rfl⟩
      · refine Ac C S0 [(48, .bipush 48, 2), (50, .iload_n 3, 1), (51, .iadd, 1), (52, .bipush 52, 2), (54, .isub, 1), (55, .i2c, 1)] 56 #[.val (.long vv), .second, Aa i, Aa (Ae vv i)] [.int ((((48 : Int32) + (Ae vv i)) - (52 : Int32)).toUInt32.toUInt16.toUInt32.toInt32)] ?_
        rw [show (((48 : Int32) + (Ae vv i)) - (52 : Int32)).toUInt32.toUInt16.toUInt32.toInt32 = (Ad (Ae vv i)) from own_c3 (Ai vv i) q3 q6]
        refine Do C S0 (by decide +kernel) (Aq (Ai vv i)) (by decide) (by decide) ?_
        exact ⟨rfl, rfl⟩
    · refine Ac C S0 [(33, .bipush 97, 2), (35, .iload_n 3, 1), (36, .iadd, 1), (37, .bipush 26, 2), (39, .isub, 1), (40, .i2c, 1)] 41 #[.val (.long vv), .second, Aa i, Aa (Ae vv i)] [.int ((((97 : Int32) + (Ae vv i)) - (26 : Int32)).toUInt32.toUInt16.toUInt32.toInt32)] ?_
      rw [show (((97 : Int32) + (Ae vv i)) - (26 : Int32)).toUInt32.toUInt16.toUInt32.toInt32 = (Ad (Ae vv i)) from own_c2 (Ai vv i) q1 q4]
      refine Do C S0 (by decide +kernel) (Aq (Ai vv i)) (by decide) (by decide) ?_
      exact ⟨rfl, rfl⟩
  · refine Ac C S0 [(21, .bipush 65, 2), (23, .iload_n 3, 1), (24, .iadd, 1), (25, .i2c, 1)] 26 #[.val (.long vv), .second, Aa i, Aa (Ae vv i)] [.int (((65 : Int32) + (Ae vv i)).toUInt32.toUInt16.toUInt32.toInt32)] ?_
    rw [show ((65 : Int32) + (Ae vv i)).toUInt32.toUInt16.toUInt32.toInt32 = (Ad (Ae vv i)) from own_c1 (Ai vv i) q2]
    refine Do C S0 (by decide +kernel) (Aq (Ai vv i)) (by decide) (by decide) ?_
    exact ⟨rfl, rfl⟩
theorem Dx : parseMethodDescriptor "([C)V" = some ⟨[(.array .char)], none⟩ := by decide +kernel
theorem own_tx0 (hw : Ao a0 Z) (hEL : EW Z a0 Cm) (wS : ∀ a ∈ Bundle.stringAtoms, a.before a0 Z = true) (G1 : Int32) (G3 : Value) (U8 : Addr) (I8 : Addr) (TB : Addr) (DE : Addr) (vv : Int64) (h0 : Heap) (n0 : Nat) (z0 : n0 ≤ h0.size) (X00 : Old Z n0 h0) (XS : Bf Z n0 G1 G3 U8 I8 TB DE) :
    Cp l Z Cm (⟨"com/example/torrey/torrey/Base64UrlDecodePinLaw", "text", "(JI)Ljava/lang/String;"⟩ : MethodName) method_5_code 3 (some (.object "java/lang/String")) ({ frames := 3, cells := 6, slots := 12, locals := 43 } : Room) n0 #[(.long vv), (.int 0)] h0 [] (fun v h => ∃ r : Addr, ∃ rt : Addr, ∃ rtk : ClassId, v = some (.ref r) ∧ h0.size ≤ r ∧ Keep h0 h [] ∧ Exa Z h r "java/lang/String" ∧ Fld Z h r "java/lang/String" "value" "[B" (.ref rt) ∧ Fld Z h r "java/lang/String" "coder" "B" (.int 0) ∧ Arv Z h rt rtk .byte (0 : Int32) ([]) (.int 0) ∧ Exa Z h rt "[B") := by
  refine Da hEL wS (by decide +kernel) #[.val (.long vv), .second, .val (.int 0)] (fun m => by first | (simp [entryFrame, mkF, argsToLocals, Value.category]; done) | rfl) ?_
  intro p e s m below meth c T0 CW SW0
  have XS_ := XS
  obtain ⟨O2, O4, P5, rG3, OU, OI, OT, OD, hUI, TBlt, DElt⟩ := XS_
  refine Bv CW SW0 ?_
  intro vm1 C S2 rb3
  refine Ac C S2 [(0, .iload_n 2, 1), (1, .ifCond .ne 14, 3)] 4 #[.val (.long vv), .second, Aa 0] [] ?_
  refine Ec C S2 (ow hw 7 rfl) (ow hw 8 rfl) (ow hw 9 rfl) (by decide +kernel) (by decide) (by decide) ?_
  intro T4 h6 a7 S5 g8 E9 x10 D11
  have f12 : Fld Z h6 a7 "java/lang/String" "coder" "B" (.int 0) := D11 (ty := .byte) (Or.inr (ow hw 38 rfl)) Cv
  have f13 : Fld Z h6 a7 "java/lang/String" "value" "[B" .null := D11 (ty := (.array .byte)) (Or.inr (ow hw 40 rfl)) Cw
  refine Ac C S5 [(7, .dup, 1), (8, .iconst 0, 1)] 9 #[.val (.long vv), .second, Aa 0] [.int 0, .ref a7, .ref a7] ?_
  refine Dl C S5 (aty := .char) (ow hw 10 rfl) (by decide +kernel) (by decide) 0 (by decide) (by decide) (by decide) (by decide) ?_
  intro T14 h16 a17 k18 S15 g19 E20 f21 
  have f22 : Arv Z h16 a17 k18 .char (0 : Int32) ([]) (.int 0) := Arv.pad f21 (pad_rep [] (.int 0) 0)
  have o24 : h0.size ≤ h6.size := (Nat.le_trans (Nat.le_refl _) E9.1)
  have o23 : h0.size ≤ a17 := by rw [g19]; exact o24
  have o25 : h0.size ≤ a7 := by rw [g8]; exact (Nat.le_refl _)
  have f26 : a7 < h16.size := (Nat.lt_of_lt_of_le x10.lt E20.1)
  have SW27 := rb3 _ _ _ _ [] [a7, a17] S15 (((Keep.refl _ _).ext E9).ext E20) all0 (allS ⟨o25, f26⟩ (allS ⟨o23, f22.lt⟩ all0))
  have f28 := (Exa.ext E20 x10)
  have f29 := (Fld.ext E20 f13)
  have f30 := (Fld.ext E20 f12)
  have f31 : n0 ≤ h16.size := (Nat.le_trans (Nat.le_trans z0 E9.1) E20.1)
  have g32 : n0 ≤ a7 := by rw [g8]; exact z0
  refine own_callIW CW SW27 rfl (ow hw 15 rfl) (ow hw 16 rfl) (ow hw 9 rfl) (ow hw 17 rfl) (by decide) (own_se1 l Z a0 hw hEL wS a7 a17 _ _ (.int 0) h16 n0 f31 g32 f28 f29 f30 f22) (allS (Cn 0) all0) 1 (by decide) (by decide) [(.ref a17)] [(.ref a7)] rfl Dx rfl rfl rfl (Am rfl) (by decide) (by decide) (by decide +kernel) ?_
  rintro T46 h47 v48 SW49 hg50 ⟨a33, k34, rfl, K35, f36, f37, f38, f39, f40⟩
  refine Dg CW SW49 rfl rfl (by decide +kernel) (by decide) (by decide) ?_
  exact ⟨a7, a33, k34, rfl, o25, ((((Keep.refl _ _).ext E9).ext E20).trans K35 (allS (Or.inr o25) all0)), f36, f38, f37, f39, f40⟩
theorem Bs : parseMethodDescriptor "(JI)C" = some ⟨[.long, .int], (some .char)⟩ := by decide +kernel
theorem own_tx2 (hw : Ao a0 Z) (G1 : Int32) (G3 : Value) (U8 : Addr) (I8 : Addr) (TB : Addr) (DE : Addr) (vv : Int64) (h0 : Heap) (n0 : Nat) (z0 : n0 ≤ h0.size) (X00 : Old Z n0 h0) (XS : Bf Z n0 G1 G3 U8 I8 TB DE) :
    Af l Z (⟨"com/example/torrey/torrey/Base64UrlDecodePinLaw", "text", "(JI)Ljava/lang/String;"⟩ : MethodName) method_5_code 3 (some (.object "java/lang/String")) ({ frames := 4, cells := 3, slots := 8, locals := 66 } : Room) n0 #[(.long vv), (.int 2)] h0 (fun v h => ∃ r : Addr, ∃ rt : Addr, ∃ rtk : ClassId, v = some (.ref r) ∧ h0.size ≤ r ∧ Keep h0 h [] ∧ Exa Z h r "java/lang/String" ∧ Fld Z h r "java/lang/String" "value" "[B" (.ref rt) ∧ Fld Z h r "java/lang/String" "coder" "B" (.int 0) ∧ Arv Z h rt rtk .byte (2 : Int32) ([(.int ((Ad (Ae vv (0 : Int32))).toInt8.toInt32)), (.int ((Ad (Ae vv (1 : Int32))).toInt8.toInt32))]) (.int 0) ∧ Exa Z h rt "[B") := by
  refine Ar #[.val (.long vv), .second, .val (.int 2)] ?_
  intro p e s m below meth c T0 C S0
  have XS_ := XS
  obtain ⟨O2, O4, P5, rG3, OU, OI, OT, OD, hUI, TBlt, DElt⟩ := XS_
  refine Ac C S0 [(0, .iload_n 2, 1), (1, .ifCond .ne 14, 3), (15, .iload_n 2, 1), (16, .iconst 2, 1), (17, .if_icmp .ne 30, 3)] 20 #[.val (.long vv), .second, Aa 2] [] ?_
  refine Ec C S0 (ow hw 7 rfl) (ow hw 8 rfl) (ow hw 9 rfl) (by decide +kernel) (by decide) (by decide) ?_
  intro T1 h3 a4 S2 g5 E6 x7 D8
  have f9 : Fld Z h3 a4 "java/lang/String" "coder" "B" (.int 0) := D8 (ty := .byte) (Or.inr (ow hw 38 rfl)) Cv
  have f10 : Fld Z h3 a4 "java/lang/String" "value" "[B" .null := D8 (ty := (.array .byte)) (Or.inr (ow hw 40 rfl)) Cw
  refine Ac C S2 [(23, .dup, 1), (24, .iconst 2, 1)] 25 #[.val (.long vv), .second, Aa 2] [.int 2, .ref a4, .ref a4] ?_
  refine Dl C S2 (aty := .char) (ow hw 10 rfl) (by decide +kernel) (by decide) 2 (by decide) (by decide) (by decide) (by decide) ?_
  intro T11 h13 a14 k15 S12 g16 E17 f18 
  have f19 : Arv Z h13 a14 k15 .char (2 : Int32) ([(.int 0), (.int 0)]) (.int 0) := Arv.pad f18 (pad_rep [] (.int 0) 2)
  refine Ac C S12 [(27, .dup, 1), (28, .iconst 0, 1), (29, .lload_n 0, 1), (30, .iconst 0, 1)] 31 #[.val (.long vv), .second, Aa 2] [.int 0, .long vv, .int 0, .ref a14, .ref a14, .ref a4, .ref a4] ?_
  have f20 : n0 ≤ h13.size := (Nat.le_trans (Nat.le_trans z0 E6.1) E17.1)
  refine Ah C S12 hw 11 12 5 13 (Cf l Z a0 hw vv 0 h13 n0 f20) 5 [.long vv, .int 0] [.int 0, .ref a14, .ref a14, .ref a4, .ref a4] Bs ?_
  rintro T22 h23 v24 L25 S26 ⟨⟨rfl, e21⟩, -⟩
  rw [e21] at S26; clear e21
  have f27 : n0 ≤ h3.size := (Nat.le_trans z0 E6.1)
  have g28 : n0 ≤ a14 := by rw [g16]; exact f27
  refine Ax C S26 f19 ⟨(by decide), (by decide)⟩ 0 rfl (Am rfl) (Ad (Ae vv (0 : Int32))) (Aq (Ai _ _)) g28 (by decide +kernel) ?_
  intro T29 h31 S30 W32 f33
  have f34 : Arv Z h31 a14 k15 .char (2 : Int32) ([(.int (Ad (Ae vv (0 : Int32)))), (.int 0)]) (.int 0) := f33
  refine Ac C S30 [(35, .dup, 1), (36, .iconst 1, 1), (37, .lload_n 0, 1), (38, .iconst 1, 1)] 39 #[.val (.long vv), .second, Aa 2] [.int 1, .long vv, .int 1, .ref a14, .ref a14, .ref a4, .ref a4] ?_
  have f35 : n0 ≤ h31.size := (by rw [W32.size]; exact f20)
  refine Ah C S30 hw 11 12 5 13 (Cf l Z a0 hw vv 1 h31 n0 f35) 5 [.long vv, .int 1] [.int 1, .ref a14, .ref a14, .ref a4, .ref a4] Bs ?_
  rintro T37 h38 v39 L40 S41 ⟨⟨rfl, e36⟩, -⟩
  rw [e36] at S41; clear e36
  refine Ax C S41 f34 ⟨(by decide), (by decide)⟩ 1 rfl (Am rfl) (Ad (Ae vv (1 : Int32))) (Aq (Ai _ _)) g28 (by decide +kernel) ?_
  intro T42 h44 S43 W45 f46
  have f47 : Arv Z h44 a14 k15 .char (2 : Int32) ([(.int (Ad (Ae vv (0 : Int32)))), (.int (Ad (Ae vv (1 : Int32))))]) (.int 0) := f46
  have f48 := ((((X00.ext E6).ext E17).wr W32 g28).wr W45 g28)
  have f49 := (Exa.wr W45 (Exa.wr W32 (Exa.ext E17 x7)))
  have n50 : a4 ≠ a14 := by rw [g16]; exact Nat.ne_of_lt x7.lt
  have f51 := (Fld.other W45 (Fld.other W32 (Fld.ext E17 f10) (Or.inl n50)) (Or.inl n50))
  have f52 := (Fld.other W45 (Fld.other W32 (Fld.ext E17 f9) (Or.inl n50)) (Or.inl n50))
  have f53 : n0 ≤ h44.size := (by rw [W45.size]; exact f35)
  have g54 : n0 ≤ a4 := by rw [g5]; exact z0
  refine Cr C S43 rfl (ow hw 15 rfl) (ow hw 16 rfl) (ow hw 17 rfl) (by decide) (Af.pay (own_s1i2 l Z a0 hw G1 G3 U8 I8 TB DE a4 a14 _ _ _ h44 n0 f53 g54 f48 f49 f51 f52 f47 (Ne.symm n50) XS ((Bx (Ai _ _)).2) ((Bx (Ai _ _)).2)) C 1 (ow hw 17 rfl) (ow hw 9 rfl) (by decide) (by decide)) (fun _ _ _ q => q.2) [.ref a14] [.ref a4] rfl Dx rfl rfl rfl (Am rfl) (by decide) (by decide) (by decide +kernel) ?_
  rintro T64 h65 v66 L67 S68 ⟨⟨a55, k56, rfl, g57, K58, f59, f60, f61, f62, f63⟩, -⟩
  refine Br C S68 rfl rfl (by decide +kernel) (by decide) (by decide) ?_
  have o69 : h0.size ≤ a4 := by rw [g5]; exact (Nat.le_refl _)
  have o71 : h0.size ≤ h3.size := (Nat.le_trans (Nat.le_refl _) E6.1)
  have o70 : h0.size ≤ a14 := by rw [g16]; exact o71
  exact ⟨a4, a55, k56, rfl, o69, ((((((Keep.refl _ _).ext E6).ext E17).wr W32 (Or.inr o70)).wr W45 (Or.inr o70)).trans K58 (allS (Or.inr o69) all0)), f59, f60, f61, f62, f63⟩
theorem own_tx3 (hw : Ao a0 Z) (G1 : Int32) (G3 : Value) (U8 : Addr) (I8 : Addr) (TB : Addr) (DE : Addr) (vv : Int64) (h0 : Heap) (n0 : Nat) (z0 : n0 ≤ h0.size) (X00 : Old Z n0 h0) (XS : Bf Z n0 G1 G3 U8 I8 TB DE) :
    Af l Z (⟨"com/example/torrey/torrey/Base64UrlDecodePinLaw", "text", "(JI)Ljava/lang/String;"⟩ : MethodName) method_5_code 3 (some (.object "java/lang/String")) ({ frames := 4, cells := 3, slots := 10, locals := 66 } : Room) n0 #[(.long vv), (.int 3)] h0 (fun v h => ∃ r : Addr, ∃ rt : Addr, ∃ rtk : ClassId, v = some (.ref r) ∧ h0.size ≤ r ∧ Keep h0 h [] ∧ Exa Z h r "java/lang/String" ∧ Fld Z h r "java/lang/String" "value" "[B" (.ref rt) ∧ Fld Z h r "java/lang/String" "coder" "B" (.int 0) ∧ Arv Z h rt rtk .byte (3 : Int32) ([(.int ((Ad (Ae vv (0 : Int32))).toInt8.toInt32)), (.int ((Ad (Ae vv (1 : Int32))).toInt8.toInt32)), (.int ((Ad (Ae vv (2 : Int32))).toInt8.toInt32))]) (.int 0) ∧ Exa Z h rt "[B") := by
  refine Ar #[.val (.long vv), .second, .val (.int 3)] ?_
  intro p e s m below meth c T0 C S0
  have XS_ := XS
  obtain ⟨O2, O4, P5, rG3, OU, OI, OT, OD, hUI, TBlt, DElt⟩ := XS_
  refine Ac C S0 [(0, .iload_n 2, 1), (1, .ifCond .ne 14, 3), (15, .iload_n 2, 1), (16, .iconst 2, 1), (17, .if_icmp .ne 30, 3), (47, .iload_n 2, 1), (48, .iconst 3, 1), (49, .if_icmp .ne 38, 3)] 52 #[.val (.long vv), .second, Aa 3] [] ?_
  refine Ec C S0 (ow hw 7 rfl) (ow hw 8 rfl) (ow hw 9 rfl) (by decide +kernel) (by decide) (by decide) ?_
  intro T1 h3 a4 S2 g5 E6 x7 D8
  have f9 : Fld Z h3 a4 "java/lang/String" "coder" "B" (.int 0) := D8 (ty := .byte) (Or.inr (ow hw 38 rfl)) Cv
  have f10 : Fld Z h3 a4 "java/lang/String" "value" "[B" .null := D8 (ty := (.array .byte)) (Or.inr (ow hw 40 rfl)) Cw
  refine Ac C S2 [(55, .dup, 1), (56, .iconst 3, 1)] 57 #[.val (.long vv), .second, Aa 3] [.int 3, .ref a4, .ref a4] ?_
  refine Dl C S2 (aty := .char) (ow hw 10 rfl) (by decide +kernel) (by decide) 3 (by decide) (by decide) (by decide) (by decide) ?_
  intro T11 h13 a14 k15 S12 g16 E17 f18 
  have f19 : Arv Z h13 a14 k15 .char (3 : Int32) ([(.int 0), (.int 0), (.int 0)]) (.int 0) := Arv.pad f18 (pad_rep [] (.int 0) 3)
  refine Ac C S12 [(59, .dup, 1), (60, .iconst 0, 1), (61, .lload_n 0, 1), (62, .iconst 0, 1)] 63 #[.val (.long vv), .second, Aa 3] [.int 0, .long vv, .int 0, .ref a14, .ref a14, .ref a4, .ref a4] ?_
  have f20 : n0 ≤ h13.size := (Nat.le_trans (Nat.le_trans z0 E6.1) E17.1)
  refine Ah C S12 hw 11 12 5 13 (Cf l Z a0 hw vv 0 h13 n0 f20) 5 [.long vv, .int 0] [.int 0, .ref a14, .ref a14, .ref a4, .ref a4] Bs ?_
  rintro T22 h23 v24 L25 S26 ⟨⟨rfl, e21⟩, -⟩
  rw [e21] at S26; clear e21
  have f27 : n0 ≤ h3.size := (Nat.le_trans z0 E6.1)
  have g28 : n0 ≤ a14 := by rw [g16]; exact f27
  refine Ax C S26 f19 ⟨(by decide), (by decide)⟩ 0 rfl (Am rfl) (Ad (Ae vv (0 : Int32))) (Aq (Ai _ _)) g28 (by decide +kernel) ?_
  intro T29 h31 S30 W32 f33
  have f34 : Arv Z h31 a14 k15 .char (3 : Int32) ([(.int (Ad (Ae vv (0 : Int32)))), (.int 0), (.int 0)]) (.int 0) := f33
  refine Ac C S30 [(67, .dup, 1), (68, .iconst 1, 1), (69, .lload_n 0, 1), (70, .iconst 1, 1)] 71 #[.val (.long vv), .second, Aa 3] [.int 1, .long vv, .int 1, .ref a14, .ref a14, .ref a4, .ref a4] ?_
  have f35 : n0 ≤ h31.size := (by rw [W32.size]; exact f20)
  refine Ah C S30 hw 11 12 5 13 (Cf l Z a0 hw vv 1 h31 n0 f35) 5 [.long vv, .int 1] [.int 1, .ref a14, .ref a14, .ref a4, .ref a4] Bs ?_
  rintro T37 h38 v39 L40 S41 ⟨⟨rfl, e36⟩, -⟩
  rw [e36] at S41; clear e36
  refine Ax C S41 f34 ⟨(by decide), (by decide)⟩ 1 rfl (Am rfl) (Ad (Ae vv (1 : Int32))) (Aq (Ai _ _)) g28 (by decide +kernel) ?_
  intro T42 h44 S43 W45 f46
  have f47 : Arv Z h44 a14 k15 .char (3 : Int32) ([(.int (Ad (Ae vv (0 : Int32)))), (.int (Ad (Ae vv (1 : Int32)))), (.int 0)]) (.int 0) := f46
  refine Ac C S43 [(75, .dup, 1), (76, .iconst 2, 1), (77, .lload_n 0, 1), (78, .iconst 2, 1)] 79 #[.val (.long vv), .second, Aa 3] [.int 2, .long vv, .int 2, .ref a14, .ref a14, .ref a4, .ref a4] ?_
  have f48 : n0 ≤ h44.size := (by rw [W45.size]; exact f35)
  refine Ah C S43 hw 11 12 5 13 (Cf l Z a0 hw vv 2 h44 n0 f48) 5 [.long vv, .int 2] [.int 2, .ref a14, .ref a14, .ref a4, .ref a4] Bs ?_
  rintro T50 h51 v52 L53 S54 ⟨⟨rfl, e49⟩, -⟩
  rw [e49] at S54; clear e49
  refine Ax C S54 f47 ⟨(by decide), (by decide)⟩ 2 rfl (Am rfl) (Ad (Ae vv (2 : Int32))) (Aq (Ai _ _)) g28 (by decide +kernel) ?_
  intro T55 h57 S56 W58 f59
  have f60 : Arv Z h57 a14 k15 .char (3 : Int32) ([(.int (Ad (Ae vv (0 : Int32)))), (.int (Ad (Ae vv (1 : Int32)))), (.int (Ad (Ae vv (2 : Int32))))]) (.int 0) := f59
  have f61 := (((((X00.ext E6).ext E17).wr W32 g28).wr W45 g28).wr W58 g28)
  have f62 := (Exa.wr W58 (Exa.wr W45 (Exa.wr W32 (Exa.ext E17 x7))))
  have n63 : a4 ≠ a14 := by rw [g16]; exact Nat.ne_of_lt x7.lt
  have f64 := (Fld.other W58 (Fld.other W45 (Fld.other W32 (Fld.ext E17 f10) (Or.inl n63)) (Or.inl n63)) (Or.inl n63))
  have f65 := (Fld.other W58 (Fld.other W45 (Fld.other W32 (Fld.ext E17 f9) (Or.inl n63)) (Or.inl n63)) (Or.inl n63))
  have f66 : n0 ≤ h57.size := (by rw [W58.size]; exact f48)
  have g67 : n0 ≤ a4 := by rw [g5]; exact z0
  refine Cr C S56 rfl (ow hw 15 rfl) (ow hw 16 rfl) (ow hw 17 rfl) (by decide) (Af.pay (own_s1i3 l Z a0 hw G1 G3 U8 I8 TB DE a4 a14 _ _ _ _ h57 n0 f66 g67 f61 f62 f64 f65 f60 (Ne.symm n63) XS ((Bx (Ai _ _)).2) ((Bx (Ai _ _)).2) ((Bx (Ai _ _)).2)) C 1 (ow hw 17 rfl) (ow hw 9 rfl) (by decide) (by decide)) (fun _ _ _ q => q.2) [.ref a14] [.ref a4] rfl Dx rfl rfl rfl (Am rfl) (by decide) (by decide) (by decide +kernel) ?_
  rintro T77 h78 v79 L80 S81 ⟨⟨a68, k69, rfl, g70, K71, f72, f73, f74, f75, f76⟩, -⟩
  refine Br C S81 rfl rfl (by decide +kernel) (by decide) (by decide) ?_
  have o82 : h0.size ≤ a4 := by rw [g5]; exact (Nat.le_refl _)
  have o84 : h0.size ≤ h3.size := (Nat.le_trans (Nat.le_refl _) E6.1)
  have o83 : h0.size ≤ a14 := by rw [g16]; exact o84
  exact ⟨a4, a68, k69, rfl, o82, (((((((Keep.refl _ _).ext E6).ext E17).wr W32 (Or.inr o83)).wr W45 (Or.inr o83)).wr W58 (Or.inr o83)).trans K71 (allS (Or.inr o82) all0)), f72, f73, f74, f75, f76⟩
theorem own_tx4 (hw : Ao a0 Z) (G1 : Int32) (G3 : Value) (U8 : Addr) (I8 : Addr) (TB : Addr) (DE : Addr) (vv : Int64) (h0 : Heap) (n0 : Nat) (z0 : n0 ≤ h0.size) (X00 : Old Z n0 h0) (XS : Bf Z n0 G1 G3 U8 I8 TB DE) :
    Af l Z (⟨"com/example/torrey/torrey/Base64UrlDecodePinLaw", "text", "(JI)Ljava/lang/String;"⟩ : MethodName) method_5_code 3 (some (.object "java/lang/String")) ({ frames := 4, cells := 3, slots := 12, locals := 66 } : Room) n0 #[(.long vv), (.int 4)] h0 (fun v h => ∃ r : Addr, ∃ rt : Addr, ∃ rtk : ClassId, v = some (.ref r) ∧ h0.size ≤ r ∧ Keep h0 h [] ∧ Exa Z h r "java/lang/String" ∧ Fld Z h r "java/lang/String" "value" "[B" (.ref rt) ∧ Fld Z h r "java/lang/String" "coder" "B" (.int 0) ∧ Arv Z h rt rtk .byte (4 : Int32) ([(.int ((Ad (Ae vv (0 : Int32))).toInt8.toInt32)), (.int ((Ad (Ae vv (1 : Int32))).toInt8.toInt32)), (.int ((Ad (Ae vv (2 : Int32))).toInt8.toInt32)), (.int ((Ad (Ae vv (3 : Int32))).toInt8.toInt32))]) (.int 0) ∧ Exa Z h rt "[B") := by
  refine Ar #[.val (.long vv), .second, .val (.int 4)] ?_
  intro p e s m below meth c T0 C S0
  have XS_ := XS
  obtain ⟨O2, O4, P5, rG3, OU, OI, OT, OD, hUI, TBlt, DElt⟩ := XS_
  refine Ac C S0 [(0, .iload_n 2, 1), (1, .ifCond .ne 14, 3), (15, .iload_n 2, 1), (16, .iconst 2, 1), (17, .if_icmp .ne 30, 3), (47, .iload_n 2, 1), (48, .iconst 3, 1), (49, .if_icmp .ne 38, 3), (87, .iload_n 2, 1), (88, .iconst 4, 1), (89, .if_icmp .ne 46, 3)] 92 #[.val (.long vv), .second, Aa 4] [] ?_
  refine Ec C S0 (ow hw 7 rfl) (ow hw 8 rfl) (ow hw 9 rfl) (by decide +kernel) (by decide) (by decide) ?_
  intro T1 h3 a4 S2 g5 E6 x7 D8
  have f9 : Fld Z h3 a4 "java/lang/String" "coder" "B" (.int 0) := D8 (ty := .byte) (Or.inr (ow hw 38 rfl)) Cv
  have f10 : Fld Z h3 a4 "java/lang/String" "value" "[B" .null := D8 (ty := (.array .byte)) (Or.inr (ow hw 40 rfl)) Cw
  refine Ac C S2 [(95, .dup, 1), (96, .iconst 4, 1)] 97 #[.val (.long vv), .second, Aa 4] [.int 4, .ref a4, .ref a4] ?_
  refine Dl C S2 (aty := .char) (ow hw 10 rfl) (by decide +kernel) (by decide) 4 (by decide) (by decide) (by decide) (by decide) ?_
  intro T11 h13 a14 k15 S12 g16 E17 f18 
  have f19 : Arv Z h13 a14 k15 .char (4 : Int32) ([(.int 0), (.int 0), (.int 0), (.int 0)]) (.int 0) := Arv.pad f18 (pad_rep [] (.int 0) 4)
  refine Ac C S12 [(99, .dup, 1), (100, .iconst 0, 1), (101, .lload_n 0, 1), (102, .iconst 0, 1)] 103 #[.val (.long vv), .second, Aa 4] [.int 0, .long vv, .int 0, .ref a14, .ref a14, .ref a4, .ref a4] ?_
  have f20 : n0 ≤ h13.size := (Nat.le_trans (Nat.le_trans z0 E6.1) E17.1)
  refine Ah C S12 hw 11 12 5 13 (Cf l Z a0 hw vv 0 h13 n0 f20) 5 [.long vv, .int 0] [.int 0, .ref a14, .ref a14, .ref a4, .ref a4] Bs ?_
  rintro T22 h23 v24 L25 S26 ⟨⟨rfl, e21⟩, -⟩
  rw [e21] at S26; clear e21
  have f27 : n0 ≤ h3.size := (Nat.le_trans z0 E6.1)
  have g28 : n0 ≤ a14 := by rw [g16]; exact f27
  refine Ax C S26 f19 ⟨(by decide), (by decide)⟩ 0 rfl (Am rfl) (Ad (Ae vv (0 : Int32))) (Aq (Ai _ _)) g28 (by decide +kernel) ?_
  intro T29 h31 S30 W32 f33
  have f34 : Arv Z h31 a14 k15 .char (4 : Int32) ([(.int (Ad (Ae vv (0 : Int32)))), (.int 0), (.int 0), (.int 0)]) (.int 0) := f33
  refine Ac C S30 [(107, .dup, 1), (108, .iconst 1, 1), (109, .lload_n 0, 1), (110, .iconst 1, 1)] 111 #[.val (.long vv), .second, Aa 4] [.int 1, .long vv, .int 1, .ref a14, .ref a14, .ref a4, .ref a4] ?_
  have f35 : n0 ≤ h31.size := (by rw [W32.size]; exact f20)
  refine Ah C S30 hw 11 12 5 13 (Cf l Z a0 hw vv 1 h31 n0 f35) 5 [.long vv, .int 1] [.int 1, .ref a14, .ref a14, .ref a4, .ref a4] Bs ?_
  rintro T37 h38 v39 L40 S41 ⟨⟨rfl, e36⟩, -⟩
  rw [e36] at S41; clear e36
  refine Ax C S41 f34 ⟨(by decide), (by decide)⟩ 1 rfl (Am rfl) (Ad (Ae vv (1 : Int32))) (Aq (Ai _ _)) g28 (by decide +kernel) ?_
  intro T42 h44 S43 W45 f46
  have f47 : Arv Z h44 a14 k15 .char (4 : Int32) ([(.int (Ad (Ae vv (0 : Int32)))), (.int (Ad (Ae vv (1 : Int32)))), (.int 0), (.int 0)]) (.int 0) := f46
  refine Ac C S43 [(115, .dup, 1), (116, .iconst 2, 1), (117, .lload_n 0, 1), (118, .iconst 2, 1)] 119 #[.val (.long vv), .second, Aa 4] [.int 2, .long vv, .int 2, .ref a14, .ref a14, .ref a4, .ref a4] ?_
  have f48 : n0 ≤ h44.size := (by rw [W45.size]; exact f35)
  refine Ah C S43 hw 11 12 5 13 (Cf l Z a0 hw vv 2 h44 n0 f48) 5 [.long vv, .int 2] [.int 2, .ref a14, .ref a14, .ref a4, .ref a4] Bs ?_
  rintro T50 h51 v52 L53 S54 ⟨⟨rfl, e49⟩, -⟩
  rw [e49] at S54; clear e49
  refine Ax C S54 f47 ⟨(by decide), (by decide)⟩ 2 rfl (Am rfl) (Ad (Ae vv (2 : Int32))) (Aq (Ai _ _)) g28 (by decide +kernel) ?_
  intro T55 h57 S56 W58 f59
  have f60 : Arv Z h57 a14 k15 .char (4 : Int32) ([(.int (Ad (Ae vv (0 : Int32)))), (.int (Ad (Ae vv (1 : Int32)))), (.int (Ad (Ae vv (2 : Int32)))), (.int 0)]) (.int 0) := f59
  refine Ac C S56 [(123, .dup, 1), (124, .iconst 3, 1), (125, .lload_n 0, 1), (126, .iconst 3, 1)] 127 #[.val (.long vv), .second, Aa 4] [.int 3, .long vv, .int 3, .ref a14, .ref a14, .ref a4, .ref a4] ?_
  have f61 : n0 ≤ h57.size := (by rw [W58.size]; exact f48)
  refine Ah C S56 hw 11 12 5 13 (Cf l Z a0 hw vv 3 h57 n0 f61) 5 [.long vv, .int 3] [.int 3, .ref a14, .ref a14, .ref a4, .ref a4] Bs ?_
  rintro T63 h64 v65 L66 S67 ⟨⟨rfl, e62⟩, -⟩
  rw [e62] at S67; clear e62
  refine Ax C S67 f60 ⟨(by decide), (by decide)⟩ 3 rfl (Am rfl) (Ad (Ae vv (3 : Int32))) (Aq (Ai _ _)) g28 (by decide +kernel) ?_
  intro T68 h70 S69 W71 f72
  have f73 : Arv Z h70 a14 k15 .char (4 : Int32) ([(.int (Ad (Ae vv (0 : Int32)))), (.int (Ad (Ae vv (1 : Int32)))), (.int (Ad (Ae vv (2 : Int32)))), (.int (Ad (Ae vv (3 : Int32))))]) (.int 0) := f72
  have f74 := ((((((X00.ext E6).ext E17).wr W32 g28).wr W45 g28).wr W58 g28).wr W71 g28)
  have f75 := (Exa.wr W71 (Exa.wr W58 (Exa.wr W45 (Exa.wr W32 (Exa.ext E17 x7)))))
  have n76 : a4 ≠ a14 := by rw [g16]; exact Nat.ne_of_lt x7.lt
  have f77 := (Fld.other W71 (Fld.other W58 (Fld.other W45 (Fld.other W32 (Fld.ext E17 f10) (Or.inl n76)) (Or.inl n76)) (Or.inl n76)) (Or.inl n76))
  have f78 := (Fld.other W71 (Fld.other W58 (Fld.other W45 (Fld.other W32 (Fld.ext E17 f9) (Or.inl n76)) (Or.inl n76)) (Or.inl n76)) (Or.inl n76))
  have f79 : n0 ≤ h70.size := (by rw [W71.size]; exact f61)
  have g80 : n0 ≤ a4 := by rw [g5]; exact z0
  refine Cr C S69 rfl (ow hw 15 rfl) (ow hw 16 rfl) (ow hw 17 rfl) (by decide) (Af.pay (own_s1i4 l Z a0 hw G1 G3 U8 I8 TB DE a4 a14 _ _ _ _ _ h70 n0 f79 g80 f74 f75 f77 f78 f73 (Ne.symm n76) XS ((Bx (Ai _ _)).2) ((Bx (Ai _ _)).2) ((Bx (Ai _ _)).2) ((Bx (Ai _ _)).2)) C 1 (ow hw 17 rfl) (ow hw 9 rfl) (by decide) (by decide)) (fun _ _ _ q => q.2) [.ref a14] [.ref a4] rfl Dx rfl rfl rfl (Am rfl) (by decide) (by decide) (by decide +kernel) ?_
  rintro T90 h91 v92 L93 S94 ⟨⟨a81, k82, rfl, g83, K84, f85, f86, f87, f88, f89⟩, -⟩
  refine Br C S94 rfl rfl (by decide +kernel) (by decide) (by decide) ?_
  have o95 : h0.size ≤ a4 := by rw [g5]; exact (Nat.le_refl _)
  have o97 : h0.size ≤ h3.size := (Nat.le_trans (Nat.le_refl _) E6.1)
  have o96 : h0.size ≤ a14 := by rw [g16]; exact o97
  exact ⟨a4, a81, k82, rfl, o95, ((((((((Keep.refl _ _).ext E6).ext E17).wr W32 (Or.inr o96)).wr W45 (Or.inr o96)).wr W58 (Or.inr o96)).wr W71 (Or.inr o96)).trans K84 (allS (Or.inr o95) all0)), f85, f86, f87, f88, f89⟩
theorem own_tx6 (hw : Ao a0 Z) (G1 : Int32) (G3 : Value) (U8 : Addr) (I8 : Addr) (TB : Addr) (DE : Addr) (vv : Int64) (h0 : Heap) (n0 : Nat) (z0 : n0 ≤ h0.size) (X00 : Old Z n0 h0) (XS : Bf Z n0 G1 G3 U8 I8 TB DE) :
    Af l Z (⟨"com/example/torrey/torrey/Base64UrlDecodePinLaw", "text", "(JI)Ljava/lang/String;"⟩ : MethodName) method_5_code 3 (some (.object "java/lang/String")) ({ frames := 4, cells := 3, slots := 16, locals := 66 } : Room) n0 #[(.long vv), (.int 6)] h0 (fun v h => ∃ r : Addr, ∃ rt : Addr, ∃ rtk : ClassId, v = some (.ref r) ∧ h0.size ≤ r ∧ Keep h0 h [] ∧ Exa Z h r "java/lang/String" ∧ Fld Z h r "java/lang/String" "value" "[B" (.ref rt) ∧ Fld Z h r "java/lang/String" "coder" "B" (.int 0) ∧ Arv Z h rt rtk .byte (6 : Int32) ([(.int ((Ad (Ae vv (0 : Int32))).toInt8.toInt32)), (.int ((Ad (Ae vv (1 : Int32))).toInt8.toInt32)), (.int ((Ad (Ae vv (2 : Int32))).toInt8.toInt32)), (.int ((Ad (Ae vv (3 : Int32))).toInt8.toInt32)), (.int ((Ad (Ae vv (4 : Int32))).toInt8.toInt32)), (.int ((Ad (Ae vv (5 : Int32))).toInt8.toInt32))]) (.int 0) ∧ Exa Z h rt "[B") := by
  refine Ar #[.val (.long vv), .second, .val (.int 6)] ?_
  intro p e s m below meth c T0 C S0
  have XS_ := XS
  obtain ⟨O2, O4, P5, rG3, OU, OI, OT, OD, hUI, TBlt, DElt⟩ := XS_
  refine Ac C S0 [(0, .iload_n 2, 1), (1, .ifCond .ne 14, 3), (15, .iload_n 2, 1), (16, .iconst 2, 1), (17, .if_icmp .ne 30, 3), (47, .iload_n 2, 1), (48, .iconst 3, 1), (49, .if_icmp .ne 38, 3), (87, .iload_n 2, 1), (88, .iconst 4, 1), (89, .if_icmp .ne 46, 3), (135, .iload_n 2, 1), (136, .bipush 6, 2), (138, .if_icmp .ne 63, 3)] 141 #[.val (.long vv), .second, Aa 6] [] ?_
  refine Ec C S0 (ow hw 7 rfl) (ow hw 8 rfl) (ow hw 9 rfl) (by decide +kernel) (by decide) (by decide) ?_
  intro T1 h3 a4 S2 g5 E6 x7 D8
  have f9 : Fld Z h3 a4 "java/lang/String" "coder" "B" (.int 0) := D8 (ty := .byte) (Or.inr (ow hw 38 rfl)) Cv
  have f10 : Fld Z h3 a4 "java/lang/String" "value" "[B" .null := D8 (ty := (.array .byte)) (Or.inr (ow hw 40 rfl)) Cw
  refine Ac C S2 [(144, .dup, 1), (145, .bipush 6, 2)] 147 #[.val (.long vv), .second, Aa 6] [.int 6, .ref a4, .ref a4] ?_
  refine Dl C S2 (aty := .char) (ow hw 10 rfl) (by decide +kernel) (by decide) 6 (by decide) (by decide) (by decide) (by decide) ?_
  intro T11 h13 a14 k15 S12 g16 E17 f18 
  have f19 : Arv Z h13 a14 k15 .char (6 : Int32) ([(.int 0), (.int 0), (.int 0), (.int 0), (.int 0), (.int 0)]) (.int 0) := Arv.pad f18 (pad_rep [] (.int 0) 6)
  refine Ac C S12 [(149, .dup, 1), (150, .iconst 0, 1), (151, .lload_n 0, 1), (152, .iconst 0, 1)] 153 #[.val (.long vv), .second, Aa 6] [.int 0, .long vv, .int 0, .ref a14, .ref a14, .ref a4, .ref a4] ?_
  have f20 : n0 ≤ h13.size := (Nat.le_trans (Nat.le_trans z0 E6.1) E17.1)
  refine Ah C S12 hw 11 12 5 13 (Cf l Z a0 hw vv 0 h13 n0 f20) 5 [.long vv, .int 0] [.int 0, .ref a14, .ref a14, .ref a4, .ref a4] Bs ?_
  rintro T22 h23 v24 L25 S26 ⟨⟨rfl, e21⟩, -⟩
  rw [e21] at S26; clear e21
  have f27 : n0 ≤ h3.size := (Nat.le_trans z0 E6.1)
  have g28 : n0 ≤ a14 := by rw [g16]; exact f27
  refine Ax C S26 f19 ⟨(by decide), (by decide)⟩ 0 rfl (Am rfl) (Ad (Ae vv (0 : Int32))) (Aq (Ai _ _)) g28 (by decide +kernel) ?_
  intro T29 h31 S30 W32 f33
  have f34 : Arv Z h31 a14 k15 .char (6 : Int32) ([(.int (Ad (Ae vv (0 : Int32)))), (.int 0), (.int 0), (.int 0), (.int 0), (.int 0)]) (.int 0) := f33
  refine Ac C S30 [(157, .dup, 1), (158, .iconst 1, 1), (159, .lload_n 0, 1), (160, .iconst 1, 1)] 161 #[.val (.long vv), .second, Aa 6] [.int 1, .long vv, .int 1, .ref a14, .ref a14, .ref a4, .ref a4] ?_
  have f35 : n0 ≤ h31.size := (by rw [W32.size]; exact f20)
  refine Ah C S30 hw 11 12 5 13 (Cf l Z a0 hw vv 1 h31 n0 f35) 5 [.long vv, .int 1] [.int 1, .ref a14, .ref a14, .ref a4, .ref a4] Bs ?_
  rintro T37 h38 v39 L40 S41 ⟨⟨rfl, e36⟩, -⟩
  rw [e36] at S41; clear e36
  refine Ax C S41 f34 ⟨(by decide), (by decide)⟩ 1 rfl (Am rfl) (Ad (Ae vv (1 : Int32))) (Aq (Ai _ _)) g28 (by decide +kernel) ?_
  intro T42 h44 S43 W45 f46
  have f47 : Arv Z h44 a14 k15 .char (6 : Int32) ([(.int (Ad (Ae vv (0 : Int32)))), (.int (Ad (Ae vv (1 : Int32)))), (.int 0), (.int 0), (.int 0), (.int 0)]) (.int 0) := f46
  refine Ac C S43 [(165, .dup, 1), (166, .iconst 2, 1), (167, .lload_n 0, 1), (168, .iconst 2, 1)] 169 #[.val (.long vv), .second, Aa 6] [.int 2, .long vv, .int 2, .ref a14, .ref a14, .ref a4, .ref a4] ?_
  have f48 : n0 ≤ h44.size := (by rw [W45.size]; exact f35)
  refine Ah C S43 hw 11 12 5 13 (Cf l Z a0 hw vv 2 h44 n0 f48) 5 [.long vv, .int 2] [.int 2, .ref a14, .ref a14, .ref a4, .ref a4] Bs ?_
  rintro T50 h51 v52 L53 S54 ⟨⟨rfl, e49⟩, -⟩
  rw [e49] at S54; clear e49
  refine Ax C S54 f47 ⟨(by decide), (by decide)⟩ 2 rfl (Am rfl) (Ad (Ae vv (2 : Int32))) (Aq (Ai _ _)) g28 (by decide +kernel) ?_
  intro T55 h57 S56 W58 f59
  have f60 : Arv Z h57 a14 k15 .char (6 : Int32) ([(.int (Ad (Ae vv (0 : Int32)))), (.int (Ad (Ae vv (1 : Int32)))), (.int (Ad (Ae vv (2 : Int32)))), (.int 0), (.int 0), (.int 0)]) (.int 0) := f59
  refine Ac C S56 [(173, .dup, 1), (174, .iconst 3, 1), (175, .lload_n 0, 1), (176, .iconst 3, 1)] 177 #[.val (.long vv), .second, Aa 6] [.int 3, .long vv, .int 3, .ref a14, .ref a14, .ref a4, .ref a4] ?_
  have f61 : n0 ≤ h57.size := (by rw [W58.size]; exact f48)
  refine Ah C S56 hw 11 12 5 13 (Cf l Z a0 hw vv 3 h57 n0 f61) 5 [.long vv, .int 3] [.int 3, .ref a14, .ref a14, .ref a4, .ref a4] Bs ?_
  rintro T63 h64 v65 L66 S67 ⟨⟨rfl, e62⟩, -⟩
  rw [e62] at S67; clear e62
  refine Ax C S67 f60 ⟨(by decide), (by decide)⟩ 3 rfl (Am rfl) (Ad (Ae vv (3 : Int32))) (Aq (Ai _ _)) g28 (by decide +kernel) ?_
  intro T68 h70 S69 W71 f72
  have f73 : Arv Z h70 a14 k15 .char (6 : Int32) ([(.int (Ad (Ae vv (0 : Int32)))), (.int (Ad (Ae vv (1 : Int32)))), (.int (Ad (Ae vv (2 : Int32)))), (.int (Ad (Ae vv (3 : Int32)))), (.int 0), (.int 0)]) (.int 0) := f72
  refine Ac C S69 [(181, .dup, 1), (182, .iconst 4, 1), (183, .lload_n 0, 1), (184, .iconst 4, 1)] 185 #[.val (.long vv), .second, Aa 6] [.int 4, .long vv, .int 4, .ref a14, .ref a14, .ref a4, .ref a4] ?_
  have f74 : n0 ≤ h70.size := (by rw [W71.size]; exact f61)
  refine Ah C S69 hw 11 12 5 13 (Cf l Z a0 hw vv 4 h70 n0 f74) 5 [.long vv, .int 4] [.int 4, .ref a14, .ref a14, .ref a4, .ref a4] Bs ?_
  rintro T76 h77 v78 L79 S80 ⟨⟨rfl, e75⟩, -⟩
  rw [e75] at S80; clear e75
  refine Ax C S80 f73 ⟨(by decide), (by decide)⟩ 4 rfl (Am rfl) (Ad (Ae vv (4 : Int32))) (Aq (Ai _ _)) g28 (by decide +kernel) ?_
  intro T81 h83 S82 W84 f85
  have f86 : Arv Z h83 a14 k15 .char (6 : Int32) ([(.int (Ad (Ae vv (0 : Int32)))), (.int (Ad (Ae vv (1 : Int32)))), (.int (Ad (Ae vv (2 : Int32)))), (.int (Ad (Ae vv (3 : Int32)))), (.int (Ad (Ae vv (4 : Int32)))), (.int 0)]) (.int 0) := f85
  refine Ac C S82 [(189, .dup, 1), (190, .iconst 5, 1), (191, .lload_n 0, 1), (192, .iconst 5, 1)] 193 #[.val (.long vv), .second, Aa 6] [.int 5, .long vv, .int 5, .ref a14, .ref a14, .ref a4, .ref a4] ?_
  have f87 : n0 ≤ h83.size := (by rw [W84.size]; exact f74)
  refine Ah C S82 hw 11 12 5 13 (Cf l Z a0 hw vv 5 h83 n0 f87) 5 [.long vv, .int 5] [.int 5, .ref a14, .ref a14, .ref a4, .ref a4] Bs ?_
  rintro T89 h90 v91 L92 S93 ⟨⟨rfl, e88⟩, -⟩
  rw [e88] at S93; clear e88
  refine Ax C S93 f86 ⟨(by decide), (by decide)⟩ 5 rfl (Am rfl) (Ad (Ae vv (5 : Int32))) (Aq (Ai _ _)) g28 (by decide +kernel) ?_
  intro T94 h96 S95 W97 f98
  have f99 : Arv Z h96 a14 k15 .char (6 : Int32) ([(.int (Ad (Ae vv (0 : Int32)))), (.int (Ad (Ae vv (1 : Int32)))), (.int (Ad (Ae vv (2 : Int32)))), (.int (Ad (Ae vv (3 : Int32)))), (.int (Ad (Ae vv (4 : Int32)))), (.int (Ad (Ae vv (5 : Int32))))]) (.int 0) := f98
  have f100 := ((((((((X00.ext E6).ext E17).wr W32 g28).wr W45 g28).wr W58 g28).wr W71 g28).wr W84 g28).wr W97 g28)
  have f101 := (Exa.wr W97 (Exa.wr W84 (Exa.wr W71 (Exa.wr W58 (Exa.wr W45 (Exa.wr W32 (Exa.ext E17 x7)))))))
  have n102 : a4 ≠ a14 := by rw [g16]; exact Nat.ne_of_lt x7.lt
  have f103 := (Fld.other W97 (Fld.other W84 (Fld.other W71 (Fld.other W58 (Fld.other W45 (Fld.other W32 (Fld.ext E17 f10) (Or.inl n102)) (Or.inl n102)) (Or.inl n102)) (Or.inl n102)) (Or.inl n102)) (Or.inl n102))
  have f104 := (Fld.other W97 (Fld.other W84 (Fld.other W71 (Fld.other W58 (Fld.other W45 (Fld.other W32 (Fld.ext E17 f9) (Or.inl n102)) (Or.inl n102)) (Or.inl n102)) (Or.inl n102)) (Or.inl n102)) (Or.inl n102))
  have f105 : n0 ≤ h96.size := (by rw [W97.size]; exact f87)
  have g106 : n0 ≤ a4 := by rw [g5]; exact z0
  refine Cr C S95 rfl (ow hw 15 rfl) (ow hw 16 rfl) (ow hw 17 rfl) (by decide) (Af.pay (own_s1i6 l Z a0 hw G1 G3 U8 I8 TB DE a4 a14 _ _ _ _ _ _ _ h96 n0 f105 g106 f100 f101 f103 f104 f99 (Ne.symm n102) XS ((Bx (Ai _ _)).2) ((Bx (Ai _ _)).2) ((Bx (Ai _ _)).2) ((Bx (Ai _ _)).2) ((Bx (Ai _ _)).2) ((Bx (Ai _ _)).2)) C 1 (ow hw 17 rfl) (ow hw 9 rfl) (by decide) (by decide)) (fun _ _ _ q => q.2) [.ref a14] [.ref a4] rfl Dx rfl rfl rfl (Am rfl) (by decide) (by decide) (by decide +kernel) ?_
  rintro T116 h117 v118 L119 S120 ⟨⟨a107, k108, rfl, g109, K110, f111, f112, f113, f114, f115⟩, -⟩
  refine Br C S120 rfl rfl (by decide +kernel) (by decide) (by decide) ?_
  have o121 : h0.size ≤ a4 := by rw [g5]; exact (Nat.le_refl _)
  have o123 : h0.size ≤ h3.size := (Nat.le_trans (Nat.le_refl _) E6.1)
  have o122 : h0.size ≤ a14 := by rw [g16]; exact o123
  exact ⟨a4, a107, k108, rfl, o121, ((((((((((Keep.refl _ _).ext E6).ext E17).wr W32 (Or.inr o122)).wr W45 (Or.inr o122)).wr W58 (Or.inr o122)).wr W71 (Or.inr o122)).wr W84 (Or.inr o122)).wr W97 (Or.inr o122)).trans K110 (allS (Or.inr o121) all0)), f111, f112, f113, f114, f115⟩
theorem own_tx7 (hw : Ao a0 Z) (G1 : Int32) (G3 : Value) (U8 : Addr) (I8 : Addr) (TB : Addr) (DE : Addr) (vv : Int64) (h0 : Heap) (n0 : Nat) (z0 : n0 ≤ h0.size) (X00 : Old Z n0 h0) (XS : Bf Z n0 G1 G3 U8 I8 TB DE) :
    Af l Z (⟨"com/example/torrey/torrey/Base64UrlDecodePinLaw", "text", "(JI)Ljava/lang/String;"⟩ : MethodName) method_5_code 3 (some (.object "java/lang/String")) ({ frames := 4, cells := 3, slots := 18, locals := 66 } : Room) n0 #[(.long vv), (.int 7)] h0 (fun v h => ∃ r : Addr, ∃ rt : Addr, ∃ rtk : ClassId, v = some (.ref r) ∧ h0.size ≤ r ∧ Keep h0 h [] ∧ Exa Z h r "java/lang/String" ∧ Fld Z h r "java/lang/String" "value" "[B" (.ref rt) ∧ Fld Z h r "java/lang/String" "coder" "B" (.int 0) ∧ Arv Z h rt rtk .byte (7 : Int32) ([(.int ((Ad (Ae vv (0 : Int32))).toInt8.toInt32)), (.int ((Ad (Ae vv (1 : Int32))).toInt8.toInt32)), (.int ((Ad (Ae vv (2 : Int32))).toInt8.toInt32)), (.int ((Ad (Ae vv (3 : Int32))).toInt8.toInt32)), (.int ((Ad (Ae vv (4 : Int32))).toInt8.toInt32)), (.int ((Ad (Ae vv (5 : Int32))).toInt8.toInt32)), (.int ((Ad (Ae vv (6 : Int32))).toInt8.toInt32))]) (.int 0) ∧ Exa Z h rt "[B") := by
  refine Ar #[.val (.long vv), .second, .val (.int 7)] ?_
  intro p e s m below meth c T0 C S0
  have XS_ := XS
  obtain ⟨O2, O4, P5, rG3, OU, OI, OT, OD, hUI, TBlt, DElt⟩ := XS_
  refine Ac C S0 [(0, .iload_n 2, 1), (1, .ifCond .ne 14, 3), (15, .iload_n 2, 1), (16, .iconst 2, 1), (17, .if_icmp .ne 30, 3), (47, .iload_n 2, 1), (48, .iconst 3, 1), (49, .if_icmp .ne 38, 3), (87, .iload_n 2, 1), (88, .iconst 4, 1), (89, .if_icmp .ne 46, 3), (135, .iload_n 2, 1), (136, .bipush 6, 2), (138, .if_icmp .ne 63, 3), (201, .iload_n 2, 1), (202, .bipush 7, 2), (204, .if_icmp .ne 73, 3)] 207 #[.val (.long vv), .second, Aa 7] [] ?_
  refine Ec C S0 (ow hw 7 rfl) (ow hw 8 rfl) (ow hw 9 rfl) (by decide +kernel) (by decide) (by decide) ?_
  intro T1 h3 a4 S2 g5 E6 x7 D8
  have f9 : Fld Z h3 a4 "java/lang/String" "coder" "B" (.int 0) := D8 (ty := .byte) (Or.inr (ow hw 38 rfl)) Cv
  have f10 : Fld Z h3 a4 "java/lang/String" "value" "[B" .null := D8 (ty := (.array .byte)) (Or.inr (ow hw 40 rfl)) Cw
  refine Ac C S2 [(210, .dup, 1), (211, .bipush 7, 2)] 213 #[.val (.long vv), .second, Aa 7] [.int 7, .ref a4, .ref a4] ?_
  refine Dl C S2 (aty := .char) (ow hw 10 rfl) (by decide +kernel) (by decide) 7 (by decide) (by decide) (by decide) (by decide) ?_
  intro T11 h13 a14 k15 S12 g16 E17 f18 
  have f19 : Arv Z h13 a14 k15 .char (7 : Int32) ([(.int 0), (.int 0), (.int 0), (.int 0), (.int 0), (.int 0), (.int 0)]) (.int 0) := Arv.pad f18 (pad_rep [] (.int 0) 7)
  refine Ac C S12 [(215, .dup, 1), (216, .iconst 0, 1), (217, .lload_n 0, 1), (218, .iconst 0, 1)] 219 #[.val (.long vv), .second, Aa 7] [.int 0, .long vv, .int 0, .ref a14, .ref a14, .ref a4, .ref a4] ?_
  have f20 : n0 ≤ h13.size := (Nat.le_trans (Nat.le_trans z0 E6.1) E17.1)
  refine Ah C S12 hw 11 12 5 13 (Cf l Z a0 hw vv 0 h13 n0 f20) 5 [.long vv, .int 0] [.int 0, .ref a14, .ref a14, .ref a4, .ref a4] Bs ?_
  rintro T22 h23 v24 L25 S26 ⟨⟨rfl, e21⟩, -⟩
  rw [e21] at S26; clear e21
  have f27 : n0 ≤ h3.size := (Nat.le_trans z0 E6.1)
  have g28 : n0 ≤ a14 := by rw [g16]; exact f27
  refine Ax C S26 f19 ⟨(by decide), (by decide)⟩ 0 rfl (Am rfl) (Ad (Ae vv (0 : Int32))) (Aq (Ai _ _)) g28 (by decide +kernel) ?_
  intro T29 h31 S30 W32 f33
  have f34 : Arv Z h31 a14 k15 .char (7 : Int32) ([(.int (Ad (Ae vv (0 : Int32)))), (.int 0), (.int 0), (.int 0), (.int 0), (.int 0), (.int 0)]) (.int 0) := f33
  refine Ac C S30 [(223, .dup, 1), (224, .iconst 1, 1), (225, .lload_n 0, 1), (226, .iconst 1, 1)] 227 #[.val (.long vv), .second, Aa 7] [.int 1, .long vv, .int 1, .ref a14, .ref a14, .ref a4, .ref a4] ?_
  have f35 : n0 ≤ h31.size := (by rw [W32.size]; exact f20)
  refine Ah C S30 hw 11 12 5 13 (Cf l Z a0 hw vv 1 h31 n0 f35) 5 [.long vv, .int 1] [.int 1, .ref a14, .ref a14, .ref a4, .ref a4] Bs ?_
  rintro T37 h38 v39 L40 S41 ⟨⟨rfl, e36⟩, -⟩
  rw [e36] at S41; clear e36
  refine Ax C S41 f34 ⟨(by decide), (by decide)⟩ 1 rfl (Am rfl) (Ad (Ae vv (1 : Int32))) (Aq (Ai _ _)) g28 (by decide +kernel) ?_
  intro T42 h44 S43 W45 f46
  have f47 : Arv Z h44 a14 k15 .char (7 : Int32) ([(.int (Ad (Ae vv (0 : Int32)))), (.int (Ad (Ae vv (1 : Int32)))), (.int 0), (.int 0), (.int 0), (.int 0), (.int 0)]) (.int 0) := f46
  refine Ac C S43 [(231, .dup, 1), (232, .iconst 2, 1), (233, .lload_n 0, 1), (234, .iconst 2, 1)] 235 #[.val (.long vv), .second, Aa 7] [.int 2, .long vv, .int 2, .ref a14, .ref a14, .ref a4, .ref a4] ?_
  have f48 : n0 ≤ h44.size := (by rw [W45.size]; exact f35)
  refine Ah C S43 hw 11 12 5 13 (Cf l Z a0 hw vv 2 h44 n0 f48) 5 [.long vv, .int 2] [.int 2, .ref a14, .ref a14, .ref a4, .ref a4] Bs ?_
  rintro T50 h51 v52 L53 S54 ⟨⟨rfl, e49⟩, -⟩
  rw [e49] at S54; clear e49
  refine Ax C S54 f47 ⟨(by decide), (by decide)⟩ 2 rfl (Am rfl) (Ad (Ae vv (2 : Int32))) (Aq (Ai _ _)) g28 (by decide +kernel) ?_
  intro T55 h57 S56 W58 f59
  have f60 : Arv Z h57 a14 k15 .char (7 : Int32) ([(.int (Ad (Ae vv (0 : Int32)))), (.int (Ad (Ae vv (1 : Int32)))), (.int (Ad (Ae vv (2 : Int32)))), (.int 0), (.int 0), (.int 0), (.int 0)]) (.int 0) := f59
  refine Ac C S56 [(239, .dup, 1), (240, .iconst 3, 1), (241, .lload_n 0, 1), (242, .iconst 3, 1)] 243 #[.val (.long vv), .second, Aa 7] [.int 3, .long vv, .int 3, .ref a14, .ref a14, .ref a4, .ref a4] ?_
  have f61 : n0 ≤ h57.size := (by rw [W58.size]; exact f48)
  refine Ah C S56 hw 11 12 5 13 (Cf l Z a0 hw vv 3 h57 n0 f61) 5 [.long vv, .int 3] [.int 3, .ref a14, .ref a14, .ref a4, .ref a4] Bs ?_
  rintro T63 h64 v65 L66 S67 ⟨⟨rfl, e62⟩, -⟩
  rw [e62] at S67; clear e62
  refine Ax C S67 f60 ⟨(by decide), (by decide)⟩ 3 rfl (Am rfl) (Ad (Ae vv (3 : Int32))) (Aq (Ai _ _)) g28 (by decide +kernel) ?_
  intro T68 h70 S69 W71 f72
  have f73 : Arv Z h70 a14 k15 .char (7 : Int32) ([(.int (Ad (Ae vv (0 : Int32)))), (.int (Ad (Ae vv (1 : Int32)))), (.int (Ad (Ae vv (2 : Int32)))), (.int (Ad (Ae vv (3 : Int32)))), (.int 0), (.int 0), (.int 0)]) (.int 0) := f72
  refine Ac C S69 [(247, .dup, 1), (248, .iconst 4, 1), (249, .lload_n 0, 1), (250, .iconst 4, 1)] 251 #[.val (.long vv), .second, Aa 7] [.int 4, .long vv, .int 4, .ref a14, .ref a14, .ref a4, .ref a4] ?_
  have f74 : n0 ≤ h70.size := (by rw [W71.size]; exact f61)
  refine Ah C S69 hw 11 12 5 13 (Cf l Z a0 hw vv 4 h70 n0 f74) 5 [.long vv, .int 4] [.int 4, .ref a14, .ref a14, .ref a4, .ref a4] Bs ?_
  rintro T76 h77 v78 L79 S80 ⟨⟨rfl, e75⟩, -⟩
  rw [e75] at S80; clear e75
  refine Ax C S80 f73 ⟨(by decide), (by decide)⟩ 4 rfl (Am rfl) (Ad (Ae vv (4 : Int32))) (Aq (Ai _ _)) g28 (by decide +kernel) ?_
  intro T81 h83 S82 W84 f85
  have f86 : Arv Z h83 a14 k15 .char (7 : Int32) ([(.int (Ad (Ae vv (0 : Int32)))), (.int (Ad (Ae vv (1 : Int32)))), (.int (Ad (Ae vv (2 : Int32)))), (.int (Ad (Ae vv (3 : Int32)))), (.int (Ad (Ae vv (4 : Int32)))), (.int 0), (.int 0)]) (.int 0) := f85
  refine Ac C S82 [(255, .dup, 1), (256, .iconst 5, 1), (257, .lload_n 0, 1), (258, .iconst 5, 1)] 259 #[.val (.long vv), .second, Aa 7] [.int 5, .long vv, .int 5, .ref a14, .ref a14, .ref a4, .ref a4] ?_
  have f87 : n0 ≤ h83.size := (by rw [W84.size]; exact f74)
  refine Ah C S82 hw 11 12 5 13 (Cf l Z a0 hw vv 5 h83 n0 f87) 5 [.long vv, .int 5] [.int 5, .ref a14, .ref a14, .ref a4, .ref a4] Bs ?_
  rintro T89 h90 v91 L92 S93 ⟨⟨rfl, e88⟩, -⟩
  rw [e88] at S93; clear e88
  refine Ax C S93 f86 ⟨(by decide), (by decide)⟩ 5 rfl (Am rfl) (Ad (Ae vv (5 : Int32))) (Aq (Ai _ _)) g28 (by decide +kernel) ?_
  intro T94 h96 S95 W97 f98
  have f99 : Arv Z h96 a14 k15 .char (7 : Int32) ([(.int (Ad (Ae vv (0 : Int32)))), (.int (Ad (Ae vv (1 : Int32)))), (.int (Ad (Ae vv (2 : Int32)))), (.int (Ad (Ae vv (3 : Int32)))), (.int (Ad (Ae vv (4 : Int32)))), (.int (Ad (Ae vv (5 : Int32)))), (.int 0)]) (.int 0) := f98
  refine Ac C S95 [(263, .dup, 1), (264, .bipush 6, 2), (266, .lload_n 0, 1), (267, .bipush 6, 2)] 269 #[.val (.long vv), .second, Aa 7] [.int 6, .long vv, .int 6, .ref a14, .ref a14, .ref a4, .ref a4] ?_
  have f100 : n0 ≤ h96.size := (by rw [W97.size]; exact f87)
  refine Ah C S95 hw 11 12 5 13 (Cf l Z a0 hw vv 6 h96 n0 f100) 5 [.long vv, .int 6] [.int 6, .ref a14, .ref a14, .ref a4, .ref a4] Bs ?_
  rintro T102 h103 v104 L105 S106 ⟨⟨rfl, e101⟩, -⟩
  rw [e101] at S106; clear e101
  refine Ax C S106 f99 ⟨(by decide), (by decide)⟩ 6 rfl (Am rfl) (Ad (Ae vv (6 : Int32))) (Aq (Ai _ _)) g28 (by decide +kernel) ?_
  intro T107 h109 S108 W110 f111
  have f112 : Arv Z h109 a14 k15 .char (7 : Int32) ([(.int (Ad (Ae vv (0 : Int32)))), (.int (Ad (Ae vv (1 : Int32)))), (.int (Ad (Ae vv (2 : Int32)))), (.int (Ad (Ae vv (3 : Int32)))), (.int (Ad (Ae vv (4 : Int32)))), (.int (Ad (Ae vv (5 : Int32)))), (.int (Ad (Ae vv (6 : Int32))))]) (.int 0) := f111
  have f113 := (((((((((X00.ext E6).ext E17).wr W32 g28).wr W45 g28).wr W58 g28).wr W71 g28).wr W84 g28).wr W97 g28).wr W110 g28)
  have f114 := (Exa.wr W110 (Exa.wr W97 (Exa.wr W84 (Exa.wr W71 (Exa.wr W58 (Exa.wr W45 (Exa.wr W32 (Exa.ext E17 x7))))))))
  have n115 : a4 ≠ a14 := by rw [g16]; exact Nat.ne_of_lt x7.lt
  have f116 := (Fld.other W110 (Fld.other W97 (Fld.other W84 (Fld.other W71 (Fld.other W58 (Fld.other W45 (Fld.other W32 (Fld.ext E17 f10) (Or.inl n115)) (Or.inl n115)) (Or.inl n115)) (Or.inl n115)) (Or.inl n115)) (Or.inl n115)) (Or.inl n115))
  have f117 := (Fld.other W110 (Fld.other W97 (Fld.other W84 (Fld.other W71 (Fld.other W58 (Fld.other W45 (Fld.other W32 (Fld.ext E17 f9) (Or.inl n115)) (Or.inl n115)) (Or.inl n115)) (Or.inl n115)) (Or.inl n115)) (Or.inl n115)) (Or.inl n115))
  have f118 : n0 ≤ h109.size := (by rw [W110.size]; exact f100)
  have g119 : n0 ≤ a4 := by rw [g5]; exact z0
  refine Cr C S108 rfl (ow hw 15 rfl) (ow hw 16 rfl) (ow hw 17 rfl) (by decide) (Af.pay (own_s1i7 l Z a0 hw G1 G3 U8 I8 TB DE a4 a14 _ _ _ _ _ _ _ _ h109 n0 f118 g119 f113 f114 f116 f117 f112 (Ne.symm n115) XS ((Bx (Ai _ _)).2) ((Bx (Ai _ _)).2) ((Bx (Ai _ _)).2) ((Bx (Ai _ _)).2) ((Bx (Ai _ _)).2) ((Bx (Ai _ _)).2) ((Bx (Ai _ _)).2)) C 1 (ow hw 17 rfl) (ow hw 9 rfl) (by decide) (by decide)) (fun _ _ _ q => q.2) [.ref a14] [.ref a4] rfl Dx rfl rfl rfl (Am rfl) (by decide) (by decide) (by decide +kernel) ?_
  rintro T129 h130 v131 L132 S133 ⟨⟨a120, k121, rfl, g122, K123, f124, f125, f126, f127, f128⟩, -⟩
  refine Br C S133 rfl rfl (by decide +kernel) (by decide) (by decide) ?_
  have o134 : h0.size ≤ a4 := by rw [g5]; exact (Nat.le_refl _)
  have o136 : h0.size ≤ h3.size := (Nat.le_trans (Nat.le_refl _) E6.1)
  have o135 : h0.size ≤ a14 := by rw [g16]; exact o136
  exact ⟨a4, a120, k121, rfl, o134, (((((((((((Keep.refl _ _).ext E6).ext E17).wr W32 (Or.inr o135)).wr W45 (Or.inr o135)).wr W58 (Or.inr o135)).wr W71 (Or.inr o135)).wr W84 (Or.inr o135)).wr W97 (Or.inr o135)).wr W110 (Or.inr o135)).trans K123 (allS (Or.inr o134) all0)), f124, f125, f126, f127, f128⟩
theorem own_tx8 (hw : Ao a0 Z) (G1 : Int32) (G3 : Value) (U8 : Addr) (I8 : Addr) (TB : Addr) (DE : Addr) (vv : Int64) (h0 : Heap) (n0 : Nat) (z0 : n0 ≤ h0.size) (X00 : Old Z n0 h0) (XS : Bf Z n0 G1 G3 U8 I8 TB DE) :
    Af l Z (⟨"com/example/torrey/torrey/Base64UrlDecodePinLaw", "text", "(JI)Ljava/lang/String;"⟩ : MethodName) method_5_code 3 (some (.object "java/lang/String")) ({ frames := 4, cells := 3, slots := 20, locals := 66 } : Room) n0 #[(.long vv), (.int 8)] h0 (fun v h => ∃ r : Addr, ∃ rt : Addr, ∃ rtk : ClassId, v = some (.ref r) ∧ h0.size ≤ r ∧ Keep h0 h [] ∧ Exa Z h r "java/lang/String" ∧ Fld Z h r "java/lang/String" "value" "[B" (.ref rt) ∧ Fld Z h r "java/lang/String" "coder" "B" (.int 0) ∧ Arv Z h rt rtk .byte (8 : Int32) ([(.int ((Ad (Ae vv (0 : Int32))).toInt8.toInt32)), (.int ((Ad (Ae vv (1 : Int32))).toInt8.toInt32)), (.int ((Ad (Ae vv (2 : Int32))).toInt8.toInt32)), (.int ((Ad (Ae vv (3 : Int32))).toInt8.toInt32)), (.int ((Ad (Ae vv (4 : Int32))).toInt8.toInt32)), (.int ((Ad (Ae vv (5 : Int32))).toInt8.toInt32)), (.int ((Ad (Ae vv (6 : Int32))).toInt8.toInt32)), (.int ((Ad (Ae vv (7 : Int32))).toInt8.toInt32))]) (.int 0) ∧ Exa Z h rt "[B") := by
  refine Ar #[.val (.long vv), .second, .val (.int 8)] ?_
  intro p e s m below meth c T0 C S0
  have XS_ := XS
  obtain ⟨O2, O4, P5, rG3, OU, OI, OT, OD, hUI, TBlt, DElt⟩ := XS_
  refine Ac C S0 [(0, .iload_n 2, 1), (1, .ifCond .ne 14, 3), (15, .iload_n 2, 1), (16, .iconst 2, 1), (17, .if_icmp .ne 30, 3), (47, .iload_n 2, 1), (48, .iconst 3, 1), (49, .if_icmp .ne 38, 3), (87, .iload_n 2, 1), (88, .iconst 4, 1), (89, .if_icmp .ne 46, 3), (135, .iload_n 2, 1), (136, .bipush 6, 2), (138, .if_icmp .ne 63, 3), (201, .iload_n 2, 1), (202, .bipush 7, 2), (204, .if_icmp .ne 73, 3)] 277 #[.val (.long vv), .second, Aa 8] [] ?_
  refine Ec C S0 (ow hw 7 rfl) (ow hw 8 rfl) (ow hw 9 rfl) (by decide +kernel) (by decide) (by decide) ?_
  intro T1 h3 a4 S2 g5 E6 x7 D8
  have f9 : Fld Z h3 a4 "java/lang/String" "coder" "B" (.int 0) := D8 (ty := .byte) (Or.inr (ow hw 38 rfl)) Cv
  have f10 : Fld Z h3 a4 "java/lang/String" "value" "[B" .null := D8 (ty := (.array .byte)) (Or.inr (ow hw 40 rfl)) Cw
  refine Ac C S2 [(280, .dup, 1), (281, .bipush 8, 2)] 283 #[.val (.long vv), .second, Aa 8] [.int 8, .ref a4, .ref a4] ?_
  refine Dl C S2 (aty := .char) (ow hw 10 rfl) (by decide +kernel) (by decide) 8 (by decide) (by decide) (by decide) (by decide) ?_
  intro T11 h13 a14 k15 S12 g16 E17 f18 
  have f19 : Arv Z h13 a14 k15 .char (8 : Int32) ([(.int 0), (.int 0), (.int 0), (.int 0), (.int 0), (.int 0), (.int 0), (.int 0)]) (.int 0) := Arv.pad f18 (pad_rep [] (.int 0) 8)
  refine Ac C S12 [(285, .dup, 1), (286, .iconst 0, 1), (287, .lload_n 0, 1), (288, .iconst 0, 1)] 289 #[.val (.long vv), .second, Aa 8] [.int 0, .long vv, .int 0, .ref a14, .ref a14, .ref a4, .ref a4] ?_
  have f20 : n0 ≤ h13.size := (Nat.le_trans (Nat.le_trans z0 E6.1) E17.1)
  refine Ah C S12 hw 11 12 5 13 (Cf l Z a0 hw vv 0 h13 n0 f20) 5 [.long vv, .int 0] [.int 0, .ref a14, .ref a14, .ref a4, .ref a4] Bs ?_
  rintro T22 h23 v24 L25 S26 ⟨⟨rfl, e21⟩, -⟩
  rw [e21] at S26; clear e21
  have f27 : n0 ≤ h3.size := (Nat.le_trans z0 E6.1)
  have g28 : n0 ≤ a14 := by rw [g16]; exact f27
  refine Ax C S26 f19 ⟨(by decide), (by decide)⟩ 0 rfl (Am rfl) (Ad (Ae vv (0 : Int32))) (Aq (Ai _ _)) g28 (by decide +kernel) ?_
  intro T29 h31 S30 W32 f33
  have f34 : Arv Z h31 a14 k15 .char (8 : Int32) ([(.int (Ad (Ae vv (0 : Int32)))), (.int 0), (.int 0), (.int 0), (.int 0), (.int 0), (.int 0), (.int 0)]) (.int 0) := f33
  refine Ac C S30 [(293, .dup, 1), (294, .iconst 1, 1), (295, .lload_n 0, 1), (296, .iconst 1, 1)] 297 #[.val (.long vv), .second, Aa 8] [.int 1, .long vv, .int 1, .ref a14, .ref a14, .ref a4, .ref a4] ?_
  have f35 : n0 ≤ h31.size := (by rw [W32.size]; exact f20)
  refine Ah C S30 hw 11 12 5 13 (Cf l Z a0 hw vv 1 h31 n0 f35) 5 [.long vv, .int 1] [.int 1, .ref a14, .ref a14, .ref a4, .ref a4] Bs ?_
  rintro T37 h38 v39 L40 S41 ⟨⟨rfl, e36⟩, -⟩
  rw [e36] at S41; clear e36
  refine Ax C S41 f34 ⟨(by decide), (by decide)⟩ 1 rfl (Am rfl) (Ad (Ae vv (1 : Int32))) (Aq (Ai _ _)) g28 (by decide +kernel) ?_
  intro T42 h44 S43 W45 f46
  have f47 : Arv Z h44 a14 k15 .char (8 : Int32) ([(.int (Ad (Ae vv (0 : Int32)))), (.int (Ad (Ae vv (1 : Int32)))), (.int 0), (.int 0), (.int 0), (.int 0), (.int 0), (.int 0)]) (.int 0) := f46
  refine Ac C S43 [(301, .dup, 1), (302, .iconst 2, 1), (303, .lload_n 0, 1), (304, .iconst 2, 1)] 305 #[.val (.long vv), .second, Aa 8] [.int 2, .long vv, .int 2, .ref a14, .ref a14, .ref a4, .ref a4] ?_
  have f48 : n0 ≤ h44.size := (by rw [W45.size]; exact f35)
  refine Ah C S43 hw 11 12 5 13 (Cf l Z a0 hw vv 2 h44 n0 f48) 5 [.long vv, .int 2] [.int 2, .ref a14, .ref a14, .ref a4, .ref a4] Bs ?_
  rintro T50 h51 v52 L53 S54 ⟨⟨rfl, e49⟩, -⟩
  rw [e49] at S54; clear e49
  refine Ax C S54 f47 ⟨(by decide), (by decide)⟩ 2 rfl (Am rfl) (Ad (Ae vv (2 : Int32))) (Aq (Ai _ _)) g28 (by decide +kernel) ?_
  intro T55 h57 S56 W58 f59
  have f60 : Arv Z h57 a14 k15 .char (8 : Int32) ([(.int (Ad (Ae vv (0 : Int32)))), (.int (Ad (Ae vv (1 : Int32)))), (.int (Ad (Ae vv (2 : Int32)))), (.int 0), (.int 0), (.int 0), (.int 0), (.int 0)]) (.int 0) := f59
  refine Ac C S56 [(309, .dup, 1), (310, .iconst 3, 1), (311, .lload_n 0, 1), (312, .iconst 3, 1)] 313 #[.val (.long vv), .second, Aa 8] [.int 3, .long vv, .int 3, .ref a14, .ref a14, .ref a4, .ref a4] ?_
  have f61 : n0 ≤ h57.size := (by rw [W58.size]; exact f48)
  refine Ah C S56 hw 11 12 5 13 (Cf l Z a0 hw vv 3 h57 n0 f61) 5 [.long vv, .int 3] [.int 3, .ref a14, .ref a14, .ref a4, .ref a4] Bs ?_
  rintro T63 h64 v65 L66 S67 ⟨⟨rfl, e62⟩, -⟩
  rw [e62] at S67; clear e62
  refine Ax C S67 f60 ⟨(by decide), (by decide)⟩ 3 rfl (Am rfl) (Ad (Ae vv (3 : Int32))) (Aq (Ai _ _)) g28 (by decide +kernel) ?_
  intro T68 h70 S69 W71 f72
  have f73 : Arv Z h70 a14 k15 .char (8 : Int32) ([(.int (Ad (Ae vv (0 : Int32)))), (.int (Ad (Ae vv (1 : Int32)))), (.int (Ad (Ae vv (2 : Int32)))), (.int (Ad (Ae vv (3 : Int32)))), (.int 0), (.int 0), (.int 0), (.int 0)]) (.int 0) := f72
  refine Ac C S69 [(317, .dup, 1), (318, .iconst 4, 1), (319, .lload_n 0, 1), (320, .iconst 4, 1)] 321 #[.val (.long vv), .second, Aa 8] [.int 4, .long vv, .int 4, .ref a14, .ref a14, .ref a4, .ref a4] ?_
  have f74 : n0 ≤ h70.size := (by rw [W71.size]; exact f61)
  refine Ah C S69 hw 11 12 5 13 (Cf l Z a0 hw vv 4 h70 n0 f74) 5 [.long vv, .int 4] [.int 4, .ref a14, .ref a14, .ref a4, .ref a4] Bs ?_
  rintro T76 h77 v78 L79 S80 ⟨⟨rfl, e75⟩, -⟩
  rw [e75] at S80; clear e75
  refine Ax C S80 f73 ⟨(by decide), (by decide)⟩ 4 rfl (Am rfl) (Ad (Ae vv (4 : Int32))) (Aq (Ai _ _)) g28 (by decide +kernel) ?_
  intro T81 h83 S82 W84 f85
  have f86 : Arv Z h83 a14 k15 .char (8 : Int32) ([(.int (Ad (Ae vv (0 : Int32)))), (.int (Ad (Ae vv (1 : Int32)))), (.int (Ad (Ae vv (2 : Int32)))), (.int (Ad (Ae vv (3 : Int32)))), (.int (Ad (Ae vv (4 : Int32)))), (.int 0), (.int 0), (.int 0)]) (.int 0) := f85
  refine Ac C S82 [(325, .dup, 1), (326, .iconst 5, 1), (327, .lload_n 0, 1), (328, .iconst 5, 1)] 329 #[.val (.long vv), .second, Aa 8] [.int 5, .long vv, .int 5, .ref a14, .ref a14, .ref a4, .ref a4] ?_
  have f87 : n0 ≤ h83.size := (by rw [W84.size]; exact f74)
  refine Ah C S82 hw 11 12 5 13 (Cf l Z a0 hw vv 5 h83 n0 f87) 5 [.long vv, .int 5] [.int 5, .ref a14, .ref a14, .ref a4, .ref a4] Bs ?_
  rintro T89 h90 v91 L92 S93 ⟨⟨rfl, e88⟩, -⟩
  rw [e88] at S93; clear e88
  refine Ax C S93 f86 ⟨(by decide), (by decide)⟩ 5 rfl (Am rfl) (Ad (Ae vv (5 : Int32))) (Aq (Ai _ _)) g28 (by decide +kernel) ?_
  intro T94 h96 S95 W97 f98
  have f99 : Arv Z h96 a14 k15 .char (8 : Int32) ([(.int (Ad (Ae vv (0 : Int32)))), (.int (Ad (Ae vv (1 : Int32)))), (.int (Ad (Ae vv (2 : Int32)))), (.int (Ad (Ae vv (3 : Int32)))), (.int (Ad (Ae vv (4 : Int32)))), (.int (Ad (Ae vv (5 : Int32)))), (.int 0), (.int 0)]) (.int 0) := f98
  refine Ac C S95 [(333, .dup, 1), (334, .bipush 6, 2), (336, .lload_n 0, 1), (337, .bipush 6, 2)] 339 #[.val (.long vv), .second, Aa 8] [.int 6, .long vv, .int 6, .ref a14, .ref a14, .ref a4, .ref a4] ?_
  have f100 : n0 ≤ h96.size := (by rw [W97.size]; exact f87)
  refine Ah C S95 hw 11 12 5 13 (Cf l Z a0 hw vv 6 h96 n0 f100) 5 [.long vv, .int 6] [.int 6, .ref a14, .ref a14, .ref a4, .ref a4] Bs ?_
  rintro T102 h103 v104 L105 S106 ⟨⟨rfl, e101⟩, -⟩
  rw [e101] at S106; clear e101
  refine Ax C S106 f99 ⟨(by decide), (by decide)⟩ 6 rfl (Am rfl) (Ad (Ae vv (6 : Int32))) (Aq (Ai _ _)) g28 (by decide +kernel) ?_
  intro T107 h109 S108 W110 f111
  have f112 : Arv Z h109 a14 k15 .char (8 : Int32) ([(.int (Ad (Ae vv (0 : Int32)))), (.int (Ad (Ae vv (1 : Int32)))), (.int (Ad (Ae vv (2 : Int32)))), (.int (Ad (Ae vv (3 : Int32)))), (.int (Ad (Ae vv (4 : Int32)))), (.int (Ad (Ae vv (5 : Int32)))), (.int (Ad (Ae vv (6 : Int32)))), (.int 0)]) (.int 0) := f111
  refine Ac C S108 [(343, .dup, 1), (344, .bipush 7, 2), (346, .lload_n 0, 1), (347, .bipush 7, 2)] 349 #[.val (.long vv), .second, Aa 8] [.int 7, .long vv, .int 7, .ref a14, .ref a14, .ref a4, .ref a4] ?_
  have f113 : n0 ≤ h109.size := (by rw [W110.size]; exact f100)
  refine Ah C S108 hw 11 12 5 13 (Cf l Z a0 hw vv 7 h109 n0 f113) 5 [.long vv, .int 7] [.int 7, .ref a14, .ref a14, .ref a4, .ref a4] Bs ?_
  rintro T115 h116 v117 L118 S119 ⟨⟨rfl, e114⟩, -⟩
  rw [e114] at S119; clear e114
  refine Ax C S119 f112 ⟨(by decide), (by decide)⟩ 7 rfl (Am rfl) (Ad (Ae vv (7 : Int32))) (Aq (Ai _ _)) g28 (by decide +kernel) ?_
  intro T120 h122 S121 W123 f124
  have f125 : Arv Z h122 a14 k15 .char (8 : Int32) ([(.int (Ad (Ae vv (0 : Int32)))), (.int (Ad (Ae vv (1 : Int32)))), (.int (Ad (Ae vv (2 : Int32)))), (.int (Ad (Ae vv (3 : Int32)))), (.int (Ad (Ae vv (4 : Int32)))), (.int (Ad (Ae vv (5 : Int32)))), (.int (Ad (Ae vv (6 : Int32)))), (.int (Ad (Ae vv (7 : Int32))))]) (.int 0) := f124
  have f126 := ((((((((((X00.ext E6).ext E17).wr W32 g28).wr W45 g28).wr W58 g28).wr W71 g28).wr W84 g28).wr W97 g28).wr W110 g28).wr W123 g28)
  have f127 := (Exa.wr W123 (Exa.wr W110 (Exa.wr W97 (Exa.wr W84 (Exa.wr W71 (Exa.wr W58 (Exa.wr W45 (Exa.wr W32 (Exa.ext E17 x7)))))))))
  have n128 : a4 ≠ a14 := by rw [g16]; exact Nat.ne_of_lt x7.lt
  have f129 := (Fld.other W123 (Fld.other W110 (Fld.other W97 (Fld.other W84 (Fld.other W71 (Fld.other W58 (Fld.other W45 (Fld.other W32 (Fld.ext E17 f10) (Or.inl n128)) (Or.inl n128)) (Or.inl n128)) (Or.inl n128)) (Or.inl n128)) (Or.inl n128)) (Or.inl n128)) (Or.inl n128))
  have f130 := (Fld.other W123 (Fld.other W110 (Fld.other W97 (Fld.other W84 (Fld.other W71 (Fld.other W58 (Fld.other W45 (Fld.other W32 (Fld.ext E17 f9) (Or.inl n128)) (Or.inl n128)) (Or.inl n128)) (Or.inl n128)) (Or.inl n128)) (Or.inl n128)) (Or.inl n128)) (Or.inl n128))
  have f131 : n0 ≤ h122.size := (by rw [W123.size]; exact f113)
  have g132 : n0 ≤ a4 := by rw [g5]; exact z0
  refine Cr C S121 rfl (ow hw 15 rfl) (ow hw 16 rfl) (ow hw 17 rfl) (by decide) (Af.pay (own_s1i8 l Z a0 hw G1 G3 U8 I8 TB DE a4 a14 _ _ _ _ _ _ _ _ _ h122 n0 f131 g132 f126 f127 f129 f130 f125 (Ne.symm n128) XS ((Bx (Ai _ _)).2) ((Bx (Ai _ _)).2) ((Bx (Ai _ _)).2) ((Bx (Ai _ _)).2) ((Bx (Ai _ _)).2) ((Bx (Ai _ _)).2) ((Bx (Ai _ _)).2) ((Bx (Ai _ _)).2)) C 1 (ow hw 17 rfl) (ow hw 9 rfl) (by decide) (by decide)) (fun _ _ _ q => q.2) [.ref a14] [.ref a4] rfl Dx rfl rfl rfl (Am rfl) (by decide) (by decide) (by decide +kernel) ?_
  rintro T142 h143 v144 L145 S146 ⟨⟨a133, k134, rfl, g135, K136, f137, f138, f139, f140, f141⟩, -⟩
  refine Br C S146 rfl rfl (by decide +kernel) (by decide) (by decide) ?_
  have o147 : h0.size ≤ a4 := by rw [g5]; exact (Nat.le_refl _)
  have o149 : h0.size ≤ h3.size := (Nat.le_trans (Nat.le_refl _) E6.1)
  have o148 : h0.size ≤ a14 := by rw [g16]; exact o149
  exact ⟨a4, a133, k134, rfl, o147, ((((((((((((Keep.refl _ _).ext E6).ext E17).wr W32 (Or.inr o148)).wr W45 (Or.inr o148)).wr W58 (Or.inr o148)).wr W71 (Or.inr o148)).wr W84 (Or.inr o148)).wr W97 (Or.inr o148)).wr W110 (Or.inr o148)).wr W123 (Or.inr o148)).trans K136 (allS (Or.inr o147) all0)), f137, f138, f139, f140, f141⟩
theorem Cj (hw : Ao a0 Z) (o : Addr) (ok : ClassId) (N : Int32) (vs : List Value) (vv : Int64) (j : Int32) (h0 : Heap) (n0 : Nat) (z0 : n0 ≤ h0.size) (oK : Arv Z h0 o ok .byte N vs (.int 0)) (hj : ¬ j < N) :
    Af l Z (⟨"com/example/torrey/torrey/Base64UrlDecodePinLaw", "byteOk", "([BJI)Z"⟩ : MethodName) method_3_code 4 (some .boolean) ({ frames := 0, cells := 0, slots := 0, locals := 0 } : Room) n0 #[(.ref o), (.long vv), (.int j)] h0 (fun v h => v = some (.int 1) ∧ h = h0) := by
  refine Ar #[.val (.ref o), .val (.long vv), .second, .val (.int j)] ?_
  intro p e s m below meth c T0 C S0
  refine Ac C S0 [(0, .iload_n 3, 1), (1, .aload_n 0, 1)] 2 #[Ab o, .val (.long vv), .second, Aa j] [.ref o, .int j] ?_
  refine Ay C S0 oK (by decide +kernel) ?_
  refine Bj C S0 .ge 20 23 (fun (q1 : ¬ j < N) => ?_) (fun (hq : j < N) => False.elim (hj hq))
  refine Ac C S0 [(23, .iconst 1, 1), (24, .goto 4, 3)] 28 #[Ab o, .val (.long vv), .second, Aa j] [.int 1] ?_
  refine own_retZ C S0 (by decide +kernel) (by decide) (by decide) (by decide) ?_
  exact ⟨rfl, rfl⟩
theorem Ck (hw : Ao a0 Z) (o : Addr) (ok : ClassId) (N : Int32) (vs : List Value) (vv : Int64) (j : Int32) (b : Int32) (h0 : Heap) (n0 : Nat) (z0 : n0 ≤ h0.size) (oK : Arv Z h0 o ok .byte N vs (.int 0)) (hi : ¬ j < 0 ∧ j < N) (hv : vs.getD j.toNatClampNeg (.int 0) = .int b) (hb : b = Cq vv j) :
    Af l Z (⟨"com/example/torrey/torrey/Base64UrlDecodePinLaw", "byteOk", "([BJI)Z"⟩ : MethodName) method_3_code 4 (some .boolean) ({ frames := 0, cells := 0, slots := 0, locals := 0 } : Room) n0 #[(.ref o), (.long vv), (.int j)] h0 (fun v h => v = some (.int 1) ∧ h = h0) := by
  refine Ar #[.val (.ref o), .val (.long vv), .second, .val (.int j)] ?_
  intro p e s m below meth c T0 C S0
  refine Ac C S0 [(0, .iload_n 3, 1), (1, .aload_n 0, 1)] 2 #[Ab o, .val (.long vv), .second, Aa j] [.ref o, .int j] ?_
  refine Ay C S0 oK (by decide +kernel) ?_
  refine Bj C S0 .ge 20 23 (fun (hq : ¬ j < N) => False.elim (hq hi.2)) (fun (q1 : j < N) => ?_)
  refine Ac C S0 [(6, .aload_n 0, 1), (7, .iload_n 3, 1)] 8 #[Ab o, .val (.long vv), .second, Aa j] [.int j, .ref o] ?_
  refine As C S0 oK hi (.int b) hv (by decide +kernel) ?_
  refine Ac C S0 [(9, .lload_n 1, 1), (10, .bipush 40, 2), (12, .bipush 8, 2), (14, .iload_n 3, 1), (15, .imul, 1), (16, .isub, 1), (17, .lshr, 1), (18, .l2i, 1), (19, .i2b, 1)] 20 #[Ab o, .val (.long vv), .second, Aa j] [.int (((vv >>> (((40 : Int32) - ((8 : Int32) * j)).toInt64 &&& 63)).toInt32).toInt8.toInt32), .int b] ?_
  refine Bj C S0 .ne 7 27 (fun (hq : ¬ b = (((vv >>> (((40 : Int32) - ((8 : Int32) * j)).toInt64 &&& 63)).toInt32).toInt8.toInt32)) => False.elim (hq hb)) (fun (q2 : b = (((vv >>> (((40 : Int32) - ((8 : Int32) * j)).toInt64 &&& 63)).toInt32).toInt8.toInt32)) => ?_)
  refine Ac C S0 [(23, .iconst 1, 1), (24, .goto 4, 3)] 28 #[Ab o, .val (.long vv), .second, Aa j] [.int 1] ?_
  refine own_retZ C S0 (by decide +kernel) (by decide) (by decide) (by decide) ?_
  exact ⟨rfl, rfl⟩
theorem Dy : parseMethodDescriptor "(JI)Ljava/lang/String;" = some ⟨[.long, .int], (some (.object "java/lang/String"))⟩ := by decide +kernel
theorem Bc : parseMethodDescriptor "([BJI)Z" = some ⟨[(.array .byte), .long, .int], (some .boolean)⟩ := by decide +kernel
theorem own_law (hw : Ao a0 Z) (hEL : EW Z a0 Cm) (wS : ∀ a ∈ Bundle.stringAtoms, a.before a0 Z = true) (G1 : Int32) (G3 : Value) (U8 : Addr) (I8 : Addr) (TB : Addr) (TBk : ClassId) (DE : Addr) (i0 : Int64) (i1 : Int32) (h0 : Heap) (n0 : Nat) (z0 : n0 ≤ h0.size) (X00 : Old Z n0 h0) (TK : Arv Z h0 TB TBk .int 256 Bt (.int 0)) (DEx : Exa Z h0 DE "java/util/Base64$Decoder") (DEu : Fld Z h0 DE "java/util/Base64$Decoder" "isURL" "Z" (.int 1)) (DEm : Fld Z h0 DE "java/util/Base64$Decoder" "isMIME" "Z" (.int 0)) (XS : Bf Z n0 G1 G3 U8 I8 TB DE) :
    Cp l Z Cm x code maxLocals ret room_1 n0 #[(.long i0), (.int i1)] h0 [] (fun v h => v = some (.int 1)) := by
  refine Da hEL wS (by decide +kernel) #[.val (.long i0), .second, .val (.int i1), .unset, .unset, .unset, .unset, .unset, .unset, .unset, .unset, .unset] (fun m => by first | (simp [entryFrame, mkF, argsToLocals, Value.category, maxLocals]; done) | rfl) ?_
  intro p e s m below meth c T0 CW SW0
  have XS_ := XS
  obtain ⟨O2, O4, P5, rG3, OU, OI, OT, OD, hUI, TBlt, DElt⟩ := XS_
  refine Bv CW SW0 ?_
  intro vm1 C S2 rb3
  refine Ac C S2 [(0, .bipush 7, 2)] 2 #[.val (.long i0), .second, Aa i1, .unset, .unset, .unset, .unset, .unset, .unset, .unset, .unset, .unset] [.int 7] ?_
  refine Dl C S2 (aty := .int) (ow hw 0 rfl) (by decide +kernel) (by decide) 7 (by decide) (by decide) (by decide) (by decide) ?_
  intro T4 h6 a7 k8 S5 g9 E10 f11 
  have f12 : Arv Z h6 a7 k8 .int 7 ([(.int 0), (.int 0), (.int 0), (.int 0), (.int 0), (.int 0), (.int 0)]) (.int 0) := Arv.pad f11 (pad_rep [] (.int 0) 7)
  refine Ac C S5 [(4, .dup, 1), (5, .iconst 0, 1), (6, .iconst 0, 1)] 7 #[.val (.long i0), .second, Aa i1, .unset, .unset, .unset, .unset, .unset, .unset, .unset, .unset, .unset] [.int 0, .int 0, .ref a7, .ref a7] ?_
  have g13 : n0 ≤ a7 := by rw [g9]; exact z0
  refine Cy C S5 f12 ⟨(by decide), (by decide)⟩ 0 rfl (Am rfl) g13 (by decide +kernel) ?_
  intro T14 h16 S15 W17 f18
  have f19 : Arv Z h16 a7 k8 .int 7 ([(.int 0), (.int 0), (.int 0), (.int 0), (.int 0), (.int 0), (.int 0)]) (.int 0) := f18
  refine Ac C S15 [(8, .dup, 1), (9, .iconst 1, 1), (10, .iconst 2, 1)] 11 #[.val (.long i0), .second, Aa i1, .unset, .unset, .unset, .unset, .unset, .unset, .unset, .unset, .unset] [.int 2, .int 1, .ref a7, .ref a7] ?_
  refine Cy C S15 f19 ⟨(by decide), (by decide)⟩ 1 rfl (Am rfl) g13 (by decide +kernel) ?_
  intro T20 h22 S21 W23 f24
  have f25 : Arv Z h22 a7 k8 .int 7 ([(.int 0), (.int 2), (.int 0), (.int 0), (.int 0), (.int 0), (.int 0)]) (.int 0) := f24
  refine Ac C S21 [(12, .dup, 1), (13, .iconst 2, 1), (14, .iconst 3, 1)] 15 #[.val (.long i0), .second, Aa i1, .unset, .unset, .unset, .unset, .unset, .unset, .unset, .unset, .unset] [.int 3, .int 2, .ref a7, .ref a7] ?_
  refine Cy C S21 f25 ⟨(by decide), (by decide)⟩ 2 rfl (Am rfl) g13 (by decide +kernel) ?_
  intro T26 h28 S27 W29 f30
  have f31 : Arv Z h28 a7 k8 .int 7 ([(.int 0), (.int 2), (.int 3), (.int 0), (.int 0), (.int 0), (.int 0)]) (.int 0) := f30
  refine Ac C S27 [(16, .dup, 1), (17, .iconst 3, 1), (18, .iconst 4, 1)] 19 #[.val (.long i0), .second, Aa i1, .unset, .unset, .unset, .unset, .unset, .unset, .unset, .unset, .unset] [.int 4, .int 3, .ref a7, .ref a7] ?_
  refine Cy C S27 f31 ⟨(by decide), (by decide)⟩ 3 rfl (Am rfl) g13 (by decide +kernel) ?_
  intro T32 h34 S33 W35 f36
  have f37 : Arv Z h34 a7 k8 .int 7 ([(.int 0), (.int 2), (.int 3), (.int 4), (.int 0), (.int 0), (.int 0)]) (.int 0) := f36
  refine Ac C S33 [(20, .dup, 1), (21, .iconst 4, 1), (22, .bipush 6, 2)] 24 #[.val (.long i0), .second, Aa i1, .unset, .unset, .unset, .unset, .unset, .unset, .unset, .unset, .unset] [.int 6, .int 4, .ref a7, .ref a7] ?_
  refine Cy C S33 f37 ⟨(by decide), (by decide)⟩ 4 rfl (Am rfl) g13 (by decide +kernel) ?_
  intro T38 h40 S39 W41 f42
  have f43 : Arv Z h40 a7 k8 .int 7 ([(.int 0), (.int 2), (.int 3), (.int 4), (.int 6), (.int 0), (.int 0)]) (.int 0) := f42
  refine Ac C S39 [(25, .dup, 1), (26, .iconst 5, 1), (27, .bipush 7, 2)] 29 #[.val (.long i0), .second, Aa i1, .unset, .unset, .unset, .unset, .unset, .unset, .unset, .unset, .unset] [.int 7, .int 5, .ref a7, .ref a7] ?_
  refine Cy C S39 f43 ⟨(by decide), (by decide)⟩ 5 rfl (Am rfl) g13 (by decide +kernel) ?_
  intro T44 h46 S45 W47 f48
  have f49 : Arv Z h46 a7 k8 .int 7 ([(.int 0), (.int 2), (.int 3), (.int 4), (.int 6), (.int 7), (.int 0)]) (.int 0) := f48
  refine Ac C S45 [(30, .dup, 1), (31, .bipush 6, 2), (33, .bipush 8, 2)] 35 #[.val (.long i0), .second, Aa i1, .unset, .unset, .unset, .unset, .unset, .unset, .unset, .unset, .unset] [.int 8, .int 6, .ref a7, .ref a7] ?_
  refine Cy C S45 f49 ⟨(by decide), (by decide)⟩ 6 rfl (Am rfl) g13 (by decide +kernel) ?_
  intro T50 h52 S51 W53 f54
  have f55 : Arv Z h52 a7 k8 .int 7 ([(.int 0), (.int 2), (.int 3), (.int 4), (.int 6), (.int 7), (.int 8)]) (.int 0) := f54
  refine Ac C S51 [(36, .astore_n 3, 1), (37, .aload_n 3, 1), (38, .iload_n 2, 1)] 39 #[.val (.long i0), .second, Aa i1, Ab a7, .unset, .unset, .unset, .unset, .unset, .unset, .unset, .unset] [.int i1, .ref a7] ?_
  refine own_ldc C S51 (ow hw 1 rfl) (by decide +kernel) ?_
  refine Ac C S51 [(41, .iand, 1), (42, .bipush 7, 2)] 44 #[.val (.long i0), .second, Aa i1, Ab a7, .unset, .unset, .unset, .unset, .unset, .unset, .unset, .unset] [.int 7, .int (i1 &&& 2147483647), .ref a7] ?_
  refine Dk C S51 (by decide +kernel) (by decide) ?_
  have f56 := ((((((((X00.ext E10).wr W17 g13).wr W23 g13).wr W29 g13).wr W35 g13).wr W41 g13).wr W47 g13).wr W53 g13)
  have n57 : TB ≠ a7 := Nat.ne_of_lt (Nat.lt_of_lt_of_le TBlt g13)
  have f58 := ((((((((TK.ext E10).other W17 n57).other W23 n57).other W29 n57).other W35 n57).other W41 n57).other W47 n57).other W53 n57)
  have f59 := (Exa.wr W53 (Exa.wr W47 (Exa.wr W41 (Exa.wr W35 (Exa.wr W29 (Exa.wr W23 (Exa.wr W17 (Exa.ext E10 DEx))))))))
  have n60 : DE ≠ a7 := Nat.ne_of_lt (Nat.lt_of_lt_of_le DElt g13)
  have f61 := (Fld.other W53 (Fld.other W47 (Fld.other W41 (Fld.other W35 (Fld.other W29 (Fld.other W23 (Fld.other W17 (Fld.ext E10 DEu) (Or.inl n60)) (Or.inl n60)) (Or.inl n60)) (Or.inl n60)) (Or.inl n60)) (Or.inl n60)) (Or.inl n60))
  have f62 := (Fld.other W53 (Fld.other W47 (Fld.other W41 (Fld.other W35 (Fld.other W29 (Fld.other W23 (Fld.other W17 (Fld.ext E10 DEm) (Or.inl n60)) (Or.inl n60)) (Or.inl n60)) (Or.inl n60)) (Or.inl n60)) (Or.inl n60)) (Or.inl n60))
  have f63 : n0 ≤ h52.size := (by rw [W53.size]; exact (by rw [W47.size]; exact (by rw [W41.size]; exact (by rw [W35.size]; exact (by rw [W29.size]; exact (by rw [W23.size]; exact (by rw [W17.size]; exact (Nat.le_trans z0 E10.1))))))))
  rcases own_c7 i1 with e7 | e7 | e7 | e7 | e7 | e7 | e7
  · rw [show ((i1 &&& 2147483647) % (7 : Int32)) = (0 : Int32) from e7]
    refine Aw C S51 f55 ⟨(by decide), (by decide)⟩ (.int 0) rfl (by decide +kernel) ?_
    refine Ac C S51 [(46, .istore 4, 2), (48, .iload 4, 2), (50, .iconst 3, 1), (51, .imul, 1), (52, .iconst 4, 1)] 53 #[.val (.long i0), .second, Aa i1, Ab a7, Aa 0, .unset, .unset, .unset, .unset, .unset, .unset, .unset] [.int 4, .int 0] ?_
    refine Dc C S51 (by decide +kernel) (by decide) ?_
    refine Ac C S51 [(54, .istore 5, 2), (56, .iload 5, 2), (58, .ifCond .ne 7, 3), (61, .lconst 0, 1), (62, .goto 21, 3), (83, .lstore 6, 2), (85, .lload_n 0, 1)] 86 #[.val (.long i0), .second, Aa i1, Ab a7, Aa 0, Aa 0, .val (.long (0 : Int64)), .second, .unset, .unset, .unset, .unset] [.long i0] ?_
    refine Bz C S51 (ow hw 2 rfl) (by decide +kernel) ?_
    refine Ac C S51 [(89, .land, 1), (90, .lload 6, 2), (92, .land, 1)] 93 #[.val (.long i0), .second, Aa i1, Ab a7, Aa 0, Aa 0, .val (.long (0 : Int64)), .second, .unset, .unset, .unset, .unset] [.long ((i0 &&& 281474976710655) &&& (0 : Int64))] ?_
    obtain ⟨z64, hz64⟩ : ∃ y, y = ((i0 &&& 281474976710655) &&& (0 : Int64)) := ⟨_, rfl⟩
    rw [← hz64]
    refine Ac C S51 [(93, .lstore 8, 2), (95, .lload 8, 2), (97, .iload 4, 2)] 99 #[.val (.long i0), .second, Aa i1, Ab a7, Aa 0, Aa 0, .val (.long (0 : Int64)), .second, .val (.long z64), .second, .unset, .unset] [.int 0, .long z64] ?_
    have o80 : h0.size ≤ a7 := by rw [g9]; exact (Nat.le_refl _)
    have f81 : a7 < h52.size := (by rw [W53.size]; exact (by rw [W47.size]; exact (by rw [W41.size]; exact (by rw [W35.size]; exact (by rw [W29.size]; exact (by rw [W23.size]; exact (by rw [W17.size]; exact f12.lt)))))))
    have SW82 := rb3 _ _ _ _ [] [a7] S51 (((((((((Keep.refl _ _).ext E10).wr W17 (Or.inr o80)).wr W23 (Or.inr o80)).wr W29 (Or.inr o80)).wr W35 (Or.inr o80)).wr W41 (Or.inr o80)).wr W47 (Or.inr o80)).wr W53 (Or.inr o80)) all0 (allS ⟨o80, f81⟩ all0)
    refine Db CW SW82 (ow hw 3 rfl) (ow hw 4 rfl) (ow hw 5 rfl) (ow hw 6 rfl) (by decide) (own_tx0 l Z a0 hw hEL wS G1 G3 U8 I8 TB DE z64 h52 n0 f63 f56 XS) all0 0 (by decide) (by decide) [(.long z64), (.int 0)] [] rfl Dy rfl rfl rfl (Am rfl) (by decide) (by decide) (by decide +kernel) ?_
    rintro T83 h84 v85 SW86 hg87 ⟨a65, a66, k67, rfl, g68, K69, f70, f71, f72, f73, f74⟩
    refine Bv CW SW86 ?_
    intro vm88 C S89 rb90
    refine Ac C S89 [(102, .astore 10, 2), (104, .aload 10, 2)] 106 #[.val (.long i0), .second, Aa i1, Ab a7, Aa 0, Aa 0, .val (.long (0 : Int64)), .second, .val (.long z64), .second, Ab a65, .unset] [.ref a65] ?_
    have f91 := (f56.keep K69 all0)
    have f92 := (f58.keep K69 nin0)
    have f93 := (f59.keep K69)
    have f94 := (f61.keep K69 nin0)
    have f95 := (f62.keep K69 nin0)
    have f96 : n0 ≤ h84.size := (Nat.le_trans f63 K69.1)
    have SW107 := rb90 _ _ _ _ [] [] S89 (Keep.refl _ _) all0 all0
    refine Db CW SW107 (ow hw 41 rfl) (ow hw 42 rfl) (ow hw 43 rfl) (ow hw 44 rfl) (by decide) (own_du0 l Z a0 hw hEL wS G1 G3 U8 I8 TB TBk DE a65 _ _ h84 n0 f96 f91 f92 f93 f94 f95 f70 f71 f72 f73 f74 XS) all0 0 (by decide) (by decide) [(.ref a65)] [] rfl Cu rfl rfl rfl (Am rfl) (by decide) (by decide) (by decide +kernel) ?_
    rintro T108 h109 v110 SW111 hg112 ⟨a97, k98, rfl, g99, K100, f101⟩
    refine Bv CW SW111 ?_
    intro vm113 C S114 rb115
    refine Ac C S114 [(109, .astore 11, 2), (111, .aload 11, 2)] 113 #[.val (.long i0), .second, Aa i1, Ab a7, Aa 0, Aa 0, .val (.long (0 : Int64)), .second, .val (.long z64), .second, Ab a65, Ab a97] [.ref a97] ?_
    refine Ay C S114 f101 (by decide +kernel) ?_
    refine Ac C S114 [(114, .iload 5, 2), (116, .if_icmp .eq 5, 3), (121, .aload 11, 2), (123, .lload 8, 2), (125, .iconst 0, 1)] 126 #[.val (.long i0), .second, Aa i1, Ab a7, Aa 0, Aa 0, .val (.long (0 : Int64)), .second, .val (.long z64), .second, Ab a65, Ab a97] [.int 0, .long z64, .ref a97] ?_
    have f116 : n0 ≤ h109.size := (Nat.le_trans f96 K100.1)
    refine Ah C S114 hw 145 146 5 147 (Cj l Z a0 hw a97 _ _ _ z64 0 h109 n0 f116 f101 (by decide)) 0 [.ref a97, .long z64, .int 0] [] Bc ?_
    rintro T118 h119 v120 L121 S122 ⟨⟨rfl, e117⟩, -⟩
    rw [e117] at S122; clear e117
    refine Ac C S122 [(129, .ifCond .eq 62, 3), (132, .aload 11, 2), (134, .lload 8, 2), (136, .iconst 1, 1)] 137 #[.val (.long i0), .second, Aa i1, Ab a7, Aa 0, Aa 0, .val (.long (0 : Int64)), .second, .val (.long z64), .second, Ab a65, Ab a97] [.int 1, .long z64, .ref a97] ?_
    refine Ah C S122 hw 145 146 5 147 (Cj l Z a0 hw a97 _ _ _ z64 1 h109 n0 f116 f101 (by decide)) 0 [.ref a97, .long z64, .int 1] [] Bc ?_
    rintro T124 h125 v126 L127 S128 ⟨⟨rfl, e123⟩, -⟩
    rw [e123] at S128; clear e123
    refine Ac C S128 [(140, .ifCond .eq 51, 3), (143, .aload 11, 2), (145, .lload 8, 2), (147, .iconst 2, 1)] 148 #[.val (.long i0), .second, Aa i1, Ab a7, Aa 0, Aa 0, .val (.long (0 : Int64)), .second, .val (.long z64), .second, Ab a65, Ab a97] [.int 2, .long z64, .ref a97] ?_
    refine Ah C S128 hw 145 146 5 147 (Cj l Z a0 hw a97 _ _ _ z64 2 h109 n0 f116 f101 (by decide)) 0 [.ref a97, .long z64, .int 2] [] Bc ?_
    rintro T130 h131 v132 L133 S134 ⟨⟨rfl, e129⟩, -⟩
    rw [e129] at S134; clear e129
    refine Ac C S134 [(151, .ifCond .eq 40, 3), (154, .aload 11, 2), (156, .lload 8, 2), (158, .iconst 3, 1)] 159 #[.val (.long i0), .second, Aa i1, Ab a7, Aa 0, Aa 0, .val (.long (0 : Int64)), .second, .val (.long z64), .second, Ab a65, Ab a97] [.int 3, .long z64, .ref a97] ?_
    refine Ah C S134 hw 145 146 5 147 (Cj l Z a0 hw a97 _ _ _ z64 3 h109 n0 f116 f101 (by decide)) 0 [.ref a97, .long z64, .int 3] [] Bc ?_
    rintro T136 h137 v138 L139 S140 ⟨⟨rfl, e135⟩, -⟩
    rw [e135] at S140; clear e135
    refine Ac C S140 [(162, .ifCond .eq 29, 3), (165, .aload 11, 2), (167, .lload 8, 2), (169, .iconst 4, 1)] 170 #[.val (.long i0), .second, Aa i1, Ab a7, Aa 0, Aa 0, .val (.long (0 : Int64)), .second, .val (.long z64), .second, Ab a65, Ab a97] [.int 4, .long z64, .ref a97] ?_
    refine Ah C S140 hw 145 146 5 147 (Cj l Z a0 hw a97 _ _ _ z64 4 h109 n0 f116 f101 (by decide)) 0 [.ref a97, .long z64, .int 4] [] Bc ?_
    rintro T142 h143 v144 L145 S146 ⟨⟨rfl, e141⟩, -⟩
    rw [e141] at S146; clear e141
    refine Ac C S146 [(173, .ifCond .eq 18, 3), (176, .aload 11, 2), (178, .lload 8, 2), (180, .iconst 5, 1)] 181 #[.val (.long i0), .second, Aa i1, Ab a7, Aa 0, Aa 0, .val (.long (0 : Int64)), .second, .val (.long z64), .second, Ab a65, Ab a97] [.int 5, .long z64, .ref a97] ?_
    refine Ah C S146 hw 145 146 5 147 (Cj l Z a0 hw a97 _ _ _ z64 5 h109 n0 f116 f101 (by decide)) 0 [.ref a97, .long z64, .int 5] [] Bc ?_
    rintro T148 h149 v150 L151 S152 ⟨⟨rfl, e147⟩, -⟩
    rw [e147] at S152; clear e147
    refine Ac C S152 [(184, .ifCond .eq 7, 3), (187, .iconst 1, 1), (188, .goto 4, 3)] 192 #[.val (.long i0), .second, Aa i1, Ab a7, Aa 0, Aa 0, .val (.long (0 : Int64)), .second, .val (.long z64), .second, Ab a65, Ab a97] [.int 1] ?_
    have SW153 := rb115 _ _ _ _ [] [] S152 (Keep.refl _ _) all0 all0
    refine Dj CW SW153 (by decide +kernel) (by decide) (by decide) (by decide) ?_
    rfl
  · rw [show ((i1 &&& 2147483647) % (7 : Int32)) = (1 : Int32) from e7]
    refine Aw C S51 f55 ⟨(by decide), (by decide)⟩ (.int 2) rfl (by decide +kernel) ?_
    refine Ac C S51 [(46, .istore 4, 2), (48, .iload 4, 2), (50, .iconst 3, 1), (51, .imul, 1), (52, .iconst 4, 1)] 53 #[.val (.long i0), .second, Aa i1, Ab a7, Aa 2, .unset, .unset, .unset, .unset, .unset, .unset, .unset] [.int 4, .int 6] ?_
    refine Dc C S51 (by decide +kernel) (by decide) ?_
    refine Ac C S51 [(54, .istore 5, 2), (56, .iload 5, 2), (58, .ifCond .ne 7, 3), (65, .lconst 1, 1), (66, .bipush 8, 2), (68, .iload 5, 2), (70, .imul, 1), (71, .lshl, 1), (72, .lconst 1, 1), (73, .lsub, 1), (74, .bipush 48, 2), (76, .bipush 8, 2), (78, .iload 5, 2), (80, .imul, 1), (81, .isub, 1), (82, .lshl, 1), (83, .lstore 6, 2), (85, .lload_n 0, 1)] 86 #[.val (.long i0), .second, Aa i1, Ab a7, Aa 2, Aa 1, .val (.long ((((1 : Int64) <<< (((8 : Int32) * (1 : Int32)).toInt64 &&& 63)) - (1 : Int64)) <<< (((48 : Int32) - ((8 : Int32) * (1 : Int32))).toInt64 &&& 63))), .second, .unset, .unset, .unset, .unset] [.long i0] ?_
    refine Bz C S51 (ow hw 2 rfl) (by decide +kernel) ?_
    refine Ac C S51 [(89, .land, 1), (90, .lload 6, 2), (92, .land, 1)] 93 #[.val (.long i0), .second, Aa i1, Ab a7, Aa 2, Aa 1, .val (.long ((((1 : Int64) <<< (((8 : Int32) * (1 : Int32)).toInt64 &&& 63)) - (1 : Int64)) <<< (((48 : Int32) - ((8 : Int32) * (1 : Int32))).toInt64 &&& 63))), .second, .unset, .unset, .unset, .unset] [.long ((i0 &&& 281474976710655) &&& ((((1 : Int64) <<< (((8 : Int32) * (1 : Int32)).toInt64 &&& 63)) - (1 : Int64)) <<< (((48 : Int32) - ((8 : Int32) * (1 : Int32))).toInt64 &&& 63)))] ?_
    obtain ⟨z154, hz154⟩ : ∃ y, y = ((i0 &&& 281474976710655) &&& ((((1 : Int64) <<< (((8 : Int32) * (1 : Int32)).toInt64 &&& 63)) - (1 : Int64)) <<< (((48 : Int32) - ((8 : Int32) * (1 : Int32))).toInt64 &&& 63))) := ⟨_, rfl⟩
    rw [← hz154]
    refine Ac C S51 [(93, .lstore 8, 2), (95, .lload 8, 2), (97, .iload 4, 2)] 99 #[.val (.long i0), .second, Aa i1, Ab a7, Aa 2, Aa 1, .val (.long ((((1 : Int64) <<< (((8 : Int32) * (1 : Int32)).toInt64 &&& 63)) - (1 : Int64)) <<< (((48 : Int32) - ((8 : Int32) * (1 : Int32))).toInt64 &&& 63))), .second, .val (.long z154), .second, .unset, .unset] [.int 2, .long z154] ?_
    refine Ah C S51 hw 3 4 5 6 (own_tx2 l Z a0 hw G1 G3 U8 I8 TB DE z154 h52 n0 f63 f56 XS) 0 [.long z154, .int 2] [] Dy ?_
    rintro T165 h166 v167 L168 S169 ⟨⟨a155, a156, k157, rfl, g158, K159, f160, f161, f162, f163, f164⟩, -⟩
    refine Ac C S169 [(102, .astore 10, 2), (104, .aload 10, 2)] 106 #[.val (.long i0), .second, Aa i1, Ab a7, Aa 2, Aa 1, .val (.long ((((1 : Int64) <<< (((8 : Int32) * (1 : Int32)).toInt64 &&& 63)) - (1 : Int64)) <<< (((48 : Int32) - ((8 : Int32) * (1 : Int32))).toInt64 &&& 63))), .second, .val (.long z154), .second, Ab a155, .unset] [.ref a155] ?_
    have f170 := (f56.keep K159 all0)
    have f171 := (f58.keep K159 nin0)
    have f172 := (f59.keep K159)
    have f173 := (f61.keep K159 nin0)
    have f174 := (f62.keep K159 nin0)
    have f175 : n0 ≤ h166.size := (Nat.le_trans f63 K159.1)
    have o186 : h0.size ≤ a7 := by rw [g9]; exact (Nat.le_refl _)
    have o188 : h0.size ≤ h52.size := (by rw [W53.size]; exact (by rw [W47.size]; exact (by rw [W41.size]; exact (by rw [W35.size]; exact (by rw [W29.size]; exact (by rw [W23.size]; exact (by rw [W17.size]; exact (Nat.le_trans (Nat.le_refl _) E10.1))))))))
    have o187 : h0.size ≤ a155 := Nat.le_trans o188 g158
    have f189 : a7 < h166.size := (Nat.lt_of_lt_of_le (by rw [W53.size]; exact (by rw [W47.size]; exact (by rw [W41.size]; exact (by rw [W35.size]; exact (by rw [W29.size]; exact (by rw [W23.size]; exact (by rw [W17.size]; exact f12.lt))))))) K159.1)
    have SW190 := rb3 _ _ _ _ [] [a7, a155] S169 ((((((((((Keep.refl _ _).ext E10).wr W17 (Or.inr o186)).wr W23 (Or.inr o186)).wr W29 (Or.inr o186)).wr W35 (Or.inr o186)).wr W41 (Or.inr o186)).wr W47 (Or.inr o186)).wr W53 (Or.inr o186)).trans K159 all0) all0 (allS ⟨o186, f189⟩ (allS ⟨o187, f160.lt⟩ all0))
    refine Db CW SW190 (ow hw 41 rfl) (ow hw 42 rfl) (ow hw 43 rfl) (ow hw 44 rfl) (by decide) (own_du2 l Z a0 hw hEL wS G1 G3 U8 I8 TB TBk DE a155 _ _ (Ae z154 (0 : Int32)) (Ae z154 (1 : Int32)) h166 n0 f175 f170 f171 f172 f173 f174 f160 f161 f162 f163 f164 XS (Ai _ _) (Ai _ _) (by rw [hz154]; exact own_sp2 i0)) all0 0 (by decide) (by decide) [(.ref a155)] [] rfl Cu rfl rfl rfl (Am rfl) (by decide) (by decide) (by decide +kernel) ?_
    rintro T191 h192 v193 SW194 hg195 ⟨a176, k177, rfl, g178, K179, f180⟩
    refine Bv CW SW194 ?_
    intro vm196 C S197 rb198
    refine Ac C S197 [(109, .astore 11, 2), (111, .aload 11, 2)] 113 #[.val (.long i0), .second, Aa i1, Ab a7, Aa 2, Aa 1, .val (.long ((((1 : Int64) <<< (((8 : Int32) * (1 : Int32)).toInt64 &&& 63)) - (1 : Int64)) <<< (((48 : Int32) - ((8 : Int32) * (1 : Int32))).toInt64 &&& 63))), .second, .val (.long z154), .second, Ab a155, Ab a176] [.ref a176] ?_
    refine Ay C S197 f180 (by decide +kernel) ?_
    refine Ac C S197 [(114, .iload 5, 2), (116, .if_icmp .eq 5, 3), (121, .aload 11, 2), (123, .lload 8, 2), (125, .iconst 0, 1)] 126 #[.val (.long i0), .second, Aa i1, Ab a7, Aa 2, Aa 1, .val (.long ((((1 : Int64) <<< (((8 : Int32) * (1 : Int32)).toInt64 &&& 63)) - (1 : Int64)) <<< (((48 : Int32) - ((8 : Int32) * (1 : Int32))).toInt64 &&& 63))), .second, .val (.long z154), .second, Ab a155, Ab a176] [.int 0, .long z154, .ref a176] ?_
    have f199 : n0 ≤ h192.size := (Nat.le_trans f175 K179.1)
    refine Ah C S197 hw 145 146 5 147 (Ck l Z a0 hw a176 _ _ _ z154 0 (Be (Df (Ae z154 (0 : Int32)) (Ae z154 (1 : Int32)))) h192 n0 f199 f180 (⟨(by decide), (by decide)⟩) rfl (own_k20 _)) 0 [.ref a176, .long z154, .int 0] [] Bc ?_
    rintro T201 h202 v203 L204 S205 ⟨⟨rfl, e200⟩, -⟩
    rw [e200] at S205; clear e200
    refine Ac C S205 [(129, .ifCond .eq 62, 3), (132, .aload 11, 2), (134, .lload 8, 2), (136, .iconst 1, 1)] 137 #[.val (.long i0), .second, Aa i1, Ab a7, Aa 2, Aa 1, .val (.long ((((1 : Int64) <<< (((8 : Int32) * (1 : Int32)).toInt64 &&& 63)) - (1 : Int64)) <<< (((48 : Int32) - ((8 : Int32) * (1 : Int32))).toInt64 &&& 63))), .second, .val (.long z154), .second, Ab a155, Ab a176] [.int 1, .long z154, .ref a176] ?_
    refine Ah C S205 hw 145 146 5 147 (Cj l Z a0 hw a176 _ _ _ z154 1 h192 n0 f199 f180 (by decide)) 0 [.ref a176, .long z154, .int 1] [] Bc ?_
    rintro T207 h208 v209 L210 S211 ⟨⟨rfl, e206⟩, -⟩
    rw [e206] at S211; clear e206
    refine Ac C S211 [(140, .ifCond .eq 51, 3), (143, .aload 11, 2), (145, .lload 8, 2), (147, .iconst 2, 1)] 148 #[.val (.long i0), .second, Aa i1, Ab a7, Aa 2, Aa 1, .val (.long ((((1 : Int64) <<< (((8 : Int32) * (1 : Int32)).toInt64 &&& 63)) - (1 : Int64)) <<< (((48 : Int32) - ((8 : Int32) * (1 : Int32))).toInt64 &&& 63))), .second, .val (.long z154), .second, Ab a155, Ab a176] [.int 2, .long z154, .ref a176] ?_
    refine Ah C S211 hw 145 146 5 147 (Cj l Z a0 hw a176 _ _ _ z154 2 h192 n0 f199 f180 (by decide)) 0 [.ref a176, .long z154, .int 2] [] Bc ?_
    rintro T213 h214 v215 L216 S217 ⟨⟨rfl, e212⟩, -⟩
    rw [e212] at S217; clear e212
    refine Ac C S217 [(151, .ifCond .eq 40, 3), (154, .aload 11, 2), (156, .lload 8, 2), (158, .iconst 3, 1)] 159 #[.val (.long i0), .second, Aa i1, Ab a7, Aa 2, Aa 1, .val (.long ((((1 : Int64) <<< (((8 : Int32) * (1 : Int32)).toInt64 &&& 63)) - (1 : Int64)) <<< (((48 : Int32) - ((8 : Int32) * (1 : Int32))).toInt64 &&& 63))), .second, .val (.long z154), .second, Ab a155, Ab a176] [.int 3, .long z154, .ref a176] ?_
    refine Ah C S217 hw 145 146 5 147 (Cj l Z a0 hw a176 _ _ _ z154 3 h192 n0 f199 f180 (by decide)) 0 [.ref a176, .long z154, .int 3] [] Bc ?_
    rintro T219 h220 v221 L222 S223 ⟨⟨rfl, e218⟩, -⟩
    rw [e218] at S223; clear e218
    refine Ac C S223 [(162, .ifCond .eq 29, 3), (165, .aload 11, 2), (167, .lload 8, 2), (169, .iconst 4, 1)] 170 #[.val (.long i0), .second, Aa i1, Ab a7, Aa 2, Aa 1, .val (.long ((((1 : Int64) <<< (((8 : Int32) * (1 : Int32)).toInt64 &&& 63)) - (1 : Int64)) <<< (((48 : Int32) - ((8 : Int32) * (1 : Int32))).toInt64 &&& 63))), .second, .val (.long z154), .second, Ab a155, Ab a176] [.int 4, .long z154, .ref a176] ?_
    refine Ah C S223 hw 145 146 5 147 (Cj l Z a0 hw a176 _ _ _ z154 4 h192 n0 f199 f180 (by decide)) 0 [.ref a176, .long z154, .int 4] [] Bc ?_
    rintro T225 h226 v227 L228 S229 ⟨⟨rfl, e224⟩, -⟩
    rw [e224] at S229; clear e224
    refine Ac C S229 [(173, .ifCond .eq 18, 3), (176, .aload 11, 2), (178, .lload 8, 2), (180, .iconst 5, 1)] 181 #[.val (.long i0), .second, Aa i1, Ab a7, Aa 2, Aa 1, .val (.long ((((1 : Int64) <<< (((8 : Int32) * (1 : Int32)).toInt64 &&& 63)) - (1 : Int64)) <<< (((48 : Int32) - ((8 : Int32) * (1 : Int32))).toInt64 &&& 63))), .second, .val (.long z154), .second, Ab a155, Ab a176] [.int 5, .long z154, .ref a176] ?_
    refine Ah C S229 hw 145 146 5 147 (Cj l Z a0 hw a176 _ _ _ z154 5 h192 n0 f199 f180 (by decide)) 0 [.ref a176, .long z154, .int 5] [] Bc ?_
    rintro T231 h232 v233 L234 S235 ⟨⟨rfl, e230⟩, -⟩
    rw [e230] at S235; clear e230
    refine Ac C S235 [(184, .ifCond .eq 7, 3), (187, .iconst 1, 1), (188, .goto 4, 3)] 192 #[.val (.long i0), .second, Aa i1, Ab a7, Aa 2, Aa 1, .val (.long ((((1 : Int64) <<< (((8 : Int32) * (1 : Int32)).toInt64 &&& 63)) - (1 : Int64)) <<< (((48 : Int32) - ((8 : Int32) * (1 : Int32))).toInt64 &&& 63))), .second, .val (.long z154), .second, Ab a155, Ab a176] [.int 1] ?_
    have SW236 := rb198 _ _ _ _ [] [] S235 (Keep.refl _ _) all0 all0
    refine Dj CW SW236 (by decide +kernel) (by decide) (by decide) (by decide) ?_
    rfl
  · rw [show ((i1 &&& 2147483647) % (7 : Int32)) = (2 : Int32) from e7]
    refine Aw C S51 f55 ⟨(by decide), (by decide)⟩ (.int 3) rfl (by decide +kernel) ?_
    refine Ac C S51 [(46, .istore 4, 2), (48, .iload 4, 2), (50, .iconst 3, 1), (51, .imul, 1), (52, .iconst 4, 1)] 53 #[.val (.long i0), .second, Aa i1, Ab a7, Aa 3, .unset, .unset, .unset, .unset, .unset, .unset, .unset] [.int 4, .int 9] ?_
    refine Dc C S51 (by decide +kernel) (by decide) ?_
    refine Ac C S51 [(54, .istore 5, 2), (56, .iload 5, 2), (58, .ifCond .ne 7, 3), (65, .lconst 1, 1), (66, .bipush 8, 2), (68, .iload 5, 2), (70, .imul, 1), (71, .lshl, 1), (72, .lconst 1, 1), (73, .lsub, 1), (74, .bipush 48, 2), (76, .bipush 8, 2), (78, .iload 5, 2), (80, .imul, 1), (81, .isub, 1), (82, .lshl, 1), (83, .lstore 6, 2), (85, .lload_n 0, 1)] 86 #[.val (.long i0), .second, Aa i1, Ab a7, Aa 3, Aa 2, .val (.long ((((1 : Int64) <<< (((8 : Int32) * (2 : Int32)).toInt64 &&& 63)) - (1 : Int64)) <<< (((48 : Int32) - ((8 : Int32) * (2 : Int32))).toInt64 &&& 63))), .second, .unset, .unset, .unset, .unset] [.long i0] ?_
    refine Bz C S51 (ow hw 2 rfl) (by decide +kernel) ?_
    refine Ac C S51 [(89, .land, 1), (90, .lload 6, 2), (92, .land, 1)] 93 #[.val (.long i0), .second, Aa i1, Ab a7, Aa 3, Aa 2, .val (.long ((((1 : Int64) <<< (((8 : Int32) * (2 : Int32)).toInt64 &&& 63)) - (1 : Int64)) <<< (((48 : Int32) - ((8 : Int32) * (2 : Int32))).toInt64 &&& 63))), .second, .unset, .unset, .unset, .unset] [.long ((i0 &&& 281474976710655) &&& ((((1 : Int64) <<< (((8 : Int32) * (2 : Int32)).toInt64 &&& 63)) - (1 : Int64)) <<< (((48 : Int32) - ((8 : Int32) * (2 : Int32))).toInt64 &&& 63)))] ?_
    obtain ⟨z237, hz237⟩ : ∃ y, y = ((i0 &&& 281474976710655) &&& ((((1 : Int64) <<< (((8 : Int32) * (2 : Int32)).toInt64 &&& 63)) - (1 : Int64)) <<< (((48 : Int32) - ((8 : Int32) * (2 : Int32))).toInt64 &&& 63))) := ⟨_, rfl⟩
    rw [← hz237]
    refine Ac C S51 [(93, .lstore 8, 2), (95, .lload 8, 2), (97, .iload 4, 2)] 99 #[.val (.long i0), .second, Aa i1, Ab a7, Aa 3, Aa 2, .val (.long ((((1 : Int64) <<< (((8 : Int32) * (2 : Int32)).toInt64 &&& 63)) - (1 : Int64)) <<< (((48 : Int32) - ((8 : Int32) * (2 : Int32))).toInt64 &&& 63))), .second, .val (.long z237), .second, .unset, .unset] [.int 3, .long z237] ?_
    refine Ah C S51 hw 3 4 5 6 (own_tx3 l Z a0 hw G1 G3 U8 I8 TB DE z237 h52 n0 f63 f56 XS) 0 [.long z237, .int 3] [] Dy ?_
    rintro T248 h249 v250 L251 S252 ⟨⟨a238, a239, k240, rfl, g241, K242, f243, f244, f245, f246, f247⟩, -⟩
    refine Ac C S252 [(102, .astore 10, 2), (104, .aload 10, 2)] 106 #[.val (.long i0), .second, Aa i1, Ab a7, Aa 3, Aa 2, .val (.long ((((1 : Int64) <<< (((8 : Int32) * (2 : Int32)).toInt64 &&& 63)) - (1 : Int64)) <<< (((48 : Int32) - ((8 : Int32) * (2 : Int32))).toInt64 &&& 63))), .second, .val (.long z237), .second, Ab a238, .unset] [.ref a238] ?_
    have f253 := (f56.keep K242 all0)
    have f254 := (f58.keep K242 nin0)
    have f255 := (f59.keep K242)
    have f256 := (f61.keep K242 nin0)
    have f257 := (f62.keep K242 nin0)
    have f258 : n0 ≤ h249.size := (Nat.le_trans f63 K242.1)
    have o269 : h0.size ≤ a7 := by rw [g9]; exact (Nat.le_refl _)
    have o271 : h0.size ≤ h52.size := (by rw [W53.size]; exact (by rw [W47.size]; exact (by rw [W41.size]; exact (by rw [W35.size]; exact (by rw [W29.size]; exact (by rw [W23.size]; exact (by rw [W17.size]; exact (Nat.le_trans (Nat.le_refl _) E10.1))))))))
    have o270 : h0.size ≤ a238 := Nat.le_trans o271 g241
    have f272 : a7 < h249.size := (Nat.lt_of_lt_of_le (by rw [W53.size]; exact (by rw [W47.size]; exact (by rw [W41.size]; exact (by rw [W35.size]; exact (by rw [W29.size]; exact (by rw [W23.size]; exact (by rw [W17.size]; exact f12.lt))))))) K242.1)
    have SW273 := rb3 _ _ _ _ [] [a7, a238] S252 ((((((((((Keep.refl _ _).ext E10).wr W17 (Or.inr o269)).wr W23 (Or.inr o269)).wr W29 (Or.inr o269)).wr W35 (Or.inr o269)).wr W41 (Or.inr o269)).wr W47 (Or.inr o269)).wr W53 (Or.inr o269)).trans K242 all0) all0 (allS ⟨o269, f272⟩ (allS ⟨o270, f243.lt⟩ all0))
    refine Db CW SW273 (ow hw 41 rfl) (ow hw 42 rfl) (ow hw 43 rfl) (ow hw 44 rfl) (by decide) (own_du3 l Z a0 hw hEL wS G1 G3 U8 I8 TB TBk DE a238 _ _ (Ae z237 (0 : Int32)) (Ae z237 (1 : Int32)) (Ae z237 (2 : Int32)) h249 n0 f258 f253 f254 f255 f256 f257 f243 f244 f245 f246 f247 XS (Ai _ _) (Ai _ _) (Ai _ _) (by rw [hz237]; exact own_sp3 i0)) all0 0 (by decide) (by decide) [(.ref a238)] [] rfl Cu rfl rfl rfl (Am rfl) (by decide) (by decide) (by decide +kernel) ?_
    rintro T274 h275 v276 SW277 hg278 ⟨a259, k260, rfl, g261, K262, f263⟩
    refine Bv CW SW277 ?_
    intro vm279 C S280 rb281
    refine Ac C S280 [(109, .astore 11, 2), (111, .aload 11, 2)] 113 #[.val (.long i0), .second, Aa i1, Ab a7, Aa 3, Aa 2, .val (.long ((((1 : Int64) <<< (((8 : Int32) * (2 : Int32)).toInt64 &&& 63)) - (1 : Int64)) <<< (((48 : Int32) - ((8 : Int32) * (2 : Int32))).toInt64 &&& 63))), .second, .val (.long z237), .second, Ab a238, Ab a259] [.ref a259] ?_
    refine Ay C S280 f263 (by decide +kernel) ?_
    refine Ac C S280 [(114, .iload 5, 2), (116, .if_icmp .eq 5, 3), (121, .aload 11, 2), (123, .lload 8, 2), (125, .iconst 0, 1)] 126 #[.val (.long i0), .second, Aa i1, Ab a7, Aa 3, Aa 2, .val (.long ((((1 : Int64) <<< (((8 : Int32) * (2 : Int32)).toInt64 &&& 63)) - (1 : Int64)) <<< (((48 : Int32) - ((8 : Int32) * (2 : Int32))).toInt64 &&& 63))), .second, .val (.long z237), .second, Ab a238, Ab a259] [.int 0, .long z237, .ref a259] ?_
    have f282 : n0 ≤ h275.size := (Nat.le_trans f258 K262.1)
    refine Ah C S280 hw 145 146 5 147 (Ck l Z a0 hw a259 _ _ _ z237 0 (Be (Ch (Ae z237 (0 : Int32)) (Ae z237 (1 : Int32)) (Ae z237 (2 : Int32)))) h275 n0 f282 f263 (⟨(by decide), (by decide)⟩) rfl (own_k30 _)) 0 [.ref a259, .long z237, .int 0] [] Bc ?_
    rintro T284 h285 v286 L287 S288 ⟨⟨rfl, e283⟩, -⟩
    rw [e283] at S288; clear e283
    refine Ac C S288 [(129, .ifCond .eq 62, 3), (132, .aload 11, 2), (134, .lload 8, 2), (136, .iconst 1, 1)] 137 #[.val (.long i0), .second, Aa i1, Ab a7, Aa 3, Aa 2, .val (.long ((((1 : Int64) <<< (((8 : Int32) * (2 : Int32)).toInt64 &&& 63)) - (1 : Int64)) <<< (((48 : Int32) - ((8 : Int32) * (2 : Int32))).toInt64 &&& 63))), .second, .val (.long z237), .second, Ab a238, Ab a259] [.int 1, .long z237, .ref a259] ?_
    refine Ah C S288 hw 145 146 5 147 (Ck l Z a0 hw a259 _ _ _ z237 1 (Bn (Ch (Ae z237 (0 : Int32)) (Ae z237 (1 : Int32)) (Ae z237 (2 : Int32)))) h275 n0 f282 f263 (⟨(by decide), (by decide)⟩) rfl (own_k31 _)) 0 [.ref a259, .long z237, .int 1] [] Bc ?_
    rintro T290 h291 v292 L293 S294 ⟨⟨rfl, e289⟩, -⟩
    rw [e289] at S294; clear e289
    refine Ac C S294 [(140, .ifCond .eq 51, 3), (143, .aload 11, 2), (145, .lload 8, 2), (147, .iconst 2, 1)] 148 #[.val (.long i0), .second, Aa i1, Ab a7, Aa 3, Aa 2, .val (.long ((((1 : Int64) <<< (((8 : Int32) * (2 : Int32)).toInt64 &&& 63)) - (1 : Int64)) <<< (((48 : Int32) - ((8 : Int32) * (2 : Int32))).toInt64 &&& 63))), .second, .val (.long z237), .second, Ab a238, Ab a259] [.int 2, .long z237, .ref a259] ?_
    refine Ah C S294 hw 145 146 5 147 (Cj l Z a0 hw a259 _ _ _ z237 2 h275 n0 f282 f263 (by decide)) 0 [.ref a259, .long z237, .int 2] [] Bc ?_
    rintro T296 h297 v298 L299 S300 ⟨⟨rfl, e295⟩, -⟩
    rw [e295] at S300; clear e295
    refine Ac C S300 [(151, .ifCond .eq 40, 3), (154, .aload 11, 2), (156, .lload 8, 2), (158, .iconst 3, 1)] 159 #[.val (.long i0), .second, Aa i1, Ab a7, Aa 3, Aa 2, .val (.long ((((1 : Int64) <<< (((8 : Int32) * (2 : Int32)).toInt64 &&& 63)) - (1 : Int64)) <<< (((48 : Int32) - ((8 : Int32) * (2 : Int32))).toInt64 &&& 63))), .second, .val (.long z237), .second, Ab a238, Ab a259] [.int 3, .long z237, .ref a259] ?_
    refine Ah C S300 hw 145 146 5 147 (Cj l Z a0 hw a259 _ _ _ z237 3 h275 n0 f282 f263 (by decide)) 0 [.ref a259, .long z237, .int 3] [] Bc ?_
    rintro T302 h303 v304 L305 S306 ⟨⟨rfl, e301⟩, -⟩
    rw [e301] at S306; clear e301
    refine Ac C S306 [(162, .ifCond .eq 29, 3), (165, .aload 11, 2), (167, .lload 8, 2), (169, .iconst 4, 1)] 170 #[.val (.long i0), .second, Aa i1, Ab a7, Aa 3, Aa 2, .val (.long ((((1 : Int64) <<< (((8 : Int32) * (2 : Int32)).toInt64 &&& 63)) - (1 : Int64)) <<< (((48 : Int32) - ((8 : Int32) * (2 : Int32))).toInt64 &&& 63))), .second, .val (.long z237), .second, Ab a238, Ab a259] [.int 4, .long z237, .ref a259] ?_
    refine Ah C S306 hw 145 146 5 147 (Cj l Z a0 hw a259 _ _ _ z237 4 h275 n0 f282 f263 (by decide)) 0 [.ref a259, .long z237, .int 4] [] Bc ?_
    rintro T308 h309 v310 L311 S312 ⟨⟨rfl, e307⟩, -⟩
    rw [e307] at S312; clear e307
    refine Ac C S312 [(173, .ifCond .eq 18, 3), (176, .aload 11, 2), (178, .lload 8, 2), (180, .iconst 5, 1)] 181 #[.val (.long i0), .second, Aa i1, Ab a7, Aa 3, Aa 2, .val (.long ((((1 : Int64) <<< (((8 : Int32) * (2 : Int32)).toInt64 &&& 63)) - (1 : Int64)) <<< (((48 : Int32) - ((8 : Int32) * (2 : Int32))).toInt64 &&& 63))), .second, .val (.long z237), .second, Ab a238, Ab a259] [.int 5, .long z237, .ref a259] ?_
    refine Ah C S312 hw 145 146 5 147 (Cj l Z a0 hw a259 _ _ _ z237 5 h275 n0 f282 f263 (by decide)) 0 [.ref a259, .long z237, .int 5] [] Bc ?_
    rintro T314 h315 v316 L317 S318 ⟨⟨rfl, e313⟩, -⟩
    rw [e313] at S318; clear e313
    refine Ac C S318 [(184, .ifCond .eq 7, 3), (187, .iconst 1, 1), (188, .goto 4, 3)] 192 #[.val (.long i0), .second, Aa i1, Ab a7, Aa 3, Aa 2, .val (.long ((((1 : Int64) <<< (((8 : Int32) * (2 : Int32)).toInt64 &&& 63)) - (1 : Int64)) <<< (((48 : Int32) - ((8 : Int32) * (2 : Int32))).toInt64 &&& 63))), .second, .val (.long z237), .second, Ab a238, Ab a259] [.int 1] ?_
    have SW319 := rb281 _ _ _ _ [] [] S318 (Keep.refl _ _) all0 all0
    refine Dj CW SW319 (by decide +kernel) (by decide) (by decide) (by decide) ?_
    rfl
  · rw [show ((i1 &&& 2147483647) % (7 : Int32)) = (3 : Int32) from e7]
    refine Aw C S51 f55 ⟨(by decide), (by decide)⟩ (.int 4) rfl (by decide +kernel) ?_
    refine Ac C S51 [(46, .istore 4, 2), (48, .iload 4, 2), (50, .iconst 3, 1), (51, .imul, 1), (52, .iconst 4, 1)] 53 #[.val (.long i0), .second, Aa i1, Ab a7, Aa 4, .unset, .unset, .unset, .unset, .unset, .unset, .unset] [.int 4, .int 12] ?_
    refine Dc C S51 (by decide +kernel) (by decide) ?_
    refine Ac C S51 [(54, .istore 5, 2), (56, .iload 5, 2), (58, .ifCond .ne 7, 3), (65, .lconst 1, 1), (66, .bipush 8, 2), (68, .iload 5, 2), (70, .imul, 1), (71, .lshl, 1), (72, .lconst 1, 1), (73, .lsub, 1), (74, .bipush 48, 2), (76, .bipush 8, 2), (78, .iload 5, 2), (80, .imul, 1), (81, .isub, 1), (82, .lshl, 1), (83, .lstore 6, 2), (85, .lload_n 0, 1)] 86 #[.val (.long i0), .second, Aa i1, Ab a7, Aa 4, Aa 3, .val (.long ((((1 : Int64) <<< (((8 : Int32) * (3 : Int32)).toInt64 &&& 63)) - (1 : Int64)) <<< (((48 : Int32) - ((8 : Int32) * (3 : Int32))).toInt64 &&& 63))), .second, .unset, .unset, .unset, .unset] [.long i0] ?_
    refine Bz C S51 (ow hw 2 rfl) (by decide +kernel) ?_
    refine Ac C S51 [(89, .land, 1), (90, .lload 6, 2), (92, .land, 1)] 93 #[.val (.long i0), .second, Aa i1, Ab a7, Aa 4, Aa 3, .val (.long ((((1 : Int64) <<< (((8 : Int32) * (3 : Int32)).toInt64 &&& 63)) - (1 : Int64)) <<< (((48 : Int32) - ((8 : Int32) * (3 : Int32))).toInt64 &&& 63))), .second, .unset, .unset, .unset, .unset] [.long ((i0 &&& 281474976710655) &&& ((((1 : Int64) <<< (((8 : Int32) * (3 : Int32)).toInt64 &&& 63)) - (1 : Int64)) <<< (((48 : Int32) - ((8 : Int32) * (3 : Int32))).toInt64 &&& 63)))] ?_
    obtain ⟨z320, hz320⟩ : ∃ y, y = ((i0 &&& 281474976710655) &&& ((((1 : Int64) <<< (((8 : Int32) * (3 : Int32)).toInt64 &&& 63)) - (1 : Int64)) <<< (((48 : Int32) - ((8 : Int32) * (3 : Int32))).toInt64 &&& 63))) := ⟨_, rfl⟩
    rw [← hz320]
    refine Ac C S51 [(93, .lstore 8, 2), (95, .lload 8, 2), (97, .iload 4, 2)] 99 #[.val (.long i0), .second, Aa i1, Ab a7, Aa 4, Aa 3, .val (.long ((((1 : Int64) <<< (((8 : Int32) * (3 : Int32)).toInt64 &&& 63)) - (1 : Int64)) <<< (((48 : Int32) - ((8 : Int32) * (3 : Int32))).toInt64 &&& 63))), .second, .val (.long z320), .second, .unset, .unset] [.int 4, .long z320] ?_
    refine Ah C S51 hw 3 4 5 6 (own_tx4 l Z a0 hw G1 G3 U8 I8 TB DE z320 h52 n0 f63 f56 XS) 0 [.long z320, .int 4] [] Dy ?_
    rintro T331 h332 v333 L334 S335 ⟨⟨a321, a322, k323, rfl, g324, K325, f326, f327, f328, f329, f330⟩, -⟩
    refine Ac C S335 [(102, .astore 10, 2), (104, .aload 10, 2)] 106 #[.val (.long i0), .second, Aa i1, Ab a7, Aa 4, Aa 3, .val (.long ((((1 : Int64) <<< (((8 : Int32) * (3 : Int32)).toInt64 &&& 63)) - (1 : Int64)) <<< (((48 : Int32) - ((8 : Int32) * (3 : Int32))).toInt64 &&& 63))), .second, .val (.long z320), .second, Ab a321, .unset] [.ref a321] ?_
    have f336 := (f56.keep K325 all0)
    have f337 := (f58.keep K325 nin0)
    have f338 := (f59.keep K325)
    have f339 := (f61.keep K325 nin0)
    have f340 := (f62.keep K325 nin0)
    have f341 : n0 ≤ h332.size := (Nat.le_trans f63 K325.1)
    have o352 : h0.size ≤ a7 := by rw [g9]; exact (Nat.le_refl _)
    have o354 : h0.size ≤ h52.size := (by rw [W53.size]; exact (by rw [W47.size]; exact (by rw [W41.size]; exact (by rw [W35.size]; exact (by rw [W29.size]; exact (by rw [W23.size]; exact (by rw [W17.size]; exact (Nat.le_trans (Nat.le_refl _) E10.1))))))))
    have o353 : h0.size ≤ a321 := Nat.le_trans o354 g324
    have f355 : a7 < h332.size := (Nat.lt_of_lt_of_le (by rw [W53.size]; exact (by rw [W47.size]; exact (by rw [W41.size]; exact (by rw [W35.size]; exact (by rw [W29.size]; exact (by rw [W23.size]; exact (by rw [W17.size]; exact f12.lt))))))) K325.1)
    have SW356 := rb3 _ _ _ _ [] [a7, a321] S335 ((((((((((Keep.refl _ _).ext E10).wr W17 (Or.inr o352)).wr W23 (Or.inr o352)).wr W29 (Or.inr o352)).wr W35 (Or.inr o352)).wr W41 (Or.inr o352)).wr W47 (Or.inr o352)).wr W53 (Or.inr o352)).trans K325 all0) all0 (allS ⟨o352, f355⟩ (allS ⟨o353, f326.lt⟩ all0))
    refine Db CW SW356 (ow hw 41 rfl) (ow hw 42 rfl) (ow hw 43 rfl) (ow hw 44 rfl) (by decide) (own_du4 l Z a0 hw hEL wS G1 G3 U8 I8 TB TBk DE a321 _ _ (Ae z320 (0 : Int32)) (Ae z320 (1 : Int32)) (Ae z320 (2 : Int32)) (Ae z320 (3 : Int32)) h332 n0 f341 f336 f337 f338 f339 f340 f326 f327 f328 f329 f330 XS (Ai _ _) (Ai _ _) (Ai _ _) (Ai _ _)) all0 0 (by decide) (by decide) [(.ref a321)] [] rfl Cu rfl rfl rfl (Am rfl) (by decide) (by decide) (by decide +kernel) ?_
    rintro T357 h358 v359 SW360 hg361 ⟨a342, k343, rfl, g344, K345, f346⟩
    refine Bv CW SW360 ?_
    intro vm362 C S363 rb364
    refine Ac C S363 [(109, .astore 11, 2), (111, .aload 11, 2)] 113 #[.val (.long i0), .second, Aa i1, Ab a7, Aa 4, Aa 3, .val (.long ((((1 : Int64) <<< (((8 : Int32) * (3 : Int32)).toInt64 &&& 63)) - (1 : Int64)) <<< (((48 : Int32) - ((8 : Int32) * (3 : Int32))).toInt64 &&& 63))), .second, .val (.long z320), .second, Ab a321, Ab a342] [.ref a342] ?_
    refine Ay C S363 f346 (by decide +kernel) ?_
    refine Ac C S363 [(114, .iload 5, 2), (116, .if_icmp .eq 5, 3), (121, .aload 11, 2), (123, .lload 8, 2), (125, .iconst 0, 1)] 126 #[.val (.long i0), .second, Aa i1, Ab a7, Aa 4, Aa 3, .val (.long ((((1 : Int64) <<< (((8 : Int32) * (3 : Int32)).toInt64 &&& 63)) - (1 : Int64)) <<< (((48 : Int32) - ((8 : Int32) * (3 : Int32))).toInt64 &&& 63))), .second, .val (.long z320), .second, Ab a321, Ab a342] [.int 0, .long z320, .ref a342] ?_
    have f365 : n0 ≤ h358.size := (Nat.le_trans f341 K345.1)
    refine Ah C S363 hw 145 146 5 147 (Ck l Z a0 hw a342 _ _ _ z320 0 (Be (Cx (Ae z320 (0 : Int32)) (Ae z320 (1 : Int32)) (Ae z320 (2 : Int32)) (Ae z320 (3 : Int32)))) h358 n0 f365 f346 (⟨(by decide), (by decide)⟩) rfl (own_k40 _)) 0 [.ref a342, .long z320, .int 0] [] Bc ?_
    rintro T367 h368 v369 L370 S371 ⟨⟨rfl, e366⟩, -⟩
    rw [e366] at S371; clear e366
    refine Ac C S371 [(129, .ifCond .eq 62, 3), (132, .aload 11, 2), (134, .lload 8, 2), (136, .iconst 1, 1)] 137 #[.val (.long i0), .second, Aa i1, Ab a7, Aa 4, Aa 3, .val (.long ((((1 : Int64) <<< (((8 : Int32) * (3 : Int32)).toInt64 &&& 63)) - (1 : Int64)) <<< (((48 : Int32) - ((8 : Int32) * (3 : Int32))).toInt64 &&& 63))), .second, .val (.long z320), .second, Ab a321, Ab a342] [.int 1, .long z320, .ref a342] ?_
    refine Ah C S371 hw 145 146 5 147 (Ck l Z a0 hw a342 _ _ _ z320 1 (Bn (Cx (Ae z320 (0 : Int32)) (Ae z320 (1 : Int32)) (Ae z320 (2 : Int32)) (Ae z320 (3 : Int32)))) h358 n0 f365 f346 (⟨(by decide), (by decide)⟩) rfl (own_k41 _)) 0 [.ref a342, .long z320, .int 1] [] Bc ?_
    rintro T373 h374 v375 L376 S377 ⟨⟨rfl, e372⟩, -⟩
    rw [e372] at S377; clear e372
    refine Ac C S377 [(140, .ifCond .eq 51, 3), (143, .aload 11, 2), (145, .lload 8, 2), (147, .iconst 2, 1)] 148 #[.val (.long i0), .second, Aa i1, Ab a7, Aa 4, Aa 3, .val (.long ((((1 : Int64) <<< (((8 : Int32) * (3 : Int32)).toInt64 &&& 63)) - (1 : Int64)) <<< (((48 : Int32) - ((8 : Int32) * (3 : Int32))).toInt64 &&& 63))), .second, .val (.long z320), .second, Ab a321, Ab a342] [.int 2, .long z320, .ref a342] ?_
    refine Ah C S377 hw 145 146 5 147 (Ck l Z a0 hw a342 _ _ _ z320 2 (Bw (Cx (Ae z320 (0 : Int32)) (Ae z320 (1 : Int32)) (Ae z320 (2 : Int32)) (Ae z320 (3 : Int32)))) h358 n0 f365 f346 (⟨(by decide), (by decide)⟩) rfl (own_k42 _)) 0 [.ref a342, .long z320, .int 2] [] Bc ?_
    rintro T379 h380 v381 L382 S383 ⟨⟨rfl, e378⟩, -⟩
    rw [e378] at S383; clear e378
    refine Ac C S383 [(151, .ifCond .eq 40, 3), (154, .aload 11, 2), (156, .lload 8, 2), (158, .iconst 3, 1)] 159 #[.val (.long i0), .second, Aa i1, Ab a7, Aa 4, Aa 3, .val (.long ((((1 : Int64) <<< (((8 : Int32) * (3 : Int32)).toInt64 &&& 63)) - (1 : Int64)) <<< (((48 : Int32) - ((8 : Int32) * (3 : Int32))).toInt64 &&& 63))), .second, .val (.long z320), .second, Ab a321, Ab a342] [.int 3, .long z320, .ref a342] ?_
    refine Ah C S383 hw 145 146 5 147 (Cj l Z a0 hw a342 _ _ _ z320 3 h358 n0 f365 f346 (by decide)) 0 [.ref a342, .long z320, .int 3] [] Bc ?_
    rintro T385 h386 v387 L388 S389 ⟨⟨rfl, e384⟩, -⟩
    rw [e384] at S389; clear e384
    refine Ac C S389 [(162, .ifCond .eq 29, 3), (165, .aload 11, 2), (167, .lload 8, 2), (169, .iconst 4, 1)] 170 #[.val (.long i0), .second, Aa i1, Ab a7, Aa 4, Aa 3, .val (.long ((((1 : Int64) <<< (((8 : Int32) * (3 : Int32)).toInt64 &&& 63)) - (1 : Int64)) <<< (((48 : Int32) - ((8 : Int32) * (3 : Int32))).toInt64 &&& 63))), .second, .val (.long z320), .second, Ab a321, Ab a342] [.int 4, .long z320, .ref a342] ?_
    refine Ah C S389 hw 145 146 5 147 (Cj l Z a0 hw a342 _ _ _ z320 4 h358 n0 f365 f346 (by decide)) 0 [.ref a342, .long z320, .int 4] [] Bc ?_
    rintro T391 h392 v393 L394 S395 ⟨⟨rfl, e390⟩, -⟩
    rw [e390] at S395; clear e390
    refine Ac C S395 [(173, .ifCond .eq 18, 3), (176, .aload 11, 2), (178, .lload 8, 2), (180, .iconst 5, 1)] 181 #[.val (.long i0), .second, Aa i1, Ab a7, Aa 4, Aa 3, .val (.long ((((1 : Int64) <<< (((8 : Int32) * (3 : Int32)).toInt64 &&& 63)) - (1 : Int64)) <<< (((48 : Int32) - ((8 : Int32) * (3 : Int32))).toInt64 &&& 63))), .second, .val (.long z320), .second, Ab a321, Ab a342] [.int 5, .long z320, .ref a342] ?_
    refine Ah C S395 hw 145 146 5 147 (Cj l Z a0 hw a342 _ _ _ z320 5 h358 n0 f365 f346 (by decide)) 0 [.ref a342, .long z320, .int 5] [] Bc ?_
    rintro T397 h398 v399 L400 S401 ⟨⟨rfl, e396⟩, -⟩
    rw [e396] at S401; clear e396
    refine Ac C S401 [(184, .ifCond .eq 7, 3), (187, .iconst 1, 1), (188, .goto 4, 3)] 192 #[.val (.long i0), .second, Aa i1, Ab a7, Aa 4, Aa 3, .val (.long ((((1 : Int64) <<< (((8 : Int32) * (3 : Int32)).toInt64 &&& 63)) - (1 : Int64)) <<< (((48 : Int32) - ((8 : Int32) * (3 : Int32))).toInt64 &&& 63))), .second, .val (.long z320), .second, Ab a321, Ab a342] [.int 1] ?_
    have SW402 := rb364 _ _ _ _ [] [] S401 (Keep.refl _ _) all0 all0
    refine Dj CW SW402 (by decide +kernel) (by decide) (by decide) (by decide) ?_
    rfl
  · rw [show ((i1 &&& 2147483647) % (7 : Int32)) = (4 : Int32) from e7]
    refine Aw C S51 f55 ⟨(by decide), (by decide)⟩ (.int 6) rfl (by decide +kernel) ?_
    refine Ac C S51 [(46, .istore 4, 2), (48, .iload 4, 2), (50, .iconst 3, 1), (51, .imul, 1), (52, .iconst 4, 1)] 53 #[.val (.long i0), .second, Aa i1, Ab a7, Aa 6, .unset, .unset, .unset, .unset, .unset, .unset, .unset] [.int 4, .int 18] ?_
    refine Dc C S51 (by decide +kernel) (by decide) ?_
    refine Ac C S51 [(54, .istore 5, 2), (56, .iload 5, 2), (58, .ifCond .ne 7, 3), (65, .lconst 1, 1), (66, .bipush 8, 2), (68, .iload 5, 2), (70, .imul, 1), (71, .lshl, 1), (72, .lconst 1, 1), (73, .lsub, 1), (74, .bipush 48, 2), (76, .bipush 8, 2), (78, .iload 5, 2), (80, .imul, 1), (81, .isub, 1), (82, .lshl, 1), (83, .lstore 6, 2), (85, .lload_n 0, 1)] 86 #[.val (.long i0), .second, Aa i1, Ab a7, Aa 6, Aa 4, .val (.long ((((1 : Int64) <<< (((8 : Int32) * (4 : Int32)).toInt64 &&& 63)) - (1 : Int64)) <<< (((48 : Int32) - ((8 : Int32) * (4 : Int32))).toInt64 &&& 63))), .second, .unset, .unset, .unset, .unset] [.long i0] ?_
    refine Bz C S51 (ow hw 2 rfl) (by decide +kernel) ?_
    refine Ac C S51 [(89, .land, 1), (90, .lload 6, 2), (92, .land, 1)] 93 #[.val (.long i0), .second, Aa i1, Ab a7, Aa 6, Aa 4, .val (.long ((((1 : Int64) <<< (((8 : Int32) * (4 : Int32)).toInt64 &&& 63)) - (1 : Int64)) <<< (((48 : Int32) - ((8 : Int32) * (4 : Int32))).toInt64 &&& 63))), .second, .unset, .unset, .unset, .unset] [.long ((i0 &&& 281474976710655) &&& ((((1 : Int64) <<< (((8 : Int32) * (4 : Int32)).toInt64 &&& 63)) - (1 : Int64)) <<< (((48 : Int32) - ((8 : Int32) * (4 : Int32))).toInt64 &&& 63)))] ?_
    obtain ⟨z403, hz403⟩ : ∃ y, y = ((i0 &&& 281474976710655) &&& ((((1 : Int64) <<< (((8 : Int32) * (4 : Int32)).toInt64 &&& 63)) - (1 : Int64)) <<< (((48 : Int32) - ((8 : Int32) * (4 : Int32))).toInt64 &&& 63))) := ⟨_, rfl⟩
    rw [← hz403]
    refine Ac C S51 [(93, .lstore 8, 2), (95, .lload 8, 2), (97, .iload 4, 2)] 99 #[.val (.long i0), .second, Aa i1, Ab a7, Aa 6, Aa 4, .val (.long ((((1 : Int64) <<< (((8 : Int32) * (4 : Int32)).toInt64 &&& 63)) - (1 : Int64)) <<< (((48 : Int32) - ((8 : Int32) * (4 : Int32))).toInt64 &&& 63))), .second, .val (.long z403), .second, .unset, .unset] [.int 6, .long z403] ?_
    refine Ah C S51 hw 3 4 5 6 (own_tx6 l Z a0 hw G1 G3 U8 I8 TB DE z403 h52 n0 f63 f56 XS) 0 [.long z403, .int 6] [] Dy ?_
    rintro T414 h415 v416 L417 S418 ⟨⟨a404, a405, k406, rfl, g407, K408, f409, f410, f411, f412, f413⟩, -⟩
    refine Ac C S418 [(102, .astore 10, 2), (104, .aload 10, 2)] 106 #[.val (.long i0), .second, Aa i1, Ab a7, Aa 6, Aa 4, .val (.long ((((1 : Int64) <<< (((8 : Int32) * (4 : Int32)).toInt64 &&& 63)) - (1 : Int64)) <<< (((48 : Int32) - ((8 : Int32) * (4 : Int32))).toInt64 &&& 63))), .second, .val (.long z403), .second, Ab a404, .unset] [.ref a404] ?_
    have f419 := (f56.keep K408 all0)
    have f420 := (f58.keep K408 nin0)
    have f421 := (f59.keep K408)
    have f422 := (f61.keep K408 nin0)
    have f423 := (f62.keep K408 nin0)
    have f424 : n0 ≤ h415.size := (Nat.le_trans f63 K408.1)
    have o435 : h0.size ≤ a7 := by rw [g9]; exact (Nat.le_refl _)
    have o437 : h0.size ≤ h52.size := (by rw [W53.size]; exact (by rw [W47.size]; exact (by rw [W41.size]; exact (by rw [W35.size]; exact (by rw [W29.size]; exact (by rw [W23.size]; exact (by rw [W17.size]; exact (Nat.le_trans (Nat.le_refl _) E10.1))))))))
    have o436 : h0.size ≤ a404 := Nat.le_trans o437 g407
    have f438 : a7 < h415.size := (Nat.lt_of_lt_of_le (by rw [W53.size]; exact (by rw [W47.size]; exact (by rw [W41.size]; exact (by rw [W35.size]; exact (by rw [W29.size]; exact (by rw [W23.size]; exact (by rw [W17.size]; exact f12.lt))))))) K408.1)
    have SW439 := rb3 _ _ _ _ [] [a7, a404] S418 ((((((((((Keep.refl _ _).ext E10).wr W17 (Or.inr o435)).wr W23 (Or.inr o435)).wr W29 (Or.inr o435)).wr W35 (Or.inr o435)).wr W41 (Or.inr o435)).wr W47 (Or.inr o435)).wr W53 (Or.inr o435)).trans K408 all0) all0 (allS ⟨o435, f438⟩ (allS ⟨o436, f409.lt⟩ all0))
    refine Db CW SW439 (ow hw 41 rfl) (ow hw 42 rfl) (ow hw 43 rfl) (ow hw 44 rfl) (by decide) (own_du6 l Z a0 hw hEL wS G1 G3 U8 I8 TB TBk DE a404 _ _ (Ae z403 (0 : Int32)) (Ae z403 (1 : Int32)) (Ae z403 (2 : Int32)) (Ae z403 (3 : Int32)) (Ae z403 (4 : Int32)) (Ae z403 (5 : Int32)) h415 n0 f424 f419 f420 f421 f422 f423 f409 f410 f411 f412 f413 XS (Ai _ _) (Ai _ _) (Ai _ _) (Ai _ _) (Ai _ _) (Ai _ _) (by rw [hz403]; exact own_sp6 i0)) all0 0 (by decide) (by decide) [(.ref a404)] [] rfl Cu rfl rfl rfl (Am rfl) (by decide) (by decide) (by decide +kernel) ?_
    rintro T440 h441 v442 SW443 hg444 ⟨a425, k426, rfl, g427, K428, f429⟩
    refine Bv CW SW443 ?_
    intro vm445 C S446 rb447
    refine Ac C S446 [(109, .astore 11, 2), (111, .aload 11, 2)] 113 #[.val (.long i0), .second, Aa i1, Ab a7, Aa 6, Aa 4, .val (.long ((((1 : Int64) <<< (((8 : Int32) * (4 : Int32)).toInt64 &&& 63)) - (1 : Int64)) <<< (((48 : Int32) - ((8 : Int32) * (4 : Int32))).toInt64 &&& 63))), .second, .val (.long z403), .second, Ab a404, Ab a425] [.ref a425] ?_
    refine Ay C S446 f429 (by decide +kernel) ?_
    refine Ac C S446 [(114, .iload 5, 2), (116, .if_icmp .eq 5, 3), (121, .aload 11, 2), (123, .lload 8, 2), (125, .iconst 0, 1)] 126 #[.val (.long i0), .second, Aa i1, Ab a7, Aa 6, Aa 4, .val (.long ((((1 : Int64) <<< (((8 : Int32) * (4 : Int32)).toInt64 &&& 63)) - (1 : Int64)) <<< (((48 : Int32) - ((8 : Int32) * (4 : Int32))).toInt64 &&& 63))), .second, .val (.long z403), .second, Ab a404, Ab a425] [.int 0, .long z403, .ref a425] ?_
    have f448 : n0 ≤ h441.size := (Nat.le_trans f424 K428.1)
    refine Ah C S446 hw 145 146 5 147 (Ck l Z a0 hw a425 _ _ _ z403 0 (Be (Ap (Ae z403 (0 : Int32)) (Ae z403 (1 : Int32)) (Ae z403 (2 : Int32)) (Ae z403 (3 : Int32)))) h441 n0 f448 f429 (⟨(by decide), (by decide)⟩) rfl (own_k60 _)) 0 [.ref a425, .long z403, .int 0] [] Bc ?_
    rintro T450 h451 v452 L453 S454 ⟨⟨rfl, e449⟩, -⟩
    rw [e449] at S454; clear e449
    refine Ac C S454 [(129, .ifCond .eq 62, 3), (132, .aload 11, 2), (134, .lload 8, 2), (136, .iconst 1, 1)] 137 #[.val (.long i0), .second, Aa i1, Ab a7, Aa 6, Aa 4, .val (.long ((((1 : Int64) <<< (((8 : Int32) * (4 : Int32)).toInt64 &&& 63)) - (1 : Int64)) <<< (((48 : Int32) - ((8 : Int32) * (4 : Int32))).toInt64 &&& 63))), .second, .val (.long z403), .second, Ab a404, Ab a425] [.int 1, .long z403, .ref a425] ?_
    refine Ah C S454 hw 145 146 5 147 (Ck l Z a0 hw a425 _ _ _ z403 1 (Bn (Ap (Ae z403 (0 : Int32)) (Ae z403 (1 : Int32)) (Ae z403 (2 : Int32)) (Ae z403 (3 : Int32)))) h441 n0 f448 f429 (⟨(by decide), (by decide)⟩) rfl (own_k61 _)) 0 [.ref a425, .long z403, .int 1] [] Bc ?_
    rintro T456 h457 v458 L459 S460 ⟨⟨rfl, e455⟩, -⟩
    rw [e455] at S460; clear e455
    refine Ac C S460 [(140, .ifCond .eq 51, 3), (143, .aload 11, 2), (145, .lload 8, 2), (147, .iconst 2, 1)] 148 #[.val (.long i0), .second, Aa i1, Ab a7, Aa 6, Aa 4, .val (.long ((((1 : Int64) <<< (((8 : Int32) * (4 : Int32)).toInt64 &&& 63)) - (1 : Int64)) <<< (((48 : Int32) - ((8 : Int32) * (4 : Int32))).toInt64 &&& 63))), .second, .val (.long z403), .second, Ab a404, Ab a425] [.int 2, .long z403, .ref a425] ?_
    refine Ah C S460 hw 145 146 5 147 (Ck l Z a0 hw a425 _ _ _ z403 2 (Bw (Ap (Ae z403 (0 : Int32)) (Ae z403 (1 : Int32)) (Ae z403 (2 : Int32)) (Ae z403 (3 : Int32)))) h441 n0 f448 f429 (⟨(by decide), (by decide)⟩) rfl (own_k62 _)) 0 [.ref a425, .long z403, .int 2] [] Bc ?_
    rintro T462 h463 v464 L465 S466 ⟨⟨rfl, e461⟩, -⟩
    rw [e461] at S466; clear e461
    refine Ac C S466 [(151, .ifCond .eq 40, 3), (154, .aload 11, 2), (156, .lload 8, 2), (158, .iconst 3, 1)] 159 #[.val (.long i0), .second, Aa i1, Ab a7, Aa 6, Aa 4, .val (.long ((((1 : Int64) <<< (((8 : Int32) * (4 : Int32)).toInt64 &&& 63)) - (1 : Int64)) <<< (((48 : Int32) - ((8 : Int32) * (4 : Int32))).toInt64 &&& 63))), .second, .val (.long z403), .second, Ab a404, Ab a425] [.int 3, .long z403, .ref a425] ?_
    refine Ah C S466 hw 145 146 5 147 (Ck l Z a0 hw a425 _ _ _ z403 3 (Be (Df (Ae z403 (4 : Int32)) (Ae z403 (5 : Int32)))) h441 n0 f448 f429 (⟨(by decide), (by decide)⟩) rfl (own_k63 _)) 0 [.ref a425, .long z403, .int 3] [] Bc ?_
    rintro T468 h469 v470 L471 S472 ⟨⟨rfl, e467⟩, -⟩
    rw [e467] at S472; clear e467
    refine Ac C S472 [(162, .ifCond .eq 29, 3), (165, .aload 11, 2), (167, .lload 8, 2), (169, .iconst 4, 1)] 170 #[.val (.long i0), .second, Aa i1, Ab a7, Aa 6, Aa 4, .val (.long ((((1 : Int64) <<< (((8 : Int32) * (4 : Int32)).toInt64 &&& 63)) - (1 : Int64)) <<< (((48 : Int32) - ((8 : Int32) * (4 : Int32))).toInt64 &&& 63))), .second, .val (.long z403), .second, Ab a404, Ab a425] [.int 4, .long z403, .ref a425] ?_
    refine Ah C S472 hw 145 146 5 147 (Cj l Z a0 hw a425 _ _ _ z403 4 h441 n0 f448 f429 (by decide)) 0 [.ref a425, .long z403, .int 4] [] Bc ?_
    rintro T474 h475 v476 L477 S478 ⟨⟨rfl, e473⟩, -⟩
    rw [e473] at S478; clear e473
    refine Ac C S478 [(173, .ifCond .eq 18, 3), (176, .aload 11, 2), (178, .lload 8, 2), (180, .iconst 5, 1)] 181 #[.val (.long i0), .second, Aa i1, Ab a7, Aa 6, Aa 4, .val (.long ((((1 : Int64) <<< (((8 : Int32) * (4 : Int32)).toInt64 &&& 63)) - (1 : Int64)) <<< (((48 : Int32) - ((8 : Int32) * (4 : Int32))).toInt64 &&& 63))), .second, .val (.long z403), .second, Ab a404, Ab a425] [.int 5, .long z403, .ref a425] ?_
    refine Ah C S478 hw 145 146 5 147 (Cj l Z a0 hw a425 _ _ _ z403 5 h441 n0 f448 f429 (by decide)) 0 [.ref a425, .long z403, .int 5] [] Bc ?_
    rintro T480 h481 v482 L483 S484 ⟨⟨rfl, e479⟩, -⟩
    rw [e479] at S484; clear e479
    refine Ac C S484 [(184, .ifCond .eq 7, 3), (187, .iconst 1, 1), (188, .goto 4, 3)] 192 #[.val (.long i0), .second, Aa i1, Ab a7, Aa 6, Aa 4, .val (.long ((((1 : Int64) <<< (((8 : Int32) * (4 : Int32)).toInt64 &&& 63)) - (1 : Int64)) <<< (((48 : Int32) - ((8 : Int32) * (4 : Int32))).toInt64 &&& 63))), .second, .val (.long z403), .second, Ab a404, Ab a425] [.int 1] ?_
    have SW485 := rb447 _ _ _ _ [] [] S484 (Keep.refl _ _) all0 all0
    refine Dj CW SW485 (by decide +kernel) (by decide) (by decide) (by decide) ?_
    rfl
  · rw [show ((i1 &&& 2147483647) % (7 : Int32)) = (5 : Int32) from e7]
    refine Aw C S51 f55 ⟨(by decide), (by decide)⟩ (.int 7) rfl (by decide +kernel) ?_
    refine Ac C S51 [(46, .istore 4, 2), (48, .iload 4, 2), (50, .iconst 3, 1), (51, .imul, 1), (52, .iconst 4, 1)] 53 #[.val (.long i0), .second, Aa i1, Ab a7, Aa 7, .unset, .unset, .unset, .unset, .unset, .unset, .unset] [.int 4, .int 21] ?_
    refine Dc C S51 (by decide +kernel) (by decide) ?_
    refine Ac C S51 [(54, .istore 5, 2), (56, .iload 5, 2), (58, .ifCond .ne 7, 3), (65, .lconst 1, 1), (66, .bipush 8, 2), (68, .iload 5, 2), (70, .imul, 1), (71, .lshl, 1), (72, .lconst 1, 1), (73, .lsub, 1), (74, .bipush 48, 2), (76, .bipush 8, 2), (78, .iload 5, 2), (80, .imul, 1), (81, .isub, 1), (82, .lshl, 1), (83, .lstore 6, 2), (85, .lload_n 0, 1)] 86 #[.val (.long i0), .second, Aa i1, Ab a7, Aa 7, Aa 5, .val (.long ((((1 : Int64) <<< (((8 : Int32) * (5 : Int32)).toInt64 &&& 63)) - (1 : Int64)) <<< (((48 : Int32) - ((8 : Int32) * (5 : Int32))).toInt64 &&& 63))), .second, .unset, .unset, .unset, .unset] [.long i0] ?_
    refine Bz C S51 (ow hw 2 rfl) (by decide +kernel) ?_
    refine Ac C S51 [(89, .land, 1), (90, .lload 6, 2), (92, .land, 1)] 93 #[.val (.long i0), .second, Aa i1, Ab a7, Aa 7, Aa 5, .val (.long ((((1 : Int64) <<< (((8 : Int32) * (5 : Int32)).toInt64 &&& 63)) - (1 : Int64)) <<< (((48 : Int32) - ((8 : Int32) * (5 : Int32))).toInt64 &&& 63))), .second, .unset, .unset, .unset, .unset] [.long ((i0 &&& 281474976710655) &&& ((((1 : Int64) <<< (((8 : Int32) * (5 : Int32)).toInt64 &&& 63)) - (1 : Int64)) <<< (((48 : Int32) - ((8 : Int32) * (5 : Int32))).toInt64 &&& 63)))] ?_
    obtain ⟨z486, hz486⟩ : ∃ y, y = ((i0 &&& 281474976710655) &&& ((((1 : Int64) <<< (((8 : Int32) * (5 : Int32)).toInt64 &&& 63)) - (1 : Int64)) <<< (((48 : Int32) - ((8 : Int32) * (5 : Int32))).toInt64 &&& 63))) := ⟨_, rfl⟩
    rw [← hz486]
    refine Ac C S51 [(93, .lstore 8, 2), (95, .lload 8, 2), (97, .iload 4, 2)] 99 #[.val (.long i0), .second, Aa i1, Ab a7, Aa 7, Aa 5, .val (.long ((((1 : Int64) <<< (((8 : Int32) * (5 : Int32)).toInt64 &&& 63)) - (1 : Int64)) <<< (((48 : Int32) - ((8 : Int32) * (5 : Int32))).toInt64 &&& 63))), .second, .val (.long z486), .second, .unset, .unset] [.int 7, .long z486] ?_
    refine Ah C S51 hw 3 4 5 6 (own_tx7 l Z a0 hw G1 G3 U8 I8 TB DE z486 h52 n0 f63 f56 XS) 0 [.long z486, .int 7] [] Dy ?_
    rintro T497 h498 v499 L500 S501 ⟨⟨a487, a488, k489, rfl, g490, K491, f492, f493, f494, f495, f496⟩, -⟩
    refine Ac C S501 [(102, .astore 10, 2), (104, .aload 10, 2)] 106 #[.val (.long i0), .second, Aa i1, Ab a7, Aa 7, Aa 5, .val (.long ((((1 : Int64) <<< (((8 : Int32) * (5 : Int32)).toInt64 &&& 63)) - (1 : Int64)) <<< (((48 : Int32) - ((8 : Int32) * (5 : Int32))).toInt64 &&& 63))), .second, .val (.long z486), .second, Ab a487, .unset] [.ref a487] ?_
    have f502 := (f56.keep K491 all0)
    have f503 := (f58.keep K491 nin0)
    have f504 := (f59.keep K491)
    have f505 := (f61.keep K491 nin0)
    have f506 := (f62.keep K491 nin0)
    have f507 : n0 ≤ h498.size := (Nat.le_trans f63 K491.1)
    have o518 : h0.size ≤ a7 := by rw [g9]; exact (Nat.le_refl _)
    have o520 : h0.size ≤ h52.size := (by rw [W53.size]; exact (by rw [W47.size]; exact (by rw [W41.size]; exact (by rw [W35.size]; exact (by rw [W29.size]; exact (by rw [W23.size]; exact (by rw [W17.size]; exact (Nat.le_trans (Nat.le_refl _) E10.1))))))))
    have o519 : h0.size ≤ a487 := Nat.le_trans o520 g490
    have f521 : a7 < h498.size := (Nat.lt_of_lt_of_le (by rw [W53.size]; exact (by rw [W47.size]; exact (by rw [W41.size]; exact (by rw [W35.size]; exact (by rw [W29.size]; exact (by rw [W23.size]; exact (by rw [W17.size]; exact f12.lt))))))) K491.1)
    have SW522 := rb3 _ _ _ _ [] [a7, a487] S501 ((((((((((Keep.refl _ _).ext E10).wr W17 (Or.inr o518)).wr W23 (Or.inr o518)).wr W29 (Or.inr o518)).wr W35 (Or.inr o518)).wr W41 (Or.inr o518)).wr W47 (Or.inr o518)).wr W53 (Or.inr o518)).trans K491 all0) all0 (allS ⟨o518, f521⟩ (allS ⟨o519, f492.lt⟩ all0))
    refine Db CW SW522 (ow hw 41 rfl) (ow hw 42 rfl) (ow hw 43 rfl) (ow hw 44 rfl) (by decide) (own_du7 l Z a0 hw hEL wS G1 G3 U8 I8 TB TBk DE a487 _ _ (Ae z486 (0 : Int32)) (Ae z486 (1 : Int32)) (Ae z486 (2 : Int32)) (Ae z486 (3 : Int32)) (Ae z486 (4 : Int32)) (Ae z486 (5 : Int32)) (Ae z486 (6 : Int32)) h498 n0 f507 f502 f503 f504 f505 f506 f492 f493 f494 f495 f496 XS (Ai _ _) (Ai _ _) (Ai _ _) (Ai _ _) (Ai _ _) (Ai _ _) (Ai _ _) (by rw [hz486]; exact own_sp7 i0)) all0 0 (by decide) (by decide) [(.ref a487)] [] rfl Cu rfl rfl rfl (Am rfl) (by decide) (by decide) (by decide +kernel) ?_
    rintro T523 h524 v525 SW526 hg527 ⟨a508, k509, rfl, g510, K511, f512⟩
    refine Bv CW SW526 ?_
    intro vm528 C S529 rb530
    refine Ac C S529 [(109, .astore 11, 2), (111, .aload 11, 2)] 113 #[.val (.long i0), .second, Aa i1, Ab a7, Aa 7, Aa 5, .val (.long ((((1 : Int64) <<< (((8 : Int32) * (5 : Int32)).toInt64 &&& 63)) - (1 : Int64)) <<< (((48 : Int32) - ((8 : Int32) * (5 : Int32))).toInt64 &&& 63))), .second, .val (.long z486), .second, Ab a487, Ab a508] [.ref a508] ?_
    refine Ay C S529 f512 (by decide +kernel) ?_
    refine Ac C S529 [(114, .iload 5, 2), (116, .if_icmp .eq 5, 3), (121, .aload 11, 2), (123, .lload 8, 2), (125, .iconst 0, 1)] 126 #[.val (.long i0), .second, Aa i1, Ab a7, Aa 7, Aa 5, .val (.long ((((1 : Int64) <<< (((8 : Int32) * (5 : Int32)).toInt64 &&& 63)) - (1 : Int64)) <<< (((48 : Int32) - ((8 : Int32) * (5 : Int32))).toInt64 &&& 63))), .second, .val (.long z486), .second, Ab a487, Ab a508] [.int 0, .long z486, .ref a508] ?_
    have f531 : n0 ≤ h524.size := (Nat.le_trans f507 K511.1)
    refine Ah C S529 hw 145 146 5 147 (Ck l Z a0 hw a508 _ _ _ z486 0 (Be (Ap (Ae z486 (0 : Int32)) (Ae z486 (1 : Int32)) (Ae z486 (2 : Int32)) (Ae z486 (3 : Int32)))) h524 n0 f531 f512 (⟨(by decide), (by decide)⟩) rfl (own_k70 _)) 0 [.ref a508, .long z486, .int 0] [] Bc ?_
    rintro T533 h534 v535 L536 S537 ⟨⟨rfl, e532⟩, -⟩
    rw [e532] at S537; clear e532
    refine Ac C S537 [(129, .ifCond .eq 62, 3), (132, .aload 11, 2), (134, .lload 8, 2), (136, .iconst 1, 1)] 137 #[.val (.long i0), .second, Aa i1, Ab a7, Aa 7, Aa 5, .val (.long ((((1 : Int64) <<< (((8 : Int32) * (5 : Int32)).toInt64 &&& 63)) - (1 : Int64)) <<< (((48 : Int32) - ((8 : Int32) * (5 : Int32))).toInt64 &&& 63))), .second, .val (.long z486), .second, Ab a487, Ab a508] [.int 1, .long z486, .ref a508] ?_
    refine Ah C S537 hw 145 146 5 147 (Ck l Z a0 hw a508 _ _ _ z486 1 (Bn (Ap (Ae z486 (0 : Int32)) (Ae z486 (1 : Int32)) (Ae z486 (2 : Int32)) (Ae z486 (3 : Int32)))) h524 n0 f531 f512 (⟨(by decide), (by decide)⟩) rfl (own_k71 _)) 0 [.ref a508, .long z486, .int 1] [] Bc ?_
    rintro T539 h540 v541 L542 S543 ⟨⟨rfl, e538⟩, -⟩
    rw [e538] at S543; clear e538
    refine Ac C S543 [(140, .ifCond .eq 51, 3), (143, .aload 11, 2), (145, .lload 8, 2), (147, .iconst 2, 1)] 148 #[.val (.long i0), .second, Aa i1, Ab a7, Aa 7, Aa 5, .val (.long ((((1 : Int64) <<< (((8 : Int32) * (5 : Int32)).toInt64 &&& 63)) - (1 : Int64)) <<< (((48 : Int32) - ((8 : Int32) * (5 : Int32))).toInt64 &&& 63))), .second, .val (.long z486), .second, Ab a487, Ab a508] [.int 2, .long z486, .ref a508] ?_
    refine Ah C S543 hw 145 146 5 147 (Ck l Z a0 hw a508 _ _ _ z486 2 (Bw (Ap (Ae z486 (0 : Int32)) (Ae z486 (1 : Int32)) (Ae z486 (2 : Int32)) (Ae z486 (3 : Int32)))) h524 n0 f531 f512 (⟨(by decide), (by decide)⟩) rfl (own_k72 _)) 0 [.ref a508, .long z486, .int 2] [] Bc ?_
    rintro T545 h546 v547 L548 S549 ⟨⟨rfl, e544⟩, -⟩
    rw [e544] at S549; clear e544
    refine Ac C S549 [(151, .ifCond .eq 40, 3), (154, .aload 11, 2), (156, .lload 8, 2), (158, .iconst 3, 1)] 159 #[.val (.long i0), .second, Aa i1, Ab a7, Aa 7, Aa 5, .val (.long ((((1 : Int64) <<< (((8 : Int32) * (5 : Int32)).toInt64 &&& 63)) - (1 : Int64)) <<< (((48 : Int32) - ((8 : Int32) * (5 : Int32))).toInt64 &&& 63))), .second, .val (.long z486), .second, Ab a487, Ab a508] [.int 3, .long z486, .ref a508] ?_
    refine Ah C S549 hw 145 146 5 147 (Ck l Z a0 hw a508 _ _ _ z486 3 (Be (Ch (Ae z486 (4 : Int32)) (Ae z486 (5 : Int32)) (Ae z486 (6 : Int32)))) h524 n0 f531 f512 (⟨(by decide), (by decide)⟩) rfl (own_k73 _)) 0 [.ref a508, .long z486, .int 3] [] Bc ?_
    rintro T551 h552 v553 L554 S555 ⟨⟨rfl, e550⟩, -⟩
    rw [e550] at S555; clear e550
    refine Ac C S555 [(162, .ifCond .eq 29, 3), (165, .aload 11, 2), (167, .lload 8, 2), (169, .iconst 4, 1)] 170 #[.val (.long i0), .second, Aa i1, Ab a7, Aa 7, Aa 5, .val (.long ((((1 : Int64) <<< (((8 : Int32) * (5 : Int32)).toInt64 &&& 63)) - (1 : Int64)) <<< (((48 : Int32) - ((8 : Int32) * (5 : Int32))).toInt64 &&& 63))), .second, .val (.long z486), .second, Ab a487, Ab a508] [.int 4, .long z486, .ref a508] ?_
    refine Ah C S555 hw 145 146 5 147 (Ck l Z a0 hw a508 _ _ _ z486 4 (Bn (Ch (Ae z486 (4 : Int32)) (Ae z486 (5 : Int32)) (Ae z486 (6 : Int32)))) h524 n0 f531 f512 (⟨(by decide), (by decide)⟩) rfl (own_k74 _)) 0 [.ref a508, .long z486, .int 4] [] Bc ?_
    rintro T557 h558 v559 L560 S561 ⟨⟨rfl, e556⟩, -⟩
    rw [e556] at S561; clear e556
    refine Ac C S561 [(173, .ifCond .eq 18, 3), (176, .aload 11, 2), (178, .lload 8, 2), (180, .iconst 5, 1)] 181 #[.val (.long i0), .second, Aa i1, Ab a7, Aa 7, Aa 5, .val (.long ((((1 : Int64) <<< (((8 : Int32) * (5 : Int32)).toInt64 &&& 63)) - (1 : Int64)) <<< (((48 : Int32) - ((8 : Int32) * (5 : Int32))).toInt64 &&& 63))), .second, .val (.long z486), .second, Ab a487, Ab a508] [.int 5, .long z486, .ref a508] ?_
    refine Ah C S561 hw 145 146 5 147 (Cj l Z a0 hw a508 _ _ _ z486 5 h524 n0 f531 f512 (by decide)) 0 [.ref a508, .long z486, .int 5] [] Bc ?_
    rintro T563 h564 v565 L566 S567 ⟨⟨rfl, e562⟩, -⟩
    rw [e562] at S567; clear e562
    refine Ac C S567 [(184, .ifCond .eq 7, 3), (187, .iconst 1, 1), (188, .goto 4, 3)] 192 #[.val (.long i0), .second, Aa i1, Ab a7, Aa 7, Aa 5, .val (.long ((((1 : Int64) <<< (((8 : Int32) * (5 : Int32)).toInt64 &&& 63)) - (1 : Int64)) <<< (((48 : Int32) - ((8 : Int32) * (5 : Int32))).toInt64 &&& 63))), .second, .val (.long z486), .second, Ab a487, Ab a508] [.int 1] ?_
    have SW568 := rb530 _ _ _ _ [] [] S567 (Keep.refl _ _) all0 all0
    refine Dj CW SW568 (by decide +kernel) (by decide) (by decide) (by decide) ?_
    rfl
  · rw [show ((i1 &&& 2147483647) % (7 : Int32)) = (6 : Int32) from e7]
    refine Aw C S51 f55 ⟨(by decide), (by decide)⟩ (.int 8) rfl (by decide +kernel) ?_
    refine Ac C S51 [(46, .istore 4, 2), (48, .iload 4, 2), (50, .iconst 3, 1), (51, .imul, 1), (52, .iconst 4, 1)] 53 #[.val (.long i0), .second, Aa i1, Ab a7, Aa 8, .unset, .unset, .unset, .unset, .unset, .unset, .unset] [.int 4, .int 24] ?_
    refine Dc C S51 (by decide +kernel) (by decide) ?_
    refine Ac C S51 [(54, .istore 5, 2), (56, .iload 5, 2), (58, .ifCond .ne 7, 3), (65, .lconst 1, 1), (66, .bipush 8, 2), (68, .iload 5, 2), (70, .imul, 1), (71, .lshl, 1), (72, .lconst 1, 1), (73, .lsub, 1), (74, .bipush 48, 2), (76, .bipush 8, 2), (78, .iload 5, 2), (80, .imul, 1), (81, .isub, 1), (82, .lshl, 1), (83, .lstore 6, 2), (85, .lload_n 0, 1)] 86 #[.val (.long i0), .second, Aa i1, Ab a7, Aa 8, Aa 6, .val (.long ((((1 : Int64) <<< (((8 : Int32) * (6 : Int32)).toInt64 &&& 63)) - (1 : Int64)) <<< (((48 : Int32) - ((8 : Int32) * (6 : Int32))).toInt64 &&& 63))), .second, .unset, .unset, .unset, .unset] [.long i0] ?_
    refine Bz C S51 (ow hw 2 rfl) (by decide +kernel) ?_
    refine Ac C S51 [(89, .land, 1), (90, .lload 6, 2), (92, .land, 1)] 93 #[.val (.long i0), .second, Aa i1, Ab a7, Aa 8, Aa 6, .val (.long ((((1 : Int64) <<< (((8 : Int32) * (6 : Int32)).toInt64 &&& 63)) - (1 : Int64)) <<< (((48 : Int32) - ((8 : Int32) * (6 : Int32))).toInt64 &&& 63))), .second, .unset, .unset, .unset, .unset] [.long ((i0 &&& 281474976710655) &&& ((((1 : Int64) <<< (((8 : Int32) * (6 : Int32)).toInt64 &&& 63)) - (1 : Int64)) <<< (((48 : Int32) - ((8 : Int32) * (6 : Int32))).toInt64 &&& 63)))] ?_
    obtain ⟨z569, hz569⟩ : ∃ y, y = ((i0 &&& 281474976710655) &&& ((((1 : Int64) <<< (((8 : Int32) * (6 : Int32)).toInt64 &&& 63)) - (1 : Int64)) <<< (((48 : Int32) - ((8 : Int32) * (6 : Int32))).toInt64 &&& 63))) := ⟨_, rfl⟩
    rw [← hz569]
    refine Ac C S51 [(93, .lstore 8, 2), (95, .lload 8, 2), (97, .iload 4, 2)] 99 #[.val (.long i0), .second, Aa i1, Ab a7, Aa 8, Aa 6, .val (.long ((((1 : Int64) <<< (((8 : Int32) * (6 : Int32)).toInt64 &&& 63)) - (1 : Int64)) <<< (((48 : Int32) - ((8 : Int32) * (6 : Int32))).toInt64 &&& 63))), .second, .val (.long z569), .second, .unset, .unset] [.int 8, .long z569] ?_
    refine Ah C S51 hw 3 4 5 6 (own_tx8 l Z a0 hw G1 G3 U8 I8 TB DE z569 h52 n0 f63 f56 XS) 0 [.long z569, .int 8] [] Dy ?_
    rintro T580 h581 v582 L583 S584 ⟨⟨a570, a571, k572, rfl, g573, K574, f575, f576, f577, f578, f579⟩, -⟩
    refine Ac C S584 [(102, .astore 10, 2), (104, .aload 10, 2)] 106 #[.val (.long i0), .second, Aa i1, Ab a7, Aa 8, Aa 6, .val (.long ((((1 : Int64) <<< (((8 : Int32) * (6 : Int32)).toInt64 &&& 63)) - (1 : Int64)) <<< (((48 : Int32) - ((8 : Int32) * (6 : Int32))).toInt64 &&& 63))), .second, .val (.long z569), .second, Ab a570, .unset] [.ref a570] ?_
    have f585 := (f56.keep K574 all0)
    have f586 := (f58.keep K574 nin0)
    have f587 := (f59.keep K574)
    have f588 := (f61.keep K574 nin0)
    have f589 := (f62.keep K574 nin0)
    have f590 : n0 ≤ h581.size := (Nat.le_trans f63 K574.1)
    have o601 : h0.size ≤ a7 := by rw [g9]; exact (Nat.le_refl _)
    have o603 : h0.size ≤ h52.size := (by rw [W53.size]; exact (by rw [W47.size]; exact (by rw [W41.size]; exact (by rw [W35.size]; exact (by rw [W29.size]; exact (by rw [W23.size]; exact (by rw [W17.size]; exact (Nat.le_trans (Nat.le_refl _) E10.1))))))))
    have o602 : h0.size ≤ a570 := Nat.le_trans o603 g573
    have f604 : a7 < h581.size := (Nat.lt_of_lt_of_le (by rw [W53.size]; exact (by rw [W47.size]; exact (by rw [W41.size]; exact (by rw [W35.size]; exact (by rw [W29.size]; exact (by rw [W23.size]; exact (by rw [W17.size]; exact f12.lt))))))) K574.1)
    have SW605 := rb3 _ _ _ _ [] [a7, a570] S584 ((((((((((Keep.refl _ _).ext E10).wr W17 (Or.inr o601)).wr W23 (Or.inr o601)).wr W29 (Or.inr o601)).wr W35 (Or.inr o601)).wr W41 (Or.inr o601)).wr W47 (Or.inr o601)).wr W53 (Or.inr o601)).trans K574 all0) all0 (allS ⟨o601, f604⟩ (allS ⟨o602, f575.lt⟩ all0))
    refine Db CW SW605 (ow hw 41 rfl) (ow hw 42 rfl) (ow hw 43 rfl) (ow hw 44 rfl) (by decide) (own_du8 l Z a0 hw hEL wS G1 G3 U8 I8 TB TBk DE a570 _ _ (Ae z569 (0 : Int32)) (Ae z569 (1 : Int32)) (Ae z569 (2 : Int32)) (Ae z569 (3 : Int32)) (Ae z569 (4 : Int32)) (Ae z569 (5 : Int32)) (Ae z569 (6 : Int32)) (Ae z569 (7 : Int32)) h581 n0 f590 f585 f586 f587 f588 f589 f575 f576 f577 f578 f579 XS (Ai _ _) (Ai _ _) (Ai _ _) (Ai _ _) (Ai _ _) (Ai _ _) (Ai _ _) (Ai _ _)) all0 0 (by decide) (by decide) [(.ref a570)] [] rfl Cu rfl rfl rfl (Am rfl) (by decide) (by decide) (by decide +kernel) ?_
    rintro T606 h607 v608 SW609 hg610 ⟨a591, k592, rfl, g593, K594, f595⟩
    refine Bv CW SW609 ?_
    intro vm611 C S612 rb613
    refine Ac C S612 [(109, .astore 11, 2), (111, .aload 11, 2)] 113 #[.val (.long i0), .second, Aa i1, Ab a7, Aa 8, Aa 6, .val (.long ((((1 : Int64) <<< (((8 : Int32) * (6 : Int32)).toInt64 &&& 63)) - (1 : Int64)) <<< (((48 : Int32) - ((8 : Int32) * (6 : Int32))).toInt64 &&& 63))), .second, .val (.long z569), .second, Ab a570, Ab a591] [.ref a591] ?_
    refine Ay C S612 f595 (by decide +kernel) ?_
    refine Ac C S612 [(114, .iload 5, 2), (116, .if_icmp .eq 5, 3), (121, .aload 11, 2), (123, .lload 8, 2), (125, .iconst 0, 1)] 126 #[.val (.long i0), .second, Aa i1, Ab a7, Aa 8, Aa 6, .val (.long ((((1 : Int64) <<< (((8 : Int32) * (6 : Int32)).toInt64 &&& 63)) - (1 : Int64)) <<< (((48 : Int32) - ((8 : Int32) * (6 : Int32))).toInt64 &&& 63))), .second, .val (.long z569), .second, Ab a570, Ab a591] [.int 0, .long z569, .ref a591] ?_
    have f614 : n0 ≤ h607.size := (Nat.le_trans f590 K594.1)
    refine Ah C S612 hw 145 146 5 147 (Ck l Z a0 hw a591 _ _ _ z569 0 (Be (Ap (Ae z569 (0 : Int32)) (Ae z569 (1 : Int32)) (Ae z569 (2 : Int32)) (Ae z569 (3 : Int32)))) h607 n0 f614 f595 (⟨(by decide), (by decide)⟩) rfl (own_k80 _)) 0 [.ref a591, .long z569, .int 0] [] Bc ?_
    rintro T616 h617 v618 L619 S620 ⟨⟨rfl, e615⟩, -⟩
    rw [e615] at S620; clear e615
    refine Ac C S620 [(129, .ifCond .eq 62, 3), (132, .aload 11, 2), (134, .lload 8, 2), (136, .iconst 1, 1)] 137 #[.val (.long i0), .second, Aa i1, Ab a7, Aa 8, Aa 6, .val (.long ((((1 : Int64) <<< (((8 : Int32) * (6 : Int32)).toInt64 &&& 63)) - (1 : Int64)) <<< (((48 : Int32) - ((8 : Int32) * (6 : Int32))).toInt64 &&& 63))), .second, .val (.long z569), .second, Ab a570, Ab a591] [.int 1, .long z569, .ref a591] ?_
    refine Ah C S620 hw 145 146 5 147 (Ck l Z a0 hw a591 _ _ _ z569 1 (Bn (Ap (Ae z569 (0 : Int32)) (Ae z569 (1 : Int32)) (Ae z569 (2 : Int32)) (Ae z569 (3 : Int32)))) h607 n0 f614 f595 (⟨(by decide), (by decide)⟩) rfl (own_k81 _)) 0 [.ref a591, .long z569, .int 1] [] Bc ?_
    rintro T622 h623 v624 L625 S626 ⟨⟨rfl, e621⟩, -⟩
    rw [e621] at S626; clear e621
    refine Ac C S626 [(140, .ifCond .eq 51, 3), (143, .aload 11, 2), (145, .lload 8, 2), (147, .iconst 2, 1)] 148 #[.val (.long i0), .second, Aa i1, Ab a7, Aa 8, Aa 6, .val (.long ((((1 : Int64) <<< (((8 : Int32) * (6 : Int32)).toInt64 &&& 63)) - (1 : Int64)) <<< (((48 : Int32) - ((8 : Int32) * (6 : Int32))).toInt64 &&& 63))), .second, .val (.long z569), .second, Ab a570, Ab a591] [.int 2, .long z569, .ref a591] ?_
    refine Ah C S626 hw 145 146 5 147 (Ck l Z a0 hw a591 _ _ _ z569 2 (Bw (Ap (Ae z569 (0 : Int32)) (Ae z569 (1 : Int32)) (Ae z569 (2 : Int32)) (Ae z569 (3 : Int32)))) h607 n0 f614 f595 (⟨(by decide), (by decide)⟩) rfl (own_k82 _)) 0 [.ref a591, .long z569, .int 2] [] Bc ?_
    rintro T628 h629 v630 L631 S632 ⟨⟨rfl, e627⟩, -⟩
    rw [e627] at S632; clear e627
    refine Ac C S632 [(151, .ifCond .eq 40, 3), (154, .aload 11, 2), (156, .lload 8, 2), (158, .iconst 3, 1)] 159 #[.val (.long i0), .second, Aa i1, Ab a7, Aa 8, Aa 6, .val (.long ((((1 : Int64) <<< (((8 : Int32) * (6 : Int32)).toInt64 &&& 63)) - (1 : Int64)) <<< (((48 : Int32) - ((8 : Int32) * (6 : Int32))).toInt64 &&& 63))), .second, .val (.long z569), .second, Ab a570, Ab a591] [.int 3, .long z569, .ref a591] ?_
    refine Ah C S632 hw 145 146 5 147 (Ck l Z a0 hw a591 _ _ _ z569 3 (Be (Ap (Ae z569 (4 : Int32)) (Ae z569 (5 : Int32)) (Ae z569 (6 : Int32)) (Ae z569 (7 : Int32)))) h607 n0 f614 f595 (⟨(by decide), (by decide)⟩) rfl (own_k83 _)) 0 [.ref a591, .long z569, .int 3] [] Bc ?_
    rintro T634 h635 v636 L637 S638 ⟨⟨rfl, e633⟩, -⟩
    rw [e633] at S638; clear e633
    refine Ac C S638 [(162, .ifCond .eq 29, 3), (165, .aload 11, 2), (167, .lload 8, 2), (169, .iconst 4, 1)] 170 #[.val (.long i0), .second, Aa i1, Ab a7, Aa 8, Aa 6, .val (.long ((((1 : Int64) <<< (((8 : Int32) * (6 : Int32)).toInt64 &&& 63)) - (1 : Int64)) <<< (((48 : Int32) - ((8 : Int32) * (6 : Int32))).toInt64 &&& 63))), .second, .val (.long z569), .second, Ab a570, Ab a591] [.int 4, .long z569, .ref a591] ?_
    refine Ah C S638 hw 145 146 5 147 (Ck l Z a0 hw a591 _ _ _ z569 4 (Bn (Ap (Ae z569 (4 : Int32)) (Ae z569 (5 : Int32)) (Ae z569 (6 : Int32)) (Ae z569 (7 : Int32)))) h607 n0 f614 f595 (⟨(by decide), (by decide)⟩) rfl (own_k84 _)) 0 [.ref a591, .long z569, .int 4] [] Bc ?_
    rintro T640 h641 v642 L643 S644 ⟨⟨rfl, e639⟩, -⟩
    rw [e639] at S644; clear e639
    refine Ac C S644 [(173, .ifCond .eq 18, 3), (176, .aload 11, 2), (178, .lload 8, 2), (180, .iconst 5, 1)] 181 #[.val (.long i0), .second, Aa i1, Ab a7, Aa 8, Aa 6, .val (.long ((((1 : Int64) <<< (((8 : Int32) * (6 : Int32)).toInt64 &&& 63)) - (1 : Int64)) <<< (((48 : Int32) - ((8 : Int32) * (6 : Int32))).toInt64 &&& 63))), .second, .val (.long z569), .second, Ab a570, Ab a591] [.int 5, .long z569, .ref a591] ?_
    refine Ah C S644 hw 145 146 5 147 (Ck l Z a0 hw a591 _ _ _ z569 5 (Bw (Ap (Ae z569 (4 : Int32)) (Ae z569 (5 : Int32)) (Ae z569 (6 : Int32)) (Ae z569 (7 : Int32)))) h607 n0 f614 f595 (⟨(by decide), (by decide)⟩) rfl (own_k85 _)) 0 [.ref a591, .long z569, .int 5] [] Bc ?_
    rintro T646 h647 v648 L649 S650 ⟨⟨rfl, e645⟩, -⟩
    rw [e645] at S650; clear e645
    refine Ac C S650 [(184, .ifCond .eq 7, 3), (187, .iconst 1, 1), (188, .goto 4, 3)] 192 #[.val (.long i0), .second, Aa i1, Ab a7, Aa 8, Aa 6, .val (.long ((((1 : Int64) <<< (((8 : Int32) * (6 : Int32)).toInt64 &&& 63)) - (1 : Int64)) <<< (((48 : Int32) - ((8 : Int32) * (6 : Int32))).toInt64 &&& 63))), .second, .val (.long z569), .second, Ab a570, Ab a591] [.int 1] ?_
    have SW651 := rb613 _ _ _ _ [] [] S650 (Keep.refl _ _) all0 all0
    refine Dj CW SW651 (by decide +kernel) (by decide) (by decide) (by decide) ?_
    rfl
theorem own_jt : ∀ i < 256, jdkStatics_1[20 + i]? = some (Jvm.Cond.eq (Term.elem (Term.static "java/util/Base64$Decoder" "fromBase64URL" "[I") (Term.int (Int32.ofNat i))) (Term.int (own_TUi.getD i 0))) := by decide +kernel
theorem own_tug : ∀ i < 256, Bt.getD i (.int 0) = .int (own_TUi.getD i 0) := by decide +kernel
theorem own_tuf : ∀ i < 256, fits .int (Bt.getD i (.int 0)) = true := by decide +kernel
theorem own_sAt : ∀ a ∈ Bundle.stringAtoms, a ∈ tables_1 := by decide +kernel
set_option maxRecDepth 65536 in
theorem own_ELok {Z : State} {a0 : Array Value} (hw : ∀ d ∈ tables_1, d.before a0 Z = true) : EW Z a0 Cm := (EW.cons (ow hw 45 rfl) (by decide) (EW.cons (ow hw 153 rfl) (by decide) EW.nil))
theorem comes_1 {Post : Tables → Env → Array Value → State → Outcome → State → Prop} (hpost : ∀ tb e args s v u, (limb_1_1.after args s (.returned v) u = true ∧ limb_1_2.after args s (.returned v) u = true ∧ True) → Jvm.D.FramedW s (.returned v) u (Jvm.fieldLocs frame_1_writes args s ++ Jvm.arrayLocs frame_1_arrays args s ++ Jvm.staticLocs frame_1_statics s) 24 2240 → Post tb e args s (.returned v) u) :
    ArmFor flags0 classFile x code maxLocals ret World_1 tables_1 room_1 Calls_1 rest_1 Pre_1 Post := by
  intro l hfl _ _ p e ha hc hk s m args below hf hA hF happ hP
  obtain ⟨hcalls, hrest, hpre⟩ := hP
  obtain ⟨-, -, -, hnamed, -, -, -, hat⟩ := (Spec.applies_iff hf).mp happ
  obtain ⟨hg, hn⟩ := and_e (Cond.before_iff.mp (show (Jvm.Cond.and given_1 narrow_1).before args s = true from hpre))
  obtain ⟨hcount, hk0⟩ := and_e hg
  obtain ⟨ha0, hk1⟩ := and_e hk0
  obtain ⟨w0, w1, rfl⟩ : ∃ w0 w1 : Value, args = #[w0, w1] := by
    have hs : args.size = 2 := by simpa [Cond.value, given_1] using hcount
    obtain ⟨L⟩ := args
    match L, hs with
    | [w0, w1], _ => exact ⟨w0, w1, rfl⟩
  have hw := fun d (hd : d ∈ tables_1) => atoms_spec (ws := Jvm.Cond.code x code maxLocals ret :: tables_1) hat d (List.mem_cons_of_mem _ hd)
  obtain ⟨i0, ei0⟩ := isL_v ha0
  obtain rfl : w0 = (.long i0) := Option.some.inj ei0
  obtain ⟨i1, ei1⟩ := is_v hk1
  obtain rfl : w1 = (.int i1) := Option.some.inj ei1
  obtain ⟨hsets, hown0⟩ := atoms_of _ (rest_1_c_eq ▸ (show rest_1_c.before _ s = true from hrest))
  have nz := not_v (Cond.before_iff.mp (hsets _ (Cn 2)))
  obtain ⟨g1, eg1⟩ := is_v (Cond.before_iff.mp (hsets _ (Cn 1)))
  have O2 : Sta s s.heap "java/lang/String" "COMPACT_STRINGS" "Z" (.int g1) := Sta.start eg1 (Or.inl (hsets _ (Cn 0)))
  obtain ⟨g3, eg3, rg3⟩ := isR_v (Cond.before_iff.mp (hsets _ (Cn 8)))
  have O4 : Sta s s.heap "jdk/internal/util/Preconditions" "SIOOBE_FORMATTER" "Ljava/util/function/BiFunction;" g3 := Sta.start eg3 (Or.inl (hsets _ (Cn 7)))
  have P5 : ¬ (g1 = (0 : Int32)) := gotF (Cond.eq_ints eg1 (Term.int_eval (0))) nz
  obtain ⟨U8, eU8⟩ := exa_v (Cond.before_iff.mp (hsets _ (Cn 14)))
  have OU := Sta.start eU8 (Or.inl (hsets _ (Cn 13)))
  obtain ⟨I8, eI8⟩ := exa_v (Cond.before_iff.mp (hsets _ (Cn 11)))
  have OI := Sta.start eI8 (Or.inl (hsets _ (Cn 10)))
  have hUI : I8 ≠ U8 := own_exne (Exa.start eI8 (Cond.before_iff.mp (hsets _ (Cn 11)))) (Exa.start eU8 (Cond.before_iff.mp (hsets _ (Cn 14)))) (by decide)
  obtain ⟨TB, eTB⟩ := arr_v (Cond.before_iff.mp (hsets _ (Cn 17)))
  obtain ⟨TBk, TK⟩ := own_TA (dv := .int 0) (n := 256) Bt (by decide) eTB (Cond.before_iff.mp (hsets _ (Cn 17))) (own_eqT (Cond.before_iff.mp (hsets _ (Cn 19)))) (fun i hi => by rw [own_tug i hi]; exact own_eqT (Cond.before_iff.mp (hsets _ (List.mem_of_getElem? (own_jt i hi))))) own_tuf
  have OT := Sta.start eTB (Or.inl (hsets _ (Cn 16)))
  obtain ⟨c0, d0⟩ := and_e hn
  obtain ⟨c1, c2⟩ := and_e d0
  obtain ⟨DE, eDE⟩ := exa_v c0
  have OD := Sta.start eDE (Or.inr ⟨(ow hw 43 rfl), (ow hw 88 rfl)⟩)
  have DEx := Exa.start eDE c0
  have DEu := own_fT eDE (own_eqT c1)
  have DEm := own_fT eDE (own_eqT c2)
  have hEL : EW s _ Cm := own_ELok hw
  have wS : ∀ a ∈ Bundle.stringAtoms, a.before _ s = true := fun a ha => hw a (own_sAt a ha)
  have hCH : CHv s Cm s.vm s.heap := CHv.start hEL (fun p hp => hcalls.1 p hp) (hsets _ (Cn 2)) (ow hw 30 rfl) (ow hw 8 rfl)
  obtain ⟨n, o, g1, g2, g3, _, L, rfl, ⟨rfl, N⟩, -, hq⟩ := own_law l s _ hw hEL wS  g1 g3 U8 I8 TB TBk DE i0 i1 s.heap s.heap.size (Nat.le_refl _) (Old.start s) TK DEx DEu DEm ⟨O2, O4, P5, rg3, OU, OI, OT, OD, hUI, TK.lt, DEx.lt⟩ tables_1 p e ha hc hk s m _ below hf ((Spec.applies_iff_loose hf).mp happ).1 ⟨rfl, State.Warmed39.refl s, rfl, hCH, all0⟩ trivial
  refine ⟨n, _, g1, g2, g3, hpost _ _ _ _ _ _ ⟨Cond.after_iff.mpr rfl, Cond.after_iff.mpr (eq_i res_at (Term.int_eval (1)) rfl), trivial⟩ ⟨hq.1, hq.2.1, hq.2.2.1, (hq.2.2.2.sift fun y hy => Or.inr (N y hy)).mono (by decide) (by decide)⟩⟩
theorem main_1_1 : Claimed_1_1 := comes_1 fun _ _ _ _ _ _ h hF => ⟨h.1, hF⟩
theorem main_1_2 : Claimed_1_2 := comes_1 fun _ _ _ _ _ _ h hF => ⟨h.2.1, hF⟩
end Jvm.Pilot.@@N@@
namespace Jvm.Pilot.@@N@@
open Jvm Jvm.ClassFile Sem Op Lib Jvm.Free Jvm.Stand Jvm.Pilot.@@N@@.Jvm.D
/-! MADE BY PROGRAM (witnessworld.py) out of the Statement's table words and the real class files: 27 classes; the members and pool entries that the words name. The judged class is class 1, her method 1. -/
namespace start1
open Jvm.ClassFile
def u (s : String) : CpInfo := .utf8 (stringToUtf16 s)
/-- a pool by its gaps: so many unusable entries, then the entry; so many at the end -/
def gap : Nat → List CpInfo → List CpInfo
  | 0, r => r
  | n + 1, r => .unusable :: gap n r
def poolList (es : List (Nat × CpInfo)) (last : Nat) : List CpInfo := es.foldr (fun e r => gap e.1 (e.2 :: r)) (gap last [])
def pool (es : List (Nat × CpInfo)) (last : Nat) : Array CpInfo := ⟨poolList es last⟩
def fileOf (pool : Array CpInfo) (this : Nat) (attrs : Array Attribute := #[]) (ms : Array MethodInfo := #[]) (fl : Nat := 33) (sup : Nat := 0) (ifs : Array Nat := #[]) (fds : Array FieldInfo := #[]) : ClassFile where
  minorVersion := 0
  majorVersion := 65
  constantPool := pool
  accessFlags := fl
  thisClass := this
  superClass := sup
  interfaces := ifs
  fields := fds
  methods := ms
  attributes := attrs
def plain (name : String) (sup : Option ClassId) : Class where
  name := name
  kind := .ordinary
  loader := none
  accessFlags := 33
  super := sup
  interfaces := #[]
  cf := none
  fields := #[]
  methods := #[]
  instanceTypes := #[]
  staticTypes := #[]
  resolved := #[]
  callSites := []
  init := .initialized
  statics := none
  mirror := none

def pool0 : Array CpInfo := pool [(5, u "<init>"), (0, u "()V"), (1, .class_ 10), (1, u "java/lang/Object"), (85, u "clone"), (0, u "()Ljava/lang/Object;")] 26

def k0c0 : Code := { maxStack := 0, maxLocals := 1, code := object_method_1_code, exceptionTable := #[], attributes := #[] }
def k0m0 : Method := { name := "<init>", desc := "()V", sig := { parameters := [], returnType := none }, accessFlags := 1, code := some k0c0 }
def k0m1 : Method := { name := "clone", desc := "()Ljava/lang/Object;", sig := { parameters := [], returnType := some (.object "java/lang/Object") }, accessFlags := 260, code := none }
/-- java/lang/Object -/
def k0 : Class := { plain "java/lang/Object" none with
  accessFlags := 33
  interfaces := #[]
  cf := some (fileOf pool0 8 #[] #[{ accessFlags := 1, nameIndex := 5, descriptorIndex := 6, attributes := #[] }, { accessFlags := 260, nameIndex := 96, descriptorIndex := 97, attributes := #[] }] 33 0 #[] #[])
  fields := #[]
  methods := #[k0m0, k0m1]
  instanceTypes := #[]
  staticTypes := #[]
  resolved := Array.replicate 124 none
  statics := none }

def pool1 : Array CpInfo := pool [(2, .class_ 4), (1, u "java/lang/Object"), (0, u "<init>"), (0, u "()V"), (0, .integer 2147483647), (0, .long 281474976710655), (1, .methodref 11 12), (0, .class_ 13), (0, .nameAndType 14 15), (0, u "com/example/torrey/torrey/Base64UrlDecodePinLaw"), (0, u "text"), (0, u "(JI)Ljava/lang/String;"), (0, .methodref 17 18), (0, .class_ 19), (0, .nameAndType 20 21), (0, u "com/example/torrey/torrey/Base64Url"), (0, u "decode"), (0, u "(Ljava/lang/String;)[B"), (0, .methodref 11 23), (0, .nameAndType 24 25), (0, u "byteOk"), (0, u "([BJI)Z"), (0, .long 63), (1, .class_ 29), (0, u "java/lang/String"), (0, .methodref 28 31), (0, .nameAndType 5 32), (0, u "([C)V"), (0, .methodref 11 34), (0, .nameAndType 35 36), (0, u "ch"), (0, u "(JI)C"), (2, u "law"), (0, u "(JI)Z")] 7

def k1m0 : Method := { name := "<init>", desc := "()V", sig := { parameters := [], returnType := none }, accessFlags := 1, code := none }
def k1c1 : Code := { maxStack := 5, maxLocals := 12, code := code, exceptionTable := #[], attributes := #[] }
def k1m1 : Method := { name := "law", desc := "(JI)Z", sig := { parameters := [.long, .int], returnType := some .boolean }, accessFlags := 9, code := some k1c1 }
def k1c2 : Code := { maxStack := 6, maxLocals := 4, code := method_3_code, exceptionTable := #[], attributes := #[] }
def k1m2 : Method := { name := "byteOk", desc := "([BJI)Z", sig := { parameters := [(.array .byte), .long, .int], returnType := some .boolean }, accessFlags := 10, code := some k1c2 }
def k1c3 : Code := { maxStack := 5, maxLocals := 4, code := method_4_code, exceptionTable := #[], attributes := #[] }
def k1m3 : Method := { name := "ch", desc := "(JI)C", sig := { parameters := [.long, .int], returnType := some .char }, accessFlags := 10, code := some k1c3 }
def k1c4 : Code := { maxStack := 8, maxLocals := 3, code := method_5_code, exceptionTable := #[], attributes := #[] }
def k1m4 : Method := { name := "text", desc := "(JI)Ljava/lang/String;", sig := { parameters := [.long, .int], returnType := some (.object "java/lang/String") }, accessFlags := 10, code := some k1c4 }
/-- com/example/torrey/torrey/Base64UrlDecodePinLaw -/
def k1 : Class := { plain "com/example/torrey/torrey/Base64UrlDecodePinLaw" (some 0) with
  accessFlags := 49
  interfaces := #[]
  cf := some (fileOf pool1 11 #[] #[{ accessFlags := 1, nameIndex := 5, descriptorIndex := 6, attributes := #[] }, { accessFlags := 9, nameIndex := 39, descriptorIndex := 40, attributes := #[] }, { accessFlags := 10, nameIndex := 24, descriptorIndex := 25, attributes := #[] }, { accessFlags := 10, nameIndex := 35, descriptorIndex := 36, attributes := #[] }, { accessFlags := 10, nameIndex := 14, descriptorIndex := 15, attributes := #[] }] 49 2 #[] #[])
  fields := #[]
  methods := #[k1m0, k1m1, k1m2, k1m3, k1m4]
  instanceTypes := #[]
  staticTypes := #[]
  resolved := Array.replicate 48 none
  statics := none }

def pool2 : Array CpInfo := pool [(1, .class_ 2), (0, u "java/io/Serializable"), (0, .class_ 4), (0, u "java/lang/Object")] 2

/-- java/io/Serializable -/
def k2 : Class := { plain "java/io/Serializable" (some 0) with
  accessFlags := 1537
  interfaces := #[]
  cf := some (fileOf pool2 1 #[] #[] 1537 3 #[] #[])
  fields := #[]
  methods := #[]
  instanceTypes := #[]
  staticTypes := #[]
  resolved := Array.replicate 7 none
  statics := none }

def pool3 : Array CpInfo := pool [(1, .class_ 2), (0, u "java/lang/Comparable"), (0, .class_ 4), (0, u "java/lang/Object")] 7

/-- java/lang/Comparable -/
def k3 : Class := { plain "java/lang/Comparable" (some 0) with
  accessFlags := 1537
  interfaces := #[]
  cf := some (fileOf pool3 1 #[] #[] 1537 3 #[] #[])
  fields := #[]
  methods := #[]
  instanceTypes := #[]
  staticTypes := #[]
  resolved := Array.replicate 12 none
  statics := none }

def pool4 : Array CpInfo := pool [(2, .class_ 4), (1, u "java/lang/CharSequence"), (42, .class_ 48), (0, u "java/lang/CharSequence$1CodePointIterator"), (10, .class_ 60), (0, u "java/lang/CharSequence$1CharIterator"), (5, .class_ 67), (0, u "java/lang/Object")] 63

/-- java/lang/CharSequence -/
def k4 : Class := { plain "java/lang/CharSequence" (some 0) with
  accessFlags := 1537
  interfaces := #[]
  cf := some (fileOf pool4 2 #[.nestMembers #[47, 59]] #[] 1537 66 #[] #[])
  fields := #[]
  methods := #[]
  instanceTypes := #[]
  staticTypes := #[]
  resolved := Array.replicate 131 none
  statics := none }

def pool5 : Array CpInfo := pool [(1, .class_ 2), (0, u "java/lang/constant/Constable"), (0, .class_ 4), (0, u "java/lang/Object")] 6

/-- java/lang/constant/Constable -/
def k5 : Class := { plain "java/lang/constant/Constable" (some 0) with
  accessFlags := 1537
  interfaces := #[]
  cf := some (fileOf pool5 1 #[] #[] 1537 3 #[] #[])
  fields := #[]
  methods := #[]
  instanceTypes := #[]
  staticTypes := #[]
  resolved := Array.replicate 11 none
  statics := none }

def pool6 : Array CpInfo := pool [(1, .class_ 2), (0, u "java/lang/constant/ConstantDesc"), (0, .class_ 4), (0, u "java/lang/Object")] 32

/-- java/lang/constant/ConstantDesc -/
def k6 : Class := { plain "java/lang/constant/ConstantDesc" (some 0) with
  accessFlags := 1537
  interfaces := #[]
  cf := some (fileOf pool6 1 #[] #[] 1537 3 #[] #[])
  fields := #[]
  methods := #[]
  instanceTypes := #[]
  staticTypes := #[]
  resolved := Array.replicate 37 none
  statics := none }

def pool7 : Array CpInfo := pool [(1, .methodref 2 3), (0, .class_ 4), (0, .nameAndType 5 6), (0, u "java/lang/Object"), (0, u "<init>"), (0, u "()V"), (0, .string 8), (0, u ""), (0, .fieldref 10 11), (0, .class_ 12), (0, .nameAndType 13 14), (0, u "java/lang/String"), (0, u "value"), (0, u "[B"), (0, .fieldref 10 16), (0, .nameAndType 17 18), (0, u "coder"), (0, u "B"), (2, u "hash"), (0, u "I"), (2, u "hashIsZero"), (0, u "Z"), (0, .methodref 10 28), (0, .nameAndType 5 29), (0, u "([CIILjava/lang/Void;)V"), (8, .fieldref 10 39), (0, .nameAndType 40 26), (0, u "COMPACT_STRINGS"), (1, .class_ 44), (1, u "java/lang/StringUTF16"), (0, u "compress"), (1, .methodref 42 48), (0, .nameAndType 49 50), (0, u "coderFromArrayLen"), (0, u "([BI)B"), (35, .fieldref 87 88), (0, .class_ 89), (0, .nameAndType 90 91), (0, u "sun/nio/cs/UTF_8"), (0, u "INSTANCE"), (0, u "Lsun/nio/cs/UTF_8;"), (15, .class_ 109), (1, u "java/lang/StringLatin1"), (6, .fieldref 117 118), (0, .class_ 119), (0, .nameAndType 90 120), (0, u "sun/nio/cs/ISO_8859_1"), (0, u "Lsun/nio/cs/ISO_8859_1;"), (21, u "()Z"), (34, .methodref 42 178), (0, .nameAndType 45 179), (0, u "([CII)[B"), (75, u "(B[BZ)[B"), (0, .methodref 10 257), (0, .nameAndType 258 259), (0, u "encode8859_1"), (0, u "(B[B)[B"), (19, .methodref 280 281), (0, .class_ 14), (0, .nameAndType 282 283), (0, u "clone"), (0, u "()Ljava/lang/Object;"), (33, u "encode"), (16, u "()I"), (0, .methodref 10 336), (0, .nameAndType 17 337), (0, u "()B"), (13, .methodref 10 352), (0, .nameAndType 258 255), (10, u "([BI)C"), (27, u "(II)V"), (35, u "(I)C"), (64, .methodref 10 493), (0, .nameAndType 494 142), (0, u "isLatin1"), (0, .methodref 107 496), (0, .nameAndType 497 363), (0, u "charAt"), (3, u "checkIndex"), (5, u "length"), (24, u "getBytes"), (2, .methodref 10 536), (0, .nameAndType 317 537), (0, u "(Ljava/nio/charset/Charset;B[B)[B"), (37, .class_ 576), (0, u "java/lang/CharSequence"), (22, u "CASE_INSENSITIVE_ORDER"), (0, u "Ljava/util/Comparator;"), (409, u "([C)V"), (42, .fieldref 1054 1055), (0, .class_ 1056), (0, .nameAndType 1057 1058), (0, u "jdk/internal/util/Preconditions"), (0, u "SIOOBE_FORMATTER"), (0, u "Ljava/util/function/BiFunction;"), (0, .methodref 1054 1060), (0, .nameAndType 501 1061), (0, u "(IILjava/util/function/BiFunction;)I"), (39, u "serialPersistentFields"), (0, u "[Ljava/io/ObjectStreamField;"), (0, .class_ 1104), (0, u "java/lang/String$CaseInsensitiveComparator"), (1, .class_ 1107), (0, u "java/io/Serializable"), (0, .class_ 1109), (0, u "java/lang/Comparable"), (0, .class_ 1111), (0, u "java/lang/constant/Constable"), (0, .class_ 1113), (0, u "java/lang/constant/ConstantDesc"), (2, u "serialVersionUID"), (0, u "J"), (3, u "REPL"), (0, u "C"), (2, u "LATIN1"), (1, u "UTF16"), (117, u "(Ljava/nio/charset/Charset;)[B")] 205

def k7m0 : Method := { name := "<init>", desc := "()V", sig := { parameters := [], returnType := none }, accessFlags := 1, code := none }
def k7c1 : Code := { maxStack := 5, maxLocals := 2, code := jdk_42_method_3_code, exceptionTable := #[], attributes := #[] }
def k7m1 : Method := { name := "<init>", desc := "([C)V", sig := { parameters := [(.array .char)], returnType := none }, accessFlags := 1, code := some k7c1 }
def k7c2 : Code := { maxStack := 4, maxLocals := 3, code := jdk_42_method_18_code, exceptionTable := #[], attributes := #[] }
def k7m2 : Method := { name := "encode", desc := "(Ljava/nio/charset/Charset;B[B)[B", sig := { parameters := [(.object "java/nio/charset/Charset"), .byte, (.array .byte)], returnType := some (.array .byte) }, accessFlags := 10, code := some k7c2 }
def k7c3 : Code := { maxStack := 3, maxLocals := 2, code := jdk_42_method_26_code, exceptionTable := #[], attributes := #[] }
def k7m3 : Method := { name := "encode8859_1", desc := "(B[B)[B", sig := { parameters := [.byte, (.array .byte)], returnType := some (.array .byte) }, accessFlags := 10, code := some k7c3 }
def k7c4 : Code := { maxStack := 5, maxLocals := 10, code := jdk_42_method_27_code, exceptionTable := #[], attributes := #[] }
def k7m4 : Method := { name := "encode8859_1", desc := "(B[BZ)[B", sig := { parameters := [.byte, (.array .byte), .boolean], returnType := some (.array .byte) }, accessFlags := 10, code := some k7c4 }
def k7c5 : Code := { maxStack := 2, maxLocals := 1, code := jdk_42_method_54_code, exceptionTable := #[], attributes := #[] }
def k7m5 : Method := { name := "length", desc := "()I", sig := { parameters := [], returnType := some .int }, accessFlags := 1, code := some k7c5 }
def k7c6 : Code := { maxStack := 2, maxLocals := 2, code := jdk_42_method_56_code, exceptionTable := #[], attributes := #[] }
def k7m6 : Method := { name := "charAt", desc := "(I)C", sig := { parameters := [.int], returnType := some .char }, accessFlags := 1, code := some k7c6 }
def k7c7 : Code := { maxStack := 3, maxLocals := 2, code := jdk_42_method_64_code, exceptionTable := #[], attributes := #[] }
def k7m7 : Method := { name := "getBytes", desc := "(Ljava/nio/charset/Charset;)[B", sig := { parameters := [(.object "java/nio/charset/Charset")], returnType := some (.array .byte) }, accessFlags := 1, code := some k7c7 }
def k7c8 : Code := { maxStack := 4, maxLocals := 6, code := jdk_42_method_149_code, exceptionTable := #[], attributes := #[] }
def k7m8 : Method := { name := "<init>", desc := "([CIILjava/lang/Void;)V", sig := { parameters := [(.array .char), .int, .int, (.object "java/lang/Void")], returnType := none }, accessFlags := 2, code := some k7c8 }
def k7c9 : Code := { maxStack := 1, maxLocals := 1, code := jdk_42_method_152_code, exceptionTable := #[], attributes := #[] }
def k7m9 : Method := { name := "coder", desc := "()B", sig := { parameters := [], returnType := some .byte }, accessFlags := 0, code := some k7c9 }
def k7c10 : Code := { maxStack := 1, maxLocals := 1, code := jdk_42_method_154_code, exceptionTable := #[], attributes := #[] }
def k7m10 : Method := { name := "isLatin1", desc := "()Z", sig := { parameters := [], returnType := some .boolean }, accessFlags := 0, code := some k7c10 }
def k7c11 : Code := { maxStack := 3, maxLocals := 2, code := jdk_42_method_155_code, exceptionTable := #[], attributes := #[] }
def k7m11 : Method := { name := "checkIndex", desc := "(II)V", sig := { parameters := [.int, .int], returnType := none }, accessFlags := 8, code := some k7c11 }
/-- java/lang/String -/
def k7 : Class := { plain "java/lang/String" (some 0) with
  accessFlags := 49
  interfaces := #[2, 3, 4, 5, 6]
  cf := some (fileOf pool7 10 #[.nestMembers #[1103]] #[{ accessFlags := 1, nameIndex := 5, descriptorIndex := 6, attributes := #[] }, { accessFlags := 1, nameIndex := 5, descriptorIndex := 1010, attributes := #[] }, { accessFlags := 10, nameIndex := 317, descriptorIndex := 537, attributes := #[] }, { accessFlags := 10, nameIndex := 258, descriptorIndex := 259, attributes := #[] }, { accessFlags := 10, nameIndex := 258, descriptorIndex := 255, attributes := #[] }, { accessFlags := 1, nameIndex := 507, descriptorIndex := 334, attributes := #[] }, { accessFlags := 1, nameIndex := 497, descriptorIndex := 427, attributes := #[] }, { accessFlags := 1, nameIndex := 532, descriptorIndex := 1245, attributes := #[] }, { accessFlags := 2, nameIndex := 5, descriptorIndex := 29, attributes := #[] }, { accessFlags := 0, nameIndex := 17, descriptorIndex := 337, attributes := #[] }, { accessFlags := 0, nameIndex := 494, descriptorIndex := 142, attributes := #[] }, { accessFlags := 8, nameIndex := 501, descriptorIndex := 391, attributes := #[] }] 49 2 #[1106, 1108, 575, 1110, 1112] #[{ accessFlags := 18, nameIndex := 13, descriptorIndex := 14, attributes := #[] }, { accessFlags := 18, nameIndex := 17, descriptorIndex := 18, attributes := #[] }, { accessFlags := 2, nameIndex := 21, descriptorIndex := 22, attributes := #[] }, { accessFlags := 2, nameIndex := 25, descriptorIndex := 26, attributes := #[] }, { accessFlags := 26, nameIndex := 1116, descriptorIndex := 1117, attributes := #[] }, { accessFlags := 24, nameIndex := 40, descriptorIndex := 26, attributes := #[] }, { accessFlags := 26, nameIndex := 1101, descriptorIndex := 1102, attributes := #[] }, { accessFlags := 26, nameIndex := 1121, descriptorIndex := 1122, attributes := #[] }, { accessFlags := 25, nameIndex := 599, descriptorIndex := 600, attributes := #[] }, { accessFlags := 24, nameIndex := 1125, descriptorIndex := 18, attributes := #[] }, { accessFlags := 24, nameIndex := 1127, descriptorIndex := 18, attributes := #[] }])
  fields := #[{ name := "value", type := (.array .byte), accessFlags := 18, slot := 0, constantValue := 0 }, { name := "coder", type := .byte, accessFlags := 18, slot := 1, constantValue := 0 }, { name := "hash", type := .int, accessFlags := 2, slot := 2, constantValue := 0 }, { name := "hashIsZero", type := .boolean, accessFlags := 2, slot := 3, constantValue := 0 }, { name := "serialVersionUID", type := .long, accessFlags := 26, slot := 0, constantValue := 0 }, { name := "COMPACT_STRINGS", type := .boolean, accessFlags := 24, slot := 1, constantValue := 0 }, { name := "serialPersistentFields", type := (.array (.object "java/io/ObjectStreamField")), accessFlags := 26, slot := 2, constantValue := 0 }, { name := "REPL", type := .char, accessFlags := 26, slot := 3, constantValue := 0 }, { name := "CASE_INSENSITIVE_ORDER", type := (.object "java/util/Comparator"), accessFlags := 25, slot := 4, constantValue := 0 }, { name := "LATIN1", type := .byte, accessFlags := 24, slot := 5, constantValue := 0 }, { name := "UTF16", type := .byte, accessFlags := 24, slot := 6, constantValue := 0 }]
  methods := #[k7m0, k7m1, k7m2, k7m3, k7m4, k7m5, k7m6, k7m7, k7m8, k7m9, k7m10, k7m11]
  instanceTypes := #[(.array .byte), .byte, .int, .boolean]
  staticTypes := #[.long, .boolean, (.array (.object "java/io/ObjectStreamField")), .char, (.object "java/util/Comparator"), .byte, .byte]
  resolved := Array.replicate 1451 none
  statics := some 0 }

def pool8 : Array CpInfo := pool [(6, .class_ 8), (1, u "java/lang/Object"), (0, u "<init>"), (0, u "()V"), (1, .class_ 14), (1, u "java/lang/StringUTF16"), (31, u "$assertionsDisabled"), (0, u "Z"), (13, u "HI_BYTE_SHIFT"), (0, u "I"), (2, u "LO_BYTE_SHIFT"), (49, .methodref 12 116), (0, .nameAndType 117 118), (0, u "compress"), (0, u "([CI[BII)I"), (3, u "([CII)[B"), (138, u "coderFromArrayLen"), (0, u "([BI)B"), (106, .class_ 371), (1, u "java/lang/StringUTF16$LinesSpliterator"), (58, u "MAX_LENGTH"), (196, .class_ 628), (0, u "java/lang/StringUTF16$CodePointsSpliterator"), (0, .class_ 630), (0, u "java/lang/StringUTF16$CharsSpliterator")] 4

def k8m0 : Method := { name := "<init>", desc := "()V", sig := { parameters := [], returnType := none }, accessFlags := 0, code := none }
def k8c1 : Code := { maxStack := 2, maxLocals := 2, code := jdk_52_method_15_code, exceptionTable := #[], attributes := #[] }
def k8m1 : Method := { name := "coderFromArrayLen", desc := "([BI)B", sig := { parameters := [(.array .byte), .int], returnType := some .byte }, accessFlags := 8, code := some k8c1 }
def k8c2 : Code := { maxStack := 5, maxLocals := 6, code := jdk_52_method_16_code, exceptionTable := #[], attributes := #[] }
def k8m2 : Method := { name := "compress", desc := "([CII)[B", sig := { parameters := [(.array .char), .int, .int], returnType := some (.array .byte) }, accessFlags := 9, code := some k8c2 }
def k8c3 : Code := { maxStack := 3, maxLocals := 7, code := jdk_52_method_21_code, exceptionTable := #[], attributes := #[] }
def k8m3 : Method := { name := "compress", desc := "([CI[BII)I", sig := { parameters := [(.array .char), .int, (.array .byte), .int, .int], returnType := some .int }, accessFlags := 9, code := some k8c3 }
/-- java/lang/StringUTF16 -/
def k8 : Class := { plain "java/lang/StringUTF16" (some 0) with
  accessFlags := 48
  interfaces := #[]
  cf := some (fileOf pool8 12 #[.nestMembers #[627, 629, 369]] #[{ accessFlags := 0, nameIndex := 9, descriptorIndex := 10, attributes := #[] }, { accessFlags := 8, nameIndex := 261, descriptorIndex := 262, attributes := #[] }, { accessFlags := 9, nameIndex := 117, descriptorIndex := 122, attributes := #[] }, { accessFlags := 9, nameIndex := 117, descriptorIndex := 118, attributes := #[] }] 48 6 #[] #[{ accessFlags := 26, nameIndex := 61, descriptorIndex := 62, attributes := #[] }, { accessFlags := 26, nameIndex := 65, descriptorIndex := 62, attributes := #[] }, { accessFlags := 24, nameIndex := 430, descriptorIndex := 62, attributes := #[] }, { accessFlags := 4120, nameIndex := 46, descriptorIndex := 47, attributes := #[] }])
  fields := #[{ name := "HI_BYTE_SHIFT", type := .int, accessFlags := 26, slot := 0, constantValue := 0 }, { name := "LO_BYTE_SHIFT", type := .int, accessFlags := 26, slot := 1, constantValue := 0 }, { name := "MAX_LENGTH", type := .int, accessFlags := 24, slot := 2, constantValue := 0 }, { name := "$assertionsDisabled", type := .boolean, accessFlags := 4120, slot := 3, constantValue := 0 }]
  methods := #[k8m0, k8m1, k8m2, k8m3]
  instanceTypes := #[]
  staticTypes := #[.int, .int, .int, .boolean]
  resolved := Array.replicate 635 none
  statics := none }

def pool9 : Array CpInfo := pool [(2, .class_ 4), (1, u "java/lang/Object"), (0, u "<init>"), (0, u "()V"), (1, .class_ 10), (1, u "com/example/torrey/torrey/Base64Url"), (0, u "ENCODER"), (0, u "Ljava/util/Base64$Encoder;"), (6, .string 20), (0, u "text"), (0, .methodref 22 23), (0, .class_ 24), (0, .nameAndType 25 26), (0, u "java/util/Objects"), (0, u "requireNonNull"), (0, u "(Ljava/lang/Object;Ljava/lang/String;)Ljava/lang/Object;"), (0, .methodref 28 29), (0, .class_ 30), (0, .nameAndType 31 32), (0, u "java/lang/String"), (0, u "length"), (0, u "()I"), (0, .methodref 28 34), (0, .nameAndType 35 36), (0, u "charAt"), (0, u "(I)C"), (0, .methodref 8 38), (0, .nameAndType 39 40), (0, u "sextet"), (0, u "(C)I"), (0, .class_ 42), (0, u "com/example/torrey/torrey/Base64Url$MalformedTextException"), (13, .fieldref 8 57), (0, .nameAndType 58 59), (0, u "DECODER"), (0, u "Ljava/util/Base64$Decoder;"), (0, .methodref 61 62), (0, .class_ 63), (0, .nameAndType 64 65), (0, u "java/util/Base64$Decoder"), (0, u "decode"), (0, u "(Ljava/lang/String;)[B")] 67

def k9m0 : Method := { name := "<init>", desc := "()V", sig := { parameters := [], returnType := none }, accessFlags := 2, code := none }
def k9c1 : Code := { maxStack := 5, maxLocals := 3, code := prog_1_method_3_code, exceptionTable := #[], attributes := #[] }
def k9m1 : Method := { name := "decode", desc := "(Ljava/lang/String;)[B", sig := { parameters := [(.object "java/lang/String")], returnType := some (.array .byte) }, accessFlags := 9, code := some k9c1 }
def k9c2 : Code := { maxStack := 2, maxLocals := 1, code := prog_1_method_5_code, exceptionTable := #[], attributes := #[] }
def k9m2 : Method := { name := "sextet", desc := "(C)I", sig := { parameters := [.char], returnType := some .int }, accessFlags := 10, code := some k9c2 }
/-- com/example/torrey/torrey/Base64Url -/
def k9 : Class := { plain "com/example/torrey/torrey/Base64Url" (some 0) with
  accessFlags := 33
  interfaces := #[]
  cf := some (fileOf pool9 8 #[.nestMembers #[41]] #[{ accessFlags := 2, nameIndex := 5, descriptorIndex := 6, attributes := #[] }, { accessFlags := 9, nameIndex := 64, descriptorIndex := 65, attributes := #[] }, { accessFlags := 10, nameIndex := 39, descriptorIndex := 40, attributes := #[] }] 33 2 #[] #[{ accessFlags := 26, nameIndex := 11, descriptorIndex := 12, attributes := #[] }, { accessFlags := 26, nameIndex := 58, descriptorIndex := 59, attributes := #[] }])
  fields := #[{ name := "ENCODER", type := (.object "java/util/Base64$Encoder"), accessFlags := 26, slot := 0, constantValue := 0 }, { name := "DECODER", type := (.object "java/util/Base64$Decoder"), accessFlags := 26, slot := 1, constantValue := 0 }]
  methods := #[k9m0, k9m1, k9m2]
  instanceTypes := #[]
  staticTypes := #[(.object "java/util/Base64$Encoder"), (.object "java/util/Base64$Decoder")]
  resolved := Array.replicate 133 none
  statics := some 1 }

def pool10 : Array CpInfo := pool [(2, .class_ 4), (1, u "java/lang/Object"), (0, u "<init>"), (0, u "()V"), (35, .class_ 44), (1, u "java/util/Objects"), (0, u "requireNonNull"), (48, u "(Ljava/lang/Object;Ljava/lang/String;)Ljava/lang/Object;")] 89

def k10m0 : Method := { name := "<init>", desc := "()V", sig := { parameters := [], returnType := none }, accessFlags := 2, code := none }
def k10c1 : Code := { maxStack := 3, maxLocals := 2, code := jdk_31_method_11_code, exceptionTable := #[], attributes := #[] }
def k10m1 : Method := { name := "requireNonNull", desc := "(Ljava/lang/Object;Ljava/lang/String;)Ljava/lang/Object;", sig := { parameters := [(.object "java/lang/Object"), (.object "java/lang/String")], returnType := some (.object "java/lang/Object") }, accessFlags := 9, code := some k10c1 }
/-- java/util/Objects -/
def k10 : Class := { plain "java/util/Objects" (some 0) with
  accessFlags := 49
  interfaces := #[]
  cf := some (fileOf pool10 42 #[] #[{ accessFlags := 2, nameIndex := 5, descriptorIndex := 6, attributes := #[] }, { accessFlags := 9, nameIndex := 45, descriptorIndex := 94, attributes := #[] }] 49 2 #[] #[])
  fields := #[]
  methods := #[k10m0, k10m1]
  instanceTypes := #[]
  staticTypes := #[]
  resolved := Array.replicate 184 none
  statics := none }

def pool11 : Array CpInfo := pool [(1, .class_ 2), (0, u "java/lang/String"), (1, .class_ 6), (1, u "java/lang/Object"), (0, u "<init>"), (0, u "()V"), (0, .methodref 1 10), (0, .nameAndType 11 12), (0, u "checkIndex"), (0, u "(II)V"), (1, .class_ 16), (1, u "java/lang/StringLatin1"), (36, u "([BI)C"), (67, u "$assertionsDisabled"), (0, u "Z"), (98, .class_ 223), (1, u "java/lang/StringLatin1$LinesSpliterator"), (28, u "charAt"), (137, .class_ 391), (0, u "java/lang/StringLatin1$CharsSpliterator")] 3

def k11m0 : Method := { name := "<init>", desc := "()V", sig := { parameters := [], returnType := none }, accessFlags := 0, code := none }
def k11c1 : Code := { maxStack := 2, maxLocals := 2, code := jdk_43_method_2_code, exceptionTable := #[], attributes := #[] }
def k11m1 : Method := { name := "charAt", desc := "([BI)C", sig := { parameters := [(.array .byte), .int], returnType := some .char }, accessFlags := 9, code := some k11c1 }
/-- java/lang/StringLatin1 -/
def k11 : Class := { plain "java/lang/StringLatin1" (some 0) with
  accessFlags := 48
  interfaces := #[]
  cf := some (fileOf pool11 14 #[.nestMembers #[390, 221]] #[{ accessFlags := 0, nameIndex := 7, descriptorIndex := 8, attributes := #[] }, { accessFlags := 9, nameIndex := 252, descriptorIndex := 53, attributes := #[] }] 48 4 #[] #[{ accessFlags := 4120, nameIndex := 121, descriptorIndex := 122, attributes := #[] }])
  fields := #[{ name := "$assertionsDisabled", type := .boolean, accessFlags := 4120, slot := 0, constantValue := 0 }]
  methods := #[k11m0, k11m1]
  instanceTypes := #[]
  staticTypes := #[.boolean]
  resolved := Array.replicate 395 none
  statics := none }

def pool12 : Array CpInfo := pool [(2, .class_ 4), (1, u "java/lang/Object"), (0, u "<init>"), (0, u "()V"), (17, .class_ 26), (1, u "jdk/internal/util/Preconditions"), (6, u "checkIndex"), (21, .class_ 56), (0, u "jdk/internal/util/Preconditions$4"), (57, .class_ 115), (0, u "jdk/internal/util/Preconditions$1"), (7, u "SIOOBE_FORMATTER"), (0, u "Ljava/util/function/BiFunction;"), (0, .class_ 126), (0, u "jdk/internal/util/Preconditions$2"), (3, u "AIOOBE_FORMATTER"), (0, .class_ 132), (0, u "jdk/internal/util/Preconditions$3"), (3, u "IOOBE_FORMATTER"), (41, u "(IILjava/util/function/BiFunction;)I")] 15

def k12m0 : Method := { name := "<init>", desc := "()V", sig := { parameters := [], returnType := none }, accessFlags := 1, code := none }
def k12c1 : Code := { maxStack := 3, maxLocals := 3, code := jdk_41_method_11_code, exceptionTable := #[], attributes := #[] }
def k12m1 : Method := { name := "checkIndex", desc := "(IILjava/util/function/BiFunction;)I", sig := { parameters := [.int, .int, (.object "java/util/function/BiFunction")], returnType := some .int }, accessFlags := 9, code := some k12c1 }
/-- jdk/internal/util/Preconditions -/
def k12 : Class := { plain "jdk/internal/util/Preconditions" (some 0) with
  accessFlags := 33
  interfaces := #[]
  cf := some (fileOf pool12 24 #[.nestMembers #[55, 131, 125, 114]] #[{ accessFlags := 1, nameIndex := 5, descriptorIndex := 6, attributes := #[] }, { accessFlags := 9, nameIndex := 33, descriptorIndex := 178, attributes := #[] }] 33 2 #[] #[{ accessFlags := 25, nameIndex := 123, descriptorIndex := 124, attributes := #[] }, { accessFlags := 25, nameIndex := 130, descriptorIndex := 124, attributes := #[] }, { accessFlags := 25, nameIndex := 136, descriptorIndex := 124, attributes := #[] }])
  fields := #[{ name := "SIOOBE_FORMATTER", type := (.object "java/util/function/BiFunction"), accessFlags := 25, slot := 0, constantValue := 0 }, { name := "AIOOBE_FORMATTER", type := (.object "java/util/function/BiFunction"), accessFlags := 25, slot := 1, constantValue := 0 }, { name := "IOOBE_FORMATTER", type := (.object "java/util/function/BiFunction"), accessFlags := 25, slot := 2, constantValue := 0 }]
  methods := #[k12m0, k12m1]
  instanceTypes := #[]
  staticTypes := #[(.object "java/util/function/BiFunction"), (.object "java/util/function/BiFunction"), (.object "java/util/function/BiFunction")]
  resolved := Array.replicate 194 none
  statics := some 2 }

def pool13 : Array CpInfo := pool [(2, .class_ 4), (1, u "java/lang/Object"), (2, .fieldref 8 9), (0, .class_ 10), (0, .nameAndType 11 12), (0, u "java/util/Base64$Decoder"), (0, u "isURL"), (0, u "Z"), (0, .fieldref 8 14), (0, .nameAndType 15 12), (0, u "isMIME"), (0, .methodref 8 17), (0, .nameAndType 18 19), (0, u "decodedOutLength"), (0, u "([BII)I"), (0, .methodref 8 21), (0, .nameAndType 22 23), (0, u "decode0"), (0, u "([BII[B)I"), (6, .fieldref 31 32), (0, .class_ 33), (0, .nameAndType 34 35), (0, u "sun/nio/cs/ISO_8859_1"), (0, u "INSTANCE"), (0, u "Lsun/nio/cs/ISO_8859_1;"), (0, .methodref 37 38), (0, .class_ 39), (0, .nameAndType 40 41), (0, u "java/lang/String"), (0, u "getBytes"), (0, u "(Ljava/nio/charset/Charset;)[B"), (0, .methodref 8 43), (0, .nameAndType 44 45), (0, u "decode"), (0, u "([B)[B"), (49, .fieldref 8 96), (0, .nameAndType 97 98), (0, u "fromBase64URL"), (0, u "[I"), (2, u "fromBase64"), (5, .long 3), (1, .long 4), (1, .methodref 8 112), (0, .nameAndType 113 114), (0, u "decodeBlock"), (0, u "([BII[BIZZ)I"), (45, u "RFC4648"), (0, u "Ljava/util/Base64$Decoder;"), (2, u "RFC4648_URLSAFE"), (2, u "RFC2045"), (11, u "(Ljava/lang/String;)[B"), (40, .class_ 221), (0, u "java/util/Base64")] 4

def k13c0 : Code := { maxStack := 5, maxLocals := 4, code := jdk_2450_method_2_code, exceptionTable := #[], attributes := #[] }
def k13m0 : Method := { name := "decode", desc := "([B)[B", sig := { parameters := [(.array .byte)], returnType := some (.array .byte) }, accessFlags := 1, code := some k13c0 }
def k13c1 : Code := { maxStack := 3, maxLocals := 2, code := jdk_2450_method_3_code, exceptionTable := #[], attributes := #[] }
def k13m1 : Method := { name := "decode", desc := "(Ljava/lang/String;)[B", sig := { parameters := [(.object "java/lang/String")], returnType := some (.array .byte) }, accessFlags := 1, code := some k13c1 }
def k13c2 : Code := { maxStack := 5, maxLocals := 9, code := jdk_2450_method_7_code, exceptionTable := #[], attributes := #[] }
def k13m2 : Method := { name := "decodedOutLength", desc := "([BII)I", sig := { parameters := [(.array .byte), .int, .int], returnType := some .int }, accessFlags := 2, code := some k13c2 }
def k13c3 : Code := { maxStack := 4, maxLocals := 16, code := jdk_2450_method_8_code, exceptionTable := #[], attributes := #[] }
def k13m3 : Method := { name := "decodeBlock", desc := "([BII[BIZZ)I", sig := { parameters := [(.array .byte), .int, .int, (.array .byte), .int, .boolean, .boolean], returnType := some .int }, accessFlags := 2, code := some k13c3 }
def k13c4 : Code := { maxStack := 8, maxLocals := 11, code := jdk_2450_method_9_code, exceptionTable := #[], attributes := #[] }
def k13m4 : Method := { name := "decode0", desc := "([BII[B)I", sig := { parameters := [(.array .byte), .int, .int, (.array .byte)], returnType := some .int }, accessFlags := 2, code := some k13c4 }
/-- java/util/Base64$Decoder -/
def k13 : Class := { plain "java/util/Base64$Decoder" (some 0) with
  accessFlags := 33
  interfaces := #[]
  cf := some (fileOf pool13 8 #[.nestHost 220] #[{ accessFlags := 1, nameIndex := 44, descriptorIndex := 45, attributes := #[] }, { accessFlags := 1, nameIndex := 44, descriptorIndex := 179, attributes := #[] }, { accessFlags := 2, nameIndex := 18, descriptorIndex := 19, attributes := #[] }, { accessFlags := 2, nameIndex := 113, descriptorIndex := 114, attributes := #[] }, { accessFlags := 2, nameIndex := 22, descriptorIndex := 23, attributes := #[] }] 33 2 #[] #[{ accessFlags := 18, nameIndex := 11, descriptorIndex := 12, attributes := #[] }, { accessFlags := 18, nameIndex := 15, descriptorIndex := 12, attributes := #[] }, { accessFlags := 26, nameIndex := 101, descriptorIndex := 98, attributes := #[] }, { accessFlags := 26, nameIndex := 97, descriptorIndex := 98, attributes := #[] }, { accessFlags := 24, nameIndex := 160, descriptorIndex := 161, attributes := #[] }, { accessFlags := 24, nameIndex := 164, descriptorIndex := 161, attributes := #[] }, { accessFlags := 24, nameIndex := 167, descriptorIndex := 161, attributes := #[] }])
  fields := #[{ name := "isURL", type := .boolean, accessFlags := 18, slot := 0, constantValue := 0 }, { name := "isMIME", type := .boolean, accessFlags := 18, slot := 1, constantValue := 0 }, { name := "fromBase64", type := (.array .int), accessFlags := 26, slot := 0, constantValue := 0 }, { name := "fromBase64URL", type := (.array .int), accessFlags := 26, slot := 1, constantValue := 0 }, { name := "RFC4648", type := (.object "java/util/Base64$Decoder"), accessFlags := 24, slot := 2, constantValue := 0 }, { name := "RFC4648_URLSAFE", type := (.object "java/util/Base64$Decoder"), accessFlags := 24, slot := 3, constantValue := 0 }, { name := "RFC2045", type := (.object "java/util/Base64$Decoder"), accessFlags := 24, slot := 4, constantValue := 0 }]
  methods := #[k13m0, k13m1, k13m2, k13m3, k13m4]
  instanceTypes := #[.boolean, .boolean]
  staticTypes := #[(.array .int), (.array .int), (.object "java/util/Base64$Decoder"), (.object "java/util/Base64$Decoder"), (.object "java/util/Base64$Decoder")]
  resolved := Array.replicate 226 none
  statics := some 3 }

def pool14 : Array CpInfo := pool [(18, .class_ 20), (1, u "java/nio/charset/Charset"), (0, u "cache1"), (0, u "[Ljava/lang/Object;"), (2, u "cache2"), (0, .class_ 27), (0, u "java/lang/Object"), (0, .class_ 29), (0, u "java/nio/charset/Charset$1"), (4, .class_ 36), (1, u "java/nio/charset/Charset$ThreadTrackHolder"), (21, .class_ 59), (0, u "java/nio/charset/Charset$2"), (11, .class_ 73), (1, u "java/nio/charset/Charset$ExtendedProviderHolder"), (22, u "standardProvider"), (0, u "Ljava/nio/charset/spi/CharsetProvider;"), (29, u "name"), (7, .class_ 136), (0, u "java/nio/charset/Charset$3"), (5, u "defaultCharset"), (0, u "Ljava/nio/charset/Charset;"), (14, u "zeroAliases"), (0, u "[Ljava/lang/String;"), (29, u "Ljava/lang/String;"), (2, u "aliases"), (2, u "aliasSet"), (0, u "Ljava/util/Set;"), (82, .class_ 280), (0, u "java/lang/Comparable"), (84, .class_ 366), (0, u "java/nio/charset/Charset$ExtendedProviderHolder$1")] 3

/-- java/nio/charset/Charset -/
def k14 : Class := { plain "java/nio/charset/Charset" (some 0) with
  accessFlags := 1057
  interfaces := #[3]
  cf := some (fileOf pool14 18 #[.nestMembers #[71, 365, 34, 135, 58, 28]] #[] 1057 26 #[279] #[{ accessFlags := 26, nameIndex := 96, descriptorIndex := 97, attributes := #[] }, { accessFlags := 26, nameIndex := 158, descriptorIndex := 159, attributes := #[] }, { accessFlags := 74, nameIndex := 21, descriptorIndex := 22, attributes := #[] }, { accessFlags := 74, nameIndex := 25, descriptorIndex := 22, attributes := #[] }, { accessFlags := 10, nameIndex := 142, descriptorIndex := 143, attributes := #[] }, { accessFlags := 18, nameIndex := 127, descriptorIndex := 189, attributes := #[] }, { accessFlags := 18, nameIndex := 192, descriptorIndex := 159, attributes := #[] }, { accessFlags := 2, nameIndex := 195, descriptorIndex := 196, attributes := #[] }])
  fields := #[{ name := "standardProvider", type := (.object "java/nio/charset/spi/CharsetProvider"), accessFlags := 26, slot := 0, constantValue := 0 }, { name := "zeroAliases", type := (.array (.object "java/lang/String")), accessFlags := 26, slot := 1, constantValue := 0 }, { name := "cache1", type := (.array (.object "java/lang/Object")), accessFlags := 74, slot := 2, constantValue := 0 }, { name := "cache2", type := (.array (.object "java/lang/Object")), accessFlags := 74, slot := 3, constantValue := 0 }, { name := "defaultCharset", type := (.object "java/nio/charset/Charset"), accessFlags := 10, slot := 4, constantValue := 0 }, { name := "name", type := (.object "java/lang/String"), accessFlags := 18, slot := 0, constantValue := 0 }, { name := "aliases", type := (.array (.object "java/lang/String")), accessFlags := 18, slot := 1, constantValue := 0 }, { name := "aliasSet", type := (.object "java/util/Set"), accessFlags := 2, slot := 2, constantValue := 0 }]
  methods := #[]
  instanceTypes := #[(.object "java/lang/String"), (.array (.object "java/lang/String")), (.object "java/util/Set")]
  staticTypes := #[(.object "java/nio/charset/spi/CharsetProvider"), (.array (.object "java/lang/String")), (.array (.object "java/lang/Object")), (.array (.object "java/lang/Object")), (.object "java/nio/charset/Charset")]
  resolved := Array.replicate 370 none
  statics := none }

def pool15 : Array CpInfo := pool [(1, .class_ 2), (0, u "sun/nio/cs/HistoricallyNamedCharset"), (0, .class_ 4), (0, u "java/lang/Object")] 4

/-- sun/nio/cs/HistoricallyNamedCharset -/
def k15 : Class := { plain "sun/nio/cs/HistoricallyNamedCharset" (some 0) with
  accessFlags := 1537
  interfaces := #[]
  cf := some (fileOf pool15 1 #[] #[] 1537 3 #[] #[])
  fields := #[]
  methods := #[]
  instanceTypes := #[]
  staticTypes := #[]
  resolved := Array.replicate 9 none
  statics := none }

def pool16 : Array CpInfo := pool [(10, .class_ 12), (1, u "java/nio/charset/Charset"), (0, u "<init>"), (5, .class_ 20), (0, u "sun/nio/cs/ISO_8859_1"), (0, .class_ 22), (0, u "sun/nio/cs/ISO_8859_1$Decoder"), (3, .class_ 27), (0, u "sun/nio/cs/ISO_8859_1$Encoder"), (3, u "()V"), (2, u "INSTANCE"), (0, u "Lsun/nio/cs/ISO_8859_1;"), (0, .class_ 37), (0, u "sun/nio/cs/HistoricallyNamedCharset")] 22

def k16m0 : Method := { name := "<init>", desc := "()V", sig := { parameters := [], returnType := none }, accessFlags := 1, code := none }
/-- sun/nio/cs/ISO_8859_1 -/
def k16 : Class := { plain "sun/nio/cs/ISO_8859_1" (some 14) with
  accessFlags := 33
  interfaces := #[15]
  cf := some (fileOf pool16 19 #[.nestMembers #[26, 21]] #[{ accessFlags := 1, nameIndex := 13, descriptorIndex := 31, attributes := #[] }] 33 10 #[36] #[{ accessFlags := 25, nameIndex := 34, descriptorIndex := 35, attributes := #[] }])
  fields := #[{ name := "INSTANCE", type := (.object "sun/nio/cs/ISO_8859_1"), accessFlags := 25, slot := 0, constantValue := 0 }]
  methods := #[k16m0]
  instanceTypes := #[(.object "java/lang/String"), (.array (.object "java/lang/String")), (.object "java/util/Set")]
  staticTypes := #[(.object "sun/nio/cs/ISO_8859_1")]
  resolved := Array.replicate 60 none
  statics := some 4 }

def pool17 : Array CpInfo := pool [(2, .class_ 4), (1, u "java/nio/charset/Charset"), (130, .class_ 136), (0, u "sun/nio/cs/Unicode"), (0, .class_ 138), (0, u "sun/nio/cs/HistoricallyNamedCharset")] 15

/-- sun/nio/cs/Unicode -/
def k17 : Class := { plain "sun/nio/cs/Unicode" (some 14) with
  accessFlags := 1056
  interfaces := #[15]
  cf := some (fileOf pool17 135 #[] #[] 1056 2 #[137] #[])
  fields := #[]
  methods := #[]
  instanceTypes := #[(.object "java/lang/String"), (.array (.object "java/lang/String")), (.object "java/util/Set")]
  staticTypes := #[]
  resolved := Array.replicate 154 none
  statics := none }

def pool18 : Array CpInfo := pool [(10, .class_ 12), (1, u "sun/nio/cs/Unicode"), (0, u "<init>"), (3, .class_ 18), (0, u "sun/nio/cs/UTF_8$Decoder"), (3, .class_ 23), (0, u "sun/nio/cs/UTF_8$Encoder"), (15, .class_ 40), (0, u "sun/nio/cs/UTF_8"), (2, u "()V"), (2, u "INSTANCE"), (0, u "Lsun/nio/cs/UTF_8;"), (8, u "JLA"), (0, u "Ljdk/internal/access/JavaLangAccess;")] 26

def k18m0 : Method := { name := "<init>", desc := "()V", sig := { parameters := [], returnType := none }, accessFlags := 1, code := none }
/-- sun/nio/cs/UTF_8 -/
def k18 : Class := { plain "sun/nio/cs/UTF_8" (some 17) with
  accessFlags := 49
  interfaces := #[]
  cf := some (fileOf pool18 39 #[.nestMembers #[22, 17]] #[{ accessFlags := 1, nameIndex := 13, descriptorIndex := 43, attributes := #[] }] 49 10 #[] #[{ accessFlags := 25, nameIndex := 46, descriptorIndex := 47, attributes := #[] }, { accessFlags := 26, nameIndex := 56, descriptorIndex := 57, attributes := #[] }])
  fields := #[{ name := "INSTANCE", type := (.object "sun/nio/cs/UTF_8"), accessFlags := 25, slot := 0, constantValue := 0 }, { name := "JLA", type := (.object "jdk/internal/access/JavaLangAccess"), accessFlags := 26, slot := 1, constantValue := 0 }]
  methods := #[k18m0]
  instanceTypes := #[(.object "java/lang/String"), (.array (.object "java/lang/String")), (.object "java/util/Set")]
  staticTypes := #[(.object "sun/nio/cs/UTF_8"), (.object "jdk/internal/access/JavaLangAccess")]
  resolved := Array.replicate 84 none
  statics := some 5 }

def pool19 : Array CpInfo := pool [(1, .class_ 2), (0, u "java/lang/Cloneable"), (0, .class_ 4), (0, u "java/lang/Object")] 2

/-- java/lang/Cloneable -/
def k19 : Class := { plain "java/lang/Cloneable" (some 0) with
  accessFlags := 1537
  interfaces := #[]
  cf := some (fileOf pool19 1 #[] #[] 1537 3 #[] #[])
  fields := #[]
  methods := #[]
  instanceTypes := #[]
  staticTypes := #[]
  resolved := Array.replicate 7 none
  statics := none }

def pool20 : Array CpInfo := pool [(9, u "<init>"), (6, .class_ 18), (1, u "java/lang/Object"), (0, u "()V"), (1, .class_ 23), (1, u "jdk/internal/util/ArraysSupport"), (0, u "LOG2_ARRAY_LONG_INDEX_SCALE"), (0, u "I"), (2, u "U"), (0, u "Ljdk/internal/misc/Unsafe;"), (8, u "BIG_ENDIAN"), (0, u "Z"), (8, u "LOG2_BYTE_BIT_SIZE"), (4, u "LOG2_ARRAY_INT_INDEX_SCALE"), (54, u "JLA"), (0, u "Ljdk/internal/access/JavaLangAccess;"), (11, u "LOG2_ARRAY_BOOLEAN_INDEX_SCALE"), (9, u "LOG2_ARRAY_BYTE_INDEX_SCALE"), (5, u "LOG2_ARRAY_CHAR_INDEX_SCALE"), (5, u "LOG2_ARRAY_SHORT_INDEX_SCALE"), (18, u "LOG2_ARRAY_FLOAT_INDEX_SCALE"), (24, u "LOG2_ARRAY_DOUBLE_INDEX_SCALE"), (89, u "T_BOOLEAN"), (2, u "T_CHAR"), (1, u "T_FLOAT"), (1, u "T_DOUBLE"), (1, u "T_BYTE"), (1, u "T_SHORT"), (1, u "T_INT"), (1, u "T_LONG"), (1, u "SOFT_MAX_ARRAY_LENGTH")] 83

def k20m0 : Method := { name := "<init>", desc := "()V", sig := { parameters := [], returnType := none }, accessFlags := 2, code := none }
/-- jdk/internal/util/ArraysSupport -/
def k20 : Class := { plain "jdk/internal/util/ArraysSupport" (some 0) with
  accessFlags := 33
  interfaces := #[]
  cf := some (fileOf pool20 21 #[] #[{ accessFlags := 2, nameIndex := 9, descriptorIndex := 19, attributes := #[] }] 33 16 #[] #[{ accessFlags := 24, nameIndex := 28, descriptorIndex := 29, attributes := #[] }, { accessFlags := 26, nameIndex := 38, descriptorIndex := 39, attributes := #[] }, { accessFlags := 25, nameIndex := 121, descriptorIndex := 25, attributes := #[] }, { accessFlags := 25, nameIndex := 131, descriptorIndex := 25, attributes := #[] }, { accessFlags := 25, nameIndex := 137, descriptorIndex := 25, attributes := #[] }, { accessFlags := 25, nameIndex := 143, descriptorIndex := 25, attributes := #[] }, { accessFlags := 25, nameIndex := 53, descriptorIndex := 25, attributes := #[] }, { accessFlags := 25, nameIndex := 24, descriptorIndex := 25, attributes := #[] }, { accessFlags := 25, nameIndex := 162, descriptorIndex := 25, attributes := #[] }, { accessFlags := 25, nameIndex := 187, descriptorIndex := 25, attributes := #[] }, { accessFlags := 26, nameIndex := 48, descriptorIndex := 25, attributes := #[] }, { accessFlags := 25, nameIndex := 277, descriptorIndex := 25, attributes := #[] }, { accessFlags := 25, nameIndex := 280, descriptorIndex := 25, attributes := #[] }, { accessFlags := 25, nameIndex := 282, descriptorIndex := 25, attributes := #[] }, { accessFlags := 25, nameIndex := 284, descriptorIndex := 25, attributes := #[] }, { accessFlags := 25, nameIndex := 286, descriptorIndex := 25, attributes := #[] }, { accessFlags := 25, nameIndex := 288, descriptorIndex := 25, attributes := #[] }, { accessFlags := 25, nameIndex := 290, descriptorIndex := 25, attributes := #[] }, { accessFlags := 25, nameIndex := 292, descriptorIndex := 25, attributes := #[] }, { accessFlags := 26, nameIndex := 108, descriptorIndex := 109, attributes := #[] }, { accessFlags := 25, nameIndex := 294, descriptorIndex := 25, attributes := #[] }])
  fields := #[{ name := "U", type := (.object "jdk/internal/misc/Unsafe"), accessFlags := 24, slot := 0, constantValue := 0 }, { name := "BIG_ENDIAN", type := .boolean, accessFlags := 26, slot := 1, constantValue := 0 }, { name := "LOG2_ARRAY_BOOLEAN_INDEX_SCALE", type := .int, accessFlags := 25, slot := 2, constantValue := 0 }, { name := "LOG2_ARRAY_BYTE_INDEX_SCALE", type := .int, accessFlags := 25, slot := 3, constantValue := 0 }, { name := "LOG2_ARRAY_CHAR_INDEX_SCALE", type := .int, accessFlags := 25, slot := 4, constantValue := 0 }, { name := "LOG2_ARRAY_SHORT_INDEX_SCALE", type := .int, accessFlags := 25, slot := 5, constantValue := 0 }, { name := "LOG2_ARRAY_INT_INDEX_SCALE", type := .int, accessFlags := 25, slot := 6, constantValue := 0 }, { name := "LOG2_ARRAY_LONG_INDEX_SCALE", type := .int, accessFlags := 25, slot := 7, constantValue := 0 }, { name := "LOG2_ARRAY_FLOAT_INDEX_SCALE", type := .int, accessFlags := 25, slot := 8, constantValue := 0 }, { name := "LOG2_ARRAY_DOUBLE_INDEX_SCALE", type := .int, accessFlags := 25, slot := 9, constantValue := 0 }, { name := "LOG2_BYTE_BIT_SIZE", type := .int, accessFlags := 26, slot := 10, constantValue := 0 }, { name := "T_BOOLEAN", type := .int, accessFlags := 25, slot := 11, constantValue := 0 }, { name := "T_CHAR", type := .int, accessFlags := 25, slot := 12, constantValue := 0 }, { name := "T_FLOAT", type := .int, accessFlags := 25, slot := 13, constantValue := 0 }, { name := "T_DOUBLE", type := .int, accessFlags := 25, slot := 14, constantValue := 0 }, { name := "T_BYTE", type := .int, accessFlags := 25, slot := 15, constantValue := 0 }, { name := "T_SHORT", type := .int, accessFlags := 25, slot := 16, constantValue := 0 }, { name := "T_INT", type := .int, accessFlags := 25, slot := 17, constantValue := 0 }, { name := "T_LONG", type := .int, accessFlags := 25, slot := 18, constantValue := 0 }, { name := "JLA", type := (.object "jdk/internal/access/JavaLangAccess"), accessFlags := 26, slot := 19, constantValue := 0 }, { name := "SOFT_MAX_ARRAY_LENGTH", type := .int, accessFlags := 25, slot := 20, constantValue := 0 }]
  methods := #[k20m0]
  instanceTypes := #[]
  staticTypes := #[(.object "jdk/internal/misc/Unsafe"), .boolean, .int, .int, .int, .int, .int, .int, .int, .int, .int, .int, .int, .int, .int, .int, .int, .int, .int, (.object "jdk/internal/access/JavaLangAccess"), .int]
  resolved := Array.replicate 378 none
  statics := some 6 }

/-- the primitive byte -/
def k21 : Class := { plain "byte" none with kind := .primitive 'B', accessFlags := 0x411 }
/-- [B -/
def k22 : Class := { plain "[B" (some 0) with kind := .array 21 .byte, interfaces := #[19, 2], accessFlags := 1041 }

/-- the primitive char -/
def k23 : Class := { plain "char" none with kind := .primitive 'C', accessFlags := 0x411 }
/-- [C -/
def k24 : Class := { plain "[C" (some 0) with kind := .array 23 .char, interfaces := #[19, 2], accessFlags := 1041 }

/-- the primitive int -/
def k25 : Class := { plain "int" none with kind := .primitive 'I', accessFlags := 0x411 }
/-- [I -/
def k26 : Class := { plain "[I" (some 0) with kind := .array 25 .int, interfaces := #[19, 2], accessFlags := 1041 }

def heap : Heap := #[{ cls := 7, slots := #[.long 0, .int 1, .null, .int 0, .null, .int 0, .int 0], vm := .statics 7 },
  { cls := 9, slots := #[.null, .ref 7], vm := .statics 9 },
  { cls := 12, slots := #[.null, .null, .null], vm := .statics 12 },
  { cls := 13, slots := #[.null, .ref 10, .null, .null, .null], vm := .statics 13 },
  { cls := 16, slots := #[.ref 8], vm := .statics 16 },
  { cls := 18, slots := #[.ref 9, .null], vm := .statics 18 },
  { cls := 20, slots := #[.null, .int 0, .int 0, .int 0, .int 0, .int 0, .int 0, .int 0, .int 0, .int 0, .int 0, .int 0, .int 0, .int 0, .int 0, .int 0, .int 0, .int 0, .int 0, .null, .int 0], vm := .statics 20 },
  { cls := 13, slots := #[.int 1, .int 0], vm := .none },
  { cls := 16, slots := #[.null, .null, .null], vm := .none },
  { cls := 18, slots := #[.null, .null, .null], vm := .none },
  { cls := 26, slots := #[.int (-1), .int (-1), .int (-1), .int (-1), .int (-1), .int (-1), .int (-1), .int (-1), .int (-1), .int (-1), .int (-1), .int (-1), .int (-1), .int (-1), .int (-1), .int (-1), .int (-1), .int (-1), .int (-1), .int (-1), .int (-1), .int (-1), .int (-1), .int (-1), .int (-1), .int (-1), .int (-1), .int (-1), .int (-1), .int (-1), .int (-1), .int (-1), .int (-1), .int (-1), .int (-1), .int (-1), .int (-1), .int (-1), .int (-1), .int (-1), .int (-1), .int (-1), .int (-1), .int (-1), .int (-1), .int 62, .int (-1), .int (-1), .int 52, .int 53, .int 54, .int 55, .int 56, .int 57, .int 58, .int 59, .int 60, .int 61, .int (-1), .int (-1), .int (-1), .int (-2), .int (-1), .int (-1), .int (-1), .int 0, .int 1, .int 2, .int 3, .int 4, .int 5, .int 6, .int 7, .int 8, .int 9, .int 10, .int 11, .int 12, .int 13, .int 14, .int 15, .int 16, .int 17, .int 18, .int 19, .int 20, .int 21, .int 22, .int 23, .int 24, .int 25, .int (-1), .int (-1), .int (-1), .int (-1), .int 63, .int (-1), .int 26, .int 27, .int 28, .int 29, .int 30, .int 31, .int 32, .int 33, .int 34, .int 35, .int 36, .int 37, .int 38, .int 39, .int 40, .int 41, .int 42, .int 43, .int 44, .int 45, .int 46, .int 47, .int 48, .int 49, .int 50, .int 51, .int (-1), .int (-1), .int (-1), .int (-1), .int (-1), .int (-1), .int (-1), .int (-1), .int (-1), .int (-1), .int (-1), .int (-1), .int (-1), .int (-1), .int (-1), .int (-1), .int (-1), .int (-1), .int (-1), .int (-1), .int (-1), .int (-1), .int (-1), .int (-1), .int (-1), .int (-1), .int (-1), .int (-1), .int (-1), .int (-1), .int (-1), .int (-1), .int (-1), .int (-1), .int (-1), .int (-1), .int (-1), .int (-1), .int (-1), .int (-1), .int (-1), .int (-1), .int (-1), .int (-1), .int (-1), .int (-1), .int (-1), .int (-1), .int (-1), .int (-1), .int (-1), .int (-1), .int (-1), .int (-1), .int (-1), .int (-1), .int (-1), .int (-1), .int (-1), .int (-1), .int (-1), .int (-1), .int (-1), .int (-1), .int (-1), .int (-1), .int (-1), .int (-1), .int (-1), .int (-1), .int (-1), .int (-1), .int (-1), .int (-1), .int (-1), .int (-1), .int (-1), .int (-1), .int (-1), .int (-1), .int (-1), .int (-1), .int (-1), .int (-1), .int (-1), .int (-1), .int (-1), .int (-1), .int (-1), .int (-1), .int (-1), .int (-1), .int (-1), .int (-1), .int (-1), .int (-1), .int (-1), .int (-1), .int (-1), .int (-1), .int (-1), .int (-1), .int (-1), .int (-1), .int (-1), .int (-1), .int (-1), .int (-1), .int (-1), .int (-1), .int (-1), .int (-1), .int (-1), .int (-1), .int (-1), .int (-1), .int (-1), .int (-1), .int (-1), .int (-1), .int (-1), .int (-1), .int (-1), .int (-1), .int (-1), .int (-1), .int (-1), .int (-1), .int (-1), .int (-1), .int (-1), .int (-1), .int (-1)], vm := .none }]
def classes : Array Class := #[k0, k1, k2, k3, k4, k5, k6, k7, k8, k9, k10, k11, k12, k13, k14, k15, k16, k17, k18, k19, k20, k21, k22, k23, k24, k25, k26]
def interned : List (Array UInt16 × Addr) := []
def slotsUsed : Nat := 305
def theMethod : MethodId := ⟨1, 1⟩
def args0 : Array Value := #[.long 0, .int 0]
def aboutOver (below : List Frame) : State where
  vm := { classes := classes, interned := interned.toArray }
  heap := heap
  slotsUsed := slotsUsed
  threads := #[{ frames := .invoking theMethod args0 :: below }]
def below0 : List Frame := [.native { method := ⟨0, 0⟩, args := #[] }]
def about1 : State := aboutOver below0
def p0 : Program := .bare "" "" ""
def e0 : Env := launch0.env 0 0 0
theorem w_frames : about1.frames = Frame.invoking theMethod args0 :: below0 := rfl
set_option maxRecDepth 65536 in
theorem w_args : argsFit about1.vm theMethod args0 = true := by decide +kernel
set_option maxRecDepth 65536 in
theorem w_heap : heapFits about1 = true := by decide +kernel
set_option maxRecDepth 65536 in
theorem w_runnable : about1.curStatus? = some .runnable := by decide +kernel
set_option maxRecDepth 65536 in
theorem w_alone : about1.alone = true := by decide +kernel
set_option maxRecDepth 65536 in
theorem w_named : about1.methodNamed? x = some theMethod := by decide +kernel
set_option maxRecDepth 65536 in
theorem w_hears : about1.hears theMethod below0 = true := by decide +kernel
set_option maxRecDepth 65536 in
theorem w_ripe : about1.ripe theMethod args0 below0 = true := by decide +kernel
theorem w_running : about1.status = .running := rfl
set_option maxRecDepth 65536 in
theorem w_room : about1.hasRoom e0.platform room_1 = true :=
  launch0.hasRoom_least _ room_1 (by decide +kernel) (by decide +kernel) (by decide +kernel) (by decide +kernel) (by decide +kernel) (by decide +kernel)
theorem allAtoms_all (ts : List Jvm.Cond) (a : Array Jvm.Value) (st : Jvm.State) : (allAtoms ts).before a st = ts.all (fun c => c.before a st) := by
  induction ts with
  | nil => rfl
  | cons c t ih =>
    show (Jvm.Cond.and c (allAtoms t)).before a st = _
    rw [Jvm.Cond.before_and, ih, List.all_cons]
def words1 : List Jvm.Cond := Jvm.Cond.code x code maxLocals ret :: tables_1
/-- a 'code' word, met by the world's own term for the bytes: nothing is compared byte by byte -/
theorem code_word {y : MethodName} {bytes : ByteArray} {mx : Nat} {rt : Option FieldType} {a : Array Value} {s : State} {m : MethodId} {meth : Method} {c : Code} (h1 : s.methodNamed? y = some m) (h2 : s.vm.method? m = some meth) (h3 : meth.code = some c) (h4 : c.code = bytes)
    (h5 : (c.maxLocals == mx && c.exceptionTable.isEmpty && decide (c.maxStack ≤ mostOperands) && decide (meth.sig.returnType = rt) && !meth.locks && decide (parseMethodDescriptor y.desc = some meth.sig)) = true) : (Jvm.Cond.code y bytes mx rt).before a s = true := by
  simp only [Bool.and_eq_true, beq_iff_eq, Bool.not_eq_true', decide_eq_true_eq] at h5
  obtain ⟨⟨⟨⟨⟨g1, g2⟩, g3⟩, g4⟩, g5⟩, g6⟩ := h5
  simp [Cond.before, Cond.holds, Cond.value, h1, h2, h3, h4, g1, g2, g3, g4, g5, g6]
def isCode : Jvm.Cond → Bool
  | .code _ _ _ _ => true
  | _ => false
theorem all_split {L : List Jvm.Cond} {P : Jvm.Cond → Bool} (h1 : L.all (fun c => isCode c || P c) = true) (h2 : ∀ c ∈ L.filter isCode, P c = true) : L.all P = true := by
  refine List.all_eq_true.mpr fun c hc => ?_
  have h := List.all_eq_true.mp h1 c hc
  rcases Bool.eq_false_or_eq_true (isCode c) with hi | hi
  · exact h2 c (List.mem_filter.mpr ⟨hc, hi⟩)
  · simpa [hi] using h
set_option maxRecDepth 65536 in
theorem w_c0 : (Jvm.Cond.code x code maxLocals ret).before args0 about1 = true := code_word (m := ⟨1, 1⟩) (meth := k1m1) (c := k1c1) (by decide +kernel) rfl rfl rfl (by decide +kernel)
set_option maxRecDepth 65536 in
theorem w_c1 : (Jvm.Cond.code ({ cls := "com/example/torrey/torrey/Base64UrlDecodePinLaw", name := "text", desc := "(JI)Ljava/lang/String;" } : Jvm.MethodName) method_5_code (3 : Nat) (Option.some (Jvm.ClassFile.FieldType.object "java/lang/String"))).before args0 about1 = true := code_word (m := ⟨1, 4⟩) (meth := k1m4) (c := k1c4) (by decide +kernel) rfl rfl rfl (by decide +kernel)
set_option maxRecDepth 65536 in
theorem w_c2 : (Jvm.Cond.code ({ cls := "com/example/torrey/torrey/Base64UrlDecodePinLaw", name := "ch", desc := "(JI)C" } : Jvm.MethodName) method_4_code (4 : Nat) (Option.some Jvm.ClassFile.FieldType.char)).before args0 about1 = true := code_word (m := ⟨1, 3⟩) (meth := k1m3) (c := k1c3) (by decide +kernel) rfl rfl rfl (by decide +kernel)
set_option maxRecDepth 65536 in
theorem w_c3 : (Jvm.Cond.code ({ cls := "java/lang/String", name := "<init>", desc := "([C)V" } : Jvm.MethodName) jdk_42_method_3_code (2 : Nat) (Option.none : Option Jvm.ClassFile.FieldType)).before args0 about1 = true := code_word (m := ⟨7, 1⟩) (meth := k7m1) (c := k7c1) (by decide +kernel) rfl rfl rfl (by decide +kernel)
set_option maxRecDepth 65536 in
theorem w_c4 : (Jvm.Cond.code ({ cls := "java/lang/String", name := "<init>", desc := "([CIILjava/lang/Void;)V" } : Jvm.MethodName) jdk_42_method_149_code (6 : Nat) (Option.none : Option Jvm.ClassFile.FieldType)).before args0 about1 = true := code_word (m := ⟨7, 8⟩) (meth := k7m8) (c := k7c8) (by decide +kernel) rfl rfl rfl (by decide +kernel)
set_option maxRecDepth 65536 in
theorem w_c5 : (Jvm.Cond.code ({ cls := "java/lang/Object", name := "<init>", desc := "()V" } : Jvm.MethodName) object_method_1_code (1 : Nat) (Option.none : Option Jvm.ClassFile.FieldType)).before args0 about1 = true := code_word (m := ⟨0, 0⟩) (meth := k0m0) (c := k0c0) (by decide +kernel) rfl rfl rfl (by decide +kernel)
set_option maxRecDepth 65536 in
theorem w_c6 : (Jvm.Cond.code ({ cls := "java/lang/StringUTF16", name := "compress", desc := "([CII)[B" } : Jvm.MethodName) jdk_52_method_16_code (6 : Nat) (Option.some (Jvm.ClassFile.FieldType.array Jvm.ClassFile.FieldType.byte))).before args0 about1 = true := code_word (m := ⟨8, 2⟩) (meth := k8m2) (c := k8c2) (by decide +kernel) rfl rfl rfl (by decide +kernel)
set_option maxRecDepth 65536 in
theorem w_c7 : (Jvm.Cond.code ({ cls := "java/lang/StringUTF16", name := "compress", desc := "([CI[BII)I" } : Jvm.MethodName) jdk_52_method_21_code (7 : Nat) (Option.some Jvm.ClassFile.FieldType.int)).before args0 about1 = true := code_word (m := ⟨8, 3⟩) (meth := k8m3) (c := k8c3) (by decide +kernel) rfl rfl rfl (by decide +kernel)
set_option maxRecDepth 65536 in
theorem w_c8 : (Jvm.Cond.code ({ cls := "java/lang/StringUTF16", name := "coderFromArrayLen", desc := "([BI)B" } : Jvm.MethodName) jdk_52_method_15_code (2 : Nat) (Option.some Jvm.ClassFile.FieldType.byte)).before args0 about1 = true := code_word (m := ⟨8, 1⟩) (meth := k8m1) (c := k8c1) (by decide +kernel) rfl rfl rfl (by decide +kernel)
set_option maxRecDepth 65536 in
theorem w_c9 : (Jvm.Cond.code ({ cls := "com/example/torrey/torrey/Base64Url", name := "decode", desc := "(Ljava/lang/String;)[B" } : Jvm.MethodName) prog_1_method_3_code (3 : Nat) (Option.some (Jvm.ClassFile.FieldType.array Jvm.ClassFile.FieldType.byte))).before args0 about1 = true := code_word (m := ⟨9, 1⟩) (meth := k9m1) (c := k9c1) (by decide +kernel) rfl rfl rfl (by decide +kernel)
set_option maxRecDepth 65536 in
theorem w_c10 : (Jvm.Cond.code ({ cls := "java/util/Objects", name := "requireNonNull", desc := "(Ljava/lang/Object;Ljava/lang/String;)Ljava/lang/Object;" } : Jvm.MethodName) jdk_31_method_11_code (2 : Nat) (Option.some (Jvm.ClassFile.FieldType.object "java/lang/Object"))).before args0 about1 = true := code_word (m := ⟨10, 1⟩) (meth := k10m1) (c := k10c1) (by decide +kernel) rfl rfl rfl (by decide +kernel)
set_option maxRecDepth 65536 in
theorem w_c11 : (Jvm.Cond.code ({ cls := "java/lang/String", name := "length", desc := "()I" } : Jvm.MethodName) jdk_42_method_54_code (1 : Nat) (Option.some Jvm.ClassFile.FieldType.int)).before args0 about1 = true := code_word (m := ⟨7, 5⟩) (meth := k7m5) (c := k7c5) (by decide +kernel) rfl rfl rfl (by decide +kernel)
set_option maxRecDepth 65536 in
theorem w_c12 : (Jvm.Cond.code ({ cls := "java/lang/String", name := "coder", desc := "()B" } : Jvm.MethodName) jdk_42_method_152_code (1 : Nat) (Option.some Jvm.ClassFile.FieldType.byte)).before args0 about1 = true := code_word (m := ⟨7, 9⟩) (meth := k7m9) (c := k7c9) (by decide +kernel) rfl rfl rfl (by decide +kernel)
set_option maxRecDepth 65536 in
theorem w_c13 : (Jvm.Cond.code ({ cls := "java/lang/String", name := "charAt", desc := "(I)C" } : Jvm.MethodName) jdk_42_method_56_code (2 : Nat) (Option.some Jvm.ClassFile.FieldType.char)).before args0 about1 = true := code_word (m := ⟨7, 6⟩) (meth := k7m6) (c := k7c6) (by decide +kernel) rfl rfl rfl (by decide +kernel)
set_option maxRecDepth 65536 in
theorem w_c14 : (Jvm.Cond.code ({ cls := "java/lang/String", name := "isLatin1", desc := "()Z" } : Jvm.MethodName) jdk_42_method_154_code (1 : Nat) (Option.some Jvm.ClassFile.FieldType.boolean)).before args0 about1 = true := code_word (m := ⟨7, 10⟩) (meth := k7m10) (c := k7c10) (by decide +kernel) rfl rfl rfl (by decide +kernel)
set_option maxRecDepth 65536 in
theorem w_c15 : (Jvm.Cond.code ({ cls := "java/lang/StringLatin1", name := "charAt", desc := "([BI)C" } : Jvm.MethodName) jdk_43_method_2_code (2 : Nat) (Option.some Jvm.ClassFile.FieldType.char)).before args0 about1 = true := code_word (m := ⟨11, 1⟩) (meth := k11m1) (c := k11c1) (by decide +kernel) rfl rfl rfl (by decide +kernel)
set_option maxRecDepth 65536 in
theorem w_c16 : (Jvm.Cond.code ({ cls := "java/lang/String", name := "checkIndex", desc := "(II)V" } : Jvm.MethodName) jdk_42_method_155_code (2 : Nat) (Option.none : Option Jvm.ClassFile.FieldType)).before args0 about1 = true := code_word (m := ⟨7, 11⟩) (meth := k7m11) (c := k7c11) (by decide +kernel) rfl rfl rfl (by decide +kernel)
set_option maxRecDepth 65536 in
theorem w_c17 : (Jvm.Cond.code ({ cls := "jdk/internal/util/Preconditions", name := "checkIndex", desc := "(IILjava/util/function/BiFunction;)I" } : Jvm.MethodName) jdk_41_method_11_code (3 : Nat) (Option.some Jvm.ClassFile.FieldType.int)).before args0 about1 = true := code_word (m := ⟨12, 1⟩) (meth := k12m1) (c := k12c1) (by decide +kernel) rfl rfl rfl (by decide +kernel)
set_option maxRecDepth 65536 in
theorem w_c18 : (Jvm.Cond.code ({ cls := "com/example/torrey/torrey/Base64Url", name := "sextet", desc := "(C)I" } : Jvm.MethodName) prog_1_method_5_code (1 : Nat) (Option.some Jvm.ClassFile.FieldType.int)).before args0 about1 = true := code_word (m := ⟨9, 2⟩) (meth := k9m2) (c := k9c2) (by decide +kernel) rfl rfl rfl (by decide +kernel)
set_option maxRecDepth 65536 in
theorem w_c19 : (Jvm.Cond.code ({ cls := "java/util/Base64$Decoder", name := "decode", desc := "(Ljava/lang/String;)[B" } : Jvm.MethodName) jdk_2450_method_3_code (2 : Nat) (Option.some (Jvm.ClassFile.FieldType.array Jvm.ClassFile.FieldType.byte))).before args0 about1 = true := code_word (m := ⟨13, 1⟩) (meth := k13m1) (c := k13c1) (by decide +kernel) rfl rfl rfl (by decide +kernel)
set_option maxRecDepth 65536 in
theorem w_c20 : (Jvm.Cond.code ({ cls := "java/lang/String", name := "getBytes", desc := "(Ljava/nio/charset/Charset;)[B" } : Jvm.MethodName) jdk_42_method_64_code (2 : Nat) (Option.some (Jvm.ClassFile.FieldType.array Jvm.ClassFile.FieldType.byte))).before args0 about1 = true := code_word (m := ⟨7, 7⟩) (meth := k7m7) (c := k7c7) (by decide +kernel) rfl rfl rfl (by decide +kernel)
set_option maxRecDepth 65536 in
theorem w_c21 : (Jvm.Cond.code ({ cls := "java/lang/String", name := "encode", desc := "(Ljava/nio/charset/Charset;B[B)[B" } : Jvm.MethodName) jdk_42_method_18_code (3 : Nat) (Option.some (Jvm.ClassFile.FieldType.array Jvm.ClassFile.FieldType.byte))).before args0 about1 = true := code_word (m := ⟨7, 2⟩) (meth := k7m2) (c := k7c2) (by decide +kernel) rfl rfl rfl (by decide +kernel)
set_option maxRecDepth 65536 in
theorem w_c22 : (Jvm.Cond.code ({ cls := "java/lang/String", name := "encode8859_1", desc := "(B[B)[B" } : Jvm.MethodName) jdk_42_method_26_code (2 : Nat) (Option.some (Jvm.ClassFile.FieldType.array Jvm.ClassFile.FieldType.byte))).before args0 about1 = true := code_word (m := ⟨7, 3⟩) (meth := k7m3) (c := k7c3) (by decide +kernel) rfl rfl rfl (by decide +kernel)
set_option maxRecDepth 65536 in
theorem w_c23 : (Jvm.Cond.code ({ cls := "java/lang/String", name := "encode8859_1", desc := "(B[BZ)[B" } : Jvm.MethodName) jdk_42_method_27_code (10 : Nat) (Option.some (Jvm.ClassFile.FieldType.array Jvm.ClassFile.FieldType.byte))).before args0 about1 = true := code_word (m := ⟨7, 4⟩) (meth := k7m4) (c := k7c4) (by decide +kernel) rfl rfl rfl (by decide +kernel)
set_option maxRecDepth 65536 in
theorem w_c24 : (Jvm.Cond.code ({ cls := "java/util/Base64$Decoder", name := "decode", desc := "([B)[B" } : Jvm.MethodName) jdk_2450_method_2_code (4 : Nat) (Option.some (Jvm.ClassFile.FieldType.array Jvm.ClassFile.FieldType.byte))).before args0 about1 = true := code_word (m := ⟨13, 0⟩) (meth := k13m0) (c := k13c0) (by decide +kernel) rfl rfl rfl (by decide +kernel)
set_option maxRecDepth 65536 in
theorem w_c25 : (Jvm.Cond.code ({ cls := "java/util/Base64$Decoder", name := "decodedOutLength", desc := "([BII)I" } : Jvm.MethodName) jdk_2450_method_7_code (9 : Nat) (Option.some Jvm.ClassFile.FieldType.int)).before args0 about1 = true := code_word (m := ⟨13, 2⟩) (meth := k13m2) (c := k13c2) (by decide +kernel) rfl rfl rfl (by decide +kernel)
set_option maxRecDepth 65536 in
theorem w_c26 : (Jvm.Cond.code ({ cls := "java/util/Base64$Decoder", name := "decode0", desc := "([BII[B)I" } : Jvm.MethodName) jdk_2450_method_9_code (11 : Nat) (Option.some Jvm.ClassFile.FieldType.int)).before args0 about1 = true := code_word (m := ⟨13, 4⟩) (meth := k13m4) (c := k13c4) (by decide +kernel) rfl rfl rfl (by decide +kernel)
set_option maxRecDepth 65536 in
theorem w_c27 : (Jvm.Cond.code ({ cls := "com/example/torrey/torrey/Base64UrlDecodePinLaw", name := "byteOk", desc := "([BJI)Z" } : Jvm.MethodName) method_3_code (4 : Nat) (Option.some Jvm.ClassFile.FieldType.boolean)).before args0 about1 = true := code_word (m := ⟨1, 2⟩) (meth := k1m2) (c := k1c2) (by decide +kernel) rfl rfl rfl (by decide +kernel)
set_option maxRecDepth 65536 in
theorem w_c28 : (Jvm.Cond.code ({ cls := "java/util/Base64$Decoder", name := "decodeBlock", desc := "([BII[BIZZ)I" } : Jvm.MethodName) jdk_2450_method_8_code (16 : Nat) (Option.some Jvm.ClassFile.FieldType.int)).before args0 about1 = true := code_word (m := ⟨13, 3⟩) (meth := k13m3) (c := k13c3) (by decide +kernel) rfl rfl rfl (by decide +kernel)
def codes1 : List Jvm.Cond := [Jvm.Cond.code x code maxLocals ret, Jvm.Cond.code ({ cls := "com/example/torrey/torrey/Base64UrlDecodePinLaw", name := "text", desc := "(JI)Ljava/lang/String;" } : Jvm.MethodName) method_5_code (3 : Nat) (Option.some (Jvm.ClassFile.FieldType.object "java/lang/String")), Jvm.Cond.code ({ cls := "com/example/torrey/torrey/Base64UrlDecodePinLaw", name := "ch", desc := "(JI)C" } : Jvm.MethodName) method_4_code (4 : Nat) (Option.some Jvm.ClassFile.FieldType.char), Jvm.Cond.code ({ cls := "java/lang/String", name := "<init>", desc := "([C)V" } : Jvm.MethodName) jdk_42_method_3_code (2 : Nat) (Option.none : Option Jvm.ClassFile.FieldType), Jvm.Cond.code ({ cls := "java/lang/String", name := "<init>", desc := "([CIILjava/lang/Void;)V" } : Jvm.MethodName) jdk_42_method_149_code (6 : Nat) (Option.none : Option Jvm.ClassFile.FieldType), Jvm.Cond.code ({ cls := "java/lang/Object", name := "<init>", desc := "()V" } : Jvm.MethodName) object_method_1_code (1 : Nat) (Option.none : Option Jvm.ClassFile.FieldType), Jvm.Cond.code ({ cls := "java/lang/StringUTF16", name := "compress", desc := "([CII)[B" } : Jvm.MethodName) jdk_52_method_16_code (6 : Nat) (Option.some (Jvm.ClassFile.FieldType.array Jvm.ClassFile.FieldType.byte)), Jvm.Cond.code ({ cls := "java/lang/StringUTF16", name := "compress", desc := "([CI[BII)I" } : Jvm.MethodName) jdk_52_method_21_code (7 : Nat) (Option.some Jvm.ClassFile.FieldType.int), Jvm.Cond.code ({ cls := "java/lang/StringUTF16", name := "coderFromArrayLen", desc := "([BI)B" } : Jvm.MethodName) jdk_52_method_15_code (2 : Nat) (Option.some Jvm.ClassFile.FieldType.byte), Jvm.Cond.code ({ cls := "com/example/torrey/torrey/Base64Url", name := "decode", desc := "(Ljava/lang/String;)[B" } : Jvm.MethodName) prog_1_method_3_code (3 : Nat) (Option.some (Jvm.ClassFile.FieldType.array Jvm.ClassFile.FieldType.byte)), Jvm.Cond.code ({ cls := "java/util/Objects", name := "requireNonNull", desc := "(Ljava/lang/Object;Ljava/lang/String;)Ljava/lang/Object;" } : Jvm.MethodName) jdk_31_method_11_code (2 : Nat) (Option.some (Jvm.ClassFile.FieldType.object "java/lang/Object")), Jvm.Cond.code ({ cls := "java/lang/String", name := "length", desc := "()I" } : Jvm.MethodName) jdk_42_method_54_code (1 : Nat) (Option.some Jvm.ClassFile.FieldType.int), Jvm.Cond.code ({ cls := "java/lang/String", name := "coder", desc := "()B" } : Jvm.MethodName) jdk_42_method_152_code (1 : Nat) (Option.some Jvm.ClassFile.FieldType.byte), Jvm.Cond.code ({ cls := "java/lang/String", name := "charAt", desc := "(I)C" } : Jvm.MethodName) jdk_42_method_56_code (2 : Nat) (Option.some Jvm.ClassFile.FieldType.char), Jvm.Cond.code ({ cls := "java/lang/String", name := "isLatin1", desc := "()Z" } : Jvm.MethodName) jdk_42_method_154_code (1 : Nat) (Option.some Jvm.ClassFile.FieldType.boolean), Jvm.Cond.code ({ cls := "java/lang/StringLatin1", name := "charAt", desc := "([BI)C" } : Jvm.MethodName) jdk_43_method_2_code (2 : Nat) (Option.some Jvm.ClassFile.FieldType.char), Jvm.Cond.code ({ cls := "java/lang/String", name := "checkIndex", desc := "(II)V" } : Jvm.MethodName) jdk_42_method_155_code (2 : Nat) (Option.none : Option Jvm.ClassFile.FieldType), Jvm.Cond.code ({ cls := "jdk/internal/util/Preconditions", name := "checkIndex", desc := "(IILjava/util/function/BiFunction;)I" } : Jvm.MethodName) jdk_41_method_11_code (3 : Nat) (Option.some Jvm.ClassFile.FieldType.int), Jvm.Cond.code ({ cls := "com/example/torrey/torrey/Base64Url", name := "sextet", desc := "(C)I" } : Jvm.MethodName) prog_1_method_5_code (1 : Nat) (Option.some Jvm.ClassFile.FieldType.int), Jvm.Cond.code ({ cls := "java/util/Base64$Decoder", name := "decode", desc := "(Ljava/lang/String;)[B" } : Jvm.MethodName) jdk_2450_method_3_code (2 : Nat) (Option.some (Jvm.ClassFile.FieldType.array Jvm.ClassFile.FieldType.byte)), Jvm.Cond.code ({ cls := "java/lang/String", name := "getBytes", desc := "(Ljava/nio/charset/Charset;)[B" } : Jvm.MethodName) jdk_42_method_64_code (2 : Nat) (Option.some (Jvm.ClassFile.FieldType.array Jvm.ClassFile.FieldType.byte)), Jvm.Cond.code ({ cls := "java/lang/String", name := "encode", desc := "(Ljava/nio/charset/Charset;B[B)[B" } : Jvm.MethodName) jdk_42_method_18_code (3 : Nat) (Option.some (Jvm.ClassFile.FieldType.array Jvm.ClassFile.FieldType.byte)), Jvm.Cond.code ({ cls := "java/lang/String", name := "encode8859_1", desc := "(B[B)[B" } : Jvm.MethodName) jdk_42_method_26_code (2 : Nat) (Option.some (Jvm.ClassFile.FieldType.array Jvm.ClassFile.FieldType.byte)), Jvm.Cond.code ({ cls := "java/lang/String", name := "encode8859_1", desc := "(B[BZ)[B" } : Jvm.MethodName) jdk_42_method_27_code (10 : Nat) (Option.some (Jvm.ClassFile.FieldType.array Jvm.ClassFile.FieldType.byte)), Jvm.Cond.code ({ cls := "java/util/Base64$Decoder", name := "decode", desc := "([B)[B" } : Jvm.MethodName) jdk_2450_method_2_code (4 : Nat) (Option.some (Jvm.ClassFile.FieldType.array Jvm.ClassFile.FieldType.byte)), Jvm.Cond.code ({ cls := "java/util/Base64$Decoder", name := "decodedOutLength", desc := "([BII)I" } : Jvm.MethodName) jdk_2450_method_7_code (9 : Nat) (Option.some Jvm.ClassFile.FieldType.int), Jvm.Cond.code ({ cls := "java/util/Base64$Decoder", name := "decode0", desc := "([BII[B)I" } : Jvm.MethodName) jdk_2450_method_9_code (11 : Nat) (Option.some Jvm.ClassFile.FieldType.int), Jvm.Cond.code ({ cls := "com/example/torrey/torrey/Base64UrlDecodePinLaw", name := "byteOk", desc := "([BJI)Z" } : Jvm.MethodName) method_3_code (4 : Nat) (Option.some Jvm.ClassFile.FieldType.boolean), Jvm.Cond.code ({ cls := "java/util/Base64$Decoder", name := "decodeBlock", desc := "([BII[BIZZ)I" } : Jvm.MethodName) jdk_2450_method_8_code (16 : Nat) (Option.some Jvm.ClassFile.FieldType.int)]
set_option maxRecDepth 65536 in
theorem codes_eq : words1.filter isCode = codes1 := rfl
theorem w_codes : ∀ c ∈ words1.filter isCode, c.before args0 about1 = true := by
  rw [codes_eq]
  intro c hc
  simp only [codes1, List.mem_cons, List.not_mem_nil, or_false] at hc
  rcases hc with rfl | rfl | rfl | rfl | rfl | rfl | rfl | rfl | rfl | rfl | rfl | rfl | rfl | rfl | rfl | rfl | rfl | rfl | rfl | rfl | rfl | rfl | rfl | rfl | rfl | rfl | rfl | rfl | rfl
  · exact w_c0
  · exact w_c1
  · exact w_c2
  · exact w_c3
  · exact w_c4
  · exact w_c5
  · exact w_c6
  · exact w_c7
  · exact w_c8
  · exact w_c9
  · exact w_c10
  · exact w_c11
  · exact w_c12
  · exact w_c13
  · exact w_c14
  · exact w_c15
  · exact w_c16
  · exact w_c17
  · exact w_c18
  · exact w_c19
  · exact w_c20
  · exact w_c21
  · exact w_c22
  · exact w_c23
  · exact w_c24
  · exact w_c25
  · exact w_c26
  · exact w_c27
  · exact w_c28
set_option maxRecDepth 65536 in
theorem w_t1 : (words1.take 24).all (fun c => isCode c || c.before args0 about1) = true := by decide +kernel
set_option maxRecDepth 65536 in
theorem w_t2 : ((words1.drop 24).take 24).all (fun c => isCode c || c.before args0 about1) = true := by decide +kernel
set_option maxRecDepth 65536 in
theorem w_t3 : (((words1.drop 24).drop 24).take 24).all (fun c => isCode c || c.before args0 about1) = true := by decide +kernel
set_option maxRecDepth 65536 in
theorem w_t4 : ((((words1.drop 24).drop 24).drop 24).take 24).all (fun c => isCode c || c.before args0 about1) = true := by decide +kernel
set_option maxRecDepth 65536 in
theorem w_t5 : (((((words1.drop 24).drop 24).drop 24).drop 24).take 24).all (fun c => isCode c || c.before args0 about1) = true := by decide +kernel
set_option maxRecDepth 65536 in
theorem w_t6 : ((((((words1.drop 24).drop 24).drop 24).drop 24).drop 24).take 24).all (fun c => isCode c || c.before args0 about1) = true := by decide +kernel
set_option maxRecDepth 65536 in
theorem w_t7 : ((((((words1.drop 24).drop 24).drop 24).drop 24).drop 24).drop 24).all (fun c => isCode c || c.before args0 about1) = true := by decide +kernel
theorem w_tables : (allAtoms (Jvm.Cond.code x code maxLocals ret :: tables_1)).before args0 about1 = true := by
  rw [allAtoms_all]
  show words1.all (fun c => c.before args0 about1) = true
  refine all_split ?_ w_codes
  rw [← List.take_append_drop 24 words1, List.all_append, w_t1, ← List.take_append_drop 24 (words1.drop 24), List.all_append, w_t2, ← List.take_append_drop 24 ((words1.drop 24).drop 24), List.all_append, w_t3, ← List.take_append_drop 24 (((words1.drop 24).drop 24).drop 24), List.all_append, w_t4, ← List.take_append_drop 24 ((((words1.drop 24).drop 24).drop 24).drop 24), List.all_append, w_t5, ← List.take_append_drop 24 (((((words1.drop 24).drop 24).drop 24).drop 24).drop 24), List.all_append, w_t6, w_t7]
  rfl
set_option maxRecDepth 65536 in
theorem w_rest : rest_1_c.before args0 about1 = true := by decide +kernel
set_option maxRecDepth 65536 in
theorem w_case : (Jvm.Cond.and given_1 narrow_1).before args0 about1 = true := by decide +kernel
set_option maxRecDepth 65536 in
theorem w_consts : constsHeld consts_1 about1 := Jvm.Lit.constsHeldB_iff.mp (by decide +kernel)
theorem w_applies : (headSpec (Jvm.Cond.code x code maxLocals ret :: tables_1) room_1).applies x e0.platform about1 = true :=
  (Spec.applies_iff w_frames).mpr ⟨w_running, w_runnable, w_alone, w_named, w_hears, w_ripe, w_room, w_tables⟩
theorem atStart : AtStart classFile x code maxLocals ret World_1 tables_1 room_1 Calls_1 rest_1 Pre_1 launch0 p0 e0 about1 theMethod args0 below0 :=
  ⟨lists_1, trivial, launch0.admits_env _ _ _, launch0.least_env, fairChoices_fair.cas, fairChoices_fair.clock, w_frames, w_args, w_heap, w_applies, ⟨w_consts, trivial⟩, w_rest, w_case⟩
end start1
theorem witness_1 : WitnessClaimed_1 := ⟨start1.p0, start1.e0, start1.about1, start1.theMethod, start1.args0, start1.below0, start1.atStart⟩
end Jvm.Pilot.@@N@@
