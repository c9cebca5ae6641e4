import JvmDerived
import JvmDerived.Pilot.@@N@@Statement
import JvmDerived.Pilot.@@N@@Code
set_option linter.unusedVariables false
set_option linter.unusedSimpArgs false
namespace Jvm.Pilot.@@N@@
open Jvm Jvm.ClassFile Sem Op Lib Jvm.Free Jvm.Stand Jvm.LawKit Jvm.RoadKit Bundle Jvm.Pilot.@@N@@.Jvm.D
set_option maxRecDepth 65536
theorem Ak {n m : Nat} (h : Nat.ble n m = true) : n ≤ m := Nat.le_of_ble_eq_true h
set_option maxHeartbeats 40000000
section OwnKit
variable {p : Program} {l : Launch} {e : Env} {R : Room} {s : State} {m : MethodId} {args : Array Value} {below : List Frame} {meth : Method} {c : Code} {T : State} {locs : List Loc} {cells slots : Nat} {Z : State} {a0 : Array Value} {h : Heap} {own : String} {cd : ByteArray} {maxL : Nat} {ret : Option FieldType} {nm : String} {n0 : Nat} {F : Option Value → Heap → Prop} {kc ks : Nat} {En : Outcome → State → Prop} {pc : Nat} {ls : Array Slot} {st : List Value}
/-- from the frame g over T the method runs to its end, returns v, leaves a heap, F holds of both; only new cells are written -/
def As (p : Program) (e : Env) (below : List Frame) (En : Outcome → State → Prop) (T : State) (g : JFrame) : Prop :=
  ∃ s₂ o, Steps p.tables e below (T.setTop g) s₂ ∧ s₂.status = .running ∧ Ended s₂ below o ∧ En o s₂
def Eb (s : State) (n0 : Nat) (F : Option Value → Heap → Prop) (kc ks : Nat) (o : Outcome) (s₂ : State) : Prop := ∃ v L, o = .returned v ∧ (F v s₂.heap ∧ Fr n0 L) ∧ FrameEnd s o s₂ L kc ks
theorem Bn {T' : State} {g g' : JFrame} (st : ∀ t, Steps p.tables e below (T'.setTop g') t → Steps p.tables e below (T.setTop g) t) (k : As p e below En T' g') : As p e below En T g := by
  obtain ⟨s₂, o, h1, h2⟩ := k
  exact ⟨s₂, o, st _ h1, h2⟩
/-- what stays the same in one body -/
def By (p : Program) (s : State) (m : MethodId) (meth : Method) (c : Code) (Z : State) (own : String) (cd : ByteArray) (maxL : Nat) (ret : Option FieldType) (nm : String) : Prop :=
  p.tables.exec = Jvm.exec ∧ c.code = cd ∧ c.maxLocals = maxL ∧ s.vm.findClass own = some m.cls ∧ meth.name = nm ∧ meth.sig.returnType = ret ∧ meth.locks = false ∧ Z.Warmed39 s.vm
/-- where the walk stands: the heap is h, at most so many cells and slots have been made, nothing old was written -/
def Bo (p : Program) (l : Launch) (e : Env) (R : Room) (s : State) (m : MethodId) (args : Array Value) (below : List Frame) (meth : Method) (c : Code) (n0 : Nat) (T : State) (h : Heap) (cells slots : Nat) : Prop :=
  ∃ locs k n, Stand p l e R s m args below meth c T locs k n ∧ T.heap = h ∧ Fr n0 locs ∧ k ≤ cells ∧ n ≤ slots
theorem Bo.mono {c' s' : Nat} (S : Bo p l e R s m args below meth c n0 T h cells slots) (h1 : cells ≤ c') (h2 : slots ≤ s') : Bo p l e R s m args below meth c n0 T h c' s' := by
  obtain ⟨locs, k, n, X, e1, N, q1, q2⟩ := S
  exact ⟨locs, k, n, X, e1, N, Nat.le_trans q1 h1, Nat.le_trans q2 h2⟩
theorem Cg (C : By p s m meth c Z own cd maxL ret nm) {i : Instr} {len : Nat} (hd : decode cd pc = .ok (i, len)) : decode c.code pc = .ok (i, len) := by rw [C.2.1]; exact hd
theorem Fa (C : By p s m meth c Z own cd maxL ret nm) (hsz : ls.size = maxL) : ls.size = c.maxLocals := by rw [C.2.2.1]; exact hsz
/-- the k-th table word -/
theorem ow {L : List Jvm.Cond} (hw : ∀ d ∈ L, d.before a0 Z = true) (i : Nat) {d : Jvm.Cond} (hi : L[i]? = some d) : d.before a0 Z = true := hw d (List.mem_of_getElem? hi)
/-- one plain instruction -/
def own_st (i : Instr) (len pc : Nat) (ls : Array Slot) (st : List Value) : Option (Nat × Array Slot × List Value) :=
  match i with
  | .iload_n k => match len, ls[k.val]? with | 1, some (.val (.int v)) => some (pc + 1, ls, .int v :: st) | _, _ => none
  | .iload k => match len, ls[k]? with | 2, some (.val (.int v)) => some (pc + 2, ls, .int v :: st) | _, _ => none
  | .lload_n k => match len, ls[k.val]? with | 1, some (.val (.long v)) => some (pc + 1, ls, .long v :: st) | _, _ => none
  | .lload k => match len, ls[k]? with | 2, some (.val (.long v)) => some (pc + 2, ls, .long v :: st) | _, _ => none
  | .dload_n k => match len, ls[k.val]? with | 1, some (.val (.double v)) => some (pc + 1, ls, .double v :: st) | _, _ => none
  | .dload k => match len, ls[k]? with | 2, some (.val (.double v)) => some (pc + 2, ls, .double v :: st) | _, _ => none
  | .aload_n k => match len, ls[k.val]? with | 1, some (.val (.ref v)) => some (pc + 1, ls, .ref v :: st) | 1, some (.val .null) => some (pc + 1, ls, .null :: st) | _, _ => none
  | .aload k => match len, ls[k]? with | 2, some (.val (.ref v)) => some (pc + 2, ls, .ref v :: st) | 2, some (.val .null) => some (pc + 2, ls, .null :: st) | _, _ => none
  | .istore_n k => match len, st with | 1, .int x :: r => (match storeLocals ls k.val (.int x) with | some l' => some (pc + 1, l', r) | none => none) | _, _ => none
  | .istore k => match len, st with | 2, .int x :: r => (match storeLocals ls k (.int x) with | some l' => some (pc + 2, l', r) | none => none) | _, _ => none
  | .lstore_n k => match len, st with | 1, .long x :: r => (match storeLocals ls k.val (.long x) with | some l' => some (pc + 1, l', r) | none => none) | _, _ => none
  | .lstore k => match len, st with | 2, .long x :: r => (match storeLocals ls k (.long x) with | some l' => some (pc + 2, l', r) | none => none) | _, _ => none
  | .dstore_n k => match len, st with | 1, .double x :: r => (match storeLocals ls k.val (.double x) with | some l' => some (pc + 1, l', r) | none => none) | _, _ => none
  | .dstore k => match len, st with | 2, .double x :: r => (match storeLocals ls k (.double x) with | some l' => some (pc + 2, l', r) | none => none) | _, _ => none
  | .astore_n k => match len, st with
    | 1, .ref x :: r => (match storeLocals ls k.val (.ref x) with | some l' => some (pc + 1, l', r) | none => none)
    | 1, .null :: r => (match storeLocals ls k.val .null with | some l' => some (pc + 1, l', r) | none => none)
    | _, _ => none
  | .astore k => match len, st with
    | 2, .ref x :: r => (match storeLocals ls k (.ref x) with | some l' => some (pc + 2, l', r) | none => none)
    | 2, .null :: r => (match storeLocals ls k .null with | some l' => some (pc + 2, l', r) | none => none)
    | _, _ => none
  | .iinc k d => match len, ls[k]? with | 3, some (.val (.int x)) => (match storeLocals ls k (.int (x + Int32.ofInt d)) with | some l' => some (pc + 3, l', st) | none => none) | _, _ => none
  | .iconst i => match len with | 1 => some (pc + 1, ls, .int (Int32.ofInt i) :: st) | _ => none
  | .bipush i => match len with | 2 => some (pc + 2, ls, .int (Int8.ofInt i).toInt32 :: st) | _ => none
  | .sipush i => match len with | 3 => some (pc + 3, ls, .int (Int16.ofInt i).toInt32 :: st) | _ => none
  | .lconst k => match len with | 1 => some (pc + 1, ls, .long (Int64.ofNat k) :: st) | _ => none
  | .aconst_null => match len with | 1 => some (pc + 1, ls, .null :: st) | _ => none
  | .iadd => match len, st with | 1, .int y :: .int x :: r => some (pc + 1, ls, .int (x + y) :: r) | _, _ => none
  | .isub => match len, st with | 1, .int y :: .int x :: r => some (pc + 1, ls, .int (x - y) :: r) | _, _ => none
  | .imul => match len, st with | 1, .int y :: .int x :: r => some (pc + 1, ls, .int (x * y) :: r) | _, _ => none
  | .iand => match len, st with | 1, .int y :: .int x :: r => some (pc + 1, ls, .int (x &&& y) :: r) | _, _ => none
  | .ior => match len, st with | 1, .int y :: .int x :: r => some (pc + 1, ls, .int (x ||| y) :: r) | _, _ => none
  | .ixor => match len, st with | 1, .int y :: .int x :: r => some (pc + 1, ls, .int (x ^^^ y) :: r) | _, _ => none
  | .ishl => match len, st with | 1, .int y :: .int x :: r => some (pc + 1, ls, .int (x <<< (y &&& 31)) :: r) | _, _ => none
  | .ishr => match len, st with | 1, .int y :: .int x :: r => some (pc + 1, ls, .int (x >>> (y &&& 31)) :: r) | _, _ => none
  | .iushr => match len, st with | 1, .int y :: .int x :: r => some (pc + 1, ls, .int (Jvm.Free.XT.ushr x y) :: r) | _, _ => none
  | .ineg => match len, st with | 1, .int x :: r => some (pc + 1, ls, .int (-x) :: r) | _, _ => none
  | .ladd => match len, st with | 1, .long y :: .long x :: r => some (pc + 1, ls, .long (x + y) :: r) | _, _ => none
  | .lsub => match len, st with | 1, .long y :: .long x :: r => some (pc + 1, ls, .long (x - y) :: r) | _, _ => none
  | .lmul => match len, st with | 1, .long y :: .long x :: r => some (pc + 1, ls, .long (x * y) :: r) | _, _ => none
  | .land => match len, st with | 1, .long y :: .long x :: r => some (pc + 1, ls, .long (x &&& y) :: r) | _, _ => none
  | .lor => match len, st with | 1, .long y :: .long x :: r => some (pc + 1, ls, .long (x ||| y) :: r) | _, _ => none
  | .lshl => match len, st with | 1, .int y :: .long x :: r => some (pc + 1, ls, .long (x <<< (y.toInt64 &&& 63)) :: r) | _, _ => none
  | .lshr => match len, st with | 1, .int y :: .long x :: r => some (pc + 1, ls, .long (x >>> (y.toInt64 &&& 63)) :: r) | _, _ => none
  | .lushr => match len, st with | 1, .int y :: .long x :: r => some (pc + 1, ls, .long (Jvm.Free.XT.ushrL x y) :: r) | _, _ => none
  | .lcmp => match len, st with | 1, .long y :: .long x :: r => some (pc + 1, ls, .int (Jvm.Free.XT.cmpL x y) :: r) | _, _ => none
  | .i2l => match len, st with | 1, .int x :: r => some (pc + 1, ls, .long x.toInt64 :: r) | _, _ => none
  | .l2i => match len, st with | 1, .long x :: r => some (pc + 1, ls, .int x.toInt32 :: r) | _, _ => none
  | .i2b => match len, st with | 1, .int x :: r => some (pc + 1, ls, .int x.toInt8.toInt32 :: r) | _, _ => none
  | .i2c => match len, st with | 1, .int x :: r => some (pc + 1, ls, .int x.toUInt32.toUInt16.toUInt32.toInt32 :: r) | _, _ => none
  | .i2s => match len, st with | 1, .int x :: r => some (pc + 1, ls, .int x.toInt16.toInt32 :: r) | _, _ => none
  | .i2d => match len, st with | 1, .int x :: r => some (pc + 1, ls, .double (FP.i2d x) :: r) | _, _ => none
  | .dup => match len, st with | 1, .int x :: r => some (pc + 1, ls, .int x :: .int x :: r) | 1, .ref x :: r => some (pc + 1, ls, .ref x :: .ref x :: r) | 1, .null :: r => some (pc + 1, ls, .null :: .null :: r) | _, _ => none
  | .pop => match len, st with | 1, .int x :: r => some (pc + 1, ls, r) | 1, .ref x :: r => some (pc + 1, ls, r) | 1, .null :: r => some (pc + 1, ls, r) | _, _ => none
  | .dup_x1 => match len, st with | 1, .int x :: .ref y :: r => some (pc + 1, ls, .int x :: .ref y :: .int x :: r) | 1, .int x :: .int y :: r => some (pc + 1, ls, .int x :: .int y :: .int x :: r) | 1, .ref x :: .ref y :: r => some (pc + 1, ls, .ref x :: .ref y :: .ref x :: r) | _, _ => none
  | .dup2 => match len, st with | 1, .int x :: .ref y :: r => some (pc + 1, ls, .int x :: .ref y :: .int x :: .ref y :: r) | 1, .int x :: .int y :: r => some (pc + 1, ls, .int x :: .int y :: .int x :: .int y :: r) | 1, .long x :: r => some (pc + 1, ls, .long x :: .long x :: r) | _, _ => none
  | .goto o => match len, decide (0 ≤ (pc : Int) + o) with | 3, true => some (((pc : Int) + o).toNat, ls, st) | _, _ => none
  | .ifnull o => match len, st, decide (0 ≤ (pc : Int) + o) with | 3, .null :: r, true => some (((pc : Int) + o).toNat, ls, r) | 3, .ref _ :: r, _ => some (pc + 3, ls, r) | _, _, _ => none
  | .ifnonnull o => match len, st, decide (0 ≤ (pc : Int) + o) with | 3, .ref _ :: r, true => some (((pc : Int) + o).toNat, ls, r) | 3, .null :: r, _ => some (pc + 3, ls, r) | _, _, _ => none
  | .ifCond q o => match len, st, decide (0 ≤ (pc : Int) + o) with
    | 3, .int x :: r, true => (match if_icmp.holds q x 0 with | true => some (((pc : Int) + o).toNat, ls, r) | false => some (pc + 3, ls, r))
    | _, _, _ => none
  | .if_icmp q o => match len, st, decide (0 ≤ (pc : Int) + o) with
    | 3, .int y :: .int x :: r, true => (match if_icmp.holds q x y with | true => some (((pc : Int) + o).toNat, ls, r) | false => some (pc + 3, ls, r))
    | _, _, _ => none
  | _ => none
theorem own_st_ok (X : Stand p l e R s m args below meth c T locs cells slots) (hx : p.tables.exec = Jvm.exec) {i : Instr} {len pc' : Nat} {ls' : Array Slot} {st' : List Value} (hd : decode c.code pc = .ok (i, len)) (hs : own_st i len pc ls st = some (pc', ls', st')) (t : State)
    (k : Steps p.tables e below (T.setTop (mkF m pc' ls' st')) t) : Steps p.tables e below (T.setTop (mkF m pc ls st)) t := by
  unfold own_st at hs
  split at hs
  · split at hs <;> first | cases hs | skip
    rename_i q; exact XS.iloadN X.here hx rfl hd q k
  · split at hs <;> first | cases hs | skip
    rename_i q; exact XS.iload X.here hx rfl hd q k
  · split at hs <;> first | cases hs | skip
    rename_i q; exact Jvm.Free.XT.lloadN X.here hx rfl hd q k
  · split at hs <;> first | cases hs | skip
    rename_i q; exact Jvm.Free.XT.lload X.here hx rfl hd q k
  · split at hs <;> first | cases hs | skip
    rename_i q; exact XS.dloadN X.here hx rfl hd q k
  · split at hs <;> first | cases hs | skip
    rename_i q; exact XS.dload X.here hx rfl hd q k
  · split at hs <;> first | cases hs | skip
    · rename_i q; exact XS.aloadN X.here hx rfl hd q rfl k
    · rename_i q; exact XS.aloadN X.here hx rfl hd q rfl k
  · split at hs <;> first | cases hs | skip
    · rename_i q; exact XS.aload X.here hx rfl hd q rfl k
    · rename_i q; exact XS.aload X.here hx rfl hd q rfl k
  · split at hs <;> first | cases hs | skip
    split at hs <;> first | cases hs | skip
    rename_i q; exact XS.istoreN X.here hx rfl hd rfl q k
  · split at hs <;> first | cases hs | skip
    split at hs <;> first | cases hs | skip
    rename_i q; exact XS.istore X.here hx rfl hd rfl q k
  · split at hs <;> first | cases hs | skip
    split at hs <;> first | cases hs | skip
    rename_i q; exact Jvm.Free.XT.lstoreN X.here hx rfl hd rfl q k
  · split at hs <;> first | cases hs | skip
    split at hs <;> first | cases hs | skip
    rename_i q; exact Jvm.Free.XT.lstore X.here hx rfl hd rfl q k
  · split at hs <;> first | cases hs | skip
    split at hs <;> first | cases hs | skip
    rename_i q; exact XS.dstoreN X.here hx rfl hd rfl q k
  · split at hs <;> first | cases hs | skip
    split at hs <;> first | cases hs | skip
    rename_i q; exact XS.dstore X.here hx rfl hd rfl q k
  · split at hs <;> first | cases hs | skip
    all_goals
      split at hs <;> first | cases hs | skip
      rename_i q; exact XS.astoreN X.here hx rfl hd rfl rfl q k
  · split at hs <;> first | cases hs | skip
    all_goals
      split at hs <;> first | cases hs | skip
      rename_i q; exact XS.astore X.here hx rfl hd rfl rfl q k
  · split at hs <;> first | cases hs | skip
    rename_i q0
    split at hs <;> first | cases hs | skip
    rename_i q; exact XS.iinc X.here hx rfl hd q0 q k
  · split at hs <;> first | cases hs | skip
    exact XS.iconst X.here hx rfl hd k
  · split at hs <;> first | cases hs | skip
    exact XS.bipush X.here hx rfl hd k
  · split at hs <;> first | cases hs | skip
    exact XS.sipush X.here hx rfl hd k
  · split at hs <;> first | cases hs | skip
    exact Jvm.Free.XT.lconst X.here hx rfl hd k
  · split at hs <;> first | cases hs | skip
    exact XS.aconstNull X.here hx rfl hd k
  · split at hs <;> first | cases hs | skip
    exact XS.iadd X.here hx rfl hd rfl k
  · split at hs <;> first | cases hs | skip
    exact XS.isub X.here hx rfl hd rfl k
  · split at hs <;> first | cases hs | skip
    exact XS.imul X.here hx rfl hd rfl k
  · split at hs <;> first | cases hs | skip
    exact XS.iand X.here hx rfl hd rfl k
  · split at hs <;> first | cases hs | skip
    exact Jvm.Free.XT.ior X.here hx rfl hd rfl k
  · split at hs <;> first | cases hs | skip
    exact Jvm.Free.XT.ixor X.here hx rfl hd rfl k
  · split at hs <;> first | cases hs | skip
    exact Jvm.Free.XT.ishl X.here hx rfl hd rfl k
  · split at hs <;> first | cases hs | skip
    exact Jvm.Free.XT.ishr X.here hx rfl hd rfl k
  · split at hs <;> first | cases hs | skip
    exact Jvm.Free.XT.iushr X.here hx rfl hd rfl k
  · split at hs <;> first | cases hs | skip
    exact XS.ineg X.here hx rfl hd rfl k
  · split at hs <;> first | cases hs | skip
    exact Jvm.Free.XT.ladd X.here hx rfl hd rfl k
  · split at hs <;> first | cases hs | skip
    exact Jvm.Free.XT.lsub X.here hx rfl hd rfl k
  · split at hs <;> first | cases hs | skip
    exact Jvm.Free.XT.lmul X.here hx rfl hd rfl k
  · split at hs <;> first | cases hs | skip
    exact Jvm.Free.XT.land X.here hx rfl hd rfl k
  · split at hs <;> first | cases hs | skip
    exact Jvm.Free.XT.lor X.here hx rfl hd rfl k
  · split at hs <;> first | cases hs | skip
    exact Jvm.Free.XT.lshl X.here hx rfl hd rfl k
  · split at hs <;> first | cases hs | skip
    exact Jvm.Free.XT.lshr X.here hx rfl hd rfl k
  · split at hs <;> first | cases hs | skip
    exact Jvm.Free.XT.lushr X.here hx rfl hd rfl k
  · split at hs <;> first | cases hs | skip
    exact Jvm.Free.XT.lcmp X.here hx rfl hd rfl k
  · split at hs <;> first | cases hs | skip
    exact Jvm.Free.XT.i2l X.here hx rfl hd rfl k
  · split at hs <;> first | cases hs | skip
    exact Jvm.Free.XT.l2i X.here hx rfl hd rfl k
  · split at hs <;> first | cases hs | skip
    exact Jvm.Free.XT.i2b X.here hx rfl hd rfl k
  · split at hs <;> first | cases hs | skip
    exact Jvm.Free.XT.i2c X.here hx rfl hd rfl k
  · split at hs <;> first | cases hs | skip
    exact Jvm.Free.XT.i2s X.here hx rfl hd rfl k
  · split at hs <;> first | cases hs | skip
    exact XS.i2dS X.here hx rfl hd rfl rfl k
  · split at hs <;> first | cases hs | skip
    all_goals exact XS.dup X.here hx rfl hd rfl rfl k
  · split at hs <;> first | cases hs | skip
    all_goals exact Jvm.Free.XT.pop X.here hx rfl hd rfl rfl k
  · split at hs <;> first | cases hs | skip
    all_goals exact Jvm.Free.XT.dupX1 X.here hx rfl hd rfl rfl rfl k
  · split at hs <;> first | cases hs | skip
    · exact Jvm.Free.XT.dup2 X.here hx rfl hd rfl rfl rfl k
    · exact Jvm.Free.XT.dup2 X.here hx rfl hd rfl rfl rfl k
    · exact Jvm.Free.XT.dup2L X.here hx rfl hd rfl k
  · split at hs <;> first | cases hs | skip
    rename_i q; exact XS.goto X.here hx rfl rfl hd (of_decide_eq_true q) rfl k
  · split at hs <;> first | cases hs | skip
    · rename_i q; exact XS.ifnullYes X.here hx rfl rfl hd rfl (of_decide_eq_true q) rfl k
    · exact XS.ifnullNo X.here hx rfl hd rfl k
  · split at hs <;> first | cases hs | skip
    · rename_i q; exact Jvm.Free.XT.ifnonnullYes X.here hx rfl rfl hd rfl (of_decide_eq_true q) rfl k
    · exact Jvm.Free.XT.ifnonnullNo X.here hx rfl hd rfl k
  · split at hs <;> first | cases hs | skip
    rename_i q1
    split at hs <;> (rename_i hc; rw [← if0] at hc; simp only [Option.some.injEq, Prod.mk.injEq] at hs; obtain ⟨rfl, rfl, rfl⟩ := hs)
    · exact XS.ifYes X.here hx rfl rfl hd rfl hc (of_decide_eq_true q1) rfl k
    · exact XS.ifNo X.here hx rfl hd rfl hc k
  · split at hs <;> first | cases hs | skip
    rename_i q1
    split at hs <;> (rename_i hc; simp only [Option.some.injEq, Prod.mk.injEq] at hs; obtain ⟨rfl, rfl, rfl⟩ := hs)
    · exact XS.icmpYes X.here hx rfl rfl hd rfl hc (of_decide_eq_true q1) rfl k
    · exact XS.icmpNo X.here hx rfl hd rfl hc k
  · cases hs
/-- a row of plain instructions -/
def Fc : List (Nat × Instr × Nat) → Nat → Array Slot → List Value → Option (Nat × Array Slot × List Value)
  | [], pc, ls, st => some (pc, ls, st)
  | x :: seg, pc, ls, st => match decide (pc = x.1) with
    | true => (match own_st x.2.1 x.2.2 x.1 ls st with | some (pc', ls', st') => Fc seg pc' ls' st' | none => none)
    | false => none
def own_dec (cd : ByteArray) (seg : List (Nat × Instr × Nat)) : Bool := seg.all fun x => decide (decode cd x.1 = .ok x.2)
theorem own_run_ok (X : Stand p l e R s m args below meth c T locs cells slots) (hx : p.tables.exec = Jvm.exec) (hby : c.code = cd) : ∀ (seg : List (Nat × Instr × Nat)) {pc pc' : Nat} {ls ls' : Array Slot} {st st' : List Value}, own_dec cd seg = true → Fc seg pc ls st = some (pc', ls', st') → ∀ t,
    Steps p.tables e below (T.setTop (mkF m pc' ls' st')) t → Steps p.tables e below (T.setTop (mkF m pc ls st)) t := by
  intro seg
  induction seg with
  | nil =>
    intro pc pc' ls ls' st st' _ hr t k
    simp only [Fc, Option.some.injEq, Prod.mk.injEq] at hr
    obtain ⟨rfl, rfl, rfl⟩ := hr
    exact k
  | cons x seg ih =>
    intro pc pc' ls ls' st st' hd hr t k
    simp only [own_dec, List.all_cons, Bool.and_eq_true, decide_eq_true_eq] at hd
    simp only [Fc] at hr
    split at hr
    · rename_i q
      have q' : pc = x.1 := of_decide_eq_true q
      subst q'
      split at hr
      · rename_i a1 b1 c1 q2
        exact own_st_ok X hx (by rw [hby]; exact hd.1) q2 t (ih hd.2 hr t k)
      · cases hr
    · cases hr
theorem own_seg (C : By p s m meth c Z own cd maxL ret nm) (S : Bo p l e R s m args below meth c n0 T h cells slots) (seg : List (Nat × Instr × Nat)) (hd : own_dec cd seg = true) (pc' : Nat) (ls' : Array Slot) (st' : List Value)
    (hr : Fc seg pc ls st = some (pc', ls', st')) (k : As p e below En T (mkF m pc' ls' st')) : As p e below En T (mkF m pc ls st) := by
  obtain ⟨locs, kk, n, X, -⟩ := S
  exact Bn (own_run_ok X C.1 C.2.1 seg hd hr) k
def own_P : ClassFile.Cond → Int32 → Int32 → Prop
  | .eq, x, y => x = y | .ne, x, y => ¬ x = y | .lt, x, y => x < y | .ge, x, y => ¬ x < y | .gt, x, y => y < x | .le, x, y => ¬ y < x
def own_N : ClassFile.Cond → Int32 → Int32 → Prop
  | .eq, x, y => ¬ x = y | .ne, x, y => x = y | .lt, x, y => ¬ x < y | .ge, x, y => x < y | .gt, x, y => ¬ y < x | .le, x, y => y < x
theorem own_holds (q : ClassFile.Cond) (x y : Int32) : (own_P q x y ∧ if_icmp.holds q x y = true) ∨ (own_N q x y ∧ if_icmp.holds q x y = false) := by
  cases q
  · by_cases g : x = y
    · exact Or.inl ⟨g, (teq g).1⟩
    · exact Or.inr ⟨g, (feq g).1⟩
  · by_cases g : x = y
    · exact Or.inr ⟨g, (teq g).2⟩
    · exact Or.inl ⟨g, (feq g).2⟩
  · by_cases g : x < y
    · exact Or.inl ⟨g, (tlt g).1⟩
    · exact Or.inr ⟨g, (flt g).1⟩
  · by_cases g : x < y
    · exact Or.inr ⟨g, (tlt g).2.1⟩
    · exact Or.inl ⟨g, (flt g).2.1⟩
  · by_cases g : y < x
    · exact Or.inl ⟨g, (tlt g).2.2.1⟩
    · exact Or.inr ⟨g, (flt g).2.2.1⟩
  · by_cases g : y < x
    · exact Or.inr ⟨g, (tlt g).2.2.2⟩
    · exact Or.inl ⟨g, (flt g).2.2.2⟩
theorem own_icmp (C : By p s m meth c Z own cd maxL ret nm) (S : Bo p l e R s m args below meth c n0 T h cells slots) {q : ClassFile.Cond} {o : Int} {x y : Int32} (hd : decode cd pc = .ok (.if_icmp q o, 3)) (pc' : Nat) (ho : 0 ≤ (pc : Int) + o) (hp : ((pc : Int) + o).toNat = pc')
    (k1 : own_P q x y → As p e below En T (mkF m pc' ls st)) (k2 : own_N q x y → As p e below En T (mkF m (pc + 3) ls st)) : As p e below En T (mkF m pc ls (.int y :: .int x :: st)) := by
  obtain ⟨locs, kk, n, X, -⟩ := S
  rcases own_holds q x y with ⟨g, hc⟩ | ⟨g, hc⟩
  · exact Bn (fun t k => XS.icmpYes X.here C.1 rfl rfl (Cg C hd) rfl hc ho hp k) (k1 g)
  · exact Bn (fun t k => XS.icmpNo X.here C.1 rfl (Cg C hd) rfl hc k) (k2 g)
theorem own_if (C : By p s m meth c Z own cd maxL ret nm) (S : Bo p l e R s m args below meth c n0 T h cells slots) {q : ClassFile.Cond} {o : Int} {x : Int32} (hd : decode cd pc = .ok (.ifCond q o, 3)) (pc' : Nat) (ho : 0 ≤ (pc : Int) + o) (hp : ((pc : Int) + o).toNat = pc')
    (k1 : own_P q x 0 → As p e below En T (mkF m pc' ls st)) (k2 : own_N q x 0 → As p e below En T (mkF m (pc + 3) ls st)) : As p e below En T (mkF m pc ls (.int x :: st)) := by
  obtain ⟨locs, kk, n, X, -⟩ := S
  rcases own_holds q x 0 with ⟨g, hc⟩ | ⟨g, hc⟩ <;> rw [← if0] at hc
  · exact Bn (fun t k => XS.ifYes X.here C.1 rfl rfl (Cg C hd) rfl hc ho hp k) (k1 g)
  · exact Bn (fun t k => XS.ifNo X.here C.1 rfl (Cg C hd) rfl hc k) (k2 g)
def own_A : ClassFile.ACond → Value → Value → Prop
  | .eq, x, y => x = y | .ne, x, y => ¬ x = y
def own_B : ClassFile.ACond → Value → Value → Prop
  | .eq, x, y => ¬ x = y | .ne, x, y => x = y
theorem own_acmp (C : By p s m meth c Z own cd maxL ret nm) (S : Bo p l e R s m args below meth c n0 T h cells slots) {q : ClassFile.ACond} {o : Int} {x y : Value} (hx' : x.isRef = true) (hy' : y.isRef = true) (hd : decode cd pc = .ok (.if_acmp q o, 3)) (pc' : Nat) (ho : 0 ≤ (pc : Int) + o) (hp : ((pc : Int) + o).toNat = pc')
    (k1 : own_A q x y → As p e below En T (mkF m pc' ls st)) (k2 : own_B q x y → As p e below En T (mkF m (pc + 3) ls st)) : As p e below En T (mkF m pc ls (y :: x :: st)) := by
  obtain ⟨locs, kk, n, X, -⟩ := S
  cases q <;> by_cases g : x = y
  · exact Bn (fun t k => Jvm.Free.XT.acmpYes X.here C.1 rfl rfl (Cg C hd) rfl hx' hy' (Jvm.Free.XT.aa_eq_t g) ho hp k) (k1 g)
  · exact Bn (fun t k => Jvm.Free.XT.acmpNo X.here C.1 rfl (Cg C hd) rfl hx' hy' (Jvm.Free.XT.aa_eq_f g) k) (k2 g)
  · exact Bn (fun t k => Jvm.Free.XT.acmpNo X.here C.1 rfl (Cg C hd) rfl hx' hy' (Jvm.Free.XT.aa_ne_f g) k) (k2 g)
  · exact Bn (fun t k => Jvm.Free.XT.acmpYes X.here C.1 rfl rfl (Cg C hd) rfl hx' hy' (Jvm.Free.XT.aa_ne_t g) ho hp k) (k1 g)
theorem Fb (C : By p s m meth c Z own cd maxL ret nm) (S : Bo p l e R s m args below meth c n0 T h cells slots) {x y : Int32} (hd : decode cd pc = .ok (.idiv, 1)) (hy : y ≠ 0) (k : As p e below En T (mkF m (pc + 1) ls (.int (x / y) :: st))) : As p e below En T (mkF m pc ls (.int y :: .int x :: st)) := by
  obtain ⟨locs, kk, n, X, -⟩ := S
  exact Bn (fun t k => XS.idiv X.here C.1 rfl (Cg C hd) rfl hy k) k
theorem Dj (C : By p s m meth c Z own cd maxL ret nm) (S : Bo p l e R s m args below meth c n0 T h cells slots) {x y : Int32} (hd : decode cd pc = .ok (.irem, 1)) (hy : y ≠ 0) (k : As p e below En T (mkF m (pc + 1) ls (.int (x % y) :: st))) : As p e below En T (mkF m pc ls (.int y :: .int x :: st)) := by
  obtain ⟨locs, kk, n, X, -⟩ := S
  exact Bn (fun t k => iremM X C.1 rfl (Cg C hd) rfl hy k) k
theorem own_ldc (C : By p s m meth c Z own cd maxL ret nm) (S : Bo p l e R s m args below meth c n0 T h cells slots) {index : Nat} {v : Int32} (w : (Jvm.Cond.constant own index v).before a0 Z = true) (hd : decode cd pc = .ok (.ldc index, 2)) (k : As p e below En T (mkF m (pc + 2) ls (.int v :: st))) : As p e below En T (mkF m pc ls st) := by
  obtain ⟨locs, kk, n, X, -⟩ := S
  exact Bn (fun t k => X.ldcInt C.1 C.2.2.2.1 (mv C.2.2.2.2.2.2.2 w) (g := mkF m pc ls st) rfl (Cg C hd) t k) k
theorem Dd (C : By p s m meth c Z own cd maxL ret nm) (S : Bo p l e R s m args below meth c n0 T h cells slots) {index : Nat} {v : Int64} (w : (Jvm.Cond.constantLong own index v).before a0 Z = true) (hd : decode cd pc = .ok (.ldc2_w index, 3)) (k : As p e below En T (mkF m (pc + 3) ls (.long v :: st))) : As p e below En T (mkF m pc ls st) := by
  obtain ⟨locs, kk, n, X, -⟩ := S
  exact Bn (fun t k => X.ldc2Long C.1 C.2.2.2.1 (mv C.2.2.2.2.2.2.2 w) (g := mkF m pc ls st) rfl (Cg C hd) t k) k
theorem own_getF (C : By p s m meth c Z own cd maxL ret nm) (S : Bo p l e R s m args below meth c n0 T h cells slots) {index : Nat} {R0 O n d host : String} {a : Addr} {v : Value} (w : (Jvm.Cond.fieldLink own index R0 n d).before a0 Z = true ∨ (Jvm.Cond.fieldLinkNest own index R0 n d host).before a0 Z = true) (via : Via Z R0 O n d) (FF : Fld Z h a O n d v) (hd : decode cd pc = .ok (.getfield index, 3))
    (k : ∀ T', Bo p l e R s m args below meth c n0 T' h cells slots → As p e below En T' (mkF m (pc + 3) ls (v :: st))) : As p e below En T (mkF m pc ls (.ref a :: st)) := by
  obtain ⟨locs, kk, nn, X, eT, N, q1, q2⟩ := S
  obtain ⟨T', X', e', stp⟩ := getF X C.1 C.2.2.2.2.2.2.2 C.2.2.2.1 w via eT FF (g := mkF m pc ls (.ref a :: st)) rfl rfl (Cg C hd)
  exact Bn stp (k T' ⟨_, _, _, X', e', N, q1, q2⟩)
theorem Bi (C : By p s m meth c Z own cd maxL ret nm) (S : Bo p l e R s m args below meth c n0 T h cells slots) {index : Nat} {R0 O n d : String} {v : Value} (w : (Jvm.Cond.fieldLink own index R0 n d).before a0 Z = true) (via : Via Z R0 O n d) (FF : Sta Z h O n d v) (hd : decode cd pc = .ok (.getstatic index, 3))
    (k : ∀ T', Bo p l e R s m args below meth c n0 T' h cells slots → As p e below En T' (mkF m (pc + 3) ls (v :: st))) : As p e below En T (mkF m pc ls st) := by
  obtain ⟨locs, kk, nn, X, eT, N, q1, q2⟩ := S
  obtain ⟨T', X', e', stp⟩ := getS X C.1 C.2.2.2.2.2.2.2 (host := "") C.2.2.2.1 w via eT FF (g := mkF m pc ls st) rfl (Cg C hd)
  exact Bn stp (k T' ⟨_, _, _, X', e', N, q1, q2⟩)
theorem Db (C : By p s m meth c Z own cd maxL ret nm) (S : Bo p l e R s m args below meth c n0 T h cells slots) {index ki : Nat} {R0 O n d host Cl : String} {a : Addr} {v old : Value} {ty : FieldType} (w : (Jvm.Cond.fieldLink own index R0 n d).before a0 Z = true ∨ (Jvm.Cond.fieldLinkNest own index R0 n d host).before a0 Z = true) (via : Via Z R0 O n d) (FF : Fld Z h a O n d old) (E : Exa Z h a Cl)
    (L : (Jvm.Cond.lays Cl O n d).before a0 Z = true ∨ ((Jvm.Cond.laysFinal Cl O n d).before a0 Z = true ∧ own = O ∧ nm = "<init>")) (wi : (Jvm.Cond.instantiable Cl ki).before a0 Z = true) (hty : parseFieldDescriptor d = some ty) (hn : narrow ty v = v) (hf : fits ty v = true) (hge : n0 ≤ a) (hd : decode cd pc = .ok (.putfield index, 3))
    (k : ∀ T' h', Bo p l e R s m args below meth c n0 T' h' cells slots → Wr h h' a (Jvm.RoadKit.slotOf Z O n d) v → As p e below En T' (mkF m (pc + 3) ls st)) : As p e below En T (mkF m pc ls (v :: .ref a :: st)) := by
  obtain ⟨locs, kk, nn, X, eT, N, q1, q2⟩ := S
  obtain ⟨T', h', X', e', W, stp⟩ := putF X C.1 C.2.2.2.2.2.2.2 C.2.2.2.1 w via eT FF E (L.imp id (fun q => ⟨q.1, q.2.1, C.2.2.2.2.1.trans q.2.2⟩)) wi hty hn hf (g := mkF m pc ls (v :: .ref a :: st)) rfl rfl (Cg C hd)
  exact Bn stp (k T' h' ⟨_, _, _, X', e', Fr.snoc X' N hge, q1, q2⟩ W)
theorem Dq (C : By p s m meth c Z own cd maxL ret nm) (S : Bo p l e R s m args below meth c n0 T h cells slots) {index ki : Nat} {Cl : String} (w : (Jvm.Cond.classLink own index Cl).before a0 Z = true) (wi : (Jvm.Cond.instantiable Cl ki).before a0 Z = true) (wz : (Jvm.Cond.initialized Cl).before a0 Z = true) (hd : decode cd pc = .ok (.new index, 3)) (hc : cells + 1 ≤ R.cells) (hl : slots + ki ≤ R.slots)
    (k : ∀ T' h' a, Bo p l e R s m args below meth c n0 T' h' (cells + 1) (slots + ki) → a = h.size → Ext h h' → Exa Z h' a Cl → (∀ {O nm d : String} {ty : FieldType}, Laid Z a0 Cl O nm d → parseFieldDescriptor d = some ty → Fld Z h' a O nm d (defaultValue ty)) → As p e below En T' (mkF m (pc + 3) ls (.ref a :: st))) : As p e below En T (mkF m pc ls st) := by
  obtain ⟨locs, kk, nn, X, eT, N, q1, q2⟩ := S
  obtain ⟨T', h', X', e', E, A, D, -, stp⟩ := newO X C.1 C.2.2.2.2.2.2.2 C.2.2.2.1 w wi wz eT (g := mkF m pc ls st) rfl (Cg C hd) (by omega) (by omega)
  exact Bn stp (k T' h' _ ⟨_, _, _, X', e', N, by omega, by omega⟩ rfl E A D)
theorem Dp (C : By p s m meth c Z own cd maxL ret nm) (S : Bo p l e R s m args below meth c n0 T h cells slots) {index : Nat} (w1 : (Jvm.Cond.methodLink own index Lib.objectInit).before a0 Z = true) (w2 : (Jvm.Cond.instanceMethod Lib.objectInit).before a0 Z = true) (w3 : (Jvm.Cond.code Lib.objectInit ⟨#[0xb1]⟩ 1 none).before a0 Z = true) {a : Addr} (hsz : ls.size = maxL) (hd : decode cd pc = .ok (.invokespecial index, 3)) (hf : 1 ≤ R.frames) (W : Nat) (hW : (st.map fun v => v.category).sum ≤ W) (hl : W + 12 ≤ R.locals)
    (k : ∀ T', Bo p l e R s m args below meth c n0 T' h cells slots → As p e below En T' (mkF m (pc + 3) ls st)) : As p e below En T (mkF m pc ls (.ref a :: st)) := by
  obtain ⟨locs, kk, nn, X, eT, N, q1, q2⟩ := S
  obtain ⟨T', X', e', stp⟩ := initO X C.1 C.2.2.2.2.2.2.2 C.2.2.2.1 w1 w2 w3 eT (g := mkF m pc ls (.ref a :: st)) rfl (Fa C hsz) rfl (Cg C hd) hf (W := W) (by show 2 * 0 + _ ≤ W; omega) hl
  exact Bn stp (k T' ⟨_, _, _, X', e', N, q1, q2⟩)
theorem Dr (C : By p s m meth c Z own cd maxL ret nm) (S : Bo p l e R s m args below meth c n0 T h cells slots) {aty : ArrayType} (w : (Jvm.Cond.arrayClass (newarray.typeOf aty)).before a0 Z = true) (hd : decode cd pc = .ok (.newarray aty, 2)) {n : Int32} (hn : ¬ n < 0) (cap : Nat) (hcap : n.toNatClampNeg ≤ cap) (hb : cap * 8 ≤ 536870912) (hc : cells + 1 ≤ R.cells) (hl : slots + cap ≤ R.slots)
    (k : ∀ T' h' a cA, Bo p l e R s m args below meth c n0 T' h' (cells + 1) (slots + cap) → a = h.size → Ext h h' → Arv Z h' a cA (newarray.typeOf aty) n [] (defaultValue (newarray.typeOf aty)) → As p e below En T' (mkF m (pc + 2) ls (.ref a :: st))) : As p e below En T (mkF m pc ls (.int n :: st)) := by
  obtain ⟨locs, kk, nn, X, eT, N, q1, q2⟩ := S
  obtain ⟨T', h', cA, X', e', E, A, stp⟩ := newP X C.1 C.2.2.2.2.2.2.2 w eT (g := mkF m pc ls (.int n :: st)) rfl (Cg C hd) rfl hn hcap hb (by omega) (by omega)
  exact Bn stp (k T' h' _ cA ⟨_, _, _, X', e', N, by omega, by omega⟩ rfl E (Arv.new A hn))
theorem Au (C : By p s m meth c Z own cd maxL ret nm) (S : Bo p l e R s m args below meth c n0 T h cells slots) {a : Addr} {ka : ClassId} {ty : FieldType} {N : Int32} {vs : List Value} {dv : Value} (FF : Arv Z h a ka ty N vs dv) (hd : decode cd pc = .ok (.arraylength, 1)) (k : As p e below En T (mkF m (pc + 1) ls (.int N :: st))) : As p e below En T (mkF m pc ls (.ref a :: st)) := by
  obtain ⟨locs, kk, nn, X, eT, -⟩ := S
  obtain ⟨cl, A, -, sz, hN, -⟩ := FF
  rw [← len_of sz hN] at k
  exact Bn (fun t k => X.arraylength C.1 (by rw [eT]; exact A.1) (State.isArrayOf_alike C.2.2.2.2.2.2.2.alike A.2.1) (g := mkF m pc ls (.ref a :: st)) rfl rfl (Cg C hd) t k) k
theorem Ao (C : By p s m meth c Z own cd maxL ret nm) (S : Bo p l e R s m args below meth c n0 T h cells slots) {a : Addr} {ka : ClassId} {N j : Int32} {vs : List Value} {dv : Value} (FF : Arv Z h a ka .char N vs dv) (hin : ¬ j < 0 ∧ j < N) (v : Value) (hv : vs.getD j.toNatClampNeg dv = v) (hd : decode cd pc = .ok (.caload, 1)) (k : As p e below En T (mkF m (pc + 1) ls (v :: st))) : As p e below En T (mkF m pc ls (.int j :: .ref a :: st)) := by
  obtain ⟨locs, kk, nn, X, eT, -⟩ := S
  obtain ⟨cl, A, -, sz, hN, H, -⟩ := FF
  exact Bn (fun t k => X.caload C.1 (by rw [eT]; exact A.1) (State.isArrayOf_alike C.2.2.2.2.2.2.2.alike A.2.1) A.2.2 (inb_of sz hin) (Has.at H (inb_of sz hin) hv) (g := mkF m pc ls (.int j :: .ref a :: st)) rfl rfl (Cg C hd) t k) k
theorem Bl (C : By p s m meth c Z own cd maxL ret nm) (S : Bo p l e R s m args below meth c n0 T h cells slots) {a : Addr} {ka : ClassId} {N j : Int32} {vs : List Value} {dv : Value} (FF : Arv Z h a ka .int N vs dv) (hin : ¬ j < 0 ∧ j < N) (v : Value) (hv : vs.getD j.toNatClampNeg dv = v) (hd : decode cd pc = .ok (.iaload, 1)) (k : As p e below En T (mkF m (pc + 1) ls (v :: st))) : As p e below En T (mkF m pc ls (.int j :: .ref a :: st)) := by
  obtain ⟨locs, kk, nn, X, eT, -⟩ := S
  obtain ⟨cl, A, -, sz, hN, H, -⟩ := FF
  exact Bn (fun t k => X.iaload C.1 (by rw [eT]; exact A.1) (State.isArrayOf_alike C.2.2.2.2.2.2.2.alike A.2.1) A.2.2 (inb_of sz hin) (Has.at H (inb_of sz hin) hv) (g := mkF m pc ls (.int j :: .ref a :: st)) rfl rfl (Cg C hd) t k) k
theorem Bb (C : By p s m meth c Z own cd maxL ret nm) (S : Bo p l e R s m args below meth c n0 T h cells slots) {a : Addr} {ka : ClassId} {N j : Int32} {vs : List Value} {dv : Value} (FF : Arv Z h a ka .byte N vs dv) (hin : ¬ j < 0 ∧ j < N) (v : Value) (hv : vs.getD j.toNatClampNeg dv = v) (hd : decode cd pc = .ok (.baload, 1)) (k : As p e below En T (mkF m (pc + 1) ls (v :: st))) : As p e below En T (mkF m pc ls (.int j :: .ref a :: st)) := by
  obtain ⟨locs, kk, nn, X, eT, -⟩ := S
  obtain ⟨cl, A, -, sz, hN, H, -⟩ := FF
  exact Bn (fun t k => X.baloadBytes C.1 (by rw [eT]; exact A.1) (State.isArrayOf_alike C.2.2.2.2.2.2.2.alike A.2.1) A.2.2 (inb_of sz hin) (Has.at H (inb_of sz hin) hv) (g := mkF m pc ls (.int j :: .ref a :: st)) rfl rfl (Cg C hd) t k) k
theorem Aw (C : By p s m meth c Z own cd maxL ret nm) (S : Bo p l e R s m args below meth c n0 T h cells slots) {a : Addr} {ka : ClassId} {N j x : Int32} {vs : List Value} {dv : Value} (FF : Arv Z h a ka .char N vs dv) (hin : ¬ j < 0 ∧ j < N) (i : Nat) (hj : j.toNatClampNeg = i) (hi : i < vs.length) (x' : Int32) (hx' : nar .char x = x') (hge : n0 ≤ a) (hd : decode cd pc = .ok (.castore, 1))
    (k : ∀ T' h', Bo p l e R s m args below meth c n0 T' h' cells slots → Wr h h' a j.toNatClampNeg (.int x') → Arv Z h' a ka .char N (vs.set i (.int x')) dv → As p e below En T' (mkF m (pc + 1) ls st)) : As p e below En T (mkF m pc ls (.int x :: .int j :: .ref a :: st)) := by
  subst hx'
  obtain ⟨locs, kk, nn, X, eT, N, q1, q2⟩ := S
  obtain ⟨cl, A, ck, sz, hN, H, G⟩ := FF
  obtain ⟨T', h', X', e', W, stp⟩ := stC X C.1 C.2.2.2.2.2.2.2 eT A (inb_of sz hin) (g := mkF m pc ls (.int x :: .int j :: .ref a :: st)) rfl rfl (Cg C hd)
  exact Bn stp (k T' h' ⟨_, _, _, X', e', Fr.snoc X' N hge, q1, q2⟩ W (Arv.set A ck sz hN H G (fits_nar_char x) W i hj hi))
theorem Ap (C : By p s m meth c Z own cd maxL ret nm) (S : Bo p l e R s m args below meth c n0 T h cells slots) {a : Addr} {ka : ClassId} {N j x : Int32} {vs : List Value} {dv : Value} (FF : Arv Z h a ka .byte N vs dv) (hin : ¬ j < 0 ∧ j < N) (i : Nat) (hj : j.toNatClampNeg = i) (hi : i < vs.length) (x' : Int32) (hx' : nar .byte x = x') (hge : n0 ≤ a) (hd : decode cd pc = .ok (.bastore, 1))
    (k : ∀ T' h', Bo p l e R s m args below meth c n0 T' h' cells slots → Wr h h' a j.toNatClampNeg (.int x') → Arv Z h' a ka .byte N (vs.set i (.int x')) dv → As p e below En T' (mkF m (pc + 1) ls st)) : As p e below En T (mkF m pc ls (.int x :: .int j :: .ref a :: st)) := by
  subst hx'
  obtain ⟨locs, kk, nn, X, eT, N, q1, q2⟩ := S
  obtain ⟨cl, A, ck, sz, hN, H, G⟩ := FF
  obtain ⟨T', h', X', e', W, stp⟩ := stB X C.1 C.2.2.2.2.2.2.2 eT A (inb_of sz hin) (g := mkF m pc ls (.int x :: .int j :: .ref a :: st)) rfl rfl (Cg C hd)
  exact Bn stp (k T' h' ⟨_, _, _, X', e', Fr.snoc X' N hge, q1, q2⟩ W (Arv.set A ck sz hN H G (fits_nar_byte x) W i hj hi))
theorem Dh (C : By p s m meth c Z own cd maxL ret nm) (S : Bo p l e R s m args below meth c n0 T h cells slots) {a : Addr} {ka : ClassId} {N j x : Int32} {vs : List Value} {dv : Value} (FF : Arv Z h a ka .int N vs dv) (hin : ¬ j < 0 ∧ j < N) (i : Nat) (hj : j.toNatClampNeg = i) (hi : i < vs.length) (hge : n0 ≤ a) (hd : decode cd pc = .ok (.iastore, 1))
    (k : ∀ T' h', Bo p l e R s m args below meth c n0 T' h' cells slots → Wr h h' a j.toNatClampNeg (.int x) → Arv Z h' a ka .int N (vs.set i (.int x)) dv → As p e below En T' (mkF m (pc + 1) ls st)) : As p e below En T (mkF m pc ls (.int x :: .int j :: .ref a :: st)) := by
  obtain ⟨locs, kk, nn, X, eT, N, q1, q2⟩ := S
  obtain ⟨cl, A, ck, sz, hN, H, G⟩ := FF
  obtain ⟨T', h', X', e', W, stp⟩ := stI X C.1 C.2.2.2.2.2.2.2 eT A (inb_of sz hin) (g := mkF m pc ls (.int x :: .int j :: .ref a :: st)) rfl rfl (Cg C hd)
  exact Bn stp (k T' h' ⟨_, _, _, X', e', Fr.snoc X' N hge, q1, q2⟩ W (Arv.set A ck sz hN H G rfl W i hj hi))
theorem own_cast (C : By p s m meth c Z own cd maxL ret nm) (S : Bo p l e R s m args below meth c n0 T h cells slots) {index : Nat} {K : String} {a : Addr} (w : (Jvm.Cond.classLink own index K).before a0 Z = true) (FF : Ins Z h a K true) (hd : decode cd pc = .ok (.checkcast index, 3))
    (k : ∀ T', Bo p l e R s m args below meth c n0 T' h cells slots → As p e below En T' (mkF m (pc + 3) ls (.ref a :: st))) : As p e below En T (mkF m pc ls (.ref a :: st)) := by
  obtain ⟨locs, kk, nn, X, eT, N, q1, q2⟩ := S
  obtain ⟨T', X', e', stp⟩ := castY X C.1 C.2.2.2.2.2.2.2 C.2.2.2.1 w eT FF (g := mkF m pc ls (.ref a :: st)) rfl rfl (Cg C hd)
  exact Bn stp (k T' ⟨_, _, _, X', e', N, q1, q2⟩)
theorem Ew (C : By p s m meth c Z own cd maxL ret nm) (S : Bo p l e R s m args below meth c n0 T h cells slots) {x y : Int64} (hd : decode cd pc = .ok (.ldiv, 1)) (hy : y ≠ 0) (k : As p e below En T (mkF m (pc + 1) ls (.long (x / y) :: st))) : As p e below En T (mkF m pc ls (.long y :: .long x :: st)) := by
  obtain ⟨locs, kk, n, X, -⟩ := S
  exact Bn (fun t k => Jvm.Free.XT.ldiv X.here C.1 rfl (Cg C hd) rfl hy k) k
theorem own_tsi (C : By p s m meth c Z own cd maxL ret nm) (S : Bo p l e R s m args below meth c n0 T h cells slots) {df lo hi : Int} {offs : Array Int} {len : Nat} {o : Int} {i : Int32} (hd : decode cd pc = .ok (.tableswitch df lo hi offs, len)) (hin : ¬ (i.toInt < lo ∨ i.toInt > hi)) (hoff : offs[(i.toInt - lo).toNat]? = some o) (ho : 0 ≤ (pc : Int) + o) (pc' : Nat) (hp : ((pc : Int) + o).toNat = pc') (k : As p e below En T (mkF m pc' ls st)) : As p e below En T (mkF m pc ls (.int i :: st)) := by
  obtain ⟨locs, kk, n, X, -⟩ := S
  exact Bn (fun t k => XS.tswIn X.here C.1 (g := mkF m pc ls (.int i :: st)) rfl rfl (Cg C hd) rfl hin hoff ho hp k) k
theorem own_tso (C : By p s m meth c Z own cd maxL ret nm) (S : Bo p l e R s m args below meth c n0 T h cells slots) {df lo hi : Int} {offs : Array Int} {len : Nat} {i : Int32} (hd : decode cd pc = .ok (.tableswitch df lo hi offs, len)) (hout : i.toInt < lo ∨ i.toInt > hi) (ho : 0 ≤ (pc : Int) + df) (pc' : Nat) (hp : ((pc : Int) + df).toNat = pc') (k : As p e below En T (mkF m pc' ls st)) : As p e below En T (mkF m pc ls (.int i :: st)) := by
  obtain ⟨locs, kk, n, X, -⟩ := S
  exact Bn (fun t k => XS.tswOut X.here C.1 (g := mkF m pc ls (.int i :: st)) rfl rfl (Cg C hd) rfl hout ho hp k) k
theorem Fl {t : FieldType} (C : By p s m meth c Z own cd maxL (some t) nm) (S : Bo p l e R s m args below meth c n0 T h cells slots) {i : Instr} {w : Value} (hd : decode cd pc = .ok (i, 1)) (hn : narrow t w = w)
    (hi : (i = .ireturn ∧ (t = .int ∨ t = .boolean ∨ t = .byte ∨ t = .char ∨ t = .short) ∧ ∃ z, w = .int z) ∨ (i = .lreturn ∧ t = .long ∧ ∃ z, w = .long z) ∨ (i = .dreturn ∧ t = .double ∧ ∃ z, w = .double z) ∨ (i = .freturn ∧ t = .float ∧ ∃ z, w = .float z) ∨ (i = .areturn ∧ t.isReference = true ∧ w.isRef = true))
    (hc : cells ≤ kc) (hs : slots ≤ ks) (hF : F (some w) h) : As p e below (Eb s n0 F kc ks) T (mkF m pc ls (w :: st)) := by
  obtain ⟨locs, kk, nn, X, eT, N, q1, q2⟩ := S
  obtain ⟨fs, hr, hrun, hended, hW, hsame⟩ := X.leave (v := some w) (fun q => by rw [C.2.2.2.2.2.1] at q; cases q) C.2.2.2.2.2.2.1
  refine ⟨_, _, retOut X C.1 C.2.2.2.2.2.1 hn hi (Cg C hd) hr, hrun, hended, _, _, rfl, ⟨?_, N⟩, ⟨_, rfl⟩, hW, hsame.mono (Nat.le_trans q1 hc) (Nat.le_trans q2 hs)⟩
  show F (some w) T.heap
  rw [eT]; exact hF
theorem Bq (C : By p s m meth c Z own cd maxL (some .int) nm) (S : Bo p l e R s m args below meth c n0 T h cells slots) {z : Int32} (hd : decode cd pc = .ok (.ireturn, 1)) (hc : cells ≤ kc) (hs : slots ≤ ks) (hF : F (some (.int z)) h) : As p e below (Eb s n0 F kc ks) T (mkF m pc ls (.int z :: st)) :=
  Fl C S hd rfl (Or.inl ⟨rfl, Or.inl rfl, z, rfl⟩) hc hs hF
theorem own_retZ (C : By p s m meth c Z own cd maxL (some .boolean) nm) (S : Bo p l e R s m args below meth c n0 T h cells slots) {z : Int32} (hd : decode cd pc = .ok (.ireturn, 1)) (hz : z &&& 1 = z) (hc : cells ≤ kc) (hs : slots ≤ ks) (hF : F (some (.int z)) h) : As p e below (Eb s n0 F kc ks) T (mkF m pc ls (.int z :: st)) :=
  Fl C S hd (by show Value.int (z &&& 1) = _; rw [hz]) (Or.inl ⟨rfl, Or.inr (Or.inl rfl), z, rfl⟩) hc hs hF
theorem Ds (C : By p s m meth c Z own cd maxL (some .char) nm) (S : Bo p l e R s m args below meth c n0 T h cells slots) {z : Int32} (hd : decode cd pc = .ok (.ireturn, 1)) (hz : z.toUInt32.toUInt16.toUInt32.toInt32 = z) (hc : cells ≤ kc) (hs : slots ≤ ks) (hF : F (some (.int z)) h) : As p e below (Eb s n0 F kc ks) T (mkF m pc ls (.int z :: st)) :=
  Fl C S hd (by show Value.int (z.toUInt32.toUInt16.toUInt32.toInt32) = _; rw [hz]) (Or.inl ⟨rfl, by simp, z, rfl⟩) hc hs hF
theorem Az {t : FieldType} (C : By p s m meth c Z own cd maxL (some t) nm) (S : Bo p l e R s m args below meth c n0 T h cells slots) {w : Value} (ht : t.isReference = true) (hr : w.isRef = true) (hd : decode cd pc = .ok (.areturn, 1)) (hc : cells ≤ kc) (hs : slots ≤ ks) (hF : F (some w) h) : As p e below (Eb s n0 F kc ks) T (mkF m pc ls (w :: st)) :=
  Fl C S hd (by cases w <;> simp [Value.isRef] at hr <;> cases t <;> first | rfl | (simp [FieldType.isReference] at ht)) (by simp [ht, hr]) hc hs hF
theorem Ct (C : By p s m meth c Z own cd maxL none nm) (S : Bo p l e R s m args below meth c n0 T h cells slots) (hd : decode cd pc = .ok (.return_, 1)) (hc : cells ≤ kc) (hs : slots ≤ ks) (hF : F none h) : As p e below (Eb s n0 F kc ks) T (mkF m pc ls []) := by
  obtain ⟨locs, kk, nn, X, eT, N, q1, q2⟩ := S
  obtain ⟨fs, hr, hrun, hended, hW, hsame⟩ := X.leave (v := none) (fun _ => rfl) C.2.2.2.2.2.2.1
  refine ⟨_, _, X.returnOut C.1 C.2.2.2.2.2.1 (Cg C hd) hr, hrun, hended, _, _, rfl, ⟨?_, N⟩, ⟨_, rfl⟩, hW, hsame.mono (Nat.le_trans q1 hc) (Nat.le_trans q2 hs)⟩
  show F none T.heap
  rw [eT]; exact hF
def Af (l : Launch) (Z : State) (y : MethodName) (cd : ByteArray) (maxL : Nat) (ret : Option FieldType) (rm : Room) (n0 : Nat) (as' : Array Value) (h0 : Heap) (Q : Option Value → Heap → Prop) : Prop :=
  ∀ ws, MetFree l y (head1 (Jvm.Cond.code y cd maxL ret :: ws) rm) (fun a U => a = as' ∧ Z.Warmed39 U.vm ∧ U.heap = h0) (fun _ _ _ _ _ => True) (fun _ U o U' => ∃ v L, o = .returned v ∧ (Q v U'.heap ∧ Fr n0 L) ∧ FrameEnd U o U' L rm.cells rm.slots)
theorem own_met {y : MethodName} {rm : Room} {as' : Array Value} {h0 : Heap} {Q : Option Value → Heap → Prop} (hp : plainFor y = true) (ls : Array Slot) (hef : ∀ m, entryFrame m as' maxL = mkF m 0 ls [])
    (H : ∀ (p : Program) (e : Env) (s : State) (m : MethodId) (below : List Frame) (meth : Method) (c : Code) (T : State), By p s m meth c Z y.cls cd maxL ret y.name → Bo p l e rm s m as' below meth c n0 T h0 0 0 → As p e below (Eb s n0 Q rm.cells rm.slots) T (mkF m 0 ls [])) : Af l Z y cd maxL ret rm n0 as' h0 Q := by
  intro ws
  refine MetFree.of_bodySF hp hisR ?_
  intro p e s m args below meth c s₁ Bd hml hP hK
  obtain ⟨rfl, hZ, hh⟩ := hP
  have e0 : s₁.heap = h0 := by rw [← hh, Bd.state]; rfl
  have G := H p e s m below meth c s₁ ⟨Bd.exec, Bd.bytes, hml, findClass_of_methodNamed Bd.named, (name_of_methodNamed Bd.named Bd.method).1, Bd.returns, BodyLoose.notSynchronized Bd, hZ⟩ ⟨_, _, _, Stand.of_body Bd, e0, Fr.nil n0, Nat.le_refl _, Nat.le_refl _⟩
  rw [← hef m] at G
  exact G
/-- who pays a call -/
abbrev Fm (l : Launch) (R : Room) (p : Program) (e : Env) (below : List Frame) (s : State) (args : Array Value) (y : MethodName) (len W : Nat) (as' : Array Value) (h : Heap) (k1 k2 : Nat) (Q : Option Value → Heap → List Loc → Prop) : Prop :=
  Back l R p e below s args y len W (fun P a => a = as' ∧ P.U.heap = h ∧ P.cells + k1 ≤ R.cells ∧ P.slots + k2 ≤ R.slots) (fun P _ v B => ∃ L, Q v B.U.heap L ∧ B.locs = P.locs ++ L ∧ B.cells = P.cells + k1 ∧ B.slots = P.slots + k2)
theorem Af.pay {y : MethodName} {cdy : ByteArray} {maxy : Nat} {rety : Option FieldType} {rm : Room} {as' : Array Value} {Q : Option Value → Heap → Prop} (M : Af l Z y cdy maxy rety rm n0 as' h Q) (C : By p s m meth c Z own cd maxL ret nm) {len : Nat} (W : Nat) (wc : (Jvm.Cond.code y cdy maxy rety).before a0 Z = true) (wz : (Jvm.Cond.initialized y.cls).before a0 Z = true) (hf : rm.frames + 1 ≤ R.frames) (hl : W + (maxy + 11) + rm.locals ≤ R.locals) :
    Fm l R p e below s args y len W as' h rm.cells rm.slots (fun v h' L => Q v h' ∧ Fr n0 L) := backOf (Q := fun v h' L => Q v h' ∧ Fr n0 L) (M []) C.2.2.2.2.2.2.2 wc wz hf hl
theorem own_callS (C : By p s m meth c Z own cd maxL ret nm) (S : Bo p l e R s m args below meth c n0 T h cells slots) {y : MethodName} {index : Nat} {cdy : ByteArray} {maxy : Nat} {rety : Option FieldType} {W k1 k2 : Nat} {as' : Array Value} {Q : Option Value → Heap → List Loc → Prop}
    (w1 : (Jvm.Cond.methodLink own index y).before a0 Z = true) (w2 : (Jvm.Cond.static y).before a0 Z = true) (w3 : (Jvm.Cond.initialized y.cls).before a0 Z = true) (w4 : (Jvm.Cond.code y cdy maxy rety).before a0 Z = true) (hy : y.cls ≠ "java/lang/invoke/MethodHandle" ∧ y.cls ≠ "java/lang/invoke/VarHandle")
    (hK : Fm l R p e below s args y 3 W as' h k1 k2 Q) (hfr : ∀ v h' L, Q v h' L → Fr n0 L) (argsL rest : List Value) {ps : List FieldType} {rr : Option FieldType} (has : argsL.toArray = as') (hpd : parseMethodDescriptor y.desc = some ⟨ps, rr⟩) (hlen : argsL.length = ps.length) (hstk : st = argsL.reverse ++ rest) (hsz : ls.size = maxL) (hW : (rest.map fun v => v.category).sum ≤ W)
    (hc : cells + k1 ≤ R.cells) (hs : slots + k2 ≤ R.slots) (hd : decode cd pc = .ok (.invokestatic index, 3))
    (k : ∀ T' h' v L, Bo p l e R s m args below meth c n0 T' h' (cells + k1) (slots + k2) → Q v h' L → As p e below En T' (mkF m (pc + 3) ls (v.toList ++ rest))) : As p e below En T (mkF m pc ls st) := by
  obtain ⟨locs, kk, nn, X, eT, N, q1, q2⟩ := S
  have hZ := C.2.2.2.2.2.2.2
  obtain ⟨v, vm1, B, -, X', ⟨L, hQ, l1, l2, l3⟩, stp⟩ := Jvm.LawKit.callS X C.1 C.2.2.2.1 (mvT hZ w1) (mvT hZ w2) (mvT hZ w3) (mvT hZ w4) hy hK (g := mkF m pc ls st) rfl (Fa C hsz) (argsL := argsL) (rest := rest) (lenOf hpd hlen) hstk (by show 2 * 0 + _ ≤ W; omega) (Cg C hd) (fun _ _ => ⟨has, eT, by show kk + k1 ≤ _; omega, by show nn + k2 ≤ _; omega⟩)
  refine Bn stp (k B.U _ v L ⟨B.locs, B.cells, B.slots, X', rfl, ?_, ?_, ?_⟩ hQ)
  · rw [l1]; exact Fr.app N (hfr _ _ _ hQ)
  · rw [l2]; show kk + k1 ≤ _; omega
  · rw [l3]; show nn + k2 ≤ _; omega
theorem Cs (C : By p s m meth c Z own cd maxL ret nm) (S : Bo p l e R s m args below meth c n0 T h cells slots) {y : MethodName} {index : Nat} {cdy : ByteArray} {maxy : Nat} {W k1 k2 : Nat} {as' : Array Value} {Q : Option Value → Heap → List Loc → Prop}
    (hy1 : y.name = "<init>") (w1 : (Jvm.Cond.methodLink own index y).before a0 Z = true) (w2 : (Jvm.Cond.instanceMethod y).before a0 Z = true) (w4 : (Jvm.Cond.code y cdy maxy none).before a0 Z = true) (hy : y.cls ≠ "java/lang/invoke/MethodHandle" ∧ y.cls ≠ "java/lang/invoke/VarHandle")
    (hK : Fm l R p e below s args y 3 W as' h k1 k2 Q) (hfr : ∀ v h' L, Q v h' L → Fr n0 L) {a : Addr} (argsL rest : List Value) {ps : List FieldType} {rr : Option FieldType} (has : (.ref a :: argsL).toArray = as') (hpd : parseMethodDescriptor y.desc = some ⟨ps, rr⟩) (hlen : argsL.length = ps.length) (hstk : st = argsL.reverse ++ .ref a :: rest) (hsz : ls.size = maxL) (hW : (rest.map fun v => v.category).sum ≤ W)
    (hc : cells + k1 ≤ R.cells) (hs : slots + k2 ≤ R.slots) (hd : decode cd pc = .ok (.invokespecial index, 3))
    (k : ∀ T' h' v L, Bo p l e R s m args below meth c n0 T' h' (cells + k1) (slots + k2) → Q v h' L → As p e below En T' (mkF m (pc + 3) ls (v.toList ++ rest))) : As p e below En T (mkF m pc ls st) := by
  obtain ⟨locs, kk, nn, X, eT, N, q1, q2⟩ := S
  have hZ := C.2.2.2.2.2.2.2
  obtain ⟨v, vm1, B, -, X', ⟨L, hQ, l1, l2, l3⟩, stp⟩ := X.specialBack C.1 hy1 C.2.2.2.1 (mvT hZ w1) (mvT hZ w2) (mvT hZ w4) hy hK (g := mkF m pc ls st) rfl (Fa C hsz) (Steps.refl _) (a := a) (argsL := argsL) (rest := rest) (lenOf hpd hlen) hstk (by show 2 * 0 + _ ≤ W; omega) (Cg C hd) (fun _ _ => ⟨has, eT, by show kk + k1 ≤ _; omega, by show nn + k2 ≤ _; omega⟩)
  refine Bn (fun t k => stp.trans k) (k B.U _ v L ⟨B.locs, B.cells, B.slots, X', rfl, ?_, ?_, ?_⟩ hQ)
  · rw [l1]; exact Fr.app N (hfr _ _ _ hQ)
  · rw [l2]; show kk + k1 ≤ _; omega
  · rw [l3]; show nn + k2 ≤ _; omega
theorem own_nf {args : Array Value} {s : State} {C : String} {y y' : MethodName} (hyc : y'.cls = y.cls) (hsel : (Jvm.Cond.selects C y' y').before args s = true) : NotFace s y := fun r0 h0 => by
  obtain ⟨c2, r2, m2, q1, q2, q3, q4, kP, hkP, hkPi⟩ := Cond.selects_spec hsel
  have e1 := findClass_of_methodNamed h0
  have e2 := findClass_of_methodNamed q3
  rw [hyc, e1] at e2
  rw [Option.some.inj e2]
  exact ⟨kP, hkP, hkPi⟩
theorem own_callV (C : By p s m meth c Z own cd maxL ret nm) (S : Bo p l e R s m args below meth c n0 T h cells slots) {y z : MethodName} {Cl : String} {index : Nat} {W k1 k2 : Nat} {as' : Array Value} {Q : Option Value → Heap → List Loc → Prop}
    (w1 : (Jvm.Cond.methodLink own index y).before a0 Z = true) (w2 : (Jvm.Cond.declares y).before a0 Z = true) (w3 : (Jvm.Cond.selects Cl y z).before a0 Z = true) {Cl' : String} {y' : MethodName} (w3' : (Jvm.Cond.selects Cl' y' y').before a0 Z = true) (hyc : y'.cls = y.cls) (w4 : (Jvm.Cond.instanceMethod z).before a0 Z = true) (hy : y.cls ≠ "java/lang/invoke/MethodHandle" ∧ y.cls ≠ "java/lang/invoke/VarHandle")
    (hK : Fm l R p e below s args z 3 W as' h k1 k2 Q) (hfr : ∀ v h' L, Q v h' L → Fr n0 L) {a : Addr} (E : Exa Z h a Cl) (argsL rest : List Value) {ps : List FieldType} {rr : Option FieldType} (has : (.ref a :: argsL).toArray = as') (hpd : parseMethodDescriptor y.desc = some ⟨ps, rr⟩) (hlen : argsL.length = ps.length) (hstk : st = argsL.reverse ++ .ref a :: rest) (hsz : ls.size = maxL) (hW : (rest.map fun v => v.category).sum ≤ W)
    (hc : cells + k1 ≤ R.cells) (hs : slots + k2 ≤ R.slots) (hd : decode cd pc = .ok (.invokevirtual index, 3))
    (k : ∀ T' h' v L, Bo p l e R s m args below meth c n0 T' h' (cells + k1) (slots + k2) → Q v h' L → As p e below En T' (mkF m (pc + 3) ls (v.toList ++ rest))) : As p e below En T (mkF m pc ls st) := by
  obtain ⟨locs, kk, nn, X, eT, N, q1, q2⟩ := S
  have hZ := C.2.2.2.2.2.2.2
  obtain ⟨cq, kq, qa, qb, qc⟩ := isOf (T := T) hZ eT E
  obtain ⟨v, vm1, B, -, X', ⟨L, hQ, l1, l2, l3⟩, stp⟩ := X.virtualBack C.1 C.2.2.2.1 (mvT hZ w1) (mvT hZ w2) (own_nf (args := #[]) hyc (mvT hZ w3')) (mvT hZ w3) (mvT hZ w4) hy hK qa qc (g := mkF m pc ls st) rfl (Fa C hsz) (Steps.refl _) (argsL := argsL) (rest := rest) (lenOf hpd hlen) hstk (by show 2 * 0 + _ ≤ W; omega) (Cg C hd) (fun _ _ => ⟨has, eT, by show kk + k1 ≤ _; omega, by show nn + k2 ≤ _; omega⟩)
  refine Bn (fun t k => stp.trans k) (k B.U _ v L ⟨B.locs, B.cells, B.slots, X', rfl, ?_, ?_, ?_⟩ hQ)
  · rw [l1]; exact Fr.app N (hfr _ _ _ hQ)
  · rw [l2]; show kk + k1 ≤ _; omega
  · rw [l3]; show nn + k2 ≤ _; omega
theorem Co (C : By p s m meth c Z own cd maxL ret nm) (S : Bo p l e R s m args below meth c n0 T h cells slots) {y : MethodName} {index : Nat} {cdy : ByteArray} {maxy : Nat} {rety : Option FieldType} {W k1 k2 : Nat} {as' : Array Value} {Q : Option Value → Heap → List Loc → Prop}
    (w1 : (Jvm.Cond.methodLink own index y).before a0 Z = true) (w2 : (Jvm.Cond.instanceMethod y).before a0 Z = true) (w3 : (Jvm.Cond.selects y.cls y y).before a0 Z = true) (w4 : (Jvm.Cond.privateMethod y).before a0 Z = true) (w5 : (Jvm.Cond.code y cdy maxy rety).before a0 Z = true) (hy : y.cls ≠ "java/lang/invoke/MethodHandle" ∧ y.cls ≠ "java/lang/invoke/VarHandle")
    (hK : Fm l R p e below s args y 3 W as' h k1 k2 Q) (hfr : ∀ v h' L, Q v h' L → Fr n0 L) {a : Addr} {Cl : String} (E : Exa Z h a Cl) (argsL rest : List Value) {ps : List FieldType} {rr : Option FieldType} (has : (.ref a :: argsL).toArray = as') (hpd : parseMethodDescriptor y.desc = some ⟨ps, rr⟩) (hlen : argsL.length = ps.length) (hstk : st = argsL.reverse ++ .ref a :: rest) (hsz : ls.size = maxL) (hW : (rest.map fun v => v.category).sum ≤ W)
    (hc : cells + k1 ≤ R.cells) (hs : slots + k2 ≤ R.slots) (hd : decode cd pc = .ok (.invokevirtual index, 3))
    (k : ∀ T' h' v L, Bo p l e R s m args below meth c n0 T' h' (cells + k1) (slots + k2) → Q v h' L → As p e below En T' (mkF m (pc + 3) ls (v.toList ++ rest))) : As p e below En T (mkF m pc ls st) := by
  obtain ⟨locs, kk, nn, X, eT, N, q1, q2⟩ := S
  have hZ := C.2.2.2.2.2.2.2
  obtain ⟨cl, hcl, hns⟩ := E.cell
  obtain ⟨v, vm1, B, -, X', ⟨L, hQ, l1, l2, l3⟩, stp⟩ := X.privateBack C.1 C.2.2.2.1 (mvT hZ w1) (mvT hZ w2) (mvT hZ w3) (Cond.privateMethod_at (mvP (args := args) hZ w4)) (mvT hZ w5) hy hK (g := mkF m pc ls st) rfl (Fa C hsz) (Steps.refl _) (a := a) (cell := cl) (by rw [eT]; exact hcl) hns (argsL := argsL) (rest := rest) (lenOf hpd hlen) hstk (by show 2 * 0 + _ ≤ W; omega) (Cg C hd) (fun _ _ => ⟨has, eT, by show kk + k1 ≤ _; omega, by show nn + k2 ≤ _; omega⟩)
  refine Bn (fun t k => stp.trans k) (k B.U _ v L ⟨B.locs, B.cells, B.slots, X', rfl, ?_, ?_, ?_⟩ hQ)
  · rw [l1]; exact Fr.app N (hfr _ _ _ hQ)
  · rw [l2]; show kk + k1 ≤ _; omega
  · rw [l3]; show nn + k2 ≤ _; omega
/-- System.arraycopy over arrays of one plain kind -/
theorem Fn (C : By p s m meth c Z own cd maxL ret nm) (S : Bo p l e R s m args below meth c n0 T h cells slots) {index : Nat} (w1 : (Jvm.Cond.methodLink own index Jvm.Stand.acN).before a0 Z = true) (w2 : (Jvm.Cond.native Jvm.Stand.acN).before a0 Z = true) (w3 : (Jvm.Cond.static Jvm.Stand.acN).before a0 Z = true) (w4 : (Jvm.Cond.initialized "java/lang/System").before a0 Z = true)
    {a b : Addr} {ka kb : ClassId} {ty : FieldType} {z z' sp dp nn : Int32} {vs vd : List Value} {dv dd : Value} (A : Arv Z h a ka ty z vs dv) (B : Arv Z h b kb ty z' vd dd) (hty : refKind ty = false) (h1 : ¬ sp < 0) (h2 : ¬ dp < 0) (h3 : ¬ nn < 0) (h4 : sp.toNatClampNeg + nn.toNatClampNeg ≤ z.toNatClampNeg) (h5 : dp.toNatClampNeg + nn.toNatClampNeg ≤ z'.toNatClampNeg) (hl : dp.toNatClampNeg + nn.toNatClampNeg ≤ vd.length) (ge : n0 ≤ b)
    (us : List Value) (hus : vd.take dp.toNatClampNeg ++ ((List.range nn.toNatClampNeg).map fun i => vs.getD (sp.toNatClampNeg + i) dv) ++ vd.drop (dp.toNatClampNeg + nn.toNatClampNeg) = us) (hsz : ls.size = maxL) (hd : decode cd pc = .ok (.invokestatic index, 3)) (hf : 1 ≤ R.frames) (W : Nat) (hW : (st.map fun v => v.category).sum ≤ W) (hlo : W + (nativeFrameWords "java/lang/System" "arraycopy" 5 + 11) ≤ R.locals)
    (k : ∀ T' h', Bo p l e R s m args below meth c n0 T' h' cells slots → Keep h h' [b] → Arv Z h' b kb ty z' us dd → As p e below En T' (mkF m (pc + 3) ls st)) : As p e below En T (mkF m pc ls (.int nn :: .int dp :: .ref b :: .int sp :: .ref a :: st)) := by
  obtain ⟨locs, kk, nn', X, eT, N, q1, q2⟩ := S
  obtain ⟨T', h', L, X', e', N', K, B', stp⟩ := cpA X C.1 C.2.2.2.2.2.2.2 C.2.2.2.1 w1 w2 w3 w4 eT A B (Or.inl ⟨rfl, hty⟩) h1 h2 h3 h4 h5 rfl hl N ge (g := mkF m pc ls (.int nn :: .int dp :: .ref b :: .int sp :: .ref a :: st)) rfl (Fa C hsz) rfl (Cg C hd) hf (W := W) (by show 2 * 0 + _ ≤ W; omega) hlo
  rw [hus] at B'
  exact Bn stp (k T' h' ⟨_, _, _, X', e', N', q1, q2⟩ K B')
/-- ireturn of a byte -/
theorem Ee (C : By p s m meth c Z own cd maxL (some .byte) nm) (S : Bo p l e R s m args below meth c n0 T h cells slots) {z : Int32} (hd : decode cd pc = .ok (.ireturn, 1)) (hz : z.toInt8.toInt32 = z) (hc : cells ≤ kc) (hs : slots ≤ ks) (hF : F (some (.int z)) h) : As p e below (Eb s n0 F kc ks) T (mkF m pc ls (.int z :: st)) :=
  Fl C S hd (by show Value.int (z.toInt8.toInt32) = _; rw [hz]) (Or.inl ⟨rfl, by simp, z, rfl⟩) hc hs hF
theorem own_refne {a b : Addr} (h : a ≠ b) (q : (Value.ref a) = .ref b) : False := h (Value.ref.inj q)
/-- newarray, with the array's class by name -/
theorem Cp (C : By p s m meth c Z own cd maxL ret nm) (S : Bo p l e R s m args below meth c n0 T h cells slots) {aty : ArrayType} {ad : String} (had : "[" ++ (newarray.typeOf aty).toString = ad) (w : (Jvm.Cond.arrayClass (newarray.typeOf aty)).before a0 Z = true) (hd : decode cd pc = .ok (.newarray aty, 2)) {n : Int32} (hn : ¬ n < 0) (cap : Nat) (hcap : n.toNatClampNeg ≤ cap) (hb : cap * 8 ≤ 536870912) (hc : cells + 1 ≤ R.cells) (hl : slots + cap ≤ R.slots)
    (k : ∀ T' h' a cA, Bo p l e R s m args below meth c n0 T' h' (cells + 1) (slots + cap) → a = h.size → Ext h h' → Arv Z h' a cA (newarray.typeOf aty) n [] (defaultValue (newarray.typeOf aty)) → Exa Z h' a ad → As p e below En T' (mkF m (pc + 2) ls (.ref a :: st))) : As p e below En T (mkF m pc ls (.int n :: st)) := by
  obtain ⟨locs, kk, nn, X, eT, N, q1, q2⟩ := S
  obtain ⟨T', h', cA, X', e', E, A, B, stp⟩ := newPE X C.1 C.2.2.2.2.2.2.2 w eT (g := mkF m pc ls (.int n :: st)) rfl (Cg C hd) rfl hn hcap hb (by omega) (by omega) had
  exact Bn stp (k T' h' _ cA ⟨_, _, _, X', e', N, by omega, by omega⟩ rfl E (Arv.new A hn) B)
/-- clone() of an array -/
theorem own_clone (C : By p s m meth c Z own cd maxL ret nm) (S : Bo p l e R s m args below meth c n0 T h cells slots) {index : Nat} {ad : String} (w1 : (Jvm.Cond.methodLink own index ⟨ad, "clone", "()Ljava/lang/Object;"⟩).before a0 Z = true) (w2 : (Jvm.Cond.sameMethod ad "java/lang/Object" "clone" "()Ljava/lang/Object;").before a0 Z = true) (w3 : (Jvm.Cond.native ⟨"java/lang/Object", "clone", "()Ljava/lang/Object;"⟩).before a0 Z = true)
    (w4 : (Jvm.Cond.instanceMethod ⟨"java/lang/Object", "clone", "()Ljava/lang/Object;"⟩).before a0 Z = true) (w5 : (Jvm.Cond.selects ad ⟨ad, "clone", "()Ljava/lang/Object;"⟩ ⟨"java/lang/Object", "clone", "()Ljava/lang/Object;"⟩).before a0 Z = true) (w6 : (Jvm.Cond.castable ad "java/lang/Cloneable").before a0 Z = true)
    {a : Addr} {ka : ClassId} {ty : FieldType} {z : Int32} {vs : List Value} {dv : Value} (A : Arv Z h a ka ty z vs dv) (E : Exa Z h a ad) (hsz : ls.size = maxL) (hd : decode cd pc = .ok (.invokevirtual index, 3)) (hf : 1 ≤ R.frames) (W cap : Nat) (hW : (st.map fun v => v.category).sum ≤ W) (hl : W + 14 ≤ R.locals) (hcap : z.toNatClampNeg ≤ cap) (hc : cells + 1 ≤ R.cells) (hsl : slots + cap ≤ R.slots)
    (k : ∀ T' h' b, Bo p l e R s m args below meth c n0 T' h' (cells + 1) (slots + cap) → b = h.size → Ext h h' → Arv Z h' b ka ty z vs dv → Exa Z h' b ad → As p e below En T' (mkF m (pc + 3) ls (.ref b :: st))) : As p e below En T (mkF m pc ls (.ref a :: st)) := by
  obtain ⟨locs, kk, nn, X, eT, N, q1, q2⟩ := S
  obtain ⟨T', h', X', e', Ex, A', E', stp⟩ := cloneH X C.1 C.2.2.2.2.2.2.2 C.2.2.2.1 w1 w2 w3 w4 w5 w6 eT A.arh E (g := mkF m pc ls (.ref a :: st)) rfl (Fa C hsz) rfl (Cg C hd) hf (W := W) (cap := cap) (by show 2 * 0 + _ ≤ W; omega) hl hcap (by omega) (by omega)
  exact Bn stp (k T' h' _ ⟨_, _, _, X', e', N, by omega, by omega⟩ rfl Ex A' E')
end OwnKit

section OwnKitW
open Jvm.Free.SB Jvm.Free.SBG
variable {p : Program} {l : Launch} {e : Env} {R : Room} {s : State} {m : MethodId} {args : Array Value} {below : List Frame} {meth : Method} {c : Code} {T : State} {locs : List Loc} {cells slots : Nat} {Z : State} {a0 : Array Value} {h : Heap} {own : String} {cd : ByteArray} {maxL : Nat} {ret : Option FieldType} {nm : String} {n0 : Nat} {F : Option Value → Heap → Prop} {kc ks : Nat} {En : Outcome → State → Prop} {pc : Nat} {ls : Array Slot} {st : List Value} {EL : List (String × Nat)} {G : List Addr}
def Em (s : State) (n0 : Nat) (Z : State) (EL : List (String × Nat)) (F : Option Value → Heap → Prop) (kc ks : Nat) (o : Outcome) (s₂ : State) : Prop :=
  ∃ v L, o = .returned v ∧ (F v s₂.heap ∧ Fr n0 L) ∧ CHr Z EL s.vm s.heap s₂.vm s₂.heap ∧ ReturnedEndW s o s₂ L kc ks
def Dt (p : Program) (meth : Method) (c : Code) (Z : State) (a0 : Array Value) (EL : List (String × Nat)) (cd : ByteArray) (maxL : Nat) (ret : Option FieldType) (nm : String) : Prop :=
  p.tables.exec = Jvm.exec ∧ c.code = cd ∧ c.maxLocals = maxL ∧ meth.name = nm ∧ meth.sig.returnType = ret ∧ meth.locks = false ∧ EW Z a0 EL ∧ ∀ a ∈ Bundle.stringAtoms, a.before a0 Z = true
def Dk (p : Program) (l : Launch) (e : Env) (R : Room) (s : State) (m : MethodId) (args : Array Value) (below : List Frame) (meth : Method) (c : Code) (n0 : Nat) (Z : State) (EL : List (String × Nat)) (own : String) (T : State) (h : Heap) (G : List Addr) (cells slots : Nat) : Prop :=
  ∃ vm0 k0, Bo p l e R (s.setVm vm0) m args below meth c n0 T h cells slots ∧ s.Since vm0 k0 ∧ k0 ≤ h.size ∧ Z.Warmed39 vm0 ∧ vm0.findClass own = some m.cls ∧ CHr Z EL s.vm s.heap vm0 h ∧ ∀ x ∈ G, x < h.size ∧ Safe Z EL vm0 h x
/-- between two loads the walk is a narrow one, over the start with the tables at hand; 'rb' leads back -/
theorem Av (C : Dt p meth c Z a0 EL cd maxL ret nm) (S : Dk p l e R s m args below meth c n0 Z EL own T h G cells slots) {g : JFrame}
    (k : ∀ vm0, By p (s.setVm vm0) m meth c Z own cd maxL ret nm → Bo p l e R (s.setVm vm0) m args below meth c n0 T h cells slots →
      (∀ T' h' c' s' ws N, Bo p l e R (s.setVm vm0) m args below meth c n0 T' h' c' s' → Keep h h' ws → (∀ x ∈ ws, x ∈ G) → (∀ x ∈ N, h.size ≤ x ∧ x < h'.size) → Dk p l e R s m args below meth c n0 Z EL own T' h' (N ++ G) c' s') → As p e below En T g) : As p e below En T g := by
  obtain ⟨vm0, k0, S0, hS, hk, hZ, ho, hC, hG⟩ := S
  refine k vm0 ⟨C.1, C.2.1, C.2.2.1, ho, C.2.2.2.1, C.2.2.2.2.1, C.2.2.2.2.2.1, hZ⟩ S0 fun T' h' c' s' ws N S' K hws hN => ?_
  have hs : ∀ x ∈ ws, Safe Z EL vm0 h x := fun x hx => (hG x (hws x hx)).2
  refine ⟨vm0, k0, S', hS, Nat.le_trans hk K.1, hZ, ho, hC.trans (CHr.keep K hs hC.1), fun x hx => ?_⟩
  rcases List.mem_append.mp hx with hx | hx
  · exact ⟨(hN x hx).2, Safe.keep K hs hC.1 (Safe.new (hN x hx).1)⟩
  · exact ⟨Nat.lt_of_lt_of_le (hG x hx).1 K.1, Safe.keep K hs hC.1 (hG x hx).2⟩
/-- the array of a String constant is a byte[] -/
theorem own_litB {vm : Vm} {own : String} {index : Nat} {u : Array UInt16} {a b : Addr} {kb : ClassId} {z : Int32} {vs : List Value} {dv : Value} (hal : Z.vm.Alike vm) (H : CHv Z EL vm h) (hmem : (own, index) ∈ EL) (hB : Booksv vm own index u a) (V : Fld Z h a "java/lang/String" "value" "[B" (.ref b)) (A : Arv Z h b kb .byte z vs dv) : Exa Z h b "[B" := by
  obtain ⟨q, rfl, F⟩ := SlB.of (H _ hmem u a hB)
  have hd := F.hd
  have ha := F.ha
  obtain ⟨cS, ⟨⟨-, -, -, ⟨c1, k1, i1, f1, -⟩, -, -, -, v1, -⟩, -⟩, -, hb, -⟩ := F
  obtain ⟨cell, cf, k, i, f, e1, e2, -, -, -, -, e3⟩ := V
  have ec : cell = q.sC := Option.some.inj (e1.symm.trans ha)
  obtain ⟨k', z4⟩ := ff_back (U := Wst Z vm h) hal f1
  have e4 := e2.symm.trans z4
  simp only [Option.some.injEq, Prod.mk.injEq] at e4
  rw [ec, e4.2.2.2, v1] at e3
  have eb : q.sd = b := by simpa using e3
  subst eb
  obtain ⟨cl, A0, -⟩ := A
  have ecl : cl = q.SA := Option.some.inj (A0.1.symm.trans hd)
  have hst := A0.plain
  obtain ⟨-, k9, hk9, comp, hkind⟩ := A0.2.1
  refine ⟨cl, k9, A0.1, ?_, hk9, hst, fun q => by rw [hkind] at q; cases q⟩
  rw [ecl, ← hal.findClass]; exact hb
theorem own_books {vm : Vm} {own text : String} {index : Nat} {a : Addr} {mc : ClassId} (hW : Z.Warmed39 vm) (ho : vm.findClass own = some mc) (w : (Jvm.Cond.stringLink own index text).before a0 Z = true) (L : Lit (s.setVm vm) own index a) : ∃ u, Booksv vm own index u a := by
  obtain ⟨k0, cf, i, u, h1, h2, h3, h4, -⟩ := Cond.stringLink_spec (args := a0) (s := Wst Z vm Z.heap) ho (mvS (s := Wst Z vm Z.heap) (args := a0) hW w)
  have h1' : vm.classes[mc]? = some k0 := h1
  have q : (s.setVm vm).resolvedAt? own index = some (.string a) := L
  simp only [State.resolvedAt?, Option.bind_eq_bind] at q
  rw [show (s.setVm vm).vm.findClass own = some mc from ho] at q
  simp only [Option.bind_some] at q
  rw [show (s.setVm vm).vm.classes[mc]? = some k0 from h1'] at q
  simp only [Option.bind_some] at q
  refine ⟨u, mc, k0, cf, i, ho, h1', h2, h3, h4, Or.inl ?_⟩
  cases hr : k0.resolved[index]? with
  | none => rw [hr] at q; cases q
  | some o => rw [hr] at q; cases o with
    | none => cases q
    | some r => simpa using q
theorem own_ldcWE (C : Dt p meth c Z a0 EL cd maxL ret nm) (S : Dk p l e R s m args below meth c n0 Z EL own T h G cells slots) {index : Nat} {text : String} (w : (Jvm.Cond.stringLink own index text).before a0 Z = true) (hmem : (own, index) ∈ EL) {vs : List Value} {z : Int32} (ht : (∀ c ∈ text.toList, c.toNat < 256) ∧ text.toList.map (fun c => Value.int (Jvm.Lit.byteI c.toNat.toUInt16)) = vs) (hz : ¬ z < 0) (hl : z.toNatClampNeg = vs.length)
    (hd : decode cd pc = .ok (.ldc index, 2)) (n : Nat) (hn : 4 * text.toList.length ≤ n) (hbig : n ≤ 536870912) (hc : cells + 2 ≤ R.cells) (hl' : slots + (n + 4) ≤ R.slots)
    (k : ∀ T' h' a b kb, Dk p l e R s m args below meth c n0 Z EL own T' h' G (cells + 2) (slots + (n + 4)) → Ext h h' → Exa Z h' a "java/lang/String" → Fld Z h' a "java/lang/String" "coder" "B" (.int 0) → Fld Z h' a "java/lang/String" "value" "[B" (.ref b) → Arv Z h' b kb .byte z vs (.int 0) → (∀ x ∈ G, x ≠ a ∧ x ≠ b) → Exa Z h' b "[B" → As p e below En T' (mkF m (pc + 2) ls (.ref a :: st))) : As p e below En T (mkF m pc ls st) := by
  obtain ⟨vm0, k0, ⟨locs, kk, nn, X, eT, N, q1, q2⟩, hS, hk, hZ, ho, hC, hG⟩ := S
  obtain ⟨a, T', h', k1, b, kb, X', e', E, hS', hk', hZ', ho', x1, x2, x3, x4, x5, x6, hC', hL, hne, stp⟩ := ldcCH X C.1 hZ ho w C.2.2.2.2.2.2.2 eT hS hk C.2.2.2.2.2.2.1 hmem hC.1 ht hz hl (g := mkF m pc ls st) rfl (by rw [C.2.1]; exact hd) hn hbig (by omega) (by omega)
  have hG' : ∀ x ∈ G, x < h'.size ∧ Safe Z EL T'.vm h' x := fun x hx => ⟨Nat.lt_of_lt_of_le (hG x hx).1 E.1, hC'.safe (hG x hx).1 (hG x hx).2⟩
  exact Bn stp (k T' h' a b kb ⟨T'.vm, k1, ⟨locs, _, _, X', e', N, by omega, by omega⟩, hS', hk', hZ', ho', hC.trans hC', hG'⟩ E x1 x2 x3 x4 (fun x hx => hne x (hG' x hx).2) (by obtain ⟨u, hB⟩ := own_books (s := s) hZ' ho' w hL; exact own_litB hZ'.alike hC'.1 hmem hB x3 x4))
/-- ldc of any String constant: which text it is isn't said -/
theorem Cu (C : Dt p meth c Z a0 EL cd maxL ret nm) (S : Dk p l e R s m args below meth c n0 Z EL own T h G cells slots) {index : Nat} {text : String} (w : (Jvm.Cond.stringLink own index text).before a0 Z = true)
    (hd : decode cd pc = .ok (.ldc index, 2)) (n : Nat) (hn : 4 * text.toList.length ≤ n) (hbig : n ≤ 536870912) (hc : cells + 2 ≤ R.cells) (hl' : slots + (n + 4) ≤ R.slots)
    (k : ∀ T' h' a, Dk p l e R s m args below meth c n0 Z EL own T' h' G (cells + 2) (slots + (n + 4)) → Ext h h' → As p e below En T' (mkF m (pc + 2) ls (.ref a :: st))) : As p e below En T (mkF m pc ls st) := by
  obtain ⟨vm0, k0, ⟨locs, kk, nn, X, eT, N, q1, q2⟩, hS, hk, hZ, ho, hC, hG⟩ := S
  obtain ⟨a, T', h', k1, X', e', E, hS', hk', hZ', ho', hC', hL, stp⟩ := ldcOH X C.1 hZ ho w C.2.2.2.2.2.2.2 eT hS hk C.2.2.2.2.2.2.1 hC.1 (g := mkF m pc ls st) rfl (by rw [C.2.1]; exact hd) hn hbig (by omega) (by omega)
  have hG' : ∀ x ∈ G, x < h'.size ∧ Safe Z EL T'.vm h' x := fun x hx => ⟨Nat.lt_of_lt_of_le (hG x hx).1 E.1, hC'.safe (hG x hx).1 (hG x hx).2⟩
  exact Bn stp (k T' h' a ⟨T'.vm, k1, ⟨locs, _, _, X', e', N, by omega, by omega⟩, hS', hk', hZ', ho', hC.trans hC', hG'⟩ E)
theorem own_endW (C : Dt p meth c Z a0 EL cd maxL ret nm) (S : Dk p l e R s m args below meth c n0 Z EL own T h G cells slots) {v : Option Value} (hv : meth.sig.returnType = none → v = none) {g : JFrame}
    (hst : ∀ locs kk nn vm0 fs, Stand p l e R (s.setVm vm0) m args below meth c T locs kk nn → (∀ (f : JFrame) (acts : List Action), f.method = m → f.locked = none → f.entered = [] → (doReturn e (T.setTop f) acts v).1 = T.setFrames fs) → Steps p.tables e below (T.setTop g) (T.setFrames fs)) (hc : cells ≤ kc) (hs : slots ≤ ks) (hF : F v h) : As p e below (Em s n0 Z EL F kc ks) T g := by
  obtain ⟨vm0, k0, ⟨locs, kk, nn, X, eT, N, q1, q2⟩, hS, hk, hZ, ho, hC, hG⟩ := S
  obtain ⟨fs, hr, hrun, hended, hret⟩ := X.leaveW hS (by rw [eT]; exact hk) hv C.2.2.2.2.2.1
  refine ⟨_, _, hst locs kk nn vm0 fs X hr, hrun, hended, v, locs, rfl, ⟨?_, N⟩, ?_, ?_⟩
  · show F v T.heap
    rw [eT]; exact hF
  · show CHr Z EL s.vm s.heap T.vm T.heap
    rw [eT]
    exact hC.trans (CHv.at X hZ C.2.2.2.2.2.2.1 hC.1)
  · exact ⟨hret.1, hret.2.1, hret.2.2.1, hret.2.2.2.mono (Nat.le_trans q1 hc) (Nat.le_trans q2 hs)⟩
theorem own_retW {t : FieldType} (C : Dt p meth c Z a0 EL cd maxL (some t) nm) (S : Dk p l e R s m args below meth c n0 Z EL own T h G cells slots) {i : Instr} {w : Value} (hd : decode cd pc = .ok (i, 1)) (hn : narrow t w = w)
    (hi : (i = .ireturn ∧ (t = .int ∨ t = .boolean ∨ t = .byte ∨ t = .char ∨ t = .short) ∧ ∃ z, w = .int z) ∨ (i = .lreturn ∧ t = .long ∧ ∃ z, w = .long z) ∨ (i = .dreturn ∧ t = .double ∧ ∃ z, w = .double z) ∨ (i = .freturn ∧ t = .float ∧ ∃ z, w = .float z) ∨ (i = .areturn ∧ t.isReference = true ∧ w.isRef = true))
    (hc : cells ≤ kc) (hs : slots ≤ ks) (hF : F (some w) h) : As p e below (Em s n0 Z EL F kc ks) T (mkF m pc ls (w :: st)) :=
  own_endW C S (fun q => by rw [C.2.2.2.2.1] at q; cases q) (fun locs kk nn vm0 fs X hr => retOut X C.1 C.2.2.2.2.1 hn hi (by rw [C.2.1]; exact hd) hr) hc hs hF
theorem Da (C : Dt p meth c Z a0 EL cd maxL (some .boolean) nm) (S : Dk p l e R s m args below meth c n0 Z EL own T h G cells slots) {z : Int32} (hd : decode cd pc = .ok (.ireturn, 1)) (hz : z &&& 1 = z) (hc : cells ≤ kc) (hs : slots ≤ ks) (hF : F (some (.int z)) h) : As p e below (Em s n0 Z EL F kc ks) T (mkF m pc ls (.int z :: st)) :=
  own_retW C S hd (by show Value.int (z &&& 1) = _; rw [hz]) (Or.inl ⟨rfl, Or.inr (Or.inl rfl), z, rfl⟩) hc hs hF
theorem Ck {t : FieldType} (C : Dt p meth c Z a0 EL cd maxL (some t) nm) (S : Dk p l e R s m args below meth c n0 Z EL own T h G cells slots) {w : Value} (ht : t.isReference = true) (hr : w.isRef = true) (hd : decode cd pc = .ok (.areturn, 1)) (hc : cells ≤ kc) (hs : slots ≤ ks) (hF : F (some w) h) : As p e below (Em s n0 Z EL F kc ks) T (mkF m pc ls (w :: st)) :=
  own_retW C S hd (by cases w <;> simp [Value.isRef] at hr <;> cases t <;> first | rfl | (simp [FieldType.isReference] at ht)) (by simp [ht, hr]) hc hs hF
theorem own_retVW (C : Dt p meth c Z a0 EL cd maxL none nm) (S : Dk p l e R s m args below meth c n0 Z EL own T h G cells slots) (hd : decode cd pc = .ok (.return_, 1)) (hc : cells ≤ kc) (hs : slots ≤ ks) (hF : F none h) : As p e below (Em s n0 Z EL F kc ks) T (mkF m pc ls []) :=
  own_endW C S (fun _ => rfl) (fun locs kk nn vm0 fs X hr => X.returnOut C.1 C.2.2.2.2.1 (by rw [C.2.1]; exact hd) hr) hc hs hF
def Cf (l : Launch) (Z : State) (EL : List (String × Nat)) (y : MethodName) (cd : ByteArray) (maxL : Nat) (ret : Option FieldType) (rm : Room) (n0 : Nat) (as' : Array Value) (h0 : Heap) (G0 : List Addr) (Q : Option Value → Heap → Prop) : Prop :=
  ∀ ws, MetFree l y (head1 (Jvm.Cond.code y cd maxL ret :: ws) rm) (fun a U => a = as' ∧ Z.Warmed39 U.vm ∧ U.heap = h0 ∧ CHv Z EL U.vm h0 ∧ ∀ x ∈ G0, x < h0.size ∧ Safe Z EL U.vm h0 x) (fun _ _ _ _ _ => True)
    (fun _ U o U' => ∃ v L, o = .returned v ∧ (Q v U'.heap ∧ Fr n0 L) ∧ CHr Z EL U.vm U.heap U'.vm U'.heap ∧ ReturnedEndW U o U' L rm.cells rm.slots)
theorem Cm {y : MethodName} {rm : Room} {as' : Array Value} {h0 : Heap} {G0 : List Addr} {Q : Option Value → Heap → Prop} (hEL : EW Z a0 EL) (wS : ∀ a ∈ Bundle.stringAtoms, a.before a0 Z = true) (hp : plainFor y = true) (ls : Array Slot) (hef : ∀ m, entryFrame m as' maxL = mkF m 0 ls [])
    (H : ∀ (p : Program) (e : Env) (s : State) (m : MethodId) (below : List Frame) (meth : Method) (c : Code) (T : State), Dt p meth c Z a0 EL cd maxL ret y.name → Dk p l e rm s m as' below meth c n0 Z EL y.cls T h0 G0 0 0 → As p e below (Em s n0 Z EL Q rm.cells rm.slots) T (mkF m 0 ls [])) : Cf l Z EL y cd maxL ret rm n0 as' h0 G0 Q := by
  intro ws
  refine MetFree.of_bodySF hp hisR ?_
  intro p e s m args below meth c s₁ Bd hml hP hK
  obtain ⟨rfl, hZ, hh, hC, hG⟩ := hP
  have e0 : s₁.heap = h0 := by rw [← hh, Bd.state]; rfl
  have G := H p e s m below meth c s₁ ⟨Bd.exec, Bd.bytes, hml, (name_of_methodNamed Bd.named Bd.method).1, Bd.returns, BodyLoose.notSynchronized Bd, hEL, wS⟩
    ⟨s.vm, h0.size, ⟨_, _, _, Stand.of_body Bd, e0, Fr.nil n0, Nat.le_refl _, Nat.le_refl _⟩, (State.WarmedH.refl s).since _, Nat.le_refl _, hZ, findClass_of_methodNamed Bd.named, by rw [hh]; exact CHr.refl hC, hG⟩
  rw [← hef m] at G
  exact G
theorem own_payW {vm0 : Vm} {y : MethodName} {cdy : ByteArray} {maxy : Nat} {rety : Option FieldType} {rm : Room} {as' : Array Value} {G0 : List Addr} {Q : Option Value → Heap → Prop} (M : Cf l Z EL y cdy maxy rety rm n0 as' h G0 Q) (hZ : Z.Warmed39 vm0) {len W : Nat} (wc : (Jvm.Cond.code y cdy maxy rety).before a0 Z = true) (wz : (Jvm.Cond.initialized y.cls).before a0 Z = true) (hf : rm.frames + 1 ≤ R.frames) (hl : W + (maxy + 11) + rm.locals ≤ R.locals) (hEL : EW Z a0 EL) (H : CHv Z EL vm0 h) (hG : ∀ x ∈ G0, x < h.size ∧ Safe Z EL vm0 h x) :
    BackS l R p e below (s.setVm vm0) args y len W (fun A a => a = as' ∧ A.U.heap = h ∧ A.cells + rm.cells ≤ R.cells ∧ A.slots + rm.slots ≤ R.slots)
      (fun A _ v B => ∃ L, (Q v B.U.heap ∧ Fr n0 L) ∧ B.locs = A.locs ++ L ∧ B.cells = A.cells + rm.cells ∧ B.slots = A.slots + rm.slots ∧ CHr Z EL vm0 h B.U.vm B.U.heap) :=
  BackS.of_freeW (bytes := cdy) (maxL := maxy) (ret := rety) (E := fun _ first o t L k n => k = rm.cells ∧ n = rm.slots ∧ (∃ v, o = .returned v ∧ (Q v t.heap ∧ Fr n0 L)) ∧ CHr Z EL first.vm first.heap t.vm t.heap) (M []) hf hl
    (fun m meth c A a Y hp => have hU : Z.Warmed39 A.U.vm := wtrans (s := s.setVm vm0) hZ Y.warmed
      ⟨by show (Cond.and _ .tt).before a A.U = true; rw [Cond.before_and, mv hU wc]; rfl, mv hU wc, mv hU wz, hp.2.2.1, hp.2.2.2⟩)
    (fun m meth c A a g mk Y hp => ⟨hp.1, wtrans (s := s.setVm vm0) hZ Y.warmed, hp.2.1, (CHv.at Y hZ hEL H).1, fun x hx => ⟨(hG x hx).1, (CHv.at Y hZ hEL H).safe (hG x hx).1 (hG x hx).2⟩⟩) (fun _ _ _ _ _ _ _ _ _ => trivial)
    (fun _ _ _ _ ⟨v, L, h1, h2, h3, h4⟩ => ⟨L, _, _, h4, rfl, rfl, ⟨v, h1, h2⟩, h3⟩)
    (fun m meth c A a g mk v t L k n Y hp _ _ ⟨e1, e2, ⟨v', e3, e4⟩, e5⟩ => by
      cases e3; subst e1 e2
      refine ⟨L, e4, rfl, rfl, rfl, (CHv.at Y hZ hEL H).trans ?_⟩
      rw [← hp.2.1]; exact e5)
theorem own_backW {T : State} {vm0 : Vm} {k0 : Nat} {B : Pt} {Q : Option Value → Heap → Prop} {v : Option Value} {L : List Loc} {k1 k2 kk nn : Nat} (hS : s.Since vm0 k0) (hk : k0 ≤ h.size) (hZ : Z.Warmed39 vm0) (ho : vm0.findClass own = some m.cls) (hC : CHr Z EL s.vm s.heap vm0 h) (hG : ∀ x ∈ G, x < h.size ∧ Safe Z EL vm0 h x) (N : Fr n0 locs) (q1 : kk ≤ cells) (q2 : nn ≤ slots)
    (X' : Stand p l e R ((s.setVm vm0).setVm B.U.vm) m args below meth c B.U B.locs B.cells B.slots) (h2 : (s.setVm vm0).Since B.U.vm B.U.heap.size) (hg : h.size ≤ B.U.heap.size) (hQ : Q v B.U.heap ∧ Fr n0 L) (l1 : B.locs = locs ++ L) (l2 : B.cells = kk + k1) (l3 : B.slots = nn + k2) (hC' : CHr Z EL vm0 h B.U.vm B.U.heap) :
    Dk p l e R s m args below meth c n0 Z EL own B.U B.U.heap G (cells + k1) (slots + k2) := by
  obtain ⟨X1, hS1, hZ1, ho1⟩ := rebS hS hk X' h2 hg hZ ho
  exact ⟨B.U.vm, _, ⟨B.locs, B.cells, B.slots, X1, rfl, by rw [l1]; exact Fr.app N hQ.2, by omega, by omega⟩, hS1, Nat.le_refl _, hZ1, ho1, hC.trans hC', fun x hx => ⟨Nat.lt_of_lt_of_le (hG x hx).1 hg, hC'.safe (hG x hx).1 (hG x hx).2⟩⟩
theorem Br (C : Dt p meth c Z a0 EL cd maxL ret nm) (S : Dk p l e R s m args below meth c n0 Z EL own T h G cells slots) {y : MethodName} {index : Nat} {cdy : ByteArray} {maxy : Nat} {rety : Option FieldType} {rm : Room} {as' : Array Value} {G0 : List Addr} {Q : Option Value → Heap → Prop}
    (w1 : (Jvm.Cond.methodLink own index y).before a0 Z = true) (w2 : (Jvm.Cond.static y).before a0 Z = true) (w3 : (Jvm.Cond.initialized y.cls).before a0 Z = true) (w4 : (Jvm.Cond.code y cdy maxy rety).before a0 Z = true) (hy : y.cls ≠ "java/lang/invoke/MethodHandle" ∧ y.cls ≠ "java/lang/invoke/VarHandle")
    (M : Cf l Z EL y cdy maxy rety rm n0 as' h G0 Q) (hG0 : ∀ x ∈ G0, x ∈ G) (W : Nat) (hf : rm.frames + 1 ≤ R.frames) (hlo : W + (maxy + 11) + rm.locals ≤ R.locals) (argsL rest : List Value) {ps : List FieldType} {rr : Option FieldType} (has : argsL.toArray = as') (hpd : parseMethodDescriptor y.desc = some ⟨ps, rr⟩) (hlen : argsL.length = ps.length) (hstk : st = argsL.reverse ++ rest) (hsz : ls.size = maxL) (hW : (rest.map fun v => v.category).sum ≤ W)
    (hc : cells + rm.cells ≤ R.cells) (hs : slots + rm.slots ≤ R.slots) (hd : decode cd pc = .ok (.invokestatic index, 3))
    (k : ∀ T' h' v, Dk p l e R s m args below meth c n0 Z EL own T' h' G (cells + rm.cells) (slots + rm.slots) → h.size ≤ h'.size → Q v h' → As p e below En T' (mkF m (pc + 3) ls (v.toList ++ rest))) : As p e below En T (mkF m pc ls st) := by
  obtain ⟨vm0, k0, ⟨locs, kk, nn, X, eT, N, q1, q2⟩, hS, hk, hZ, ho, hC, hG⟩ := S
  obtain ⟨v, vm1, B, -, X', h2, hg, ⟨L, hQ, l1, l2, l3, hC'⟩, stp⟩ := callSS X C.1 ho (mvT (s := s.setVm vm0) hZ w1) (mvT (s := s.setVm vm0) hZ w2) (mvT (s := s.setVm vm0) hZ w3) (mvT (s := s.setVm vm0) hZ w4) hy (own_payW M hZ w4 w3 hf hlo C.2.2.2.2.2.2.1 hC.1 fun x hx => hG x (hG0 x hx)) (g := mkF m pc ls st) rfl (by rw [C.2.2.1]; exact hsz) (argsL := argsL) (rest := rest) (lenOf hpd hlen) hstk (by show 2 * 0 + _ ≤ W; omega) (by rw [C.2.1]; exact hd) (fun _ _ => ⟨has, eT, by show kk + _ ≤ _; omega, by show nn + _ ≤ _; omega⟩)
  rw [eT] at hg
  exact Bn (fun t k => stp.trans k) (k B.U _ v (own_backW (T := T) hS hk hZ ho hC hG N q1 q2 X' h2 hg hQ l1 l2 l3 hC') hg hQ.1)
theorem own_callIW (C : Dt p meth c Z a0 EL cd maxL ret nm) (S : Dk p l e R s m args below meth c n0 Z EL own T h G cells slots) {y : MethodName} {index : Nat} {cdy : ByteArray} {maxy : Nat} {rm : Room} {as' : Array Value} {G0 : List Addr} {Q : Option Value → Heap → Prop}
    (hy1 : y.name = "<init>") (w1 : (Jvm.Cond.methodLink own index y).before a0 Z = true) (w2 : (Jvm.Cond.instanceMethod y).before a0 Z = true) (w3 : (Jvm.Cond.initialized y.cls).before a0 Z = true) (w4 : (Jvm.Cond.code y cdy maxy none).before a0 Z = true) (hy : y.cls ≠ "java/lang/invoke/MethodHandle" ∧ y.cls ≠ "java/lang/invoke/VarHandle")
    (M : Cf l Z EL y cdy maxy none rm n0 as' h G0 Q) (hG0 : ∀ x ∈ G0, x ∈ G) (W : Nat) (hf : rm.frames + 1 ≤ R.frames) (hlo : W + (maxy + 11) + rm.locals ≤ R.locals) {a : Addr} (argsL rest : List Value) {ps : List FieldType} {rr : Option FieldType} (has : (.ref a :: argsL).toArray = as') (hpd : parseMethodDescriptor y.desc = some ⟨ps, rr⟩) (hlen : argsL.length = ps.length) (hstk : st = argsL.reverse ++ .ref a :: rest) (hsz : ls.size = maxL) (hW : (rest.map fun v => v.category).sum ≤ W)
    (hc : cells + rm.cells ≤ R.cells) (hs : slots + rm.slots ≤ R.slots) (hd : decode cd pc = .ok (.invokespecial index, 3))
    (k : ∀ T' h' v, Dk p l e R s m args below meth c n0 Z EL own T' h' G (cells + rm.cells) (slots + rm.slots) → h.size ≤ h'.size → Q v h' → As p e below En T' (mkF m (pc + 3) ls (v.toList ++ rest))) : As p e below En T (mkF m pc ls st) := by
  obtain ⟨vm0, k0, ⟨locs, kk, nn, X, eT, N, q1, q2⟩, hS, hk, hZ, ho, hC, hG⟩ := S
  obtain ⟨v, vm1, B, -, X', h2, hg, ⟨L, hQ, l1, l2, l3, hC'⟩, stp⟩ := X.specialBackS C.1 hy1 ho (mvT (s := s.setVm vm0) hZ w1) (mvT (s := s.setVm vm0) hZ w2) (mvT (s := s.setVm vm0) hZ w4) hy (own_payW M hZ w4 w3 hf hlo C.2.2.2.2.2.2.1 hC.1 fun x hx => hG x (hG0 x hx)) (g := mkF m pc ls st) rfl (by rw [C.2.2.1]; exact hsz) (Steps.refl _) (a := a) (argsL := argsL) (rest := rest) (lenOf hpd hlen) hstk (by show 2 * 0 + _ ≤ W; omega) (by rw [C.2.1]; exact hd) (fun _ _ => ⟨has, eT, by show kk + _ ≤ _; omega, by show nn + _ ≤ _; omega⟩)
  rw [eT] at hg
  exact Bn (fun t k => stp.trans k) (k B.U _ v (own_backW (T := T) hS hk hZ ho hC hG N q1 q2 X' h2 hg hQ l1 l2 l3 hC') hg hQ.1)
end OwnKitW
section OwnKitP
open Jvm.Free.SB Jvm.Free.SBG
variable {p : Program} {l : Launch} {e : Env} {R : Room} {s : State} {m : MethodId} {args : Array Value} {below : List Frame} {meth : Method} {c : Code} {T : State} {locs : List Loc} {cells slots : Nat} {Z : State} {a0 : Array Value} {h : Heap} {own : String} {cd : ByteArray} {maxL : Nat} {ret : Option FieldType} {nm : String} {n0 : Nat} {F : Option Value → Heap → Prop} {kc ks : Nat} {En : Outcome → State → Prop} {pc : Nat} {ls : Array Slot} {st : List Value} {EL : List (String × Nat)} {G : List Addr} {CL : List (String × Nat × Nat)} {P1 P2 : Nat} {fC fS : Vm → Nat}
def own_bkB (Z : State) (vm : Vm) (o : String) (i : Nat) : Bool := match (Z.setVm vm).resolvedAt? o i with
  | some (.string _) => true
  | _ => false
def own_bk (Z : State) (vm : Vm) (o : String) (i : Nat) : Prop := ∃ a, Lit (Z.setVm vm) o i a
theorem own_bk_iff {vm : Vm} {o : String} {i : Nat} : own_bkB Z vm o i = true ↔ own_bk Z vm o i := by
  unfold own_bkB own_bk Lit
  cases hr : (Z.setVm vm).resolvedAt? o i with
  | none => simp
  | some r => cases r <;> simp
instance own_bk_dec (Z : State) (vm : Vm) (o : String) (i : Nat) : Decidable (own_bk Z vm o i) := decidable_of_iff _ own_bk_iff
def own_pt (Z : State) (vm : Vm) (f : String × Nat × Nat → Nat) : List (String × Nat × Nat) → Nat
  | [] => 0
  | x :: r => (if own_bk Z vm x.1 x.2.1 then 0 else f x) + own_pt Z vm f r
def own_pC (Z : State) (CL : List (String × Nat × Nat)) (vm : Vm) : Nat := own_pt Z vm (fun _ => 2) CL
def own_pS (Z : State) (CL : List (String × Nat × Nat)) (vm : Vm) : Nat := own_pt Z vm (fun x => x.2.2) CL
def own_FP (Z : State) (CL : List (String × Nat × Nat)) (fC fS : Vm → Nat) : Prop := (∀ vm, fC vm = own_pC Z CL vm) ∧ ∀ vm, fS vm = own_pS Z CL vm
theorem own_FP.eq (h : own_FP Z CL fC fS) : fC = own_pC Z CL ∧ fS = own_pS Z CL := ⟨funext h.1, funext h.2⟩
end OwnKitP
section OwnKitS
variable {p : Program} {l : Launch} {e : Env} {R : Room} {s : State} {m : MethodId} {args : Array Value} {below : List Frame} {meth : Method} {c : Code} {T : State} {locs : List Loc} {cells slots : Nat} {Z : State} {a0 : Array Value} {h : Heap} {own : String} {cd : ByteArray} {maxL : Nat} {ret : Option FieldType} {nm : String} {n0 : Nat} {F : Option Value → Heap → Prop} {kc ks : Nat} {En : Outcome → State → Prop} {pc : Nat} {ls : Array Slot} {st : List Value} {EL : List (String × Nat)} {G : List Addr} {CL : List (String × Nat × Nat)} {P1 P2 : Nat} {fC fS : Vm → Nat} {ps : List FieldType} {rr : Option FieldType}
variable {y z : MethodName} {index : Nat} {cdy : ByteArray} {maxy : Nat} {rety : Option FieldType} {f r1 r2 k1 k2 lo rc rs lo' f' : Nat} {as' : Array Value} {G0 : List Addr} {Q : Option Value → Heap → Prop} {rm : Room} {vm : Vm}
abbrev Aj (a0 : Array Value) (Z : State) : Prop := ∀ d ∈ tables_1, d.before a0 Z = true
abbrev Aa (n : Int32) : Slot := .val (.int n)
abbrev Ab (a : Addr) : Slot := .val (.ref a)
theorem Dc {α : Type _} {L : List α} {x : α} (i : Nat) (h : L[i]? = some x := by exact rfl) : x ∈ L := List.mem_of_getElem? h
theorem Ba {α : Type _} {P : Prop} {L : List α} {x : α} (i : Nat) (h : L[i]? = some x := by exact rfl) : x ∈ L ∨ P := Or.inl (List.mem_of_getElem? h)
theorem Ar {h0 : Heap} (ls : Array Slot) (H : ∀ (p : Program) (e : Env) (s : State) (m : MethodId) (below : List Frame) (meth : Method) (c : Code) (T : State), By p s m meth c Z y.cls cd maxL ret y.name → Bo p l e rm s m as' below meth c n0 T h0 0 0 → As p e below (Eb s n0 Q rm.cells rm.slots) T (mkF m 0 ls [])) (hp : plainFor y = true := by decide +kernel) (hef : ∀ m, entryFrame m as' maxL = mkF m 0 ls [] := by intro m; first | (simp [entryFrame, mkF, argsToLocals, Value.category]; done) | rfl) : Af l Z y cd maxL ret rm n0 as' h0 Q := own_met hp ls hef H
theorem Ac (C : By p s m meth c Z own cd maxL ret nm) (S : Bo p l e R s m args below meth c n0 T h cells slots) (seg : List (Nat × Instr × Nat)) (pc' : Nat) (ls' : Array Slot) (st' : List Value)
    (k : As p e below En T (mkF m pc' ls' st')) (hr : Fc seg pc ls st = some (pc', ls', st') := by exact rfl) (hd : own_dec cd seg = true := by decide +kernel) : As p e below En T (mkF m pc ls st) := own_seg C S seg hd pc' ls' st' hr k
theorem Bg (C : By p s m meth c Z own cd maxL ret nm) (S : Bo p l e R s m args below meth c n0 T h cells slots) (q : ClassFile.Cond) (o : Int) {x y : Int32} (pc' : Nat)
    (k1 : own_P q x y → As p e below En T (mkF m pc' ls st)) (k2 : own_N q x y → As p e below En T (mkF m (pc + 3) ls st)) (hd : decode cd pc = .ok (.if_icmp q o, 3) := by decide +kernel) (ho : 0 ≤ (pc : Int) + o := by decide) (hp : ((pc : Int) + o).toNat = pc' := by decide) : As p e below En T (mkF m pc ls (.int y :: .int x :: st)) := own_icmp C S hd pc' ho hp k1 k2
theorem Bh (C : By p s m meth c Z own cd maxL ret nm) (S : Bo p l e R s m args below meth c n0 T h cells slots) (q : ClassFile.Cond) (o : Int) {x : Int32} (pc' : Nat)
    (k1 : own_P q x 0 → As p e below En T (mkF m pc' ls st)) (k2 : own_N q x 0 → As p e below En T (mkF m (pc + 3) ls st)) (hd : decode cd pc = .ok (.ifCond q o, 3) := by decide +kernel) (ho : 0 ≤ (pc : Int) + o := by decide) (hp : ((pc : Int) + o).toNat = pc' := by decide) : As p e below En T (mkF m pc ls (.int x :: st)) := own_if C S hd pc' ho hp k1 k2
theorem Ch (C : By p s m meth c Z own cd maxL ret nm) (S : Bo p l e R s m args below meth c n0 T h cells slots) (hw : ∀ d ∈ tables_1, d.before a0 Z = true) (i1 : Nat) {O n d : String} {a : Addr} {v : Value} (FF : Fld Z h a O n d v)
    (k : ∀ T', Bo p l e R s m args below meth c n0 T' h cells slots → As p e below En T' (mkF m (pc + 3) ls (v :: st))) (w : tables_1[i1]? = some (Jvm.Cond.fieldLink own index O n d) := by exact rfl) (hd : decode cd pc = .ok (.getfield index, 3) := by decide +kernel) : As p e below En T (mkF m pc ls (.ref a :: st)) := own_getF C S (host := "") (Or.inl (ow hw i1 w)) Via.refl FF hd k
theorem Ae (C : By p s m meth c Z own cd maxL ret nm) (S : Bo p l e R s m args below meth c n0 T h cells slots) (hw : ∀ d ∈ tables_1, d.before a0 Z = true) (i1 i2 i3 i4 : Nat) (M : Af l Z y cdy maxy rety rm n0 as' h Q) (W : Nat) (argsL rest : List Value) {ds : String} (hpd : parseMethodDescriptor ds = some ⟨ps, rr⟩)
    (k : ∀ T' h' v L, Bo p l e R s m args below meth c n0 T' h' (cells + rm.cells) (slots + rm.slots) → Q v h' ∧ Fr n0 L → As p e below En T' (mkF m (pc + 3) ls (v.toList ++ rest)))
    (w1 : tables_1[i1]? = some (Jvm.Cond.methodLink own index y) := by exact rfl) (w2 : tables_1[i2]? = some (Jvm.Cond.static y) := by exact rfl) (w3 : tables_1[i3]? = some (Jvm.Cond.initialized y.cls) := by exact rfl) (w4 : tables_1[i4]? = some (Jvm.Cond.code y cdy maxy rety) := by exact rfl) (hy : y.cls ≠ "java/lang/invoke/MethodHandle" ∧ y.cls ≠ "java/lang/invoke/VarHandle" := by decide)
    (hf : rm.frames + 1 ≤ R.frames := by decide) (hl : W + (maxy + 11) + rm.locals ≤ R.locals := by decide) (has : argsL.toArray = as' := by exact rfl) (hds : y.desc = ds := by exact rfl) (hlen : argsL.length = ps.length := by exact rfl) (hstk : st = argsL.reverse ++ rest := by exact rfl) (hsz : ls.size = maxL := by exact rfl) (hW : (rest.map fun v => v.category).sum ≤ W := by exact Ak rfl) (hc : cells + rm.cells ≤ R.cells := by decide) (hs : slots + rm.slots ≤ R.slots := by decide) (hd : decode cd pc = .ok (.invokestatic index, 3) := by decide +kernel) : As p e below En T (mkF m pc ls st) :=
  own_callS C S (ow hw i1 w1) (ow hw i2 w2) (ow hw i3 w3) (ow hw i4 w4) hy (Af.pay M C W (ow hw i4 w4) (ow hw i3 w3) hf hl) (fun _ _ _ q => q.2) argsL rest has (hds ▸ hpd) hlen hstk hsz hW hc hs hd k
theorem Ah (C : By p s m meth c Z own cd maxL ret nm) (S : Bo p l e R s m args below meth c n0 T h cells slots) (hw : ∀ d ∈ tables_1, d.before a0 Z = true) (i1 i2 i3 i4 i5 i6 i7 : Nat) (M : Af l Z z cdy maxy rety rm n0 as' h Q) (W : Nat) {a : Addr} {Cl : String} (E : Exa Z h a Cl) (argsL rest : List Value) {ds : String} (hpd : parseMethodDescriptor ds = some ⟨ps, rr⟩)
    (k : ∀ T' h' v L, Bo p l e R s m args below meth c n0 T' h' (cells + rm.cells) (slots + rm.slots) → Q v h' ∧ Fr n0 L → As p e below En T' (mkF m (pc + 3) ls (v.toList ++ rest))) {Cl' : String} {y' : MethodName}
    (w1 : tables_1[i1]? = some (Jvm.Cond.methodLink own index y) := by exact rfl) (w2 : tables_1[i2]? = some (Jvm.Cond.declares y) := by exact rfl) (w3 : tables_1[i3]? = some (Jvm.Cond.selects Cl y z) := by exact rfl) (w3' : tables_1[i4]? = some (Jvm.Cond.selects Cl' y' y') := by exact rfl) (w4 : tables_1[i5]? = some (Jvm.Cond.instanceMethod z) := by exact rfl) (w5 : tables_1[i6]? = some (Jvm.Cond.code z cdy maxy rety) := by exact rfl) (w6 : tables_1[i7]? = some (Jvm.Cond.initialized z.cls) := by exact rfl) (hyc : y'.cls = y.cls := by exact rfl) (hy : y.cls ≠ "java/lang/invoke/MethodHandle" ∧ y.cls ≠ "java/lang/invoke/VarHandle" := by decide)
    (hf : rm.frames + 1 ≤ R.frames := by decide) (hl : W + (maxy + 11) + rm.locals ≤ R.locals := by decide) (has : (.ref a :: argsL).toArray = as' := by exact rfl) (hds : y.desc = ds := by exact rfl) (hlen : argsL.length = ps.length := by exact rfl) (hstk : st = argsL.reverse ++ .ref a :: rest := by exact rfl) (hsz : ls.size = maxL := by exact rfl) (hW : (rest.map fun v => v.category).sum ≤ W := by exact Ak rfl) (hc : cells + rm.cells ≤ R.cells := by decide) (hs : slots + rm.slots ≤ R.slots := by decide) (hd : decode cd pc = .ok (.invokevirtual index, 3) := by decide +kernel) : As p e below En T (mkF m pc ls st) :=
  own_callV C S (ow hw i1 w1) (ow hw i2 w2) (ow hw i3 w3) (ow hw i4 w3') hyc (ow hw i5 w4) hy (Af.pay M C W (ow hw i6 w5) (ow hw i7 w6) hf hl) (fun _ _ _ q => q.2) E argsL rest has (hds ▸ hpd) hlen hstk hsz hW hc hs hd k
end OwnKitS

theorem Bc (x : Int32) : nar .byte x.toInt8.toInt32 = x.toInt8.toInt32 := by
  have h := Jvm.Free.XT.narrow_b x
  exact Value.int.inj h
theorem own_and255 (x : Int32) : ¬ (x &&& (255 : Int32)) < 0 ∧ ¬ (255 : Int32) < (x &&& (255 : Int32)) := by
  have h := c_and x (255 : Int32) (by decide)
  rw [Int32.lt_iff_toInt_lt, Int32.lt_iff_toInt_lt]
  have e1 : (255 : Int32).toInt = 255 := rfl
  have e2 : (0 : Int32).toInt = 0 := rfl
  omega
theorem Fo {i : Nat} (h : i ≤ 4000) : ¬ Int32.ofNat i < 0 ∧ (Int32.ofNat i).toNatClampNeg = i := by
  have e : (Int32.ofNat i).toInt = i := Int32.toInt_ofNat_of_lt (by omega)
  refine ⟨?_, ?_⟩
  · rw [Int32.lt_iff_toInt_lt, e]
    have e0 : (0 : Int32).toInt = 0 := rfl
    omega
  · simp only [Int32.toNatClampNeg, e]; omega
def own_Ch (r : Int32) : Prop := (¬ r < 0 ∧ ¬ (255 : Int32) < r) ∧ nar .char r = r ∧ r.toUInt32.toUInt16.toUInt32.toInt32 = r
theorem own_Ch.of (x : Int32) : own_Ch (x &&& (255 : Int32)) := ⟨own_and255 x, i2c_mask x, i2c_mask x⟩
theorem own_oN {n : Nat} (h : n ≤ 4000) : (Int32.ofNat n).toInt = n ∧ (Int32.ofNat n).toNatClampNeg = n := by
  have e : (Int32.ofNat n).toInt = n := Int32.toInt_ofNat_of_lt (by omega)
  exact ⟨e, (Fo h).2⟩
abbrev Ca : List (String × Nat) := consts_1
theorem Di {a b : Nat} : Int32.ofNat a ||| Int32.ofNat b = Int32.ofNat (a ||| b) := by
  apply Int32.toBitVec_inj.mp
  exact (BitVec.ofNat_or).symm
theorem Dv {a b : Nat} : Int32.ofNat a &&& Int32.ofNat b = Int32.ofNat (a &&& b) := by
  apply Int32.toBitVec_inj.mp
  exact (BitVec.ofNat_and).symm
theorem Ec {a : Nat} {b : Int32} (k : Nat) (hb : b.toBitVec.smod 32 = BitVec.ofNat 32 k) (hk : k < 32) : Int32.ofNat a <<< b = Int32.ofNat (a * 2 ^ k) := by
  apply Int32.toBitVec_inj.mp
  rw [Int32.toBitVec_shiftLeft, hb]
  show BitVec.ofNat 32 a <<< BitVec.ofNat 32 k = BitVec.ofNat 32 (a * 2 ^ k)
  apply BitVec.eq_of_toNat_eq
  rw [BitVec.shiftLeft_eq', BitVec.toNat_shiftLeft, BitVec.toNat_ofNat, BitVec.toNat_ofNat, BitVec.toNat_ofNat, Nat.mod_eq_of_lt (show k < 2 ^ 32 by omega), Nat.shiftLeft_eq, Nat.mod_mul_mod]
theorem Fp {a : Nat} {b : Int32} (k : Nat) (ha : a < 2 ^ 31) (hb : b.toBitVec.smod 32 = BitVec.ofNat 32 k) (hk : k < 32) : Int32.ofNat a >>> b = Int32.ofNat (a / 2 ^ k) := by
  apply Int32.toBitVec_inj.mp
  rw [Int32.toBitVec_shiftRight, hb]
  show (BitVec.ofNat 32 a).sshiftRight' (BitVec.ofNat 32 k) = BitVec.ofNat 32 (a / 2 ^ k)
  have hm : (BitVec.ofNat 32 a).msb = false := by
    rw [BitVec.msb_eq_false_iff_two_mul_lt, BitVec.toNat_ofNat, Nat.mod_eq_of_lt (by omega)]; omega
  rw [BitVec.sshiftRight_eq', BitVec.sshiftRight_eq_of_msb_false hm]
  apply BitVec.eq_of_toNat_eq
  rw [BitVec.toNat_ushiftRight, BitVec.toNat_ofNat, BitVec.toNat_ofNat, BitVec.toNat_ofNat, Nat.mod_eq_of_lt (show k < 2 ^ 32 by omega), Nat.shiftRight_eq_div_pow, Nat.mod_eq_of_lt (show a < 2 ^ 32 by omega), Nat.mod_eq_of_lt]
  exact Nat.lt_of_le_of_lt (Nat.div_le_self _ _) (by omega)
theorem Cw {a : Nat} : (Int32.ofNat a).toInt8 = Int8.ofNat a := by
  simp
theorem Ed {a b : Nat} (h : a % 256 = b % 256) : (Int8.ofNat a).toInt32 = (Int8.ofNat b).toInt32 := by
  congr 1
  apply Int8.toBitVec_inj.mp
  show BitVec.ofNat 8 a = BitVec.ofNat 8 b
  apply BitVec.eq_of_toNat_eq
  rw [BitVec.toNat_ofNat, BitVec.toNat_ofNat]; exact h
theorem own_t32 {z : Int64} {n : Nat} (h : z.toBitVec = BitVec.ofNat 64 n) : z.toInt32 = Int32.ofNat n := by
  apply Int32.toBitVec_inj.mp
  show BitVec.signExtend 32 z.toBitVec = BitVec.ofNat 32 n
  rw [h, BitVec.signExtend_eq_setWidth_of_le _ (by decide)]
  apply BitVec.eq_of_toNat_eq
  rw [BitVec.toNat_setWidth, BitVec.toNat_ofNat, BitVec.toNat_ofNat, Nat.mod_mod_of_dvd]
  exact ⟨2 ^ 32, by decide⟩
theorem own_m255 (y : Int64) : (y &&& 255).toInt32 = Int32.ofNat (y.toBitVec.toNat % 256) := by
  apply own_t32
  show y.toBitVec &&& 255#64 = _
  apply BitVec.eq_of_toNat_eq
  rw [BitVec.toNat_and, BitVec.toNat_ofNat, BitVec.toNat_ofNat]
  have e : y.toBitVec.toNat &&& 255 % 2 ^ 64 = y.toBitVec.toNat % 256 := Nat.and_two_pow_sub_one_eq_mod y.toBitVec.toNat 8
  rw [e]; omega
theorem own_t8 (y : Int64) : y.toInt32.toInt8 = Int8.ofNat (y.toBitVec.toNat % 256) := by
  apply Int8.toBitVec_inj.mp
  show BitVec.signExtend 8 (BitVec.signExtend 32 y.toBitVec) = BitVec.ofNat 8 _
  rw [BitVec.signExtend_eq_setWidth_of_le _ (by decide), BitVec.signExtend_eq_setWidth_of_le _ (by decide)]
  apply BitVec.eq_of_toNat_eq
  rw [BitVec.toNat_setWidth, BitVec.toNat_setWidth, BitVec.toNat_ofNat]
  omega
/-- four sextets of W -/
theorem Fd (a b c d : Nat) (hb : b < 64) (hc : c < 64) (hd : d < 64) : (((a * 2 ^ 18) ||| (b * 2 ^ 12)) ||| (c * 2 ^ 6)) ||| d = a * 2 ^ 18 + b * 2 ^ 12 + c * 2 ^ 6 + d := by
  have e1 : a * 2 ^ 18 ||| b * 2 ^ 12 = 2 ^ 18 * a + b * 2 ^ 12 := by
    rw [Nat.two_pow_add_eq_or_of_lt (by omega), Nat.mul_comm a]
  have e2 : (a * 2 ^ 18 ||| b * 2 ^ 12) ||| c * 2 ^ 6 = 2 ^ 12 * (64 * a + b) + c * 2 ^ 6 := by
    rw [Nat.two_pow_add_eq_or_of_lt (by omega), e1]; congr 1; omega
  rw [e2, show 2 ^ 12 * (64 * a + b) + c * 2 ^ 6 = 2 ^ 6 * (64 * (64 * a + b) + c) by omega, ← Nat.two_pow_add_eq_or_of_lt (by omega)]; omega
def Ag (x : Int32) : Prop := ∃ k, k < 64 ∧ x = Int32.ofNat k
def Ax (Z : State) (n0 : Nat) (G1 : Int32) (G3 : Value) (U8 I8 TB DE : Addr) : Prop := (Sta Z Z.heap "java/lang/String" "COMPACT_STRINGS" "Z" (.int G1)) ∧ (Sta Z Z.heap "jdk/internal/util/Preconditions" "SIOOBE_FORMATTER" "Ljava/util/function/BiFunction;" G3) ∧ (¬ G1 = (0 : Int32)) ∧ (G3.isRef = true) ∧ (Sta Z Z.heap "sun/nio/cs/UTF_8" "INSTANCE" "Lsun/nio/cs/UTF_8;" (.ref U8)) ∧ (Sta Z Z.heap "sun/nio/cs/ISO_8859_1" "INSTANCE" "Lsun/nio/cs/ISO_8859_1;" (.ref I8)) ∧ (Sta Z Z.heap "java/util/Base64$Decoder" "fromBase64URL" "[I" (.ref TB)) ∧ (Sta Z Z.heap "com/example/torrey/torrey/Base64Url" "DECODER" "Ljava/util/Base64$Decoder;" (.ref DE)) ∧ (I8 ≠ U8) ∧ (TB < n0) ∧ (DE < n0)
def Ad (x : Int32) : Int32 := if x < 26 then 65 + x else if x < 52 then (97 + x) - 26 else if x < 62 then (48 + x) - 52 else if x = 62 then 45 else 95
def own_TUi : List Int32 := [-1, -1, -1, -1, -1, -1, -1, -1, -1, -1, -1, -1, -1, -1, -1, -1, -1, -1, -1, -1, -1, -1, -1, -1, -1, -1, -1, -1, -1, -1, -1, -1, -1, -1, -1, -1, -1, -1, -1, -1, -1, -1, -1, -1, -1, 62, -1, -1, 52, 53, 54, 55, 56, 57, 58, 59, 60, 61, -1, -1, -1, -2, -1, -1, -1, 0, 1, 2, 3, 4, 5, 6, 7, 8, 9, 10, 11, 12, 13, 14, 15, 16, 17, 18, 19, 20, 21, 22, 23, 24, 25, -1, -1, -1, -1, 63, -1, 26, 27, 28, 29, 30, 31, 32, 33, 34, 35, 36, 37, 38, 39, 40, 41, 42, 43, 44, 45, 46, 47, 48, 49, 50, 51, -1, -1, -1, -1, -1, -1, -1, -1, -1, -1, -1, -1, -1, -1, -1, -1, -1, -1, -1, -1, -1, -1, -1, -1, -1, -1, -1, -1, -1, -1, -1, -1, -1, -1, -1, -1, -1, -1, -1, -1, -1, -1, -1, -1, -1, -1, -1, -1, -1, -1, -1, -1, -1, -1, -1, -1, -1, -1, -1, -1, -1, -1, -1, -1, -1, -1, -1, -1, -1, -1, -1, -1, -1, -1, -1, -1, -1, -1, -1, -1, -1, -1, -1, -1, -1, -1, -1, -1, -1, -1, -1, -1, -1, -1, -1, -1, -1, -1, -1, -1, -1, -1, -1, -1, -1, -1, -1, -1, -1, -1, -1, -1, -1, -1, -1, -1, -1, -1, -1, -1, -1, -1, -1, -1, -1, -1, -1, -1, -1, -1, -1, -1, -1]
def Bs : List Value := own_TUi.map Value.int
def Ay (q : Int32) : Int32 := (q >>> ((16 : Int32) &&& 31)).toInt8.toInt32
def Bk (q : Int32) : Int32 := (q >>> ((8 : Int32) &&& 31)).toInt8.toInt32
def Cc (q : Int32) : Int32 := q.toInt8.toInt32
def Dg (a b : Int32) : Int32 := ((0 : Int32) ||| (a <<< ((18 : Int32) &&& 31))) ||| (b <<< ((12 : Int32) &&& 31))
def Ci (a b c : Int32) : Int32 := Dg a b ||| (c <<< ((6 : Int32) &&& 31))
def Cz (a b c d : Int32) : Int32 := Ci a b c ||| (d <<< ((0 : Int32) &&& 31))
def Aq (a b c d : Int32) : Int32 := (((a <<< ((18 : Int32) &&& 31)) ||| (b <<< ((12 : Int32) &&& 31))) ||| (c <<< ((6 : Int32) &&& 31))) ||| d
theorem own_x0_k : ∀ k < 64, ¬ (Int32.ofNat k) < (0 : Int32) := by decide +kernel
theorem Cd {x : Int32} (h : Ag x) : ¬ x < (0 : Int32) := by
  obtain ⟨k, hk, rfl⟩ := h; exact own_x0_k k hk
theorem own_alR_k : ∀ k < 64, ¬ (Ad (Int32.ofNat k)) < 0 ∧ ¬ (255 : Int32) < (Ad (Int32.ofNat k)) := by decide +kernel
theorem Bf {x : Int32} (h : Ag x) : ¬ (Ad x) < 0 ∧ ¬ (255 : Int32) < (Ad x) := by
  obtain ⟨k, hk, rfl⟩ := h; exact own_alR_k k hk
theorem own_alc_k : ∀ k < 64, (Ad (Int32.ofNat k)).toUInt32.toUInt16.toUInt32.toInt32 = (Ad (Int32.ofNat k)) := by decide +kernel
theorem Ai {x : Int32} (h : Ag x) : (Ad x).toUInt32.toUInt16.toUInt32.toInt32 = (Ad x) := by
  obtain ⟨k, hk, rfl⟩ := h; exact own_alc_k k hk
theorem own_tv_k : ∀ k < 64, Bs.getD ((Ad (Int32.ofNat k)).toInt8.toInt32 &&& (255 : Int32)).toNatClampNeg (.int 0) = .int (Int32.ofNat k) := by decide +kernel
theorem Cq {x : Int32} (h : Ag x) : Bs.getD ((Ad x).toInt8.toInt32 &&& (255 : Int32)).toNatClampNeg (.int 0) = .int x := by
  obtain ⟨k, hk, rfl⟩ := h; exact own_tv_k k hk
theorem own_ti_k : ∀ k < 64, ¬ ((Ad (Int32.ofNat k)).toInt8.toInt32 &&& (255 : Int32)) < 0 ∧ ((Ad (Int32.ofNat k)).toInt8.toInt32 &&& (255 : Int32)) < (256 : Int32) := by decide +kernel
theorem Cr {x : Int32} (h : Ag x) : ¬ ((Ad x).toInt8.toInt32 &&& (255 : Int32)) < 0 ∧ ((Ad x).toInt8.toInt32 &&& (255 : Int32)) < (256 : Int32) := by
  obtain ⟨k, hk, rfl⟩ := h; exact own_ti_k k hk
theorem own_na61_k : ∀ k < 64, ¬ (Ad (Int32.ofNat k)) = (61 : Int32) := by decide +kernel
theorem Do {x : Int32} (h : Ag x) : ¬ (Ad x) = (61 : Int32) := by
  obtain ⟨k, hk, rfl⟩ := h; exact own_na61_k k hk
theorem own_cc_k : ∀ k < 64, ((Ad (Int32.ofNat k)).toInt8.toInt32 &&& (255 : Int32)).toUInt32.toUInt16.toUInt32.toInt32 = (Ad (Int32.ofNat k)) := by decide +kernel
theorem Ce {x : Int32} (h : Ag x) : ((Ad x).toInt8.toInt32 &&& (255 : Int32)).toUInt32.toUInt16.toUInt32.toInt32 = (Ad x) := by
  obtain ⟨k, hk, rfl⟩ := h; exact own_cc_k k hk
theorem own_n61_k : ∀ k < 64, ¬ (Ad (Int32.ofNat k)).toInt8.toInt32 = (61 : Int32) := by decide +kernel
theorem Fe {x : Int32} (h : Ag x) : ¬ (Ad x).toInt8.toInt32 = (61 : Int32) := by
  obtain ⟨k, hk, rfl⟩ := h; exact own_n61_k k hk
theorem own_s1_k : ∀ k < 64, ¬ (Ad (Int32.ofNat k)) < (65 : Int32) → ¬ (90 : Int32) < (Ad (Int32.ofNat k)) → (Ad (Int32.ofNat k)) - (65 : Int32) = (Int32.ofNat k) := by decide +kernel
theorem own_s1 {x : Int32} (h : Ag x) : ¬ (Ad x) < (65 : Int32) → ¬ (90 : Int32) < (Ad x) → (Ad x) - (65 : Int32) = x := by
  obtain ⟨k, hk, rfl⟩ := h; exact own_s1_k k hk
theorem own_s2_k : ∀ k < 64, ¬ (Ad (Int32.ofNat k)) < (97 : Int32) → ¬ (122 : Int32) < (Ad (Int32.ofNat k)) → ((Ad (Int32.ofNat k)) - (97 : Int32)) + (26 : Int32) = (Int32.ofNat k) := by decide +kernel
theorem own_s2 {x : Int32} (h : Ag x) : ¬ (Ad x) < (97 : Int32) → ¬ (122 : Int32) < (Ad x) → ((Ad x) - (97 : Int32)) + (26 : Int32) = x := by
  obtain ⟨k, hk, rfl⟩ := h; exact own_s2_k k hk
theorem own_s3_k : ∀ k < 64, ¬ (Ad (Int32.ofNat k)) < (48 : Int32) → ¬ (57 : Int32) < (Ad (Int32.ofNat k)) → ((Ad (Int32.ofNat k)) - (48 : Int32)) + (52 : Int32) = (Int32.ofNat k) := by decide +kernel
theorem own_s3 {x : Int32} (h : Ag x) : ¬ (Ad x) < (48 : Int32) → ¬ (57 : Int32) < (Ad x) → ((Ad x) - (48 : Int32)) + (52 : Int32) = x := by
  obtain ⟨k, hk, rfl⟩ := h; exact own_s3_k k hk
theorem own_s4_k : ∀ k < 64, (Ad (Int32.ofNat k)) = (45 : Int32) → (Int32.ofNat k) = (62 : Int32) := by decide +kernel
theorem own_s4 {x : Int32} (h : Ag x) : (Ad x) = (45 : Int32) → x = (62 : Int32) := by
  obtain ⟨k, hk, rfl⟩ := h; exact own_s4_k k hk
theorem own_s5_k : ∀ k < 64, (Ad (Int32.ofNat k)) = (95 : Int32) → (Int32.ofNat k) = (63 : Int32) := by decide +kernel
theorem own_s5 {x : Int32} (h : Ag x) : (Ad x) = (95 : Int32) → x = (63 : Int32) := by
  obtain ⟨k, hk, rfl⟩ := h; exact own_s5_k k hk
theorem own_s6k_k : ∀ k < 64, (((((decide ((Ad (Int32.ofNat k)) < (65 : Int32)) || decide ((90 : Int32) < (Ad (Int32.ofNat k)))) && (decide ((Ad (Int32.ofNat k)) < (97 : Int32)) || decide ((122 : Int32) < (Ad (Int32.ofNat k))))) && (decide ((Ad (Int32.ofNat k)) < (48 : Int32)) || decide ((57 : Int32) < (Ad (Int32.ofNat k))))) && !decide ((Ad (Int32.ofNat k)) = (45 : Int32))) && !decide ((Ad (Int32.ofNat k)) = (95 : Int32))) = false := by decide +kernel
theorem own_s6k {x : Int32} (h : Ag x) : (((((decide ((Ad x) < (65 : Int32)) || decide ((90 : Int32) < (Ad x))) && (decide ((Ad x) < (97 : Int32)) || decide ((122 : Int32) < (Ad x)))) && (decide ((Ad x) < (48 : Int32)) || decide ((57 : Int32) < (Ad x)))) && !decide ((Ad x) = (45 : Int32))) && !decide ((Ad x) = (95 : Int32))) = false := by
  obtain ⟨k, hk, rfl⟩ := h; exact own_s6k_k k hk
theorem own_s6 {x : Int32} (h : Ag x) (h1 : (Ad x) < (65 : Int32) ∨ (90 : Int32) < (Ad x)) (h2 : (Ad x) < (97 : Int32) ∨ (122 : Int32) < (Ad x)) (h3 : (Ad x) < (48 : Int32) ∨ (57 : Int32) < (Ad x)) (h4 : ¬ (Ad x) = (45 : Int32)) (h5 : ¬ (Ad x) = (95 : Int32)) : ¬ (1 : Int32) = 1 := by
  have q := own_s6k h
  have e1 : (decide ((Ad x) < (65 : Int32)) || decide ((90 : Int32) < (Ad x))) = true := by rcases h1 with z | z <;> simp [z]
  have e2 : (decide ((Ad x) < (97 : Int32)) || decide ((122 : Int32) < (Ad x))) = true := by rcases h2 with z | z <;> simp [z]
  have e3 : (decide ((Ad x) < (48 : Int32)) || decide ((57 : Int32) < (Ad x))) = true := by rcases h3 with z | z <;> simp [z]
  rw [e1, e2, e3, decide_eq_false h4, decide_eq_false h5] at q
  cases q
theorem own_msb {x : BitVec 32} : x.toInt < 0 ↔ x.msb = true := by
  rw [BitVec.msb_eq_toInt, decide_eq_true_iff]
theorem own_or0 {a b : Int32} (ha : ¬ a < 0) (hb : ¬ b < 0) : ¬ (a ||| b) < 0 := by
  intro h
  rw [Int32.lt_iff_toInt_lt] at ha hb h
  have e0 : (0 : Int32).toInt = 0 := rfl
  rw [e0] at ha hb h
  have h1 : (a ||| b).toBitVec.msb = true := own_msb.mp h
  have h2 : a.toBitVec.msb = false := by
    cases q : a.toBitVec.msb
    · rfl
    · exact absurd (own_msb.mpr q) ha
  have h3 : b.toBitVec.msb = false := by
    cases q : b.toBitVec.msb
    · rfl
    · exact absurd (own_msb.mpr q) hb
  rw [Int32.toBitVec_or, BitVec.msb_or, h2, h3] at h1
  cases h1
theorem own_or4 {a b c d : Int32} (ha : Ag a) (hb : Ag b) (hc : Ag c) (hd : Ag d) : ¬ (((a ||| b) ||| c) ||| d) < 0 := own_or0 (own_or0 (own_or0 (Cd ha) (Cd hb)) (Cd hc)) (Cd hd)
theorem own_TA {s : State} {a : Array Value} {t : Term} {ty : FieldType} {dv : Value} {D : Addr} {n : Nat} (vs : List Value) (hn2 : n ≤ 4000) (d1 : t.eval a s none [] s = some (.ref D)) (h1 : (Jvm.Cond.arrayOf t ty).value a s none s [] = some true) (h2 : (Term.length t).eval a s none [] s = some (.int (Int32.ofNat n))) (h3 : ∀ i < n, (Term.elem t (.int (Int32.ofNat i))).eval a s none [] s = some (vs.getD i dv)) (h4 : ∀ i < n, fits ty (vs.getD i dv) = true) :
    ∃ k, Arv s s.heap D k ty (Int32.ofNat n) vs dv := by
  obtain ⟨D', c, d1', d2, e2⟩ := Term.length_spec h2
  cases d1.symm.trans d1'
  obtain ⟨c', A⟩ := Arr.start d1 h1
  have e3 : s.arrayAt? D = some c' := Arr.fin (Vm.Alike.refl _) A
  obtain rfl : c' = c := Option.some.inj (e3.symm.trans d2)
  have hlt : c'.slots.size < 2 ^ 31 := by
    by_cases g : c'.slots.size < 2 ^ 31
    · exact g
    · simp [Term.eval, d1, d2, g] at h2
  have e4 : c'.slots.size.toInt32 = Int32.ofNat n := (Value.int.inj e2).symm
  have e5 : c'.slots.size = n := by
    have := congrArg Int32.toInt e4
    rw [Jvm.RoadKit.len_toInt hlt, (own_oN hn2).1] at this
    omega
  refine ⟨c'.cls, ⟨c', A, rfl, by rw [e5, (own_oN hn2).2], (Fo hn2).1, fun i hi => ?_, fun i hi => h4 i (by omega)⟩⟩
  rw [e5] at hi
  obtain ⟨D', j, cell', g1, g2, g3, -, g4⟩ := Term.elem_spec (h3 i hi)
  rw [d1] at g1; cases g1
  rw [d2] at g3; cases g3
  rw [Term.int_eval] at g2
  cases g2
  rw [(own_oN (n := i) (by omega)).2] at g4
  exact g4
theorem own_fT {s : State} {a : Array Value} {t : Term} {C n d : String} {x : Addr} {v : Value} (e1 : t.eval a s none [] s = some (.ref x)) (e2 : (Term.field t C n d).eval a s none [] s = some v) : Fld s s.heap x C n d v := by
  simp only [Term.eval, e1, Option.bind_eq_bind, Option.bind_some] at e2
  exact Fld.start e2
theorem own_eqT {s : State} {a : Array Value} {t : Term} {v : Int32} (h : (Jvm.Cond.eq t (.int v)).value a s none s [] = some true) : t.eval a s none [] s = some (.int v) := by
  obtain ⟨y, e1, e2⟩ := Cond.eq_one (beq_iff_eq.mpr h : (Jvm.Cond.eq t (.int v)).holds a s none s [] = true)
  rw [Term.int_eval] at e2; cases e2; exact e1
theorem own_exne {s : State} {h : Heap} {a b : Addr} {C D : String} (x : Exa s h a C) (y : Exa s h b D) (hn : C ≠ D) : a ≠ b := by
  rintro rfl
  obtain ⟨c1, k1, a1, a2, a3, -⟩ := x
  obtain ⟨c2, k2, b1, b2, b3, -⟩ := y
  cases a1.symm.trans b1
  exact ids_ne a2 b2 hn rfl

theorem own_wB4 (a b c d : Nat) (ha : a < 64) (hb : b < 64) (hc : c < 64) (hd : d < 64) : Aq (Int32.ofNat a) (Int32.ofNat b) (Int32.ofNat c) (Int32.ofNat d) = Int32.ofNat (a * 2 ^ 18 + b * 2 ^ 12 + c * 2 ^ 6 + d) := by
  unfold Aq
  rw [Ec 18 (by decide) (by decide), Ec 12 (by decide) (by decide), Ec 6 (by decide) (by decide), Di, Di, Di, Fd a b c d hb hc hd]
theorem own_wS2 (a b : Nat) (ha : a < 64) (hb : b < 64) : Dg (Int32.ofNat a) (Int32.ofNat b) = Int32.ofNat (a * 2 ^ 18 + b * 2 ^ 12) := by
  unfold Dg
  rw [Ec 18 (by decide) (by decide), Ec 12 (by decide) (by decide), show (0 : Int32) = Int32.ofNat 0 from rfl, Di, Di, Nat.zero_or]
  have h := Fd a b 0 0 hb (by decide) (by decide)
  simp only [Nat.zero_mul, Nat.or_zero, Nat.add_zero] at h
  rw [h]
theorem own_wS3 (a b c : Nat) (ha : a < 64) (hb : b < 64) (hc : c < 64) : Ci (Int32.ofNat a) (Int32.ofNat b) (Int32.ofNat c) = Int32.ofNat (a * 2 ^ 18 + b * 2 ^ 12 + c * 2 ^ 6) := by
  unfold Ci
  rw [own_wS2 a b ha hb, Ec 6 (by decide) (by decide), Di]
  have h1 := Fd a b 0 0 hb (by decide) (by decide)
  have h2 := Fd a b c 0 hb hc (by decide)
  simp only [Nat.zero_mul, Nat.or_zero, Nat.add_zero] at h1 h2
  rw [← h2, h1]
theorem own_wS4 (a b c d : Nat) (ha : a < 64) (hb : b < 64) (hc : c < 64) (hd : d < 64) : Cz (Int32.ofNat a) (Int32.ofNat b) (Int32.ofNat c) (Int32.ofNat d) = Int32.ofNat (a * 2 ^ 18 + b * 2 ^ 12 + c * 2 ^ 6 + d) := by
  unfold Cz
  rw [own_wS3 a b c ha hb hc, Ec 0 (by decide) (by decide), Di, Nat.pow_zero, Nat.mul_one]
  have h1 := Fd a b c 0 hb hc (by decide)
  have h2 := Fd a b c d hb hc hd
  simp only [Nat.or_zero, Nat.add_zero] at h1
  rw [← h2, h1]
theorem own_oo0 {q : Nat} (h : q < 2 ^ 31) : Ay (Int32.ofNat q) = (Int8.ofNat (q / 2 ^ 16)).toInt32 := by
  unfold Ay
  rw [Fp 16 h (by decide) (by decide), Cw]
theorem own_oo1 {q : Nat} (h : q < 2 ^ 31) : Bk (Int32.ofNat q) = (Int8.ofNat (q / 2 ^ 8)).toInt32 := by
  unfold Bk
  rw [Fp 8 h (by decide) (by decide), Cw]
theorem own_oo2 {q : Nat} : Cc (Int32.ofNat q) = (Int8.ofNat q).toInt32 := by
  unfold Cc
  rw [Cw]
def Et (a : Int64) (i k : Int32) : Int32 := if i < k then ((Jvm.Free.XT.ushrL a ((8 : Int32) * i)) &&& 255).toInt32 else 0
def own_sb (a : Int64) (i : Int32) : Int32 := (Jvm.Free.XT.ushrL a ((8 : Int32) * i)).toInt32.toInt8.toInt32
def Am (x j m : Int32) : Int32 := if j < m then Ad x else 61
def Cn (u : Int32) : Prop := ∃ k, k < 256 ∧ u = Int32.ofNat k
theorem Bj {a : Int64} {i k : Int32} (h : i < k) : Et a i k = ((Jvm.Free.XT.ushrL a ((8 : Int32) * i)) &&& 255).toInt32 := if_pos h
theorem Cj {a : Int64} {i k : Int32} (h : ¬ i < k) : Et a i k = 0 := if_neg h
theorem Bp {x j m : Int32} (h : j < m) : Am x j m = Ad x := if_pos h
theorem Bz {x j m : Int32} (h : ¬ j < m) : Am x j m = 61 := if_neg h
theorem Eo {x j m : Int32} (h : Ag x) : (Am x j m).toUInt32.toUInt16.toUInt32.toInt32 = Am x j m := by
  by_cases q : j < m
  · rw [Bp q]; exact Ai h
  · rw [Bz q]; rfl
theorem own_c7 (x : Int32) : (x &&& 2147483647) % (7 : Int32) = 0 ∨ (x &&& 2147483647) % (7 : Int32) = 1 ∨ (x &&& 2147483647) % (7 : Int32) = 2 ∨ (x &&& 2147483647) % (7 : Int32) = 3 ∨ (x &&& 2147483647) % (7 : Int32) = 4 ∨ (x &&& 2147483647) % (7 : Int32) = 5 ∨ (x &&& 2147483647) % (7 : Int32) = 6 := by
  have h := c_and x (2147483647 : Int32) (by decide)
  have e1 : (7 : Int32).toInt = 7 := rfl
  have e2 : ((x &&& 2147483647) % (7 : Int32)).toInt = (x &&& (2147483647 : Int32)).toInt % 7 := by
    rw [Int32.toInt_mod, e1, Int.tmod_eq_emod_of_nonneg h.1]
  generalize (x &&& 2147483647) % (7 : Int32) = z at e2
  have e3 : z.toInt = 0 ∨ z.toInt = 1 ∨ z.toInt = 2 ∨ z.toInt = 3 ∨ z.toInt = 4 ∨ z.toInt = 5 ∨ z.toInt = 6 := by omega
  simp only [← Int32.toInt_inj]
  exact e3
theorem own_c1_k : ∀ k < 64, (Int32.ofNat k) < (26 : Int32) → ((65 : Int32) + (Int32.ofNat k)).toUInt32.toUInt16.toUInt32.toInt32 = Ad (Int32.ofNat k) := by decide +kernel
theorem own_c1 {x : Int32} (h : Ag x) : x < (26 : Int32) → ((65 : Int32) + x).toUInt32.toUInt16.toUInt32.toInt32 = Ad x := by
  obtain ⟨k, hk, rfl⟩ := h; exact own_c1_k k hk
theorem own_c2_k : ∀ k < 64, ¬ (Int32.ofNat k) < (26 : Int32) → (Int32.ofNat k) < (52 : Int32) → ((97 : Int32) + ((Int32.ofNat k) - (26 : Int32))).toUInt32.toUInt16.toUInt32.toInt32 = Ad (Int32.ofNat k) := by decide +kernel
theorem own_c2 {x : Int32} (h : Ag x) : ¬ x < (26 : Int32) → x < (52 : Int32) → ((97 : Int32) + (x - (26 : Int32))).toUInt32.toUInt16.toUInt32.toInt32 = Ad x := by
  obtain ⟨k, hk, rfl⟩ := h; exact own_c2_k k hk
theorem own_c3_k : ∀ k < 64, ¬ (Int32.ofNat k) < (52 : Int32) → (Int32.ofNat k) < (62 : Int32) → ((48 : Int32) + ((Int32.ofNat k) - (52 : Int32))).toUInt32.toUInt16.toUInt32.toInt32 = Ad (Int32.ofNat k) := by decide +kernel
theorem own_c3 {x : Int32} (h : Ag x) : ¬ x < (52 : Int32) → x < (62 : Int32) → ((48 : Int32) + (x - (52 : Int32))).toUInt32.toUInt16.toUInt32.toInt32 = Ad x := by
  obtain ⟨k, hk, rfl⟩ := h; exact own_c3_k k hk
theorem own_c4_k : ∀ k < 64, (Int32.ofNat k) = (62 : Int32) → (45 : Int32) = Ad (Int32.ofNat k) := by decide +kernel
theorem own_c4 {x : Int32} (h : Ag x) : x = (62 : Int32) → (45 : Int32) = Ad x := by
  obtain ⟨k, hk, rfl⟩ := h; exact own_c4_k k hk
theorem own_c5_k : ∀ k < 64, ¬ (Int32.ofNat k) < (62 : Int32) → ¬ (Int32.ofNat k) = (62 : Int32) → (95 : Int32) = Ad (Int32.ofNat k) := by decide +kernel
theorem own_c5 {x : Int32} (h : Ag x) : ¬ x < (62 : Int32) → ¬ x = (62 : Int32) → (95 : Int32) = Ad x := by
  obtain ⟨k, hk, rfl⟩ := h; exact own_c5_k k hk

theorem Dl : Cn 0 := ⟨0, by decide, rfl⟩
theorem Ff (a : Int64) (i k : Int32) : Cn (Et a i k) := by
  by_cases h : i < k
  · rw [Bj h]; exact ⟨_, Nat.mod_lt _ (by decide), own_m255 _⟩
  · rw [Cj h]; exact Dl
theorem Eu {a : Nat} (ha : a < 256) : Int32.ofNat a >>> ((2 : Int32) &&& 31) = Int32.ofNat (a / 4) := Fp 2 (by omega) (by decide) (by decide)
theorem Ef {a b : Nat} (ha : a < 256) (hb : b < 256) : ((Int32.ofNat a &&& (3 : Int32)) <<< ((4 : Int32) &&& 31)) ||| (Int32.ofNat b >>> ((4 : Int32) &&& 31)) = Int32.ofNat (a % 4 * 16 + b / 16) := by
  rw [show (3 : Int32) = Int32.ofNat 3 from rfl, Dv, Ec 4 (by decide) (by decide), Fp 4 (by omega) (by decide) (by decide), Di, show (3 : Nat) = 2 ^ 2 - 1 from rfl, Nat.and_two_pow_sub_one_eq_mod, Nat.mul_comm (a % 2 ^ 2), ← Nat.two_pow_add_eq_or_of_lt (by omega)]
  all_goals (congr 1; omega)
theorem Ev {a b : Nat} (ha : a < 256) (hb : b < 256) : ((Int32.ofNat a &&& (15 : Int32)) <<< ((2 : Int32) &&& 31)) ||| (Int32.ofNat b >>> ((6 : Int32) &&& 31)) = Int32.ofNat (a % 16 * 4 + b / 64) := by
  rw [show (15 : Int32) = Int32.ofNat 15 from rfl, Dv, Ec 2 (by decide) (by decide), Fp 6 (by omega) (by decide) (by decide), Di, show (15 : Nat) = 2 ^ 4 - 1 from rfl, Nat.and_two_pow_sub_one_eq_mod, Nat.mul_comm (a % 2 ^ 4), ← Nat.two_pow_add_eq_or_of_lt (by omega)]
  all_goals (congr 1; omega)
theorem Fj {a : Nat} : Int32.ofNat a &&& (63 : Int32) = Int32.ofNat (a % 64) := by
  rw [show (63 : Int32) = Int32.ofNat 63 from rfl, Dv, show (63 : Nat) = 2 ^ 6 - 1 from rfl, Nat.and_two_pow_sub_one_eq_mod]
theorem own_xs0 {u : Int32} (h : Cn u) : Ag (u >>> ((2 : Int32) &&& 31)) := by
  obtain ⟨a, ha, rfl⟩ := h; rw [Eu ha]; exact ⟨_, by omega, rfl⟩
theorem own_xs1 {u v : Int32} (h : Cn u) (g : Cn v) : Ag (((u &&& (3 : Int32)) <<< ((4 : Int32) &&& 31)) ||| (v >>> ((4 : Int32) &&& 31))) := by
  obtain ⟨a, ha, rfl⟩ := h; obtain ⟨b, hb, rfl⟩ := g; rw [Ef ha hb]; exact ⟨_, by omega, rfl⟩
theorem own_xs2 {u v : Int32} (h : Cn u) (g : Cn v) : Ag (((u &&& (15 : Int32)) <<< ((2 : Int32) &&& 31)) ||| (v >>> ((6 : Int32) &&& 31))) := by
  obtain ⟨a, ha, rfl⟩ := h; obtain ⟨b, hb, rfl⟩ := g; rw [Ev ha hb]; exact ⟨_, by omega, rfl⟩
theorem own_xs3 {u : Int32} (h : Cn u) : Ag (u &&& (63 : Int32)) := by
  obtain ⟨a, ha, rfl⟩ := h; rw [Fj]; exact ⟨_, by omega, rfl⟩
theorem own_q2 {u : Int32} (h : Cn u) : ((((u &&& (3 : Int32)) <<< ((4 : Int32) &&& 31)) ||| ((0 : Int32) >>> ((4 : Int32) &&& 31))) &&& (((1 : Int32) <<< ((4 : Int32) &&& 31)) - (1 : Int32))) = (0 : Int32) := by
  obtain ⟨a, ha, rfl⟩ := h
  rw [show (0 : Int32) = Int32.ofNat 0 from rfl, Ef ha (by decide), show (((1 : Int32) <<< ((4 : Int32) &&& 31)) - (1 : Int32)) = Int32.ofNat 15 from by decide, Dv, show (15 : Nat) = 2 ^ 4 - 1 from rfl, Nat.and_two_pow_sub_one_eq_mod]
  all_goals (congr 1; omega)
theorem own_q3 {u : Int32} (h : Cn u) : ((((u &&& (15 : Int32)) <<< ((2 : Int32) &&& 31)) ||| ((0 : Int32) >>> ((6 : Int32) &&& 31))) &&& (((1 : Int32) <<< ((2 : Int32) &&& 31)) - (1 : Int32))) = (0 : Int32) := by
  obtain ⟨a, ha, rfl⟩ := h
  rw [show (0 : Int32) = Int32.ofNat 0 from rfl, Ev ha (by decide), show (((1 : Int32) <<< ((2 : Int32) &&& 31)) - (1 : Int32)) = Int32.ofNat 3 from by decide, Dv, show (3 : Nat) = 2 ^ 2 - 1 from rfl, Nat.and_two_pow_sub_one_eq_mod]
  all_goals (congr 1; omega)
theorem Bt (a : Int64) (i : Int32) : ((Jvm.Free.XT.ushrL a ((8 : Int32) * i)) &&& 255).toInt32.toInt8.toInt32 = own_sb a i := by
  unfold own_sb
  rw [own_m255, Cw, own_t8]
theorem Dw {u v w : Int32} (h : Cn u) (g : Cn v) (i : Cn w) : Ay (Aq (u >>> ((2 : Int32) &&& 31)) (((u &&& (3 : Int32)) <<< ((4 : Int32) &&& 31)) ||| (v >>> ((4 : Int32) &&& 31))) (((v &&& (15 : Int32)) <<< ((2 : Int32) &&& 31)) ||| (w >>> ((6 : Int32) &&& 31))) (w &&& (63 : Int32))) = u.toInt8.toInt32 := by
  obtain ⟨a, ha, rfl⟩ := h; obtain ⟨b, hb, rfl⟩ := g; obtain ⟨c, hc, rfl⟩ := i
  rw [Eu ha, Ef ha hb, Ev hb hc, Fj, own_wB4 _ _ _ _ (by omega) (by omega) (by omega) (by omega), own_oo0 (by omega), Cw]
  apply Ed
  omega
theorem Dx {u v w : Int32} (h : Cn u) (g : Cn v) (i : Cn w) : Bk (Aq (u >>> ((2 : Int32) &&& 31)) (((u &&& (3 : Int32)) <<< ((4 : Int32) &&& 31)) ||| (v >>> ((4 : Int32) &&& 31))) (((v &&& (15 : Int32)) <<< ((2 : Int32) &&& 31)) ||| (w >>> ((6 : Int32) &&& 31))) (w &&& (63 : Int32))) = v.toInt8.toInt32 := by
  obtain ⟨a, ha, rfl⟩ := h; obtain ⟨b, hb, rfl⟩ := g; obtain ⟨c, hc, rfl⟩ := i
  rw [Eu ha, Ef ha hb, Ev hb hc, Fj, own_wB4 _ _ _ _ (by omega) (by omega) (by omega) (by omega), own_oo1 (by omega), Cw]
  apply Ed
  omega
theorem Dy {u v w : Int32} (h : Cn u) (g : Cn v) (i : Cn w) : Cc (Aq (u >>> ((2 : Int32) &&& 31)) (((u &&& (3 : Int32)) <<< ((4 : Int32) &&& 31)) ||| (v >>> ((4 : Int32) &&& 31))) (((v &&& (15 : Int32)) <<< ((2 : Int32) &&& 31)) ||| (w >>> ((6 : Int32) &&& 31))) (w &&& (63 : Int32))) = w.toInt8.toInt32 := by
  obtain ⟨a, ha, rfl⟩ := h; obtain ⟨b, hb, rfl⟩ := g; obtain ⟨c, hc, rfl⟩ := i
  rw [Eu ha, Ef ha hb, Ev hb hc, Fj, own_wB4 _ _ _ _ (by omega) (by omega) (by omega) (by omega), own_oo2, Cw]
  apply Ed
  omega
theorem own_S4_0 {u v w : Int32} (h : Cn u) (g : Cn v) (i : Cn w) : Ay (Cz (u >>> ((2 : Int32) &&& 31)) (((u &&& (3 : Int32)) <<< ((4 : Int32) &&& 31)) ||| (v >>> ((4 : Int32) &&& 31))) (((v &&& (15 : Int32)) <<< ((2 : Int32) &&& 31)) ||| (w >>> ((6 : Int32) &&& 31))) (w &&& (63 : Int32))) = u.toInt8.toInt32 := by
  obtain ⟨a, ha, rfl⟩ := h; obtain ⟨b, hb, rfl⟩ := g; obtain ⟨c, hc, rfl⟩ := i
  rw [Eu ha, Ef ha hb, Ev hb hc, Fj, own_wS4 _ _ _ _ (by omega) (by omega) (by omega) (by omega), own_oo0 (by omega), Cw]
  apply Ed
  omega
theorem own_S4_1 {u v w : Int32} (h : Cn u) (g : Cn v) (i : Cn w) : Bk (Cz (u >>> ((2 : Int32) &&& 31)) (((u &&& (3 : Int32)) <<< ((4 : Int32) &&& 31)) ||| (v >>> ((4 : Int32) &&& 31))) (((v &&& (15 : Int32)) <<< ((2 : Int32) &&& 31)) ||| (w >>> ((6 : Int32) &&& 31))) (w &&& (63 : Int32))) = v.toInt8.toInt32 := by
  obtain ⟨a, ha, rfl⟩ := h; obtain ⟨b, hb, rfl⟩ := g; obtain ⟨c, hc, rfl⟩ := i
  rw [Eu ha, Ef ha hb, Ev hb hc, Fj, own_wS4 _ _ _ _ (by omega) (by omega) (by omega) (by omega), own_oo1 (by omega), Cw]
  apply Ed
  omega
theorem own_S4_2 {u v w : Int32} (h : Cn u) (g : Cn v) (i : Cn w) : Cc (Cz (u >>> ((2 : Int32) &&& 31)) (((u &&& (3 : Int32)) <<< ((4 : Int32) &&& 31)) ||| (v >>> ((4 : Int32) &&& 31))) (((v &&& (15 : Int32)) <<< ((2 : Int32) &&& 31)) ||| (w >>> ((6 : Int32) &&& 31))) (w &&& (63 : Int32))) = w.toInt8.toInt32 := by
  obtain ⟨a, ha, rfl⟩ := h; obtain ⟨b, hb, rfl⟩ := g; obtain ⟨c, hc, rfl⟩ := i
  rw [Eu ha, Ef ha hb, Ev hb hc, Fj, own_wS4 _ _ _ _ (by omega) (by omega) (by omega) (by omega), own_oo2, Cw]
  apply Ed
  omega
theorem Fq {u v w : Int32} (h : Cn u) (g : Cn v) (i : Cn w) : Ay (Ci (u >>> ((2 : Int32) &&& 31)) (((u &&& (3 : Int32)) <<< ((4 : Int32) &&& 31)) ||| (v >>> ((4 : Int32) &&& 31))) (((v &&& (15 : Int32)) <<< ((2 : Int32) &&& 31)) ||| (w >>> ((6 : Int32) &&& 31)))) = u.toInt8.toInt32 := by
  obtain ⟨a, ha, rfl⟩ := h; obtain ⟨b, hb, rfl⟩ := g; obtain ⟨c, hc, rfl⟩ := i
  rw [Eu ha, Ef ha hb, Ev hb hc, own_wS3 _ _ _ (by omega) (by omega) (by omega), own_oo0 (by omega), Cw]
  apply Ed
  omega
theorem Fs {u v w : Int32} (h : Cn u) (g : Cn v) (i : Cn w) : Bk (Ci (u >>> ((2 : Int32) &&& 31)) (((u &&& (3 : Int32)) <<< ((4 : Int32) &&& 31)) ||| (v >>> ((4 : Int32) &&& 31))) (((v &&& (15 : Int32)) <<< ((2 : Int32) &&& 31)) ||| (w >>> ((6 : Int32) &&& 31)))) = v.toInt8.toInt32 := by
  obtain ⟨a, ha, rfl⟩ := h; obtain ⟨b, hb, rfl⟩ := g; obtain ⟨c, hc, rfl⟩ := i
  rw [Eu ha, Ef ha hb, Ev hb hc, own_wS3 _ _ _ (by omega) (by omega) (by omega), own_oo1 (by omega), Cw]
  apply Ed
  omega
theorem Ft {u v w : Int32} (h : Cn u) (g : Cn v) (i : Cn w) : Ay (Dg (u >>> ((2 : Int32) &&& 31)) (((u &&& (3 : Int32)) <<< ((4 : Int32) &&& 31)) ||| (v >>> ((4 : Int32) &&& 31)))) = u.toInt8.toInt32 := by
  obtain ⟨a, ha, rfl⟩ := h; obtain ⟨b, hb, rfl⟩ := g; obtain ⟨c, hc, rfl⟩ := i
  rw [Eu ha, Ef ha hb, own_wS2 _ _ (by omega) (by omega), own_oo0 (by omega), Cw]
  apply Ed
  omega

variable (l : Launch) (Z : State) (a0 : Array Value)
theorem own_coder (hw : Aj a0 Z) (G1 : Int32) (G3 : Value) (x : Addr) (h0 : Heap) (n0 : Nat) (z0 : n0 ≤ h0.size) (X00 : Old Z n0 h0) (pC : Fld Z h0 x "java/lang/String" "coder" "B" (.int 0)) (O2 : Sta Z Z.heap "java/lang/String" "COMPACT_STRINGS" "Z" (.int G1)) (O4 : Sta Z Z.heap "jdk/internal/util/Preconditions" "SIOOBE_FORMATTER" "Ljava/util/function/BiFunction;" G3) (P5 : ¬ G1 = (0 : Int32)) (rG3 : G3.isRef = true) :
    Af l Z (⟨"java/lang/String", "coder", "()B"⟩ : MethodName) jdk_42_method_152_code 1 (some .byte) ({ frames := 0, cells := 0, slots := 0, locals := 0 } : Room) n0 #[(.ref x)] h0 (fun v h => v = some (.int 0) ∧ h = h0) := by
  refine Ar #[.val (.ref x)] ?_
  intro p e s m below meth c T0 C S0
  refine Bi C S0 (ow hw 30 rfl) Via.refl (O2.ext X00.2) (by decide +kernel) ?_
  intro T1 S2
  refine Bh C S2 .eq 10 13 (fun (hq : G1 = (0 : Int32)) => False.elim (P5 hq)) (fun (q3 : ¬ G1 = (0 : Int32)) => ?_)
  refine Ac C S2 [(6, .aload_n 0, 1)] 7 #[Ab x] [.ref x] ?_
  refine Ch C S2 hw 42 pC ?_
  intro T4 S5
  refine Ac C S5 [(10, .goto 4, 3)] 14 #[Ab x] [.int 0] ?_
  refine Ee C S5 (by decide +kernel) rfl (by decide) (by decide) ?_
  exact ⟨rfl, rfl⟩
theorem Fu (hw : Aj a0 Z) (G1 : Int32) (G3 : Value) (x : Addr) (h0 : Heap) (n0 : Nat) (z0 : n0 ≤ h0.size) (X00 : Old Z n0 h0) (pC : Fld Z h0 x "java/lang/String" "coder" "B" (.int 0)) (O2 : Sta Z Z.heap "java/lang/String" "COMPACT_STRINGS" "Z" (.int G1)) (O4 : Sta Z Z.heap "jdk/internal/util/Preconditions" "SIOOBE_FORMATTER" "Ljava/util/function/BiFunction;" G3) (P5 : ¬ G1 = (0 : Int32)) (rG3 : G3.isRef = true) :
    Af l Z (⟨"java/lang/String", "isLatin1", "()Z"⟩ : MethodName) jdk_42_method_154_code 1 (some .boolean) ({ frames := 0, cells := 0, slots := 0, locals := 0 } : Room) n0 #[(.ref x)] h0 (fun v h => v = some (.int 1) ∧ h = h0) := by
  refine Ar #[.val (.ref x)] ?_
  intro p e s m below meth c T0 C S0
  refine Bi C S0 (ow hw 30 rfl) Via.refl (O2.ext X00.2) (by decide +kernel) ?_
  intro T1 S2
  refine Bh C S2 .eq 14 17 (fun (hq : G1 = (0 : Int32)) => False.elim (P5 hq)) (fun (q3 : ¬ G1 = (0 : Int32)) => ?_)
  refine Ac C S2 [(6, .aload_n 0, 1)] 7 #[Ab x] [.ref x] ?_
  refine Ch C S2 hw 42 pC ?_
  intro T4 S5
  refine Bh C S5 .ne 7 17 (fun (hq : ¬ 0 = (0 : Int32)) => False.elim (hq rfl)) (fun (q6 : 0 = (0 : Int32)) => ?_)
  refine Ac C S5 [(13, .iconst 1, 1), (14, .goto 4, 3)] 18 #[Ab x] [.int 1] ?_
  refine own_retZ C S5 (by decide +kernel) (by decide) (by decide) (by decide) ?_
  exact ⟨rfl, rfl⟩
theorem own_pd0 : parseMethodDescriptor "()B" = some ⟨[], (some .byte)⟩ := by decide +kernel
theorem At (hw : Aj a0 Z) (G1 : Int32) (G3 : Value) (x : Addr) (t : Addr) (tk : ClassId) (N : Int32) (vs : List Value) (h0 : Heap) (n0 : Nat) (z0 : n0 ≤ h0.size) (X00 : Old Z n0 h0) (xE : Exa Z h0 x "java/lang/String") (xV : Fld Z h0 x "java/lang/String" "value" "[B" (.ref t)) (xC : Fld Z h0 x "java/lang/String" "coder" "B" (.int 0)) (tK : Arv Z h0 t tk .byte N vs (.int 0)) (O2 : Sta Z Z.heap "java/lang/String" "COMPACT_STRINGS" "Z" (.int G1)) (O4 : Sta Z Z.heap "jdk/internal/util/Preconditions" "SIOOBE_FORMATTER" "Ljava/util/function/BiFunction;" G3) (P5 : ¬ G1 = (0 : Int32)) (rG3 : G3.isRef = true) :
    Af l Z (⟨"java/lang/String", "length", "()I"⟩ : MethodName) jdk_42_method_54_code 1 (some .int) ({ frames := 1, cells := 0, slots := 0, locals := 13 } : Room) n0 #[(.ref x)] h0 (fun v h => v = some (.int (N >>> ((0 : Int32) &&& 31))) ∧ h = h0) := by
  refine Ar #[.val (.ref x)] ?_
  intro p e s m below meth c T0 C S0
  refine Ac C S0 [(0, .aload_n 0, 1)] 1 #[Ab x] [.ref x] ?_
  refine Ch C S0 hw 44 xV ?_
  intro T1 S2
  refine Au C S2 tK (by decide +kernel) ?_
  refine Ac C S2 [(5, .aload_n 0, 1)] 6 #[Ab x] [.ref x, .int N] ?_
  refine Ah C S2 hw 62 63 65 65 64 66 19 (own_coder l Z a0 hw G1 G3 x h0 n0 z0 X00 xC O2 O4 P5 rG3) 1 xE [] [.int N] own_pd0 ?_
  rintro T4 h5 v6 L7 S8 ⟨⟨rfl, e3⟩, -⟩
  rw [e3] at S8; clear e3
  refine Ac C S8 [(9, .ishr, 1)] 10 #[Ab x] [.int (N >>> (0 &&& 31))] ?_
  refine Bq C S8 (by decide +kernel) (by decide) (by decide) ?_
  exact ⟨rfl, rfl⟩
theorem own_pciN (hw : Aj a0 Z) (j : Int32) (n : Int32) (h0 : Heap) (n0 : Nat) (z0 : n0 ≤ h0.size) (hi : ¬ j < 0 ∧ j < n) :
    Af l Z (⟨"jdk/internal/util/Preconditions", "checkIndex", "(IILjava/util/function/BiFunction;)I"⟩ : MethodName) jdk_41_method_11_code 3 (some .int) ({ frames := 0, cells := 0, slots := 0, locals := 0 } : Room) n0 #[(.int j), (.int n), .null] h0 (fun v h => v = some (.int j) ∧ h = h0) := by
  refine Ar #[.val (.int j), .val (.int n), .val .null] ?_
  intro p e s m below meth c T0 C S0
  refine Ac C S0 [(0, .iload_n 0, 1)] 1 #[Aa j, Aa n, .val .null] [.int j] ?_
  refine Bh C S0 .lt 8 9 (fun (hq : j < (0 : Int32)) => False.elim (hi.1 hq)) (fun (q1 : ¬ j < (0 : Int32)) => ?_)
  refine Ac C S0 [(4, .iload_n 0, 1), (5, .iload_n 1, 1)] 6 #[Aa j, Aa n, .val .null] [.int n, .int j] ?_
  refine Bg C S0 .lt 10 16 (fun (q2 : j < n) => ?_) (fun (hq : ¬ j < n) => False.elim (hq hi.2))
  refine Ac C S0 [(16, .iload_n 0, 1)] 17 #[Aa j, Aa n, .val .null] [.int j] ?_
  refine Bq C S0 (by decide +kernel) (by decide) (by decide) ?_
  exact ⟨rfl, rfl⟩
theorem own_pciR (hw : Aj a0 Z) (j : Int32) (n : Int32) (g : Addr) (h0 : Heap) (n0 : Nat) (z0 : n0 ≤ h0.size) (hi : ¬ j < 0 ∧ j < n) :
    Af l Z (⟨"jdk/internal/util/Preconditions", "checkIndex", "(IILjava/util/function/BiFunction;)I"⟩ : MethodName) jdk_41_method_11_code 3 (some .int) ({ frames := 0, cells := 0, slots := 0, locals := 0 } : Room) n0 #[(.int j), (.int n), (.ref g)] h0 (fun v h => v = some (.int j) ∧ h = h0) := by
  refine Ar #[.val (.int j), .val (.int n), .val (.ref g)] ?_
  intro p e s m below meth c T0 C S0
  refine Ac C S0 [(0, .iload_n 0, 1)] 1 #[Aa j, Aa n, Ab g] [.int j] ?_
  refine Bh C S0 .lt 8 9 (fun (hq : j < (0 : Int32)) => False.elim (hi.1 hq)) (fun (q1 : ¬ j < (0 : Int32)) => ?_)
  refine Ac C S0 [(4, .iload_n 0, 1), (5, .iload_n 1, 1)] 6 #[Aa j, Aa n, Ab g] [.int n, .int j] ?_
  refine Bg C S0 .lt 10 16 (fun (q2 : j < n) => ?_) (fun (hq : ¬ j < n) => False.elim (hq hi.2))
  refine Ac C S0 [(16, .iload_n 0, 1)] 17 #[Aa j, Aa n, Ab g] [.int j] ?_
  refine Bq C S0 (by decide +kernel) (by decide) (by decide) ?_
  exact ⟨rfl, rfl⟩
theorem own_pd1 : parseMethodDescriptor "(IILjava/util/function/BiFunction;)I" = some ⟨[.int, .int, (.object "java/util/function/BiFunction")], (some .int)⟩ := by decide +kernel
theorem own_sci (hw : Aj a0 Z) (G1 : Int32) (G3 : Value) (j : Int32) (n : Int32) (h0 : Heap) (n0 : Nat) (z0 : n0 ≤ h0.size) (X00 : Old Z n0 h0) (O2 : Sta Z Z.heap "java/lang/String" "COMPACT_STRINGS" "Z" (.int G1)) (O4 : Sta Z Z.heap "jdk/internal/util/Preconditions" "SIOOBE_FORMATTER" "Ljava/util/function/BiFunction;" G3) (P5 : ¬ G1 = (0 : Int32)) (rG3 : G3.isRef = true) (hi : ¬ j < 0 ∧ j < n) :
    Af l Z (⟨"java/lang/String", "checkIndex", "(II)V"⟩ : MethodName) jdk_42_method_155_code 2 none ({ frames := 1, cells := 0, slots := 0, locals := 14 } : Room) n0 #[(.int j), (.int n)] h0 (fun v h => v = none ∧ h = h0) := by
  refine Ar #[.val (.int j), .val (.int n)] ?_
  intro p e s m below meth c T0 C S0
  refine Ac C S0 [(0, .iload_n 0, 1), (1, .iload_n 1, 1)] 2 #[Aa j, Aa n] [.int n, .int j] ?_
  rcases ref_cases rG3 with e3 | ⟨g, e3⟩
  · subst e3
    refine Bi C S0 (ow hw 84 rfl) Via.refl (O4.ext X00.2) (by decide +kernel) ?_
    intro T1 S2
    refine Ae C S2 hw 86 87 85 88 (own_pciN l Z a0 hw j n h0 n0 z0 hi) 0 [.int j, .int n, .null] [] own_pd1 ?_
    rintro T4 h5 v6 L7 S8 ⟨⟨rfl, e3⟩, -⟩
    rw [e3] at S8; clear e3
    refine Ac C S8 [(8, .pop, 1)] 9 #[Aa j, Aa n] [] ?_
    refine Ct C S8 (by decide +kernel) (by decide) (by decide) ?_
    exact ⟨rfl, rfl⟩
  · subst e3
    refine Bi C S0 (ow hw 84 rfl) Via.refl (O4.ext X00.2) (by decide +kernel) ?_
    intro T9 S10
    refine Ae C S10 hw 86 87 85 88 (own_pciR l Z a0 hw j n g h0 n0 z0 hi) 0 [.int j, .int n, .ref g] [] own_pd1 ?_
    rintro T12 h13 v14 L15 S16 ⟨⟨rfl, e11⟩, -⟩
    rw [e11] at S16; clear e11
    refine Ac C S16 [(8, .pop, 1)] 9 #[Aa j, Aa n] [] ?_
    refine Ct C S16 (by decide +kernel) (by decide) (by decide) ?_
    exact ⟨rfl, rfl⟩
theorem Fv : parseMethodDescriptor "(II)V" = some ⟨[.int, .int], none⟩ := by decide +kernel
theorem own_lch (hw : Aj a0 Z) (G1 : Int32) (G3 : Value) (t : Addr) (tk : ClassId) (N : Int32) (vs : List Value) (j : Int32) (bv : Int32) (cc : Int32) (h0 : Heap) (n0 : Nat) (z0 : n0 ≤ h0.size) (X00 : Old Z n0 h0) (tK : Arv Z h0 t tk .byte N vs (.int 0)) (O2 : Sta Z Z.heap "java/lang/String" "COMPACT_STRINGS" "Z" (.int G1)) (O4 : Sta Z Z.heap "jdk/internal/util/Preconditions" "SIOOBE_FORMATTER" "Ljava/util/function/BiFunction;" G3) (P5 : ¬ G1 = (0 : Int32)) (rG3 : G3.isRef = true) (hi : ¬ j < 0 ∧ j < N) (hv : vs.getD j.toNatClampNeg (.int 0) = .int bv) (hcc : (bv &&& (255 : Int32)).toUInt32.toUInt16.toUInt32.toInt32 = cc) (hcz : cc.toUInt32.toUInt16.toUInt32.toInt32 = cc) :
    Af l Z (⟨"java/lang/StringLatin1", "charAt", "([BI)C"⟩ : MethodName) jdk_43_method_2_code 2 (some .char) ({ frames := 2, cells := 0, slots := 0, locals := 27 } : Room) n0 #[(.ref t), (.int j)] h0 (fun v h => v = some (.int cc) ∧ h = h0) := by
  refine Ar #[.val (.ref t), .val (.int j)] ?_
  intro p e s m below meth c T0 C S0
  refine Ac C S0 [(0, .iload_n 1, 1), (1, .aload_n 0, 1)] 2 #[Ab t, Aa j] [.ref t, .int j] ?_
  refine Au C S0 tK (by decide +kernel) ?_
  refine Ae C S0 hw 81 82 19 83 (own_sci l Z a0 hw G1 G3 j N h0 n0 z0 X00 O2 O4 P5 rG3 hi) 0 [.int j, .int N] [] Fv ?_
  rintro T2 h3 v4 L5 S6 ⟨⟨rfl, e1⟩, -⟩
  rw [e1] at S6; clear e1
  refine Ac C S6 [(6, .aload_n 0, 1), (7, .iload_n 1, 1)] 8 #[Ab t, Aa j] [.int j, .ref t] ?_
  refine Bb C S6 tK hi (.int bv) hv (by decide +kernel) ?_
  refine Ac C S6 [(9, .sipush 255, 3), (12, .iand, 1), (13, .i2c, 1)] 14 #[Ab t, Aa j] [.int ((bv &&& (255 : Int32)).toUInt32.toUInt16.toUInt32.toInt32)] ?_
  rw [show (bv &&& (255 : Int32)).toUInt32.toUInt16.toUInt32.toInt32 = cc from hcc]
  refine Ds C S6 (by decide +kernel) hcz (by decide) (by decide) ?_
  exact ⟨rfl, rfl⟩
theorem Fw : parseMethodDescriptor "()Z" = some ⟨[], (some .boolean)⟩ := by decide +kernel
theorem own_pd4 : parseMethodDescriptor "([BI)C" = some ⟨[(.array .byte), .int], (some .char)⟩ := by decide +kernel
theorem Bm (hw : Aj a0 Z) (G1 : Int32) (G3 : Value) (x : Addr) (t : Addr) (tk : ClassId) (N : Int32) (vs : List Value) (j : Int32) (bv : Int32) (cc : Int32) (h0 : Heap) (n0 : Nat) (z0 : n0 ≤ h0.size) (X00 : Old Z n0 h0) (xE : Exa Z h0 x "java/lang/String") (xV : Fld Z h0 x "java/lang/String" "value" "[B" (.ref t)) (xC : Fld Z h0 x "java/lang/String" "coder" "B" (.int 0)) (tK : Arv Z h0 t tk .byte N vs (.int 0)) (O2 : Sta Z Z.heap "java/lang/String" "COMPACT_STRINGS" "Z" (.int G1)) (O4 : Sta Z Z.heap "jdk/internal/util/Preconditions" "SIOOBE_FORMATTER" "Ljava/util/function/BiFunction;" G3) (P5 : ¬ G1 = (0 : Int32)) (rG3 : G3.isRef = true) (hi : ¬ j < 0 ∧ j < N) (hv : vs.getD j.toNatClampNeg (.int 0) = .int bv) (hcc : (bv &&& (255 : Int32)).toUInt32.toUInt16.toUInt32.toInt32 = cc) (hcz : cc.toUInt32.toUInt16.toUInt32.toInt32 = cc) :
    Af l Z (⟨"java/lang/String", "charAt", "(I)C"⟩ : MethodName) jdk_42_method_56_code 2 (some .char) ({ frames := 3, cells := 0, slots := 0, locals := 40 } : Room) n0 #[(.ref x), (.int j)] h0 (fun v h => v = some (.int cc) ∧ h = h0) := by
  refine Ar #[.val (.ref x), .val (.int j)] ?_
  intro p e s m below meth c T0 C S0
  refine Ac C S0 [(0, .aload_n 0, 1)] 1 #[Ab x, Aa j] [.ref x] ?_
  refine Ah C S0 hw 72 73 75 75 74 76 19 (Fu l Z a0 hw G1 G3 x h0 n0 z0 X00 xC O2 O4 P5 rG3) 0 xE [] [] Fw ?_
  rintro T2 h3 v4 L5 S6 ⟨⟨rfl, e1⟩, -⟩
  rw [e1] at S6; clear e1
  refine Bh C S6 .eq 12 16 (fun (hq : (1 : Int32) = 0) => False.elim (absurd hq (by decide))) (fun (q7 : ¬ (1 : Int32) = 0) => ?_)
  refine Ac C S6 [(7, .aload_n 0, 1)] 8 #[Ab x, Aa j] [.ref x] ?_
  refine Ch C S6 hw 44 xV ?_
  intro T8 S9
  refine Ac C S9 [(11, .iload_n 1, 1)] 12 #[Ab x, Aa j] [.int j, .ref t] ?_
  refine Ae C S9 hw 77 78 79 80 (own_lch l Z a0 hw G1 G3 t _ _ _ j bv cc h0 n0 z0 X00 tK O2 O4 P5 rG3 hi hv hcc hcz) 0 [.ref t, .int j] [] own_pd4 ?_
  rintro T11 h12 v13 L14 S15 ⟨⟨rfl, e10⟩, -⟩
  rw [e10] at S15; clear e10
  refine Ds C S15 (by decide +kernel) hcz (by decide) (by decide) ?_
  exact ⟨rfl, rfl⟩
theorem own_e3 (hw : Aj a0 Z) (G1 : Int32) (G3 : Value) (U8 : Addr) (I8 : Addr) (TB : Addr) (DE : Addr) (b : Addr) (bk : ClassId) (N : Int32) (vs : List Value) (h0 : Heap) (n0 : Nat) (z0 : n0 ≤ h0.size) (X00 : Old Z n0 h0) (bK : Arv Z h0 b bk .byte N vs (.int 0)) (bE : Exa Z h0 b "[B") (XS : Ax Z n0 G1 G3 U8 I8 TB DE) (hN : N.toNatClampNeg ≤ 8) :
    Af l Z (⟨"java/lang/String", "encode8859_1", "(B[BZ)[B"⟩ : MethodName) jdk_42_method_27_code 10 (some (.array .byte)) ({ frames := 1, cells := 1, slots := 8, locals := 14 } : Room) n0 #[(.int 0), (.ref b), (.int 1)] h0 (fun v h => ∃ r : Addr, v = some (.ref r) ∧ h0.size ≤ r ∧ Keep h0 h [] ∧ Arv Z h r bk .byte N vs (.int 0) ∧ Exa Z h r "[B") := by
  refine Ar #[.val (.int 0), .val (.ref b), .val (.int 1), .unset, .unset, .unset, .unset, .unset, .unset, .unset] ?_
  intro p e s m below meth c T0 C S0
  have XS_ := XS
  obtain ⟨O2, O4, P5, rG3, OU, OI, OT, OD, hUI, TBlt, DElt⟩ := XS_
  refine Ac C S0 [(0, .iload_n 0, 1), (1, .ifCond .ne 11, 3), (4, .aload_n 1, 1)] 5 #[Aa 0, Ab b, Aa 1, .unset, .unset, .unset, .unset, .unset, .unset, .unset] [.ref b] ?_
  refine own_clone C S0 (ow hw 159 rfl) (ow hw 160 rfl) (ow hw 164 rfl) (ow hw 162 rfl) (ow hw 163 rfl) (ow hw 165 rfl) bK bE rfl (by decide +kernel) (by decide) 0 8 (Ak rfl) (by decide) hN (by decide) (by decide) ?_
  intro T1 h3 a4 S2 g5 E6 f7 x8
  refine own_cast C S2 (ow hw 166 rfl) (Ins.self x8) (by decide +kernel) ?_
  intro T9 S10
  refine Az C S10 rfl rfl (by decide +kernel) (by decide) (by decide) ?_
  have o11 : h0.size ≤ a4 := by rw [g5]; exact (Nat.le_refl _)
  exact ⟨a4, rfl, o11, ((Keep.refl _ _).ext E6), f7, x8⟩
theorem own_pd5 : parseMethodDescriptor "(B[BZ)[B" = some ⟨[.byte, (.array .byte), .boolean], (some (.array .byte))⟩ := by decide +kernel
theorem own_e2 (hw : Aj a0 Z) (G1 : Int32) (G3 : Value) (U8 : Addr) (I8 : Addr) (TB : Addr) (DE : Addr) (b : Addr) (bk : ClassId) (N : Int32) (vs : List Value) (h0 : Heap) (n0 : Nat) (z0 : n0 ≤ h0.size) (X00 : Old Z n0 h0) (bK : Arv Z h0 b bk .byte N vs (.int 0)) (bE : Exa Z h0 b "[B") (XS : Ax Z n0 G1 G3 U8 I8 TB DE) (hN : N.toNatClampNeg ≤ 8) :
    Af l Z (⟨"java/lang/String", "encode8859_1", "(B[B)[B"⟩ : MethodName) jdk_42_method_26_code 2 (some (.array .byte)) ({ frames := 2, cells := 1, slots := 8, locals := 35 } : Room) n0 #[(.int 0), (.ref b)] h0 (fun v h => ∃ r : Addr, v = some (.ref r) ∧ h0.size ≤ r ∧ Keep h0 h [] ∧ Arv Z h r bk .byte N vs (.int 0) ∧ Exa Z h r "[B") := by
  refine Ar #[.val (.int 0), .val (.ref b)] ?_
  intro p e s m below meth c T0 C S0
  have XS_ := XS
  obtain ⟨O2, O4, P5, rG3, OU, OI, OT, OD, hUI, TBlt, DElt⟩ := XS_
  refine Ac C S0 [(0, .iload_n 0, 1), (1, .aload_n 1, 1), (2, .iconst 1, 1)] 3 #[Aa 0, Ab b] [.int 1, .ref b, .int 0] ?_
  refine Ae C S0 hw 156 157 19 158 (own_e3 l Z a0 hw G1 G3 U8 I8 TB DE b _ _ _ h0 n0 z0 X00 bK bE XS hN) 0 [.int 0, .ref b, .int 1] [] own_pd5 ?_
  rintro T6 h7 v8 L9 S10 ⟨⟨a1, rfl, g2, K3, f4, f5⟩, -⟩
  refine Az C S10 rfl rfl (by decide +kernel) (by decide) (by decide) ?_
  have o11 : h0.size ≤ a1 := Nat.le_trans (Nat.le_refl _) g2
  exact ⟨a1, rfl, o11, ((Keep.refl _ _).trans K3 all0), f4, f5⟩
theorem own_pd6 : parseMethodDescriptor "(B[B)[B" = some ⟨[.byte, (.array .byte)], (some (.array .byte))⟩ := by decide +kernel
theorem own_e1 (hw : Aj a0 Z) (G1 : Int32) (G3 : Value) (U8 : Addr) (I8 : Addr) (TB : Addr) (DE : Addr) (b : Addr) (bk : ClassId) (N : Int32) (vs : List Value) (h0 : Heap) (n0 : Nat) (z0 : n0 ≤ h0.size) (X00 : Old Z n0 h0) (bK : Arv Z h0 b bk .byte N vs (.int 0)) (bE : Exa Z h0 b "[B") (XS : Ax Z n0 G1 G3 U8 I8 TB DE) (hN : N.toNatClampNeg ≤ 8) :
    Af l Z (⟨"java/lang/String", "encode", "(Ljava/nio/charset/Charset;B[B)[B"⟩ : MethodName) jdk_42_method_18_code 3 (some (.array .byte)) ({ frames := 3, cells := 1, slots := 8, locals := 48 } : Room) n0 #[(.ref I8), (.int 0), (.ref b)] h0 (fun v h => ∃ r : Addr, v = some (.ref r) ∧ h0.size ≤ r ∧ Keep h0 h [] ∧ Arv Z h r bk .byte N vs (.int 0) ∧ Exa Z h r "[B") := by
  refine Ar #[.val (.ref I8), .val (.int 0), .val (.ref b)] ?_
  intro p e s m below meth c T0 C S0
  have XS_ := XS
  obtain ⟨O2, O4, P5, rG3, OU, OI, OT, OD, hUI, TBlt, DElt⟩ := XS_
  refine Ac C S0 [(0, .aload_n 0, 1)] 1 #[Ab I8, Aa 0, Ab b] [.ref I8] ?_
  refine Bi C S0 (ow hw 150 rfl) Via.refl (OU.ext X00.2) (by decide +kernel) ?_
  intro T1 S2
  refine own_acmp C S2 (q := .ne) (o := 10) rfl rfl (by decide +kernel) 14 (by decide) (by decide) (fun (q3 : ¬ ((.ref I8) : Value) = (.ref U8)) => ?_) (fun (hq : ((.ref I8) : Value) = (.ref U8)) => False.elim (own_refne hUI hq))
  refine Ac C S2 [(14, .aload_n 0, 1)] 15 #[Ab I8, Aa 0, Ab b] [.ref I8] ?_
  refine Bi C S2 (ow hw 152 rfl) Via.refl (OI.ext X00.2) (by decide +kernel) ?_
  intro T4 S5
  refine own_acmp C S5 (q := .ne) (o := 9) rfl rfl (by decide +kernel) 27 (by decide) (by decide) (fun (hq : ¬ ((.ref I8) : Value) = (.ref I8)) => False.elim (hq rfl)) (fun (q6 : ((.ref I8) : Value) = (.ref I8)) => ?_)
  refine Ac C S5 [(21, .iload_n 1, 1), (22, .aload_n 2, 1)] 23 #[Ab I8, Aa 0, Ab b] [.ref b, .int 0] ?_
  refine Ae C S5 hw 153 154 19 155 (own_e2 l Z a0 hw G1 G3 U8 I8 TB DE b _ _ _ h0 n0 z0 X00 bK bE XS hN) 0 [.int 0, .ref b] [] own_pd6 ?_
  rintro T12 h13 v14 L15 S16 ⟨⟨a7, rfl, g8, K9, f10, f11⟩, -⟩
  refine Az C S16 rfl rfl (by decide +kernel) (by decide) (by decide) ?_
  have o17 : h0.size ≤ a7 := Nat.le_trans (Nat.le_refl _) g8
  exact ⟨a7, rfl, o17, ((Keep.refl _ _).trans K9 all0), f10, f11⟩
theorem own_pd7 : parseMethodDescriptor "(Ljava/nio/charset/Charset;B[B)[B" = some ⟨[(.object "java/nio/charset/Charset"), .byte, (.array .byte)], (some (.array .byte))⟩ := by decide +kernel
theorem Fk (hw : Aj a0 Z) (G1 : Int32) (G3 : Value) (U8 : Addr) (I8 : Addr) (TB : Addr) (DE : Addr) (x : Addr) (b : Addr) (bk : ClassId) (N : Int32) (vs : List Value) (h0 : Heap) (n0 : Nat) (z0 : n0 ≤ h0.size) (X00 : Old Z n0 h0) (xE : Exa Z h0 x "java/lang/String") (xV : Fld Z h0 x "java/lang/String" "value" "[B" (.ref b)) (xC : Fld Z h0 x "java/lang/String" "coder" "B" (.int 0)) (bK : Arv Z h0 b bk .byte N vs (.int 0)) (bE : Exa Z h0 b "[B") (XS : Ax Z n0 G1 G3 U8 I8 TB DE) (hN : N.toNatClampNeg ≤ 8) :
    Af l Z (⟨"java/lang/String", "getBytes", "(Ljava/nio/charset/Charset;)[B"⟩ : MethodName) jdk_42_method_64_code 2 (some (.array .byte)) ({ frames := 4, cells := 1, slots := 8, locals := 62 } : Room) n0 #[(.ref x), (.ref I8)] h0 (fun v h => ∃ r : Addr, v = some (.ref r) ∧ h0.size ≤ r ∧ Keep h0 h [] ∧ Arv Z h r bk .byte N vs (.int 0) ∧ Exa Z h r "[B") := by
  refine Ar #[.val (.ref x), .val (.ref I8)] ?_
  intro p e s m below meth c T0 C S0
  have XS_ := XS
  obtain ⟨O2, O4, P5, rG3, OU, OI, OT, OD, hUI, TBlt, DElt⟩ := XS_
  refine Ac C S0 [(0, .aload_n 1, 1), (1, .ifnonnull 11, 3), (12, .aload_n 1, 1), (13, .aload_n 0, 1)] 14 #[Ab x, Ab I8] [.ref x, .ref I8] ?_
  refine Ah C S0 hw 62 63 65 65 64 66 19 (own_coder l Z a0 hw G1 G3 x h0 n0 z0 X00 xC O2 O4 P5 rG3) 1 xE [] [.ref I8] own_pd0 ?_
  rintro T2 h3 v4 L5 S6 ⟨⟨rfl, e1⟩, -⟩
  rw [e1] at S6; clear e1
  refine Ac C S6 [(17, .aload_n 0, 1)] 18 #[Ab x, Ab I8] [.ref x, .int 0, .ref I8] ?_
  refine Ch C S6 hw 44 xV ?_
  intro T7 S8
  refine Ae C S8 hw 147 148 19 149 (own_e1 l Z a0 hw G1 G3 U8 I8 TB DE b _ _ _ h0 n0 z0 X00 bK bE XS hN) 0 [.ref I8, .int 0, .ref b] [] own_pd7 ?_
  rintro T14 h15 v16 L17 S18 ⟨⟨a9, rfl, g10, K11, f12, f13⟩, -⟩
  refine Az C S18 rfl rfl (by decide +kernel) (by decide) (by decide) ?_
  have o19 : h0.size ≤ a9 := Nat.le_trans (Nat.le_refl _) g10
  exact ⟨a9, rfl, o19, ((Keep.refl _ _).trans K11 all0), f12, f13⟩
theorem own_cq2 (hw : Aj a0 Z) (a : Addr) (ak : ClassId) (b : Addr) (bk : ClassId) (c0 : Int32) (c1 : Int32) (h0 : Heap) (n0 : Nat) (z0 : n0 ≤ h0.size) (ge_b : n0 ≤ b) (aK : Arv Z h0 a ak .char (2 : Int32) ([(.int c0), (.int c1)]) (.int 0)) (bK : Arv Z h0 b bk .byte (2 : Int32) ([(.int 0), (.int 0)]) (.int 0)) (ne_a_b : a ≠ b) (gc0 : ¬ (255 : Int32) < c0) (gc1 : ¬ (255 : Int32) < c1) :
    Af l Z (⟨"java/lang/StringUTF16", "compress", "([CI[BII)I"⟩ : MethodName) jdk_52_method_21_code 7 (some .int) ({ frames := 0, cells := 0, slots := 0, locals := 0 } : Room) n0 #[(.ref a), (.int 0), (.ref b), (.int 0), (.int 2)] h0 (fun v h => v = some (.int 2) ∧ Keep h0 h [b] ∧ Arv Z h b bk .byte (2 : Int32) ([(.int c0.toInt8.toInt32), (.int c1.toInt8.toInt32)]) (.int 0)) := by
  refine Ar #[.val (.ref a), .val (.int 0), .val (.ref b), .val (.int 0), .val (.int 2), .unset, .unset] ?_
  intro p e s m below meth c T0 C S0
  refine Ac C S0 [(0, .iconst 0, 1), (1, .istore 5, 2), (3, .iload 5, 2), (5, .iload 4, 2), (7, .if_icmp .ge 37, 3), (10, .aload_n 0, 1), (11, .iload_n 1, 1)] 12 #[Ab a, Aa 0, Ab b, Aa 0, Aa 2, Aa 0, .unset] [.int 0, .ref a] ?_
  refine Ao C S0 aK ⟨(by decide), (by decide)⟩ (.int c0) rfl (by decide +kernel) ?_
  refine Ac C S0 [(13, .istore 6, 2), (15, .iload 6, 2), (17, .sipush 255, 3)] 20 #[Ab a, Aa 0, Ab b, Aa 0, Aa 2, Aa 0, Aa c0] [.int 255, .int c0] ?_
  refine Bg C S0 .le 6 26 (fun (q1 : ¬ (255 : Int32) < c0) => ?_) (fun (hq : (255 : Int32) < c0) => False.elim (gc0 hq))
  refine Ac C S0 [(26, .aload_n 2, 1), (27, .iload_n 3, 1), (28, .iload 6, 2), (30, .i2b, 1)] 31 #[Ab a, Aa 0, Ab b, Aa 0, Aa 2, Aa 0, Aa c0] [.int c0.toInt8.toInt32, .int 0, .ref b] ?_
  refine Ap C S0 bK ⟨(by decide), (by decide)⟩ 0 rfl (Ak rfl) c0.toInt8.toInt32 (Bc _) ge_b (by decide +kernel) ?_
  intro T2 h4 S3 W5 f6
  have f7 : Arv Z h4 b bk .byte (2 : Int32) ([(.int c0.toInt8.toInt32), (.int 0)]) (.int 0) := f6
  refine Ac C S3 [(32, .iinc 1 1, 3), (35, .iinc 3 1, 3), (38, .iinc 5 1, 3), (41, .goto (-38), 3), (3, .iload 5, 2), (5, .iload 4, 2), (7, .if_icmp .ge 37, 3), (10, .aload_n 0, 1), (11, .iload_n 1, 1)] 12 #[Ab a, Aa 1, Ab b, Aa 1, Aa 2, Aa 1, Aa c0] [.int 1, .ref a] ?_
  have f8 := (aK.other W5 ne_a_b)
  refine Ao C S3 f8 ⟨(by decide), (by decide)⟩ (.int c1) rfl (by decide +kernel) ?_
  refine Ac C S3 [(13, .istore 6, 2), (15, .iload 6, 2), (17, .sipush 255, 3)] 20 #[Ab a, Aa 1, Ab b, Aa 1, Aa 2, Aa 1, Aa c1] [.int 255, .int c1] ?_
  refine Bg C S3 .le 6 26 (fun (q9 : ¬ (255 : Int32) < c1) => ?_) (fun (hq : (255 : Int32) < c1) => False.elim (gc1 hq))
  refine Ac C S3 [(26, .aload_n 2, 1), (27, .iload_n 3, 1), (28, .iload 6, 2), (30, .i2b, 1)] 31 #[Ab a, Aa 1, Ab b, Aa 1, Aa 2, Aa 1, Aa c1] [.int c1.toInt8.toInt32, .int 1, .ref b] ?_
  refine Ap C S3 f7 ⟨(by decide), (by decide)⟩ 1 rfl (Ak rfl) c1.toInt8.toInt32 (Bc _) ge_b (by decide +kernel) ?_
  intro T10 h12 S11 W13 f14
  have f15 : Arv Z h12 b bk .byte (2 : Int32) ([(.int c0.toInt8.toInt32), (.int c1.toInt8.toInt32)]) (.int 0) := f14
  refine Ac C S11 [(32, .iinc 1 1, 3), (35, .iinc 3 1, 3), (38, .iinc 5 1, 3), (41, .goto (-38), 3), (3, .iload 5, 2), (5, .iload 4, 2), (7, .if_icmp .ge 37, 3), (44, .iload 4, 2)] 46 #[Ab a, Aa 2, Ab b, Aa 2, Aa 2, Aa 2, Aa c1] [.int 2] ?_
  refine Bq C S11 (by decide +kernel) (by decide) (by decide) ?_
  exact ⟨rfl, (((Keep.refl _ _).wr W5 (Ba 0)).wr W13 (Ba 0)), f15⟩
theorem Fg : parseMethodDescriptor "([CI[BII)I" = some ⟨[(.array .char), .int, (.array .byte), .int, .int], (some .int)⟩ := by decide +kernel
theorem own_cr2 (hw : Aj a0 Z) (a : Addr) (ak : ClassId) (c0 : Int32) (c1 : Int32) (h0 : Heap) (n0 : Nat) (z0 : n0 ≤ h0.size) (aK : Arv Z h0 a ak .char (2 : Int32) ([(.int c0), (.int c1)]) (.int 0)) (gc0 : ¬ (255 : Int32) < c0) (gc1 : ¬ (255 : Int32) < c1) :
    Af l Z (⟨"java/lang/StringUTF16", "compress", "([CII)[B"⟩ : MethodName) jdk_52_method_16_code 6 (some (.array .byte)) ({ frames := 1, cells := 1, slots := 2, locals := 18 } : Room) n0 #[(.ref a), (.int 0), (.int 2)] h0 (fun v h => ∃ r : Addr, ∃ rk : ClassId, v = some (.ref r) ∧ h0.size ≤ r ∧ Keep h0 h [] ∧ Arv Z h r rk .byte (2 : Int32) ([(.int c0.toInt8.toInt32), (.int c1.toInt8.toInt32)]) (.int 0) ∧ Exa Z h r "[B") := by
  refine Ar #[.val (.ref a), .val (.int 0), .val (.int 2), .unset, .unset, .unset] ?_
  intro p e s m below meth c T0 C S0
  refine Ac C S0 [(0, .iload_n 2, 1)] 1 #[Ab a, Aa 0, Aa 2, .unset, .unset, .unset] [.int 2] ?_
  refine Cp C S0 (aty := .byte) (ad := "[B") (by decide) (ow hw 35 rfl) (by decide +kernel) (by decide) 2 (by decide) (by decide) (by decide) (by decide) ?_
  intro T1 h3 a4 k5 S2 g6 E7 f8 x9
  have f10 : Arv Z h3 a4 k5 .byte (2 : Int32) ([(.int 0), (.int 0)]) (.int 0) := Arv.pad f8 (pad_rep [] (.int 0) 2)
  refine Ac C S2 [(3, .astore_n 3, 1), (4, .aload_n 0, 1), (5, .iload_n 1, 1), (6, .aload_n 3, 1), (7, .iconst 0, 1), (8, .iload_n 2, 1)] 9 #[Ab a, Aa 0, Aa 2, Ab a4, .unset, .unset] [.int 2, .int 0, .ref a4, .int 0, .ref a] ?_
  have f11 := (aK.ext E7)
  have f12 : n0 ≤ h3.size := (Nat.le_trans z0 E7.1)
  have g13 : n0 ≤ a4 := by rw [g6]; exact z0
  have n14 : a ≠ a4 := by rw [g6]; exact Nat.ne_of_lt aK.lt
  refine Ae C S2 hw 36 37 33 38 (own_cq2 l Z a0 hw a _ a4 _ _ _ h3 n0 f12 g13 f11 f10 n14 gc0 gc1) 0 [.ref a, .int 0, .ref a4, .int 0, .int 2] [] Fg ?_
  rintro T17 h18 v19 L20 S21 ⟨⟨rfl, K15, f16⟩, -⟩
  refine Ac C S21 [(12, .istore 4, 2), (14, .iload 4, 2), (16, .iload_n 2, 1), (17, .if_icmp .eq 40, 3), (57, .aload_n 3, 1)] 58 #[Ab a, Aa 0, Aa 2, Ab a4, Aa 2, .unset] [.ref a4] ?_
  refine Az C S21 rfl rfl (by decide +kernel) (by decide) (by decide) ?_
  have o22 : h0.size ≤ a4 := by rw [g6]; exact (Nat.le_refl _)
  have f23 := (x9.keep K15)
  exact ⟨a4, k5, rfl, o22, (((Keep.refl _ _).ext E7).trans K15 (allS (Or.inr o22) all0)), f16, f23⟩
theorem own_cl2 (hw : Aj a0 Z) (b : Addr) (bk : ClassId) (vs : List Value) (h0 : Heap) (n0 : Nat) (z0 : n0 ≤ h0.size) (bK : Arv Z h0 b bk .byte (2 : Int32) vs (.int 0)) :
    Af l Z (⟨"java/lang/StringUTF16", "coderFromArrayLen", "([BI)B"⟩ : MethodName) jdk_52_method_15_code 2 (some .byte) ({ frames := 0, cells := 0, slots := 0, locals := 0 } : Room) n0 #[(.ref b), (.int 2)] h0 (fun v h => v = some (.int 0) ∧ h = h0) := by
  refine Ar #[.val (.ref b), .val (.int 2)] ?_
  intro p e s m below meth c T0 C S0
  refine Ac C S0 [(0, .iload_n 1, 1), (1, .aload_n 0, 1)] 2 #[Ab b, Aa 2] [.ref b, .int 2] ?_
  refine Au C S0 bK (by decide +kernel) ?_
  refine Ac C S0 [(3, .isub, 1), (4, .bipush 31, 2), (6, .iushr, 1), (7, .i2b, 1)] 8 #[Ab b, Aa 2] [.int ((Jvm.Free.XT.ushr ((2 : Int32) - (2 : Int32)) (31 : Int32)).toInt8.toInt32)] ?_
  rw [show (Jvm.Free.XT.ushr ((2 : Int32) - (2 : Int32)) (31 : Int32)).toInt8.toInt32 = (0 : Int32) from (by decide)]
  refine Ee C S0 (by decide +kernel) rfl (by decide) (by decide) ?_
  exact ⟨rfl, rfl⟩
theorem Fh : parseMethodDescriptor "([CII)[B" = some ⟨[(.array .char), .int, .int], (some (.array .byte))⟩ := by decide +kernel
theorem Ey : parseMethodDescriptor "([BI)B" = some ⟨[(.array .byte), .int], (some .byte)⟩ := by decide +kernel
theorem Cx : parseFieldDescriptor "B" = some .byte := by decide +kernel
theorem Cy : parseFieldDescriptor "[B" = some (.array .byte) := by decide +kernel
theorem Ep {Z : State} {a0 : Array Value} (hw : ∀ d ∈ tables_1, d.before a0 Z = true) : Jvm.RoadKit.slotOf Z "java/lang/String" "value" "[B" ≠ Jvm.RoadKit.slotOf Z "java/lang/String" "coder" "B" := slot_ne (Or.inr (ow hw 45 rfl)) (Or.inr (ow hw 43 rfl)) (by decide) Cy Cx
theorem Er {Z : State} {a0 : Array Value} (hw : ∀ d ∈ tables_1, d.before a0 Z = true) : Jvm.RoadKit.slotOf Z "java/lang/String" "coder" "B" ≠ Jvm.RoadKit.slotOf Z "java/lang/String" "value" "[B" := slot_ne (Or.inr (ow hw 43 rfl)) (Or.inr (ow hw 45 rfl)) (by decide) Cx Cy
theorem own_s4i2 (hw : Aj a0 Z) (G1 : Int32) (G3 : Value) (U8 : Addr) (I8 : Addr) (TB : Addr) (DE : Addr) (x : Addr) (a : Addr) (ak : ClassId) (c0 : Int32) (c1 : Int32) (h0 : Heap) (n0 : Nat) (z0 : n0 ≤ h0.size) (ge_x : n0 ≤ x) (X00 : Old Z n0 h0) (p0 : Exa Z h0 x "java/lang/String") (p1 : Fld Z h0 x "java/lang/String" "value" "[B" .null) (p2 : Fld Z h0 x "java/lang/String" "coder" "B" (.int 0)) (aK : Arv Z h0 a ak .char (2 : Int32) ([(.int c0), (.int c1)]) (.int 0)) (ne_a_x : a ≠ x) (XS : Ax Z n0 G1 G3 U8 I8 TB DE) (gc0 : ¬ (255 : Int32) < c0) (gc1 : ¬ (255 : Int32) < c1) :
    Af l Z (⟨"java/lang/String", "<init>", "([CIILjava/lang/Void;)V"⟩ : MethodName) jdk_42_method_149_code 6 none ({ frames := 2, cells := 1, slots := 2, locals := 35 } : Room) n0 #[(.ref x), (.ref a), (.int 0), (.int 2), .null] h0 (fun v h => ∃ r : Addr, ∃ rk : ClassId, v = none ∧ h0.size ≤ r ∧ Keep h0 h [x] ∧ Exa Z h x "java/lang/String" ∧ Fld Z h x "java/lang/String" "value" "[B" (.ref r) ∧ Fld Z h x "java/lang/String" "coder" "B" (.int 0) ∧ Arv Z h r rk .byte (2 : Int32) ([(.int c0.toInt8.toInt32), (.int c1.toInt8.toInt32)]) (.int 0) ∧ Exa Z h r "[B") := by
  refine Ar #[.val (.ref x), .val (.ref a), .val (.int 0), .val (.int 2), .val .null, .unset] ?_
  intro p e s m below meth c T0 C S0
  have XS_ := XS
  obtain ⟨O2, O4, P5, rG3, OU, OI, OT, OD, hUI, TBlt, DElt⟩ := XS_
  refine Ac C S0 [(0, .aload_n 0, 1)] 1 #[Ab x, Ab a, Aa 0, Aa 2, .val .null, .unset] [.ref x] ?_
  refine Dp C S0 (ow hw 27 rfl) (ow hw 28 rfl) (ow hw 29 rfl) rfl (by decide +kernel) (by decide) 0 (Ak rfl) (by decide) ?_
  intro T1 S2
  refine Ac C S2 [(4, .iload_n 3, 1), (5, .ifCond .ne 22, 3)] 27 #[Ab x, Ab a, Aa 0, Aa 2, .val .null, .unset] [] ?_
  refine Bi C S2 (ow hw 30 rfl) Via.refl (O2.ext X00.2) (by decide +kernel) ?_
  intro T3 S4
  refine Bh C S4 .eq 28 58 (fun (hq : G1 = (0 : Int32)) => False.elim (P5 hq)) (fun (q5 : ¬ G1 = (0 : Int32)) => ?_)
  refine Ac C S4 [(33, .aload_n 1, 1), (34, .iload_n 2, 1), (35, .iload_n 3, 1)] 36 #[Ab x, Ab a, Aa 0, Aa 2, .val .null, .unset] [.int 2, .int 0, .ref a] ?_
  refine Ae C S4 hw 31 32 33 34 (own_cr2 l Z a0 hw a _ _ _ h0 n0 z0 aK gc0 gc1) 0 [.ref a, .int 0, .int 2] [] Fh ?_
  rintro T12 h13 v14 L15 S16 ⟨⟨a6, k7, rfl, g8, K9, f10, f11⟩, -⟩
  refine Ac C S16 [(39, .astore 5, 2), (41, .aload_n 0, 1), (42, .aload 5, 2), (44, .iload_n 3, 1)] 45 #[Ab x, Ab a, Aa 0, Aa 2, .val .null, Ab a6] [.int 2, .ref a6, .ref x] ?_
  have f17 : n0 ≤ h13.size := (Nat.le_trans z0 K9.1)
  refine Ae C S16 hw 39 40 33 41 (own_cl2 l Z a0 hw a6 _ _ h13 n0 f17 f10) 1 [.ref a6, .int 2] [.ref x] Ey ?_
  rintro T19 h20 v21 L22 S23 ⟨⟨rfl, e18⟩, -⟩
  rw [e18] at S23; clear e18
  have f24 := (p2.keep K9 nin0)
  have f25 := (p0.keep K9)
  refine Db C S23 (ty := .byte) (host := "") (Or.inl (ow hw 42 rfl)) Via.refl f24 f25 (Or.inr ⟨(ow hw 43 rfl), rfl, rfl⟩) (ow hw 18 rfl) Cx rfl rfl ge_x (by decide +kernel) ?_
  intro T26 h28 S27 W29
  have f30 : Fld Z h28 x "java/lang/String" "coder" "B" (.int 0) := Fld.same W29 f24
  refine Ac C S27 [(51, .aload_n 0, 1), (52, .aload 5, 2)] 54 #[Ab x, Ab a, Aa 0, Aa 2, .val .null, Ab a6] [.ref a6, .ref x] ?_
  have f31 := (Fld.other W29 (p1.keep K9 nin0) (Or.inr (Ep hw)))
  have f32 := (Exa.wr W29 f25)
  refine Db C S27 (ty := (.array .byte)) (host := "") (Or.inl (ow hw 44 rfl)) Via.refl f31 f32 (Or.inr ⟨(ow hw 45 rfl), rfl, rfl⟩) (ow hw 18 rfl) Cy rfl rfl ge_x (by decide +kernel) ?_
  intro T33 h35 S34 W36
  have f37 : Fld Z h35 x "java/lang/String" "value" "[B" (.ref a6) := Fld.same W36 f31
  refine Ct C S34 (by decide +kernel) (by decide) (by decide) ?_
  have o38 : h0.size ≤ a6 := Nat.le_trans (Nat.le_refl _) g8
  have f39 := (Exa.wr W36 f32)
  have f40 := (Fld.other W36 f30 (Or.inr (Er hw)))
  have n41 : x ≠ a6 := Nat.ne_of_lt (Nat.lt_of_lt_of_le p0.lt g8)
  have f42 := ((f10.other W29 (Ne.symm n41)).other W36 (Ne.symm n41))
  have f43 := (Exa.wr W36 (Exa.wr W29 f11))
  exact ⟨a6, k7, rfl, o38, ((((Keep.refl _ _).trans K9 all0).wr W29 (Ba 0)).wr W36 (Ba 0)), f39, f37, f40, f42, f43⟩
theorem Eg : parseMethodDescriptor "([CIILjava/lang/Void;)V" = some ⟨[(.array .char), .int, .int, (.object "java/lang/Void")], none⟩ := by decide +kernel
theorem own_s1i2 (hw : Aj a0 Z) (G1 : Int32) (G3 : Value) (U8 : Addr) (I8 : Addr) (TB : Addr) (DE : Addr) (x : Addr) (a : Addr) (ak : ClassId) (c0 : Int32) (c1 : Int32) (h0 : Heap) (n0 : Nat) (z0 : n0 ≤ h0.size) (ge_x : n0 ≤ x) (X00 : Old Z n0 h0) (p0 : Exa Z h0 x "java/lang/String") (p1 : Fld Z h0 x "java/lang/String" "value" "[B" .null) (p2 : Fld Z h0 x "java/lang/String" "coder" "B" (.int 0)) (aK : Arv Z h0 a ak .char (2 : Int32) ([(.int c0), (.int c1)]) (.int 0)) (ne_a_x : a ≠ x) (XS : Ax Z n0 G1 G3 U8 I8 TB DE) (gc0 : ¬ (255 : Int32) < c0) (gc1 : ¬ (255 : Int32) < c1) :
    Af l Z (⟨"java/lang/String", "<init>", "([C)V"⟩ : MethodName) jdk_42_method_3_code 2 none ({ frames := 3, cells := 1, slots := 2, locals := 52 } : Room) n0 #[(.ref x), (.ref a)] h0 (fun v h => ∃ r : Addr, ∃ rk : ClassId, v = none ∧ h0.size ≤ r ∧ Keep h0 h [x] ∧ Exa Z h x "java/lang/String" ∧ Fld Z h x "java/lang/String" "value" "[B" (.ref r) ∧ Fld Z h x "java/lang/String" "coder" "B" (.int 0) ∧ Arv Z h r rk .byte (2 : Int32) ([(.int c0.toInt8.toInt32), (.int c1.toInt8.toInt32)]) (.int 0) ∧ Exa Z h r "[B") := by
  refine Ar #[.val (.ref x), .val (.ref a)] ?_
  intro p e s m below meth c T0 C S0
  have XS_ := XS
  obtain ⟨O2, O4, P5, rG3, OU, OI, OT, OD, hUI, TBlt, DElt⟩ := XS_
  refine Ac C S0 [(0, .aload_n 0, 1), (1, .aload_n 1, 1), (2, .iconst 0, 1), (3, .aload_n 1, 1)] 4 #[Ab x, Ab a] [.ref a, .int 0, .ref a, .ref x] ?_
  refine Au C S0 aK (by decide +kernel) ?_
  refine Ac C S0 [(5, .aconst_null, 1)] 6 #[Ab x, Ab a] [.null, .int 2, .int 0, .ref a, .ref x] ?_
  refine Cs C S0 rfl (ow hw 23 rfl) (ow hw 24 rfl) (ow hw 26 rfl) (by decide) (Af.pay (own_s4i2 l Z a0 hw G1 G3 U8 I8 TB DE x a _ _ _ h0 n0 z0 ge_x X00 p0 p1 p2 aK ne_a_x XS gc0 gc1) C 0 (ow hw 26 rfl) (ow hw 19 rfl) (by decide) (by decide)) (fun _ _ _ q => q.2) [.ref a, .int 0, .int 2, .null] [] rfl Eg rfl rfl rfl (Ak rfl) (by decide) (by decide) (by decide +kernel) ?_
  rintro T10 h11 v12 L13 S14 ⟨⟨a1, k2, rfl, g3, K4, f5, f6, f7, f8, f9⟩, -⟩
  refine Ct C S14 (by decide +kernel) (by decide) (by decide) ?_
  have o15 : h0.size ≤ a1 := Nat.le_trans (Nat.le_refl _) g3
  exact ⟨a1, k2, rfl, o15, ((Keep.refl _ _).trans K4 (allS (Ba 0) all0)), f5, f6, f7, f8, f9⟩
theorem own_cq3 (hw : Aj a0 Z) (a : Addr) (ak : ClassId) (b : Addr) (bk : ClassId) (c0 : Int32) (c1 : Int32) (c2 : Int32) (h0 : Heap) (n0 : Nat) (z0 : n0 ≤ h0.size) (ge_b : n0 ≤ b) (aK : Arv Z h0 a ak .char (3 : Int32) ([(.int c0), (.int c1), (.int c2)]) (.int 0)) (bK : Arv Z h0 b bk .byte (3 : Int32) ([(.int 0), (.int 0), (.int 0)]) (.int 0)) (ne_a_b : a ≠ b) (gc0 : ¬ (255 : Int32) < c0) (gc1 : ¬ (255 : Int32) < c1) (gc2 : ¬ (255 : Int32) < c2) :
    Af l Z (⟨"java/lang/StringUTF16", "compress", "([CI[BII)I"⟩ : MethodName) jdk_52_method_21_code 7 (some .int) ({ frames := 0, cells := 0, slots := 0, locals := 0 } : Room) n0 #[(.ref a), (.int 0), (.ref b), (.int 0), (.int 3)] h0 (fun v h => v = some (.int 3) ∧ Keep h0 h [b] ∧ Arv Z h b bk .byte (3 : Int32) ([(.int c0.toInt8.toInt32), (.int c1.toInt8.toInt32), (.int c2.toInt8.toInt32)]) (.int 0)) := by
  refine Ar #[.val (.ref a), .val (.int 0), .val (.ref b), .val (.int 0), .val (.int 3), .unset, .unset] ?_
  intro p e s m below meth c T0 C S0
  refine Ac C S0 [(0, .iconst 0, 1), (1, .istore 5, 2), (3, .iload 5, 2), (5, .iload 4, 2), (7, .if_icmp .ge 37, 3), (10, .aload_n 0, 1), (11, .iload_n 1, 1)] 12 #[Ab a, Aa 0, Ab b, Aa 0, Aa 3, Aa 0, .unset] [.int 0, .ref a] ?_
  refine Ao C S0 aK ⟨(by decide), (by decide)⟩ (.int c0) rfl (by decide +kernel) ?_
  refine Ac C S0 [(13, .istore 6, 2), (15, .iload 6, 2), (17, .sipush 255, 3)] 20 #[Ab a, Aa 0, Ab b, Aa 0, Aa 3, Aa 0, Aa c0] [.int 255, .int c0] ?_
  refine Bg C S0 .le 6 26 (fun (q1 : ¬ (255 : Int32) < c0) => ?_) (fun (hq : (255 : Int32) < c0) => False.elim (gc0 hq))
  refine Ac C S0 [(26, .aload_n 2, 1), (27, .iload_n 3, 1), (28, .iload 6, 2), (30, .i2b, 1)] 31 #[Ab a, Aa 0, Ab b, Aa 0, Aa 3, Aa 0, Aa c0] [.int c0.toInt8.toInt32, .int 0, .ref b] ?_
  refine Ap C S0 bK ⟨(by decide), (by decide)⟩ 0 rfl (Ak rfl) c0.toInt8.toInt32 (Bc _) ge_b (by decide +kernel) ?_
  intro T2 h4 S3 W5 f6
  have f7 : Arv Z h4 b bk .byte (3 : Int32) ([(.int c0.toInt8.toInt32), (.int 0), (.int 0)]) (.int 0) := f6
  refine Ac C S3 [(32, .iinc 1 1, 3), (35, .iinc 3 1, 3), (38, .iinc 5 1, 3), (41, .goto (-38), 3), (3, .iload 5, 2), (5, .iload 4, 2), (7, .if_icmp .ge 37, 3), (10, .aload_n 0, 1), (11, .iload_n 1, 1)] 12 #[Ab a, Aa 1, Ab b, Aa 1, Aa 3, Aa 1, Aa c0] [.int 1, .ref a] ?_
  have f8 := (aK.other W5 ne_a_b)
  refine Ao C S3 f8 ⟨(by decide), (by decide)⟩ (.int c1) rfl (by decide +kernel) ?_
  refine Ac C S3 [(13, .istore 6, 2), (15, .iload 6, 2), (17, .sipush 255, 3)] 20 #[Ab a, Aa 1, Ab b, Aa 1, Aa 3, Aa 1, Aa c1] [.int 255, .int c1] ?_
  refine Bg C S3 .le 6 26 (fun (q9 : ¬ (255 : Int32) < c1) => ?_) (fun (hq : (255 : Int32) < c1) => False.elim (gc1 hq))
  refine Ac C S3 [(26, .aload_n 2, 1), (27, .iload_n 3, 1), (28, .iload 6, 2), (30, .i2b, 1)] 31 #[Ab a, Aa 1, Ab b, Aa 1, Aa 3, Aa 1, Aa c1] [.int c1.toInt8.toInt32, .int 1, .ref b] ?_
  refine Ap C S3 f7 ⟨(by decide), (by decide)⟩ 1 rfl (Ak rfl) c1.toInt8.toInt32 (Bc _) ge_b (by decide +kernel) ?_
  intro T10 h12 S11 W13 f14
  have f15 : Arv Z h12 b bk .byte (3 : Int32) ([(.int c0.toInt8.toInt32), (.int c1.toInt8.toInt32), (.int 0)]) (.int 0) := f14
  refine Ac C S11 [(32, .iinc 1 1, 3), (35, .iinc 3 1, 3), (38, .iinc 5 1, 3), (41, .goto (-38), 3), (3, .iload 5, 2), (5, .iload 4, 2), (7, .if_icmp .ge 37, 3), (10, .aload_n 0, 1), (11, .iload_n 1, 1)] 12 #[Ab a, Aa 2, Ab b, Aa 2, Aa 3, Aa 2, Aa c1] [.int 2, .ref a] ?_
  have f16 := (f8.other W13 ne_a_b)
  refine Ao C S11 f16 ⟨(by decide), (by decide)⟩ (.int c2) rfl (by decide +kernel) ?_
  refine Ac C S11 [(13, .istore 6, 2), (15, .iload 6, 2), (17, .sipush 255, 3)] 20 #[Ab a, Aa 2, Ab b, Aa 2, Aa 3, Aa 2, Aa c2] [.int 255, .int c2] ?_
  refine Bg C S11 .le 6 26 (fun (q17 : ¬ (255 : Int32) < c2) => ?_) (fun (hq : (255 : Int32) < c2) => False.elim (gc2 hq))
  refine Ac C S11 [(26, .aload_n 2, 1), (27, .iload_n 3, 1), (28, .iload 6, 2), (30, .i2b, 1)] 31 #[Ab a, Aa 2, Ab b, Aa 2, Aa 3, Aa 2, Aa c2] [.int c2.toInt8.toInt32, .int 2, .ref b] ?_
  refine Ap C S11 f15 ⟨(by decide), (by decide)⟩ 2 rfl (Ak rfl) c2.toInt8.toInt32 (Bc _) ge_b (by decide +kernel) ?_
  intro T18 h20 S19 W21 f22
  have f23 : Arv Z h20 b bk .byte (3 : Int32) ([(.int c0.toInt8.toInt32), (.int c1.toInt8.toInt32), (.int c2.toInt8.toInt32)]) (.int 0) := f22
  refine Ac C S19 [(32, .iinc 1 1, 3), (35, .iinc 3 1, 3), (38, .iinc 5 1, 3), (41, .goto (-38), 3), (3, .iload 5, 2), (5, .iload 4, 2), (7, .if_icmp .ge 37, 3), (44, .iload 4, 2)] 46 #[Ab a, Aa 3, Ab b, Aa 3, Aa 3, Aa 3, Aa c2] [.int 3] ?_
  refine Bq C S19 (by decide +kernel) (by decide) (by decide) ?_
  exact ⟨rfl, ((((Keep.refl _ _).wr W5 (Ba 0)).wr W13 (Ba 0)).wr W21 (Ba 0)), f23⟩
theorem own_cr3 (hw : Aj a0 Z) (a : Addr) (ak : ClassId) (c0 : Int32) (c1 : Int32) (c2 : Int32) (h0 : Heap) (n0 : Nat) (z0 : n0 ≤ h0.size) (aK : Arv Z h0 a ak .char (3 : Int32) ([(.int c0), (.int c1), (.int c2)]) (.int 0)) (gc0 : ¬ (255 : Int32) < c0) (gc1 : ¬ (255 : Int32) < c1) (gc2 : ¬ (255 : Int32) < c2) :
    Af l Z (⟨"java/lang/StringUTF16", "compress", "([CII)[B"⟩ : MethodName) jdk_52_method_16_code 6 (some (.array .byte)) ({ frames := 1, cells := 1, slots := 3, locals := 18 } : Room) n0 #[(.ref a), (.int 0), (.int 3)] h0 (fun v h => ∃ r : Addr, ∃ rk : ClassId, v = some (.ref r) ∧ h0.size ≤ r ∧ Keep h0 h [] ∧ Arv Z h r rk .byte (3 : Int32) ([(.int c0.toInt8.toInt32), (.int c1.toInt8.toInt32), (.int c2.toInt8.toInt32)]) (.int 0) ∧ Exa Z h r "[B") := by
  refine Ar #[.val (.ref a), .val (.int 0), .val (.int 3), .unset, .unset, .unset] ?_
  intro p e s m below meth c T0 C S0
  refine Ac C S0 [(0, .iload_n 2, 1)] 1 #[Ab a, Aa 0, Aa 3, .unset, .unset, .unset] [.int 3] ?_
  refine Cp C S0 (aty := .byte) (ad := "[B") (by decide) (ow hw 35 rfl) (by decide +kernel) (by decide) 3 (by decide) (by decide) (by decide) (by decide) ?_
  intro T1 h3 a4 k5 S2 g6 E7 f8 x9
  have f10 : Arv Z h3 a4 k5 .byte (3 : Int32) ([(.int 0), (.int 0), (.int 0)]) (.int 0) := Arv.pad f8 (pad_rep [] (.int 0) 3)
  refine Ac C S2 [(3, .astore_n 3, 1), (4, .aload_n 0, 1), (5, .iload_n 1, 1), (6, .aload_n 3, 1), (7, .iconst 0, 1), (8, .iload_n 2, 1)] 9 #[Ab a, Aa 0, Aa 3, Ab a4, .unset, .unset] [.int 3, .int 0, .ref a4, .int 0, .ref a] ?_
  have f11 := (aK.ext E7)
  have f12 : n0 ≤ h3.size := (Nat.le_trans z0 E7.1)
  have g13 : n0 ≤ a4 := by rw [g6]; exact z0
  have n14 : a ≠ a4 := by rw [g6]; exact Nat.ne_of_lt aK.lt
  refine Ae C S2 hw 36 37 33 38 (own_cq3 l Z a0 hw a _ a4 _ _ _ _ h3 n0 f12 g13 f11 f10 n14 gc0 gc1 gc2) 0 [.ref a, .int 0, .ref a4, .int 0, .int 3] [] Fg ?_
  rintro T17 h18 v19 L20 S21 ⟨⟨rfl, K15, f16⟩, -⟩
  refine Ac C S21 [(12, .istore 4, 2), (14, .iload 4, 2), (16, .iload_n 2, 1), (17, .if_icmp .eq 40, 3), (57, .aload_n 3, 1)] 58 #[Ab a, Aa 0, Aa 3, Ab a4, Aa 3, .unset] [.ref a4] ?_
  refine Az C S21 rfl rfl (by decide +kernel) (by decide) (by decide) ?_
  have o22 : h0.size ≤ a4 := by rw [g6]; exact (Nat.le_refl _)
  have f23 := (x9.keep K15)
  exact ⟨a4, k5, rfl, o22, (((Keep.refl _ _).ext E7).trans K15 (allS (Or.inr o22) all0)), f16, f23⟩
theorem own_cl3 (hw : Aj a0 Z) (b : Addr) (bk : ClassId) (vs : List Value) (h0 : Heap) (n0 : Nat) (z0 : n0 ≤ h0.size) (bK : Arv Z h0 b bk .byte (3 : Int32) vs (.int 0)) :
    Af l Z (⟨"java/lang/StringUTF16", "coderFromArrayLen", "([BI)B"⟩ : MethodName) jdk_52_method_15_code 2 (some .byte) ({ frames := 0, cells := 0, slots := 0, locals := 0 } : Room) n0 #[(.ref b), (.int 3)] h0 (fun v h => v = some (.int 0) ∧ h = h0) := by
  refine Ar #[.val (.ref b), .val (.int 3)] ?_
  intro p e s m below meth c T0 C S0
  refine Ac C S0 [(0, .iload_n 1, 1), (1, .aload_n 0, 1)] 2 #[Ab b, Aa 3] [.ref b, .int 3] ?_
  refine Au C S0 bK (by decide +kernel) ?_
  refine Ac C S0 [(3, .isub, 1), (4, .bipush 31, 2), (6, .iushr, 1), (7, .i2b, 1)] 8 #[Ab b, Aa 3] [.int ((Jvm.Free.XT.ushr ((3 : Int32) - (3 : Int32)) (31 : Int32)).toInt8.toInt32)] ?_
  rw [show (Jvm.Free.XT.ushr ((3 : Int32) - (3 : Int32)) (31 : Int32)).toInt8.toInt32 = (0 : Int32) from (by decide)]
  refine Ee C S0 (by decide +kernel) rfl (by decide) (by decide) ?_
  exact ⟨rfl, rfl⟩
theorem own_s4i3 (hw : Aj a0 Z) (G1 : Int32) (G3 : Value) (U8 : Addr) (I8 : Addr) (TB : Addr) (DE : Addr) (x : Addr) (a : Addr) (ak : ClassId) (c0 : Int32) (c1 : Int32) (c2 : Int32) (h0 : Heap) (n0 : Nat) (z0 : n0 ≤ h0.size) (ge_x : n0 ≤ x) (X00 : Old Z n0 h0) (p0 : Exa Z h0 x "java/lang/String") (p1 : Fld Z h0 x "java/lang/String" "value" "[B" .null) (p2 : Fld Z h0 x "java/lang/String" "coder" "B" (.int 0)) (aK : Arv Z h0 a ak .char (3 : Int32) ([(.int c0), (.int c1), (.int c2)]) (.int 0)) (ne_a_x : a ≠ x) (XS : Ax Z n0 G1 G3 U8 I8 TB DE) (gc0 : ¬ (255 : Int32) < c0) (gc1 : ¬ (255 : Int32) < c1) (gc2 : ¬ (255 : Int32) < c2) :
    Af l Z (⟨"java/lang/String", "<init>", "([CIILjava/lang/Void;)V"⟩ : MethodName) jdk_42_method_149_code 6 none ({ frames := 2, cells := 1, slots := 3, locals := 35 } : Room) n0 #[(.ref x), (.ref a), (.int 0), (.int 3), .null] h0 (fun v h => ∃ r : Addr, ∃ rk : ClassId, v = none ∧ h0.size ≤ r ∧ Keep h0 h [x] ∧ Exa Z h x "java/lang/String" ∧ Fld Z h x "java/lang/String" "value" "[B" (.ref r) ∧ Fld Z h x "java/lang/String" "coder" "B" (.int 0) ∧ Arv Z h r rk .byte (3 : Int32) ([(.int c0.toInt8.toInt32), (.int c1.toInt8.toInt32), (.int c2.toInt8.toInt32)]) (.int 0) ∧ Exa Z h r "[B") := by
  refine Ar #[.val (.ref x), .val (.ref a), .val (.int 0), .val (.int 3), .val .null, .unset] ?_
  intro p e s m below meth c T0 C S0
  have XS_ := XS
  obtain ⟨O2, O4, P5, rG3, OU, OI, OT, OD, hUI, TBlt, DElt⟩ := XS_
  refine Ac C S0 [(0, .aload_n 0, 1)] 1 #[Ab x, Ab a, Aa 0, Aa 3, .val .null, .unset] [.ref x] ?_
  refine Dp C S0 (ow hw 27 rfl) (ow hw 28 rfl) (ow hw 29 rfl) rfl (by decide +kernel) (by decide) 0 (Ak rfl) (by decide) ?_
  intro T1 S2
  refine Ac C S2 [(4, .iload_n 3, 1), (5, .ifCond .ne 22, 3)] 27 #[Ab x, Ab a, Aa 0, Aa 3, .val .null, .unset] [] ?_
  refine Bi C S2 (ow hw 30 rfl) Via.refl (O2.ext X00.2) (by decide +kernel) ?_
  intro T3 S4
  refine Bh C S4 .eq 28 58 (fun (hq : G1 = (0 : Int32)) => False.elim (P5 hq)) (fun (q5 : ¬ G1 = (0 : Int32)) => ?_)
  refine Ac C S4 [(33, .aload_n 1, 1), (34, .iload_n 2, 1), (35, .iload_n 3, 1)] 36 #[Ab x, Ab a, Aa 0, Aa 3, .val .null, .unset] [.int 3, .int 0, .ref a] ?_
  refine Ae C S4 hw 31 32 33 34 (own_cr3 l Z a0 hw a _ _ _ _ h0 n0 z0 aK gc0 gc1 gc2) 0 [.ref a, .int 0, .int 3] [] Fh ?_
  rintro T12 h13 v14 L15 S16 ⟨⟨a6, k7, rfl, g8, K9, f10, f11⟩, -⟩
  refine Ac C S16 [(39, .astore 5, 2), (41, .aload_n 0, 1), (42, .aload 5, 2), (44, .iload_n 3, 1)] 45 #[Ab x, Ab a, Aa 0, Aa 3, .val .null, Ab a6] [.int 3, .ref a6, .ref x] ?_
  have f17 : n0 ≤ h13.size := (Nat.le_trans z0 K9.1)
  refine Ae C S16 hw 39 40 33 41 (own_cl3 l Z a0 hw a6 _ _ h13 n0 f17 f10) 1 [.ref a6, .int 3] [.ref x] Ey ?_
  rintro T19 h20 v21 L22 S23 ⟨⟨rfl, e18⟩, -⟩
  rw [e18] at S23; clear e18
  have f24 := (p2.keep K9 nin0)
  have f25 := (p0.keep K9)
  refine Db C S23 (ty := .byte) (host := "") (Or.inl (ow hw 42 rfl)) Via.refl f24 f25 (Or.inr ⟨(ow hw 43 rfl), rfl, rfl⟩) (ow hw 18 rfl) Cx rfl rfl ge_x (by decide +kernel) ?_
  intro T26 h28 S27 W29
  have f30 : Fld Z h28 x "java/lang/String" "coder" "B" (.int 0) := Fld.same W29 f24
  refine Ac C S27 [(51, .aload_n 0, 1), (52, .aload 5, 2)] 54 #[Ab x, Ab a, Aa 0, Aa 3, .val .null, Ab a6] [.ref a6, .ref x] ?_
  have f31 := (Fld.other W29 (p1.keep K9 nin0) (Or.inr (Ep hw)))
  have f32 := (Exa.wr W29 f25)
  refine Db C S27 (ty := (.array .byte)) (host := "") (Or.inl (ow hw 44 rfl)) Via.refl f31 f32 (Or.inr ⟨(ow hw 45 rfl), rfl, rfl⟩) (ow hw 18 rfl) Cy rfl rfl ge_x (by decide +kernel) ?_
  intro T33 h35 S34 W36
  have f37 : Fld Z h35 x "java/lang/String" "value" "[B" (.ref a6) := Fld.same W36 f31
  refine Ct C S34 (by decide +kernel) (by decide) (by decide) ?_
  have o38 : h0.size ≤ a6 := Nat.le_trans (Nat.le_refl _) g8
  have f39 := (Exa.wr W36 f32)
  have f40 := (Fld.other W36 f30 (Or.inr (Er hw)))
  have n41 : x ≠ a6 := Nat.ne_of_lt (Nat.lt_of_lt_of_le p0.lt g8)
  have f42 := ((f10.other W29 (Ne.symm n41)).other W36 (Ne.symm n41))
  have f43 := (Exa.wr W36 (Exa.wr W29 f11))
  exact ⟨a6, k7, rfl, o38, ((((Keep.refl _ _).trans K9 all0).wr W29 (Ba 0)).wr W36 (Ba 0)), f39, f37, f40, f42, f43⟩
theorem own_s1i3 (hw : Aj a0 Z) (G1 : Int32) (G3 : Value) (U8 : Addr) (I8 : Addr) (TB : Addr) (DE : Addr) (x : Addr) (a : Addr) (ak : ClassId) (c0 : Int32) (c1 : Int32) (c2 : Int32) (h0 : Heap) (n0 : Nat) (z0 : n0 ≤ h0.size) (ge_x : n0 ≤ x) (X00 : Old Z n0 h0) (p0 : Exa Z h0 x "java/lang/String") (p1 : Fld Z h0 x "java/lang/String" "value" "[B" .null) (p2 : Fld Z h0 x "java/lang/String" "coder" "B" (.int 0)) (aK : Arv Z h0 a ak .char (3 : Int32) ([(.int c0), (.int c1), (.int c2)]) (.int 0)) (ne_a_x : a ≠ x) (XS : Ax Z n0 G1 G3 U8 I8 TB DE) (gc0 : ¬ (255 : Int32) < c0) (gc1 : ¬ (255 : Int32) < c1) (gc2 : ¬ (255 : Int32) < c2) :
    Af l Z (⟨"java/lang/String", "<init>", "([C)V"⟩ : MethodName) jdk_42_method_3_code 2 none ({ frames := 3, cells := 1, slots := 3, locals := 52 } : Room) n0 #[(.ref x), (.ref a)] h0 (fun v h => ∃ r : Addr, ∃ rk : ClassId, v = none ∧ h0.size ≤ r ∧ Keep h0 h [x] ∧ Exa Z h x "java/lang/String" ∧ Fld Z h x "java/lang/String" "value" "[B" (.ref r) ∧ Fld Z h x "java/lang/String" "coder" "B" (.int 0) ∧ Arv Z h r rk .byte (3 : Int32) ([(.int c0.toInt8.toInt32), (.int c1.toInt8.toInt32), (.int c2.toInt8.toInt32)]) (.int 0) ∧ Exa Z h r "[B") := by
  refine Ar #[.val (.ref x), .val (.ref a)] ?_
  intro p e s m below meth c T0 C S0
  have XS_ := XS
  obtain ⟨O2, O4, P5, rG3, OU, OI, OT, OD, hUI, TBlt, DElt⟩ := XS_
  refine Ac C S0 [(0, .aload_n 0, 1), (1, .aload_n 1, 1), (2, .iconst 0, 1), (3, .aload_n 1, 1)] 4 #[Ab x, Ab a] [.ref a, .int 0, .ref a, .ref x] ?_
  refine Au C S0 aK (by decide +kernel) ?_
  refine Ac C S0 [(5, .aconst_null, 1)] 6 #[Ab x, Ab a] [.null, .int 3, .int 0, .ref a, .ref x] ?_
  refine Cs C S0 rfl (ow hw 23 rfl) (ow hw 24 rfl) (ow hw 26 rfl) (by decide) (Af.pay (own_s4i3 l Z a0 hw G1 G3 U8 I8 TB DE x a _ _ _ _ h0 n0 z0 ge_x X00 p0 p1 p2 aK ne_a_x XS gc0 gc1 gc2) C 0 (ow hw 26 rfl) (ow hw 19 rfl) (by decide) (by decide)) (fun _ _ _ q => q.2) [.ref a, .int 0, .int 3, .null] [] rfl Eg rfl rfl rfl (Ak rfl) (by decide) (by decide) (by decide +kernel) ?_
  rintro T10 h11 v12 L13 S14 ⟨⟨a1, k2, rfl, g3, K4, f5, f6, f7, f8, f9⟩, -⟩
  refine Ct C S14 (by decide +kernel) (by decide) (by decide) ?_
  have o15 : h0.size ≤ a1 := Nat.le_trans (Nat.le_refl _) g3
  exact ⟨a1, k2, rfl, o15, ((Keep.refl _ _).trans K4 (allS (Ba 0) all0)), f5, f6, f7, f8, f9⟩
theorem own_cq4 (hw : Aj a0 Z) (a : Addr) (ak : ClassId) (b : Addr) (bk : ClassId) (c0 : Int32) (c1 : Int32) (c2 : Int32) (c3 : Int32) (h0 : Heap) (n0 : Nat) (z0 : n0 ≤ h0.size) (ge_b : n0 ≤ b) (aK : Arv Z h0 a ak .char (4 : Int32) ([(.int c0), (.int c1), (.int c2), (.int c3)]) (.int 0)) (bK : Arv Z h0 b bk .byte (4 : Int32) ([(.int 0), (.int 0), (.int 0), (.int 0)]) (.int 0)) (ne_a_b : a ≠ b) (gc0 : ¬ (255 : Int32) < c0) (gc1 : ¬ (255 : Int32) < c1) (gc2 : ¬ (255 : Int32) < c2) (gc3 : ¬ (255 : Int32) < c3) :
    Af l Z (⟨"java/lang/StringUTF16", "compress", "([CI[BII)I"⟩ : MethodName) jdk_52_method_21_code 7 (some .int) ({ frames := 0, cells := 0, slots := 0, locals := 0 } : Room) n0 #[(.ref a), (.int 0), (.ref b), (.int 0), (.int 4)] h0 (fun v h => v = some (.int 4) ∧ Keep h0 h [b] ∧ Arv Z h b bk .byte (4 : Int32) ([(.int c0.toInt8.toInt32), (.int c1.toInt8.toInt32), (.int c2.toInt8.toInt32), (.int c3.toInt8.toInt32)]) (.int 0)) := by
  refine Ar #[.val (.ref a), .val (.int 0), .val (.ref b), .val (.int 0), .val (.int 4), .unset, .unset] ?_
  intro p e s m below meth c T0 C S0
  refine Ac C S0 [(0, .iconst 0, 1), (1, .istore 5, 2), (3, .iload 5, 2), (5, .iload 4, 2), (7, .if_icmp .ge 37, 3), (10, .aload_n 0, 1), (11, .iload_n 1, 1)] 12 #[Ab a, Aa 0, Ab b, Aa 0, Aa 4, Aa 0, .unset] [.int 0, .ref a] ?_
  refine Ao C S0 aK ⟨(by decide), (by decide)⟩ (.int c0) rfl (by decide +kernel) ?_
  refine Ac C S0 [(13, .istore 6, 2), (15, .iload 6, 2), (17, .sipush 255, 3)] 20 #[Ab a, Aa 0, Ab b, Aa 0, Aa 4, Aa 0, Aa c0] [.int 255, .int c0] ?_
  refine Bg C S0 .le 6 26 (fun (q1 : ¬ (255 : Int32) < c0) => ?_) (fun (hq : (255 : Int32) < c0) => False.elim (gc0 hq))
  refine Ac C S0 [(26, .aload_n 2, 1), (27, .iload_n 3, 1), (28, .iload 6, 2), (30, .i2b, 1)] 31 #[Ab a, Aa 0, Ab b, Aa 0, Aa 4, Aa 0, Aa c0] [.int c0.toInt8.toInt32, .int 0, .ref b] ?_
  refine Ap C S0 bK ⟨(by decide), (by decide)⟩ 0 rfl (Ak rfl) c0.toInt8.toInt32 (Bc _) ge_b (by decide +kernel) ?_
  intro T2 h4 S3 W5 f6
  have f7 : Arv Z h4 b bk .byte (4 : Int32) ([(.int c0.toInt8.toInt32), (.int 0), (.int 0), (.int 0)]) (.int 0) := f6
  refine Ac C S3 [(32, .iinc 1 1, 3), (35, .iinc 3 1, 3), (38, .iinc 5 1, 3), (41, .goto (-38), 3), (3, .iload 5, 2), (5, .iload 4, 2), (7, .if_icmp .ge 37, 3), (10, .aload_n 0, 1), (11, .iload_n 1, 1)] 12 #[Ab a, Aa 1, Ab b, Aa 1, Aa 4, Aa 1, Aa c0] [.int 1, .ref a] ?_
  have f8 := (aK.other W5 ne_a_b)
  refine Ao C S3 f8 ⟨(by decide), (by decide)⟩ (.int c1) rfl (by decide +kernel) ?_
  refine Ac C S3 [(13, .istore 6, 2), (15, .iload 6, 2), (17, .sipush 255, 3)] 20 #[Ab a, Aa 1, Ab b, Aa 1, Aa 4, Aa 1, Aa c1] [.int 255, .int c1] ?_
  refine Bg C S3 .le 6 26 (fun (q9 : ¬ (255 : Int32) < c1) => ?_) (fun (hq : (255 : Int32) < c1) => False.elim (gc1 hq))
  refine Ac C S3 [(26, .aload_n 2, 1), (27, .iload_n 3, 1), (28, .iload 6, 2), (30, .i2b, 1)] 31 #[Ab a, Aa 1, Ab b, Aa 1, Aa 4, Aa 1, Aa c1] [.int c1.toInt8.toInt32, .int 1, .ref b] ?_
  refine Ap C S3 f7 ⟨(by decide), (by decide)⟩ 1 rfl (Ak rfl) c1.toInt8.toInt32 (Bc _) ge_b (by decide +kernel) ?_
  intro T10 h12 S11 W13 f14
  have f15 : Arv Z h12 b bk .byte (4 : Int32) ([(.int c0.toInt8.toInt32), (.int c1.toInt8.toInt32), (.int 0), (.int 0)]) (.int 0) := f14
  refine Ac C S11 [(32, .iinc 1 1, 3), (35, .iinc 3 1, 3), (38, .iinc 5 1, 3), (41, .goto (-38), 3), (3, .iload 5, 2), (5, .iload 4, 2), (7, .if_icmp .ge 37, 3), (10, .aload_n 0, 1), (11, .iload_n 1, 1)] 12 #[Ab a, Aa 2, Ab b, Aa 2, Aa 4, Aa 2, Aa c1] [.int 2, .ref a] ?_
  have f16 := (f8.other W13 ne_a_b)
  refine Ao C S11 f16 ⟨(by decide), (by decide)⟩ (.int c2) rfl (by decide +kernel) ?_
  refine Ac C S11 [(13, .istore 6, 2), (15, .iload 6, 2), (17, .sipush 255, 3)] 20 #[Ab a, Aa 2, Ab b, Aa 2, Aa 4, Aa 2, Aa c2] [.int 255, .int c2] ?_
  refine Bg C S11 .le 6 26 (fun (q17 : ¬ (255 : Int32) < c2) => ?_) (fun (hq : (255 : Int32) < c2) => False.elim (gc2 hq))
  refine Ac C S11 [(26, .aload_n 2, 1), (27, .iload_n 3, 1), (28, .iload 6, 2), (30, .i2b, 1)] 31 #[Ab a, Aa 2, Ab b, Aa 2, Aa 4, Aa 2, Aa c2] [.int c2.toInt8.toInt32, .int 2, .ref b] ?_
  refine Ap C S11 f15 ⟨(by decide), (by decide)⟩ 2 rfl (Ak rfl) c2.toInt8.toInt32 (Bc _) ge_b (by decide +kernel) ?_
  intro T18 h20 S19 W21 f22
  have f23 : Arv Z h20 b bk .byte (4 : Int32) ([(.int c0.toInt8.toInt32), (.int c1.toInt8.toInt32), (.int c2.toInt8.toInt32), (.int 0)]) (.int 0) := f22
  refine Ac C S19 [(32, .iinc 1 1, 3), (35, .iinc 3 1, 3), (38, .iinc 5 1, 3), (41, .goto (-38), 3), (3, .iload 5, 2), (5, .iload 4, 2), (7, .if_icmp .ge 37, 3), (10, .aload_n 0, 1), (11, .iload_n 1, 1)] 12 #[Ab a, Aa 3, Ab b, Aa 3, Aa 4, Aa 3, Aa c2] [.int 3, .ref a] ?_
  have f24 := (f16.other W21 ne_a_b)
  refine Ao C S19 f24 ⟨(by decide), (by decide)⟩ (.int c3) rfl (by decide +kernel) ?_
  refine Ac C S19 [(13, .istore 6, 2), (15, .iload 6, 2), (17, .sipush 255, 3)] 20 #[Ab a, Aa 3, Ab b, Aa 3, Aa 4, Aa 3, Aa c3] [.int 255, .int c3] ?_
  refine Bg C S19 .le 6 26 (fun (q25 : ¬ (255 : Int32) < c3) => ?_) (fun (hq : (255 : Int32) < c3) => False.elim (gc3 hq))
  refine Ac C S19 [(26, .aload_n 2, 1), (27, .iload_n 3, 1), (28, .iload 6, 2), (30, .i2b, 1)] 31 #[Ab a, Aa 3, Ab b, Aa 3, Aa 4, Aa 3, Aa c3] [.int c3.toInt8.toInt32, .int 3, .ref b] ?_
  refine Ap C S19 f23 ⟨(by decide), (by decide)⟩ 3 rfl (Ak rfl) c3.toInt8.toInt32 (Bc _) ge_b (by decide +kernel) ?_
  intro T26 h28 S27 W29 f30
  have f31 : Arv Z h28 b bk .byte (4 : Int32) ([(.int c0.toInt8.toInt32), (.int c1.toInt8.toInt32), (.int c2.toInt8.toInt32), (.int c3.toInt8.toInt32)]) (.int 0) := f30
  refine Ac C S27 [(32, .iinc 1 1, 3), (35, .iinc 3 1, 3), (38, .iinc 5 1, 3), (41, .goto (-38), 3), (3, .iload 5, 2), (5, .iload 4, 2), (7, .if_icmp .ge 37, 3), (44, .iload 4, 2)] 46 #[Ab a, Aa 4, Ab b, Aa 4, Aa 4, Aa 4, Aa c3] [.int 4] ?_
  refine Bq C S27 (by decide +kernel) (by decide) (by decide) ?_
  exact ⟨rfl, (((((Keep.refl _ _).wr W5 (Ba 0)).wr W13 (Ba 0)).wr W21 (Ba 0)).wr W29 (Ba 0)), f31⟩
theorem own_cr4 (hw : Aj a0 Z) (a : Addr) (ak : ClassId) (c0 : Int32) (c1 : Int32) (c2 : Int32) (c3 : Int32) (h0 : Heap) (n0 : Nat) (z0 : n0 ≤ h0.size) (aK : Arv Z h0 a ak .char (4 : Int32) ([(.int c0), (.int c1), (.int c2), (.int c3)]) (.int 0)) (gc0 : ¬ (255 : Int32) < c0) (gc1 : ¬ (255 : Int32) < c1) (gc2 : ¬ (255 : Int32) < c2) (gc3 : ¬ (255 : Int32) < c3) :
    Af l Z (⟨"java/lang/StringUTF16", "compress", "([CII)[B"⟩ : MethodName) jdk_52_method_16_code 6 (some (.array .byte)) ({ frames := 1, cells := 1, slots := 4, locals := 18 } : Room) n0 #[(.ref a), (.int 0), (.int 4)] h0 (fun v h => ∃ r : Addr, ∃ rk : ClassId, v = some (.ref r) ∧ h0.size ≤ r ∧ Keep h0 h [] ∧ Arv Z h r rk .byte (4 : Int32) ([(.int c0.toInt8.toInt32), (.int c1.toInt8.toInt32), (.int c2.toInt8.toInt32), (.int c3.toInt8.toInt32)]) (.int 0) ∧ Exa Z h r "[B") := by
  refine Ar #[.val (.ref a), .val (.int 0), .val (.int 4), .unset, .unset, .unset] ?_
  intro p e s m below meth c T0 C S0
  refine Ac C S0 [(0, .iload_n 2, 1)] 1 #[Ab a, Aa 0, Aa 4, .unset, .unset, .unset] [.int 4] ?_
  refine Cp C S0 (aty := .byte) (ad := "[B") (by decide) (ow hw 35 rfl) (by decide +kernel) (by decide) 4 (by decide) (by decide) (by decide) (by decide) ?_
  intro T1 h3 a4 k5 S2 g6 E7 f8 x9
  have f10 : Arv Z h3 a4 k5 .byte (4 : Int32) ([(.int 0), (.int 0), (.int 0), (.int 0)]) (.int 0) := Arv.pad f8 (pad_rep [] (.int 0) 4)
  refine Ac C S2 [(3, .astore_n 3, 1), (4, .aload_n 0, 1), (5, .iload_n 1, 1), (6, .aload_n 3, 1), (7, .iconst 0, 1), (8, .iload_n 2, 1)] 9 #[Ab a, Aa 0, Aa 4, Ab a4, .unset, .unset] [.int 4, .int 0, .ref a4, .int 0, .ref a] ?_
  have f11 := (aK.ext E7)
  have f12 : n0 ≤ h3.size := (Nat.le_trans z0 E7.1)
  have g13 : n0 ≤ a4 := by rw [g6]; exact z0
  have n14 : a ≠ a4 := by rw [g6]; exact Nat.ne_of_lt aK.lt
  refine Ae C S2 hw 36 37 33 38 (own_cq4 l Z a0 hw a _ a4 _ _ _ _ _ h3 n0 f12 g13 f11 f10 n14 gc0 gc1 gc2 gc3) 0 [.ref a, .int 0, .ref a4, .int 0, .int 4] [] Fg ?_
  rintro T17 h18 v19 L20 S21 ⟨⟨rfl, K15, f16⟩, -⟩
  refine Ac C S21 [(12, .istore 4, 2), (14, .iload 4, 2), (16, .iload_n 2, 1), (17, .if_icmp .eq 40, 3), (57, .aload_n 3, 1)] 58 #[Ab a, Aa 0, Aa 4, Ab a4, Aa 4, .unset] [.ref a4] ?_
  refine Az C S21 rfl rfl (by decide +kernel) (by decide) (by decide) ?_
  have o22 : h0.size ≤ a4 := by rw [g6]; exact (Nat.le_refl _)
  have f23 := (x9.keep K15)
  exact ⟨a4, k5, rfl, o22, (((Keep.refl _ _).ext E7).trans K15 (allS (Or.inr o22) all0)), f16, f23⟩
theorem own_cl4 (hw : Aj a0 Z) (b : Addr) (bk : ClassId) (vs : List Value) (h0 : Heap) (n0 : Nat) (z0 : n0 ≤ h0.size) (bK : Arv Z h0 b bk .byte (4 : Int32) vs (.int 0)) :
    Af l Z (⟨"java/lang/StringUTF16", "coderFromArrayLen", "([BI)B"⟩ : MethodName) jdk_52_method_15_code 2 (some .byte) ({ frames := 0, cells := 0, slots := 0, locals := 0 } : Room) n0 #[(.ref b), (.int 4)] h0 (fun v h => v = some (.int 0) ∧ h = h0) := by
  refine Ar #[.val (.ref b), .val (.int 4)] ?_
  intro p e s m below meth c T0 C S0
  refine Ac C S0 [(0, .iload_n 1, 1), (1, .aload_n 0, 1)] 2 #[Ab b, Aa 4] [.ref b, .int 4] ?_
  refine Au C S0 bK (by decide +kernel) ?_
  refine Ac C S0 [(3, .isub, 1), (4, .bipush 31, 2), (6, .iushr, 1), (7, .i2b, 1)] 8 #[Ab b, Aa 4] [.int ((Jvm.Free.XT.ushr ((4 : Int32) - (4 : Int32)) (31 : Int32)).toInt8.toInt32)] ?_
  rw [show (Jvm.Free.XT.ushr ((4 : Int32) - (4 : Int32)) (31 : Int32)).toInt8.toInt32 = (0 : Int32) from (by decide)]
  refine Ee C S0 (by decide +kernel) rfl (by decide) (by decide) ?_
  exact ⟨rfl, rfl⟩
theorem own_s4i4 (hw : Aj a0 Z) (G1 : Int32) (G3 : Value) (U8 : Addr) (I8 : Addr) (TB : Addr) (DE : Addr) (x : Addr) (a : Addr) (ak : ClassId) (c0 : Int32) (c1 : Int32) (c2 : Int32) (c3 : Int32) (h0 : Heap) (n0 : Nat) (z0 : n0 ≤ h0.size) (ge_x : n0 ≤ x) (X00 : Old Z n0 h0) (p0 : Exa Z h0 x "java/lang/String") (p1 : Fld Z h0 x "java/lang/String" "value" "[B" .null) (p2 : Fld Z h0 x "java/lang/String" "coder" "B" (.int 0)) (aK : Arv Z h0 a ak .char (4 : Int32) ([(.int c0), (.int c1), (.int c2), (.int c3)]) (.int 0)) (ne_a_x : a ≠ x) (XS : Ax Z n0 G1 G3 U8 I8 TB DE) (gc0 : ¬ (255 : Int32) < c0) (gc1 : ¬ (255 : Int32) < c1) (gc2 : ¬ (255 : Int32) < c2) (gc3 : ¬ (255 : Int32) < c3) :
    Af l Z (⟨"java/lang/String", "<init>", "([CIILjava/lang/Void;)V"⟩ : MethodName) jdk_42_method_149_code 6 none ({ frames := 2, cells := 1, slots := 4, locals := 35 } : Room) n0 #[(.ref x), (.ref a), (.int 0), (.int 4), .null] h0 (fun v h => ∃ r : Addr, ∃ rk : ClassId, v = none ∧ h0.size ≤ r ∧ Keep h0 h [x] ∧ Exa Z h x "java/lang/String" ∧ Fld Z h x "java/lang/String" "value" "[B" (.ref r) ∧ Fld Z h x "java/lang/String" "coder" "B" (.int 0) ∧ Arv Z h r rk .byte (4 : Int32) ([(.int c0.toInt8.toInt32), (.int c1.toInt8.toInt32), (.int c2.toInt8.toInt32), (.int c3.toInt8.toInt32)]) (.int 0) ∧ Exa Z h r "[B") := by
  refine Ar #[.val (.ref x), .val (.ref a), .val (.int 0), .val (.int 4), .val .null, .unset] ?_
  intro p e s m below meth c T0 C S0
  have XS_ := XS
  obtain ⟨O2, O4, P5, rG3, OU, OI, OT, OD, hUI, TBlt, DElt⟩ := XS_
  refine Ac C S0 [(0, .aload_n 0, 1)] 1 #[Ab x, Ab a, Aa 0, Aa 4, .val .null, .unset] [.ref x] ?_
  refine Dp C S0 (ow hw 27 rfl) (ow hw 28 rfl) (ow hw 29 rfl) rfl (by decide +kernel) (by decide) 0 (Ak rfl) (by decide) ?_
  intro T1 S2
  refine Ac C S2 [(4, .iload_n 3, 1), (5, .ifCond .ne 22, 3)] 27 #[Ab x, Ab a, Aa 0, Aa 4, .val .null, .unset] [] ?_
  refine Bi C S2 (ow hw 30 rfl) Via.refl (O2.ext X00.2) (by decide +kernel) ?_
  intro T3 S4
  refine Bh C S4 .eq 28 58 (fun (hq : G1 = (0 : Int32)) => False.elim (P5 hq)) (fun (q5 : ¬ G1 = (0 : Int32)) => ?_)
  refine Ac C S4 [(33, .aload_n 1, 1), (34, .iload_n 2, 1), (35, .iload_n 3, 1)] 36 #[Ab x, Ab a, Aa 0, Aa 4, .val .null, .unset] [.int 4, .int 0, .ref a] ?_
  refine Ae C S4 hw 31 32 33 34 (own_cr4 l Z a0 hw a _ _ _ _ _ h0 n0 z0 aK gc0 gc1 gc2 gc3) 0 [.ref a, .int 0, .int 4] [] Fh ?_
  rintro T12 h13 v14 L15 S16 ⟨⟨a6, k7, rfl, g8, K9, f10, f11⟩, -⟩
  refine Ac C S16 [(39, .astore 5, 2), (41, .aload_n 0, 1), (42, .aload 5, 2), (44, .iload_n 3, 1)] 45 #[Ab x, Ab a, Aa 0, Aa 4, .val .null, Ab a6] [.int 4, .ref a6, .ref x] ?_
  have f17 : n0 ≤ h13.size := (Nat.le_trans z0 K9.1)
  refine Ae C S16 hw 39 40 33 41 (own_cl4 l Z a0 hw a6 _ _ h13 n0 f17 f10) 1 [.ref a6, .int 4] [.ref x] Ey ?_
  rintro T19 h20 v21 L22 S23 ⟨⟨rfl, e18⟩, -⟩
  rw [e18] at S23; clear e18
  have f24 := (p2.keep K9 nin0)
  have f25 := (p0.keep K9)
  refine Db C S23 (ty := .byte) (host := "") (Or.inl (ow hw 42 rfl)) Via.refl f24 f25 (Or.inr ⟨(ow hw 43 rfl), rfl, rfl⟩) (ow hw 18 rfl) Cx rfl rfl ge_x (by decide +kernel) ?_
  intro T26 h28 S27 W29
  have f30 : Fld Z h28 x "java/lang/String" "coder" "B" (.int 0) := Fld.same W29 f24
  refine Ac C S27 [(51, .aload_n 0, 1), (52, .aload 5, 2)] 54 #[Ab x, Ab a, Aa 0, Aa 4, .val .null, Ab a6] [.ref a6, .ref x] ?_
  have f31 := (Fld.other W29 (p1.keep K9 nin0) (Or.inr (Ep hw)))
  have f32 := (Exa.wr W29 f25)
  refine Db C S27 (ty := (.array .byte)) (host := "") (Or.inl (ow hw 44 rfl)) Via.refl f31 f32 (Or.inr ⟨(ow hw 45 rfl), rfl, rfl⟩) (ow hw 18 rfl) Cy rfl rfl ge_x (by decide +kernel) ?_
  intro T33 h35 S34 W36
  have f37 : Fld Z h35 x "java/lang/String" "value" "[B" (.ref a6) := Fld.same W36 f31
  refine Ct C S34 (by decide +kernel) (by decide) (by decide) ?_
  have o38 : h0.size ≤ a6 := Nat.le_trans (Nat.le_refl _) g8
  have f39 := (Exa.wr W36 f32)
  have f40 := (Fld.other W36 f30 (Or.inr (Er hw)))
  have n41 : x ≠ a6 := Nat.ne_of_lt (Nat.lt_of_lt_of_le p0.lt g8)
  have f42 := ((f10.other W29 (Ne.symm n41)).other W36 (Ne.symm n41))
  have f43 := (Exa.wr W36 (Exa.wr W29 f11))
  exact ⟨a6, k7, rfl, o38, ((((Keep.refl _ _).trans K9 all0).wr W29 (Ba 0)).wr W36 (Ba 0)), f39, f37, f40, f42, f43⟩
theorem own_s1i4 (hw : Aj a0 Z) (G1 : Int32) (G3 : Value) (U8 : Addr) (I8 : Addr) (TB : Addr) (DE : Addr) (x : Addr) (a : Addr) (ak : ClassId) (c0 : Int32) (c1 : Int32) (c2 : Int32) (c3 : Int32) (h0 : Heap) (n0 : Nat) (z0 : n0 ≤ h0.size) (ge_x : n0 ≤ x) (X00 : Old Z n0 h0) (p0 : Exa Z h0 x "java/lang/String") (p1 : Fld Z h0 x "java/lang/String" "value" "[B" .null) (p2 : Fld Z h0 x "java/lang/String" "coder" "B" (.int 0)) (aK : Arv Z h0 a ak .char (4 : Int32) ([(.int c0), (.int c1), (.int c2), (.int c3)]) (.int 0)) (ne_a_x : a ≠ x) (XS : Ax Z n0 G1 G3 U8 I8 TB DE) (gc0 : ¬ (255 : Int32) < c0) (gc1 : ¬ (255 : Int32) < c1) (gc2 : ¬ (255 : Int32) < c2) (gc3 : ¬ (255 : Int32) < c3) :
    Af l Z (⟨"java/lang/String", "<init>", "([C)V"⟩ : MethodName) jdk_42_method_3_code 2 none ({ frames := 3, cells := 1, slots := 4, locals := 52 } : Room) n0 #[(.ref x), (.ref a)] h0 (fun v h => ∃ r : Addr, ∃ rk : ClassId, v = none ∧ h0.size ≤ r ∧ Keep h0 h [x] ∧ Exa Z h x "java/lang/String" ∧ Fld Z h x "java/lang/String" "value" "[B" (.ref r) ∧ Fld Z h x "java/lang/String" "coder" "B" (.int 0) ∧ Arv Z h r rk .byte (4 : Int32) ([(.int c0.toInt8.toInt32), (.int c1.toInt8.toInt32), (.int c2.toInt8.toInt32), (.int c3.toInt8.toInt32)]) (.int 0) ∧ Exa Z h r "[B") := by
  refine Ar #[.val (.ref x), .val (.ref a)] ?_
  intro p e s m below meth c T0 C S0
  have XS_ := XS
  obtain ⟨O2, O4, P5, rG3, OU, OI, OT, OD, hUI, TBlt, DElt⟩ := XS_
  refine Ac C S0 [(0, .aload_n 0, 1), (1, .aload_n 1, 1), (2, .iconst 0, 1), (3, .aload_n 1, 1)] 4 #[Ab x, Ab a] [.ref a, .int 0, .ref a, .ref x] ?_
  refine Au C S0 aK (by decide +kernel) ?_
  refine Ac C S0 [(5, .aconst_null, 1)] 6 #[Ab x, Ab a] [.null, .int 4, .int 0, .ref a, .ref x] ?_
  refine Cs C S0 rfl (ow hw 23 rfl) (ow hw 24 rfl) (ow hw 26 rfl) (by decide) (Af.pay (own_s4i4 l Z a0 hw G1 G3 U8 I8 TB DE x a _ _ _ _ _ h0 n0 z0 ge_x X00 p0 p1 p2 aK ne_a_x XS gc0 gc1 gc2 gc3) C 0 (ow hw 26 rfl) (ow hw 19 rfl) (by decide) (by decide)) (fun _ _ _ q => q.2) [.ref a, .int 0, .int 4, .null] [] rfl Eg rfl rfl rfl (Ak rfl) (by decide) (by decide) (by decide +kernel) ?_
  rintro T10 h11 v12 L13 S14 ⟨⟨a1, k2, rfl, g3, K4, f5, f6, f7, f8, f9⟩, -⟩
  refine Ct C S14 (by decide +kernel) (by decide) (by decide) ?_
  have o15 : h0.size ≤ a1 := Nat.le_trans (Nat.le_refl _) g3
  exact ⟨a1, k2, rfl, o15, ((Keep.refl _ _).trans K4 (allS (Ba 0) all0)), f5, f6, f7, f8, f9⟩
theorem own_cq6 (hw : Aj a0 Z) (a : Addr) (ak : ClassId) (b : Addr) (bk : ClassId) (c0 : Int32) (c1 : Int32) (c2 : Int32) (c3 : Int32) (c4 : Int32) (c5 : Int32) (h0 : Heap) (n0 : Nat) (z0 : n0 ≤ h0.size) (ge_b : n0 ≤ b) (aK : Arv Z h0 a ak .char (6 : Int32) ([(.int c0), (.int c1), (.int c2), (.int c3), (.int c4), (.int c5)]) (.int 0)) (bK : Arv Z h0 b bk .byte (6 : Int32) ([(.int 0), (.int 0), (.int 0), (.int 0), (.int 0), (.int 0)]) (.int 0)) (ne_a_b : a ≠ b) (gc0 : ¬ (255 : Int32) < c0) (gc1 : ¬ (255 : Int32) < c1) (gc2 : ¬ (255 : Int32) < c2) (gc3 : ¬ (255 : Int32) < c3) (gc4 : ¬ (255 : Int32) < c4) (gc5 : ¬ (255 : Int32) < c5) :
    Af l Z (⟨"java/lang/StringUTF16", "compress", "([CI[BII)I"⟩ : MethodName) jdk_52_method_21_code 7 (some .int) ({ frames := 0, cells := 0, slots := 0, locals := 0 } : Room) n0 #[(.ref a), (.int 0), (.ref b), (.int 0), (.int 6)] h0 (fun v h => v = some (.int 6) ∧ Keep h0 h [b] ∧ Arv Z h b bk .byte (6 : Int32) ([(.int c0.toInt8.toInt32), (.int c1.toInt8.toInt32), (.int c2.toInt8.toInt32), (.int c3.toInt8.toInt32), (.int c4.toInt8.toInt32), (.int c5.toInt8.toInt32)]) (.int 0)) := by
  refine Ar #[.val (.ref a), .val (.int 0), .val (.ref b), .val (.int 0), .val (.int 6), .unset, .unset] ?_
  intro p e s m below meth c T0 C S0
  refine Ac C S0 [(0, .iconst 0, 1), (1, .istore 5, 2), (3, .iload 5, 2), (5, .iload 4, 2), (7, .if_icmp .ge 37, 3), (10, .aload_n 0, 1), (11, .iload_n 1, 1)] 12 #[Ab a, Aa 0, Ab b, Aa 0, Aa 6, Aa 0, .unset] [.int 0, .ref a] ?_
  refine Ao C S0 aK ⟨(by decide), (by decide)⟩ (.int c0) rfl (by decide +kernel) ?_
  refine Ac C S0 [(13, .istore 6, 2), (15, .iload 6, 2), (17, .sipush 255, 3)] 20 #[Ab a, Aa 0, Ab b, Aa 0, Aa 6, Aa 0, Aa c0] [.int 255, .int c0] ?_
  refine Bg C S0 .le 6 26 (fun (q1 : ¬ (255 : Int32) < c0) => ?_) (fun (hq : (255 : Int32) < c0) => False.elim (gc0 hq))
  refine Ac C S0 [(26, .aload_n 2, 1), (27, .iload_n 3, 1), (28, .iload 6, 2), (30, .i2b, 1)] 31 #[Ab a, Aa 0, Ab b, Aa 0, Aa 6, Aa 0, Aa c0] [.int c0.toInt8.toInt32, .int 0, .ref b] ?_
  refine Ap C S0 bK ⟨(by decide), (by decide)⟩ 0 rfl (Ak rfl) c0.toInt8.toInt32 (Bc _) ge_b (by decide +kernel) ?_
  intro T2 h4 S3 W5 f6
  have f7 : Arv Z h4 b bk .byte (6 : Int32) ([(.int c0.toInt8.toInt32), (.int 0), (.int 0), (.int 0), (.int 0), (.int 0)]) (.int 0) := f6
  refine Ac C S3 [(32, .iinc 1 1, 3), (35, .iinc 3 1, 3), (38, .iinc 5 1, 3), (41, .goto (-38), 3), (3, .iload 5, 2), (5, .iload 4, 2), (7, .if_icmp .ge 37, 3), (10, .aload_n 0, 1), (11, .iload_n 1, 1)] 12 #[Ab a, Aa 1, Ab b, Aa 1, Aa 6, Aa 1, Aa c0] [.int 1, .ref a] ?_
  have f8 := (aK.other W5 ne_a_b)
  refine Ao C S3 f8 ⟨(by decide), (by decide)⟩ (.int c1) rfl (by decide +kernel) ?_
  refine Ac C S3 [(13, .istore 6, 2), (15, .iload 6, 2), (17, .sipush 255, 3)] 20 #[Ab a, Aa 1, Ab b, Aa 1, Aa 6, Aa 1, Aa c1] [.int 255, .int c1] ?_
  refine Bg C S3 .le 6 26 (fun (q9 : ¬ (255 : Int32) < c1) => ?_) (fun (hq : (255 : Int32) < c1) => False.elim (gc1 hq))
  refine Ac C S3 [(26, .aload_n 2, 1), (27, .iload_n 3, 1), (28, .iload 6, 2), (30, .i2b, 1)] 31 #[Ab a, Aa 1, Ab b, Aa 1, Aa 6, Aa 1, Aa c1] [.int c1.toInt8.toInt32, .int 1, .ref b] ?_
  refine Ap C S3 f7 ⟨(by decide), (by decide)⟩ 1 rfl (Ak rfl) c1.toInt8.toInt32 (Bc _) ge_b (by decide +kernel) ?_
  intro T10 h12 S11 W13 f14
  have f15 : Arv Z h12 b bk .byte (6 : Int32) ([(.int c0.toInt8.toInt32), (.int c1.toInt8.toInt32), (.int 0), (.int 0), (.int 0), (.int 0)]) (.int 0) := f14
  refine Ac C S11 [(32, .iinc 1 1, 3), (35, .iinc 3 1, 3), (38, .iinc 5 1, 3), (41, .goto (-38), 3), (3, .iload 5, 2), (5, .iload 4, 2), (7, .if_icmp .ge 37, 3), (10, .aload_n 0, 1), (11, .iload_n 1, 1)] 12 #[Ab a, Aa 2, Ab b, Aa 2, Aa 6, Aa 2, Aa c1] [.int 2, .ref a] ?_
  have f16 := (f8.other W13 ne_a_b)
  refine Ao C S11 f16 ⟨(by decide), (by decide)⟩ (.int c2) rfl (by decide +kernel) ?_
  refine Ac C S11 [(13, .istore 6, 2), (15, .iload 6, 2), (17, .sipush 255, 3)] 20 #[Ab a, Aa 2, Ab b, Aa 2, Aa 6, Aa 2, Aa c2] [.int 255, .int c2] ?_
  refine Bg C S11 .le 6 26 (fun (q17 : ¬ (255 : Int32) < c2) => ?_) (fun (hq : (255 : Int32) < c2) => False.elim (gc2 hq))
  refine Ac C S11 [(26, .aload_n 2, 1), (27, .iload_n 3, 1), (28, .iload 6, 2), (30, .i2b, 1)] 31 #[Ab a, Aa 2, Ab b, Aa 2, Aa 6, Aa 2, Aa c2] [.int c2.toInt8.toInt32, .int 2, .ref b] ?_
  refine Ap C S11 f15 ⟨(by decide), (by decide)⟩ 2 rfl (Ak rfl) c2.toInt8.toInt32 (Bc _) ge_b (by decide +kernel) ?_
  intro T18 h20 S19 W21 f22
  have f23 : Arv Z h20 b bk .byte (6 : Int32) ([(.int c0.toInt8.toInt32), (.int c1.toInt8.toInt32), (.int c2.toInt8.toInt32), (.int 0), (.int 0), (.int 0)]) (.int 0) := f22
  refine Ac C S19 [(32, .iinc 1 1, 3), (35, .iinc 3 1, 3), (38, .iinc 5 1, 3), (41, .goto (-38), 3), (3, .iload 5, 2), (5, .iload 4, 2), (7, .if_icmp .ge 37, 3), (10, .aload_n 0, 1), (11, .iload_n 1, 1)] 12 #[Ab a, Aa 3, Ab b, Aa 3, Aa 6, Aa 3, Aa c2] [.int 3, .ref a] ?_
  have f24 := (f16.other W21 ne_a_b)
  refine Ao C S19 f24 ⟨(by decide), (by decide)⟩ (.int c3) rfl (by decide +kernel) ?_
  refine Ac C S19 [(13, .istore 6, 2), (15, .iload 6, 2), (17, .sipush 255, 3)] 20 #[Ab a, Aa 3, Ab b, Aa 3, Aa 6, Aa 3, Aa c3] [.int 255, .int c3] ?_
  refine Bg C S19 .le 6 26 (fun (q25 : ¬ (255 : Int32) < c3) => ?_) (fun (hq : (255 : Int32) < c3) => False.elim (gc3 hq))
  refine Ac C S19 [(26, .aload_n 2, 1), (27, .iload_n 3, 1), (28, .iload 6, 2), (30, .i2b, 1)] 31 #[Ab a, Aa 3, Ab b, Aa 3, Aa 6, Aa 3, Aa c3] [.int c3.toInt8.toInt32, .int 3, .ref b] ?_
  refine Ap C S19 f23 ⟨(by decide), (by decide)⟩ 3 rfl (Ak rfl) c3.toInt8.toInt32 (Bc _) ge_b (by decide +kernel) ?_
  intro T26 h28 S27 W29 f30
  have f31 : Arv Z h28 b bk .byte (6 : Int32) ([(.int c0.toInt8.toInt32), (.int c1.toInt8.toInt32), (.int c2.toInt8.toInt32), (.int c3.toInt8.toInt32), (.int 0), (.int 0)]) (.int 0) := f30
  refine Ac C S27 [(32, .iinc 1 1, 3), (35, .iinc 3 1, 3), (38, .iinc 5 1, 3), (41, .goto (-38), 3), (3, .iload 5, 2), (5, .iload 4, 2), (7, .if_icmp .ge 37, 3), (10, .aload_n 0, 1), (11, .iload_n 1, 1)] 12 #[Ab a, Aa 4, Ab b, Aa 4, Aa 6, Aa 4, Aa c3] [.int 4, .ref a] ?_
  have f32 := (f24.other W29 ne_a_b)
  refine Ao C S27 f32 ⟨(by decide), (by decide)⟩ (.int c4) rfl (by decide +kernel) ?_
  refine Ac C S27 [(13, .istore 6, 2), (15, .iload 6, 2), (17, .sipush 255, 3)] 20 #[Ab a, Aa 4, Ab b, Aa 4, Aa 6, Aa 4, Aa c4] [.int 255, .int c4] ?_
  refine Bg C S27 .le 6 26 (fun (q33 : ¬ (255 : Int32) < c4) => ?_) (fun (hq : (255 : Int32) < c4) => False.elim (gc4 hq))
  refine Ac C S27 [(26, .aload_n 2, 1), (27, .iload_n 3, 1), (28, .iload 6, 2), (30, .i2b, 1)] 31 #[Ab a, Aa 4, Ab b, Aa 4, Aa 6, Aa 4, Aa c4] [.int c4.toInt8.toInt32, .int 4, .ref b] ?_
  refine Ap C S27 f31 ⟨(by decide), (by decide)⟩ 4 rfl (Ak rfl) c4.toInt8.toInt32 (Bc _) ge_b (by decide +kernel) ?_
  intro T34 h36 S35 W37 f38
  have f39 : Arv Z h36 b bk .byte (6 : Int32) ([(.int c0.toInt8.toInt32), (.int c1.toInt8.toInt32), (.int c2.toInt8.toInt32), (.int c3.toInt8.toInt32), (.int c4.toInt8.toInt32), (.int 0)]) (.int 0) := f38
  refine Ac C S35 [(32, .iinc 1 1, 3), (35, .iinc 3 1, 3), (38, .iinc 5 1, 3), (41, .goto (-38), 3), (3, .iload 5, 2), (5, .iload 4, 2), (7, .if_icmp .ge 37, 3), (10, .aload_n 0, 1), (11, .iload_n 1, 1)] 12 #[Ab a, Aa 5, Ab b, Aa 5, Aa 6, Aa 5, Aa c4] [.int 5, .ref a] ?_
  have f40 := (f32.other W37 ne_a_b)
  refine Ao C S35 f40 ⟨(by decide), (by decide)⟩ (.int c5) rfl (by decide +kernel) ?_
  refine Ac C S35 [(13, .istore 6, 2), (15, .iload 6, 2), (17, .sipush 255, 3)] 20 #[Ab a, Aa 5, Ab b, Aa 5, Aa 6, Aa 5, Aa c5] [.int 255, .int c5] ?_
  refine Bg C S35 .le 6 26 (fun (q41 : ¬ (255 : Int32) < c5) => ?_) (fun (hq : (255 : Int32) < c5) => False.elim (gc5 hq))
  refine Ac C S35 [(26, .aload_n 2, 1), (27, .iload_n 3, 1), (28, .iload 6, 2), (30, .i2b, 1)] 31 #[Ab a, Aa 5, Ab b, Aa 5, Aa 6, Aa 5, Aa c5] [.int c5.toInt8.toInt32, .int 5, .ref b] ?_
  refine Ap C S35 f39 ⟨(by decide), (by decide)⟩ 5 rfl (Ak rfl) c5.toInt8.toInt32 (Bc _) ge_b (by decide +kernel) ?_
  intro T42 h44 S43 W45 f46
  have f47 : Arv Z h44 b bk .byte (6 : Int32) ([(.int c0.toInt8.toInt32), (.int c1.toInt8.toInt32), (.int c2.toInt8.toInt32), (.int c3.toInt8.toInt32), (.int c4.toInt8.toInt32), (.int c5.toInt8.toInt32)]) (.int 0) := f46
  refine Ac C S43 [(32, .iinc 1 1, 3), (35, .iinc 3 1, 3), (38, .iinc 5 1, 3), (41, .goto (-38), 3), (3, .iload 5, 2), (5, .iload 4, 2), (7, .if_icmp .ge 37, 3), (44, .iload 4, 2)] 46 #[Ab a, Aa 6, Ab b, Aa 6, Aa 6, Aa 6, Aa c5] [.int 6] ?_
  refine Bq C S43 (by decide +kernel) (by decide) (by decide) ?_
  exact ⟨rfl, (((((((Keep.refl _ _).wr W5 (Ba 0)).wr W13 (Ba 0)).wr W21 (Ba 0)).wr W29 (Ba 0)).wr W37 (Ba 0)).wr W45 (Ba 0)), f47⟩
theorem own_cr6 (hw : Aj a0 Z) (a : Addr) (ak : ClassId) (c0 : Int32) (c1 : Int32) (c2 : Int32) (c3 : Int32) (c4 : Int32) (c5 : Int32) (h0 : Heap) (n0 : Nat) (z0 : n0 ≤ h0.size) (aK : Arv Z h0 a ak .char (6 : Int32) ([(.int c0), (.int c1), (.int c2), (.int c3), (.int c4), (.int c5)]) (.int 0)) (gc0 : ¬ (255 : Int32) < c0) (gc1 : ¬ (255 : Int32) < c1) (gc2 : ¬ (255 : Int32) < c2) (gc3 : ¬ (255 : Int32) < c3) (gc4 : ¬ (255 : Int32) < c4) (gc5 : ¬ (255 : Int32) < c5) :
    Af l Z (⟨"java/lang/StringUTF16", "compress", "([CII)[B"⟩ : MethodName) jdk_52_method_16_code 6 (some (.array .byte)) ({ frames := 1, cells := 1, slots := 6, locals := 18 } : Room) n0 #[(.ref a), (.int 0), (.int 6)] h0 (fun v h => ∃ r : Addr, ∃ rk : ClassId, v = some (.ref r) ∧ h0.size ≤ r ∧ Keep h0 h [] ∧ Arv Z h r rk .byte (6 : Int32) ([(.int c0.toInt8.toInt32), (.int c1.toInt8.toInt32), (.int c2.toInt8.toInt32), (.int c3.toInt8.toInt32), (.int c4.toInt8.toInt32), (.int c5.toInt8.toInt32)]) (.int 0) ∧ Exa Z h r "[B") := by
  refine Ar #[.val (.ref a), .val (.int 0), .val (.int 6), .unset, .unset, .unset] ?_
  intro p e s m below meth c T0 C S0
  refine Ac C S0 [(0, .iload_n 2, 1)] 1 #[Ab a, Aa 0, Aa 6, .unset, .unset, .unset] [.int 6] ?_
  refine Cp C S0 (aty := .byte) (ad := "[B") (by decide) (ow hw 35 rfl) (by decide +kernel) (by decide) 6 (by decide) (by decide) (by decide) (by decide) ?_
  intro T1 h3 a4 k5 S2 g6 E7 f8 x9
  have f10 : Arv Z h3 a4 k5 .byte (6 : Int32) ([(.int 0), (.int 0), (.int 0), (.int 0), (.int 0), (.int 0)]) (.int 0) := Arv.pad f8 (pad_rep [] (.int 0) 6)
  refine Ac C S2 [(3, .astore_n 3, 1), (4, .aload_n 0, 1), (5, .iload_n 1, 1), (6, .aload_n 3, 1), (7, .iconst 0, 1), (8, .iload_n 2, 1)] 9 #[Ab a, Aa 0, Aa 6, Ab a4, .unset, .unset] [.int 6, .int 0, .ref a4, .int 0, .ref a] ?_
  have f11 := (aK.ext E7)
  have f12 : n0 ≤ h3.size := (Nat.le_trans z0 E7.1)
  have g13 : n0 ≤ a4 := by rw [g6]; exact z0
  have n14 : a ≠ a4 := by rw [g6]; exact Nat.ne_of_lt aK.lt
  refine Ae C S2 hw 36 37 33 38 (own_cq6 l Z a0 hw a _ a4 _ _ _ _ _ _ _ h3 n0 f12 g13 f11 f10 n14 gc0 gc1 gc2 gc3 gc4 gc5) 0 [.ref a, .int 0, .ref a4, .int 0, .int 6] [] Fg ?_
  rintro T17 h18 v19 L20 S21 ⟨⟨rfl, K15, f16⟩, -⟩
  refine Ac C S21 [(12, .istore 4, 2), (14, .iload 4, 2), (16, .iload_n 2, 1), (17, .if_icmp .eq 40, 3), (57, .aload_n 3, 1)] 58 #[Ab a, Aa 0, Aa 6, Ab a4, Aa 6, .unset] [.ref a4] ?_
  refine Az C S21 rfl rfl (by decide +kernel) (by decide) (by decide) ?_
  have o22 : h0.size ≤ a4 := by rw [g6]; exact (Nat.le_refl _)
  have f23 := (x9.keep K15)
  exact ⟨a4, k5, rfl, o22, (((Keep.refl _ _).ext E7).trans K15 (allS (Or.inr o22) all0)), f16, f23⟩
theorem own_cl6 (hw : Aj a0 Z) (b : Addr) (bk : ClassId) (vs : List Value) (h0 : Heap) (n0 : Nat) (z0 : n0 ≤ h0.size) (bK : Arv Z h0 b bk .byte (6 : Int32) vs (.int 0)) :
    Af l Z (⟨"java/lang/StringUTF16", "coderFromArrayLen", "([BI)B"⟩ : MethodName) jdk_52_method_15_code 2 (some .byte) ({ frames := 0, cells := 0, slots := 0, locals := 0 } : Room) n0 #[(.ref b), (.int 6)] h0 (fun v h => v = some (.int 0) ∧ h = h0) := by
  refine Ar #[.val (.ref b), .val (.int 6)] ?_
  intro p e s m below meth c T0 C S0
  refine Ac C S0 [(0, .iload_n 1, 1), (1, .aload_n 0, 1)] 2 #[Ab b, Aa 6] [.ref b, .int 6] ?_
  refine Au C S0 bK (by decide +kernel) ?_
  refine Ac C S0 [(3, .isub, 1), (4, .bipush 31, 2), (6, .iushr, 1), (7, .i2b, 1)] 8 #[Ab b, Aa 6] [.int ((Jvm.Free.XT.ushr ((6 : Int32) - (6 : Int32)) (31 : Int32)).toInt8.toInt32)] ?_
  rw [show (Jvm.Free.XT.ushr ((6 : Int32) - (6 : Int32)) (31 : Int32)).toInt8.toInt32 = (0 : Int32) from (by decide)]
  refine Ee C S0 (by decide +kernel) rfl (by decide) (by decide) ?_
  exact ⟨rfl, rfl⟩
theorem own_s4i6 (hw : Aj a0 Z) (G1 : Int32) (G3 : Value) (U8 : Addr) (I8 : Addr) (TB : Addr) (DE : Addr) (x : Addr) (a : Addr) (ak : ClassId) (c0 : Int32) (c1 : Int32) (c2 : Int32) (c3 : Int32) (c4 : Int32) (c5 : Int32) (h0 : Heap) (n0 : Nat) (z0 : n0 ≤ h0.size) (ge_x : n0 ≤ x) (X00 : Old Z n0 h0) (p0 : Exa Z h0 x "java/lang/String") (p1 : Fld Z h0 x "java/lang/String" "value" "[B" .null) (p2 : Fld Z h0 x "java/lang/String" "coder" "B" (.int 0)) (aK : Arv Z h0 a ak .char (6 : Int32) ([(.int c0), (.int c1), (.int c2), (.int c3), (.int c4), (.int c5)]) (.int 0)) (ne_a_x : a ≠ x) (XS : Ax Z n0 G1 G3 U8 I8 TB DE) (gc0 : ¬ (255 : Int32) < c0) (gc1 : ¬ (255 : Int32) < c1) (gc2 : ¬ (255 : Int32) < c2) (gc3 : ¬ (255 : Int32) < c3) (gc4 : ¬ (255 : Int32) < c4) (gc5 : ¬ (255 : Int32) < c5) :
    Af l Z (⟨"java/lang/String", "<init>", "([CIILjava/lang/Void;)V"⟩ : MethodName) jdk_42_method_149_code 6 none ({ frames := 2, cells := 1, slots := 6, locals := 35 } : Room) n0 #[(.ref x), (.ref a), (.int 0), (.int 6), .null] h0 (fun v h => ∃ r : Addr, ∃ rk : ClassId, v = none ∧ h0.size ≤ r ∧ Keep h0 h [x] ∧ Exa Z h x "java/lang/String" ∧ Fld Z h x "java/lang/String" "value" "[B" (.ref r) ∧ Fld Z h x "java/lang/String" "coder" "B" (.int 0) ∧ Arv Z h r rk .byte (6 : Int32) ([(.int c0.toInt8.toInt32), (.int c1.toInt8.toInt32), (.int c2.toInt8.toInt32), (.int c3.toInt8.toInt32), (.int c4.toInt8.toInt32), (.int c5.toInt8.toInt32)]) (.int 0) ∧ Exa Z h r "[B") := by
  refine Ar #[.val (.ref x), .val (.ref a), .val (.int 0), .val (.int 6), .val .null, .unset] ?_
  intro p e s m below meth c T0 C S0
  have XS_ := XS
  obtain ⟨O2, O4, P5, rG3, OU, OI, OT, OD, hUI, TBlt, DElt⟩ := XS_
  refine Ac C S0 [(0, .aload_n 0, 1)] 1 #[Ab x, Ab a, Aa 0, Aa 6, .val .null, .unset] [.ref x] ?_
  refine Dp C S0 (ow hw 27 rfl) (ow hw 28 rfl) (ow hw 29 rfl) rfl (by decide +kernel) (by decide) 0 (Ak rfl) (by decide) ?_
  intro T1 S2
  refine Ac C S2 [(4, .iload_n 3, 1), (5, .ifCond .ne 22, 3)] 27 #[Ab x, Ab a, Aa 0, Aa 6, .val .null, .unset] [] ?_
  refine Bi C S2 (ow hw 30 rfl) Via.refl (O2.ext X00.2) (by decide +kernel) ?_
  intro T3 S4
  refine Bh C S4 .eq 28 58 (fun (hq : G1 = (0 : Int32)) => False.elim (P5 hq)) (fun (q5 : ¬ G1 = (0 : Int32)) => ?_)
  refine Ac C S4 [(33, .aload_n 1, 1), (34, .iload_n 2, 1), (35, .iload_n 3, 1)] 36 #[Ab x, Ab a, Aa 0, Aa 6, .val .null, .unset] [.int 6, .int 0, .ref a] ?_
  refine Ae C S4 hw 31 32 33 34 (own_cr6 l Z a0 hw a _ _ _ _ _ _ _ h0 n0 z0 aK gc0 gc1 gc2 gc3 gc4 gc5) 0 [.ref a, .int 0, .int 6] [] Fh ?_
  rintro T12 h13 v14 L15 S16 ⟨⟨a6, k7, rfl, g8, K9, f10, f11⟩, -⟩
  refine Ac C S16 [(39, .astore 5, 2), (41, .aload_n 0, 1), (42, .aload 5, 2), (44, .iload_n 3, 1)] 45 #[Ab x, Ab a, Aa 0, Aa 6, .val .null, Ab a6] [.int 6, .ref a6, .ref x] ?_
  have f17 : n0 ≤ h13.size := (Nat.le_trans z0 K9.1)
  refine Ae C S16 hw 39 40 33 41 (own_cl6 l Z a0 hw a6 _ _ h13 n0 f17 f10) 1 [.ref a6, .int 6] [.ref x] Ey ?_
  rintro T19 h20 v21 L22 S23 ⟨⟨rfl, e18⟩, -⟩
  rw [e18] at S23; clear e18
  have f24 := (p2.keep K9 nin0)
  have f25 := (p0.keep K9)
  refine Db C S23 (ty := .byte) (host := "") (Or.inl (ow hw 42 rfl)) Via.refl f24 f25 (Or.inr ⟨(ow hw 43 rfl), rfl, rfl⟩) (ow hw 18 rfl) Cx rfl rfl ge_x (by decide +kernel) ?_
  intro T26 h28 S27 W29
  have f30 : Fld Z h28 x "java/lang/String" "coder" "B" (.int 0) := Fld.same W29 f24
  refine Ac C S27 [(51, .aload_n 0, 1), (52, .aload 5, 2)] 54 #[Ab x, Ab a, Aa 0, Aa 6, .val .null, Ab a6] [.ref a6, .ref x] ?_
  have f31 := (Fld.other W29 (p1.keep K9 nin0) (Or.inr (Ep hw)))
  have f32 := (Exa.wr W29 f25)
  refine Db C S27 (ty := (.array .byte)) (host := "") (Or.inl (ow hw 44 rfl)) Via.refl f31 f32 (Or.inr ⟨(ow hw 45 rfl), rfl, rfl⟩) (ow hw 18 rfl) Cy rfl rfl ge_x (by decide +kernel) ?_
  intro T33 h35 S34 W36
  have f37 : Fld Z h35 x "java/lang/String" "value" "[B" (.ref a6) := Fld.same W36 f31
  refine Ct C S34 (by decide +kernel) (by decide) (by decide) ?_
  have o38 : h0.size ≤ a6 := Nat.le_trans (Nat.le_refl _) g8
  have f39 := (Exa.wr W36 f32)
  have f40 := (Fld.other W36 f30 (Or.inr (Er hw)))
  have n41 : x ≠ a6 := Nat.ne_of_lt (Nat.lt_of_lt_of_le p0.lt g8)
  have f42 := ((f10.other W29 (Ne.symm n41)).other W36 (Ne.symm n41))
  have f43 := (Exa.wr W36 (Exa.wr W29 f11))
  exact ⟨a6, k7, rfl, o38, ((((Keep.refl _ _).trans K9 all0).wr W29 (Ba 0)).wr W36 (Ba 0)), f39, f37, f40, f42, f43⟩
theorem own_s1i6 (hw : Aj a0 Z) (G1 : Int32) (G3 : Value) (U8 : Addr) (I8 : Addr) (TB : Addr) (DE : Addr) (x : Addr) (a : Addr) (ak : ClassId) (c0 : Int32) (c1 : Int32) (c2 : Int32) (c3 : Int32) (c4 : Int32) (c5 : Int32) (h0 : Heap) (n0 : Nat) (z0 : n0 ≤ h0.size) (ge_x : n0 ≤ x) (X00 : Old Z n0 h0) (p0 : Exa Z h0 x "java/lang/String") (p1 : Fld Z h0 x "java/lang/String" "value" "[B" .null) (p2 : Fld Z h0 x "java/lang/String" "coder" "B" (.int 0)) (aK : Arv Z h0 a ak .char (6 : Int32) ([(.int c0), (.int c1), (.int c2), (.int c3), (.int c4), (.int c5)]) (.int 0)) (ne_a_x : a ≠ x) (XS : Ax Z n0 G1 G3 U8 I8 TB DE) (gc0 : ¬ (255 : Int32) < c0) (gc1 : ¬ (255 : Int32) < c1) (gc2 : ¬ (255 : Int32) < c2) (gc3 : ¬ (255 : Int32) < c3) (gc4 : ¬ (255 : Int32) < c4) (gc5 : ¬ (255 : Int32) < c5) :
    Af l Z (⟨"java/lang/String", "<init>", "([C)V"⟩ : MethodName) jdk_42_method_3_code 2 none ({ frames := 3, cells := 1, slots := 6, locals := 52 } : Room) n0 #[(.ref x), (.ref a)] h0 (fun v h => ∃ r : Addr, ∃ rk : ClassId, v = none ∧ h0.size ≤ r ∧ Keep h0 h [x] ∧ Exa Z h x "java/lang/String" ∧ Fld Z h x "java/lang/String" "value" "[B" (.ref r) ∧ Fld Z h x "java/lang/String" "coder" "B" (.int 0) ∧ Arv Z h r rk .byte (6 : Int32) ([(.int c0.toInt8.toInt32), (.int c1.toInt8.toInt32), (.int c2.toInt8.toInt32), (.int c3.toInt8.toInt32), (.int c4.toInt8.toInt32), (.int c5.toInt8.toInt32)]) (.int 0) ∧ Exa Z h r "[B") := by
  refine Ar #[.val (.ref x), .val (.ref a)] ?_
  intro p e s m below meth c T0 C S0
  have XS_ := XS
  obtain ⟨O2, O4, P5, rG3, OU, OI, OT, OD, hUI, TBlt, DElt⟩ := XS_
  refine Ac C S0 [(0, .aload_n 0, 1), (1, .aload_n 1, 1), (2, .iconst 0, 1), (3, .aload_n 1, 1)] 4 #[Ab x, Ab a] [.ref a, .int 0, .ref a, .ref x] ?_
  refine Au C S0 aK (by decide +kernel) ?_
  refine Ac C S0 [(5, .aconst_null, 1)] 6 #[Ab x, Ab a] [.null, .int 6, .int 0, .ref a, .ref x] ?_
  refine Cs C S0 rfl (ow hw 23 rfl) (ow hw 24 rfl) (ow hw 26 rfl) (by decide) (Af.pay (own_s4i6 l Z a0 hw G1 G3 U8 I8 TB DE x a _ _ _ _ _ _ _ h0 n0 z0 ge_x X00 p0 p1 p2 aK ne_a_x XS gc0 gc1 gc2 gc3 gc4 gc5) C 0 (ow hw 26 rfl) (ow hw 19 rfl) (by decide) (by decide)) (fun _ _ _ q => q.2) [.ref a, .int 0, .int 6, .null] [] rfl Eg rfl rfl rfl (Ak rfl) (by decide) (by decide) (by decide +kernel) ?_
  rintro T10 h11 v12 L13 S14 ⟨⟨a1, k2, rfl, g3, K4, f5, f6, f7, f8, f9⟩, -⟩
  refine Ct C S14 (by decide +kernel) (by decide) (by decide) ?_
  have o15 : h0.size ≤ a1 := Nat.le_trans (Nat.le_refl _) g3
  exact ⟨a1, k2, rfl, o15, ((Keep.refl _ _).trans K4 (allS (Ba 0) all0)), f5, f6, f7, f8, f9⟩
theorem own_cq7 (hw : Aj a0 Z) (a : Addr) (ak : ClassId) (b : Addr) (bk : ClassId) (c0 : Int32) (c1 : Int32) (c2 : Int32) (c3 : Int32) (c4 : Int32) (c5 : Int32) (c6 : Int32) (h0 : Heap) (n0 : Nat) (z0 : n0 ≤ h0.size) (ge_b : n0 ≤ b) (aK : Arv Z h0 a ak .char (7 : Int32) ([(.int c0), (.int c1), (.int c2), (.int c3), (.int c4), (.int c5), (.int c6)]) (.int 0)) (bK : Arv Z h0 b bk .byte (7 : Int32) ([(.int 0), (.int 0), (.int 0), (.int 0), (.int 0), (.int 0), (.int 0)]) (.int 0)) (ne_a_b : a ≠ b) (gc0 : ¬ (255 : Int32) < c0) (gc1 : ¬ (255 : Int32) < c1) (gc2 : ¬ (255 : Int32) < c2) (gc3 : ¬ (255 : Int32) < c3) (gc4 : ¬ (255 : Int32) < c4) (gc5 : ¬ (255 : Int32) < c5) (gc6 : ¬ (255 : Int32) < c6) :
    Af l Z (⟨"java/lang/StringUTF16", "compress", "([CI[BII)I"⟩ : MethodName) jdk_52_method_21_code 7 (some .int) ({ frames := 0, cells := 0, slots := 0, locals := 0 } : Room) n0 #[(.ref a), (.int 0), (.ref b), (.int 0), (.int 7)] h0 (fun v h => v = some (.int 7) ∧ Keep h0 h [b] ∧ Arv Z h b bk .byte (7 : Int32) ([(.int c0.toInt8.toInt32), (.int c1.toInt8.toInt32), (.int c2.toInt8.toInt32), (.int c3.toInt8.toInt32), (.int c4.toInt8.toInt32), (.int c5.toInt8.toInt32), (.int c6.toInt8.toInt32)]) (.int 0)) := by
  refine Ar #[.val (.ref a), .val (.int 0), .val (.ref b), .val (.int 0), .val (.int 7), .unset, .unset] ?_
  intro p e s m below meth c T0 C S0
  refine Ac C S0 [(0, .iconst 0, 1), (1, .istore 5, 2), (3, .iload 5, 2), (5, .iload 4, 2), (7, .if_icmp .ge 37, 3), (10, .aload_n 0, 1), (11, .iload_n 1, 1)] 12 #[Ab a, Aa 0, Ab b, Aa 0, Aa 7, Aa 0, .unset] [.int 0, .ref a] ?_
  refine Ao C S0 aK ⟨(by decide), (by decide)⟩ (.int c0) rfl (by decide +kernel) ?_
  refine Ac C S0 [(13, .istore 6, 2), (15, .iload 6, 2), (17, .sipush 255, 3)] 20 #[Ab a, Aa 0, Ab b, Aa 0, Aa 7, Aa 0, Aa c0] [.int 255, .int c0] ?_
  refine Bg C S0 .le 6 26 (fun (q1 : ¬ (255 : Int32) < c0) => ?_) (fun (hq : (255 : Int32) < c0) => False.elim (gc0 hq))
  refine Ac C S0 [(26, .aload_n 2, 1), (27, .iload_n 3, 1), (28, .iload 6, 2), (30, .i2b, 1)] 31 #[Ab a, Aa 0, Ab b, Aa 0, Aa 7, Aa 0, Aa c0] [.int c0.toInt8.toInt32, .int 0, .ref b] ?_
  refine Ap C S0 bK ⟨(by decide), (by decide)⟩ 0 rfl (Ak rfl) c0.toInt8.toInt32 (Bc _) ge_b (by decide +kernel) ?_
  intro T2 h4 S3 W5 f6
  have f7 : Arv Z h4 b bk .byte (7 : Int32) ([(.int c0.toInt8.toInt32), (.int 0), (.int 0), (.int 0), (.int 0), (.int 0), (.int 0)]) (.int 0) := f6
  refine Ac C S3 [(32, .iinc 1 1, 3), (35, .iinc 3 1, 3), (38, .iinc 5 1, 3), (41, .goto (-38), 3), (3, .iload 5, 2), (5, .iload 4, 2), (7, .if_icmp .ge 37, 3), (10, .aload_n 0, 1), (11, .iload_n 1, 1)] 12 #[Ab a, Aa 1, Ab b, Aa 1, Aa 7, Aa 1, Aa c0] [.int 1, .ref a] ?_
  have f8 := (aK.other W5 ne_a_b)
  refine Ao C S3 f8 ⟨(by decide), (by decide)⟩ (.int c1) rfl (by decide +kernel) ?_
  refine Ac C S3 [(13, .istore 6, 2), (15, .iload 6, 2), (17, .sipush 255, 3)] 20 #[Ab a, Aa 1, Ab b, Aa 1, Aa 7, Aa 1, Aa c1] [.int 255, .int c1] ?_
  refine Bg C S3 .le 6 26 (fun (q9 : ¬ (255 : Int32) < c1) => ?_) (fun (hq : (255 : Int32) < c1) => False.elim (gc1 hq))
  refine Ac C S3 [(26, .aload_n 2, 1), (27, .iload_n 3, 1), (28, .iload 6, 2), (30, .i2b, 1)] 31 #[Ab a, Aa 1, Ab b, Aa 1, Aa 7, Aa 1, Aa c1] [.int c1.toInt8.toInt32, .int 1, .ref b] ?_
  refine Ap C S3 f7 ⟨(by decide), (by decide)⟩ 1 rfl (Ak rfl) c1.toInt8.toInt32 (Bc _) ge_b (by decide +kernel) ?_
  intro T10 h12 S11 W13 f14
  have f15 : Arv Z h12 b bk .byte (7 : Int32) ([(.int c0.toInt8.toInt32), (.int c1.toInt8.toInt32), (.int 0), (.int 0), (.int 0), (.int 0), (.int 0)]) (.int 0) := f14
  refine Ac C S11 [(32, .iinc 1 1, 3), (35, .iinc 3 1, 3), (38, .iinc 5 1, 3), (41, .goto (-38), 3), (3, .iload 5, 2), (5, .iload 4, 2), (7, .if_icmp .ge 37, 3), (10, .aload_n 0, 1), (11, .iload_n 1, 1)] 12 #[Ab a, Aa 2, Ab b, Aa 2, Aa 7, Aa 2, Aa c1] [.int 2, .ref a] ?_
  have f16 := (f8.other W13 ne_a_b)
  refine Ao C S11 f16 ⟨(by decide), (by decide)⟩ (.int c2) rfl (by decide +kernel) ?_
  refine Ac C S11 [(13, .istore 6, 2), (15, .iload 6, 2), (17, .sipush 255, 3)] 20 #[Ab a, Aa 2, Ab b, Aa 2, Aa 7, Aa 2, Aa c2] [.int 255, .int c2] ?_
  refine Bg C S11 .le 6 26 (fun (q17 : ¬ (255 : Int32) < c2) => ?_) (fun (hq : (255 : Int32) < c2) => False.elim (gc2 hq))
  refine Ac C S11 [(26, .aload_n 2, 1), (27, .iload_n 3, 1), (28, .iload 6, 2), (30, .i2b, 1)] 31 #[Ab a, Aa 2, Ab b, Aa 2, Aa 7, Aa 2, Aa c2] [.int c2.toInt8.toInt32, .int 2, .ref b] ?_
  refine Ap C S11 f15 ⟨(by decide), (by decide)⟩ 2 rfl (Ak rfl) c2.toInt8.toInt32 (Bc _) ge_b (by decide +kernel) ?_
  intro T18 h20 S19 W21 f22
  have f23 : Arv Z h20 b bk .byte (7 : Int32) ([(.int c0.toInt8.toInt32), (.int c1.toInt8.toInt32), (.int c2.toInt8.toInt32), (.int 0), (.int 0), (.int 0), (.int 0)]) (.int 0) := f22
  refine Ac C S19 [(32, .iinc 1 1, 3), (35, .iinc 3 1, 3), (38, .iinc 5 1, 3), (41, .goto (-38), 3), (3, .iload 5, 2), (5, .iload 4, 2), (7, .if_icmp .ge 37, 3), (10, .aload_n 0, 1), (11, .iload_n 1, 1)] 12 #[Ab a, Aa 3, Ab b, Aa 3, Aa 7, Aa 3, Aa c2] [.int 3, .ref a] ?_
  have f24 := (f16.other W21 ne_a_b)
  refine Ao C S19 f24 ⟨(by decide), (by decide)⟩ (.int c3) rfl (by decide +kernel) ?_
  refine Ac C S19 [(13, .istore 6, 2), (15, .iload 6, 2), (17, .sipush 255, 3)] 20 #[Ab a, Aa 3, Ab b, Aa 3, Aa 7, Aa 3, Aa c3] [.int 255, .int c3] ?_
  refine Bg C S19 .le 6 26 (fun (q25 : ¬ (255 : Int32) < c3) => ?_) (fun (hq : (255 : Int32) < c3) => False.elim (gc3 hq))
  refine Ac C S19 [(26, .aload_n 2, 1), (27, .iload_n 3, 1), (28, .iload 6, 2), (30, .i2b, 1)] 31 #[Ab a, Aa 3, Ab b, Aa 3, Aa 7, Aa 3, Aa c3] [.int c3.toInt8.toInt32, .int 3, .ref b] ?_
  refine Ap C S19 f23 ⟨(by decide), (by decide)⟩ 3 rfl (Ak rfl) c3.toInt8.toInt32 (Bc _) ge_b (by decide +kernel) ?_
  intro T26 h28 S27 W29 f30
  have f31 : Arv Z h28 b bk .byte (7 : Int32) ([(.int c0.toInt8.toInt32), (.int c1.toInt8.toInt32), (.int c2.toInt8.toInt32), (.int c3.toInt8.toInt32), (.int 0), (.int 0), (.int 0)]) (.int 0) := f30
  refine Ac C S27 [(32, .iinc 1 1, 3), (35, .iinc 3 1, 3), (38, .iinc 5 1, 3), (41, .goto (-38), 3), (3, .iload 5, 2), (5, .iload 4, 2), (7, .if_icmp .ge 37, 3), (10, .aload_n 0, 1), (11, .iload_n 1, 1)] 12 #[Ab a, Aa 4, Ab b, Aa 4, Aa 7, Aa 4, Aa c3] [.int 4, .ref a] ?_
  have f32 := (f24.other W29 ne_a_b)
  refine Ao C S27 f32 ⟨(by decide), (by decide)⟩ (.int c4) rfl (by decide +kernel) ?_
  refine Ac C S27 [(13, .istore 6, 2), (15, .iload 6, 2), (17, .sipush 255, 3)] 20 #[Ab a, Aa 4, Ab b, Aa 4, Aa 7, Aa 4, Aa c4] [.int 255, .int c4] ?_
  refine Bg C S27 .le 6 26 (fun (q33 : ¬ (255 : Int32) < c4) => ?_) (fun (hq : (255 : Int32) < c4) => False.elim (gc4 hq))
  refine Ac C S27 [(26, .aload_n 2, 1), (27, .iload_n 3, 1), (28, .iload 6, 2), (30, .i2b, 1)] 31 #[Ab a, Aa 4, Ab b, Aa 4, Aa 7, Aa 4, Aa c4] [.int c4.toInt8.toInt32, .int 4, .ref b] ?_
  refine Ap C S27 f31 ⟨(by decide), (by decide)⟩ 4 rfl (Ak rfl) c4.toInt8.toInt32 (Bc _) ge_b (by decide +kernel) ?_
  intro T34 h36 S35 W37 f38
  have f39 : Arv Z h36 b bk .byte (7 : Int32) ([(.int c0.toInt8.toInt32), (.int c1.toInt8.toInt32), (.int c2.toInt8.toInt32), (.int c3.toInt8.toInt32), (.int c4.toInt8.toInt32), (.int 0), (.int 0)]) (.int 0) := f38
  refine Ac C S35 [(32, .iinc 1 1, 3), (35, .iinc 3 1, 3), (38, .iinc 5 1, 3), (41, .goto (-38), 3), (3, .iload 5, 2), (5, .iload 4, 2), (7, .if_icmp .ge 37, 3), (10, .aload_n 0, 1), (11, .iload_n 1, 1)] 12 #[Ab a, Aa 5, Ab b, Aa 5, Aa 7, Aa 5, Aa c4] [.int 5, .ref a] ?_
  have f40 := (f32.other W37 ne_a_b)
  refine Ao C S35 f40 ⟨(by decide), (by decide)⟩ (.int c5) rfl (by decide +kernel) ?_
  refine Ac C S35 [(13, .istore 6, 2), (15, .iload 6, 2), (17, .sipush 255, 3)] 20 #[Ab a, Aa 5, Ab b, Aa 5, Aa 7, Aa 5, Aa c5] [.int 255, .int c5] ?_
  refine Bg C S35 .le 6 26 (fun (q41 : ¬ (255 : Int32) < c5) => ?_) (fun (hq : (255 : Int32) < c5) => False.elim (gc5 hq))
  refine Ac C S35 [(26, .aload_n 2, 1), (27, .iload_n 3, 1), (28, .iload 6, 2), (30, .i2b, 1)] 31 #[Ab a, Aa 5, Ab b, Aa 5, Aa 7, Aa 5, Aa c5] [.int c5.toInt8.toInt32, .int 5, .ref b] ?_
  refine Ap C S35 f39 ⟨(by decide), (by decide)⟩ 5 rfl (Ak rfl) c5.toInt8.toInt32 (Bc _) ge_b (by decide +kernel) ?_
  intro T42 h44 S43 W45 f46
  have f47 : Arv Z h44 b bk .byte (7 : Int32) ([(.int c0.toInt8.toInt32), (.int c1.toInt8.toInt32), (.int c2.toInt8.toInt32), (.int c3.toInt8.toInt32), (.int c4.toInt8.toInt32), (.int c5.toInt8.toInt32), (.int 0)]) (.int 0) := f46
  refine Ac C S43 [(32, .iinc 1 1, 3), (35, .iinc 3 1, 3), (38, .iinc 5 1, 3), (41, .goto (-38), 3), (3, .iload 5, 2), (5, .iload 4, 2), (7, .if_icmp .ge 37, 3), (10, .aload_n 0, 1), (11, .iload_n 1, 1)] 12 #[Ab a, Aa 6, Ab b, Aa 6, Aa 7, Aa 6, Aa c5] [.int 6, .ref a] ?_
  have f48 := (f40.other W45 ne_a_b)
  refine Ao C S43 f48 ⟨(by decide), (by decide)⟩ (.int c6) rfl (by decide +kernel) ?_
  refine Ac C S43 [(13, .istore 6, 2), (15, .iload 6, 2), (17, .sipush 255, 3)] 20 #[Ab a, Aa 6, Ab b, Aa 6, Aa 7, Aa 6, Aa c6] [.int 255, .int c6] ?_
  refine Bg C S43 .le 6 26 (fun (q49 : ¬ (255 : Int32) < c6) => ?_) (fun (hq : (255 : Int32) < c6) => False.elim (gc6 hq))
  refine Ac C S43 [(26, .aload_n 2, 1), (27, .iload_n 3, 1), (28, .iload 6, 2), (30, .i2b, 1)] 31 #[Ab a, Aa 6, Ab b, Aa 6, Aa 7, Aa 6, Aa c6] [.int c6.toInt8.toInt32, .int 6, .ref b] ?_
  refine Ap C S43 f47 ⟨(by decide), (by decide)⟩ 6 rfl (Ak rfl) c6.toInt8.toInt32 (Bc _) ge_b (by decide +kernel) ?_
  intro T50 h52 S51 W53 f54
  have f55 : Arv Z h52 b bk .byte (7 : Int32) ([(.int c0.toInt8.toInt32), (.int c1.toInt8.toInt32), (.int c2.toInt8.toInt32), (.int c3.toInt8.toInt32), (.int c4.toInt8.toInt32), (.int c5.toInt8.toInt32), (.int c6.toInt8.toInt32)]) (.int 0) := f54
  refine Ac C S51 [(32, .iinc 1 1, 3), (35, .iinc 3 1, 3), (38, .iinc 5 1, 3), (41, .goto (-38), 3), (3, .iload 5, 2), (5, .iload 4, 2), (7, .if_icmp .ge 37, 3), (44, .iload 4, 2)] 46 #[Ab a, Aa 7, Ab b, Aa 7, Aa 7, Aa 7, Aa c6] [.int 7] ?_
  refine Bq C S51 (by decide +kernel) (by decide) (by decide) ?_
  exact ⟨rfl, ((((((((Keep.refl _ _).wr W5 (Ba 0)).wr W13 (Ba 0)).wr W21 (Ba 0)).wr W29 (Ba 0)).wr W37 (Ba 0)).wr W45 (Ba 0)).wr W53 (Ba 0)), f55⟩
theorem own_cr7 (hw : Aj a0 Z) (a : Addr) (ak : ClassId) (c0 : Int32) (c1 : Int32) (c2 : Int32) (c3 : Int32) (c4 : Int32) (c5 : Int32) (c6 : Int32) (h0 : Heap) (n0 : Nat) (z0 : n0 ≤ h0.size) (aK : Arv Z h0 a ak .char (7 : Int32) ([(.int c0), (.int c1), (.int c2), (.int c3), (.int c4), (.int c5), (.int c6)]) (.int 0)) (gc0 : ¬ (255 : Int32) < c0) (gc1 : ¬ (255 : Int32) < c1) (gc2 : ¬ (255 : Int32) < c2) (gc3 : ¬ (255 : Int32) < c3) (gc4 : ¬ (255 : Int32) < c4) (gc5 : ¬ (255 : Int32) < c5) (gc6 : ¬ (255 : Int32) < c6) :
    Af l Z (⟨"java/lang/StringUTF16", "compress", "([CII)[B"⟩ : MethodName) jdk_52_method_16_code 6 (some (.array .byte)) ({ frames := 1, cells := 1, slots := 7, locals := 18 } : Room) n0 #[(.ref a), (.int 0), (.int 7)] h0 (fun v h => ∃ r : Addr, ∃ rk : ClassId, v = some (.ref r) ∧ h0.size ≤ r ∧ Keep h0 h [] ∧ Arv Z h r rk .byte (7 : Int32) ([(.int c0.toInt8.toInt32), (.int c1.toInt8.toInt32), (.int c2.toInt8.toInt32), (.int c3.toInt8.toInt32), (.int c4.toInt8.toInt32), (.int c5.toInt8.toInt32), (.int c6.toInt8.toInt32)]) (.int 0) ∧ Exa Z h r "[B") := by
  refine Ar #[.val (.ref a), .val (.int 0), .val (.int 7), .unset, .unset, .unset] ?_
  intro p e s m below meth c T0 C S0
  refine Ac C S0 [(0, .iload_n 2, 1)] 1 #[Ab a, Aa 0, Aa 7, .unset, .unset, .unset] [.int 7] ?_
  refine Cp C S0 (aty := .byte) (ad := "[B") (by decide) (ow hw 35 rfl) (by decide +kernel) (by decide) 7 (by decide) (by decide) (by decide) (by decide) ?_
  intro T1 h3 a4 k5 S2 g6 E7 f8 x9
  have f10 : Arv Z h3 a4 k5 .byte (7 : Int32) ([(.int 0), (.int 0), (.int 0), (.int 0), (.int 0), (.int 0), (.int 0)]) (.int 0) := Arv.pad f8 (pad_rep [] (.int 0) 7)
  refine Ac C S2 [(3, .astore_n 3, 1), (4, .aload_n 0, 1), (5, .iload_n 1, 1), (6, .aload_n 3, 1), (7, .iconst 0, 1), (8, .iload_n 2, 1)] 9 #[Ab a, Aa 0, Aa 7, Ab a4, .unset, .unset] [.int 7, .int 0, .ref a4, .int 0, .ref a] ?_
  have f11 := (aK.ext E7)
  have f12 : n0 ≤ h3.size := (Nat.le_trans z0 E7.1)
  have g13 : n0 ≤ a4 := by rw [g6]; exact z0
  have n14 : a ≠ a4 := by rw [g6]; exact Nat.ne_of_lt aK.lt
  refine Ae C S2 hw 36 37 33 38 (own_cq7 l Z a0 hw a _ a4 _ _ _ _ _ _ _ _ h3 n0 f12 g13 f11 f10 n14 gc0 gc1 gc2 gc3 gc4 gc5 gc6) 0 [.ref a, .int 0, .ref a4, .int 0, .int 7] [] Fg ?_
  rintro T17 h18 v19 L20 S21 ⟨⟨rfl, K15, f16⟩, -⟩
  refine Ac C S21 [(12, .istore 4, 2), (14, .iload 4, 2), (16, .iload_n 2, 1), (17, .if_icmp .eq 40, 3), (57, .aload_n 3, 1)] 58 #[Ab a, Aa 0, Aa 7, Ab a4, Aa 7, .unset] [.ref a4] ?_
  refine Az C S21 rfl rfl (by decide +kernel) (by decide) (by decide) ?_
  have o22 : h0.size ≤ a4 := by rw [g6]; exact (Nat.le_refl _)
  have f23 := (x9.keep K15)
  exact ⟨a4, k5, rfl, o22, (((Keep.refl _ _).ext E7).trans K15 (allS (Or.inr o22) all0)), f16, f23⟩
theorem own_cl7 (hw : Aj a0 Z) (b : Addr) (bk : ClassId) (vs : List Value) (h0 : Heap) (n0 : Nat) (z0 : n0 ≤ h0.size) (bK : Arv Z h0 b bk .byte (7 : Int32) vs (.int 0)) :
    Af l Z (⟨"java/lang/StringUTF16", "coderFromArrayLen", "([BI)B"⟩ : MethodName) jdk_52_method_15_code 2 (some .byte) ({ frames := 0, cells := 0, slots := 0, locals := 0 } : Room) n0 #[(.ref b), (.int 7)] h0 (fun v h => v = some (.int 0) ∧ h = h0) := by
  refine Ar #[.val (.ref b), .val (.int 7)] ?_
  intro p e s m below meth c T0 C S0
  refine Ac C S0 [(0, .iload_n 1, 1), (1, .aload_n 0, 1)] 2 #[Ab b, Aa 7] [.ref b, .int 7] ?_
  refine Au C S0 bK (by decide +kernel) ?_
  refine Ac C S0 [(3, .isub, 1), (4, .bipush 31, 2), (6, .iushr, 1), (7, .i2b, 1)] 8 #[Ab b, Aa 7] [.int ((Jvm.Free.XT.ushr ((7 : Int32) - (7 : Int32)) (31 : Int32)).toInt8.toInt32)] ?_
  rw [show (Jvm.Free.XT.ushr ((7 : Int32) - (7 : Int32)) (31 : Int32)).toInt8.toInt32 = (0 : Int32) from (by decide)]
  refine Ee C S0 (by decide +kernel) rfl (by decide) (by decide) ?_
  exact ⟨rfl, rfl⟩
theorem own_s4i7 (hw : Aj a0 Z) (G1 : Int32) (G3 : Value) (U8 : Addr) (I8 : Addr) (TB : Addr) (DE : Addr) (x : Addr) (a : Addr) (ak : ClassId) (c0 : Int32) (c1 : Int32) (c2 : Int32) (c3 : Int32) (c4 : Int32) (c5 : Int32) (c6 : Int32) (h0 : Heap) (n0 : Nat) (z0 : n0 ≤ h0.size) (ge_x : n0 ≤ x) (X00 : Old Z n0 h0) (p0 : Exa Z h0 x "java/lang/String") (p1 : Fld Z h0 x "java/lang/String" "value" "[B" .null) (p2 : Fld Z h0 x "java/lang/String" "coder" "B" (.int 0)) (aK : Arv Z h0 a ak .char (7 : Int32) ([(.int c0), (.int c1), (.int c2), (.int c3), (.int c4), (.int c5), (.int c6)]) (.int 0)) (ne_a_x : a ≠ x) (XS : Ax Z n0 G1 G3 U8 I8 TB DE) (gc0 : ¬ (255 : Int32) < c0) (gc1 : ¬ (255 : Int32) < c1) (gc2 : ¬ (255 : Int32) < c2) (gc3 : ¬ (255 : Int32) < c3) (gc4 : ¬ (255 : Int32) < c4) (gc5 : ¬ (255 : Int32) < c5) (gc6 : ¬ (255 : Int32) < c6) :
    Af l Z (⟨"java/lang/String", "<init>", "([CIILjava/lang/Void;)V"⟩ : MethodName) jdk_42_method_149_code 6 none ({ frames := 2, cells := 1, slots := 7, locals := 35 } : Room) n0 #[(.ref x), (.ref a), (.int 0), (.int 7), .null] h0 (fun v h => ∃ r : Addr, ∃ rk : ClassId, v = none ∧ h0.size ≤ r ∧ Keep h0 h [x] ∧ Exa Z h x "java/lang/String" ∧ Fld Z h x "java/lang/String" "value" "[B" (.ref r) ∧ Fld Z h x "java/lang/String" "coder" "B" (.int 0) ∧ Arv Z h r rk .byte (7 : Int32) ([(.int c0.toInt8.toInt32), (.int c1.toInt8.toInt32), (.int c2.toInt8.toInt32), (.int c3.toInt8.toInt32), (.int c4.toInt8.toInt32), (.int c5.toInt8.toInt32), (.int c6.toInt8.toInt32)]) (.int 0) ∧ Exa Z h r "[B") := by
  refine Ar #[.val (.ref x), .val (.ref a), .val (.int 0), .val (.int 7), .val .null, .unset] ?_
  intro p e s m below meth c T0 C S0
  have XS_ := XS
  obtain ⟨O2, O4, P5, rG3, OU, OI, OT, OD, hUI, TBlt, DElt⟩ := XS_
  refine Ac C S0 [(0, .aload_n 0, 1)] 1 #[Ab x, Ab a, Aa 0, Aa 7, .val .null, .unset] [.ref x] ?_
  refine Dp C S0 (ow hw 27 rfl) (ow hw 28 rfl) (ow hw 29 rfl) rfl (by decide +kernel) (by decide) 0 (Ak rfl) (by decide) ?_
  intro T1 S2
  refine Ac C S2 [(4, .iload_n 3, 1), (5, .ifCond .ne 22, 3)] 27 #[Ab x, Ab a, Aa 0, Aa 7, .val .null, .unset] [] ?_
  refine Bi C S2 (ow hw 30 rfl) Via.refl (O2.ext X00.2) (by decide +kernel) ?_
  intro T3 S4
  refine Bh C S4 .eq 28 58 (fun (hq : G1 = (0 : Int32)) => False.elim (P5 hq)) (fun (q5 : ¬ G1 = (0 : Int32)) => ?_)
  refine Ac C S4 [(33, .aload_n 1, 1), (34, .iload_n 2, 1), (35, .iload_n 3, 1)] 36 #[Ab x, Ab a, Aa 0, Aa 7, .val .null, .unset] [.int 7, .int 0, .ref a] ?_
  refine Ae C S4 hw 31 32 33 34 (own_cr7 l Z a0 hw a _ _ _ _ _ _ _ _ h0 n0 z0 aK gc0 gc1 gc2 gc3 gc4 gc5 gc6) 0 [.ref a, .int 0, .int 7] [] Fh ?_
  rintro T12 h13 v14 L15 S16 ⟨⟨a6, k7, rfl, g8, K9, f10, f11⟩, -⟩
  refine Ac C S16 [(39, .astore 5, 2), (41, .aload_n 0, 1), (42, .aload 5, 2), (44, .iload_n 3, 1)] 45 #[Ab x, Ab a, Aa 0, Aa 7, .val .null, Ab a6] [.int 7, .ref a6, .ref x] ?_
  have f17 : n0 ≤ h13.size := (Nat.le_trans z0 K9.1)
  refine Ae C S16 hw 39 40 33 41 (own_cl7 l Z a0 hw a6 _ _ h13 n0 f17 f10) 1 [.ref a6, .int 7] [.ref x] Ey ?_
  rintro T19 h20 v21 L22 S23 ⟨⟨rfl, e18⟩, -⟩
  rw [e18] at S23; clear e18
  have f24 := (p2.keep K9 nin0)
  have f25 := (p0.keep K9)
  refine Db C S23 (ty := .byte) (host := "") (Or.inl (ow hw 42 rfl)) Via.refl f24 f25 (Or.inr ⟨(ow hw 43 rfl), rfl, rfl⟩) (ow hw 18 rfl) Cx rfl rfl ge_x (by decide +kernel) ?_
  intro T26 h28 S27 W29
  have f30 : Fld Z h28 x "java/lang/String" "coder" "B" (.int 0) := Fld.same W29 f24
  refine Ac C S27 [(51, .aload_n 0, 1), (52, .aload 5, 2)] 54 #[Ab x, Ab a, Aa 0, Aa 7, .val .null, Ab a6] [.ref a6, .ref x] ?_
  have f31 := (Fld.other W29 (p1.keep K9 nin0) (Or.inr (Ep hw)))
  have f32 := (Exa.wr W29 f25)
  refine Db C S27 (ty := (.array .byte)) (host := "") (Or.inl (ow hw 44 rfl)) Via.refl f31 f32 (Or.inr ⟨(ow hw 45 rfl), rfl, rfl⟩) (ow hw 18 rfl) Cy rfl rfl ge_x (by decide +kernel) ?_
  intro T33 h35 S34 W36
  have f37 : Fld Z h35 x "java/lang/String" "value" "[B" (.ref a6) := Fld.same W36 f31
  refine Ct C S34 (by decide +kernel) (by decide) (by decide) ?_
  have o38 : h0.size ≤ a6 := Nat.le_trans (Nat.le_refl _) g8
  have f39 := (Exa.wr W36 f32)
  have f40 := (Fld.other W36 f30 (Or.inr (Er hw)))
  have n41 : x ≠ a6 := Nat.ne_of_lt (Nat.lt_of_lt_of_le p0.lt g8)
  have f42 := ((f10.other W29 (Ne.symm n41)).other W36 (Ne.symm n41))
  have f43 := (Exa.wr W36 (Exa.wr W29 f11))
  exact ⟨a6, k7, rfl, o38, ((((Keep.refl _ _).trans K9 all0).wr W29 (Ba 0)).wr W36 (Ba 0)), f39, f37, f40, f42, f43⟩
theorem own_s1i7 (hw : Aj a0 Z) (G1 : Int32) (G3 : Value) (U8 : Addr) (I8 : Addr) (TB : Addr) (DE : Addr) (x : Addr) (a : Addr) (ak : ClassId) (c0 : Int32) (c1 : Int32) (c2 : Int32) (c3 : Int32) (c4 : Int32) (c5 : Int32) (c6 : Int32) (h0 : Heap) (n0 : Nat) (z0 : n0 ≤ h0.size) (ge_x : n0 ≤ x) (X00 : Old Z n0 h0) (p0 : Exa Z h0 x "java/lang/String") (p1 : Fld Z h0 x "java/lang/String" "value" "[B" .null) (p2 : Fld Z h0 x "java/lang/String" "coder" "B" (.int 0)) (aK : Arv Z h0 a ak .char (7 : Int32) ([(.int c0), (.int c1), (.int c2), (.int c3), (.int c4), (.int c5), (.int c6)]) (.int 0)) (ne_a_x : a ≠ x) (XS : Ax Z n0 G1 G3 U8 I8 TB DE) (gc0 : ¬ (255 : Int32) < c0) (gc1 : ¬ (255 : Int32) < c1) (gc2 : ¬ (255 : Int32) < c2) (gc3 : ¬ (255 : Int32) < c3) (gc4 : ¬ (255 : Int32) < c4) (gc5 : ¬ (255 : Int32) < c5) (gc6 : ¬ (255 : Int32) < c6) :
    Af l Z (⟨"java/lang/String", "<init>", "([C)V"⟩ : MethodName) jdk_42_method_3_code 2 none ({ frames := 3, cells := 1, slots := 7, locals := 52 } : Room) n0 #[(.ref x), (.ref a)] h0 (fun v h => ∃ r : Addr, ∃ rk : ClassId, v = none ∧ h0.size ≤ r ∧ Keep h0 h [x] ∧ Exa Z h x "java/lang/String" ∧ Fld Z h x "java/lang/String" "value" "[B" (.ref r) ∧ Fld Z h x "java/lang/String" "coder" "B" (.int 0) ∧ Arv Z h r rk .byte (7 : Int32) ([(.int c0.toInt8.toInt32), (.int c1.toInt8.toInt32), (.int c2.toInt8.toInt32), (.int c3.toInt8.toInt32), (.int c4.toInt8.toInt32), (.int c5.toInt8.toInt32), (.int c6.toInt8.toInt32)]) (.int 0) ∧ Exa Z h r "[B") := by
  refine Ar #[.val (.ref x), .val (.ref a)] ?_
  intro p e s m below meth c T0 C S0
  have XS_ := XS
  obtain ⟨O2, O4, P5, rG3, OU, OI, OT, OD, hUI, TBlt, DElt⟩ := XS_
  refine Ac C S0 [(0, .aload_n 0, 1), (1, .aload_n 1, 1), (2, .iconst 0, 1), (3, .aload_n 1, 1)] 4 #[Ab x, Ab a] [.ref a, .int 0, .ref a, .ref x] ?_
  refine Au C S0 aK (by decide +kernel) ?_
  refine Ac C S0 [(5, .aconst_null, 1)] 6 #[Ab x, Ab a] [.null, .int 7, .int 0, .ref a, .ref x] ?_
  refine Cs C S0 rfl (ow hw 23 rfl) (ow hw 24 rfl) (ow hw 26 rfl) (by decide) (Af.pay (own_s4i7 l Z a0 hw G1 G3 U8 I8 TB DE x a _ _ _ _ _ _ _ _ h0 n0 z0 ge_x X00 p0 p1 p2 aK ne_a_x XS gc0 gc1 gc2 gc3 gc4 gc5 gc6) C 0 (ow hw 26 rfl) (ow hw 19 rfl) (by decide) (by decide)) (fun _ _ _ q => q.2) [.ref a, .int 0, .int 7, .null] [] rfl Eg rfl rfl rfl (Ak rfl) (by decide) (by decide) (by decide +kernel) ?_
  rintro T10 h11 v12 L13 S14 ⟨⟨a1, k2, rfl, g3, K4, f5, f6, f7, f8, f9⟩, -⟩
  refine Ct C S14 (by decide +kernel) (by decide) (by decide) ?_
  have o15 : h0.size ≤ a1 := Nat.le_trans (Nat.le_refl _) g3
  exact ⟨a1, k2, rfl, o15, ((Keep.refl _ _).trans K4 (allS (Ba 0) all0)), f5, f6, f7, f8, f9⟩
theorem own_cq8 (hw : Aj a0 Z) (a : Addr) (ak : ClassId) (b : Addr) (bk : ClassId) (c0 : Int32) (c1 : Int32) (c2 : Int32) (c3 : Int32) (c4 : Int32) (c5 : Int32) (c6 : Int32) (c7 : Int32) (h0 : Heap) (n0 : Nat) (z0 : n0 ≤ h0.size) (ge_b : n0 ≤ b) (aK : Arv Z h0 a ak .char (8 : Int32) ([(.int c0), (.int c1), (.int c2), (.int c3), (.int c4), (.int c5), (.int c6), (.int c7)]) (.int 0)) (bK : Arv Z h0 b bk .byte (8 : Int32) ([(.int 0), (.int 0), (.int 0), (.int 0), (.int 0), (.int 0), (.int 0), (.int 0)]) (.int 0)) (ne_a_b : a ≠ b) (gc0 : ¬ (255 : Int32) < c0) (gc1 : ¬ (255 : Int32) < c1) (gc2 : ¬ (255 : Int32) < c2) (gc3 : ¬ (255 : Int32) < c3) (gc4 : ¬ (255 : Int32) < c4) (gc5 : ¬ (255 : Int32) < c5) (gc6 : ¬ (255 : Int32) < c6) (gc7 : ¬ (255 : Int32) < c7) :
    Af l Z (⟨"java/lang/StringUTF16", "compress", "([CI[BII)I"⟩ : MethodName) jdk_52_method_21_code 7 (some .int) ({ frames := 0, cells := 0, slots := 0, locals := 0 } : Room) n0 #[(.ref a), (.int 0), (.ref b), (.int 0), (.int 8)] h0 (fun v h => v = some (.int 8) ∧ Keep h0 h [b] ∧ Arv Z h b bk .byte (8 : Int32) ([(.int c0.toInt8.toInt32), (.int c1.toInt8.toInt32), (.int c2.toInt8.toInt32), (.int c3.toInt8.toInt32), (.int c4.toInt8.toInt32), (.int c5.toInt8.toInt32), (.int c6.toInt8.toInt32), (.int c7.toInt8.toInt32)]) (.int 0)) := by
  refine Ar #[.val (.ref a), .val (.int 0), .val (.ref b), .val (.int 0), .val (.int 8), .unset, .unset] ?_
  intro p e s m below meth c T0 C S0
  refine Ac C S0 [(0, .iconst 0, 1), (1, .istore 5, 2), (3, .iload 5, 2), (5, .iload 4, 2), (7, .if_icmp .ge 37, 3), (10, .aload_n 0, 1), (11, .iload_n 1, 1)] 12 #[Ab a, Aa 0, Ab b, Aa 0, Aa 8, Aa 0, .unset] [.int 0, .ref a] ?_
  refine Ao C S0 aK ⟨(by decide), (by decide)⟩ (.int c0) rfl (by decide +kernel) ?_
  refine Ac C S0 [(13, .istore 6, 2), (15, .iload 6, 2), (17, .sipush 255, 3)] 20 #[Ab a, Aa 0, Ab b, Aa 0, Aa 8, Aa 0, Aa c0] [.int 255, .int c0] ?_
  refine Bg C S0 .le 6 26 (fun (q1 : ¬ (255 : Int32) < c0) => ?_) (fun (hq : (255 : Int32) < c0) => False.elim (gc0 hq))
  refine Ac C S0 [(26, .aload_n 2, 1), (27, .iload_n 3, 1), (28, .iload 6, 2), (30, .i2b, 1)] 31 #[Ab a, Aa 0, Ab b, Aa 0, Aa 8, Aa 0, Aa c0] [.int c0.toInt8.toInt32, .int 0, .ref b] ?_
  refine Ap C S0 bK ⟨(by decide), (by decide)⟩ 0 rfl (Ak rfl) c0.toInt8.toInt32 (Bc _) ge_b (by decide +kernel) ?_
  intro T2 h4 S3 W5 f6
  have f7 : Arv Z h4 b bk .byte (8 : Int32) ([(.int c0.toInt8.toInt32), (.int 0), (.int 0), (.int 0), (.int 0), (.int 0), (.int 0), (.int 0)]) (.int 0) := f6
  refine Ac C S3 [(32, .iinc 1 1, 3), (35, .iinc 3 1, 3), (38, .iinc 5 1, 3), (41, .goto (-38), 3), (3, .iload 5, 2), (5, .iload 4, 2), (7, .if_icmp .ge 37, 3), (10, .aload_n 0, 1), (11, .iload_n 1, 1)] 12 #[Ab a, Aa 1, Ab b, Aa 1, Aa 8, Aa 1, Aa c0] [.int 1, .ref a] ?_
  have f8 := (aK.other W5 ne_a_b)
  refine Ao C S3 f8 ⟨(by decide), (by decide)⟩ (.int c1) rfl (by decide +kernel) ?_
  refine Ac C S3 [(13, .istore 6, 2), (15, .iload 6, 2), (17, .sipush 255, 3)] 20 #[Ab a, Aa 1, Ab b, Aa 1, Aa 8, Aa 1, Aa c1] [.int 255, .int c1] ?_
  refine Bg C S3 .le 6 26 (fun (q9 : ¬ (255 : Int32) < c1) => ?_) (fun (hq : (255 : Int32) < c1) => False.elim (gc1 hq))
  refine Ac C S3 [(26, .aload_n 2, 1), (27, .iload_n 3, 1), (28, .iload 6, 2), (30, .i2b, 1)] 31 #[Ab a, Aa 1, Ab b, Aa 1, Aa 8, Aa 1, Aa c1] [.int c1.toInt8.toInt32, .int 1, .ref b] ?_
  refine Ap C S3 f7 ⟨(by decide), (by decide)⟩ 1 rfl (Ak rfl) c1.toInt8.toInt32 (Bc _) ge_b (by decide +kernel) ?_
  intro T10 h12 S11 W13 f14
  have f15 : Arv Z h12 b bk .byte (8 : Int32) ([(.int c0.toInt8.toInt32), (.int c1.toInt8.toInt32), (.int 0), (.int 0), (.int 0), (.int 0), (.int 0), (.int 0)]) (.int 0) := f14
  refine Ac C S11 [(32, .iinc 1 1, 3), (35, .iinc 3 1, 3), (38, .iinc 5 1, 3), (41, .goto (-38), 3), (3, .iload 5, 2), (5, .iload 4, 2), (7, .if_icmp .ge 37, 3), (10, .aload_n 0, 1), (11, .iload_n 1, 1)] 12 #[Ab a, Aa 2, Ab b, Aa 2, Aa 8, Aa 2, Aa c1] [.int 2, .ref a] ?_
  have f16 := (f8.other W13 ne_a_b)
  refine Ao C S11 f16 ⟨(by decide), (by decide)⟩ (.int c2) rfl (by decide +kernel) ?_
  refine Ac C S11 [(13, .istore 6, 2), (15, .iload 6, 2), (17, .sipush 255, 3)] 20 #[Ab a, Aa 2, Ab b, Aa 2, Aa 8, Aa 2, Aa c2] [.int 255, .int c2] ?_
  refine Bg C S11 .le 6 26 (fun (q17 : ¬ (255 : Int32) < c2) => ?_) (fun (hq : (255 : Int32) < c2) => False.elim (gc2 hq))
  refine Ac C S11 [(26, .aload_n 2, 1), (27, .iload_n 3, 1), (28, .iload 6, 2), (30, .i2b, 1)] 31 #[Ab a, Aa 2, Ab b, Aa 2, Aa 8, Aa 2, Aa c2] [.int c2.toInt8.toInt32, .int 2, .ref b] ?_
  refine Ap C S11 f15 ⟨(by decide), (by decide)⟩ 2 rfl (Ak rfl) c2.toInt8.toInt32 (Bc _) ge_b (by decide +kernel) ?_
  intro T18 h20 S19 W21 f22
  have f23 : Arv Z h20 b bk .byte (8 : Int32) ([(.int c0.toInt8.toInt32), (.int c1.toInt8.toInt32), (.int c2.toInt8.toInt32), (.int 0), (.int 0), (.int 0), (.int 0), (.int 0)]) (.int 0) := f22
  refine Ac C S19 [(32, .iinc 1 1, 3), (35, .iinc 3 1, 3), (38, .iinc 5 1, 3), (41, .goto (-38), 3), (3, .iload 5, 2), (5, .iload 4, 2), (7, .if_icmp .ge 37, 3), (10, .aload_n 0, 1), (11, .iload_n 1, 1)] 12 #[Ab a, Aa 3, Ab b, Aa 3, Aa 8, Aa 3, Aa c2] [.int 3, .ref a] ?_
  have f24 := (f16.other W21 ne_a_b)
  refine Ao C S19 f24 ⟨(by decide), (by decide)⟩ (.int c3) rfl (by decide +kernel) ?_
  refine Ac C S19 [(13, .istore 6, 2), (15, .iload 6, 2), (17, .sipush 255, 3)] 20 #[Ab a, Aa 3, Ab b, Aa 3, Aa 8, Aa 3, Aa c3] [.int 255, .int c3] ?_
  refine Bg C S19 .le 6 26 (fun (q25 : ¬ (255 : Int32) < c3) => ?_) (fun (hq : (255 : Int32) < c3) => False.elim (gc3 hq))
  refine Ac C S19 [(26, .aload_n 2, 1), (27, .iload_n 3, 1), (28, .iload 6, 2), (30, .i2b, 1)] 31 #[Ab a, Aa 3, Ab b, Aa 3, Aa 8, Aa 3, Aa c3] [.int c3.toInt8.toInt32, .int 3, .ref b] ?_
  refine Ap C S19 f23 ⟨(by decide), (by decide)⟩ 3 rfl (Ak rfl) c3.toInt8.toInt32 (Bc _) ge_b (by decide +kernel) ?_
  intro T26 h28 S27 W29 f30
  have f31 : Arv Z h28 b bk .byte (8 : Int32) ([(.int c0.toInt8.toInt32), (.int c1.toInt8.toInt32), (.int c2.toInt8.toInt32), (.int c3.toInt8.toInt32), (.int 0), (.int 0), (.int 0), (.int 0)]) (.int 0) := f30
  refine Ac C S27 [(32, .iinc 1 1, 3), (35, .iinc 3 1, 3), (38, .iinc 5 1, 3), (41, .goto (-38), 3), (3, .iload 5, 2), (5, .iload 4, 2), (7, .if_icmp .ge 37, 3), (10, .aload_n 0, 1), (11, .iload_n 1, 1)] 12 #[Ab a, Aa 4, Ab b, Aa 4, Aa 8, Aa 4, Aa c3] [.int 4, .ref a] ?_
  have f32 := (f24.other W29 ne_a_b)
  refine Ao C S27 f32 ⟨(by decide), (by decide)⟩ (.int c4) rfl (by decide +kernel) ?_
  refine Ac C S27 [(13, .istore 6, 2), (15, .iload 6, 2), (17, .sipush 255, 3)] 20 #[Ab a, Aa 4, Ab b, Aa 4, Aa 8, Aa 4, Aa c4] [.int 255, .int c4] ?_
  refine Bg C S27 .le 6 26 (fun (q33 : ¬ (255 : Int32) < c4) => ?_) (fun (hq : (255 : Int32) < c4) => False.elim (gc4 hq))
  refine Ac C S27 [(26, .aload_n 2, 1), (27, .iload_n 3, 1), (28, .iload 6, 2), (30, .i2b, 1)] 31 #[Ab a, Aa 4, Ab b, Aa 4, Aa 8, Aa 4, Aa c4] [.int c4.toInt8.toInt32, .int 4, .ref b] ?_
  refine Ap C S27 f31 ⟨(by decide), (by decide)⟩ 4 rfl (Ak rfl) c4.toInt8.toInt32 (Bc _) ge_b (by decide +kernel) ?_
  intro T34 h36 S35 W37 f38
  have f39 : Arv Z h36 b bk .byte (8 : Int32) ([(.int c0.toInt8.toInt32), (.int c1.toInt8.toInt32), (.int c2.toInt8.toInt32), (.int c3.toInt8.toInt32), (.int c4.toInt8.toInt32), (.int 0), (.int 0), (.int 0)]) (.int 0) := f38
  refine Ac C S35 [(32, .iinc 1 1, 3), (35, .iinc 3 1, 3), (38, .iinc 5 1, 3), (41, .goto (-38), 3), (3, .iload 5, 2), (5, .iload 4, 2), (7, .if_icmp .ge 37, 3), (10, .aload_n 0, 1), (11, .iload_n 1, 1)] 12 #[Ab a, Aa 5, Ab b, Aa 5, Aa 8, Aa 5, Aa c4] [.int 5, .ref a] ?_
  have f40 := (f32.other W37 ne_a_b)
  refine Ao C S35 f40 ⟨(by decide), (by decide)⟩ (.int c5) rfl (by decide +kernel) ?_
  refine Ac C S35 [(13, .istore 6, 2), (15, .iload 6, 2), (17, .sipush 255, 3)] 20 #[Ab a, Aa 5, Ab b, Aa 5, Aa 8, Aa 5, Aa c5] [.int 255, .int c5] ?_
  refine Bg C S35 .le 6 26 (fun (q41 : ¬ (255 : Int32) < c5) => ?_) (fun (hq : (255 : Int32) < c5) => False.elim (gc5 hq))
  refine Ac C S35 [(26, .aload_n 2, 1), (27, .iload_n 3, 1), (28, .iload 6, 2), (30, .i2b, 1)] 31 #[Ab a, Aa 5, Ab b, Aa 5, Aa 8, Aa 5, Aa c5] [.int c5.toInt8.toInt32, .int 5, .ref b] ?_
  refine Ap C S35 f39 ⟨(by decide), (by decide)⟩ 5 rfl (Ak rfl) c5.toInt8.toInt32 (Bc _) ge_b (by decide +kernel) ?_
  intro T42 h44 S43 W45 f46
  have f47 : Arv Z h44 b bk .byte (8 : Int32) ([(.int c0.toInt8.toInt32), (.int c1.toInt8.toInt32), (.int c2.toInt8.toInt32), (.int c3.toInt8.toInt32), (.int c4.toInt8.toInt32), (.int c5.toInt8.toInt32), (.int 0), (.int 0)]) (.int 0) := f46
  refine Ac C S43 [(32, .iinc 1 1, 3), (35, .iinc 3 1, 3), (38, .iinc 5 1, 3), (41, .goto (-38), 3), (3, .iload 5, 2), (5, .iload 4, 2), (7, .if_icmp .ge 37, 3), (10, .aload_n 0, 1), (11, .iload_n 1, 1)] 12 #[Ab a, Aa 6, Ab b, Aa 6, Aa 8, Aa 6, Aa c5] [.int 6, .ref a] ?_
  have f48 := (f40.other W45 ne_a_b)
  refine Ao C S43 f48 ⟨(by decide), (by decide)⟩ (.int c6) rfl (by decide +kernel) ?_
  refine Ac C S43 [(13, .istore 6, 2), (15, .iload 6, 2), (17, .sipush 255, 3)] 20 #[Ab a, Aa 6, Ab b, Aa 6, Aa 8, Aa 6, Aa c6] [.int 255, .int c6] ?_
  refine Bg C S43 .le 6 26 (fun (q49 : ¬ (255 : Int32) < c6) => ?_) (fun (hq : (255 : Int32) < c6) => False.elim (gc6 hq))
  refine Ac C S43 [(26, .aload_n 2, 1), (27, .iload_n 3, 1), (28, .iload 6, 2), (30, .i2b, 1)] 31 #[Ab a, Aa 6, Ab b, Aa 6, Aa 8, Aa 6, Aa c6] [.int c6.toInt8.toInt32, .int 6, .ref b] ?_
  refine Ap C S43 f47 ⟨(by decide), (by decide)⟩ 6 rfl (Ak rfl) c6.toInt8.toInt32 (Bc _) ge_b (by decide +kernel) ?_
  intro T50 h52 S51 W53 f54
  have f55 : Arv Z h52 b bk .byte (8 : Int32) ([(.int c0.toInt8.toInt32), (.int c1.toInt8.toInt32), (.int c2.toInt8.toInt32), (.int c3.toInt8.toInt32), (.int c4.toInt8.toInt32), (.int c5.toInt8.toInt32), (.int c6.toInt8.toInt32), (.int 0)]) (.int 0) := f54
  refine Ac C S51 [(32, .iinc 1 1, 3), (35, .iinc 3 1, 3), (38, .iinc 5 1, 3), (41, .goto (-38), 3), (3, .iload 5, 2), (5, .iload 4, 2), (7, .if_icmp .ge 37, 3), (10, .aload_n 0, 1), (11, .iload_n 1, 1)] 12 #[Ab a, Aa 7, Ab b, Aa 7, Aa 8, Aa 7, Aa c6] [.int 7, .ref a] ?_
  have f56 := (f48.other W53 ne_a_b)
  refine Ao C S51 f56 ⟨(by decide), (by decide)⟩ (.int c7) rfl (by decide +kernel) ?_
  refine Ac C S51 [(13, .istore 6, 2), (15, .iload 6, 2), (17, .sipush 255, 3)] 20 #[Ab a, Aa 7, Ab b, Aa 7, Aa 8, Aa 7, Aa c7] [.int 255, .int c7] ?_
  refine Bg C S51 .le 6 26 (fun (q57 : ¬ (255 : Int32) < c7) => ?_) (fun (hq : (255 : Int32) < c7) => False.elim (gc7 hq))
  refine Ac C S51 [(26, .aload_n 2, 1), (27, .iload_n 3, 1), (28, .iload 6, 2), (30, .i2b, 1)] 31 #[Ab a, Aa 7, Ab b, Aa 7, Aa 8, Aa 7, Aa c7] [.int c7.toInt8.toInt32, .int 7, .ref b] ?_
  refine Ap C S51 f55 ⟨(by decide), (by decide)⟩ 7 rfl (Ak rfl) c7.toInt8.toInt32 (Bc _) ge_b (by decide +kernel) ?_
  intro T58 h60 S59 W61 f62
  have f63 : Arv Z h60 b bk .byte (8 : Int32) ([(.int c0.toInt8.toInt32), (.int c1.toInt8.toInt32), (.int c2.toInt8.toInt32), (.int c3.toInt8.toInt32), (.int c4.toInt8.toInt32), (.int c5.toInt8.toInt32), (.int c6.toInt8.toInt32), (.int c7.toInt8.toInt32)]) (.int 0) := f62
  refine Ac C S59 [(32, .iinc 1 1, 3), (35, .iinc 3 1, 3), (38, .iinc 5 1, 3), (41, .goto (-38), 3), (3, .iload 5, 2), (5, .iload 4, 2), (7, .if_icmp .ge 37, 3), (44, .iload 4, 2)] 46 #[Ab a, Aa 8, Ab b, Aa 8, Aa 8, Aa 8, Aa c7] [.int 8] ?_
  refine Bq C S59 (by decide +kernel) (by decide) (by decide) ?_
  exact ⟨rfl, (((((((((Keep.refl _ _).wr W5 (Ba 0)).wr W13 (Ba 0)).wr W21 (Ba 0)).wr W29 (Ba 0)).wr W37 (Ba 0)).wr W45 (Ba 0)).wr W53 (Ba 0)).wr W61 (Ba 0)), f63⟩
theorem own_cr8 (hw : Aj a0 Z) (a : Addr) (ak : ClassId) (c0 : Int32) (c1 : Int32) (c2 : Int32) (c3 : Int32) (c4 : Int32) (c5 : Int32) (c6 : Int32) (c7 : Int32) (h0 : Heap) (n0 : Nat) (z0 : n0 ≤ h0.size) (aK : Arv Z h0 a ak .char (8 : Int32) ([(.int c0), (.int c1), (.int c2), (.int c3), (.int c4), (.int c5), (.int c6), (.int c7)]) (.int 0)) (gc0 : ¬ (255 : Int32) < c0) (gc1 : ¬ (255 : Int32) < c1) (gc2 : ¬ (255 : Int32) < c2) (gc3 : ¬ (255 : Int32) < c3) (gc4 : ¬ (255 : Int32) < c4) (gc5 : ¬ (255 : Int32) < c5) (gc6 : ¬ (255 : Int32) < c6) (gc7 : ¬ (255 : Int32) < c7) :
    Af l Z (⟨"java/lang/StringUTF16", "compress", "([CII)[B"⟩ : MethodName) jdk_52_method_16_code 6 (some (.array .byte)) ({ frames := 1, cells := 1, slots := 8, locals := 18 } : Room) n0 #[(.ref a), (.int 0), (.int 8)] h0 (fun v h => ∃ r : Addr, ∃ rk : ClassId, v = some (.ref r) ∧ h0.size ≤ r ∧ Keep h0 h [] ∧ Arv Z h r rk .byte (8 : Int32) ([(.int c0.toInt8.toInt32), (.int c1.toInt8.toInt32), (.int c2.toInt8.toInt32), (.int c3.toInt8.toInt32), (.int c4.toInt8.toInt32), (.int c5.toInt8.toInt32), (.int c6.toInt8.toInt32), (.int c7.toInt8.toInt32)]) (.int 0) ∧ Exa Z h r "[B") := by
  refine Ar #[.val (.ref a), .val (.int 0), .val (.int 8), .unset, .unset, .unset] ?_
  intro p e s m below meth c T0 C S0
  refine Ac C S0 [(0, .iload_n 2, 1)] 1 #[Ab a, Aa 0, Aa 8, .unset, .unset, .unset] [.int 8] ?_
  refine Cp C S0 (aty := .byte) (ad := "[B") (by decide) (ow hw 35 rfl) (by decide +kernel) (by decide) 8 (by decide) (by decide) (by decide) (by decide) ?_
  intro T1 h3 a4 k5 S2 g6 E7 f8 x9
  have f10 : Arv Z h3 a4 k5 .byte (8 : Int32) ([(.int 0), (.int 0), (.int 0), (.int 0), (.int 0), (.int 0), (.int 0), (.int 0)]) (.int 0) := Arv.pad f8 (pad_rep [] (.int 0) 8)
  refine Ac C S2 [(3, .astore_n 3, 1), (4, .aload_n 0, 1), (5, .iload_n 1, 1), (6, .aload_n 3, 1), (7, .iconst 0, 1), (8, .iload_n 2, 1)] 9 #[Ab a, Aa 0, Aa 8, Ab a4, .unset, .unset] [.int 8, .int 0, .ref a4, .int 0, .ref a] ?_
  have f11 := (aK.ext E7)
  have f12 : n0 ≤ h3.size := (Nat.le_trans z0 E7.1)
  have g13 : n0 ≤ a4 := by rw [g6]; exact z0
  have n14 : a ≠ a4 := by rw [g6]; exact Nat.ne_of_lt aK.lt
  refine Ae C S2 hw 36 37 33 38 (own_cq8 l Z a0 hw a _ a4 _ _ _ _ _ _ _ _ _ h3 n0 f12 g13 f11 f10 n14 gc0 gc1 gc2 gc3 gc4 gc5 gc6 gc7) 0 [.ref a, .int 0, .ref a4, .int 0, .int 8] [] Fg ?_
  rintro T17 h18 v19 L20 S21 ⟨⟨rfl, K15, f16⟩, -⟩
  refine Ac C S21 [(12, .istore 4, 2), (14, .iload 4, 2), (16, .iload_n 2, 1), (17, .if_icmp .eq 40, 3), (57, .aload_n 3, 1)] 58 #[Ab a, Aa 0, Aa 8, Ab a4, Aa 8, .unset] [.ref a4] ?_
  refine Az C S21 rfl rfl (by decide +kernel) (by decide) (by decide) ?_
  have o22 : h0.size ≤ a4 := by rw [g6]; exact (Nat.le_refl _)
  have f23 := (x9.keep K15)
  exact ⟨a4, k5, rfl, o22, (((Keep.refl _ _).ext E7).trans K15 (allS (Or.inr o22) all0)), f16, f23⟩
theorem own_cl8 (hw : Aj a0 Z) (b : Addr) (bk : ClassId) (vs : List Value) (h0 : Heap) (n0 : Nat) (z0 : n0 ≤ h0.size) (bK : Arv Z h0 b bk .byte (8 : Int32) vs (.int 0)) :
    Af l Z (⟨"java/lang/StringUTF16", "coderFromArrayLen", "([BI)B"⟩ : MethodName) jdk_52_method_15_code 2 (some .byte) ({ frames := 0, cells := 0, slots := 0, locals := 0 } : Room) n0 #[(.ref b), (.int 8)] h0 (fun v h => v = some (.int 0) ∧ h = h0) := by
  refine Ar #[.val (.ref b), .val (.int 8)] ?_
  intro p e s m below meth c T0 C S0
  refine Ac C S0 [(0, .iload_n 1, 1), (1, .aload_n 0, 1)] 2 #[Ab b, Aa 8] [.ref b, .int 8] ?_
  refine Au C S0 bK (by decide +kernel) ?_
  refine Ac C S0 [(3, .isub, 1), (4, .bipush 31, 2), (6, .iushr, 1), (7, .i2b, 1)] 8 #[Ab b, Aa 8] [.int ((Jvm.Free.XT.ushr ((8 : Int32) - (8 : Int32)) (31 : Int32)).toInt8.toInt32)] ?_
  rw [show (Jvm.Free.XT.ushr ((8 : Int32) - (8 : Int32)) (31 : Int32)).toInt8.toInt32 = (0 : Int32) from (by decide)]
  refine Ee C S0 (by decide +kernel) rfl (by decide) (by decide) ?_
  exact ⟨rfl, rfl⟩
theorem own_s4i8 (hw : Aj a0 Z) (G1 : Int32) (G3 : Value) (U8 : Addr) (I8 : Addr) (TB : Addr) (DE : Addr) (x : Addr) (a : Addr) (ak : ClassId) (c0 : Int32) (c1 : Int32) (c2 : Int32) (c3 : Int32) (c4 : Int32) (c5 : Int32) (c6 : Int32) (c7 : Int32) (h0 : Heap) (n0 : Nat) (z0 : n0 ≤ h0.size) (ge_x : n0 ≤ x) (X00 : Old Z n0 h0) (p0 : Exa Z h0 x "java/lang/String") (p1 : Fld Z h0 x "java/lang/String" "value" "[B" .null) (p2 : Fld Z h0 x "java/lang/String" "coder" "B" (.int 0)) (aK : Arv Z h0 a ak .char (8 : Int32) ([(.int c0), (.int c1), (.int c2), (.int c3), (.int c4), (.int c5), (.int c6), (.int c7)]) (.int 0)) (ne_a_x : a ≠ x) (XS : Ax Z n0 G1 G3 U8 I8 TB DE) (gc0 : ¬ (255 : Int32) < c0) (gc1 : ¬ (255 : Int32) < c1) (gc2 : ¬ (255 : Int32) < c2) (gc3 : ¬ (255 : Int32) < c3) (gc4 : ¬ (255 : Int32) < c4) (gc5 : ¬ (255 : Int32) < c5) (gc6 : ¬ (255 : Int32) < c6) (gc7 : ¬ (255 : Int32) < c7) :
    Af l Z (⟨"java/lang/String", "<init>", "([CIILjava/lang/Void;)V"⟩ : MethodName) jdk_42_method_149_code 6 none ({ frames := 2, cells := 1, slots := 8, locals := 35 } : Room) n0 #[(.ref x), (.ref a), (.int 0), (.int 8), .null] h0 (fun v h => ∃ r : Addr, ∃ rk : ClassId, v = none ∧ h0.size ≤ r ∧ Keep h0 h [x] ∧ Exa Z h x "java/lang/String" ∧ Fld Z h x "java/lang/String" "value" "[B" (.ref r) ∧ Fld Z h x "java/lang/String" "coder" "B" (.int 0) ∧ Arv Z h r rk .byte (8 : Int32) ([(.int c0.toInt8.toInt32), (.int c1.toInt8.toInt32), (.int c2.toInt8.toInt32), (.int c3.toInt8.toInt32), (.int c4.toInt8.toInt32), (.int c5.toInt8.toInt32), (.int c6.toInt8.toInt32), (.int c7.toInt8.toInt32)]) (.int 0) ∧ Exa Z h r "[B") := by
  refine Ar #[.val (.ref x), .val (.ref a), .val (.int 0), .val (.int 8), .val .null, .unset] ?_
  intro p e s m below meth c T0 C S0
  have XS_ := XS
  obtain ⟨O2, O4, P5, rG3, OU, OI, OT, OD, hUI, TBlt, DElt⟩ := XS_
  refine Ac C S0 [(0, .aload_n 0, 1)] 1 #[Ab x, Ab a, Aa 0, Aa 8, .val .null, .unset] [.ref x] ?_
  refine Dp C S0 (ow hw 27 rfl) (ow hw 28 rfl) (ow hw 29 rfl) rfl (by decide +kernel) (by decide) 0 (Ak rfl) (by decide) ?_
  intro T1 S2
  refine Ac C S2 [(4, .iload_n 3, 1), (5, .ifCond .ne 22, 3)] 27 #[Ab x, Ab a, Aa 0, Aa 8, .val .null, .unset] [] ?_
  refine Bi C S2 (ow hw 30 rfl) Via.refl (O2.ext X00.2) (by decide +kernel) ?_
  intro T3 S4
  refine Bh C S4 .eq 28 58 (fun (hq : G1 = (0 : Int32)) => False.elim (P5 hq)) (fun (q5 : ¬ G1 = (0 : Int32)) => ?_)
  refine Ac C S4 [(33, .aload_n 1, 1), (34, .iload_n 2, 1), (35, .iload_n 3, 1)] 36 #[Ab x, Ab a, Aa 0, Aa 8, .val .null, .unset] [.int 8, .int 0, .ref a] ?_
  refine Ae C S4 hw 31 32 33 34 (own_cr8 l Z a0 hw a _ _ _ _ _ _ _ _ _ h0 n0 z0 aK gc0 gc1 gc2 gc3 gc4 gc5 gc6 gc7) 0 [.ref a, .int 0, .int 8] [] Fh ?_
  rintro T12 h13 v14 L15 S16 ⟨⟨a6, k7, rfl, g8, K9, f10, f11⟩, -⟩
  refine Ac C S16 [(39, .astore 5, 2), (41, .aload_n 0, 1), (42, .aload 5, 2), (44, .iload_n 3, 1)] 45 #[Ab x, Ab a, Aa 0, Aa 8, .val .null, Ab a6] [.int 8, .ref a6, .ref x] ?_
  have f17 : n0 ≤ h13.size := (Nat.le_trans z0 K9.1)
  refine Ae C S16 hw 39 40 33 41 (own_cl8 l Z a0 hw a6 _ _ h13 n0 f17 f10) 1 [.ref a6, .int 8] [.ref x] Ey ?_
  rintro T19 h20 v21 L22 S23 ⟨⟨rfl, e18⟩, -⟩
  rw [e18] at S23; clear e18
  have f24 := (p2.keep K9 nin0)
  have f25 := (p0.keep K9)
  refine Db C S23 (ty := .byte) (host := "") (Or.inl (ow hw 42 rfl)) Via.refl f24 f25 (Or.inr ⟨(ow hw 43 rfl), rfl, rfl⟩) (ow hw 18 rfl) Cx rfl rfl ge_x (by decide +kernel) ?_
  intro T26 h28 S27 W29
  have f30 : Fld Z h28 x "java/lang/String" "coder" "B" (.int 0) := Fld.same W29 f24
  refine Ac C S27 [(51, .aload_n 0, 1), (52, .aload 5, 2)] 54 #[Ab x, Ab a, Aa 0, Aa 8, .val .null, Ab a6] [.ref a6, .ref x] ?_
  have f31 := (Fld.other W29 (p1.keep K9 nin0) (Or.inr (Ep hw)))
  have f32 := (Exa.wr W29 f25)
  refine Db C S27 (ty := (.array .byte)) (host := "") (Or.inl (ow hw 44 rfl)) Via.refl f31 f32 (Or.inr ⟨(ow hw 45 rfl), rfl, rfl⟩) (ow hw 18 rfl) Cy rfl rfl ge_x (by decide +kernel) ?_
  intro T33 h35 S34 W36
  have f37 : Fld Z h35 x "java/lang/String" "value" "[B" (.ref a6) := Fld.same W36 f31
  refine Ct C S34 (by decide +kernel) (by decide) (by decide) ?_
  have o38 : h0.size ≤ a6 := Nat.le_trans (Nat.le_refl _) g8
  have f39 := (Exa.wr W36 f32)
  have f40 := (Fld.other W36 f30 (Or.inr (Er hw)))
  have n41 : x ≠ a6 := Nat.ne_of_lt (Nat.lt_of_lt_of_le p0.lt g8)
  have f42 := ((f10.other W29 (Ne.symm n41)).other W36 (Ne.symm n41))
  have f43 := (Exa.wr W36 (Exa.wr W29 f11))
  exact ⟨a6, k7, rfl, o38, ((((Keep.refl _ _).trans K9 all0).wr W29 (Ba 0)).wr W36 (Ba 0)), f39, f37, f40, f42, f43⟩
theorem own_s1i8 (hw : Aj a0 Z) (G1 : Int32) (G3 : Value) (U8 : Addr) (I8 : Addr) (TB : Addr) (DE : Addr) (x : Addr) (a : Addr) (ak : ClassId) (c0 : Int32) (c1 : Int32) (c2 : Int32) (c3 : Int32) (c4 : Int32) (c5 : Int32) (c6 : Int32) (c7 : Int32) (h0 : Heap) (n0 : Nat) (z0 : n0 ≤ h0.size) (ge_x : n0 ≤ x) (X00 : Old Z n0 h0) (p0 : Exa Z h0 x "java/lang/String") (p1 : Fld Z h0 x "java/lang/String" "value" "[B" .null) (p2 : Fld Z h0 x "java/lang/String" "coder" "B" (.int 0)) (aK : Arv Z h0 a ak .char (8 : Int32) ([(.int c0), (.int c1), (.int c2), (.int c3), (.int c4), (.int c5), (.int c6), (.int c7)]) (.int 0)) (ne_a_x : a ≠ x) (XS : Ax Z n0 G1 G3 U8 I8 TB DE) (gc0 : ¬ (255 : Int32) < c0) (gc1 : ¬ (255 : Int32) < c1) (gc2 : ¬ (255 : Int32) < c2) (gc3 : ¬ (255 : Int32) < c3) (gc4 : ¬ (255 : Int32) < c4) (gc5 : ¬ (255 : Int32) < c5) (gc6 : ¬ (255 : Int32) < c6) (gc7 : ¬ (255 : Int32) < c7) :
    Af l Z (⟨"java/lang/String", "<init>", "([C)V"⟩ : MethodName) jdk_42_method_3_code 2 none ({ frames := 3, cells := 1, slots := 8, locals := 52 } : Room) n0 #[(.ref x), (.ref a)] h0 (fun v h => ∃ r : Addr, ∃ rk : ClassId, v = none ∧ h0.size ≤ r ∧ Keep h0 h [x] ∧ Exa Z h x "java/lang/String" ∧ Fld Z h x "java/lang/String" "value" "[B" (.ref r) ∧ Fld Z h x "java/lang/String" "coder" "B" (.int 0) ∧ Arv Z h r rk .byte (8 : Int32) ([(.int c0.toInt8.toInt32), (.int c1.toInt8.toInt32), (.int c2.toInt8.toInt32), (.int c3.toInt8.toInt32), (.int c4.toInt8.toInt32), (.int c5.toInt8.toInt32), (.int c6.toInt8.toInt32), (.int c7.toInt8.toInt32)]) (.int 0) ∧ Exa Z h r "[B") := by
  refine Ar #[.val (.ref x), .val (.ref a)] ?_
  intro p e s m below meth c T0 C S0
  have XS_ := XS
  obtain ⟨O2, O4, P5, rG3, OU, OI, OT, OD, hUI, TBlt, DElt⟩ := XS_
  refine Ac C S0 [(0, .aload_n 0, 1), (1, .aload_n 1, 1), (2, .iconst 0, 1), (3, .aload_n 1, 1)] 4 #[Ab x, Ab a] [.ref a, .int 0, .ref a, .ref x] ?_
  refine Au C S0 aK (by decide +kernel) ?_
  refine Ac C S0 [(5, .aconst_null, 1)] 6 #[Ab x, Ab a] [.null, .int 8, .int 0, .ref a, .ref x] ?_
  refine Cs C S0 rfl (ow hw 23 rfl) (ow hw 24 rfl) (ow hw 26 rfl) (by decide) (Af.pay (own_s4i8 l Z a0 hw G1 G3 U8 I8 TB DE x a _ _ _ _ _ _ _ _ _ h0 n0 z0 ge_x X00 p0 p1 p2 aK ne_a_x XS gc0 gc1 gc2 gc3 gc4 gc5 gc6 gc7) C 0 (ow hw 26 rfl) (ow hw 19 rfl) (by decide) (by decide)) (fun _ _ _ q => q.2) [.ref a, .int 0, .int 8, .null] [] rfl Eg rfl rfl rfl (Ak rfl) (by decide) (by decide) (by decide +kernel) ?_
  rintro T10 h11 v12 L13 S14 ⟨⟨a1, k2, rfl, g3, K4, f5, f6, f7, f8, f9⟩, -⟩
  refine Ct C S14 (by decide +kernel) (by decide) (by decide) ?_
  have o15 : h0.size ≤ a1 := Nat.le_trans (Nat.le_refl _) g3
  exact ⟨a1, k2, rfl, o15, ((Keep.refl _ _).trans K4 (allS (Ba 0) all0)), f5, f6, f7, f8, f9⟩
theorem own_se4 (hw : Aj a0 Z) (hEL : EW Z a0 Ca) (wS : ∀ a ∈ Bundle.stringAtoms, a.before a0 Z = true) (x : Addr) (y : Addr) (h0 : Heap) (n0 : Nat) (z0 : n0 ≤ h0.size) (ge_x : n0 ≤ x) (p0 : Exa Z h0 x "java/lang/String") (p1 : Fld Z h0 x "java/lang/String" "value" "[B" .null) (p2 : Fld Z h0 x "java/lang/String" "coder" "B" (.int 0)) :
    Cf l Z Ca (⟨"java/lang/String", "<init>", "([CIILjava/lang/Void;)V"⟩ : MethodName) jdk_42_method_149_code 6 none ({ frames := 1, cells := 4, slots := 8, locals := 12 } : Room) n0 #[(.ref x), (.ref y), (.int 0), (.int 0), .null] h0 [x] (fun v h => ∃ t : Addr, ∃ tk : ClassId, v = none ∧ Keep h0 h [x] ∧ Exa Z h x "java/lang/String" ∧ Fld Z h x "java/lang/String" "coder" "B" (.int 0) ∧ Fld Z h x "java/lang/String" "value" "[B" (.ref t) ∧ Arv Z h t tk .byte (0 : Int32) ([]) (.int 0) ∧ Exa Z h t "[B") := by
  refine Cm hEL wS (by decide +kernel) #[.val (.ref x), .val (.ref y), .val (.int 0), .val (.int 0), .val .null, .unset] (fun m => by first | (simp [entryFrame, mkF, argsToLocals, Value.category]; done) | rfl) ?_
  intro p e s m below meth c T0 CW SW0
  refine Av CW SW0 ?_
  intro vm1 C S2 rb3
  refine Ac C S2 [(0, .aload_n 0, 1)] 1 #[Ab x, Ab y, Aa 0, Aa 0, .val .null, .unset] [.ref x] ?_
  refine Dp C S2 (ow hw 27 rfl) (ow hw 28 rfl) (ow hw 29 rfl) rfl (by decide +kernel) (by decide) 0 (Ak rfl) (by decide) ?_
  intro T4 S5
  refine Ac C S5 [(4, .iload_n 3, 1)] 5 #[Ab x, Ab y, Aa 0, Aa 0, .val .null, .unset] [.int 0] ?_
  refine Bh C S5 .ne 22 27 (fun (hq : ¬ (0 : Int32) = 0) => False.elim (hq rfl)) (fun (q6 : (0 : Int32) = 0) => ?_)
  refine Ac C S5 [(8, .aload_n 0, 1)] 9 #[Ab x, Ab y, Aa 0, Aa 0, .val .null, .unset] [.ref x] ?_
  have SW7 := rb3 _ _ _ _ [] [] S5 (Keep.refl _ _) all0 all0
  refine own_ldcWE CW SW7 (ow hw 198 rfl) (Dc 1) (z := (0 : Int32)) (vs := []) ⟨by decide, by decide⟩ (by decide) rfl (by decide +kernel) 0 (by decide) (by decide) (by decide) (by decide) ?_
  intro T8 h9 a10 b11 k12 SW13 E14 x15 f16 f17 f18 ne19 x20
  refine Av CW SW13 ?_
  intro vm21 C S22 rb23
  refine Ch C S22 hw 44 f17 ?_
  intro T24 S25
  have f26 := (Fld.ext E14 p1)
  have f27 := (Exa.ext E14 p0)
  refine Db C S25 (ty := (.array .byte)) (host := "") (Or.inl (ow hw 44 rfl)) Via.refl f26 f27 (Or.inr ⟨(ow hw 45 rfl), rfl, rfl⟩) (ow hw 18 rfl) Cy rfl rfl ge_x (by decide +kernel) ?_
  intro T28 h30 S29 W31
  have f32 : Fld Z h30 x "java/lang/String" "value" "[B" (.ref b11) := Fld.same W31 f26
  refine Ac C S29 [(17, .aload_n 0, 1)] 18 #[Ab x, Ab y, Aa 0, Aa 0, .val .null, .unset] [.ref x] ?_
  have SW33 := rb23 _ _ _ _ [x] [] S29 ((Keep.refl _ _).wr W31 (Ba 0)) (allS (Dc 0) all0) all0
  refine own_ldcWE CW SW33 (ow hw 198 rfl) (Dc 1) (z := (0 : Int32)) (vs := []) ⟨by decide, by decide⟩ (by decide) rfl (by decide +kernel) 0 (by decide) (by decide) (by decide) (by decide) ?_
  intro T34 h35 a36 b37 k38 SW39 E40 x41 f42 f43 f44 ne45 x46
  refine Av CW SW39 ?_
  intro vm47 C S48 rb49
  refine Ch C S48 hw 42 f42 ?_
  intro T50 S51
  have f52 := (Fld.ext E40 (Fld.other W31 (Fld.ext E14 p2) (Or.inr (Er hw))))
  have f53 := (Exa.ext E40 (Exa.wr W31 f27))
  refine Db C S51 (ty := .byte) (host := "") (Or.inl (ow hw 42 rfl)) Via.refl f52 f53 (Or.inr ⟨(ow hw 43 rfl), rfl, rfl⟩) (ow hw 18 rfl) Cx rfl rfl ge_x (by decide +kernel) ?_
  intro T54 h56 S55 W57
  have f58 : Fld Z h56 x "java/lang/String" "coder" "B" (.int 0) := Fld.same W57 f52
  have SW59 := rb49 _ _ _ _ [x] [] S55 ((Keep.refl _ _).wr W57 (Ba 0)) (allS (Dc 0) all0) all0
  refine own_retVW CW SW59 (by decide +kernel) (by decide) (by decide) ?_
  have f60 := (Exa.wr W57 f53)
  have f61 := (Fld.other W57 (Fld.ext E40 f32) (Or.inr (Ep hw)))
  have f62 := (((f18.other W31 (Ne.symm (ne19 x (Dc 0)).2)).ext E40).other W57 (Ne.symm (ne19 x (Dc 0)).2))
  have f63 := (Exa.wr W57 (Exa.ext E40 (Exa.wr W31 x20)))
  exact ⟨b11, k12, rfl, (((((Keep.refl _ _).ext E14).wr W31 (Ba 0)).ext E40).wr W57 (Ba 0)), f60, f58, f61, f62, f63⟩
theorem own_se1 (hw : Aj a0 Z) (hEL : EW Z a0 Ca) (wS : ∀ a ∈ Bundle.stringAtoms, a.before a0 Z = true) (x : Addr) (y : Addr) (yk : ClassId) (yvs : List Value) (yd : Value) (h0 : Heap) (n0 : Nat) (z0 : n0 ≤ h0.size) (ge_x : n0 ≤ x) (p0 : Exa Z h0 x "java/lang/String") (p1 : Fld Z h0 x "java/lang/String" "value" "[B" .null) (p2 : Fld Z h0 x "java/lang/String" "coder" "B" (.int 0)) (yK : Arv Z h0 y yk .char (0 : Int32) yvs yd) :
    Cf l Z Ca (⟨"java/lang/String", "<init>", "([C)V"⟩ : MethodName) jdk_42_method_3_code 2 none ({ frames := 2, cells := 4, slots := 8, locals := 29 } : Room) n0 #[(.ref x), (.ref y)] h0 [x] (fun v h => ∃ t : Addr, ∃ tk : ClassId, v = none ∧ Keep h0 h [x] ∧ Exa Z h x "java/lang/String" ∧ Fld Z h x "java/lang/String" "coder" "B" (.int 0) ∧ Fld Z h x "java/lang/String" "value" "[B" (.ref t) ∧ Arv Z h t tk .byte (0 : Int32) ([]) (.int 0) ∧ Exa Z h t "[B") := by
  refine Cm hEL wS (by decide +kernel) #[.val (.ref x), .val (.ref y)] (fun m => by first | (simp [entryFrame, mkF, argsToLocals, Value.category]; done) | rfl) ?_
  intro p e s m below meth c T0 CW SW0
  refine Av CW SW0 ?_
  intro vm1 C S2 rb3
  refine Ac C S2 [(0, .aload_n 0, 1), (1, .aload_n 1, 1), (2, .iconst 0, 1), (3, .aload_n 1, 1)] 4 #[Ab x, Ab y] [.ref y, .int 0, .ref y, .ref x] ?_
  refine Au C S2 yK (by decide +kernel) ?_
  have SW4 := rb3 _ _ _ _ [] [] S2 (Keep.refl _ _) all0 all0
  refine Ac C S2 [(5, .aconst_null, 1)] 6 #[Ab x, Ab y] [.null, .int 0, .int 0, .ref y, .ref x] ?_
  refine own_callIW CW SW4 rfl (ow hw 23 rfl) (ow hw 24 rfl) (ow hw 19 rfl) (ow hw 26 rfl) (by decide) (own_se4 l Z a0 hw hEL wS x y h0 n0 z0 ge_x p0 p1 p2) (allS (Dc 0) all0) 0 (by decide) (by decide) [(.ref y), (.int 0), (.int 0), .null] [] rfl Eg rfl rfl rfl (Ak rfl) (by decide) (by decide) (by decide +kernel) ?_
  rintro T18 h19 v20 SW21 hg22 ⟨a5, k6, rfl, K7, f8, f9, f10, f11, f12⟩
  refine own_retVW CW SW21 (by decide +kernel) (by decide) (by decide) ?_
  exact ⟨a5, k6, rfl, ((Keep.refl _ _).trans K7 (allS (Ba 0) all0)), f8, f9, f10, f11, f12⟩
theorem Bw (hw : Aj a0 Z) (x : Int32) (h0 : Heap) (n0 : Nat) (z0 : n0 ≤ h0.size) (hx : Ag x) :
    Af l Z (⟨"com/example/torrey/torrey/Base64Url", "sextet", "(C)I"⟩ : MethodName) prog_1_method_5_code 1 (some .int) ({ frames := 0, cells := 0, slots := 0, locals := 0 } : Room) n0 #[(.int (Ad x))] h0 (fun v h => v = some (.int x) ∧ h = h0) := by
  refine Ar #[.val (.int (Ad x))] ?_
  intro p e s m below meth c T0 C S0
  have J57 : ∀ (T1 : State), Bo p l e ({ frames := 0, cells := 0, slots := 0, locals := 0 } : Room) s m #[(.int (Ad x))] below meth c n0 T1 h0 0 0 → (Ad x) < (65 : Int32) ∨ (90 : Int32) < (Ad x) → (Ad x) < (97 : Int32) ∨ (122 : Int32) < (Ad x) → (Ad x) < (48 : Int32) ∨ (57 : Int32) < (Ad x) → As p e below (Eb s n0 (fun v h => v = some (.int x) ∧ h = h0) ({ frames := 0, cells := 0, slots := 0, locals := 0 } : Room).cells ({ frames := 0, cells := 0, slots := 0, locals := 0 } : Room).slots) T1 (mkF m 57 #[Aa (Ad x)] []) := by
    intro T1 S2 h1 h2 h3
    refine Ac C S2 [(57, .iload_n 0, 1), (58, .bipush 45, 2)] 60 #[Aa (Ad x)] [.int 45, .int (Ad x)] ?_
    refine Bg C S2 .ne 6 66 (fun (q3 : ¬ (Ad x) = (45 : Int32)) => ?_) (fun (q4 : (Ad x) = (45 : Int32)) => ?_)
    · refine Ac C S2 [(66, .iload_n 0, 1), (67, .bipush 95, 2)] 69 #[Aa (Ad x)] [.int 95, .int (Ad x)] ?_
      refine Bg C S2 .ne 6 75 (fun (q5 : ¬ (Ad x) = (95 : Int32)) => ?_) (fun (q6 : (Ad x) = (95 : Int32)) => ?_)
      · exact absurd rfl (own_s6 hx h1 h2 h3 q3 q5)
      · refine Ac C S2 [(72, .bipush 63, 2)] 74 #[Aa (Ad x)] [.int 63] ?_
        refine Bq C S2 (by decide +kernel) (by decide) (by decide) ?_
        exact ⟨(by rw [own_s5 hx q6]), rfl⟩
    · refine Ac C S2 [(63, .bipush 62, 2)] 65 #[Aa (Ad x)] [.int 62] ?_
      refine Bq C S2 (by decide +kernel) (by decide) (by decide) ?_
      exact ⟨(by rw [own_s4 hx q4]), rfl⟩
  have J37 : ∀ (T7 : State), Bo p l e ({ frames := 0, cells := 0, slots := 0, locals := 0 } : Room) s m #[(.int (Ad x))] below meth c n0 T7 h0 0 0 → (Ad x) < (65 : Int32) ∨ (90 : Int32) < (Ad x) → (Ad x) < (97 : Int32) ∨ (122 : Int32) < (Ad x) → As p e below (Eb s n0 (fun v h => v = some (.int x) ∧ h = h0) ({ frames := 0, cells := 0, slots := 0, locals := 0 } : Room).cells ({ frames := 0, cells := 0, slots := 0, locals := 0 } : Room).slots) T7 (mkF m 37 #[Aa (Ad x)] []) := by
    intro T7 S8 h1 h2
    refine Ac C S8 [(37, .iload_n 0, 1), (38, .bipush 48, 2)] 40 #[Aa (Ad x)] [.int 48, .int (Ad x)] ?_
    refine Bg C S8 .lt 17 57 (fun (q9 : (Ad x) < (48 : Int32)) => ?_) (fun (q10 : ¬ (Ad x) < (48 : Int32)) => ?_)
    · exact J57 T7 S8 h1 h2 (Or.inl q9)
    · refine Ac C S8 [(43, .iload_n 0, 1), (44, .bipush 57, 2)] 46 #[Aa (Ad x)] [.int 57, .int (Ad x)] ?_
      refine Bg C S8 .gt 11 57 (fun (q11 : (57 : Int32) < (Ad x)) => ?_) (fun (q12 : ¬ (57 : Int32) < (Ad x)) => ?_)
      · exact J57 T7 S8 h1 h2 (Or.inr q11)
      · refine Ac C S8 [(49, .iload_n 0, 1), (50, .bipush 48, 2), (52, .isub, 1), (53, .bipush 52, 2), (55, .iadd, 1)] 56 #[Aa (Ad x)] [.int (((Ad x) - (48 : Int32)) + (52 : Int32))] ?_
        refine Bq C S8 (by decide +kernel) (by decide) (by decide) ?_
        exact ⟨(by rw [own_s3 hx q10 q12]), rfl⟩
  have J17 : ∀ (T13 : State), Bo p l e ({ frames := 0, cells := 0, slots := 0, locals := 0 } : Room) s m #[(.int (Ad x))] below meth c n0 T13 h0 0 0 → (Ad x) < (65 : Int32) ∨ (90 : Int32) < (Ad x) → As p e below (Eb s n0 (fun v h => v = some (.int x) ∧ h = h0) ({ frames := 0, cells := 0, slots := 0, locals := 0 } : Room).cells ({ frames := 0, cells := 0, slots := 0, locals := 0 } : Room).slots) T13 (mkF m 17 #[Aa (Ad x)] []) := by
    intro T13 S14 h1
    refine Ac C S14 [(17, .iload_n 0, 1), (18, .bipush 97, 2)] 20 #[Aa (Ad x)] [.int 97, .int (Ad x)] ?_
    refine Bg C S14 .lt 17 37 (fun (q15 : (Ad x) < (97 : Int32)) => ?_) (fun (q16 : ¬ (Ad x) < (97 : Int32)) => ?_)
    · exact J37 T13 S14 h1 (Or.inl q15)
    · refine Ac C S14 [(23, .iload_n 0, 1), (24, .bipush 122, 2)] 26 #[Aa (Ad x)] [.int 122, .int (Ad x)] ?_
      refine Bg C S14 .gt 11 37 (fun (q17 : (122 : Int32) < (Ad x)) => ?_) (fun (q18 : ¬ (122 : Int32) < (Ad x)) => ?_)
      · exact J37 T13 S14 h1 (Or.inr q17)
      · refine Ac C S14 [(29, .iload_n 0, 1), (30, .bipush 97, 2), (32, .isub, 1), (33, .bipush 26, 2), (35, .iadd, 1)] 36 #[Aa (Ad x)] [.int (((Ad x) - (97 : Int32)) + (26 : Int32))] ?_
        refine Bq C S14 (by decide +kernel) (by decide) (by decide) ?_
        exact ⟨(by rw [own_s2 hx q16 q18]), rfl⟩
  refine Ac C S0 [(0, .iload_n 0, 1), (1, .bipush 65, 2)] 3 #[Aa (Ad x)] [.int 65, .int (Ad x)] ?_
  refine Bg C S0 .lt 14 17 (fun (q19 : (Ad x) < (65 : Int32)) => ?_) (fun (q20 : ¬ (Ad x) < (65 : Int32)) => ?_)
  · exact J17 T0 S0  (Or.inl q19)
  · refine Ac C S0 [(6, .iload_n 0, 1), (7, .bipush 90, 2)] 9 #[Aa (Ad x)] [.int 90, .int (Ad x)] ?_
    refine Bg C S0 .gt 8 17 (fun (q21 : (90 : Int32) < (Ad x)) => ?_) (fun (q22 : ¬ (90 : Int32) < (Ad x)) => ?_)
    · exact J17 T0 S0  (Or.inr q21)
    · refine Ac C S0 [(12, .iload_n 0, 1), (13, .bipush 65, 2), (15, .isub, 1)] 16 #[Aa (Ad x)] [.int ((Ad x) - (65 : Int32))] ?_
      refine Bq C S0 (by decide +kernel) (by decide) (by decide) ?_
      exact ⟨(by rw [own_s1 hx q20 q22]), rfl⟩
theorem De (hw : Aj a0 Z) (x : Addr) (y : Addr) (h0 : Heap) (n0 : Nat) (z0 : n0 ≤ h0.size) :
    Af l Z (⟨"java/util/Objects", "requireNonNull", "(Ljava/lang/Object;Ljava/lang/String;)Ljava/lang/Object;"⟩ : MethodName) jdk_31_method_11_code 2 (some (.object "java/lang/Object")) ({ frames := 0, cells := 0, slots := 0, locals := 0 } : Room) n0 #[(.ref x), (.ref y)] h0 (fun v h => v = some (.ref x) ∧ h = h0) := by
  refine Ar #[.val (.ref x), .val (.ref y)] ?_
  intro p e s m below meth c T0 C S0
  refine Ac C S0 [(0, .aload_n 0, 1), (1, .ifnonnull 12, 3), (13, .aload_n 0, 1)] 14 #[Ab x, Ab y] [.ref x] ?_
  refine Az C S0 rfl rfl (by decide +kernel) (by decide) (by decide) ?_
  exact ⟨rfl, rfl⟩
theorem own_dl0 (hw : Aj a0 Z) (G1 : Int32) (G3 : Value) (U8 : Addr) (I8 : Addr) (TB : Addr) (TBk : ClassId) (DE : Addr) (b : Addr) (bk : ClassId) (h0 : Heap) (n0 : Nat) (z0 : n0 ≤ h0.size) (X00 : Old Z n0 h0) (TK : Arv Z h0 TB TBk .int 256 Bs (.int 0)) (DEx : Exa Z h0 DE "java/util/Base64$Decoder") (DEu : Fld Z h0 DE "java/util/Base64$Decoder" "isURL" "Z" (.int 1)) (DEm : Fld Z h0 DE "java/util/Base64$Decoder" "isMIME" "Z" (.int 0)) (b0 : Arv Z h0 b bk .byte (0 : Int32) ([]) (.int 0)) (b1 : Exa Z h0 b "[B") (XS : Ax Z n0 G1 G3 U8 I8 TB DE) :
    Af l Z (⟨"java/util/Base64$Decoder", "decodedOutLength", "([BII)I"⟩ : MethodName) jdk_2450_method_7_code 9 (some .int) ({ frames := 0, cells := 0, slots := 0, locals := 0 } : Room) n0 #[(.ref DE), (.ref b), (.int 0), (.int 0)] h0 (fun v h => v = some (.int 0) ∧ h = h0) := by
  refine Ar #[.val (.ref DE), .val (.ref b), .val (.int 0), .val (.int 0), .unset, .unset, .unset, .unset, .unset] ?_
  intro p e s m below meth c T0 C S0
  have XS_ := XS
  obtain ⟨O2, O4, P5, rG3, OU, OI, OT, OD, hUI, TBlt, DElt⟩ := XS_
  refine Ac C S0 [(0, .aload_n 0, 1)] 1 #[Ab DE, Ab b, Aa 0, Aa 0, .unset, .unset, .unset, .unset, .unset] [.ref DE] ?_
  refine Ch C S0 hw 178 DEu ?_
  intro T1 S2
  refine Ac C S2 [(4, .ifCond .eq 9, 3)] 7 #[Ab DE, Ab b, Aa 0, Aa 0, .unset, .unset, .unset, .unset, .unset] [] ?_
  refine Bi C S2 (ow hw 180 rfl) Via.refl (OT.ext X00.2) (by decide +kernel) ?_
  intro T3 S4
  refine Ac C S4 [(10, .goto 6, 3), (16, .astore 4, 2), (18, .iconst 0, 1), (19, .istore 5, 2), (21, .iload_n 3, 1), (22, .iload_n 2, 1), (23, .isub, 1), (24, .istore 6, 2), (26, .iload 6, 2), (28, .ifCond .ne 5, 3), (31, .iconst 0, 1)] 32 #[Ab DE, Ab b, Aa 0, Aa 0, Ab TB, Aa 0, Aa 0, .unset, .unset] [.int 0] ?_
  refine Bq C S4 (by decide +kernel) (by decide) (by decide) ?_
  exact ⟨rfl, rfl⟩
theorem own_d00 (hw : Aj a0 Z) (G1 : Int32) (G3 : Value) (U8 : Addr) (I8 : Addr) (TB : Addr) (TBk : ClassId) (DE : Addr) (b : Addr) (bk : ClassId) (d : Addr) (dk : ClassId) (h0 : Heap) (n0 : Nat) (z0 : n0 ≤ h0.size) (ge_d : n0 ≤ d) (X00 : Old Z n0 h0) (TK : Arv Z h0 TB TBk .int 256 Bs (.int 0)) (DEx : Exa Z h0 DE "java/util/Base64$Decoder") (DEu : Fld Z h0 DE "java/util/Base64$Decoder" "isURL" "Z" (.int 1)) (DEm : Fld Z h0 DE "java/util/Base64$Decoder" "isMIME" "Z" (.int 0)) (b0 : Arv Z h0 b bk .byte (0 : Int32) ([]) (.int 0)) (b1 : Exa Z h0 b "[B") (dK : Arv Z h0 d dk .byte (0 : Int32) ([]) (.int 0)) (ne_b_d : b ≠ d) (XS : Ax Z n0 G1 G3 U8 I8 TB DE) :
    Af l Z (⟨"java/util/Base64$Decoder", "decode0", "([BII[B)I"⟩ : MethodName) jdk_2450_method_9_code 11 (some .int) ({ frames := 0, cells := 0, slots := 0, locals := 0 } : Room) n0 #[(.ref DE), (.ref b), (.int 0), (.int 0), (.ref d)] h0 (fun v h => v = some (.int 0) ∧ Keep h0 h [d] ∧ Arv Z h d dk .byte (0 : Int32) ([]) (.int 0)) := by
  refine Ar #[.val (.ref DE), .val (.ref b), .val (.int 0), .val (.int 0), .val (.ref d), .unset, .unset, .unset, .unset, .unset, .unset] ?_
  intro p e s m below meth c T0 C S0
  have XS_ := XS
  obtain ⟨O2, O4, P5, rG3, OU, OI, OT, OD, hUI, TBlt, DElt⟩ := XS_
  refine Ac C S0 [(0, .aload_n 0, 1)] 1 #[Ab DE, Ab b, Aa 0, Aa 0, Ab d, .unset, .unset, .unset, .unset, .unset, .unset] [.ref DE] ?_
  refine Ch C S0 hw 178 DEu ?_
  intro T1 S2
  refine Ac C S2 [(4, .ifCond .eq 9, 3)] 7 #[Ab DE, Ab b, Aa 0, Aa 0, Ab d, .unset, .unset, .unset, .unset, .unset, .unset] [] ?_
  refine Bi C S2 (ow hw 180 rfl) Via.refl (OT.ext X00.2) (by decide +kernel) ?_
  intro T3 S4
  refine Ac C S4 [(10, .goto 6, 3), (16, .astore 5, 2), (18, .iconst 0, 1), (19, .istore 6, 2), (21, .iconst 0, 1), (22, .istore 7, 2), (24, .bipush 18, 2), (26, .istore 8, 2), (28, .iload_n 2, 1), (29, .iload_n 3, 1), (30, .if_icmp .ge 251, 3), (281, .iload 8, 2), (283, .bipush 6, 2), (285, .if_icmp .ne 20, 3), (305, .iload 8, 2), (307, .ifCond .ne 34, 3), (341, .iload 8, 2), (343, .bipush 12, 2), (345, .if_icmp .ne 13, 3), (358, .iload_n 2, 1), (359, .iload_n 3, 1), (360, .if_icmp .ge 56, 3), (416, .iload 6, 2)] 418 #[Ab DE, Ab b, Aa 0, Aa 0, Ab d, Ab TB, Aa 0, Aa 0, Aa 18, .unset, .unset] [.int 0] ?_
  refine Bq C S4 (by decide +kernel) (by decide) (by decide) ?_
  exact ⟨rfl, (Keep.refl _ _), dK⟩
theorem Eh : parseMethodDescriptor "([BII)I" = some ⟨[(.array .byte), .int, .int], (some .int)⟩ := by decide +kernel
theorem Ei : parseMethodDescriptor "([BII[B)I" = some ⟨[(.array .byte), .int, .int, (.array .byte)], (some .int)⟩ := by decide +kernel
theorem own_da0 (hw : Aj a0 Z) (G1 : Int32) (G3 : Value) (U8 : Addr) (I8 : Addr) (TB : Addr) (TBk : ClassId) (DE : Addr) (b : Addr) (bk : ClassId) (h0 : Heap) (n0 : Nat) (z0 : n0 ≤ h0.size) (X00 : Old Z n0 h0) (TK : Arv Z h0 TB TBk .int 256 Bs (.int 0)) (DEx : Exa Z h0 DE "java/util/Base64$Decoder") (DEu : Fld Z h0 DE "java/util/Base64$Decoder" "isURL" "Z" (.int 1)) (DEm : Fld Z h0 DE "java/util/Base64$Decoder" "isMIME" "Z" (.int 0)) (b0 : Arv Z h0 b bk .byte (0 : Int32) ([]) (.int 0)) (b1 : Exa Z h0 b "[B") (XS : Ax Z n0 G1 G3 U8 I8 TB DE) :
    Af l Z (⟨"java/util/Base64$Decoder", "decode", "([B)[B"⟩ : MethodName) jdk_2450_method_2_code 4 (some (.array .byte)) ({ frames := 1, cells := 1, slots := 0, locals := 22 } : Room) n0 #[(.ref DE), (.ref b)] h0 (fun v h => ∃ r : Addr, ∃ rk : ClassId, v = some (.ref r) ∧ h0.size ≤ r ∧ Keep h0 h [] ∧ Arv Z h r rk .byte (0 : Int32) ([]) (.int 0)) := by
  refine Ar #[.val (.ref DE), .val (.ref b), .unset, .unset] ?_
  intro p e s m below meth c T0 C S0
  have XS_ := XS
  obtain ⟨O2, O4, P5, rG3, OU, OI, OT, OD, hUI, TBlt, DElt⟩ := XS_
  refine Ac C S0 [(0, .aload_n 0, 1), (1, .aload_n 1, 1), (2, .iconst 0, 1), (3, .aload_n 1, 1)] 4 #[Ab DE, Ab b, .unset, .unset] [.ref b, .int 0, .ref b, .ref DE] ?_
  refine Au C S0 b0 (by decide +kernel) ?_
  refine Co C S0 (ow hw 173 rfl) (ow hw 174 rfl) (ow hw 176 rfl) (ow hw 175 rfl) (ow hw 177 rfl) (by decide) (Af.pay (own_dl0 l Z a0 hw G1 G3 U8 I8 TB TBk DE b _ h0 n0 z0 X00 TK DEx DEu DEm b0 b1 XS) C 0 (ow hw 177 rfl) (ow hw 138 rfl) (by decide) (by decide)) (fun _ _ _ q => q.2) DEx [.ref b, .int 0, .int 0] [] rfl Eh rfl rfl rfl (Ak rfl) (by decide) (by decide) (by decide +kernel) ?_
  rintro T2 h3 v4 L5 S6 ⟨⟨rfl, e1⟩, -⟩
  rw [e1] at S6; clear e1
  refine Cp C S6 (aty := .byte) (ad := "[B") (by decide) (ow hw 35 rfl) (by decide +kernel) (by decide) 0 (by decide) (by decide) (by decide) (by decide) ?_
  intro T7 h9 a10 k11 S8 g12 E13 f14 x15
  have f16 : Arv Z h9 a10 k11 .byte (0 : Int32) ([]) (.int 0) := Arv.pad f14 (pad_rep [] (.int 0) 0)
  refine Ac C S8 [(10, .astore_n 2, 1), (11, .aload_n 0, 1), (12, .aload_n 1, 1), (13, .iconst 0, 1), (14, .aload_n 1, 1)] 15 #[Ab DE, Ab b, Ab a10, .unset] [.ref b, .int 0, .ref b, .ref DE] ?_
  have f17 := (b0.ext E13)
  refine Au C S8 f17 (by decide +kernel) ?_
  refine Ac C S8 [(16, .aload_n 2, 1)] 17 #[Ab DE, Ab b, Ab a10, .unset] [.ref a10, .int 0, .int 0, .ref b, .ref DE] ?_
  have f18 := (X00.ext E13)
  have f19 := (TK.ext E13)
  have f20 := (Exa.ext E13 DEx)
  have f21 := (Fld.ext E13 DEu)
  have f22 := (Fld.ext E13 DEm)
  have f23 := (Exa.ext E13 b1)
  have f24 : n0 ≤ h9.size := (Nat.le_trans z0 E13.1)
  have g25 : n0 ≤ a10 := by rw [g12]; exact z0
  have n26 : b ≠ a10 := by rw [g12]; exact Nat.ne_of_lt b0.lt
  refine Co C S8 (ow hw 185 rfl) (ow hw 186 rfl) (ow hw 188 rfl) (ow hw 187 rfl) (ow hw 189 rfl) (by decide) (Af.pay (own_d00 l Z a0 hw G1 G3 U8 I8 TB TBk DE b _ a10 _ h9 n0 f24 g25 f18 f19 f20 f21 f22 f17 f23 f16 n26 XS) C 0 (ow hw 189 rfl) (ow hw 138 rfl) (by decide) (by decide)) (fun _ _ _ q => q.2) f20 [.ref b, .int 0, .int 0, .ref a10] [] rfl Ei rfl rfl rfl (Ak rfl) (by decide) (by decide) (by decide +kernel) ?_
  rintro T29 h30 v31 L32 S33 ⟨⟨rfl, K27, f28⟩, -⟩
  refine Ac C S33 [(20, .istore_n 3, 1), (21, .iload_n 3, 1), (22, .aload_n 2, 1)] 23 #[Ab DE, Ab b, Ab a10, Aa 0] [.ref a10, .int 0] ?_
  refine Au C S33 f28 (by decide +kernel) ?_
  refine Ac C S33 [(24, .if_icmp .eq 9, 3), (33, .aload_n 2, 1)] 34 #[Ab DE, Ab b, Ab a10, Aa 0] [.ref a10] ?_
  refine Az C S33 rfl rfl (by decide +kernel) (by decide) (by decide) ?_
  have o34 : h0.size ≤ a10 := by rw [g12]; exact (Nat.le_refl _)
  exact ⟨a10, k11, rfl, o34, (((Keep.refl _ _).ext E13).trans K27 (allS (Or.inr o34) all0)), f28⟩
theorem Ej : parseMethodDescriptor "(Ljava/nio/charset/Charset;)[B" = some ⟨[(.object "java/nio/charset/Charset")], (some (.array .byte))⟩ := by decide +kernel
theorem Ek : parseMethodDescriptor "([B)[B" = some ⟨[(.array .byte)], (some (.array .byte))⟩ := by decide +kernel
theorem own_ds0 (hw : Aj a0 Z) (G1 : Int32) (G3 : Value) (U8 : Addr) (I8 : Addr) (TB : Addr) (TBk : ClassId) (DE : Addr) (x : Addr) (xt : Addr) (xtk : ClassId) (h0 : Heap) (n0 : Nat) (z0 : n0 ≤ h0.size) (X00 : Old Z n0 h0) (TK : Arv Z h0 TB TBk .int 256 Bs (.int 0)) (DEx : Exa Z h0 DE "java/util/Base64$Decoder") (DEu : Fld Z h0 DE "java/util/Base64$Decoder" "isURL" "Z" (.int 1)) (DEm : Fld Z h0 DE "java/util/Base64$Decoder" "isMIME" "Z" (.int 0)) (s0 : Exa Z h0 x "java/lang/String") (s1 : Fld Z h0 x "java/lang/String" "value" "[B" (.ref xt)) (s2 : Fld Z h0 x "java/lang/String" "coder" "B" (.int 0)) (s3 : Arv Z h0 xt xtk .byte (0 : Int32) ([]) (.int 0)) (s4 : Exa Z h0 xt "[B") (XS : Ax Z n0 G1 G3 U8 I8 TB DE) :
    Af l Z (⟨"java/util/Base64$Decoder", "decode", "(Ljava/lang/String;)[B"⟩ : MethodName) jdk_2450_method_3_code 2 (some (.array .byte)) ({ frames := 5, cells := 2, slots := 8, locals := 76 } : Room) n0 #[(.ref DE), (.ref x)] h0 (fun v h => ∃ r : Addr, ∃ rk : ClassId, v = some (.ref r) ∧ h0.size ≤ r ∧ Keep h0 h [] ∧ Arv Z h r rk .byte (0 : Int32) ([]) (.int 0)) := by
  refine Ar #[.val (.ref DE), .val (.ref x)] ?_
  intro p e s m below meth c T0 C S0
  have XS_ := XS
  obtain ⟨O2, O4, P5, rG3, OU, OI, OT, OD, hUI, TBlt, DElt⟩ := XS_
  refine Ac C S0 [(0, .aload_n 0, 1), (1, .aload_n 1, 1)] 2 #[Ab DE, Ab x] [.ref x, .ref DE] ?_
  refine Bi C S0 (ow hw 140 rfl) Via.refl (OI.ext X00.2) (by decide +kernel) ?_
  intro T1 S2
  refine Ah C S2 hw 142 143 145 145 144 146 19 (Fk l Z a0 hw G1 G3 U8 I8 TB DE x _ _ _ _ h0 n0 z0 X00 s0 s1 s2 s3 s4 XS (Ak rfl)) 1 s0 [.ref I8] [.ref DE] Ej ?_
  rintro T8 h9 v10 L11 S12 ⟨⟨a3, rfl, g4, K5, f6, f7⟩, -⟩
  have f13 := (X00.keep K5 all0)
  have f14 := (TK.keep K5 nin0)
  have f15 := (DEx.keep K5)
  have f16 := (DEu.keep K5 nin0)
  have f17 := (DEm.keep K5 nin0)
  have f18 : n0 ≤ h9.size := (Nat.le_trans z0 K5.1)
  refine Ah C S12 hw 168 169 171 171 170 172 138 (own_da0 l Z a0 hw G1 G3 U8 I8 TB TBk DE a3 _ h9 n0 f18 f13 f14 f15 f16 f17 f6 f7 XS) 0 f15 [.ref a3] [] Ek ?_
  rintro T24 h25 v26 L27 S28 ⟨⟨a19, k20, rfl, g21, K22, f23⟩, -⟩
  refine Az C S28 rfl rfl (by decide +kernel) (by decide) (by decide) ?_
  have o30 : h0.size ≤ h9.size := (Nat.le_trans (Nat.le_refl _) K5.1)
  have o29 : h0.size ≤ a19 := Nat.le_trans o30 g21
  exact ⟨a19, k20, rfl, o29, (((Keep.refl _ _).trans K5 all0).trans K22 all0), f23⟩
theorem Cv : parseMethodDescriptor "(Ljava/lang/Object;Ljava/lang/String;)Ljava/lang/Object;" = some ⟨[(.object "java/lang/Object"), (.object "java/lang/String")], (some (.object "java/lang/Object"))⟩ := by decide +kernel
theorem Al : parseMethodDescriptor "()I" = some ⟨[], (some .int)⟩ := by decide +kernel
theorem Cb : parseMethodDescriptor "(Ljava/lang/String;)[B" = some ⟨[(.object "java/lang/String")], (some (.array .byte))⟩ := by decide +kernel
theorem own_du0 (hw : Aj a0 Z) (hEL : EW Z a0 Ca) (wS : ∀ a ∈ Bundle.stringAtoms, a.before a0 Z = true) (G1 : Int32) (G3 : Value) (U8 : Addr) (I8 : Addr) (TB : Addr) (TBk : ClassId) (DE : Addr) (x : Addr) (xt : Addr) (xtk : ClassId) (h0 : Heap) (n0 : Nat) (z0 : n0 ≤ h0.size) (X00 : Old Z n0 h0) (TK : Arv Z h0 TB TBk .int 256 Bs (.int 0)) (DEx : Exa Z h0 DE "java/util/Base64$Decoder") (DEu : Fld Z h0 DE "java/util/Base64$Decoder" "isURL" "Z" (.int 1)) (DEm : Fld Z h0 DE "java/util/Base64$Decoder" "isMIME" "Z" (.int 0)) (s0 : Exa Z h0 x "java/lang/String") (s1 : Fld Z h0 x "java/lang/String" "value" "[B" (.ref xt)) (s2 : Fld Z h0 x "java/lang/String" "coder" "B" (.int 0)) (s3 : Arv Z h0 xt xtk .byte (0 : Int32) ([]) (.int 0)) (s4 : Exa Z h0 xt "[B") (XS : Ax Z n0 G1 G3 U8 I8 TB DE) :
    Cf l Z Ca (⟨"com/example/torrey/torrey/Base64Url", "decode", "(Ljava/lang/String;)[B"⟩ : MethodName) prog_1_method_3_code 3 (some (.array .byte)) ({ frames := 6, cells := 4, slots := 28, locals := 89 } : Room) n0 #[(.ref x)] h0 [] (fun v h => ∃ r : Addr, ∃ rk : ClassId, v = some (.ref r) ∧ h0.size ≤ r ∧ Keep h0 h [] ∧ Arv Z h r rk .byte (0 : Int32) ([]) (.int 0)) := by
  refine Cm hEL wS (by decide +kernel) #[.val (.ref x), .unset, .unset] (fun m => by first | (simp [entryFrame, mkF, argsToLocals, Value.category]; done) | rfl) ?_
  intro p e s m below meth c T0 CW SW0
  have XS_ := XS
  obtain ⟨O2, O4, P5, rG3, OU, OI, OT, OD, hUI, TBlt, DElt⟩ := XS_
  refine Av CW SW0 ?_
  intro vm1 C S2 rb3
  refine Ac C S2 [(0, .aload_n 0, 1)] 1 #[Ab x, .unset, .unset] [.ref x] ?_
  have SW4 := rb3 _ _ _ _ [] [] S2 (Keep.refl _ _) all0 all0
  refine Cu CW SW4 (ow hw 50 rfl) (by decide +kernel) 16 (by decide) (by decide) (by decide) (by decide) ?_
  intro T5 h6 a7 SW8 E9
  have f10 : n0 ≤ h6.size := (Nat.le_trans z0 E9.1)
  refine Av CW SW8 ?_
  intro vm17 C S18 rb19
  refine Ae C S18 hw 53 54 55 56 (De l Z a0 hw x a7 h6 n0 f10) 0 [.ref x, .ref a7] [] Cv ?_
  rintro T12 h13 v14 L15 S16 ⟨⟨rfl, e11⟩, -⟩
  rw [e11] at S16; clear e11
  refine Ac C S16 [(6, .pop, 1), (7, .iconst 0, 1), (8, .istore_n 1, 1), (9, .iload_n 1, 1), (10, .aload_n 0, 1)] 11 #[Ab x, Aa 0, .unset] [.ref x, .int 0] ?_
  have f20 := (X00.ext E9)
  have f21 := (Exa.ext E9 s0)
  have f22 := (Fld.ext E9 s1)
  have f23 := (Fld.ext E9 s2)
  have f24 := (s3.ext E9)
  refine Ah C S16 hw 57 58 60 60 59 61 19 (At l Z a0 hw G1 G3 x _ _ _ _ h6 n0 f10 f20 f21 f22 f23 f24 O2 O4 P5 rG3) 1 f21 [] [.int 0] Al ?_
  rintro T26 h27 v28 L29 S30 ⟨⟨rfl, e25⟩, -⟩
  rw [e25] at S30; clear e25
  refine Ac C S30 [(14, .if_icmp .ge 39, 3), (53, .aload_n 0, 1)] 54 #[Ab x, Aa 0, .unset] [.ref x] ?_
  refine Ah C S30 hw 57 58 60 60 59 61 19 (At l Z a0 hw G1 G3 x _ _ _ _ h6 n0 f10 f20 f21 f22 f23 f24 O2 O4 P5 rG3) 0 f21 [] [] Al ?_
  rintro T32 h33 v34 L35 S36 ⟨⟨rfl, e31⟩, -⟩
  rw [e31] at S36; clear e31
  refine Ac C S36 [(57, .iconst 1, 1), (58, .isub, 1), (59, .istore_n 1, 1), (60, .aload_n 0, 1)] 61 #[Ab x, Aa (-1), .unset] [.ref x] ?_
  refine Ah C S36 hw 57 58 60 60 59 61 19 (At l Z a0 hw G1 G3 x _ _ _ _ h6 n0 f10 f20 f21 f22 f23 f24 O2 O4 P5 rG3) 0 f21 [] [] Al ?_
  rintro T38 h39 v40 L41 S42 ⟨⟨rfl, e37⟩, -⟩
  rw [e37] at S42; clear e37
  refine Ac C S42 [(64, .iconst 4, 1)] 65 #[Ab x, Aa (-1), .unset] [.int 4, .int 0] ?_
  refine Dj C S42 (by decide +kernel) (by decide) ?_
  refine own_tso C S42 (df := 53) (lo := 1) (hi := 3) (offs := #[26, 45, 49]) (len := 26) (by decide +kernel) (by decide) (by decide) 119 (by decide) ?_
  refine Ac C S42 [(119, .iconst 0, 1), (120, .istore_n 2, 1), (121, .iload_n 2, 1), (122, .ifCond .le 39, 3)] 161 #[Ab x, Aa (-1), Aa 0] [] ?_
  refine Bi C S42 (ow hw 132 rfl) Via.refl (OD.ext f20.2) (by decide +kernel) ?_
  intro T43 S44
  refine Ac C S44 [(164, .aload_n 0, 1)] 165 #[Ab x, Aa (-1), Aa 0] [.ref x, .ref DE] ?_
  have f45 := (TK.ext E9)
  have f46 := (Exa.ext E9 DEx)
  have f47 := (Fld.ext E9 DEu)
  have f48 := (Fld.ext E9 DEm)
  have f49 := (Exa.ext E9 s4)
  refine Ah C S44 hw 134 135 137 137 136 139 138 (own_ds0 l Z a0 hw G1 G3 U8 I8 TB TBk DE x _ _ h6 n0 f10 f20 f45 f46 f47 f48 f21 f22 f23 f24 f49 XS) 0 f46 [.ref x] [] Cb ?_
  rintro T55 h56 v57 L58 S59 ⟨⟨a50, k51, rfl, g52, K53, f54⟩, -⟩
  have o60 : h6.size ≤ a50 := Nat.le_trans (Nat.le_refl _) g52
  have SW61 := rb19 _ _ _ _ [] [a50] S59 ((Keep.refl _ _).trans K53 all0) all0 (allS ⟨o60, f54.lt⟩ all0)
  refine Ck CW SW61 rfl rfl (by decide +kernel) (by decide) (by decide) ?_
  have o63 : h0.size ≤ h6.size := (Nat.le_trans (Nat.le_refl _) E9.1)
  have o62 : h0.size ≤ a50 := Nat.le_trans o63 g52
  exact ⟨a50, k51, rfl, o62, (((Keep.refl _ _).ext E9).trans K53 all0), f54⟩
theorem own_dl2 (hw : Aj a0 Z) (G1 : Int32) (G3 : Value) (U8 : Addr) (I8 : Addr) (TB : Addr) (TBk : ClassId) (DE : Addr) (b : Addr) (bk : ClassId) (x0 : Int32) (x1 : Int32) (h0 : Heap) (n0 : Nat) (z0 : n0 ≤ h0.size) (X00 : Old Z n0 h0) (TK : Arv Z h0 TB TBk .int 256 Bs (.int 0)) (DEx : Exa Z h0 DE "java/util/Base64$Decoder") (DEu : Fld Z h0 DE "java/util/Base64$Decoder" "isURL" "Z" (.int 1)) (DEm : Fld Z h0 DE "java/util/Base64$Decoder" "isMIME" "Z" (.int 0)) (b0 : Arv Z h0 b bk .byte (2 : Int32) ([(.int ((Ad x0).toInt8.toInt32)), (.int ((Ad x1).toInt8.toInt32))]) (.int 0)) (b1 : Exa Z h0 b "[B") (XS : Ax Z n0 G1 G3 U8 I8 TB DE) (hx0 : Ag x0) (hx1 : Ag x1) :
    Af l Z (⟨"java/util/Base64$Decoder", "decodedOutLength", "([BII)I"⟩ : MethodName) jdk_2450_method_7_code 9 (some .int) ({ frames := 0, cells := 0, slots := 0, locals := 0 } : Room) n0 #[(.ref DE), (.ref b), (.int 0), (.int 2)] h0 (fun v h => v = some (.int 1) ∧ h = h0) := by
  refine Ar #[.val (.ref DE), .val (.ref b), .val (.int 0), .val (.int 2), .unset, .unset, .unset, .unset, .unset] ?_
  intro p e s m below meth c T0 C S0
  have XS_ := XS
  obtain ⟨O2, O4, P5, rG3, OU, OI, OT, OD, hUI, TBlt, DElt⟩ := XS_
  refine Ac C S0 [(0, .aload_n 0, 1)] 1 #[Ab DE, Ab b, Aa 0, Aa 2, .unset, .unset, .unset, .unset, .unset] [.ref DE] ?_
  refine Ch C S0 hw 178 DEu ?_
  intro T1 S2
  refine Ac C S2 [(4, .ifCond .eq 9, 3)] 7 #[Ab DE, Ab b, Aa 0, Aa 2, .unset, .unset, .unset, .unset, .unset] [] ?_
  refine Bi C S2 (ow hw 180 rfl) Via.refl (OT.ext X00.2) (by decide +kernel) ?_
  intro T3 S4
  refine Ac C S4 [(10, .goto 6, 3), (16, .astore 4, 2), (18, .iconst 0, 1), (19, .istore 5, 2), (21, .iload_n 3, 1), (22, .iload_n 2, 1), (23, .isub, 1), (24, .istore 6, 2), (26, .iload 6, 2), (28, .ifCond .ne 5, 3), (33, .iload 6, 2), (35, .iconst 2, 1), (36, .if_icmp .ge 30, 3), (66, .aload_n 0, 1)] 67 #[Ab DE, Ab b, Aa 0, Aa 2, Ab TB, Aa 0, Aa 2, .unset, .unset] [.ref DE] ?_
  refine Ch C S4 hw 181 DEm ?_
  intro T5 S6
  refine Ac C S6 [(70, .ifCond .eq 71, 3), (141, .aload_n 1, 1), (142, .iload_n 3, 1), (143, .iconst 1, 1), (144, .isub, 1)] 145 #[Ab DE, Ab b, Aa 0, Aa 2, Ab TB, Aa 0, Aa 2, .unset, .unset] [.int 1, .ref b] ?_
  refine Bb C S6 b0 ⟨(by decide), (by decide)⟩ (.int ((Ad x1).toInt8.toInt32)) rfl (by decide +kernel) ?_
  refine Ac C S6 [(146, .bipush 61, 2)] 148 #[Ab DE, Ab b, Aa 0, Aa 2, Ab TB, Aa 0, Aa 2, .unset, .unset] [.int 61, .int ((Ad x1).toInt8.toInt32)] ?_
  refine Bg C S6 .ne 19 167 (fun (q7 : ¬ ((Ad x1).toInt8.toInt32) = (61 : Int32)) => ?_) (fun (hq : ((Ad x1).toInt8.toInt32) = (61 : Int32)) => False.elim (Fe hx1 hq))
  refine Ac C S6 [(167, .iload 5, 2), (169, .ifCond .ne 18, 3), (172, .iload 6, 2), (174, .iconst 3, 1), (175, .iand, 1), (176, .ifCond .eq 11, 3), (179, .iconst 4, 1), (180, .iload 6, 2), (182, .iconst 3, 1), (183, .iand, 1), (184, .isub, 1), (185, .istore 5, 2), (187, .iconst 3, 1), (188, .iload 6, 2), (190, .i2l, 1)] 191 #[Ab DE, Ab b, Aa 0, Aa 2, Ab TB, Aa 2, Aa 2, .unset, .unset] [.long ((2 : Int32).toInt64), .int 3] ?_
  refine Dd C S6 (ow hw 183 rfl) (by decide +kernel) ?_
  refine Ac C S6 [(194, .ladd, 1)] 195 #[Ab DE, Ab b, Aa 0, Aa 2, Ab TB, Aa 2, Aa 2, .unset, .unset] [.long ((2 : Int32).toInt64 + 3), .int 3] ?_
  refine Dd C S6 (ow hw 184 rfl) (by decide +kernel) ?_
  refine Ew C S6 (by decide +kernel) (by decide) ?_
  rw [show (((2 : Int32).toInt64 + 3) / 4) = (1 : Int64) from (by decide)]
  refine Ac C S6 [(199, .l2i, 1), (200, .imul, 1), (201, .iload 5, 2), (203, .isub, 1)] 204 #[Ab DE, Ab b, Aa 0, Aa 2, Ab TB, Aa 2, Aa 2, .unset, .unset] [.int (((3 : Int32) * (1 : Int64).toInt32) - (2 : Int32))] ?_
  rw [show (((3 : Int32) * (1 : Int64).toInt32) - (2 : Int32)) = (1 : Int32) from (by decide)]
  refine Bq C S6 (by decide +kernel) (by decide) (by decide) ?_
  exact ⟨rfl, rfl⟩
theorem own_d02 (hw : Aj a0 Z) (G1 : Int32) (G3 : Value) (U8 : Addr) (I8 : Addr) (TB : Addr) (TBk : ClassId) (DE : Addr) (b : Addr) (bk : ClassId) (d : Addr) (dk : ClassId) (x0 : Int32) (x1 : Int32) (h0 : Heap) (n0 : Nat) (z0 : n0 ≤ h0.size) (ge_d : n0 ≤ d) (X00 : Old Z n0 h0) (TK : Arv Z h0 TB TBk .int 256 Bs (.int 0)) (DEx : Exa Z h0 DE "java/util/Base64$Decoder") (DEu : Fld Z h0 DE "java/util/Base64$Decoder" "isURL" "Z" (.int 1)) (DEm : Fld Z h0 DE "java/util/Base64$Decoder" "isMIME" "Z" (.int 0)) (b0 : Arv Z h0 b bk .byte (2 : Int32) ([(.int ((Ad x0).toInt8.toInt32)), (.int ((Ad x1).toInt8.toInt32))]) (.int 0)) (b1 : Exa Z h0 b "[B") (dK : Arv Z h0 d dk .byte (1 : Int32) ([(.int 0)]) (.int 0)) (ne_b_d : b ≠ d) (XS : Ax Z n0 G1 G3 U8 I8 TB DE) (hx0 : Ag x0) (hx1 : Ag x1) :
    Af l Z (⟨"java/util/Base64$Decoder", "decode0", "([BII[B)I"⟩ : MethodName) jdk_2450_method_9_code 11 (some .int) ({ frames := 0, cells := 0, slots := 0, locals := 0 } : Room) n0 #[(.ref DE), (.ref b), (.int 0), (.int 2), (.ref d)] h0 (fun v h => v = some (.int 1) ∧ Keep h0 h [d] ∧ Arv Z h d dk .byte (1 : Int32) ([(.int (Ay (Dg x0 x1)))]) (.int 0)) := by
  refine Ar #[.val (.ref DE), .val (.ref b), .val (.int 0), .val (.int 2), .val (.ref d), .unset, .unset, .unset, .unset, .unset, .unset] ?_
  intro p e s m below meth c T0 C S0
  have XS_ := XS
  obtain ⟨O2, O4, P5, rG3, OU, OI, OT, OD, hUI, TBlt, DElt⟩ := XS_
  refine Ac C S0 [(0, .aload_n 0, 1)] 1 #[Ab DE, Ab b, Aa 0, Aa 2, Ab d, .unset, .unset, .unset, .unset, .unset, .unset] [.ref DE] ?_
  refine Ch C S0 hw 178 DEu ?_
  intro T1 S2
  refine Ac C S2 [(4, .ifCond .eq 9, 3)] 7 #[Ab DE, Ab b, Aa 0, Aa 2, Ab d, .unset, .unset, .unset, .unset, .unset, .unset] [] ?_
  refine Bi C S2 (ow hw 180 rfl) Via.refl (OT.ext X00.2) (by decide +kernel) ?_
  intro T3 S4
  refine Ac C S4 [(10, .goto 6, 3), (16, .astore 5, 2), (18, .iconst 0, 1), (19, .istore 6, 2), (21, .iconst 0, 1), (22, .istore 7, 2), (24, .bipush 18, 2), (26, .istore 8, 2), (28, .iload_n 2, 1), (29, .iload_n 3, 1), (30, .if_icmp .ge 251, 3), (33, .iload 8, 2), (35, .bipush 18, 2), (37, .if_icmp .ne 53, 3), (40, .iload_n 2, 1), (41, .iload_n 3, 1), (42, .iconst 4, 1), (43, .isub, 1), (44, .if_icmp .ge 46, 3), (90, .iload_n 2, 1), (91, .iload_n 3, 1), (92, .if_icmp .lt 6, 3), (98, .aload_n 1, 1), (99, .iload_n 2, 1), (100, .iinc 2 1, 3)] 103 #[Ab DE, Ab b, Aa 1, Aa 2, Ab d, Ab TB, Aa 0, Aa 0, Aa 18, .unset, .unset] [.int 0, .ref b] ?_
  refine Bb C S4 b0 ⟨(by decide), (by decide)⟩ (.int ((Ad x0).toInt8.toInt32)) rfl (by decide +kernel) ?_
  refine Ac C S4 [(104, .sipush 255, 3), (107, .iand, 1), (108, .istore 9, 2), (110, .aload 5, 2), (112, .iload 9, 2)] 114 #[Ab DE, Ab b, Aa 1, Aa 2, Ab d, Ab TB, Aa 0, Aa 0, Aa 18, Aa ((Ad x0).toInt8.toInt32 &&& (255 : Int32)), .unset] [.int ((Ad x0).toInt8.toInt32 &&& (255 : Int32)), .ref TB] ?_
  refine Bl C S4 TK (Cr hx0) (.int x0) (Cq hx0) (by decide +kernel) ?_
  refine Ac C S4 [(115, .dup, 1), (116, .istore 9, 2)] 118 #[Ab DE, Ab b, Aa 1, Aa 2, Ab d, Ab TB, Aa 0, Aa 0, Aa 18, Aa x0, .unset] [.int x0] ?_
  refine Bh C S4 .ge 96 214 (fun (q5 : ¬ x0 < (0 : Int32)) => ?_) (fun (hq : x0 < (0 : Int32)) => False.elim (Cd hx0 hq))
  refine Ac C S4 [(214, .iload 7, 2), (216, .iload 9, 2), (218, .iload 8, 2), (220, .ishl, 1), (221, .ior, 1), (222, .istore 7, 2), (224, .iinc 8 (-6), 3), (227, .iload 8, 2), (229, .ifCond .ge 49, 3), (278, .goto (-250), 3), (28, .iload_n 2, 1), (29, .iload_n 3, 1), (30, .if_icmp .ge 251, 3), (33, .iload 8, 2), (35, .bipush 18, 2), (37, .if_icmp .ne 53, 3), (90, .iload_n 2, 1), (91, .iload_n 3, 1), (92, .if_icmp .lt 6, 3), (98, .aload_n 1, 1), (99, .iload_n 2, 1), (100, .iinc 2 1, 3)] 103 #[Ab DE, Ab b, Aa 2, Aa 2, Ab d, Ab TB, Aa 0, Aa ((0 : Int32) ||| (x0 <<< ((18 : Int32) &&& 31))), Aa 12, Aa x0, .unset] [.int 1, .ref b] ?_
  refine Bb C S4 b0 ⟨(by decide), (by decide)⟩ (.int ((Ad x1).toInt8.toInt32)) rfl (by decide +kernel) ?_
  refine Ac C S4 [(104, .sipush 255, 3), (107, .iand, 1), (108, .istore 9, 2), (110, .aload 5, 2), (112, .iload 9, 2)] 114 #[Ab DE, Ab b, Aa 2, Aa 2, Ab d, Ab TB, Aa 0, Aa ((0 : Int32) ||| (x0 <<< ((18 : Int32) &&& 31))), Aa 12, Aa ((Ad x1).toInt8.toInt32 &&& (255 : Int32)), .unset] [.int ((Ad x1).toInt8.toInt32 &&& (255 : Int32)), .ref TB] ?_
  refine Bl C S4 TK (Cr hx1) (.int x1) (Cq hx1) (by decide +kernel) ?_
  refine Ac C S4 [(115, .dup, 1), (116, .istore 9, 2)] 118 #[Ab DE, Ab b, Aa 2, Aa 2, Ab d, Ab TB, Aa 0, Aa ((0 : Int32) ||| (x0 <<< ((18 : Int32) &&& 31))), Aa 12, Aa x1, .unset] [.int x1] ?_
  refine Bh C S4 .ge 96 214 (fun (q6 : ¬ x1 < (0 : Int32)) => ?_) (fun (hq : x1 < (0 : Int32)) => False.elim (Cd hx1 hq))
  refine Ac C S4 [(214, .iload 7, 2), (216, .iload 9, 2), (218, .iload 8, 2), (220, .ishl, 1), (221, .ior, 1), (222, .istore 7, 2), (224, .iinc 8 (-6), 3), (227, .iload 8, 2), (229, .ifCond .ge 49, 3), (278, .goto (-250), 3), (28, .iload_n 2, 1), (29, .iload_n 3, 1), (30, .if_icmp .ge 251, 3), (281, .iload 8, 2), (283, .bipush 6, 2), (285, .if_icmp .ne 20, 3), (288, .aload 4, 2), (290, .iload 6, 2), (292, .iinc 6 1, 3), (295, .iload 7, 2), (297, .bipush 16, 2), (299, .ishr, 1), (300, .i2b, 1)] 301 #[Ab DE, Ab b, Aa 2, Aa 2, Ab d, Ab TB, Aa 1, Aa (((0 : Int32) ||| (x0 <<< ((18 : Int32) &&& 31))) ||| (x1 <<< ((12 : Int32) &&& 31))), Aa 6, Aa x1, .unset] [.int (((((0 : Int32) ||| (x0 <<< ((18 : Int32) &&& 31))) ||| (x1 <<< ((12 : Int32) &&& 31))) >>> ((16 : Int32) &&& 31)).toInt8.toInt32), .int 0, .ref d] ?_
  refine Ap C S4 dK ⟨(by decide), (by decide)⟩ 0 rfl (Ak rfl) (((((0 : Int32) ||| (x0 <<< ((18 : Int32) &&& 31))) ||| (x1 <<< ((12 : Int32) &&& 31))) >>> ((16 : Int32) &&& 31)).toInt8.toInt32) (Bc _) ge_d (by decide +kernel) ?_
  intro T7 h9 S8 W10 f11
  have f12 : Arv Z h9 d dk .byte (1 : Int32) ([(.int (((((0 : Int32) ||| (x0 <<< ((18 : Int32) &&& 31))) ||| (x1 <<< ((12 : Int32) &&& 31))) >>> ((16 : Int32) &&& 31)).toInt8.toInt32))]) (.int 0) := f11
  refine Ac C S8 [(302, .goto 56, 3), (358, .iload_n 2, 1), (359, .iload_n 3, 1), (360, .if_icmp .ge 56, 3), (416, .iload 6, 2)] 418 #[Ab DE, Ab b, Aa 2, Aa 2, Ab d, Ab TB, Aa 1, Aa (((0 : Int32) ||| (x0 <<< ((18 : Int32) &&& 31))) ||| (x1 <<< ((12 : Int32) &&& 31))), Aa 6, Aa x1, .unset] [.int 1] ?_
  refine Bq C S8 (by decide +kernel) (by decide) (by decide) ?_
  exact ⟨rfl, ((Keep.refl _ _).wr W10 (Ba 0)), f12⟩
theorem own_da2 (hw : Aj a0 Z) (G1 : Int32) (G3 : Value) (U8 : Addr) (I8 : Addr) (TB : Addr) (TBk : ClassId) (DE : Addr) (b : Addr) (bk : ClassId) (x0 : Int32) (x1 : Int32) (h0 : Heap) (n0 : Nat) (z0 : n0 ≤ h0.size) (X00 : Old Z n0 h0) (TK : Arv Z h0 TB TBk .int 256 Bs (.int 0)) (DEx : Exa Z h0 DE "java/util/Base64$Decoder") (DEu : Fld Z h0 DE "java/util/Base64$Decoder" "isURL" "Z" (.int 1)) (DEm : Fld Z h0 DE "java/util/Base64$Decoder" "isMIME" "Z" (.int 0)) (b0 : Arv Z h0 b bk .byte (2 : Int32) ([(.int ((Ad x0).toInt8.toInt32)), (.int ((Ad x1).toInt8.toInt32))]) (.int 0)) (b1 : Exa Z h0 b "[B") (XS : Ax Z n0 G1 G3 U8 I8 TB DE) (hx0 : Ag x0) (hx1 : Ag x1) :
    Af l Z (⟨"java/util/Base64$Decoder", "decode", "([B)[B"⟩ : MethodName) jdk_2450_method_2_code 4 (some (.array .byte)) ({ frames := 1, cells := 1, slots := 1, locals := 22 } : Room) n0 #[(.ref DE), (.ref b)] h0 (fun v h => ∃ r : Addr, ∃ rk : ClassId, v = some (.ref r) ∧ h0.size ≤ r ∧ Keep h0 h [] ∧ Arv Z h r rk .byte (1 : Int32) ([(.int (Ay (Dg x0 x1)))]) (.int 0)) := by
  refine Ar #[.val (.ref DE), .val (.ref b), .unset, .unset] ?_
  intro p e s m below meth c T0 C S0
  have XS_ := XS
  obtain ⟨O2, O4, P5, rG3, OU, OI, OT, OD, hUI, TBlt, DElt⟩ := XS_
  refine Ac C S0 [(0, .aload_n 0, 1), (1, .aload_n 1, 1), (2, .iconst 0, 1), (3, .aload_n 1, 1)] 4 #[Ab DE, Ab b, .unset, .unset] [.ref b, .int 0, .ref b, .ref DE] ?_
  refine Au C S0 b0 (by decide +kernel) ?_
  refine Co C S0 (ow hw 173 rfl) (ow hw 174 rfl) (ow hw 176 rfl) (ow hw 175 rfl) (ow hw 177 rfl) (by decide) (Af.pay (own_dl2 l Z a0 hw G1 G3 U8 I8 TB TBk DE b _ x0 x1 h0 n0 z0 X00 TK DEx DEu DEm b0 b1 XS hx0 hx1) C 0 (ow hw 177 rfl) (ow hw 138 rfl) (by decide) (by decide)) (fun _ _ _ q => q.2) DEx [.ref b, .int 0, .int 2] [] rfl Eh rfl rfl rfl (Ak rfl) (by decide) (by decide) (by decide +kernel) ?_
  rintro T2 h3 v4 L5 S6 ⟨⟨rfl, e1⟩, -⟩
  rw [e1] at S6; clear e1
  refine Cp C S6 (aty := .byte) (ad := "[B") (by decide) (ow hw 35 rfl) (by decide +kernel) (by decide) 1 (by decide) (by decide) (by decide) (by decide) ?_
  intro T7 h9 a10 k11 S8 g12 E13 f14 x15
  have f16 : Arv Z h9 a10 k11 .byte (1 : Int32) ([(.int 0)]) (.int 0) := Arv.pad f14 (pad_rep [] (.int 0) 1)
  refine Ac C S8 [(10, .astore_n 2, 1), (11, .aload_n 0, 1), (12, .aload_n 1, 1), (13, .iconst 0, 1), (14, .aload_n 1, 1)] 15 #[Ab DE, Ab b, Ab a10, .unset] [.ref b, .int 0, .ref b, .ref DE] ?_
  have f17 := (b0.ext E13)
  refine Au C S8 f17 (by decide +kernel) ?_
  refine Ac C S8 [(16, .aload_n 2, 1)] 17 #[Ab DE, Ab b, Ab a10, .unset] [.ref a10, .int 2, .int 0, .ref b, .ref DE] ?_
  have f18 := (X00.ext E13)
  have f19 := (TK.ext E13)
  have f20 := (Exa.ext E13 DEx)
  have f21 := (Fld.ext E13 DEu)
  have f22 := (Fld.ext E13 DEm)
  have f23 := (Exa.ext E13 b1)
  have f24 : n0 ≤ h9.size := (Nat.le_trans z0 E13.1)
  have g25 : n0 ≤ a10 := by rw [g12]; exact z0
  have n26 : b ≠ a10 := by rw [g12]; exact Nat.ne_of_lt b0.lt
  refine Co C S8 (ow hw 185 rfl) (ow hw 186 rfl) (ow hw 188 rfl) (ow hw 187 rfl) (ow hw 189 rfl) (by decide) (Af.pay (own_d02 l Z a0 hw G1 G3 U8 I8 TB TBk DE b _ a10 _ x0 x1 h9 n0 f24 g25 f18 f19 f20 f21 f22 f17 f23 f16 n26 XS hx0 hx1) C 0 (ow hw 189 rfl) (ow hw 138 rfl) (by decide) (by decide)) (fun _ _ _ q => q.2) f20 [.ref b, .int 0, .int 2, .ref a10] [] rfl Ei rfl rfl rfl (Ak rfl) (by decide) (by decide) (by decide +kernel) ?_
  rintro T29 h30 v31 L32 S33 ⟨⟨rfl, K27, f28⟩, -⟩
  refine Ac C S33 [(20, .istore_n 3, 1), (21, .iload_n 3, 1), (22, .aload_n 2, 1)] 23 #[Ab DE, Ab b, Ab a10, Aa 1] [.ref a10, .int 1] ?_
  refine Au C S33 f28 (by decide +kernel) ?_
  refine Ac C S33 [(24, .if_icmp .eq 9, 3), (33, .aload_n 2, 1)] 34 #[Ab DE, Ab b, Ab a10, Aa 1] [.ref a10] ?_
  refine Az C S33 rfl rfl (by decide +kernel) (by decide) (by decide) ?_
  have o34 : h0.size ≤ a10 := by rw [g12]; exact (Nat.le_refl _)
  exact ⟨a10, k11, rfl, o34, (((Keep.refl _ _).ext E13).trans K27 (allS (Or.inr o34) all0)), f28⟩
theorem own_ds2 (hw : Aj a0 Z) (G1 : Int32) (G3 : Value) (U8 : Addr) (I8 : Addr) (TB : Addr) (TBk : ClassId) (DE : Addr) (x : Addr) (xt : Addr) (xtk : ClassId) (x0 : Int32) (x1 : Int32) (h0 : Heap) (n0 : Nat) (z0 : n0 ≤ h0.size) (X00 : Old Z n0 h0) (TK : Arv Z h0 TB TBk .int 256 Bs (.int 0)) (DEx : Exa Z h0 DE "java/util/Base64$Decoder") (DEu : Fld Z h0 DE "java/util/Base64$Decoder" "isURL" "Z" (.int 1)) (DEm : Fld Z h0 DE "java/util/Base64$Decoder" "isMIME" "Z" (.int 0)) (s0 : Exa Z h0 x "java/lang/String") (s1 : Fld Z h0 x "java/lang/String" "value" "[B" (.ref xt)) (s2 : Fld Z h0 x "java/lang/String" "coder" "B" (.int 0)) (s3 : Arv Z h0 xt xtk .byte (2 : Int32) ([(.int ((Ad x0).toInt8.toInt32)), (.int ((Ad x1).toInt8.toInt32))]) (.int 0)) (s4 : Exa Z h0 xt "[B") (XS : Ax Z n0 G1 G3 U8 I8 TB DE) (hx0 : Ag x0) (hx1 : Ag x1) :
    Af l Z (⟨"java/util/Base64$Decoder", "decode", "(Ljava/lang/String;)[B"⟩ : MethodName) jdk_2450_method_3_code 2 (some (.array .byte)) ({ frames := 5, cells := 2, slots := 9, locals := 76 } : Room) n0 #[(.ref DE), (.ref x)] h0 (fun v h => ∃ r : Addr, ∃ rk : ClassId, v = some (.ref r) ∧ h0.size ≤ r ∧ Keep h0 h [] ∧ Arv Z h r rk .byte (1 : Int32) ([(.int (Ay (Dg x0 x1)))]) (.int 0)) := by
  refine Ar #[.val (.ref DE), .val (.ref x)] ?_
  intro p e s m below meth c T0 C S0
  have XS_ := XS
  obtain ⟨O2, O4, P5, rG3, OU, OI, OT, OD, hUI, TBlt, DElt⟩ := XS_
  refine Ac C S0 [(0, .aload_n 0, 1), (1, .aload_n 1, 1)] 2 #[Ab DE, Ab x] [.ref x, .ref DE] ?_
  refine Bi C S0 (ow hw 140 rfl) Via.refl (OI.ext X00.2) (by decide +kernel) ?_
  intro T1 S2
  refine Ah C S2 hw 142 143 145 145 144 146 19 (Fk l Z a0 hw G1 G3 U8 I8 TB DE x _ _ _ _ h0 n0 z0 X00 s0 s1 s2 s3 s4 XS (Ak rfl)) 1 s0 [.ref I8] [.ref DE] Ej ?_
  rintro T8 h9 v10 L11 S12 ⟨⟨a3, rfl, g4, K5, f6, f7⟩, -⟩
  have f13 := (X00.keep K5 all0)
  have f14 := (TK.keep K5 nin0)
  have f15 := (DEx.keep K5)
  have f16 := (DEu.keep K5 nin0)
  have f17 := (DEm.keep K5 nin0)
  have f18 : n0 ≤ h9.size := (Nat.le_trans z0 K5.1)
  refine Ah C S12 hw 168 169 171 171 170 172 138 (own_da2 l Z a0 hw G1 G3 U8 I8 TB TBk DE a3 _ x0 x1 h9 n0 f18 f13 f14 f15 f16 f17 f6 f7 XS hx0 hx1) 0 f15 [.ref a3] [] Ek ?_
  rintro T24 h25 v26 L27 S28 ⟨⟨a19, k20, rfl, g21, K22, f23⟩, -⟩
  refine Az C S28 rfl rfl (by decide +kernel) (by decide) (by decide) ?_
  have o30 : h0.size ≤ h9.size := (Nat.le_trans (Nat.le_refl _) K5.1)
  have o29 : h0.size ≤ a19 := Nat.le_trans o30 g21
  exact ⟨a19, k20, rfl, o29, (((Keep.refl _ _).trans K5 all0).trans K22 all0), f23⟩
theorem Be : parseMethodDescriptor "(I)C" = some ⟨[.int], (some .char)⟩ := by decide +kernel
theorem Bx : parseMethodDescriptor "(C)I" = some ⟨[.char], (some .int)⟩ := by decide +kernel
theorem own_du2 (hw : Aj a0 Z) (hEL : EW Z a0 Ca) (wS : ∀ a ∈ Bundle.stringAtoms, a.before a0 Z = true) (G1 : Int32) (G3 : Value) (U8 : Addr) (I8 : Addr) (TB : Addr) (TBk : ClassId) (DE : Addr) (x : Addr) (xt : Addr) (xtk : ClassId) (x0 : Int32) (x1 : Int32) (h0 : Heap) (n0 : Nat) (z0 : n0 ≤ h0.size) (X00 : Old Z n0 h0) (TK : Arv Z h0 TB TBk .int 256 Bs (.int 0)) (DEx : Exa Z h0 DE "java/util/Base64$Decoder") (DEu : Fld Z h0 DE "java/util/Base64$Decoder" "isURL" "Z" (.int 1)) (DEm : Fld Z h0 DE "java/util/Base64$Decoder" "isMIME" "Z" (.int 0)) (s0 : Exa Z h0 x "java/lang/String") (s1 : Fld Z h0 x "java/lang/String" "value" "[B" (.ref xt)) (s2 : Fld Z h0 x "java/lang/String" "coder" "B" (.int 0)) (s3 : Arv Z h0 xt xtk .byte (2 : Int32) ([(.int ((Ad x0).toInt8.toInt32)), (.int ((Ad x1).toInt8.toInt32))]) (.int 0)) (s4 : Exa Z h0 xt "[B") (XS : Ax Z n0 G1 G3 U8 I8 TB DE) (hx0 : Ag x0) (hx1 : Ag x1) (hs : (x1 &&& (((1 : Int32) <<< ((4 : Int32) &&& 31)) - (1 : Int32))) = (0 : Int32)) :
    Cf l Z Ca (⟨"com/example/torrey/torrey/Base64Url", "decode", "(Ljava/lang/String;)[B"⟩ : MethodName) prog_1_method_3_code 3 (some (.array .byte)) ({ frames := 6, cells := 4, slots := 29, locals := 89 } : Room) n0 #[(.ref x)] h0 [] (fun v h => ∃ r : Addr, ∃ rk : ClassId, v = some (.ref r) ∧ h0.size ≤ r ∧ Keep h0 h [] ∧ Arv Z h r rk .byte (1 : Int32) ([(.int (Ay (Dg x0 x1)))]) (.int 0)) := by
  refine Cm hEL wS (by decide +kernel) #[.val (.ref x), .unset, .unset] (fun m => by first | (simp [entryFrame, mkF, argsToLocals, Value.category]; done) | rfl) ?_
  intro p e s m below meth c T0 CW SW0
  have XS_ := XS
  obtain ⟨O2, O4, P5, rG3, OU, OI, OT, OD, hUI, TBlt, DElt⟩ := XS_
  refine Av CW SW0 ?_
  intro vm1 C S2 rb3
  refine Ac C S2 [(0, .aload_n 0, 1)] 1 #[Ab x, .unset, .unset] [.ref x] ?_
  have SW4 := rb3 _ _ _ _ [] [] S2 (Keep.refl _ _) all0 all0
  refine Cu CW SW4 (ow hw 50 rfl) (by decide +kernel) 16 (by decide) (by decide) (by decide) (by decide) ?_
  intro T5 h6 a7 SW8 E9
  have f10 : n0 ≤ h6.size := (Nat.le_trans z0 E9.1)
  refine Av CW SW8 ?_
  intro vm17 C S18 rb19
  refine Ae C S18 hw 53 54 55 56 (De l Z a0 hw x a7 h6 n0 f10) 0 [.ref x, .ref a7] [] Cv ?_
  rintro T12 h13 v14 L15 S16 ⟨⟨rfl, e11⟩, -⟩
  rw [e11] at S16; clear e11
  refine Ac C S16 [(6, .pop, 1), (7, .iconst 0, 1), (8, .istore_n 1, 1), (9, .iload_n 1, 1), (10, .aload_n 0, 1)] 11 #[Ab x, Aa 0, .unset] [.ref x, .int 0] ?_
  have f20 := (X00.ext E9)
  have f21 := (Exa.ext E9 s0)
  have f22 := (Fld.ext E9 s1)
  have f23 := (Fld.ext E9 s2)
  have f24 := (s3.ext E9)
  refine Ah C S16 hw 57 58 60 60 59 61 19 (At l Z a0 hw G1 G3 x _ _ _ _ h6 n0 f10 f20 f21 f22 f23 f24 O2 O4 P5 rG3) 1 f21 [] [.int 0] Al ?_
  rintro T26 h27 v28 L29 S30 ⟨⟨rfl, e25⟩, -⟩
  rw [e25] at S30; clear e25
  refine Ac C S30 [(14, .if_icmp .ge 39, 3), (17, .aload_n 0, 1), (18, .iload_n 1, 1)] 19 #[Ab x, Aa 0, .unset] [.int 0, .ref x] ?_
  refine Ah C S30 hw 67 68 70 70 69 71 19 (Bm l Z a0 hw G1 G3 x _ _ _ _ 0 ((Ad x0).toInt8.toInt32) (Ad x0) h6 n0 f10 f20 f21 f22 f23 f24 O2 O4 P5 rG3 (⟨(by decide), (by decide)⟩) rfl (Ce hx0) (Ai hx0)) 0 f21 [.int 0] [] Be ?_
  rintro T32 h33 v34 L35 S36 ⟨⟨rfl, e31⟩, -⟩
  rw [e31] at S36; clear e31
  refine Ae C S36 hw 129 130 48 131 (Bw l Z a0 hw x0 h6 n0 f10 hx0) 0 [.int (Ad x0)] [] Bx ?_
  rintro T38 h39 v40 L41 S42 ⟨⟨rfl, e37⟩, -⟩
  rw [e37] at S42; clear e37
  refine Bh C S42 .ge 22 47 (fun (q43 : ¬ x0 < (0 : Int32)) => ?_) (fun (hq : x0 < (0 : Int32)) => False.elim (Cd hx0 hq))
  refine Ac C S42 [(47, .iinc 1 1, 3), (50, .goto (-41), 3), (9, .iload_n 1, 1), (10, .aload_n 0, 1)] 11 #[Ab x, Aa 1, .unset] [.ref x, .int 1] ?_
  refine Ah C S42 hw 57 58 60 60 59 61 19 (At l Z a0 hw G1 G3 x _ _ _ _ h6 n0 f10 f20 f21 f22 f23 f24 O2 O4 P5 rG3) 1 f21 [] [.int 1] Al ?_
  rintro T45 h46 v47 L48 S49 ⟨⟨rfl, e44⟩, -⟩
  rw [e44] at S49; clear e44
  refine Ac C S49 [(14, .if_icmp .ge 39, 3), (17, .aload_n 0, 1), (18, .iload_n 1, 1)] 19 #[Ab x, Aa 1, .unset] [.int 1, .ref x] ?_
  refine Ah C S49 hw 67 68 70 70 69 71 19 (Bm l Z a0 hw G1 G3 x _ _ _ _ 1 ((Ad x1).toInt8.toInt32) (Ad x1) h6 n0 f10 f20 f21 f22 f23 f24 O2 O4 P5 rG3 (⟨(by decide), (by decide)⟩) rfl (Ce hx1) (Ai hx1)) 0 f21 [.int 1] [] Be ?_
  rintro T51 h52 v53 L54 S55 ⟨⟨rfl, e50⟩, -⟩
  rw [e50] at S55; clear e50
  refine Ae C S55 hw 129 130 48 131 (Bw l Z a0 hw x1 h6 n0 f10 hx1) 0 [.int (Ad x1)] [] Bx ?_
  rintro T57 h58 v59 L60 S61 ⟨⟨rfl, e56⟩, -⟩
  rw [e56] at S61; clear e56
  refine Bh C S61 .ge 22 47 (fun (q62 : ¬ x1 < (0 : Int32)) => ?_) (fun (hq : x1 < (0 : Int32)) => False.elim (Cd hx1 hq))
  refine Ac C S61 [(47, .iinc 1 1, 3), (50, .goto (-41), 3), (9, .iload_n 1, 1), (10, .aload_n 0, 1)] 11 #[Ab x, Aa 2, .unset] [.ref x, .int 2] ?_
  refine Ah C S61 hw 57 58 60 60 59 61 19 (At l Z a0 hw G1 G3 x _ _ _ _ h6 n0 f10 f20 f21 f22 f23 f24 O2 O4 P5 rG3) 1 f21 [] [.int 2] Al ?_
  rintro T64 h65 v66 L67 S68 ⟨⟨rfl, e63⟩, -⟩
  rw [e63] at S68; clear e63
  refine Ac C S68 [(14, .if_icmp .ge 39, 3), (53, .aload_n 0, 1)] 54 #[Ab x, Aa 2, .unset] [.ref x] ?_
  refine Ah C S68 hw 57 58 60 60 59 61 19 (At l Z a0 hw G1 G3 x _ _ _ _ h6 n0 f10 f20 f21 f22 f23 f24 O2 O4 P5 rG3) 0 f21 [] [] Al ?_
  rintro T70 h71 v72 L73 S74 ⟨⟨rfl, e69⟩, -⟩
  rw [e69] at S74; clear e69
  refine Ac C S74 [(57, .iconst 1, 1), (58, .isub, 1), (59, .istore_n 1, 1), (60, .aload_n 0, 1)] 61 #[Ab x, Aa 1, .unset] [.ref x] ?_
  refine Ah C S74 hw 57 58 60 60 59 61 19 (At l Z a0 hw G1 G3 x _ _ _ _ h6 n0 f10 f20 f21 f22 f23 f24 O2 O4 P5 rG3) 0 f21 [] [] Al ?_
  rintro T76 h77 v78 L79 S80 ⟨⟨rfl, e75⟩, -⟩
  rw [e75] at S80; clear e75
  refine Ac C S80 [(64, .iconst 4, 1)] 65 #[Ab x, Aa 1, .unset] [.int 4, .int 2] ?_
  refine Dj C S80 (by decide +kernel) (by decide) ?_
  refine own_tsi C S80 (df := 53) (lo := 1) (hi := 3) (offs := #[26, 45, 49]) (len := 26) (o := 45) (by decide +kernel) (by decide) (by decide) (by decide) 111 (by decide) ?_
  refine Ac C S80 [(111, .iconst 4, 1), (112, .goto 8, 3), (120, .istore_n 2, 1), (121, .iload_n 2, 1), (122, .ifCond .le 39, 3), (125, .aload_n 0, 1), (126, .iload_n 1, 1)] 127 #[Ab x, Aa 1, Aa 4] [.int 1, .ref x] ?_
  refine Ah C S80 hw 67 68 70 70 69 71 19 (Bm l Z a0 hw G1 G3 x _ _ _ _ 1 ((Ad x1).toInt8.toInt32) (Ad x1) h6 n0 f10 f20 f21 f22 f23 f24 O2 O4 P5 rG3 (⟨(by decide), (by decide)⟩) rfl (Ce hx1) (Ai hx1)) 0 f21 [.int 1] [] Be ?_
  rintro T82 h83 v84 L85 S86 ⟨⟨rfl, e81⟩, -⟩
  rw [e81] at S86; clear e81
  refine Ae C S86 hw 129 130 48 131 (Bw l Z a0 hw x1 h6 n0 f10 hx1) 0 [.int (Ad x1)] [] Bx ?_
  rintro T88 h89 v90 L91 S92 ⟨⟨rfl, e87⟩, -⟩
  rw [e87] at S92; clear e87
  refine Ac C S92 [(133, .iconst 1, 1), (134, .iload_n 2, 1), (135, .ishl, 1), (136, .iconst 1, 1), (137, .isub, 1), (138, .iand, 1)] 139 #[Ab x, Aa 1, Aa 4] [.int (x1 &&& (((1 : Int32) <<< ((4 : Int32) &&& 31)) - (1 : Int32)))] ?_
  refine Bh C S92 .eq 22 161 (fun (q93 : (x1 &&& (((1 : Int32) <<< ((4 : Int32) &&& 31)) - (1 : Int32))) = (0 : Int32)) => ?_) (fun (hq : ¬ (x1 &&& (((1 : Int32) <<< ((4 : Int32) &&& 31)) - (1 : Int32))) = (0 : Int32)) => False.elim (hq hs))
  refine Bi C S92 (ow hw 132 rfl) Via.refl (OD.ext f20.2) (by decide +kernel) ?_
  intro T94 S95
  refine Ac C S95 [(164, .aload_n 0, 1)] 165 #[Ab x, Aa 1, Aa 4] [.ref x, .ref DE] ?_
  have f96 := (TK.ext E9)
  have f97 := (Exa.ext E9 DEx)
  have f98 := (Fld.ext E9 DEu)
  have f99 := (Fld.ext E9 DEm)
  have f100 := (Exa.ext E9 s4)
  refine Ah C S95 hw 134 135 137 137 136 139 138 (own_ds2 l Z a0 hw G1 G3 U8 I8 TB TBk DE x _ _ x0 x1 h6 n0 f10 f20 f96 f97 f98 f99 f21 f22 f23 f24 f100 XS hx0 hx1) 0 f97 [.ref x] [] Cb ?_
  rintro T106 h107 v108 L109 S110 ⟨⟨a101, k102, rfl, g103, K104, f105⟩, -⟩
  have o111 : h6.size ≤ a101 := Nat.le_trans (Nat.le_refl _) g103
  have SW112 := rb19 _ _ _ _ [] [a101] S110 ((Keep.refl _ _).trans K104 all0) all0 (allS ⟨o111, f105.lt⟩ all0)
  refine Ck CW SW112 rfl rfl (by decide +kernel) (by decide) (by decide) ?_
  have o114 : h0.size ≤ h6.size := (Nat.le_trans (Nat.le_refl _) E9.1)
  have o113 : h0.size ≤ a101 := Nat.le_trans o114 g103
  exact ⟨a101, k102, rfl, o113, (((Keep.refl _ _).ext E9).trans K104 all0), f105⟩
theorem own_dl3 (hw : Aj a0 Z) (G1 : Int32) (G3 : Value) (U8 : Addr) (I8 : Addr) (TB : Addr) (TBk : ClassId) (DE : Addr) (b : Addr) (bk : ClassId) (x0 : Int32) (x1 : Int32) (x2 : Int32) (h0 : Heap) (n0 : Nat) (z0 : n0 ≤ h0.size) (X00 : Old Z n0 h0) (TK : Arv Z h0 TB TBk .int 256 Bs (.int 0)) (DEx : Exa Z h0 DE "java/util/Base64$Decoder") (DEu : Fld Z h0 DE "java/util/Base64$Decoder" "isURL" "Z" (.int 1)) (DEm : Fld Z h0 DE "java/util/Base64$Decoder" "isMIME" "Z" (.int 0)) (b0 : Arv Z h0 b bk .byte (3 : Int32) ([(.int ((Ad x0).toInt8.toInt32)), (.int ((Ad x1).toInt8.toInt32)), (.int ((Ad x2).toInt8.toInt32))]) (.int 0)) (b1 : Exa Z h0 b "[B") (XS : Ax Z n0 G1 G3 U8 I8 TB DE) (hx0 : Ag x0) (hx1 : Ag x1) (hx2 : Ag x2) :
    Af l Z (⟨"java/util/Base64$Decoder", "decodedOutLength", "([BII)I"⟩ : MethodName) jdk_2450_method_7_code 9 (some .int) ({ frames := 0, cells := 0, slots := 0, locals := 0 } : Room) n0 #[(.ref DE), (.ref b), (.int 0), (.int 3)] h0 (fun v h => v = some (.int 2) ∧ h = h0) := by
  refine Ar #[.val (.ref DE), .val (.ref b), .val (.int 0), .val (.int 3), .unset, .unset, .unset, .unset, .unset] ?_
  intro p e s m below meth c T0 C S0
  have XS_ := XS
  obtain ⟨O2, O4, P5, rG3, OU, OI, OT, OD, hUI, TBlt, DElt⟩ := XS_
  refine Ac C S0 [(0, .aload_n 0, 1)] 1 #[Ab DE, Ab b, Aa 0, Aa 3, .unset, .unset, .unset, .unset, .unset] [.ref DE] ?_
  refine Ch C S0 hw 178 DEu ?_
  intro T1 S2
  refine Ac C S2 [(4, .ifCond .eq 9, 3)] 7 #[Ab DE, Ab b, Aa 0, Aa 3, .unset, .unset, .unset, .unset, .unset] [] ?_
  refine Bi C S2 (ow hw 180 rfl) Via.refl (OT.ext X00.2) (by decide +kernel) ?_
  intro T3 S4
  refine Ac C S4 [(10, .goto 6, 3), (16, .astore 4, 2), (18, .iconst 0, 1), (19, .istore 5, 2), (21, .iload_n 3, 1), (22, .iload_n 2, 1), (23, .isub, 1), (24, .istore 6, 2), (26, .iload 6, 2), (28, .ifCond .ne 5, 3), (33, .iload 6, 2), (35, .iconst 2, 1), (36, .if_icmp .ge 30, 3), (66, .aload_n 0, 1)] 67 #[Ab DE, Ab b, Aa 0, Aa 3, Ab TB, Aa 0, Aa 3, .unset, .unset] [.ref DE] ?_
  refine Ch C S4 hw 181 DEm ?_
  intro T5 S6
  refine Ac C S6 [(70, .ifCond .eq 71, 3), (141, .aload_n 1, 1), (142, .iload_n 3, 1), (143, .iconst 1, 1), (144, .isub, 1)] 145 #[Ab DE, Ab b, Aa 0, Aa 3, Ab TB, Aa 0, Aa 3, .unset, .unset] [.int 2, .ref b] ?_
  refine Bb C S6 b0 ⟨(by decide), (by decide)⟩ (.int ((Ad x2).toInt8.toInt32)) rfl (by decide +kernel) ?_
  refine Ac C S6 [(146, .bipush 61, 2)] 148 #[Ab DE, Ab b, Aa 0, Aa 3, Ab TB, Aa 0, Aa 3, .unset, .unset] [.int 61, .int ((Ad x2).toInt8.toInt32)] ?_
  refine Bg C S6 .ne 19 167 (fun (q7 : ¬ ((Ad x2).toInt8.toInt32) = (61 : Int32)) => ?_) (fun (hq : ((Ad x2).toInt8.toInt32) = (61 : Int32)) => False.elim (Fe hx2 hq))
  refine Ac C S6 [(167, .iload 5, 2), (169, .ifCond .ne 18, 3), (172, .iload 6, 2), (174, .iconst 3, 1), (175, .iand, 1), (176, .ifCond .eq 11, 3), (179, .iconst 4, 1), (180, .iload 6, 2), (182, .iconst 3, 1), (183, .iand, 1), (184, .isub, 1), (185, .istore 5, 2), (187, .iconst 3, 1), (188, .iload 6, 2), (190, .i2l, 1)] 191 #[Ab DE, Ab b, Aa 0, Aa 3, Ab TB, Aa 1, Aa 3, .unset, .unset] [.long ((3 : Int32).toInt64), .int 3] ?_
  refine Dd C S6 (ow hw 183 rfl) (by decide +kernel) ?_
  refine Ac C S6 [(194, .ladd, 1)] 195 #[Ab DE, Ab b, Aa 0, Aa 3, Ab TB, Aa 1, Aa 3, .unset, .unset] [.long ((3 : Int32).toInt64 + 3), .int 3] ?_
  refine Dd C S6 (ow hw 184 rfl) (by decide +kernel) ?_
  refine Ew C S6 (by decide +kernel) (by decide) ?_
  rw [show (((3 : Int32).toInt64 + 3) / 4) = (1 : Int64) from (by decide)]
  refine Ac C S6 [(199, .l2i, 1), (200, .imul, 1), (201, .iload 5, 2), (203, .isub, 1)] 204 #[Ab DE, Ab b, Aa 0, Aa 3, Ab TB, Aa 1, Aa 3, .unset, .unset] [.int (((3 : Int32) * (1 : Int64).toInt32) - (1 : Int32))] ?_
  rw [show (((3 : Int32) * (1 : Int64).toInt32) - (1 : Int32)) = (2 : Int32) from (by decide)]
  refine Bq C S6 (by decide +kernel) (by decide) (by decide) ?_
  exact ⟨rfl, rfl⟩
theorem own_d03 (hw : Aj a0 Z) (G1 : Int32) (G3 : Value) (U8 : Addr) (I8 : Addr) (TB : Addr) (TBk : ClassId) (DE : Addr) (b : Addr) (bk : ClassId) (d : Addr) (dk : ClassId) (x0 : Int32) (x1 : Int32) (x2 : Int32) (h0 : Heap) (n0 : Nat) (z0 : n0 ≤ h0.size) (ge_d : n0 ≤ d) (X00 : Old Z n0 h0) (TK : Arv Z h0 TB TBk .int 256 Bs (.int 0)) (DEx : Exa Z h0 DE "java/util/Base64$Decoder") (DEu : Fld Z h0 DE "java/util/Base64$Decoder" "isURL" "Z" (.int 1)) (DEm : Fld Z h0 DE "java/util/Base64$Decoder" "isMIME" "Z" (.int 0)) (b0 : Arv Z h0 b bk .byte (3 : Int32) ([(.int ((Ad x0).toInt8.toInt32)), (.int ((Ad x1).toInt8.toInt32)), (.int ((Ad x2).toInt8.toInt32))]) (.int 0)) (b1 : Exa Z h0 b "[B") (dK : Arv Z h0 d dk .byte (2 : Int32) ([(.int 0), (.int 0)]) (.int 0)) (ne_b_d : b ≠ d) (XS : Ax Z n0 G1 G3 U8 I8 TB DE) (hx0 : Ag x0) (hx1 : Ag x1) (hx2 : Ag x2) :
    Af l Z (⟨"java/util/Base64$Decoder", "decode0", "([BII[B)I"⟩ : MethodName) jdk_2450_method_9_code 11 (some .int) ({ frames := 0, cells := 0, slots := 0, locals := 0 } : Room) n0 #[(.ref DE), (.ref b), (.int 0), (.int 3), (.ref d)] h0 (fun v h => v = some (.int 2) ∧ Keep h0 h [d] ∧ Arv Z h d dk .byte (2 : Int32) ([(.int (Ay (Ci x0 x1 x2))), (.int (Bk (Ci x0 x1 x2)))]) (.int 0)) := by
  refine Ar #[.val (.ref DE), .val (.ref b), .val (.int 0), .val (.int 3), .val (.ref d), .unset, .unset, .unset, .unset, .unset, .unset] ?_
  intro p e s m below meth c T0 C S0
  have XS_ := XS
  obtain ⟨O2, O4, P5, rG3, OU, OI, OT, OD, hUI, TBlt, DElt⟩ := XS_
  refine Ac C S0 [(0, .aload_n 0, 1)] 1 #[Ab DE, Ab b, Aa 0, Aa 3, Ab d, .unset, .unset, .unset, .unset, .unset, .unset] [.ref DE] ?_
  refine Ch C S0 hw 178 DEu ?_
  intro T1 S2
  refine Ac C S2 [(4, .ifCond .eq 9, 3)] 7 #[Ab DE, Ab b, Aa 0, Aa 3, Ab d, .unset, .unset, .unset, .unset, .unset, .unset] [] ?_
  refine Bi C S2 (ow hw 180 rfl) Via.refl (OT.ext X00.2) (by decide +kernel) ?_
  intro T3 S4
  refine Ac C S4 [(10, .goto 6, 3), (16, .astore 5, 2), (18, .iconst 0, 1), (19, .istore 6, 2), (21, .iconst 0, 1), (22, .istore 7, 2), (24, .bipush 18, 2), (26, .istore 8, 2), (28, .iload_n 2, 1), (29, .iload_n 3, 1), (30, .if_icmp .ge 251, 3), (33, .iload 8, 2), (35, .bipush 18, 2), (37, .if_icmp .ne 53, 3), (40, .iload_n 2, 1), (41, .iload_n 3, 1), (42, .iconst 4, 1), (43, .isub, 1), (44, .if_icmp .ge 46, 3), (90, .iload_n 2, 1), (91, .iload_n 3, 1), (92, .if_icmp .lt 6, 3), (98, .aload_n 1, 1), (99, .iload_n 2, 1), (100, .iinc 2 1, 3)] 103 #[Ab DE, Ab b, Aa 1, Aa 3, Ab d, Ab TB, Aa 0, Aa 0, Aa 18, .unset, .unset] [.int 0, .ref b] ?_
  refine Bb C S4 b0 ⟨(by decide), (by decide)⟩ (.int ((Ad x0).toInt8.toInt32)) rfl (by decide +kernel) ?_
  refine Ac C S4 [(104, .sipush 255, 3), (107, .iand, 1), (108, .istore 9, 2), (110, .aload 5, 2), (112, .iload 9, 2)] 114 #[Ab DE, Ab b, Aa 1, Aa 3, Ab d, Ab TB, Aa 0, Aa 0, Aa 18, Aa ((Ad x0).toInt8.toInt32 &&& (255 : Int32)), .unset] [.int ((Ad x0).toInt8.toInt32 &&& (255 : Int32)), .ref TB] ?_
  refine Bl C S4 TK (Cr hx0) (.int x0) (Cq hx0) (by decide +kernel) ?_
  refine Ac C S4 [(115, .dup, 1), (116, .istore 9, 2)] 118 #[Ab DE, Ab b, Aa 1, Aa 3, Ab d, Ab TB, Aa 0, Aa 0, Aa 18, Aa x0, .unset] [.int x0] ?_
  refine Bh C S4 .ge 96 214 (fun (q5 : ¬ x0 < (0 : Int32)) => ?_) (fun (hq : x0 < (0 : Int32)) => False.elim (Cd hx0 hq))
  refine Ac C S4 [(214, .iload 7, 2), (216, .iload 9, 2), (218, .iload 8, 2), (220, .ishl, 1), (221, .ior, 1), (222, .istore 7, 2), (224, .iinc 8 (-6), 3), (227, .iload 8, 2), (229, .ifCond .ge 49, 3), (278, .goto (-250), 3), (28, .iload_n 2, 1), (29, .iload_n 3, 1), (30, .if_icmp .ge 251, 3), (33, .iload 8, 2), (35, .bipush 18, 2), (37, .if_icmp .ne 53, 3), (90, .iload_n 2, 1), (91, .iload_n 3, 1), (92, .if_icmp .lt 6, 3), (98, .aload_n 1, 1), (99, .iload_n 2, 1), (100, .iinc 2 1, 3)] 103 #[Ab DE, Ab b, Aa 2, Aa 3, Ab d, Ab TB, Aa 0, Aa ((0 : Int32) ||| (x0 <<< ((18 : Int32) &&& 31))), Aa 12, Aa x0, .unset] [.int 1, .ref b] ?_
  refine Bb C S4 b0 ⟨(by decide), (by decide)⟩ (.int ((Ad x1).toInt8.toInt32)) rfl (by decide +kernel) ?_
  refine Ac C S4 [(104, .sipush 255, 3), (107, .iand, 1), (108, .istore 9, 2), (110, .aload 5, 2), (112, .iload 9, 2)] 114 #[Ab DE, Ab b, Aa 2, Aa 3, Ab d, Ab TB, Aa 0, Aa ((0 : Int32) ||| (x0 <<< ((18 : Int32) &&& 31))), Aa 12, Aa ((Ad x1).toInt8.toInt32 &&& (255 : Int32)), .unset] [.int ((Ad x1).toInt8.toInt32 &&& (255 : Int32)), .ref TB] ?_
  refine Bl C S4 TK (Cr hx1) (.int x1) (Cq hx1) (by decide +kernel) ?_
  refine Ac C S4 [(115, .dup, 1), (116, .istore 9, 2)] 118 #[Ab DE, Ab b, Aa 2, Aa 3, Ab d, Ab TB, Aa 0, Aa ((0 : Int32) ||| (x0 <<< ((18 : Int32) &&& 31))), Aa 12, Aa x1, .unset] [.int x1] ?_
  refine Bh C S4 .ge 96 214 (fun (q6 : ¬ x1 < (0 : Int32)) => ?_) (fun (hq : x1 < (0 : Int32)) => False.elim (Cd hx1 hq))
  refine Ac C S4 [(214, .iload 7, 2), (216, .iload 9, 2), (218, .iload 8, 2), (220, .ishl, 1), (221, .ior, 1), (222, .istore 7, 2), (224, .iinc 8 (-6), 3), (227, .iload 8, 2), (229, .ifCond .ge 49, 3), (278, .goto (-250), 3), (28, .iload_n 2, 1), (29, .iload_n 3, 1), (30, .if_icmp .ge 251, 3), (33, .iload 8, 2), (35, .bipush 18, 2), (37, .if_icmp .ne 53, 3), (90, .iload_n 2, 1), (91, .iload_n 3, 1), (92, .if_icmp .lt 6, 3), (98, .aload_n 1, 1), (99, .iload_n 2, 1), (100, .iinc 2 1, 3)] 103 #[Ab DE, Ab b, Aa 3, Aa 3, Ab d, Ab TB, Aa 0, Aa (((0 : Int32) ||| (x0 <<< ((18 : Int32) &&& 31))) ||| (x1 <<< ((12 : Int32) &&& 31))), Aa 6, Aa x1, .unset] [.int 2, .ref b] ?_
  refine Bb C S4 b0 ⟨(by decide), (by decide)⟩ (.int ((Ad x2).toInt8.toInt32)) rfl (by decide +kernel) ?_
  refine Ac C S4 [(104, .sipush 255, 3), (107, .iand, 1), (108, .istore 9, 2), (110, .aload 5, 2), (112, .iload 9, 2)] 114 #[Ab DE, Ab b, Aa 3, Aa 3, Ab d, Ab TB, Aa 0, Aa (((0 : Int32) ||| (x0 <<< ((18 : Int32) &&& 31))) ||| (x1 <<< ((12 : Int32) &&& 31))), Aa 6, Aa ((Ad x2).toInt8.toInt32 &&& (255 : Int32)), .unset] [.int ((Ad x2).toInt8.toInt32 &&& (255 : Int32)), .ref TB] ?_
  refine Bl C S4 TK (Cr hx2) (.int x2) (Cq hx2) (by decide +kernel) ?_
  refine Ac C S4 [(115, .dup, 1), (116, .istore 9, 2)] 118 #[Ab DE, Ab b, Aa 3, Aa 3, Ab d, Ab TB, Aa 0, Aa (((0 : Int32) ||| (x0 <<< ((18 : Int32) &&& 31))) ||| (x1 <<< ((12 : Int32) &&& 31))), Aa 6, Aa x2, .unset] [.int x2] ?_
  refine Bh C S4 .ge 96 214 (fun (q7 : ¬ x2 < (0 : Int32)) => ?_) (fun (hq : x2 < (0 : Int32)) => False.elim (Cd hx2 hq))
  refine Ac C S4 [(214, .iload 7, 2), (216, .iload 9, 2), (218, .iload 8, 2), (220, .ishl, 1), (221, .ior, 1), (222, .istore 7, 2), (224, .iinc 8 (-6), 3), (227, .iload 8, 2), (229, .ifCond .ge 49, 3), (278, .goto (-250), 3), (28, .iload_n 2, 1), (29, .iload_n 3, 1), (30, .if_icmp .ge 251, 3), (281, .iload 8, 2), (283, .bipush 6, 2), (285, .if_icmp .ne 20, 3), (305, .iload 8, 2), (307, .ifCond .ne 34, 3), (310, .aload 4, 2), (312, .iload 6, 2), (314, .iinc 6 1, 3), (317, .iload 7, 2), (319, .bipush 16, 2), (321, .ishr, 1), (322, .i2b, 1)] 323 #[Ab DE, Ab b, Aa 3, Aa 3, Ab d, Ab TB, Aa 1, Aa ((((0 : Int32) ||| (x0 <<< ((18 : Int32) &&& 31))) ||| (x1 <<< ((12 : Int32) &&& 31))) ||| (x2 <<< ((6 : Int32) &&& 31))), Aa 0, Aa x2, .unset] [.int ((((((0 : Int32) ||| (x0 <<< ((18 : Int32) &&& 31))) ||| (x1 <<< ((12 : Int32) &&& 31))) ||| (x2 <<< ((6 : Int32) &&& 31))) >>> ((16 : Int32) &&& 31)).toInt8.toInt32), .int 0, .ref d] ?_
  refine Ap C S4 dK ⟨(by decide), (by decide)⟩ 0 rfl (Ak rfl) ((((((0 : Int32) ||| (x0 <<< ((18 : Int32) &&& 31))) ||| (x1 <<< ((12 : Int32) &&& 31))) ||| (x2 <<< ((6 : Int32) &&& 31))) >>> ((16 : Int32) &&& 31)).toInt8.toInt32) (Bc _) ge_d (by decide +kernel) ?_
  intro T8 h10 S9 W11 f12
  have f13 : Arv Z h10 d dk .byte (2 : Int32) ([(.int ((((((0 : Int32) ||| (x0 <<< ((18 : Int32) &&& 31))) ||| (x1 <<< ((12 : Int32) &&& 31))) ||| (x2 <<< ((6 : Int32) &&& 31))) >>> ((16 : Int32) &&& 31)).toInt8.toInt32)), (.int 0)]) (.int 0) := f12
  refine Ac C S9 [(324, .aload 4, 2), (326, .iload 6, 2), (328, .iinc 6 1, 3), (331, .iload 7, 2), (333, .bipush 8, 2), (335, .ishr, 1), (336, .i2b, 1)] 337 #[Ab DE, Ab b, Aa 3, Aa 3, Ab d, Ab TB, Aa 2, Aa ((((0 : Int32) ||| (x0 <<< ((18 : Int32) &&& 31))) ||| (x1 <<< ((12 : Int32) &&& 31))) ||| (x2 <<< ((6 : Int32) &&& 31))), Aa 0, Aa x2, .unset] [.int ((((((0 : Int32) ||| (x0 <<< ((18 : Int32) &&& 31))) ||| (x1 <<< ((12 : Int32) &&& 31))) ||| (x2 <<< ((6 : Int32) &&& 31))) >>> ((8 : Int32) &&& 31)).toInt8.toInt32), .int 1, .ref d] ?_
  refine Ap C S9 f13 ⟨(by decide), (by decide)⟩ 1 rfl (Ak rfl) ((((((0 : Int32) ||| (x0 <<< ((18 : Int32) &&& 31))) ||| (x1 <<< ((12 : Int32) &&& 31))) ||| (x2 <<< ((6 : Int32) &&& 31))) >>> ((8 : Int32) &&& 31)).toInt8.toInt32) (Bc _) ge_d (by decide +kernel) ?_
  intro T14 h16 S15 W17 f18
  have f19 : Arv Z h16 d dk .byte (2 : Int32) ([(.int ((((((0 : Int32) ||| (x0 <<< ((18 : Int32) &&& 31))) ||| (x1 <<< ((12 : Int32) &&& 31))) ||| (x2 <<< ((6 : Int32) &&& 31))) >>> ((16 : Int32) &&& 31)).toInt8.toInt32)), (.int ((((((0 : Int32) ||| (x0 <<< ((18 : Int32) &&& 31))) ||| (x1 <<< ((12 : Int32) &&& 31))) ||| (x2 <<< ((6 : Int32) &&& 31))) >>> ((8 : Int32) &&& 31)).toInt8.toInt32))]) (.int 0) := f18
  refine Ac C S15 [(338, .goto 20, 3), (358, .iload_n 2, 1), (359, .iload_n 3, 1), (360, .if_icmp .ge 56, 3), (416, .iload 6, 2)] 418 #[Ab DE, Ab b, Aa 3, Aa 3, Ab d, Ab TB, Aa 2, Aa ((((0 : Int32) ||| (x0 <<< ((18 : Int32) &&& 31))) ||| (x1 <<< ((12 : Int32) &&& 31))) ||| (x2 <<< ((6 : Int32) &&& 31))), Aa 0, Aa x2, .unset] [.int 2] ?_
  refine Bq C S15 (by decide +kernel) (by decide) (by decide) ?_
  exact ⟨rfl, (((Keep.refl _ _).wr W11 (Ba 0)).wr W17 (Ba 0)), f19⟩
theorem own_da3 (hw : Aj a0 Z) (G1 : Int32) (G3 : Value) (U8 : Addr) (I8 : Addr) (TB : Addr) (TBk : ClassId) (DE : Addr) (b : Addr) (bk : ClassId) (x0 : Int32) (x1 : Int32) (x2 : Int32) (h0 : Heap) (n0 : Nat) (z0 : n0 ≤ h0.size) (X00 : Old Z n0 h0) (TK : Arv Z h0 TB TBk .int 256 Bs (.int 0)) (DEx : Exa Z h0 DE "java/util/Base64$Decoder") (DEu : Fld Z h0 DE "java/util/Base64$Decoder" "isURL" "Z" (.int 1)) (DEm : Fld Z h0 DE "java/util/Base64$Decoder" "isMIME" "Z" (.int 0)) (b0 : Arv Z h0 b bk .byte (3 : Int32) ([(.int ((Ad x0).toInt8.toInt32)), (.int ((Ad x1).toInt8.toInt32)), (.int ((Ad x2).toInt8.toInt32))]) (.int 0)) (b1 : Exa Z h0 b "[B") (XS : Ax Z n0 G1 G3 U8 I8 TB DE) (hx0 : Ag x0) (hx1 : Ag x1) (hx2 : Ag x2) :
    Af l Z (⟨"java/util/Base64$Decoder", "decode", "([B)[B"⟩ : MethodName) jdk_2450_method_2_code 4 (some (.array .byte)) ({ frames := 1, cells := 1, slots := 2, locals := 22 } : Room) n0 #[(.ref DE), (.ref b)] h0 (fun v h => ∃ r : Addr, ∃ rk : ClassId, v = some (.ref r) ∧ h0.size ≤ r ∧ Keep h0 h [] ∧ Arv Z h r rk .byte (2 : Int32) ([(.int (Ay (Ci x0 x1 x2))), (.int (Bk (Ci x0 x1 x2)))]) (.int 0)) := by
  refine Ar #[.val (.ref DE), .val (.ref b), .unset, .unset] ?_
  intro p e s m below meth c T0 C S0
  have XS_ := XS
  obtain ⟨O2, O4, P5, rG3, OU, OI, OT, OD, hUI, TBlt, DElt⟩ := XS_
  refine Ac C S0 [(0, .aload_n 0, 1), (1, .aload_n 1, 1), (2, .iconst 0, 1), (3, .aload_n 1, 1)] 4 #[Ab DE, Ab b, .unset, .unset] [.ref b, .int 0, .ref b, .ref DE] ?_
  refine Au C S0 b0 (by decide +kernel) ?_
  refine Co C S0 (ow hw 173 rfl) (ow hw 174 rfl) (ow hw 176 rfl) (ow hw 175 rfl) (ow hw 177 rfl) (by decide) (Af.pay (own_dl3 l Z a0 hw G1 G3 U8 I8 TB TBk DE b _ x0 x1 x2 h0 n0 z0 X00 TK DEx DEu DEm b0 b1 XS hx0 hx1 hx2) C 0 (ow hw 177 rfl) (ow hw 138 rfl) (by decide) (by decide)) (fun _ _ _ q => q.2) DEx [.ref b, .int 0, .int 3] [] rfl Eh rfl rfl rfl (Ak rfl) (by decide) (by decide) (by decide +kernel) ?_
  rintro T2 h3 v4 L5 S6 ⟨⟨rfl, e1⟩, -⟩
  rw [e1] at S6; clear e1
  refine Cp C S6 (aty := .byte) (ad := "[B") (by decide) (ow hw 35 rfl) (by decide +kernel) (by decide) 2 (by decide) (by decide) (by decide) (by decide) ?_
  intro T7 h9 a10 k11 S8 g12 E13 f14 x15
  have f16 : Arv Z h9 a10 k11 .byte (2 : Int32) ([(.int 0), (.int 0)]) (.int 0) := Arv.pad f14 (pad_rep [] (.int 0) 2)
  refine Ac C S8 [(10, .astore_n 2, 1), (11, .aload_n 0, 1), (12, .aload_n 1, 1), (13, .iconst 0, 1), (14, .aload_n 1, 1)] 15 #[Ab DE, Ab b, Ab a10, .unset] [.ref b, .int 0, .ref b, .ref DE] ?_
  have f17 := (b0.ext E13)
  refine Au C S8 f17 (by decide +kernel) ?_
  refine Ac C S8 [(16, .aload_n 2, 1)] 17 #[Ab DE, Ab b, Ab a10, .unset] [.ref a10, .int 3, .int 0, .ref b, .ref DE] ?_
  have f18 := (X00.ext E13)
  have f19 := (TK.ext E13)
  have f20 := (Exa.ext E13 DEx)
  have f21 := (Fld.ext E13 DEu)
  have f22 := (Fld.ext E13 DEm)
  have f23 := (Exa.ext E13 b1)
  have f24 : n0 ≤ h9.size := (Nat.le_trans z0 E13.1)
  have g25 : n0 ≤ a10 := by rw [g12]; exact z0
  have n26 : b ≠ a10 := by rw [g12]; exact Nat.ne_of_lt b0.lt
  refine Co C S8 (ow hw 185 rfl) (ow hw 186 rfl) (ow hw 188 rfl) (ow hw 187 rfl) (ow hw 189 rfl) (by decide) (Af.pay (own_d03 l Z a0 hw G1 G3 U8 I8 TB TBk DE b _ a10 _ x0 x1 x2 h9 n0 f24 g25 f18 f19 f20 f21 f22 f17 f23 f16 n26 XS hx0 hx1 hx2) C 0 (ow hw 189 rfl) (ow hw 138 rfl) (by decide) (by decide)) (fun _ _ _ q => q.2) f20 [.ref b, .int 0, .int 3, .ref a10] [] rfl Ei rfl rfl rfl (Ak rfl) (by decide) (by decide) (by decide +kernel) ?_
  rintro T29 h30 v31 L32 S33 ⟨⟨rfl, K27, f28⟩, -⟩
  refine Ac C S33 [(20, .istore_n 3, 1), (21, .iload_n 3, 1), (22, .aload_n 2, 1)] 23 #[Ab DE, Ab b, Ab a10, Aa 2] [.ref a10, .int 2] ?_
  refine Au C S33 f28 (by decide +kernel) ?_
  refine Ac C S33 [(24, .if_icmp .eq 9, 3), (33, .aload_n 2, 1)] 34 #[Ab DE, Ab b, Ab a10, Aa 2] [.ref a10] ?_
  refine Az C S33 rfl rfl (by decide +kernel) (by decide) (by decide) ?_
  have o34 : h0.size ≤ a10 := by rw [g12]; exact (Nat.le_refl _)
  exact ⟨a10, k11, rfl, o34, (((Keep.refl _ _).ext E13).trans K27 (allS (Or.inr o34) all0)), f28⟩
theorem own_ds3 (hw : Aj a0 Z) (G1 : Int32) (G3 : Value) (U8 : Addr) (I8 : Addr) (TB : Addr) (TBk : ClassId) (DE : Addr) (x : Addr) (xt : Addr) (xtk : ClassId) (x0 : Int32) (x1 : Int32) (x2 : Int32) (h0 : Heap) (n0 : Nat) (z0 : n0 ≤ h0.size) (X00 : Old Z n0 h0) (TK : Arv Z h0 TB TBk .int 256 Bs (.int 0)) (DEx : Exa Z h0 DE "java/util/Base64$Decoder") (DEu : Fld Z h0 DE "java/util/Base64$Decoder" "isURL" "Z" (.int 1)) (DEm : Fld Z h0 DE "java/util/Base64$Decoder" "isMIME" "Z" (.int 0)) (s0 : Exa Z h0 x "java/lang/String") (s1 : Fld Z h0 x "java/lang/String" "value" "[B" (.ref xt)) (s2 : Fld Z h0 x "java/lang/String" "coder" "B" (.int 0)) (s3 : Arv Z h0 xt xtk .byte (3 : Int32) ([(.int ((Ad x0).toInt8.toInt32)), (.int ((Ad x1).toInt8.toInt32)), (.int ((Ad x2).toInt8.toInt32))]) (.int 0)) (s4 : Exa Z h0 xt "[B") (XS : Ax Z n0 G1 G3 U8 I8 TB DE) (hx0 : Ag x0) (hx1 : Ag x1) (hx2 : Ag x2) :
    Af l Z (⟨"java/util/Base64$Decoder", "decode", "(Ljava/lang/String;)[B"⟩ : MethodName) jdk_2450_method_3_code 2 (some (.array .byte)) ({ frames := 5, cells := 2, slots := 10, locals := 76 } : Room) n0 #[(.ref DE), (.ref x)] h0 (fun v h => ∃ r : Addr, ∃ rk : ClassId, v = some (.ref r) ∧ h0.size ≤ r ∧ Keep h0 h [] ∧ Arv Z h r rk .byte (2 : Int32) ([(.int (Ay (Ci x0 x1 x2))), (.int (Bk (Ci x0 x1 x2)))]) (.int 0)) := by
  refine Ar #[.val (.ref DE), .val (.ref x)] ?_
  intro p e s m below meth c T0 C S0
  have XS_ := XS
  obtain ⟨O2, O4, P5, rG3, OU, OI, OT, OD, hUI, TBlt, DElt⟩ := XS_
  refine Ac C S0 [(0, .aload_n 0, 1), (1, .aload_n 1, 1)] 2 #[Ab DE, Ab x] [.ref x, .ref DE] ?_
  refine Bi C S0 (ow hw 140 rfl) Via.refl (OI.ext X00.2) (by decide +kernel) ?_
  intro T1 S2
  refine Ah C S2 hw 142 143 145 145 144 146 19 (Fk l Z a0 hw G1 G3 U8 I8 TB DE x _ _ _ _ h0 n0 z0 X00 s0 s1 s2 s3 s4 XS (Ak rfl)) 1 s0 [.ref I8] [.ref DE] Ej ?_
  rintro T8 h9 v10 L11 S12 ⟨⟨a3, rfl, g4, K5, f6, f7⟩, -⟩
  have f13 := (X00.keep K5 all0)
  have f14 := (TK.keep K5 nin0)
  have f15 := (DEx.keep K5)
  have f16 := (DEu.keep K5 nin0)
  have f17 := (DEm.keep K5 nin0)
  have f18 : n0 ≤ h9.size := (Nat.le_trans z0 K5.1)
  refine Ah C S12 hw 168 169 171 171 170 172 138 (own_da3 l Z a0 hw G1 G3 U8 I8 TB TBk DE a3 _ x0 x1 x2 h9 n0 f18 f13 f14 f15 f16 f17 f6 f7 XS hx0 hx1 hx2) 0 f15 [.ref a3] [] Ek ?_
  rintro T24 h25 v26 L27 S28 ⟨⟨a19, k20, rfl, g21, K22, f23⟩, -⟩
  refine Az C S28 rfl rfl (by decide +kernel) (by decide) (by decide) ?_
  have o30 : h0.size ≤ h9.size := (Nat.le_trans (Nat.le_refl _) K5.1)
  have o29 : h0.size ≤ a19 := Nat.le_trans o30 g21
  exact ⟨a19, k20, rfl, o29, (((Keep.refl _ _).trans K5 all0).trans K22 all0), f23⟩
theorem own_du3 (hw : Aj a0 Z) (hEL : EW Z a0 Ca) (wS : ∀ a ∈ Bundle.stringAtoms, a.before a0 Z = true) (G1 : Int32) (G3 : Value) (U8 : Addr) (I8 : Addr) (TB : Addr) (TBk : ClassId) (DE : Addr) (x : Addr) (xt : Addr) (xtk : ClassId) (x0 : Int32) (x1 : Int32) (x2 : Int32) (h0 : Heap) (n0 : Nat) (z0 : n0 ≤ h0.size) (X00 : Old Z n0 h0) (TK : Arv Z h0 TB TBk .int 256 Bs (.int 0)) (DEx : Exa Z h0 DE "java/util/Base64$Decoder") (DEu : Fld Z h0 DE "java/util/Base64$Decoder" "isURL" "Z" (.int 1)) (DEm : Fld Z h0 DE "java/util/Base64$Decoder" "isMIME" "Z" (.int 0)) (s0 : Exa Z h0 x "java/lang/String") (s1 : Fld Z h0 x "java/lang/String" "value" "[B" (.ref xt)) (s2 : Fld Z h0 x "java/lang/String" "coder" "B" (.int 0)) (s3 : Arv Z h0 xt xtk .byte (3 : Int32) ([(.int ((Ad x0).toInt8.toInt32)), (.int ((Ad x1).toInt8.toInt32)), (.int ((Ad x2).toInt8.toInt32))]) (.int 0)) (s4 : Exa Z h0 xt "[B") (XS : Ax Z n0 G1 G3 U8 I8 TB DE) (hx0 : Ag x0) (hx1 : Ag x1) (hx2 : Ag x2) (hs : (x2 &&& (((1 : Int32) <<< ((2 : Int32) &&& 31)) - (1 : Int32))) = (0 : Int32)) :
    Cf l Z Ca (⟨"com/example/torrey/torrey/Base64Url", "decode", "(Ljava/lang/String;)[B"⟩ : MethodName) prog_1_method_3_code 3 (some (.array .byte)) ({ frames := 6, cells := 4, slots := 30, locals := 89 } : Room) n0 #[(.ref x)] h0 [] (fun v h => ∃ r : Addr, ∃ rk : ClassId, v = some (.ref r) ∧ h0.size ≤ r ∧ Keep h0 h [] ∧ Arv Z h r rk .byte (2 : Int32) ([(.int (Ay (Ci x0 x1 x2))), (.int (Bk (Ci x0 x1 x2)))]) (.int 0)) := by
  refine Cm hEL wS (by decide +kernel) #[.val (.ref x), .unset, .unset] (fun m => by first | (simp [entryFrame, mkF, argsToLocals, Value.category]; done) | rfl) ?_
  intro p e s m below meth c T0 CW SW0
  have XS_ := XS
  obtain ⟨O2, O4, P5, rG3, OU, OI, OT, OD, hUI, TBlt, DElt⟩ := XS_
  refine Av CW SW0 ?_
  intro vm1 C S2 rb3
  refine Ac C S2 [(0, .aload_n 0, 1)] 1 #[Ab x, .unset, .unset] [.ref x] ?_
  have SW4 := rb3 _ _ _ _ [] [] S2 (Keep.refl _ _) all0 all0
  refine Cu CW SW4 (ow hw 50 rfl) (by decide +kernel) 16 (by decide) (by decide) (by decide) (by decide) ?_
  intro T5 h6 a7 SW8 E9
  have f10 : n0 ≤ h6.size := (Nat.le_trans z0 E9.1)
  refine Av CW SW8 ?_
  intro vm17 C S18 rb19
  refine Ae C S18 hw 53 54 55 56 (De l Z a0 hw x a7 h6 n0 f10) 0 [.ref x, .ref a7] [] Cv ?_
  rintro T12 h13 v14 L15 S16 ⟨⟨rfl, e11⟩, -⟩
  rw [e11] at S16; clear e11
  refine Ac C S16 [(6, .pop, 1), (7, .iconst 0, 1), (8, .istore_n 1, 1), (9, .iload_n 1, 1), (10, .aload_n 0, 1)] 11 #[Ab x, Aa 0, .unset] [.ref x, .int 0] ?_
  have f20 := (X00.ext E9)
  have f21 := (Exa.ext E9 s0)
  have f22 := (Fld.ext E9 s1)
  have f23 := (Fld.ext E9 s2)
  have f24 := (s3.ext E9)
  refine Ah C S16 hw 57 58 60 60 59 61 19 (At l Z a0 hw G1 G3 x _ _ _ _ h6 n0 f10 f20 f21 f22 f23 f24 O2 O4 P5 rG3) 1 f21 [] [.int 0] Al ?_
  rintro T26 h27 v28 L29 S30 ⟨⟨rfl, e25⟩, -⟩
  rw [e25] at S30; clear e25
  refine Ac C S30 [(14, .if_icmp .ge 39, 3), (17, .aload_n 0, 1), (18, .iload_n 1, 1)] 19 #[Ab x, Aa 0, .unset] [.int 0, .ref x] ?_
  refine Ah C S30 hw 67 68 70 70 69 71 19 (Bm l Z a0 hw G1 G3 x _ _ _ _ 0 ((Ad x0).toInt8.toInt32) (Ad x0) h6 n0 f10 f20 f21 f22 f23 f24 O2 O4 P5 rG3 (⟨(by decide), (by decide)⟩) rfl (Ce hx0) (Ai hx0)) 0 f21 [.int 0] [] Be ?_
  rintro T32 h33 v34 L35 S36 ⟨⟨rfl, e31⟩, -⟩
  rw [e31] at S36; clear e31
  refine Ae C S36 hw 129 130 48 131 (Bw l Z a0 hw x0 h6 n0 f10 hx0) 0 [.int (Ad x0)] [] Bx ?_
  rintro T38 h39 v40 L41 S42 ⟨⟨rfl, e37⟩, -⟩
  rw [e37] at S42; clear e37
  refine Bh C S42 .ge 22 47 (fun (q43 : ¬ x0 < (0 : Int32)) => ?_) (fun (hq : x0 < (0 : Int32)) => False.elim (Cd hx0 hq))
  refine Ac C S42 [(47, .iinc 1 1, 3), (50, .goto (-41), 3), (9, .iload_n 1, 1), (10, .aload_n 0, 1)] 11 #[Ab x, Aa 1, .unset] [.ref x, .int 1] ?_
  refine Ah C S42 hw 57 58 60 60 59 61 19 (At l Z a0 hw G1 G3 x _ _ _ _ h6 n0 f10 f20 f21 f22 f23 f24 O2 O4 P5 rG3) 1 f21 [] [.int 1] Al ?_
  rintro T45 h46 v47 L48 S49 ⟨⟨rfl, e44⟩, -⟩
  rw [e44] at S49; clear e44
  refine Ac C S49 [(14, .if_icmp .ge 39, 3), (17, .aload_n 0, 1), (18, .iload_n 1, 1)] 19 #[Ab x, Aa 1, .unset] [.int 1, .ref x] ?_
  refine Ah C S49 hw 67 68 70 70 69 71 19 (Bm l Z a0 hw G1 G3 x _ _ _ _ 1 ((Ad x1).toInt8.toInt32) (Ad x1) h6 n0 f10 f20 f21 f22 f23 f24 O2 O4 P5 rG3 (⟨(by decide), (by decide)⟩) rfl (Ce hx1) (Ai hx1)) 0 f21 [.int 1] [] Be ?_
  rintro T51 h52 v53 L54 S55 ⟨⟨rfl, e50⟩, -⟩
  rw [e50] at S55; clear e50
  refine Ae C S55 hw 129 130 48 131 (Bw l Z a0 hw x1 h6 n0 f10 hx1) 0 [.int (Ad x1)] [] Bx ?_
  rintro T57 h58 v59 L60 S61 ⟨⟨rfl, e56⟩, -⟩
  rw [e56] at S61; clear e56
  refine Bh C S61 .ge 22 47 (fun (q62 : ¬ x1 < (0 : Int32)) => ?_) (fun (hq : x1 < (0 : Int32)) => False.elim (Cd hx1 hq))
  refine Ac C S61 [(47, .iinc 1 1, 3), (50, .goto (-41), 3), (9, .iload_n 1, 1), (10, .aload_n 0, 1)] 11 #[Ab x, Aa 2, .unset] [.ref x, .int 2] ?_
  refine Ah C S61 hw 57 58 60 60 59 61 19 (At l Z a0 hw G1 G3 x _ _ _ _ h6 n0 f10 f20 f21 f22 f23 f24 O2 O4 P5 rG3) 1 f21 [] [.int 2] Al ?_
  rintro T64 h65 v66 L67 S68 ⟨⟨rfl, e63⟩, -⟩
  rw [e63] at S68; clear e63
  refine Ac C S68 [(14, .if_icmp .ge 39, 3), (17, .aload_n 0, 1), (18, .iload_n 1, 1)] 19 #[Ab x, Aa 2, .unset] [.int 2, .ref x] ?_
  refine Ah C S68 hw 67 68 70 70 69 71 19 (Bm l Z a0 hw G1 G3 x _ _ _ _ 2 ((Ad x2).toInt8.toInt32) (Ad x2) h6 n0 f10 f20 f21 f22 f23 f24 O2 O4 P5 rG3 (⟨(by decide), (by decide)⟩) rfl (Ce hx2) (Ai hx2)) 0 f21 [.int 2] [] Be ?_
  rintro T70 h71 v72 L73 S74 ⟨⟨rfl, e69⟩, -⟩
  rw [e69] at S74; clear e69
  refine Ae C S74 hw 129 130 48 131 (Bw l Z a0 hw x2 h6 n0 f10 hx2) 0 [.int (Ad x2)] [] Bx ?_
  rintro T76 h77 v78 L79 S80 ⟨⟨rfl, e75⟩, -⟩
  rw [e75] at S80; clear e75
  refine Bh C S80 .ge 22 47 (fun (q81 : ¬ x2 < (0 : Int32)) => ?_) (fun (hq : x2 < (0 : Int32)) => False.elim (Cd hx2 hq))
  refine Ac C S80 [(47, .iinc 1 1, 3), (50, .goto (-41), 3), (9, .iload_n 1, 1), (10, .aload_n 0, 1)] 11 #[Ab x, Aa 3, .unset] [.ref x, .int 3] ?_
  refine Ah C S80 hw 57 58 60 60 59 61 19 (At l Z a0 hw G1 G3 x _ _ _ _ h6 n0 f10 f20 f21 f22 f23 f24 O2 O4 P5 rG3) 1 f21 [] [.int 3] Al ?_
  rintro T83 h84 v85 L86 S87 ⟨⟨rfl, e82⟩, -⟩
  rw [e82] at S87; clear e82
  refine Ac C S87 [(14, .if_icmp .ge 39, 3), (53, .aload_n 0, 1)] 54 #[Ab x, Aa 3, .unset] [.ref x] ?_
  refine Ah C S87 hw 57 58 60 60 59 61 19 (At l Z a0 hw G1 G3 x _ _ _ _ h6 n0 f10 f20 f21 f22 f23 f24 O2 O4 P5 rG3) 0 f21 [] [] Al ?_
  rintro T89 h90 v91 L92 S93 ⟨⟨rfl, e88⟩, -⟩
  rw [e88] at S93; clear e88
  refine Ac C S93 [(57, .iconst 1, 1), (58, .isub, 1), (59, .istore_n 1, 1), (60, .aload_n 0, 1)] 61 #[Ab x, Aa 2, .unset] [.ref x] ?_
  refine Ah C S93 hw 57 58 60 60 59 61 19 (At l Z a0 hw G1 G3 x _ _ _ _ h6 n0 f10 f20 f21 f22 f23 f24 O2 O4 P5 rG3) 0 f21 [] [] Al ?_
  rintro T95 h96 v97 L98 S99 ⟨⟨rfl, e94⟩, -⟩
  rw [e94] at S99; clear e94
  refine Ac C S99 [(64, .iconst 4, 1)] 65 #[Ab x, Aa 2, .unset] [.int 4, .int 3] ?_
  refine Dj C S99 (by decide +kernel) (by decide) ?_
  refine own_tsi C S99 (df := 53) (lo := 1) (hi := 3) (offs := #[26, 45, 49]) (len := 26) (o := 49) (by decide +kernel) (by decide) (by decide) (by decide) 115 (by decide) ?_
  refine Ac C S99 [(115, .iconst 2, 1), (116, .goto 4, 3), (120, .istore_n 2, 1), (121, .iload_n 2, 1), (122, .ifCond .le 39, 3), (125, .aload_n 0, 1), (126, .iload_n 1, 1)] 127 #[Ab x, Aa 2, Aa 2] [.int 2, .ref x] ?_
  refine Ah C S99 hw 67 68 70 70 69 71 19 (Bm l Z a0 hw G1 G3 x _ _ _ _ 2 ((Ad x2).toInt8.toInt32) (Ad x2) h6 n0 f10 f20 f21 f22 f23 f24 O2 O4 P5 rG3 (⟨(by decide), (by decide)⟩) rfl (Ce hx2) (Ai hx2)) 0 f21 [.int 2] [] Be ?_
  rintro T101 h102 v103 L104 S105 ⟨⟨rfl, e100⟩, -⟩
  rw [e100] at S105; clear e100
  refine Ae C S105 hw 129 130 48 131 (Bw l Z a0 hw x2 h6 n0 f10 hx2) 0 [.int (Ad x2)] [] Bx ?_
  rintro T107 h108 v109 L110 S111 ⟨⟨rfl, e106⟩, -⟩
  rw [e106] at S111; clear e106
  refine Ac C S111 [(133, .iconst 1, 1), (134, .iload_n 2, 1), (135, .ishl, 1), (136, .iconst 1, 1), (137, .isub, 1), (138, .iand, 1)] 139 #[Ab x, Aa 2, Aa 2] [.int (x2 &&& (((1 : Int32) <<< ((2 : Int32) &&& 31)) - (1 : Int32)))] ?_
  refine Bh C S111 .eq 22 161 (fun (q112 : (x2 &&& (((1 : Int32) <<< ((2 : Int32) &&& 31)) - (1 : Int32))) = (0 : Int32)) => ?_) (fun (hq : ¬ (x2 &&& (((1 : Int32) <<< ((2 : Int32) &&& 31)) - (1 : Int32))) = (0 : Int32)) => False.elim (hq hs))
  refine Bi C S111 (ow hw 132 rfl) Via.refl (OD.ext f20.2) (by decide +kernel) ?_
  intro T113 S114
  refine Ac C S114 [(164, .aload_n 0, 1)] 165 #[Ab x, Aa 2, Aa 2] [.ref x, .ref DE] ?_
  have f115 := (TK.ext E9)
  have f116 := (Exa.ext E9 DEx)
  have f117 := (Fld.ext E9 DEu)
  have f118 := (Fld.ext E9 DEm)
  have f119 := (Exa.ext E9 s4)
  refine Ah C S114 hw 134 135 137 137 136 139 138 (own_ds3 l Z a0 hw G1 G3 U8 I8 TB TBk DE x _ _ x0 x1 x2 h6 n0 f10 f20 f115 f116 f117 f118 f21 f22 f23 f24 f119 XS hx0 hx1 hx2) 0 f116 [.ref x] [] Cb ?_
  rintro T125 h126 v127 L128 S129 ⟨⟨a120, k121, rfl, g122, K123, f124⟩, -⟩
  have o130 : h6.size ≤ a120 := Nat.le_trans (Nat.le_refl _) g122
  have SW131 := rb19 _ _ _ _ [] [a120] S129 ((Keep.refl _ _).trans K123 all0) all0 (allS ⟨o130, f124.lt⟩ all0)
  refine Ck CW SW131 rfl rfl (by decide +kernel) (by decide) (by decide) ?_
  have o133 : h0.size ≤ h6.size := (Nat.le_trans (Nat.le_refl _) E9.1)
  have o132 : h0.size ≤ a120 := Nat.le_trans o133 g122
  exact ⟨a120, k121, rfl, o132, (((Keep.refl _ _).ext E9).trans K123 all0), f124⟩
theorem own_dl4 (hw : Aj a0 Z) (G1 : Int32) (G3 : Value) (U8 : Addr) (I8 : Addr) (TB : Addr) (TBk : ClassId) (DE : Addr) (b : Addr) (bk : ClassId) (x0 : Int32) (x1 : Int32) (x2 : Int32) (x3 : Int32) (h0 : Heap) (n0 : Nat) (z0 : n0 ≤ h0.size) (X00 : Old Z n0 h0) (TK : Arv Z h0 TB TBk .int 256 Bs (.int 0)) (DEx : Exa Z h0 DE "java/util/Base64$Decoder") (DEu : Fld Z h0 DE "java/util/Base64$Decoder" "isURL" "Z" (.int 1)) (DEm : Fld Z h0 DE "java/util/Base64$Decoder" "isMIME" "Z" (.int 0)) (b0 : Arv Z h0 b bk .byte (4 : Int32) ([(.int ((Ad x0).toInt8.toInt32)), (.int ((Ad x1).toInt8.toInt32)), (.int ((Ad x2).toInt8.toInt32)), (.int ((Ad x3).toInt8.toInt32))]) (.int 0)) (b1 : Exa Z h0 b "[B") (XS : Ax Z n0 G1 G3 U8 I8 TB DE) (hx0 : Ag x0) (hx1 : Ag x1) (hx2 : Ag x2) (hx3 : Ag x3) :
    Af l Z (⟨"java/util/Base64$Decoder", "decodedOutLength", "([BII)I"⟩ : MethodName) jdk_2450_method_7_code 9 (some .int) ({ frames := 0, cells := 0, slots := 0, locals := 0 } : Room) n0 #[(.ref DE), (.ref b), (.int 0), (.int 4)] h0 (fun v h => v = some (.int 3) ∧ h = h0) := by
  refine Ar #[.val (.ref DE), .val (.ref b), .val (.int 0), .val (.int 4), .unset, .unset, .unset, .unset, .unset] ?_
  intro p e s m below meth c T0 C S0
  have XS_ := XS
  obtain ⟨O2, O4, P5, rG3, OU, OI, OT, OD, hUI, TBlt, DElt⟩ := XS_
  refine Ac C S0 [(0, .aload_n 0, 1)] 1 #[Ab DE, Ab b, Aa 0, Aa 4, .unset, .unset, .unset, .unset, .unset] [.ref DE] ?_
  refine Ch C S0 hw 178 DEu ?_
  intro T1 S2
  refine Ac C S2 [(4, .ifCond .eq 9, 3)] 7 #[Ab DE, Ab b, Aa 0, Aa 4, .unset, .unset, .unset, .unset, .unset] [] ?_
  refine Bi C S2 (ow hw 180 rfl) Via.refl (OT.ext X00.2) (by decide +kernel) ?_
  intro T3 S4
  refine Ac C S4 [(10, .goto 6, 3), (16, .astore 4, 2), (18, .iconst 0, 1), (19, .istore 5, 2), (21, .iload_n 3, 1), (22, .iload_n 2, 1), (23, .isub, 1), (24, .istore 6, 2), (26, .iload 6, 2), (28, .ifCond .ne 5, 3), (33, .iload 6, 2), (35, .iconst 2, 1), (36, .if_icmp .ge 30, 3), (66, .aload_n 0, 1)] 67 #[Ab DE, Ab b, Aa 0, Aa 4, Ab TB, Aa 0, Aa 4, .unset, .unset] [.ref DE] ?_
  refine Ch C S4 hw 181 DEm ?_
  intro T5 S6
  refine Ac C S6 [(70, .ifCond .eq 71, 3), (141, .aload_n 1, 1), (142, .iload_n 3, 1), (143, .iconst 1, 1), (144, .isub, 1)] 145 #[Ab DE, Ab b, Aa 0, Aa 4, Ab TB, Aa 0, Aa 4, .unset, .unset] [.int 3, .ref b] ?_
  refine Bb C S6 b0 ⟨(by decide), (by decide)⟩ (.int ((Ad x3).toInt8.toInt32)) rfl (by decide +kernel) ?_
  refine Ac C S6 [(146, .bipush 61, 2)] 148 #[Ab DE, Ab b, Aa 0, Aa 4, Ab TB, Aa 0, Aa 4, .unset, .unset] [.int 61, .int ((Ad x3).toInt8.toInt32)] ?_
  refine Bg C S6 .ne 19 167 (fun (q7 : ¬ ((Ad x3).toInt8.toInt32) = (61 : Int32)) => ?_) (fun (hq : ((Ad x3).toInt8.toInt32) = (61 : Int32)) => False.elim (Fe hx3 hq))
  refine Ac C S6 [(167, .iload 5, 2), (169, .ifCond .ne 18, 3), (172, .iload 6, 2), (174, .iconst 3, 1), (175, .iand, 1), (176, .ifCond .eq 11, 3), (187, .iconst 3, 1), (188, .iload 6, 2), (190, .i2l, 1)] 191 #[Ab DE, Ab b, Aa 0, Aa 4, Ab TB, Aa 0, Aa 4, .unset, .unset] [.long ((4 : Int32).toInt64), .int 3] ?_
  refine Dd C S6 (ow hw 183 rfl) (by decide +kernel) ?_
  refine Ac C S6 [(194, .ladd, 1)] 195 #[Ab DE, Ab b, Aa 0, Aa 4, Ab TB, Aa 0, Aa 4, .unset, .unset] [.long ((4 : Int32).toInt64 + 3), .int 3] ?_
  refine Dd C S6 (ow hw 184 rfl) (by decide +kernel) ?_
  refine Ew C S6 (by decide +kernel) (by decide) ?_
  rw [show (((4 : Int32).toInt64 + 3) / 4) = (1 : Int64) from (by decide)]
  refine Ac C S6 [(199, .l2i, 1), (200, .imul, 1), (201, .iload 5, 2), (203, .isub, 1)] 204 #[Ab DE, Ab b, Aa 0, Aa 4, Ab TB, Aa 0, Aa 4, .unset, .unset] [.int (((3 : Int32) * (1 : Int64).toInt32) - (0 : Int32))] ?_
  rw [show (((3 : Int32) * (1 : Int64).toInt32) - (0 : Int32)) = (3 : Int32) from (by decide)]
  refine Bq C S6 (by decide +kernel) (by decide) (by decide) ?_
  exact ⟨rfl, rfl⟩
theorem own_d04 (hw : Aj a0 Z) (G1 : Int32) (G3 : Value) (U8 : Addr) (I8 : Addr) (TB : Addr) (TBk : ClassId) (DE : Addr) (b : Addr) (bk : ClassId) (d : Addr) (dk : ClassId) (x0 : Int32) (x1 : Int32) (x2 : Int32) (x3 : Int32) (h0 : Heap) (n0 : Nat) (z0 : n0 ≤ h0.size) (ge_d : n0 ≤ d) (X00 : Old Z n0 h0) (TK : Arv Z h0 TB TBk .int 256 Bs (.int 0)) (DEx : Exa Z h0 DE "java/util/Base64$Decoder") (DEu : Fld Z h0 DE "java/util/Base64$Decoder" "isURL" "Z" (.int 1)) (DEm : Fld Z h0 DE "java/util/Base64$Decoder" "isMIME" "Z" (.int 0)) (b0 : Arv Z h0 b bk .byte (4 : Int32) ([(.int ((Ad x0).toInt8.toInt32)), (.int ((Ad x1).toInt8.toInt32)), (.int ((Ad x2).toInt8.toInt32)), (.int ((Ad x3).toInt8.toInt32))]) (.int 0)) (b1 : Exa Z h0 b "[B") (dK : Arv Z h0 d dk .byte (3 : Int32) ([(.int 0), (.int 0), (.int 0)]) (.int 0)) (ne_b_d : b ≠ d) (XS : Ax Z n0 G1 G3 U8 I8 TB DE) (hx0 : Ag x0) (hx1 : Ag x1) (hx2 : Ag x2) (hx3 : Ag x3) :
    Af l Z (⟨"java/util/Base64$Decoder", "decode0", "([BII[B)I"⟩ : MethodName) jdk_2450_method_9_code 11 (some .int) ({ frames := 0, cells := 0, slots := 0, locals := 0 } : Room) n0 #[(.ref DE), (.ref b), (.int 0), (.int 4), (.ref d)] h0 (fun v h => v = some (.int 3) ∧ Keep h0 h [d] ∧ Arv Z h d dk .byte (3 : Int32) ([(.int (Ay (Cz x0 x1 x2 x3))), (.int (Bk (Cz x0 x1 x2 x3))), (.int (Cc (Cz x0 x1 x2 x3)))]) (.int 0)) := by
  refine Ar #[.val (.ref DE), .val (.ref b), .val (.int 0), .val (.int 4), .val (.ref d), .unset, .unset, .unset, .unset, .unset, .unset] ?_
  intro p e s m below meth c T0 C S0
  have XS_ := XS
  obtain ⟨O2, O4, P5, rG3, OU, OI, OT, OD, hUI, TBlt, DElt⟩ := XS_
  refine Ac C S0 [(0, .aload_n 0, 1)] 1 #[Ab DE, Ab b, Aa 0, Aa 4, Ab d, .unset, .unset, .unset, .unset, .unset, .unset] [.ref DE] ?_
  refine Ch C S0 hw 178 DEu ?_
  intro T1 S2
  refine Ac C S2 [(4, .ifCond .eq 9, 3)] 7 #[Ab DE, Ab b, Aa 0, Aa 4, Ab d, .unset, .unset, .unset, .unset, .unset, .unset] [] ?_
  refine Bi C S2 (ow hw 180 rfl) Via.refl (OT.ext X00.2) (by decide +kernel) ?_
  intro T3 S4
  refine Ac C S4 [(10, .goto 6, 3), (16, .astore 5, 2), (18, .iconst 0, 1), (19, .istore 6, 2), (21, .iconst 0, 1), (22, .istore 7, 2), (24, .bipush 18, 2), (26, .istore 8, 2), (28, .iload_n 2, 1), (29, .iload_n 3, 1), (30, .if_icmp .ge 251, 3), (33, .iload 8, 2), (35, .bipush 18, 2), (37, .if_icmp .ne 53, 3), (40, .iload_n 2, 1), (41, .iload_n 3, 1), (42, .iconst 4, 1), (43, .isub, 1), (44, .if_icmp .ge 46, 3), (90, .iload_n 2, 1), (91, .iload_n 3, 1), (92, .if_icmp .lt 6, 3), (98, .aload_n 1, 1), (99, .iload_n 2, 1), (100, .iinc 2 1, 3)] 103 #[Ab DE, Ab b, Aa 1, Aa 4, Ab d, Ab TB, Aa 0, Aa 0, Aa 18, .unset, .unset] [.int 0, .ref b] ?_
  refine Bb C S4 b0 ⟨(by decide), (by decide)⟩ (.int ((Ad x0).toInt8.toInt32)) rfl (by decide +kernel) ?_
  refine Ac C S4 [(104, .sipush 255, 3), (107, .iand, 1), (108, .istore 9, 2), (110, .aload 5, 2), (112, .iload 9, 2)] 114 #[Ab DE, Ab b, Aa 1, Aa 4, Ab d, Ab TB, Aa 0, Aa 0, Aa 18, Aa ((Ad x0).toInt8.toInt32 &&& (255 : Int32)), .unset] [.int ((Ad x0).toInt8.toInt32 &&& (255 : Int32)), .ref TB] ?_
  refine Bl C S4 TK (Cr hx0) (.int x0) (Cq hx0) (by decide +kernel) ?_
  refine Ac C S4 [(115, .dup, 1), (116, .istore 9, 2)] 118 #[Ab DE, Ab b, Aa 1, Aa 4, Ab d, Ab TB, Aa 0, Aa 0, Aa 18, Aa x0, .unset] [.int x0] ?_
  refine Bh C S4 .ge 96 214 (fun (q5 : ¬ x0 < (0 : Int32)) => ?_) (fun (hq : x0 < (0 : Int32)) => False.elim (Cd hx0 hq))
  refine Ac C S4 [(214, .iload 7, 2), (216, .iload 9, 2), (218, .iload 8, 2), (220, .ishl, 1), (221, .ior, 1), (222, .istore 7, 2), (224, .iinc 8 (-6), 3), (227, .iload 8, 2), (229, .ifCond .ge 49, 3), (278, .goto (-250), 3), (28, .iload_n 2, 1), (29, .iload_n 3, 1), (30, .if_icmp .ge 251, 3), (33, .iload 8, 2), (35, .bipush 18, 2), (37, .if_icmp .ne 53, 3), (90, .iload_n 2, 1), (91, .iload_n 3, 1), (92, .if_icmp .lt 6, 3), (98, .aload_n 1, 1), (99, .iload_n 2, 1), (100, .iinc 2 1, 3)] 103 #[Ab DE, Ab b, Aa 2, Aa 4, Ab d, Ab TB, Aa 0, Aa ((0 : Int32) ||| (x0 <<< ((18 : Int32) &&& 31))), Aa 12, Aa x0, .unset] [.int 1, .ref b] ?_
  refine Bb C S4 b0 ⟨(by decide), (by decide)⟩ (.int ((Ad x1).toInt8.toInt32)) rfl (by decide +kernel) ?_
  refine Ac C S4 [(104, .sipush 255, 3), (107, .iand, 1), (108, .istore 9, 2), (110, .aload 5, 2), (112, .iload 9, 2)] 114 #[Ab DE, Ab b, Aa 2, Aa 4, Ab d, Ab TB, Aa 0, Aa ((0 : Int32) ||| (x0 <<< ((18 : Int32) &&& 31))), Aa 12, Aa ((Ad x1).toInt8.toInt32 &&& (255 : Int32)), .unset] [.int ((Ad x1).toInt8.toInt32 &&& (255 : Int32)), .ref TB] ?_
  refine Bl C S4 TK (Cr hx1) (.int x1) (Cq hx1) (by decide +kernel) ?_
  refine Ac C S4 [(115, .dup, 1), (116, .istore 9, 2)] 118 #[Ab DE, Ab b, Aa 2, Aa 4, Ab d, Ab TB, Aa 0, Aa ((0 : Int32) ||| (x0 <<< ((18 : Int32) &&& 31))), Aa 12, Aa x1, .unset] [.int x1] ?_
  refine Bh C S4 .ge 96 214 (fun (q6 : ¬ x1 < (0 : Int32)) => ?_) (fun (hq : x1 < (0 : Int32)) => False.elim (Cd hx1 hq))
  refine Ac C S4 [(214, .iload 7, 2), (216, .iload 9, 2), (218, .iload 8, 2), (220, .ishl, 1), (221, .ior, 1), (222, .istore 7, 2), (224, .iinc 8 (-6), 3), (227, .iload 8, 2), (229, .ifCond .ge 49, 3), (278, .goto (-250), 3), (28, .iload_n 2, 1), (29, .iload_n 3, 1), (30, .if_icmp .ge 251, 3), (33, .iload 8, 2), (35, .bipush 18, 2), (37, .if_icmp .ne 53, 3), (90, .iload_n 2, 1), (91, .iload_n 3, 1), (92, .if_icmp .lt 6, 3), (98, .aload_n 1, 1), (99, .iload_n 2, 1), (100, .iinc 2 1, 3)] 103 #[Ab DE, Ab b, Aa 3, Aa 4, Ab d, Ab TB, Aa 0, Aa (((0 : Int32) ||| (x0 <<< ((18 : Int32) &&& 31))) ||| (x1 <<< ((12 : Int32) &&& 31))), Aa 6, Aa x1, .unset] [.int 2, .ref b] ?_
  refine Bb C S4 b0 ⟨(by decide), (by decide)⟩ (.int ((Ad x2).toInt8.toInt32)) rfl (by decide +kernel) ?_
  refine Ac C S4 [(104, .sipush 255, 3), (107, .iand, 1), (108, .istore 9, 2), (110, .aload 5, 2), (112, .iload 9, 2)] 114 #[Ab DE, Ab b, Aa 3, Aa 4, Ab d, Ab TB, Aa 0, Aa (((0 : Int32) ||| (x0 <<< ((18 : Int32) &&& 31))) ||| (x1 <<< ((12 : Int32) &&& 31))), Aa 6, Aa ((Ad x2).toInt8.toInt32 &&& (255 : Int32)), .unset] [.int ((Ad x2).toInt8.toInt32 &&& (255 : Int32)), .ref TB] ?_
  refine Bl C S4 TK (Cr hx2) (.int x2) (Cq hx2) (by decide +kernel) ?_
  refine Ac C S4 [(115, .dup, 1), (116, .istore 9, 2)] 118 #[Ab DE, Ab b, Aa 3, Aa 4, Ab d, Ab TB, Aa 0, Aa (((0 : Int32) ||| (x0 <<< ((18 : Int32) &&& 31))) ||| (x1 <<< ((12 : Int32) &&& 31))), Aa 6, Aa x2, .unset] [.int x2] ?_
  refine Bh C S4 .ge 96 214 (fun (q7 : ¬ x2 < (0 : Int32)) => ?_) (fun (hq : x2 < (0 : Int32)) => False.elim (Cd hx2 hq))
  refine Ac C S4 [(214, .iload 7, 2), (216, .iload 9, 2), (218, .iload 8, 2), (220, .ishl, 1), (221, .ior, 1), (222, .istore 7, 2), (224, .iinc 8 (-6), 3), (227, .iload 8, 2), (229, .ifCond .ge 49, 3), (278, .goto (-250), 3), (28, .iload_n 2, 1), (29, .iload_n 3, 1), (30, .if_icmp .ge 251, 3), (33, .iload 8, 2), (35, .bipush 18, 2), (37, .if_icmp .ne 53, 3), (90, .iload_n 2, 1), (91, .iload_n 3, 1), (92, .if_icmp .lt 6, 3), (98, .aload_n 1, 1), (99, .iload_n 2, 1), (100, .iinc 2 1, 3)] 103 #[Ab DE, Ab b, Aa 4, Aa 4, Ab d, Ab TB, Aa 0, Aa ((((0 : Int32) ||| (x0 <<< ((18 : Int32) &&& 31))) ||| (x1 <<< ((12 : Int32) &&& 31))) ||| (x2 <<< ((6 : Int32) &&& 31))), Aa 0, Aa x2, .unset] [.int 3, .ref b] ?_
  refine Bb C S4 b0 ⟨(by decide), (by decide)⟩ (.int ((Ad x3).toInt8.toInt32)) rfl (by decide +kernel) ?_
  refine Ac C S4 [(104, .sipush 255, 3), (107, .iand, 1), (108, .istore 9, 2), (110, .aload 5, 2), (112, .iload 9, 2)] 114 #[Ab DE, Ab b, Aa 4, Aa 4, Ab d, Ab TB, Aa 0, Aa ((((0 : Int32) ||| (x0 <<< ((18 : Int32) &&& 31))) ||| (x1 <<< ((12 : Int32) &&& 31))) ||| (x2 <<< ((6 : Int32) &&& 31))), Aa 0, Aa ((Ad x3).toInt8.toInt32 &&& (255 : Int32)), .unset] [.int ((Ad x3).toInt8.toInt32 &&& (255 : Int32)), .ref TB] ?_
  refine Bl C S4 TK (Cr hx3) (.int x3) (Cq hx3) (by decide +kernel) ?_
  refine Ac C S4 [(115, .dup, 1), (116, .istore 9, 2)] 118 #[Ab DE, Ab b, Aa 4, Aa 4, Ab d, Ab TB, Aa 0, Aa ((((0 : Int32) ||| (x0 <<< ((18 : Int32) &&& 31))) ||| (x1 <<< ((12 : Int32) &&& 31))) ||| (x2 <<< ((6 : Int32) &&& 31))), Aa 0, Aa x3, .unset] [.int x3] ?_
  refine Bh C S4 .ge 96 214 (fun (q8 : ¬ x3 < (0 : Int32)) => ?_) (fun (hq : x3 < (0 : Int32)) => False.elim (Cd hx3 hq))
  refine Ac C S4 [(214, .iload 7, 2), (216, .iload 9, 2), (218, .iload 8, 2), (220, .ishl, 1), (221, .ior, 1), (222, .istore 7, 2), (224, .iinc 8 (-6), 3), (227, .iload 8, 2), (229, .ifCond .ge 49, 3), (232, .aload 4, 2), (234, .iload 6, 2), (236, .iinc 6 1, 3), (239, .iload 7, 2), (241, .bipush 16, 2), (243, .ishr, 1), (244, .i2b, 1)] 245 #[Ab DE, Ab b, Aa 4, Aa 4, Ab d, Ab TB, Aa 1, Aa (((((0 : Int32) ||| (x0 <<< ((18 : Int32) &&& 31))) ||| (x1 <<< ((12 : Int32) &&& 31))) ||| (x2 <<< ((6 : Int32) &&& 31))) ||| (x3 <<< ((0 : Int32) &&& 31))), Aa (-6), Aa x3, .unset] [.int (((((((0 : Int32) ||| (x0 <<< ((18 : Int32) &&& 31))) ||| (x1 <<< ((12 : Int32) &&& 31))) ||| (x2 <<< ((6 : Int32) &&& 31))) ||| (x3 <<< ((0 : Int32) &&& 31))) >>> ((16 : Int32) &&& 31)).toInt8.toInt32), .int 0, .ref d] ?_
  refine Ap C S4 dK ⟨(by decide), (by decide)⟩ 0 rfl (Ak rfl) (((((((0 : Int32) ||| (x0 <<< ((18 : Int32) &&& 31))) ||| (x1 <<< ((12 : Int32) &&& 31))) ||| (x2 <<< ((6 : Int32) &&& 31))) ||| (x3 <<< ((0 : Int32) &&& 31))) >>> ((16 : Int32) &&& 31)).toInt8.toInt32) (Bc _) ge_d (by decide +kernel) ?_
  intro T9 h11 S10 W12 f13
  have f14 : Arv Z h11 d dk .byte (3 : Int32) ([(.int (((((((0 : Int32) ||| (x0 <<< ((18 : Int32) &&& 31))) ||| (x1 <<< ((12 : Int32) &&& 31))) ||| (x2 <<< ((6 : Int32) &&& 31))) ||| (x3 <<< ((0 : Int32) &&& 31))) >>> ((16 : Int32) &&& 31)).toInt8.toInt32)), (.int 0), (.int 0)]) (.int 0) := f13
  refine Ac C S10 [(246, .aload 4, 2), (248, .iload 6, 2), (250, .iinc 6 1, 3), (253, .iload 7, 2), (255, .bipush 8, 2), (257, .ishr, 1), (258, .i2b, 1)] 259 #[Ab DE, Ab b, Aa 4, Aa 4, Ab d, Ab TB, Aa 2, Aa (((((0 : Int32) ||| (x0 <<< ((18 : Int32) &&& 31))) ||| (x1 <<< ((12 : Int32) &&& 31))) ||| (x2 <<< ((6 : Int32) &&& 31))) ||| (x3 <<< ((0 : Int32) &&& 31))), Aa (-6), Aa x3, .unset] [.int (((((((0 : Int32) ||| (x0 <<< ((18 : Int32) &&& 31))) ||| (x1 <<< ((12 : Int32) &&& 31))) ||| (x2 <<< ((6 : Int32) &&& 31))) ||| (x3 <<< ((0 : Int32) &&& 31))) >>> ((8 : Int32) &&& 31)).toInt8.toInt32), .int 1, .ref d] ?_
  refine Ap C S10 f14 ⟨(by decide), (by decide)⟩ 1 rfl (Ak rfl) (((((((0 : Int32) ||| (x0 <<< ((18 : Int32) &&& 31))) ||| (x1 <<< ((12 : Int32) &&& 31))) ||| (x2 <<< ((6 : Int32) &&& 31))) ||| (x3 <<< ((0 : Int32) &&& 31))) >>> ((8 : Int32) &&& 31)).toInt8.toInt32) (Bc _) ge_d (by decide +kernel) ?_
  intro T15 h17 S16 W18 f19
  have f20 : Arv Z h17 d dk .byte (3 : Int32) ([(.int (((((((0 : Int32) ||| (x0 <<< ((18 : Int32) &&& 31))) ||| (x1 <<< ((12 : Int32) &&& 31))) ||| (x2 <<< ((6 : Int32) &&& 31))) ||| (x3 <<< ((0 : Int32) &&& 31))) >>> ((16 : Int32) &&& 31)).toInt8.toInt32)), (.int (((((((0 : Int32) ||| (x0 <<< ((18 : Int32) &&& 31))) ||| (x1 <<< ((12 : Int32) &&& 31))) ||| (x2 <<< ((6 : Int32) &&& 31))) ||| (x3 <<< ((0 : Int32) &&& 31))) >>> ((8 : Int32) &&& 31)).toInt8.toInt32)), (.int 0)]) (.int 0) := f19
  refine Ac C S16 [(260, .aload 4, 2), (262, .iload 6, 2), (264, .iinc 6 1, 3), (267, .iload 7, 2), (269, .i2b, 1)] 270 #[Ab DE, Ab b, Aa 4, Aa 4, Ab d, Ab TB, Aa 3, Aa (((((0 : Int32) ||| (x0 <<< ((18 : Int32) &&& 31))) ||| (x1 <<< ((12 : Int32) &&& 31))) ||| (x2 <<< ((6 : Int32) &&& 31))) ||| (x3 <<< ((0 : Int32) &&& 31))), Aa (-6), Aa x3, .unset] [.int ((((((0 : Int32) ||| (x0 <<< ((18 : Int32) &&& 31))) ||| (x1 <<< ((12 : Int32) &&& 31))) ||| (x2 <<< ((6 : Int32) &&& 31))) ||| (x3 <<< ((0 : Int32) &&& 31))).toInt8.toInt32), .int 2, .ref d] ?_
  refine Ap C S16 f20 ⟨(by decide), (by decide)⟩ 2 rfl (Ak rfl) ((((((0 : Int32) ||| (x0 <<< ((18 : Int32) &&& 31))) ||| (x1 <<< ((12 : Int32) &&& 31))) ||| (x2 <<< ((6 : Int32) &&& 31))) ||| (x3 <<< ((0 : Int32) &&& 31))).toInt8.toInt32) (Bc _) ge_d (by decide +kernel) ?_
  intro T21 h23 S22 W24 f25
  have f26 : Arv Z h23 d dk .byte (3 : Int32) ([(.int (((((((0 : Int32) ||| (x0 <<< ((18 : Int32) &&& 31))) ||| (x1 <<< ((12 : Int32) &&& 31))) ||| (x2 <<< ((6 : Int32) &&& 31))) ||| (x3 <<< ((0 : Int32) &&& 31))) >>> ((16 : Int32) &&& 31)).toInt8.toInt32)), (.int (((((((0 : Int32) ||| (x0 <<< ((18 : Int32) &&& 31))) ||| (x1 <<< ((12 : Int32) &&& 31))) ||| (x2 <<< ((6 : Int32) &&& 31))) ||| (x3 <<< ((0 : Int32) &&& 31))) >>> ((8 : Int32) &&& 31)).toInt8.toInt32)), (.int ((((((0 : Int32) ||| (x0 <<< ((18 : Int32) &&& 31))) ||| (x1 <<< ((12 : Int32) &&& 31))) ||| (x2 <<< ((6 : Int32) &&& 31))) ||| (x3 <<< ((0 : Int32) &&& 31))).toInt8.toInt32))]) (.int 0) := f25
  refine Ac C S22 [(271, .bipush 18, 2), (273, .istore 8, 2), (275, .iconst 0, 1), (276, .istore 7, 2), (278, .goto (-250), 3), (28, .iload_n 2, 1), (29, .iload_n 3, 1), (30, .if_icmp .ge 251, 3), (281, .iload 8, 2), (283, .bipush 6, 2), (285, .if_icmp .ne 20, 3), (305, .iload 8, 2), (307, .ifCond .ne 34, 3), (341, .iload 8, 2), (343, .bipush 12, 2), (345, .if_icmp .ne 13, 3), (358, .iload_n 2, 1), (359, .iload_n 3, 1), (360, .if_icmp .ge 56, 3), (416, .iload 6, 2)] 418 #[Ab DE, Ab b, Aa 4, Aa 4, Ab d, Ab TB, Aa 3, Aa 0, Aa 18, Aa x3, .unset] [.int 3] ?_
  refine Bq C S22 (by decide +kernel) (by decide) (by decide) ?_
  exact ⟨rfl, ((((Keep.refl _ _).wr W12 (Ba 0)).wr W18 (Ba 0)).wr W24 (Ba 0)), f26⟩
theorem own_da4 (hw : Aj a0 Z) (G1 : Int32) (G3 : Value) (U8 : Addr) (I8 : Addr) (TB : Addr) (TBk : ClassId) (DE : Addr) (b : Addr) (bk : ClassId) (x0 : Int32) (x1 : Int32) (x2 : Int32) (x3 : Int32) (h0 : Heap) (n0 : Nat) (z0 : n0 ≤ h0.size) (X00 : Old Z n0 h0) (TK : Arv Z h0 TB TBk .int 256 Bs (.int 0)) (DEx : Exa Z h0 DE "java/util/Base64$Decoder") (DEu : Fld Z h0 DE "java/util/Base64$Decoder" "isURL" "Z" (.int 1)) (DEm : Fld Z h0 DE "java/util/Base64$Decoder" "isMIME" "Z" (.int 0)) (b0 : Arv Z h0 b bk .byte (4 : Int32) ([(.int ((Ad x0).toInt8.toInt32)), (.int ((Ad x1).toInt8.toInt32)), (.int ((Ad x2).toInt8.toInt32)), (.int ((Ad x3).toInt8.toInt32))]) (.int 0)) (b1 : Exa Z h0 b "[B") (XS : Ax Z n0 G1 G3 U8 I8 TB DE) (hx0 : Ag x0) (hx1 : Ag x1) (hx2 : Ag x2) (hx3 : Ag x3) :
    Af l Z (⟨"java/util/Base64$Decoder", "decode", "([B)[B"⟩ : MethodName) jdk_2450_method_2_code 4 (some (.array .byte)) ({ frames := 1, cells := 1, slots := 3, locals := 22 } : Room) n0 #[(.ref DE), (.ref b)] h0 (fun v h => ∃ r : Addr, ∃ rk : ClassId, v = some (.ref r) ∧ h0.size ≤ r ∧ Keep h0 h [] ∧ Arv Z h r rk .byte (3 : Int32) ([(.int (Ay (Cz x0 x1 x2 x3))), (.int (Bk (Cz x0 x1 x2 x3))), (.int (Cc (Cz x0 x1 x2 x3)))]) (.int 0)) := by
  refine Ar #[.val (.ref DE), .val (.ref b), .unset, .unset] ?_
  intro p e s m below meth c T0 C S0
  have XS_ := XS
  obtain ⟨O2, O4, P5, rG3, OU, OI, OT, OD, hUI, TBlt, DElt⟩ := XS_
  refine Ac C S0 [(0, .aload_n 0, 1), (1, .aload_n 1, 1), (2, .iconst 0, 1), (3, .aload_n 1, 1)] 4 #[Ab DE, Ab b, .unset, .unset] [.ref b, .int 0, .ref b, .ref DE] ?_
  refine Au C S0 b0 (by decide +kernel) ?_
  refine Co C S0 (ow hw 173 rfl) (ow hw 174 rfl) (ow hw 176 rfl) (ow hw 175 rfl) (ow hw 177 rfl) (by decide) (Af.pay (own_dl4 l Z a0 hw G1 G3 U8 I8 TB TBk DE b _ x0 x1 x2 x3 h0 n0 z0 X00 TK DEx DEu DEm b0 b1 XS hx0 hx1 hx2 hx3) C 0 (ow hw 177 rfl) (ow hw 138 rfl) (by decide) (by decide)) (fun _ _ _ q => q.2) DEx [.ref b, .int 0, .int 4] [] rfl Eh rfl rfl rfl (Ak rfl) (by decide) (by decide) (by decide +kernel) ?_
  rintro T2 h3 v4 L5 S6 ⟨⟨rfl, e1⟩, -⟩
  rw [e1] at S6; clear e1
  refine Cp C S6 (aty := .byte) (ad := "[B") (by decide) (ow hw 35 rfl) (by decide +kernel) (by decide) 3 (by decide) (by decide) (by decide) (by decide) ?_
  intro T7 h9 a10 k11 S8 g12 E13 f14 x15
  have f16 : Arv Z h9 a10 k11 .byte (3 : Int32) ([(.int 0), (.int 0), (.int 0)]) (.int 0) := Arv.pad f14 (pad_rep [] (.int 0) 3)
  refine Ac C S8 [(10, .astore_n 2, 1), (11, .aload_n 0, 1), (12, .aload_n 1, 1), (13, .iconst 0, 1), (14, .aload_n 1, 1)] 15 #[Ab DE, Ab b, Ab a10, .unset] [.ref b, .int 0, .ref b, .ref DE] ?_
  have f17 := (b0.ext E13)
  refine Au C S8 f17 (by decide +kernel) ?_
  refine Ac C S8 [(16, .aload_n 2, 1)] 17 #[Ab DE, Ab b, Ab a10, .unset] [.ref a10, .int 4, .int 0, .ref b, .ref DE] ?_
  have f18 := (X00.ext E13)
  have f19 := (TK.ext E13)
  have f20 := (Exa.ext E13 DEx)
  have f21 := (Fld.ext E13 DEu)
  have f22 := (Fld.ext E13 DEm)
  have f23 := (Exa.ext E13 b1)
  have f24 : n0 ≤ h9.size := (Nat.le_trans z0 E13.1)
  have g25 : n0 ≤ a10 := by rw [g12]; exact z0
  have n26 : b ≠ a10 := by rw [g12]; exact Nat.ne_of_lt b0.lt
  refine Co C S8 (ow hw 185 rfl) (ow hw 186 rfl) (ow hw 188 rfl) (ow hw 187 rfl) (ow hw 189 rfl) (by decide) (Af.pay (own_d04 l Z a0 hw G1 G3 U8 I8 TB TBk DE b _ a10 _ x0 x1 x2 x3 h9 n0 f24 g25 f18 f19 f20 f21 f22 f17 f23 f16 n26 XS hx0 hx1 hx2 hx3) C 0 (ow hw 189 rfl) (ow hw 138 rfl) (by decide) (by decide)) (fun _ _ _ q => q.2) f20 [.ref b, .int 0, .int 4, .ref a10] [] rfl Ei rfl rfl rfl (Ak rfl) (by decide) (by decide) (by decide +kernel) ?_
  rintro T29 h30 v31 L32 S33 ⟨⟨rfl, K27, f28⟩, -⟩
  refine Ac C S33 [(20, .istore_n 3, 1), (21, .iload_n 3, 1), (22, .aload_n 2, 1)] 23 #[Ab DE, Ab b, Ab a10, Aa 3] [.ref a10, .int 3] ?_
  refine Au C S33 f28 (by decide +kernel) ?_
  refine Ac C S33 [(24, .if_icmp .eq 9, 3), (33, .aload_n 2, 1)] 34 #[Ab DE, Ab b, Ab a10, Aa 3] [.ref a10] ?_
  refine Az C S33 rfl rfl (by decide +kernel) (by decide) (by decide) ?_
  have o34 : h0.size ≤ a10 := by rw [g12]; exact (Nat.le_refl _)
  exact ⟨a10, k11, rfl, o34, (((Keep.refl _ _).ext E13).trans K27 (allS (Or.inr o34) all0)), f28⟩
theorem own_ds4 (hw : Aj a0 Z) (G1 : Int32) (G3 : Value) (U8 : Addr) (I8 : Addr) (TB : Addr) (TBk : ClassId) (DE : Addr) (x : Addr) (xt : Addr) (xtk : ClassId) (x0 : Int32) (x1 : Int32) (x2 : Int32) (x3 : Int32) (h0 : Heap) (n0 : Nat) (z0 : n0 ≤ h0.size) (X00 : Old Z n0 h0) (TK : Arv Z h0 TB TBk .int 256 Bs (.int 0)) (DEx : Exa Z h0 DE "java/util/Base64$Decoder") (DEu : Fld Z h0 DE "java/util/Base64$Decoder" "isURL" "Z" (.int 1)) (DEm : Fld Z h0 DE "java/util/Base64$Decoder" "isMIME" "Z" (.int 0)) (s0 : Exa Z h0 x "java/lang/String") (s1 : Fld Z h0 x "java/lang/String" "value" "[B" (.ref xt)) (s2 : Fld Z h0 x "java/lang/String" "coder" "B" (.int 0)) (s3 : Arv Z h0 xt xtk .byte (4 : Int32) ([(.int ((Ad x0).toInt8.toInt32)), (.int ((Ad x1).toInt8.toInt32)), (.int ((Ad x2).toInt8.toInt32)), (.int ((Ad x3).toInt8.toInt32))]) (.int 0)) (s4 : Exa Z h0 xt "[B") (XS : Ax Z n0 G1 G3 U8 I8 TB DE) (hx0 : Ag x0) (hx1 : Ag x1) (hx2 : Ag x2) (hx3 : Ag x3) :
    Af l Z (⟨"java/util/Base64$Decoder", "decode", "(Ljava/lang/String;)[B"⟩ : MethodName) jdk_2450_method_3_code 2 (some (.array .byte)) ({ frames := 5, cells := 2, slots := 11, locals := 76 } : Room) n0 #[(.ref DE), (.ref x)] h0 (fun v h => ∃ r : Addr, ∃ rk : ClassId, v = some (.ref r) ∧ h0.size ≤ r ∧ Keep h0 h [] ∧ Arv Z h r rk .byte (3 : Int32) ([(.int (Ay (Cz x0 x1 x2 x3))), (.int (Bk (Cz x0 x1 x2 x3))), (.int (Cc (Cz x0 x1 x2 x3)))]) (.int 0)) := by
  refine Ar #[.val (.ref DE), .val (.ref x)] ?_
  intro p e s m below meth c T0 C S0
  have XS_ := XS
  obtain ⟨O2, O4, P5, rG3, OU, OI, OT, OD, hUI, TBlt, DElt⟩ := XS_
  refine Ac C S0 [(0, .aload_n 0, 1), (1, .aload_n 1, 1)] 2 #[Ab DE, Ab x] [.ref x, .ref DE] ?_
  refine Bi C S0 (ow hw 140 rfl) Via.refl (OI.ext X00.2) (by decide +kernel) ?_
  intro T1 S2
  refine Ah C S2 hw 142 143 145 145 144 146 19 (Fk l Z a0 hw G1 G3 U8 I8 TB DE x _ _ _ _ h0 n0 z0 X00 s0 s1 s2 s3 s4 XS (Ak rfl)) 1 s0 [.ref I8] [.ref DE] Ej ?_
  rintro T8 h9 v10 L11 S12 ⟨⟨a3, rfl, g4, K5, f6, f7⟩, -⟩
  have f13 := (X00.keep K5 all0)
  have f14 := (TK.keep K5 nin0)
  have f15 := (DEx.keep K5)
  have f16 := (DEu.keep K5 nin0)
  have f17 := (DEm.keep K5 nin0)
  have f18 : n0 ≤ h9.size := (Nat.le_trans z0 K5.1)
  refine Ah C S12 hw 168 169 171 171 170 172 138 (own_da4 l Z a0 hw G1 G3 U8 I8 TB TBk DE a3 _ x0 x1 x2 x3 h9 n0 f18 f13 f14 f15 f16 f17 f6 f7 XS hx0 hx1 hx2 hx3) 0 f15 [.ref a3] [] Ek ?_
  rintro T24 h25 v26 L27 S28 ⟨⟨a19, k20, rfl, g21, K22, f23⟩, -⟩
  refine Az C S28 rfl rfl (by decide +kernel) (by decide) (by decide) ?_
  have o30 : h0.size ≤ h9.size := (Nat.le_trans (Nat.le_refl _) K5.1)
  have o29 : h0.size ≤ a19 := Nat.le_trans o30 g21
  exact ⟨a19, k20, rfl, o29, (((Keep.refl _ _).trans K5 all0).trans K22 all0), f23⟩
theorem own_du4 (hw : Aj a0 Z) (hEL : EW Z a0 Ca) (wS : ∀ a ∈ Bundle.stringAtoms, a.before a0 Z = true) (G1 : Int32) (G3 : Value) (U8 : Addr) (I8 : Addr) (TB : Addr) (TBk : ClassId) (DE : Addr) (x : Addr) (xt : Addr) (xtk : ClassId) (x0 : Int32) (x1 : Int32) (x2 : Int32) (x3 : Int32) (h0 : Heap) (n0 : Nat) (z0 : n0 ≤ h0.size) (X00 : Old Z n0 h0) (TK : Arv Z h0 TB TBk .int 256 Bs (.int 0)) (DEx : Exa Z h0 DE "java/util/Base64$Decoder") (DEu : Fld Z h0 DE "java/util/Base64$Decoder" "isURL" "Z" (.int 1)) (DEm : Fld Z h0 DE "java/util/Base64$Decoder" "isMIME" "Z" (.int 0)) (s0 : Exa Z h0 x "java/lang/String") (s1 : Fld Z h0 x "java/lang/String" "value" "[B" (.ref xt)) (s2 : Fld Z h0 x "java/lang/String" "coder" "B" (.int 0)) (s3 : Arv Z h0 xt xtk .byte (4 : Int32) ([(.int ((Ad x0).toInt8.toInt32)), (.int ((Ad x1).toInt8.toInt32)), (.int ((Ad x2).toInt8.toInt32)), (.int ((Ad x3).toInt8.toInt32))]) (.int 0)) (s4 : Exa Z h0 xt "[B") (XS : Ax Z n0 G1 G3 U8 I8 TB DE) (hx0 : Ag x0) (hx1 : Ag x1) (hx2 : Ag x2) (hx3 : Ag x3) :
    Cf l Z Ca (⟨"com/example/torrey/torrey/Base64Url", "decode", "(Ljava/lang/String;)[B"⟩ : MethodName) prog_1_method_3_code 3 (some (.array .byte)) ({ frames := 6, cells := 4, slots := 31, locals := 89 } : Room) n0 #[(.ref x)] h0 [] (fun v h => ∃ r : Addr, ∃ rk : ClassId, v = some (.ref r) ∧ h0.size ≤ r ∧ Keep h0 h [] ∧ Arv Z h r rk .byte (3 : Int32) ([(.int (Ay (Cz x0 x1 x2 x3))), (.int (Bk (Cz x0 x1 x2 x3))), (.int (Cc (Cz x0 x1 x2 x3)))]) (.int 0)) := by
  refine Cm hEL wS (by decide +kernel) #[.val (.ref x), .unset, .unset] (fun m => by first | (simp [entryFrame, mkF, argsToLocals, Value.category]; done) | rfl) ?_
  intro p e s m below meth c T0 CW SW0
  have XS_ := XS
  obtain ⟨O2, O4, P5, rG3, OU, OI, OT, OD, hUI, TBlt, DElt⟩ := XS_
  refine Av CW SW0 ?_
  intro vm1 C S2 rb3
  refine Ac C S2 [(0, .aload_n 0, 1)] 1 #[Ab x, .unset, .unset] [.ref x] ?_
  have SW4 := rb3 _ _ _ _ [] [] S2 (Keep.refl _ _) all0 all0
  refine Cu CW SW4 (ow hw 50 rfl) (by decide +kernel) 16 (by decide) (by decide) (by decide) (by decide) ?_
  intro T5 h6 a7 SW8 E9
  have f10 : n0 ≤ h6.size := (Nat.le_trans z0 E9.1)
  refine Av CW SW8 ?_
  intro vm17 C S18 rb19
  refine Ae C S18 hw 53 54 55 56 (De l Z a0 hw x a7 h6 n0 f10) 0 [.ref x, .ref a7] [] Cv ?_
  rintro T12 h13 v14 L15 S16 ⟨⟨rfl, e11⟩, -⟩
  rw [e11] at S16; clear e11
  refine Ac C S16 [(6, .pop, 1), (7, .iconst 0, 1), (8, .istore_n 1, 1), (9, .iload_n 1, 1), (10, .aload_n 0, 1)] 11 #[Ab x, Aa 0, .unset] [.ref x, .int 0] ?_
  have f20 := (X00.ext E9)
  have f21 := (Exa.ext E9 s0)
  have f22 := (Fld.ext E9 s1)
  have f23 := (Fld.ext E9 s2)
  have f24 := (s3.ext E9)
  refine Ah C S16 hw 57 58 60 60 59 61 19 (At l Z a0 hw G1 G3 x _ _ _ _ h6 n0 f10 f20 f21 f22 f23 f24 O2 O4 P5 rG3) 1 f21 [] [.int 0] Al ?_
  rintro T26 h27 v28 L29 S30 ⟨⟨rfl, e25⟩, -⟩
  rw [e25] at S30; clear e25
  refine Ac C S30 [(14, .if_icmp .ge 39, 3), (17, .aload_n 0, 1), (18, .iload_n 1, 1)] 19 #[Ab x, Aa 0, .unset] [.int 0, .ref x] ?_
  refine Ah C S30 hw 67 68 70 70 69 71 19 (Bm l Z a0 hw G1 G3 x _ _ _ _ 0 ((Ad x0).toInt8.toInt32) (Ad x0) h6 n0 f10 f20 f21 f22 f23 f24 O2 O4 P5 rG3 (⟨(by decide), (by decide)⟩) rfl (Ce hx0) (Ai hx0)) 0 f21 [.int 0] [] Be ?_
  rintro T32 h33 v34 L35 S36 ⟨⟨rfl, e31⟩, -⟩
  rw [e31] at S36; clear e31
  refine Ae C S36 hw 129 130 48 131 (Bw l Z a0 hw x0 h6 n0 f10 hx0) 0 [.int (Ad x0)] [] Bx ?_
  rintro T38 h39 v40 L41 S42 ⟨⟨rfl, e37⟩, -⟩
  rw [e37] at S42; clear e37
  refine Bh C S42 .ge 22 47 (fun (q43 : ¬ x0 < (0 : Int32)) => ?_) (fun (hq : x0 < (0 : Int32)) => False.elim (Cd hx0 hq))
  refine Ac C S42 [(47, .iinc 1 1, 3), (50, .goto (-41), 3), (9, .iload_n 1, 1), (10, .aload_n 0, 1)] 11 #[Ab x, Aa 1, .unset] [.ref x, .int 1] ?_
  refine Ah C S42 hw 57 58 60 60 59 61 19 (At l Z a0 hw G1 G3 x _ _ _ _ h6 n0 f10 f20 f21 f22 f23 f24 O2 O4 P5 rG3) 1 f21 [] [.int 1] Al ?_
  rintro T45 h46 v47 L48 S49 ⟨⟨rfl, e44⟩, -⟩
  rw [e44] at S49; clear e44
  refine Ac C S49 [(14, .if_icmp .ge 39, 3), (17, .aload_n 0, 1), (18, .iload_n 1, 1)] 19 #[Ab x, Aa 1, .unset] [.int 1, .ref x] ?_
  refine Ah C S49 hw 67 68 70 70 69 71 19 (Bm l Z a0 hw G1 G3 x _ _ _ _ 1 ((Ad x1).toInt8.toInt32) (Ad x1) h6 n0 f10 f20 f21 f22 f23 f24 O2 O4 P5 rG3 (⟨(by decide), (by decide)⟩) rfl (Ce hx1) (Ai hx1)) 0 f21 [.int 1] [] Be ?_
  rintro T51 h52 v53 L54 S55 ⟨⟨rfl, e50⟩, -⟩
  rw [e50] at S55; clear e50
  refine Ae C S55 hw 129 130 48 131 (Bw l Z a0 hw x1 h6 n0 f10 hx1) 0 [.int (Ad x1)] [] Bx ?_
  rintro T57 h58 v59 L60 S61 ⟨⟨rfl, e56⟩, -⟩
  rw [e56] at S61; clear e56
  refine Bh C S61 .ge 22 47 (fun (q62 : ¬ x1 < (0 : Int32)) => ?_) (fun (hq : x1 < (0 : Int32)) => False.elim (Cd hx1 hq))
  refine Ac C S61 [(47, .iinc 1 1, 3), (50, .goto (-41), 3), (9, .iload_n 1, 1), (10, .aload_n 0, 1)] 11 #[Ab x, Aa 2, .unset] [.ref x, .int 2] ?_
  refine Ah C S61 hw 57 58 60 60 59 61 19 (At l Z a0 hw G1 G3 x _ _ _ _ h6 n0 f10 f20 f21 f22 f23 f24 O2 O4 P5 rG3) 1 f21 [] [.int 2] Al ?_
  rintro T64 h65 v66 L67 S68 ⟨⟨rfl, e63⟩, -⟩
  rw [e63] at S68; clear e63
  refine Ac C S68 [(14, .if_icmp .ge 39, 3), (17, .aload_n 0, 1), (18, .iload_n 1, 1)] 19 #[Ab x, Aa 2, .unset] [.int 2, .ref x] ?_
  refine Ah C S68 hw 67 68 70 70 69 71 19 (Bm l Z a0 hw G1 G3 x _ _ _ _ 2 ((Ad x2).toInt8.toInt32) (Ad x2) h6 n0 f10 f20 f21 f22 f23 f24 O2 O4 P5 rG3 (⟨(by decide), (by decide)⟩) rfl (Ce hx2) (Ai hx2)) 0 f21 [.int 2] [] Be ?_
  rintro T70 h71 v72 L73 S74 ⟨⟨rfl, e69⟩, -⟩
  rw [e69] at S74; clear e69
  refine Ae C S74 hw 129 130 48 131 (Bw l Z a0 hw x2 h6 n0 f10 hx2) 0 [.int (Ad x2)] [] Bx ?_
  rintro T76 h77 v78 L79 S80 ⟨⟨rfl, e75⟩, -⟩
  rw [e75] at S80; clear e75
  refine Bh C S80 .ge 22 47 (fun (q81 : ¬ x2 < (0 : Int32)) => ?_) (fun (hq : x2 < (0 : Int32)) => False.elim (Cd hx2 hq))
  refine Ac C S80 [(47, .iinc 1 1, 3), (50, .goto (-41), 3), (9, .iload_n 1, 1), (10, .aload_n 0, 1)] 11 #[Ab x, Aa 3, .unset] [.ref x, .int 3] ?_
  refine Ah C S80 hw 57 58 60 60 59 61 19 (At l Z a0 hw G1 G3 x _ _ _ _ h6 n0 f10 f20 f21 f22 f23 f24 O2 O4 P5 rG3) 1 f21 [] [.int 3] Al ?_
  rintro T83 h84 v85 L86 S87 ⟨⟨rfl, e82⟩, -⟩
  rw [e82] at S87; clear e82
  refine Ac C S87 [(14, .if_icmp .ge 39, 3), (17, .aload_n 0, 1), (18, .iload_n 1, 1)] 19 #[Ab x, Aa 3, .unset] [.int 3, .ref x] ?_
  refine Ah C S87 hw 67 68 70 70 69 71 19 (Bm l Z a0 hw G1 G3 x _ _ _ _ 3 ((Ad x3).toInt8.toInt32) (Ad x3) h6 n0 f10 f20 f21 f22 f23 f24 O2 O4 P5 rG3 (⟨(by decide), (by decide)⟩) rfl (Ce hx3) (Ai hx3)) 0 f21 [.int 3] [] Be ?_
  rintro T89 h90 v91 L92 S93 ⟨⟨rfl, e88⟩, -⟩
  rw [e88] at S93; clear e88
  refine Ae C S93 hw 129 130 48 131 (Bw l Z a0 hw x3 h6 n0 f10 hx3) 0 [.int (Ad x3)] [] Bx ?_
  rintro T95 h96 v97 L98 S99 ⟨⟨rfl, e94⟩, -⟩
  rw [e94] at S99; clear e94
  refine Bh C S99 .ge 22 47 (fun (q100 : ¬ x3 < (0 : Int32)) => ?_) (fun (hq : x3 < (0 : Int32)) => False.elim (Cd hx3 hq))
  refine Ac C S99 [(47, .iinc 1 1, 3), (50, .goto (-41), 3), (9, .iload_n 1, 1), (10, .aload_n 0, 1)] 11 #[Ab x, Aa 4, .unset] [.ref x, .int 4] ?_
  refine Ah C S99 hw 57 58 60 60 59 61 19 (At l Z a0 hw G1 G3 x _ _ _ _ h6 n0 f10 f20 f21 f22 f23 f24 O2 O4 P5 rG3) 1 f21 [] [.int 4] Al ?_
  rintro T102 h103 v104 L105 S106 ⟨⟨rfl, e101⟩, -⟩
  rw [e101] at S106; clear e101
  refine Ac C S106 [(14, .if_icmp .ge 39, 3), (53, .aload_n 0, 1)] 54 #[Ab x, Aa 4, .unset] [.ref x] ?_
  refine Ah C S106 hw 57 58 60 60 59 61 19 (At l Z a0 hw G1 G3 x _ _ _ _ h6 n0 f10 f20 f21 f22 f23 f24 O2 O4 P5 rG3) 0 f21 [] [] Al ?_
  rintro T108 h109 v110 L111 S112 ⟨⟨rfl, e107⟩, -⟩
  rw [e107] at S112; clear e107
  refine Ac C S112 [(57, .iconst 1, 1), (58, .isub, 1), (59, .istore_n 1, 1), (60, .aload_n 0, 1)] 61 #[Ab x, Aa 3, .unset] [.ref x] ?_
  refine Ah C S112 hw 57 58 60 60 59 61 19 (At l Z a0 hw G1 G3 x _ _ _ _ h6 n0 f10 f20 f21 f22 f23 f24 O2 O4 P5 rG3) 0 f21 [] [] Al ?_
  rintro T114 h115 v116 L117 S118 ⟨⟨rfl, e113⟩, -⟩
  rw [e113] at S118; clear e113
  refine Ac C S118 [(64, .iconst 4, 1)] 65 #[Ab x, Aa 3, .unset] [.int 4, .int 4] ?_
  refine Dj C S118 (by decide +kernel) (by decide) ?_
  refine own_tso C S118 (df := 53) (lo := 1) (hi := 3) (offs := #[26, 45, 49]) (len := 26) (by decide +kernel) (by decide) (by decide) 119 (by decide) ?_
  refine Ac C S118 [(119, .iconst 0, 1), (120, .istore_n 2, 1), (121, .iload_n 2, 1), (122, .ifCond .le 39, 3)] 161 #[Ab x, Aa 3, Aa 0] [] ?_
  refine Bi C S118 (ow hw 132 rfl) Via.refl (OD.ext f20.2) (by decide +kernel) ?_
  intro T119 S120
  refine Ac C S120 [(164, .aload_n 0, 1)] 165 #[Ab x, Aa 3, Aa 0] [.ref x, .ref DE] ?_
  have f121 := (TK.ext E9)
  have f122 := (Exa.ext E9 DEx)
  have f123 := (Fld.ext E9 DEu)
  have f124 := (Fld.ext E9 DEm)
  have f125 := (Exa.ext E9 s4)
  refine Ah C S120 hw 134 135 137 137 136 139 138 (own_ds4 l Z a0 hw G1 G3 U8 I8 TB TBk DE x _ _ x0 x1 x2 x3 h6 n0 f10 f20 f121 f122 f123 f124 f21 f22 f23 f24 f125 XS hx0 hx1 hx2 hx3) 0 f122 [.ref x] [] Cb ?_
  rintro T131 h132 v133 L134 S135 ⟨⟨a126, k127, rfl, g128, K129, f130⟩, -⟩
  have o136 : h6.size ≤ a126 := Nat.le_trans (Nat.le_refl _) g128
  have SW137 := rb19 _ _ _ _ [] [a126] S135 ((Keep.refl _ _).trans K129 all0) all0 (allS ⟨o136, f130.lt⟩ all0)
  refine Ck CW SW137 rfl rfl (by decide +kernel) (by decide) (by decide) ?_
  have o139 : h0.size ≤ h6.size := (Nat.le_trans (Nat.le_refl _) E9.1)
  have o138 : h0.size ≤ a126 := Nat.le_trans o139 g128
  exact ⟨a126, k127, rfl, o138, (((Keep.refl _ _).ext E9).trans K129 all0), f130⟩
theorem own_dl6 (hw : Aj a0 Z) (G1 : Int32) (G3 : Value) (U8 : Addr) (I8 : Addr) (TB : Addr) (TBk : ClassId) (DE : Addr) (b : Addr) (bk : ClassId) (x0 : Int32) (x1 : Int32) (x2 : Int32) (x3 : Int32) (x4 : Int32) (x5 : Int32) (h0 : Heap) (n0 : Nat) (z0 : n0 ≤ h0.size) (X00 : Old Z n0 h0) (TK : Arv Z h0 TB TBk .int 256 Bs (.int 0)) (DEx : Exa Z h0 DE "java/util/Base64$Decoder") (DEu : Fld Z h0 DE "java/util/Base64$Decoder" "isURL" "Z" (.int 1)) (DEm : Fld Z h0 DE "java/util/Base64$Decoder" "isMIME" "Z" (.int 0)) (b0 : Arv Z h0 b bk .byte (6 : Int32) ([(.int ((Ad x0).toInt8.toInt32)), (.int ((Ad x1).toInt8.toInt32)), (.int ((Ad x2).toInt8.toInt32)), (.int ((Ad x3).toInt8.toInt32)), (.int ((Ad x4).toInt8.toInt32)), (.int ((Ad x5).toInt8.toInt32))]) (.int 0)) (b1 : Exa Z h0 b "[B") (XS : Ax Z n0 G1 G3 U8 I8 TB DE) (hx0 : Ag x0) (hx1 : Ag x1) (hx2 : Ag x2) (hx3 : Ag x3) (hx4 : Ag x4) (hx5 : Ag x5) :
    Af l Z (⟨"java/util/Base64$Decoder", "decodedOutLength", "([BII)I"⟩ : MethodName) jdk_2450_method_7_code 9 (some .int) ({ frames := 0, cells := 0, slots := 0, locals := 0 } : Room) n0 #[(.ref DE), (.ref b), (.int 0), (.int 6)] h0 (fun v h => v = some (.int 4) ∧ h = h0) := by
  refine Ar #[.val (.ref DE), .val (.ref b), .val (.int 0), .val (.int 6), .unset, .unset, .unset, .unset, .unset] ?_
  intro p e s m below meth c T0 C S0
  have XS_ := XS
  obtain ⟨O2, O4, P5, rG3, OU, OI, OT, OD, hUI, TBlt, DElt⟩ := XS_
  refine Ac C S0 [(0, .aload_n 0, 1)] 1 #[Ab DE, Ab b, Aa 0, Aa 6, .unset, .unset, .unset, .unset, .unset] [.ref DE] ?_
  refine Ch C S0 hw 178 DEu ?_
  intro T1 S2
  refine Ac C S2 [(4, .ifCond .eq 9, 3)] 7 #[Ab DE, Ab b, Aa 0, Aa 6, .unset, .unset, .unset, .unset, .unset] [] ?_
  refine Bi C S2 (ow hw 180 rfl) Via.refl (OT.ext X00.2) (by decide +kernel) ?_
  intro T3 S4
  refine Ac C S4 [(10, .goto 6, 3), (16, .astore 4, 2), (18, .iconst 0, 1), (19, .istore 5, 2), (21, .iload_n 3, 1), (22, .iload_n 2, 1), (23, .isub, 1), (24, .istore 6, 2), (26, .iload 6, 2), (28, .ifCond .ne 5, 3), (33, .iload 6, 2), (35, .iconst 2, 1), (36, .if_icmp .ge 30, 3), (66, .aload_n 0, 1)] 67 #[Ab DE, Ab b, Aa 0, Aa 6, Ab TB, Aa 0, Aa 6, .unset, .unset] [.ref DE] ?_
  refine Ch C S4 hw 181 DEm ?_
  intro T5 S6
  refine Ac C S6 [(70, .ifCond .eq 71, 3), (141, .aload_n 1, 1), (142, .iload_n 3, 1), (143, .iconst 1, 1), (144, .isub, 1)] 145 #[Ab DE, Ab b, Aa 0, Aa 6, Ab TB, Aa 0, Aa 6, .unset, .unset] [.int 5, .ref b] ?_
  refine Bb C S6 b0 ⟨(by decide), (by decide)⟩ (.int ((Ad x5).toInt8.toInt32)) rfl (by decide +kernel) ?_
  refine Ac C S6 [(146, .bipush 61, 2)] 148 #[Ab DE, Ab b, Aa 0, Aa 6, Ab TB, Aa 0, Aa 6, .unset, .unset] [.int 61, .int ((Ad x5).toInt8.toInt32)] ?_
  refine Bg C S6 .ne 19 167 (fun (q7 : ¬ ((Ad x5).toInt8.toInt32) = (61 : Int32)) => ?_) (fun (hq : ((Ad x5).toInt8.toInt32) = (61 : Int32)) => False.elim (Fe hx5 hq))
  refine Ac C S6 [(167, .iload 5, 2), (169, .ifCond .ne 18, 3), (172, .iload 6, 2), (174, .iconst 3, 1), (175, .iand, 1), (176, .ifCond .eq 11, 3), (179, .iconst 4, 1), (180, .iload 6, 2), (182, .iconst 3, 1), (183, .iand, 1), (184, .isub, 1), (185, .istore 5, 2), (187, .iconst 3, 1), (188, .iload 6, 2), (190, .i2l, 1)] 191 #[Ab DE, Ab b, Aa 0, Aa 6, Ab TB, Aa 2, Aa 6, .unset, .unset] [.long ((6 : Int32).toInt64), .int 3] ?_
  refine Dd C S6 (ow hw 183 rfl) (by decide +kernel) ?_
  refine Ac C S6 [(194, .ladd, 1)] 195 #[Ab DE, Ab b, Aa 0, Aa 6, Ab TB, Aa 2, Aa 6, .unset, .unset] [.long ((6 : Int32).toInt64 + 3), .int 3] ?_
  refine Dd C S6 (ow hw 184 rfl) (by decide +kernel) ?_
  refine Ew C S6 (by decide +kernel) (by decide) ?_
  rw [show (((6 : Int32).toInt64 + 3) / 4) = (2 : Int64) from (by decide)]
  refine Ac C S6 [(199, .l2i, 1), (200, .imul, 1), (201, .iload 5, 2), (203, .isub, 1)] 204 #[Ab DE, Ab b, Aa 0, Aa 6, Ab TB, Aa 2, Aa 6, .unset, .unset] [.int (((3 : Int32) * (2 : Int64).toInt32) - (2 : Int32))] ?_
  rw [show (((3 : Int32) * (2 : Int64).toInt32) - (2 : Int32)) = (4 : Int32) from (by decide)]
  refine Bq C S6 (by decide +kernel) (by decide) (by decide) ?_
  exact ⟨rfl, rfl⟩
theorem own_db6 (hw : Aj a0 Z) (G1 : Int32) (G3 : Value) (U8 : Addr) (I8 : Addr) (TB : Addr) (TBk : ClassId) (DE : Addr) (b : Addr) (bk : ClassId) (d : Addr) (dk : ClassId) (x0 : Int32) (x1 : Int32) (x2 : Int32) (x3 : Int32) (x4 : Int32) (x5 : Int32) (h0 : Heap) (n0 : Nat) (z0 : n0 ≤ h0.size) (ge_d : n0 ≤ d) (X00 : Old Z n0 h0) (TK : Arv Z h0 TB TBk .int 256 Bs (.int 0)) (DEx : Exa Z h0 DE "java/util/Base64$Decoder") (DEu : Fld Z h0 DE "java/util/Base64$Decoder" "isURL" "Z" (.int 1)) (DEm : Fld Z h0 DE "java/util/Base64$Decoder" "isMIME" "Z" (.int 0)) (b0 : Arv Z h0 b bk .byte (6 : Int32) ([(.int ((Ad x0).toInt8.toInt32)), (.int ((Ad x1).toInt8.toInt32)), (.int ((Ad x2).toInt8.toInt32)), (.int ((Ad x3).toInt8.toInt32)), (.int ((Ad x4).toInt8.toInt32)), (.int ((Ad x5).toInt8.toInt32))]) (.int 0)) (b1 : Exa Z h0 b "[B") (dK : Arv Z h0 d dk .byte (4 : Int32) ([(.int 0), (.int 0), (.int 0), (.int 0)]) (.int 0)) (ne_b_d : b ≠ d) (XS : Ax Z n0 G1 G3 U8 I8 TB DE) (hx0 : Ag x0) (hx1 : Ag x1) (hx2 : Ag x2) (hx3 : Ag x3) (hx4 : Ag x4) (hx5 : Ag x5) :
    Af l Z (⟨"java/util/Base64$Decoder", "decodeBlock", "([BII[BIZZ)I"⟩ : MethodName) jdk_2450_method_8_code 16 (some .int) ({ frames := 0, cells := 0, slots := 0, locals := 0 } : Room) n0 #[(.ref DE), (.ref b), (.int 0), (.int 6), (.ref d), (.int 0), (.int 1), (.int 0)] h0 (fun v h => v = some (.int 3) ∧ Keep h0 h [d] ∧ Arv Z h d dk .byte (4 : Int32) ([(.int (Ay (Aq x0 x1 x2 x3))), (.int (Bk (Aq x0 x1 x2 x3))), (.int (Cc (Aq x0 x1 x2 x3))), (.int 0)]) (.int 0)) := by
  refine Ar #[.val (.ref DE), .val (.ref b), .val (.int 0), .val (.int 6), .val (.ref d), .val (.int 0), .val (.int 1), .val (.int 0), .unset, .unset, .unset, .unset, .unset, .unset, .unset, .unset] ?_
  intro p e s m below meth c T0 C S0
  have XS_ := XS
  obtain ⟨O2, O4, P5, rG3, OU, OI, OT, OD, hUI, TBlt, DElt⟩ := XS_
  refine Ac C S0 [(0, .iload 6, 2), (2, .ifCond .eq 9, 3)] 5 #[Ab DE, Ab b, Aa 0, Aa 6, Ab d, Aa 0, Aa 1, Aa 0, .unset, .unset, .unset, .unset, .unset, .unset, .unset, .unset] [] ?_
  refine Bi C S0 (ow hw 180 rfl) Via.refl (OT.ext X00.2) (by decide +kernel) ?_
  intro T1 S2
  refine Ac C S2 [(8, .goto 6, 3), (14, .astore 8, 2), (16, .iload_n 2, 1), (17, .iload_n 3, 1), (18, .iload_n 2, 1), (19, .isub, 1), (20, .bipush (-4), 2), (22, .iand, 1), (23, .iadd, 1), (24, .istore 9, 2), (26, .iload 5, 2), (28, .istore 10, 2), (30, .iload_n 2, 1), (31, .iload 9, 2), (33, .if_icmp .ge 147, 3), (36, .aload 8, 2), (38, .aload_n 1, 1), (39, .iload_n 2, 1), (40, .iinc 2 1, 3)] 43 #[Ab DE, Ab b, Aa 1, Aa 6, Ab d, Aa 0, Aa 1, Aa 0, Ab TB, Aa 4, Aa 0, .unset, .unset, .unset, .unset, .unset] [.int 0, .ref b, .ref TB] ?_
  refine Bb C S2 b0 ⟨(by decide), (by decide)⟩ (.int ((Ad x0).toInt8.toInt32)) rfl (by decide +kernel) ?_
  refine Ac C S2 [(44, .sipush 255, 3), (47, .iand, 1)] 48 #[Ab DE, Ab b, Aa 1, Aa 6, Ab d, Aa 0, Aa 1, Aa 0, Ab TB, Aa 4, Aa 0, .unset, .unset, .unset, .unset, .unset] [.int ((Ad x0).toInt8.toInt32 &&& (255 : Int32)), .ref TB] ?_
  refine Bl C S2 TK (Cr hx0) (.int x0) (Cq hx0) (by decide +kernel) ?_
  refine Ac C S2 [(49, .istore 11, 2), (51, .aload 8, 2), (53, .aload_n 1, 1), (54, .iload_n 2, 1), (55, .iinc 2 1, 3)] 58 #[Ab DE, Ab b, Aa 2, Aa 6, Ab d, Aa 0, Aa 1, Aa 0, Ab TB, Aa 4, Aa 0, Aa x0, .unset, .unset, .unset, .unset] [.int 1, .ref b, .ref TB] ?_
  refine Bb C S2 b0 ⟨(by decide), (by decide)⟩ (.int ((Ad x1).toInt8.toInt32)) rfl (by decide +kernel) ?_
  refine Ac C S2 [(59, .sipush 255, 3), (62, .iand, 1)] 63 #[Ab DE, Ab b, Aa 2, Aa 6, Ab d, Aa 0, Aa 1, Aa 0, Ab TB, Aa 4, Aa 0, Aa x0, .unset, .unset, .unset, .unset] [.int ((Ad x1).toInt8.toInt32 &&& (255 : Int32)), .ref TB] ?_
  refine Bl C S2 TK (Cr hx1) (.int x1) (Cq hx1) (by decide +kernel) ?_
  refine Ac C S2 [(64, .istore 12, 2), (66, .aload 8, 2), (68, .aload_n 1, 1), (69, .iload_n 2, 1), (70, .iinc 2 1, 3)] 73 #[Ab DE, Ab b, Aa 3, Aa 6, Ab d, Aa 0, Aa 1, Aa 0, Ab TB, Aa 4, Aa 0, Aa x0, Aa x1, .unset, .unset, .unset] [.int 2, .ref b, .ref TB] ?_
  refine Bb C S2 b0 ⟨(by decide), (by decide)⟩ (.int ((Ad x2).toInt8.toInt32)) rfl (by decide +kernel) ?_
  refine Ac C S2 [(74, .sipush 255, 3), (77, .iand, 1)] 78 #[Ab DE, Ab b, Aa 3, Aa 6, Ab d, Aa 0, Aa 1, Aa 0, Ab TB, Aa 4, Aa 0, Aa x0, Aa x1, .unset, .unset, .unset] [.int ((Ad x2).toInt8.toInt32 &&& (255 : Int32)), .ref TB] ?_
  refine Bl C S2 TK (Cr hx2) (.int x2) (Cq hx2) (by decide +kernel) ?_
  refine Ac C S2 [(79, .istore 13, 2), (81, .aload 8, 2), (83, .aload_n 1, 1), (84, .iload_n 2, 1), (85, .iinc 2 1, 3)] 88 #[Ab DE, Ab b, Aa 4, Aa 6, Ab d, Aa 0, Aa 1, Aa 0, Ab TB, Aa 4, Aa 0, Aa x0, Aa x1, Aa x2, .unset, .unset] [.int 3, .ref b, .ref TB] ?_
  refine Bb C S2 b0 ⟨(by decide), (by decide)⟩ (.int ((Ad x3).toInt8.toInt32)) rfl (by decide +kernel) ?_
  refine Ac C S2 [(89, .sipush 255, 3), (92, .iand, 1)] 93 #[Ab DE, Ab b, Aa 4, Aa 6, Ab d, Aa 0, Aa 1, Aa 0, Ab TB, Aa 4, Aa 0, Aa x0, Aa x1, Aa x2, .unset, .unset] [.int ((Ad x3).toInt8.toInt32 &&& (255 : Int32)), .ref TB] ?_
  refine Bl C S2 TK (Cr hx3) (.int x3) (Cq hx3) (by decide +kernel) ?_
  refine Ac C S2 [(94, .istore 14, 2), (96, .iload 11, 2), (98, .iload 12, 2), (100, .ior, 1), (101, .iload 13, 2), (103, .ior, 1), (104, .iload 14, 2), (106, .ior, 1)] 107 #[Ab DE, Ab b, Aa 4, Aa 6, Ab d, Aa 0, Aa 1, Aa 0, Ab TB, Aa 4, Aa 0, Aa x0, Aa x1, Aa x2, Aa x3, .unset] [.int (((x0 ||| x1) ||| x2) ||| x3)] ?_
  refine Bh C S2 .ge 9 116 (fun (q3 : ¬ (((x0 ||| x1) ||| x2) ||| x3) < (0 : Int32)) => ?_) (fun (hq : (((x0 ||| x1) ||| x2) ||| x3) < (0 : Int32)) => False.elim (own_or4 hx0 hx1 hx2 hx3 hq))
  refine Ac C S2 [(116, .iload 11, 2), (118, .bipush 18, 2), (120, .ishl, 1), (121, .iload 12, 2), (123, .bipush 12, 2), (125, .ishl, 1), (126, .ior, 1), (127, .iload 13, 2), (129, .bipush 6, 2), (131, .ishl, 1), (132, .ior, 1), (133, .iload 14, 2), (135, .ior, 1), (136, .istore 15, 2), (138, .aload 4, 2), (140, .iload 10, 2), (142, .iinc 10 1, 3), (145, .iload 15, 2), (147, .bipush 16, 2), (149, .ishr, 1), (150, .i2b, 1)] 151 #[Ab DE, Ab b, Aa 4, Aa 6, Ab d, Aa 0, Aa 1, Aa 0, Ab TB, Aa 4, Aa 1, Aa x0, Aa x1, Aa x2, Aa x3, Aa ((((x0 <<< ((18 : Int32) &&& 31)) ||| (x1 <<< ((12 : Int32) &&& 31))) ||| (x2 <<< ((6 : Int32) &&& 31))) ||| x3)] [.int ((((((x0 <<< ((18 : Int32) &&& 31)) ||| (x1 <<< ((12 : Int32) &&& 31))) ||| (x2 <<< ((6 : Int32) &&& 31))) ||| x3) >>> ((16 : Int32) &&& 31)).toInt8.toInt32), .int 0, .ref d] ?_
  refine Ap C S2 dK ⟨(by decide), (by decide)⟩ 0 rfl (Ak rfl) ((((((x0 <<< ((18 : Int32) &&& 31)) ||| (x1 <<< ((12 : Int32) &&& 31))) ||| (x2 <<< ((6 : Int32) &&& 31))) ||| x3) >>> ((16 : Int32) &&& 31)).toInt8.toInt32) (Bc _) ge_d (by decide +kernel) ?_
  intro T4 h6 S5 W7 f8
  have f9 : Arv Z h6 d dk .byte (4 : Int32) ([(.int ((((((x0 <<< ((18 : Int32) &&& 31)) ||| (x1 <<< ((12 : Int32) &&& 31))) ||| (x2 <<< ((6 : Int32) &&& 31))) ||| x3) >>> ((16 : Int32) &&& 31)).toInt8.toInt32)), (.int 0), (.int 0), (.int 0)]) (.int 0) := f8
  refine Ac C S5 [(152, .aload 4, 2), (154, .iload 10, 2), (156, .iinc 10 1, 3), (159, .iload 15, 2), (161, .bipush 8, 2), (163, .ishr, 1), (164, .i2b, 1)] 165 #[Ab DE, Ab b, Aa 4, Aa 6, Ab d, Aa 0, Aa 1, Aa 0, Ab TB, Aa 4, Aa 2, Aa x0, Aa x1, Aa x2, Aa x3, Aa ((((x0 <<< ((18 : Int32) &&& 31)) ||| (x1 <<< ((12 : Int32) &&& 31))) ||| (x2 <<< ((6 : Int32) &&& 31))) ||| x3)] [.int ((((((x0 <<< ((18 : Int32) &&& 31)) ||| (x1 <<< ((12 : Int32) &&& 31))) ||| (x2 <<< ((6 : Int32) &&& 31))) ||| x3) >>> ((8 : Int32) &&& 31)).toInt8.toInt32), .int 1, .ref d] ?_
  refine Ap C S5 f9 ⟨(by decide), (by decide)⟩ 1 rfl (Ak rfl) ((((((x0 <<< ((18 : Int32) &&& 31)) ||| (x1 <<< ((12 : Int32) &&& 31))) ||| (x2 <<< ((6 : Int32) &&& 31))) ||| x3) >>> ((8 : Int32) &&& 31)).toInt8.toInt32) (Bc _) ge_d (by decide +kernel) ?_
  intro T10 h12 S11 W13 f14
  have f15 : Arv Z h12 d dk .byte (4 : Int32) ([(.int ((((((x0 <<< ((18 : Int32) &&& 31)) ||| (x1 <<< ((12 : Int32) &&& 31))) ||| (x2 <<< ((6 : Int32) &&& 31))) ||| x3) >>> ((16 : Int32) &&& 31)).toInt8.toInt32)), (.int ((((((x0 <<< ((18 : Int32) &&& 31)) ||| (x1 <<< ((12 : Int32) &&& 31))) ||| (x2 <<< ((6 : Int32) &&& 31))) ||| x3) >>> ((8 : Int32) &&& 31)).toInt8.toInt32)), (.int 0), (.int 0)]) (.int 0) := f14
  refine Ac C S11 [(166, .aload 4, 2), (168, .iload 10, 2), (170, .iinc 10 1, 3), (173, .iload 15, 2), (175, .i2b, 1)] 176 #[Ab DE, Ab b, Aa 4, Aa 6, Ab d, Aa 0, Aa 1, Aa 0, Ab TB, Aa 4, Aa 3, Aa x0, Aa x1, Aa x2, Aa x3, Aa ((((x0 <<< ((18 : Int32) &&& 31)) ||| (x1 <<< ((12 : Int32) &&& 31))) ||| (x2 <<< ((6 : Int32) &&& 31))) ||| x3)] [.int (((((x0 <<< ((18 : Int32) &&& 31)) ||| (x1 <<< ((12 : Int32) &&& 31))) ||| (x2 <<< ((6 : Int32) &&& 31))) ||| x3).toInt8.toInt32), .int 2, .ref d] ?_
  refine Ap C S11 f15 ⟨(by decide), (by decide)⟩ 2 rfl (Ak rfl) (((((x0 <<< ((18 : Int32) &&& 31)) ||| (x1 <<< ((12 : Int32) &&& 31))) ||| (x2 <<< ((6 : Int32) &&& 31))) ||| x3).toInt8.toInt32) (Bc _) ge_d (by decide +kernel) ?_
  intro T16 h18 S17 W19 f20
  have f21 : Arv Z h18 d dk .byte (4 : Int32) ([(.int ((((((x0 <<< ((18 : Int32) &&& 31)) ||| (x1 <<< ((12 : Int32) &&& 31))) ||| (x2 <<< ((6 : Int32) &&& 31))) ||| x3) >>> ((16 : Int32) &&& 31)).toInt8.toInt32)), (.int ((((((x0 <<< ((18 : Int32) &&& 31)) ||| (x1 <<< ((12 : Int32) &&& 31))) ||| (x2 <<< ((6 : Int32) &&& 31))) ||| x3) >>> ((8 : Int32) &&& 31)).toInt8.toInt32)), (.int (((((x0 <<< ((18 : Int32) &&& 31)) ||| (x1 <<< ((12 : Int32) &&& 31))) ||| (x2 <<< ((6 : Int32) &&& 31))) ||| x3).toInt8.toInt32)), (.int 0)]) (.int 0) := f20
  refine Ac C S17 [(177, .goto (-147), 3), (30, .iload_n 2, 1), (31, .iload 9, 2), (33, .if_icmp .ge 147, 3), (180, .iload 10, 2), (182, .iload 5, 2), (184, .isub, 1)] 185 #[Ab DE, Ab b, Aa 4, Aa 6, Ab d, Aa 0, Aa 1, Aa 0, Ab TB, Aa 4, Aa 3, Aa x0, Aa x1, Aa x2, Aa x3, Aa ((((x0 <<< ((18 : Int32) &&& 31)) ||| (x1 <<< ((12 : Int32) &&& 31))) ||| (x2 <<< ((6 : Int32) &&& 31))) ||| x3)] [.int 3] ?_
  refine Bq C S17 (by decide +kernel) (by decide) (by decide) ?_
  exact ⟨rfl, ((((Keep.refl _ _).wr W7 (Ba 0)).wr W13 (Ba 0)).wr W19 (Ba 0)), f21⟩
theorem own_pd21 : parseMethodDescriptor "([BII[BIZZ)I" = some ⟨[(.array .byte), .int, .int, (.array .byte), .int, .boolean, .boolean], (some .int)⟩ := by decide +kernel
theorem own_d06 (hw : Aj a0 Z) (G1 : Int32) (G3 : Value) (U8 : Addr) (I8 : Addr) (TB : Addr) (TBk : ClassId) (DE : Addr) (b : Addr) (bk : ClassId) (d : Addr) (dk : ClassId) (x0 : Int32) (x1 : Int32) (x2 : Int32) (x3 : Int32) (x4 : Int32) (x5 : Int32) (h0 : Heap) (n0 : Nat) (z0 : n0 ≤ h0.size) (ge_d : n0 ≤ d) (X00 : Old Z n0 h0) (TK : Arv Z h0 TB TBk .int 256 Bs (.int 0)) (DEx : Exa Z h0 DE "java/util/Base64$Decoder") (DEu : Fld Z h0 DE "java/util/Base64$Decoder" "isURL" "Z" (.int 1)) (DEm : Fld Z h0 DE "java/util/Base64$Decoder" "isMIME" "Z" (.int 0)) (b0 : Arv Z h0 b bk .byte (6 : Int32) ([(.int ((Ad x0).toInt8.toInt32)), (.int ((Ad x1).toInt8.toInt32)), (.int ((Ad x2).toInt8.toInt32)), (.int ((Ad x3).toInt8.toInt32)), (.int ((Ad x4).toInt8.toInt32)), (.int ((Ad x5).toInt8.toInt32))]) (.int 0)) (b1 : Exa Z h0 b "[B") (dK : Arv Z h0 d dk .byte (4 : Int32) ([(.int 0), (.int 0), (.int 0), (.int 0)]) (.int 0)) (ne_b_d : b ≠ d) (XS : Ax Z n0 G1 G3 U8 I8 TB DE) (hx0 : Ag x0) (hx1 : Ag x1) (hx2 : Ag x2) (hx3 : Ag x3) (hx4 : Ag x4) (hx5 : Ag x5) :
    Af l Z (⟨"java/util/Base64$Decoder", "decode0", "([BII[B)I"⟩ : MethodName) jdk_2450_method_9_code 11 (some .int) ({ frames := 1, cells := 0, slots := 0, locals := 27 } : Room) n0 #[(.ref DE), (.ref b), (.int 0), (.int 6), (.ref d)] h0 (fun v h => v = some (.int 4) ∧ Keep h0 h [d] ∧ Arv Z h d dk .byte (4 : Int32) ([(.int (Ay (Aq x0 x1 x2 x3))), (.int (Bk (Aq x0 x1 x2 x3))), (.int (Cc (Aq x0 x1 x2 x3))), (.int (Ay (Dg x4 x5)))]) (.int 0)) := by
  refine Ar #[.val (.ref DE), .val (.ref b), .val (.int 0), .val (.int 6), .val (.ref d), .unset, .unset, .unset, .unset, .unset, .unset] ?_
  intro p e s m below meth c T0 C S0
  have XS_ := XS
  obtain ⟨O2, O4, P5, rG3, OU, OI, OT, OD, hUI, TBlt, DElt⟩ := XS_
  refine Ac C S0 [(0, .aload_n 0, 1)] 1 #[Ab DE, Ab b, Aa 0, Aa 6, Ab d, .unset, .unset, .unset, .unset, .unset, .unset] [.ref DE] ?_
  refine Ch C S0 hw 178 DEu ?_
  intro T1 S2
  refine Ac C S2 [(4, .ifCond .eq 9, 3)] 7 #[Ab DE, Ab b, Aa 0, Aa 6, Ab d, .unset, .unset, .unset, .unset, .unset, .unset] [] ?_
  refine Bi C S2 (ow hw 180 rfl) Via.refl (OT.ext X00.2) (by decide +kernel) ?_
  intro T3 S4
  refine Ac C S4 [(10, .goto 6, 3), (16, .astore 5, 2), (18, .iconst 0, 1), (19, .istore 6, 2), (21, .iconst 0, 1), (22, .istore 7, 2), (24, .bipush 18, 2), (26, .istore 8, 2), (28, .iload_n 2, 1), (29, .iload_n 3, 1), (30, .if_icmp .ge 251, 3), (33, .iload 8, 2), (35, .bipush 18, 2), (37, .if_icmp .ne 53, 3), (40, .iload_n 2, 1), (41, .iload_n 3, 1), (42, .iconst 4, 1), (43, .isub, 1), (44, .if_icmp .ge 46, 3), (47, .aload_n 0, 1), (48, .aload_n 1, 1), (49, .iload_n 2, 1), (50, .iload_n 3, 1), (51, .aload 4, 2), (53, .iload 6, 2), (55, .aload_n 0, 1)] 56 #[Ab DE, Ab b, Aa 0, Aa 6, Ab d, Ab TB, Aa 0, Aa 0, Aa 18, .unset, .unset] [.ref DE, .int 0, .ref d, .int 6, .int 0, .ref b, .ref DE] ?_
  refine Ch C S4 hw 178 DEu ?_
  intro T5 S6
  refine Ac C S6 [(59, .aload_n 0, 1)] 60 #[Ab DE, Ab b, Aa 0, Aa 6, Ab d, Ab TB, Aa 0, Aa 0, Aa 18, .unset, .unset] [.ref DE, .int 1, .int 0, .ref d, .int 6, .int 0, .ref b, .ref DE] ?_
  refine Ch C S6 hw 181 DEm ?_
  intro T7 S8
  refine Co C S8 (ow hw 193 rfl) (ow hw 194 rfl) (ow hw 196 rfl) (ow hw 195 rfl) (ow hw 197 rfl) (by decide) (Af.pay (own_db6 l Z a0 hw G1 G3 U8 I8 TB TBk DE b _ d _ x0 x1 x2 x3 x4 x5 h0 n0 z0 ge_d X00 TK DEx DEu DEm b0 b1 dK ne_b_d XS hx0 hx1 hx2 hx3 hx4 hx5) C 0 (ow hw 197 rfl) (ow hw 138 rfl) (by decide) (by decide)) (fun _ _ _ q => q.2) DEx [.ref b, .int 0, .int 6, .ref d, .int 0, .int 1, .int 0] [] rfl own_pd21 rfl rfl rfl (Ak rfl) (by decide) (by decide) (by decide +kernel) ?_
  rintro T11 h12 v13 L14 S15 ⟨⟨rfl, K9, f10⟩, -⟩
  refine Ac C S15 [(66, .istore 9, 2), (68, .iload 9, 2), (70, .iconst 2, 1), (71, .iadd, 1), (72, .iconst 3, 1)] 73 #[Ab DE, Ab b, Aa 0, Aa 6, Ab d, Ab TB, Aa 0, Aa 0, Aa 18, Aa 3, .unset] [.int 3, .int 5] ?_
  refine Fb C S15 (by decide +kernel) (by decide) ?_
  refine Ac C S15 [(74, .iconst 4, 1), (75, .imul, 1), (76, .istore 10, 2), (78, .iload_n 2, 1), (79, .iload 10, 2), (81, .iadd, 1), (82, .istore_n 2, 1), (83, .iload 6, 2), (85, .iload 9, 2), (87, .iadd, 1), (88, .istore 6, 2), (90, .iload_n 2, 1), (91, .iload_n 3, 1), (92, .if_icmp .lt 6, 3), (98, .aload_n 1, 1), (99, .iload_n 2, 1), (100, .iinc 2 1, 3)] 103 #[Ab DE, Ab b, Aa 5, Aa 6, Ab d, Ab TB, Aa 3, Aa 0, Aa 18, Aa 3, Aa 4] [.int 4, .ref b] ?_
  have f16 := (b0.keep K9 (ninS ne_b_d nin0))
  refine Bb C S15 f16 ⟨(by decide), (by decide)⟩ (.int ((Ad x4).toInt8.toInt32)) rfl (by decide +kernel) ?_
  refine Ac C S15 [(104, .sipush 255, 3), (107, .iand, 1), (108, .istore 9, 2), (110, .aload 5, 2), (112, .iload 9, 2)] 114 #[Ab DE, Ab b, Aa 5, Aa 6, Ab d, Ab TB, Aa 3, Aa 0, Aa 18, Aa ((Ad x4).toInt8.toInt32 &&& (255 : Int32)), Aa 4] [.int ((Ad x4).toInt8.toInt32 &&& (255 : Int32)), .ref TB] ?_
  have n17 : TB ≠ d := Nat.ne_of_lt (Nat.lt_of_lt_of_le TBlt ge_d)
  have f18 := (TK.keep K9 (ninS n17 nin0))
  refine Bl C S15 f18 (Cr hx4) (.int x4) (Cq hx4) (by decide +kernel) ?_
  refine Ac C S15 [(115, .dup, 1), (116, .istore 9, 2)] 118 #[Ab DE, Ab b, Aa 5, Aa 6, Ab d, Ab TB, Aa 3, Aa 0, Aa 18, Aa x4, Aa 4] [.int x4] ?_
  refine Bh C S15 .ge 96 214 (fun (q19 : ¬ x4 < (0 : Int32)) => ?_) (fun (hq : x4 < (0 : Int32)) => False.elim (Cd hx4 hq))
  refine Ac C S15 [(214, .iload 7, 2), (216, .iload 9, 2), (218, .iload 8, 2), (220, .ishl, 1), (221, .ior, 1), (222, .istore 7, 2), (224, .iinc 8 (-6), 3), (227, .iload 8, 2), (229, .ifCond .ge 49, 3), (278, .goto (-250), 3), (28, .iload_n 2, 1), (29, .iload_n 3, 1), (30, .if_icmp .ge 251, 3), (33, .iload 8, 2), (35, .bipush 18, 2), (37, .if_icmp .ne 53, 3), (90, .iload_n 2, 1), (91, .iload_n 3, 1), (92, .if_icmp .lt 6, 3), (98, .aload_n 1, 1), (99, .iload_n 2, 1), (100, .iinc 2 1, 3)] 103 #[Ab DE, Ab b, Aa 6, Aa 6, Ab d, Ab TB, Aa 3, Aa ((0 : Int32) ||| (x4 <<< ((18 : Int32) &&& 31))), Aa 12, Aa x4, Aa 4] [.int 5, .ref b] ?_
  refine Bb C S15 f16 ⟨(by decide), (by decide)⟩ (.int ((Ad x5).toInt8.toInt32)) rfl (by decide +kernel) ?_
  refine Ac C S15 [(104, .sipush 255, 3), (107, .iand, 1), (108, .istore 9, 2), (110, .aload 5, 2), (112, .iload 9, 2)] 114 #[Ab DE, Ab b, Aa 6, Aa 6, Ab d, Ab TB, Aa 3, Aa ((0 : Int32) ||| (x4 <<< ((18 : Int32) &&& 31))), Aa 12, Aa ((Ad x5).toInt8.toInt32 &&& (255 : Int32)), Aa 4] [.int ((Ad x5).toInt8.toInt32 &&& (255 : Int32)), .ref TB] ?_
  refine Bl C S15 f18 (Cr hx5) (.int x5) (Cq hx5) (by decide +kernel) ?_
  refine Ac C S15 [(115, .dup, 1), (116, .istore 9, 2)] 118 #[Ab DE, Ab b, Aa 6, Aa 6, Ab d, Ab TB, Aa 3, Aa ((0 : Int32) ||| (x4 <<< ((18 : Int32) &&& 31))), Aa 12, Aa x5, Aa 4] [.int x5] ?_
  refine Bh C S15 .ge 96 214 (fun (q20 : ¬ x5 < (0 : Int32)) => ?_) (fun (hq : x5 < (0 : Int32)) => False.elim (Cd hx5 hq))
  refine Ac C S15 [(214, .iload 7, 2), (216, .iload 9, 2), (218, .iload 8, 2), (220, .ishl, 1), (221, .ior, 1), (222, .istore 7, 2), (224, .iinc 8 (-6), 3), (227, .iload 8, 2), (229, .ifCond .ge 49, 3), (278, .goto (-250), 3), (28, .iload_n 2, 1), (29, .iload_n 3, 1), (30, .if_icmp .ge 251, 3), (281, .iload 8, 2), (283, .bipush 6, 2), (285, .if_icmp .ne 20, 3), (288, .aload 4, 2), (290, .iload 6, 2), (292, .iinc 6 1, 3), (295, .iload 7, 2), (297, .bipush 16, 2), (299, .ishr, 1), (300, .i2b, 1)] 301 #[Ab DE, Ab b, Aa 6, Aa 6, Ab d, Ab TB, Aa 4, Aa (((0 : Int32) ||| (x4 <<< ((18 : Int32) &&& 31))) ||| (x5 <<< ((12 : Int32) &&& 31))), Aa 6, Aa x5, Aa 4] [.int (((((0 : Int32) ||| (x4 <<< ((18 : Int32) &&& 31))) ||| (x5 <<< ((12 : Int32) &&& 31))) >>> ((16 : Int32) &&& 31)).toInt8.toInt32), .int 3, .ref d] ?_
  refine Ap C S15 f10 ⟨(by decide), (by decide)⟩ 3 rfl (Ak rfl) (((((0 : Int32) ||| (x4 <<< ((18 : Int32) &&& 31))) ||| (x5 <<< ((12 : Int32) &&& 31))) >>> ((16 : Int32) &&& 31)).toInt8.toInt32) (Bc _) ge_d (by decide +kernel) ?_
  intro T21 h23 S22 W24 f25
  have f26 : Arv Z h23 d dk .byte (4 : Int32) ([(.int (Ay (Aq x0 x1 x2 x3))), (.int (Bk (Aq x0 x1 x2 x3))), (.int (Cc (Aq x0 x1 x2 x3))), (.int (((((0 : Int32) ||| (x4 <<< ((18 : Int32) &&& 31))) ||| (x5 <<< ((12 : Int32) &&& 31))) >>> ((16 : Int32) &&& 31)).toInt8.toInt32))]) (.int 0) := f25
  refine Ac C S22 [(302, .goto 56, 3), (358, .iload_n 2, 1), (359, .iload_n 3, 1), (360, .if_icmp .ge 56, 3), (416, .iload 6, 2)] 418 #[Ab DE, Ab b, Aa 6, Aa 6, Ab d, Ab TB, Aa 4, Aa (((0 : Int32) ||| (x4 <<< ((18 : Int32) &&& 31))) ||| (x5 <<< ((12 : Int32) &&& 31))), Aa 6, Aa x5, Aa 4] [.int 4] ?_
  refine Bq C S22 (by decide +kernel) (by decide) (by decide) ?_
  exact ⟨rfl, (((Keep.refl _ _).trans K9 (allS (Ba 0) all0)).wr W24 (Ba 0)), f26⟩
theorem own_da6 (hw : Aj a0 Z) (G1 : Int32) (G3 : Value) (U8 : Addr) (I8 : Addr) (TB : Addr) (TBk : ClassId) (DE : Addr) (b : Addr) (bk : ClassId) (x0 : Int32) (x1 : Int32) (x2 : Int32) (x3 : Int32) (x4 : Int32) (x5 : Int32) (h0 : Heap) (n0 : Nat) (z0 : n0 ≤ h0.size) (X00 : Old Z n0 h0) (TK : Arv Z h0 TB TBk .int 256 Bs (.int 0)) (DEx : Exa Z h0 DE "java/util/Base64$Decoder") (DEu : Fld Z h0 DE "java/util/Base64$Decoder" "isURL" "Z" (.int 1)) (DEm : Fld Z h0 DE "java/util/Base64$Decoder" "isMIME" "Z" (.int 0)) (b0 : Arv Z h0 b bk .byte (6 : Int32) ([(.int ((Ad x0).toInt8.toInt32)), (.int ((Ad x1).toInt8.toInt32)), (.int ((Ad x2).toInt8.toInt32)), (.int ((Ad x3).toInt8.toInt32)), (.int ((Ad x4).toInt8.toInt32)), (.int ((Ad x5).toInt8.toInt32))]) (.int 0)) (b1 : Exa Z h0 b "[B") (XS : Ax Z n0 G1 G3 U8 I8 TB DE) (hx0 : Ag x0) (hx1 : Ag x1) (hx2 : Ag x2) (hx3 : Ag x3) (hx4 : Ag x4) (hx5 : Ag x5) :
    Af l Z (⟨"java/util/Base64$Decoder", "decode", "([B)[B"⟩ : MethodName) jdk_2450_method_2_code 4 (some (.array .byte)) ({ frames := 2, cells := 1, slots := 4, locals := 49 } : Room) n0 #[(.ref DE), (.ref b)] h0 (fun v h => ∃ r : Addr, ∃ rk : ClassId, v = some (.ref r) ∧ h0.size ≤ r ∧ Keep h0 h [] ∧ Arv Z h r rk .byte (4 : Int32) ([(.int (Ay (Aq x0 x1 x2 x3))), (.int (Bk (Aq x0 x1 x2 x3))), (.int (Cc (Aq x0 x1 x2 x3))), (.int (Ay (Dg x4 x5)))]) (.int 0)) := by
  refine Ar #[.val (.ref DE), .val (.ref b), .unset, .unset] ?_
  intro p e s m below meth c T0 C S0
  have XS_ := XS
  obtain ⟨O2, O4, P5, rG3, OU, OI, OT, OD, hUI, TBlt, DElt⟩ := XS_
  refine Ac C S0 [(0, .aload_n 0, 1), (1, .aload_n 1, 1), (2, .iconst 0, 1), (3, .aload_n 1, 1)] 4 #[Ab DE, Ab b, .unset, .unset] [.ref b, .int 0, .ref b, .ref DE] ?_
  refine Au C S0 b0 (by decide +kernel) ?_
  refine Co C S0 (ow hw 173 rfl) (ow hw 174 rfl) (ow hw 176 rfl) (ow hw 175 rfl) (ow hw 177 rfl) (by decide) (Af.pay (own_dl6 l Z a0 hw G1 G3 U8 I8 TB TBk DE b _ x0 x1 x2 x3 x4 x5 h0 n0 z0 X00 TK DEx DEu DEm b0 b1 XS hx0 hx1 hx2 hx3 hx4 hx5) C 0 (ow hw 177 rfl) (ow hw 138 rfl) (by decide) (by decide)) (fun _ _ _ q => q.2) DEx [.ref b, .int 0, .int 6] [] rfl Eh rfl rfl rfl (Ak rfl) (by decide) (by decide) (by decide +kernel) ?_
  rintro T2 h3 v4 L5 S6 ⟨⟨rfl, e1⟩, -⟩
  rw [e1] at S6; clear e1
  refine Cp C S6 (aty := .byte) (ad := "[B") (by decide) (ow hw 35 rfl) (by decide +kernel) (by decide) 4 (by decide) (by decide) (by decide) (by decide) ?_
  intro T7 h9 a10 k11 S8 g12 E13 f14 x15
  have f16 : Arv Z h9 a10 k11 .byte (4 : Int32) ([(.int 0), (.int 0), (.int 0), (.int 0)]) (.int 0) := Arv.pad f14 (pad_rep [] (.int 0) 4)
  refine Ac C S8 [(10, .astore_n 2, 1), (11, .aload_n 0, 1), (12, .aload_n 1, 1), (13, .iconst 0, 1), (14, .aload_n 1, 1)] 15 #[Ab DE, Ab b, Ab a10, .unset] [.ref b, .int 0, .ref b, .ref DE] ?_
  have f17 := (b0.ext E13)
  refine Au C S8 f17 (by decide +kernel) ?_
  refine Ac C S8 [(16, .aload_n 2, 1)] 17 #[Ab DE, Ab b, Ab a10, .unset] [.ref a10, .int 6, .int 0, .ref b, .ref DE] ?_
  have f18 := (X00.ext E13)
  have f19 := (TK.ext E13)
  have f20 := (Exa.ext E13 DEx)
  have f21 := (Fld.ext E13 DEu)
  have f22 := (Fld.ext E13 DEm)
  have f23 := (Exa.ext E13 b1)
  have f24 : n0 ≤ h9.size := (Nat.le_trans z0 E13.1)
  have g25 : n0 ≤ a10 := by rw [g12]; exact z0
  have n26 : b ≠ a10 := by rw [g12]; exact Nat.ne_of_lt b0.lt
  refine Co C S8 (ow hw 185 rfl) (ow hw 186 rfl) (ow hw 188 rfl) (ow hw 187 rfl) (ow hw 189 rfl) (by decide) (Af.pay (own_d06 l Z a0 hw G1 G3 U8 I8 TB TBk DE b _ a10 _ x0 x1 x2 x3 x4 x5 h9 n0 f24 g25 f18 f19 f20 f21 f22 f17 f23 f16 n26 XS hx0 hx1 hx2 hx3 hx4 hx5) C 0 (ow hw 189 rfl) (ow hw 138 rfl) (by decide) (by decide)) (fun _ _ _ q => q.2) f20 [.ref b, .int 0, .int 6, .ref a10] [] rfl Ei rfl rfl rfl (Ak rfl) (by decide) (by decide) (by decide +kernel) ?_
  rintro T29 h30 v31 L32 S33 ⟨⟨rfl, K27, f28⟩, -⟩
  refine Ac C S33 [(20, .istore_n 3, 1), (21, .iload_n 3, 1), (22, .aload_n 2, 1)] 23 #[Ab DE, Ab b, Ab a10, Aa 4] [.ref a10, .int 4] ?_
  refine Au C S33 f28 (by decide +kernel) ?_
  refine Ac C S33 [(24, .if_icmp .eq 9, 3), (33, .aload_n 2, 1)] 34 #[Ab DE, Ab b, Ab a10, Aa 4] [.ref a10] ?_
  refine Az C S33 rfl rfl (by decide +kernel) (by decide) (by decide) ?_
  have o34 : h0.size ≤ a10 := by rw [g12]; exact (Nat.le_refl _)
  exact ⟨a10, k11, rfl, o34, (((Keep.refl _ _).ext E13).trans K27 (allS (Or.inr o34) all0)), f28⟩
theorem own_ds6 (hw : Aj a0 Z) (G1 : Int32) (G3 : Value) (U8 : Addr) (I8 : Addr) (TB : Addr) (TBk : ClassId) (DE : Addr) (x : Addr) (xt : Addr) (xtk : ClassId) (x0 : Int32) (x1 : Int32) (x2 : Int32) (x3 : Int32) (x4 : Int32) (x5 : Int32) (h0 : Heap) (n0 : Nat) (z0 : n0 ≤ h0.size) (X00 : Old Z n0 h0) (TK : Arv Z h0 TB TBk .int 256 Bs (.int 0)) (DEx : Exa Z h0 DE "java/util/Base64$Decoder") (DEu : Fld Z h0 DE "java/util/Base64$Decoder" "isURL" "Z" (.int 1)) (DEm : Fld Z h0 DE "java/util/Base64$Decoder" "isMIME" "Z" (.int 0)) (s0 : Exa Z h0 x "java/lang/String") (s1 : Fld Z h0 x "java/lang/String" "value" "[B" (.ref xt)) (s2 : Fld Z h0 x "java/lang/String" "coder" "B" (.int 0)) (s3 : Arv Z h0 xt xtk .byte (6 : Int32) ([(.int ((Ad x0).toInt8.toInt32)), (.int ((Ad x1).toInt8.toInt32)), (.int ((Ad x2).toInt8.toInt32)), (.int ((Ad x3).toInt8.toInt32)), (.int ((Ad x4).toInt8.toInt32)), (.int ((Ad x5).toInt8.toInt32))]) (.int 0)) (s4 : Exa Z h0 xt "[B") (XS : Ax Z n0 G1 G3 U8 I8 TB DE) (hx0 : Ag x0) (hx1 : Ag x1) (hx2 : Ag x2) (hx3 : Ag x3) (hx4 : Ag x4) (hx5 : Ag x5) :
    Af l Z (⟨"java/util/Base64$Decoder", "decode", "(Ljava/lang/String;)[B"⟩ : MethodName) jdk_2450_method_3_code 2 (some (.array .byte)) ({ frames := 5, cells := 2, slots := 12, locals := 76 } : Room) n0 #[(.ref DE), (.ref x)] h0 (fun v h => ∃ r : Addr, ∃ rk : ClassId, v = some (.ref r) ∧ h0.size ≤ r ∧ Keep h0 h [] ∧ Arv Z h r rk .byte (4 : Int32) ([(.int (Ay (Aq x0 x1 x2 x3))), (.int (Bk (Aq x0 x1 x2 x3))), (.int (Cc (Aq x0 x1 x2 x3))), (.int (Ay (Dg x4 x5)))]) (.int 0)) := by
  refine Ar #[.val (.ref DE), .val (.ref x)] ?_
  intro p e s m below meth c T0 C S0
  have XS_ := XS
  obtain ⟨O2, O4, P5, rG3, OU, OI, OT, OD, hUI, TBlt, DElt⟩ := XS_
  refine Ac C S0 [(0, .aload_n 0, 1), (1, .aload_n 1, 1)] 2 #[Ab DE, Ab x] [.ref x, .ref DE] ?_
  refine Bi C S0 (ow hw 140 rfl) Via.refl (OI.ext X00.2) (by decide +kernel) ?_
  intro T1 S2
  refine Ah C S2 hw 142 143 145 145 144 146 19 (Fk l Z a0 hw G1 G3 U8 I8 TB DE x _ _ _ _ h0 n0 z0 X00 s0 s1 s2 s3 s4 XS (Ak rfl)) 1 s0 [.ref I8] [.ref DE] Ej ?_
  rintro T8 h9 v10 L11 S12 ⟨⟨a3, rfl, g4, K5, f6, f7⟩, -⟩
  have f13 := (X00.keep K5 all0)
  have f14 := (TK.keep K5 nin0)
  have f15 := (DEx.keep K5)
  have f16 := (DEu.keep K5 nin0)
  have f17 := (DEm.keep K5 nin0)
  have f18 : n0 ≤ h9.size := (Nat.le_trans z0 K5.1)
  refine Ah C S12 hw 168 169 171 171 170 172 138 (own_da6 l Z a0 hw G1 G3 U8 I8 TB TBk DE a3 _ x0 x1 x2 x3 x4 x5 h9 n0 f18 f13 f14 f15 f16 f17 f6 f7 XS hx0 hx1 hx2 hx3 hx4 hx5) 0 f15 [.ref a3] [] Ek ?_
  rintro T24 h25 v26 L27 S28 ⟨⟨a19, k20, rfl, g21, K22, f23⟩, -⟩
  refine Az C S28 rfl rfl (by decide +kernel) (by decide) (by decide) ?_
  have o30 : h0.size ≤ h9.size := (Nat.le_trans (Nat.le_refl _) K5.1)
  have o29 : h0.size ≤ a19 := Nat.le_trans o30 g21
  exact ⟨a19, k20, rfl, o29, (((Keep.refl _ _).trans K5 all0).trans K22 all0), f23⟩
theorem own_du6 (hw : Aj a0 Z) (hEL : EW Z a0 Ca) (wS : ∀ a ∈ Bundle.stringAtoms, a.before a0 Z = true) (G1 : Int32) (G3 : Value) (U8 : Addr) (I8 : Addr) (TB : Addr) (TBk : ClassId) (DE : Addr) (x : Addr) (xt : Addr) (xtk : ClassId) (x0 : Int32) (x1 : Int32) (x2 : Int32) (x3 : Int32) (x4 : Int32) (x5 : Int32) (h0 : Heap) (n0 : Nat) (z0 : n0 ≤ h0.size) (X00 : Old Z n0 h0) (TK : Arv Z h0 TB TBk .int 256 Bs (.int 0)) (DEx : Exa Z h0 DE "java/util/Base64$Decoder") (DEu : Fld Z h0 DE "java/util/Base64$Decoder" "isURL" "Z" (.int 1)) (DEm : Fld Z h0 DE "java/util/Base64$Decoder" "isMIME" "Z" (.int 0)) (s0 : Exa Z h0 x "java/lang/String") (s1 : Fld Z h0 x "java/lang/String" "value" "[B" (.ref xt)) (s2 : Fld Z h0 x "java/lang/String" "coder" "B" (.int 0)) (s3 : Arv Z h0 xt xtk .byte (6 : Int32) ([(.int ((Ad x0).toInt8.toInt32)), (.int ((Ad x1).toInt8.toInt32)), (.int ((Ad x2).toInt8.toInt32)), (.int ((Ad x3).toInt8.toInt32)), (.int ((Ad x4).toInt8.toInt32)), (.int ((Ad x5).toInt8.toInt32))]) (.int 0)) (s4 : Exa Z h0 xt "[B") (XS : Ax Z n0 G1 G3 U8 I8 TB DE) (hx0 : Ag x0) (hx1 : Ag x1) (hx2 : Ag x2) (hx3 : Ag x3) (hx4 : Ag x4) (hx5 : Ag x5) (hs : (x5 &&& (((1 : Int32) <<< ((4 : Int32) &&& 31)) - (1 : Int32))) = (0 : Int32)) :
    Cf l Z Ca (⟨"com/example/torrey/torrey/Base64Url", "decode", "(Ljava/lang/String;)[B"⟩ : MethodName) prog_1_method_3_code 3 (some (.array .byte)) ({ frames := 6, cells := 4, slots := 32, locals := 89 } : Room) n0 #[(.ref x)] h0 [] (fun v h => ∃ r : Addr, ∃ rk : ClassId, v = some (.ref r) ∧ h0.size ≤ r ∧ Keep h0 h [] ∧ Arv Z h r rk .byte (4 : Int32) ([(.int (Ay (Aq x0 x1 x2 x3))), (.int (Bk (Aq x0 x1 x2 x3))), (.int (Cc (Aq x0 x1 x2 x3))), (.int (Ay (Dg x4 x5)))]) (.int 0)) := by
  refine Cm hEL wS (by decide +kernel) #[.val (.ref x), .unset, .unset] (fun m => by first | (simp [entryFrame, mkF, argsToLocals, Value.category]; done) | rfl) ?_
  intro p e s m below meth c T0 CW SW0
  have XS_ := XS
  obtain ⟨O2, O4, P5, rG3, OU, OI, OT, OD, hUI, TBlt, DElt⟩ := XS_
  refine Av CW SW0 ?_
  intro vm1 C S2 rb3
  refine Ac C S2 [(0, .aload_n 0, 1)] 1 #[Ab x, .unset, .unset] [.ref x] ?_
  have SW4 := rb3 _ _ _ _ [] [] S2 (Keep.refl _ _) all0 all0
  refine Cu CW SW4 (ow hw 50 rfl) (by decide +kernel) 16 (by decide) (by decide) (by decide) (by decide) ?_
  intro T5 h6 a7 SW8 E9
  have f10 : n0 ≤ h6.size := (Nat.le_trans z0 E9.1)
  refine Av CW SW8 ?_
  intro vm17 C S18 rb19
  refine Ae C S18 hw 53 54 55 56 (De l Z a0 hw x a7 h6 n0 f10) 0 [.ref x, .ref a7] [] Cv ?_
  rintro T12 h13 v14 L15 S16 ⟨⟨rfl, e11⟩, -⟩
  rw [e11] at S16; clear e11
  refine Ac C S16 [(6, .pop, 1), (7, .iconst 0, 1), (8, .istore_n 1, 1), (9, .iload_n 1, 1), (10, .aload_n 0, 1)] 11 #[Ab x, Aa 0, .unset] [.ref x, .int 0] ?_
  have f20 := (X00.ext E9)
  have f21 := (Exa.ext E9 s0)
  have f22 := (Fld.ext E9 s1)
  have f23 := (Fld.ext E9 s2)
  have f24 := (s3.ext E9)
  refine Ah C S16 hw 57 58 60 60 59 61 19 (At l Z a0 hw G1 G3 x _ _ _ _ h6 n0 f10 f20 f21 f22 f23 f24 O2 O4 P5 rG3) 1 f21 [] [.int 0] Al ?_
  rintro T26 h27 v28 L29 S30 ⟨⟨rfl, e25⟩, -⟩
  rw [e25] at S30; clear e25
  refine Ac C S30 [(14, .if_icmp .ge 39, 3), (17, .aload_n 0, 1), (18, .iload_n 1, 1)] 19 #[Ab x, Aa 0, .unset] [.int 0, .ref x] ?_
  refine Ah C S30 hw 67 68 70 70 69 71 19 (Bm l Z a0 hw G1 G3 x _ _ _ _ 0 ((Ad x0).toInt8.toInt32) (Ad x0) h6 n0 f10 f20 f21 f22 f23 f24 O2 O4 P5 rG3 (⟨(by decide), (by decide)⟩) rfl (Ce hx0) (Ai hx0)) 0 f21 [.int 0] [] Be ?_
  rintro T32 h33 v34 L35 S36 ⟨⟨rfl, e31⟩, -⟩
  rw [e31] at S36; clear e31
  refine Ae C S36 hw 129 130 48 131 (Bw l Z a0 hw x0 h6 n0 f10 hx0) 0 [.int (Ad x0)] [] Bx ?_
  rintro T38 h39 v40 L41 S42 ⟨⟨rfl, e37⟩, -⟩
  rw [e37] at S42; clear e37
  refine Bh C S42 .ge 22 47 (fun (q43 : ¬ x0 < (0 : Int32)) => ?_) (fun (hq : x0 < (0 : Int32)) => False.elim (Cd hx0 hq))
  refine Ac C S42 [(47, .iinc 1 1, 3), (50, .goto (-41), 3), (9, .iload_n 1, 1), (10, .aload_n 0, 1)] 11 #[Ab x, Aa 1, .unset] [.ref x, .int 1] ?_
  refine Ah C S42 hw 57 58 60 60 59 61 19 (At l Z a0 hw G1 G3 x _ _ _ _ h6 n0 f10 f20 f21 f22 f23 f24 O2 O4 P5 rG3) 1 f21 [] [.int 1] Al ?_
  rintro T45 h46 v47 L48 S49 ⟨⟨rfl, e44⟩, -⟩
  rw [e44] at S49; clear e44
  refine Ac C S49 [(14, .if_icmp .ge 39, 3), (17, .aload_n 0, 1), (18, .iload_n 1, 1)] 19 #[Ab x, Aa 1, .unset] [.int 1, .ref x] ?_
  refine Ah C S49 hw 67 68 70 70 69 71 19 (Bm l Z a0 hw G1 G3 x _ _ _ _ 1 ((Ad x1).toInt8.toInt32) (Ad x1) h6 n0 f10 f20 f21 f22 f23 f24 O2 O4 P5 rG3 (⟨(by decide), (by decide)⟩) rfl (Ce hx1) (Ai hx1)) 0 f21 [.int 1] [] Be ?_
  rintro T51 h52 v53 L54 S55 ⟨⟨rfl, e50⟩, -⟩
  rw [e50] at S55; clear e50
  refine Ae C S55 hw 129 130 48 131 (Bw l Z a0 hw x1 h6 n0 f10 hx1) 0 [.int (Ad x1)] [] Bx ?_
  rintro T57 h58 v59 L60 S61 ⟨⟨rfl, e56⟩, -⟩
  rw [e56] at S61; clear e56
  refine Bh C S61 .ge 22 47 (fun (q62 : ¬ x1 < (0 : Int32)) => ?_) (fun (hq : x1 < (0 : Int32)) => False.elim (Cd hx1 hq))
  refine Ac C S61 [(47, .iinc 1 1, 3), (50, .goto (-41), 3), (9, .iload_n 1, 1), (10, .aload_n 0, 1)] 11 #[Ab x, Aa 2, .unset] [.ref x, .int 2] ?_
  refine Ah C S61 hw 57 58 60 60 59 61 19 (At l Z a0 hw G1 G3 x _ _ _ _ h6 n0 f10 f20 f21 f22 f23 f24 O2 O4 P5 rG3) 1 f21 [] [.int 2] Al ?_
  rintro T64 h65 v66 L67 S68 ⟨⟨rfl, e63⟩, -⟩
  rw [e63] at S68; clear e63
  refine Ac C S68 [(14, .if_icmp .ge 39, 3), (17, .aload_n 0, 1), (18, .iload_n 1, 1)] 19 #[Ab x, Aa 2, .unset] [.int 2, .ref x] ?_
  refine Ah C S68 hw 67 68 70 70 69 71 19 (Bm l Z a0 hw G1 G3 x _ _ _ _ 2 ((Ad x2).toInt8.toInt32) (Ad x2) h6 n0 f10 f20 f21 f22 f23 f24 O2 O4 P5 rG3 (⟨(by decide), (by decide)⟩) rfl (Ce hx2) (Ai hx2)) 0 f21 [.int 2] [] Be ?_
  rintro T70 h71 v72 L73 S74 ⟨⟨rfl, e69⟩, -⟩
  rw [e69] at S74; clear e69
  refine Ae C S74 hw 129 130 48 131 (Bw l Z a0 hw x2 h6 n0 f10 hx2) 0 [.int (Ad x2)] [] Bx ?_
  rintro T76 h77 v78 L79 S80 ⟨⟨rfl, e75⟩, -⟩
  rw [e75] at S80; clear e75
  refine Bh C S80 .ge 22 47 (fun (q81 : ¬ x2 < (0 : Int32)) => ?_) (fun (hq : x2 < (0 : Int32)) => False.elim (Cd hx2 hq))
  refine Ac C S80 [(47, .iinc 1 1, 3), (50, .goto (-41), 3), (9, .iload_n 1, 1), (10, .aload_n 0, 1)] 11 #[Ab x, Aa 3, .unset] [.ref x, .int 3] ?_
  refine Ah C S80 hw 57 58 60 60 59 61 19 (At l Z a0 hw G1 G3 x _ _ _ _ h6 n0 f10 f20 f21 f22 f23 f24 O2 O4 P5 rG3) 1 f21 [] [.int 3] Al ?_
  rintro T83 h84 v85 L86 S87 ⟨⟨rfl, e82⟩, -⟩
  rw [e82] at S87; clear e82
  refine Ac C S87 [(14, .if_icmp .ge 39, 3), (17, .aload_n 0, 1), (18, .iload_n 1, 1)] 19 #[Ab x, Aa 3, .unset] [.int 3, .ref x] ?_
  refine Ah C S87 hw 67 68 70 70 69 71 19 (Bm l Z a0 hw G1 G3 x _ _ _ _ 3 ((Ad x3).toInt8.toInt32) (Ad x3) h6 n0 f10 f20 f21 f22 f23 f24 O2 O4 P5 rG3 (⟨(by decide), (by decide)⟩) rfl (Ce hx3) (Ai hx3)) 0 f21 [.int 3] [] Be ?_
  rintro T89 h90 v91 L92 S93 ⟨⟨rfl, e88⟩, -⟩
  rw [e88] at S93; clear e88
  refine Ae C S93 hw 129 130 48 131 (Bw l Z a0 hw x3 h6 n0 f10 hx3) 0 [.int (Ad x3)] [] Bx ?_
  rintro T95 h96 v97 L98 S99 ⟨⟨rfl, e94⟩, -⟩
  rw [e94] at S99; clear e94
  refine Bh C S99 .ge 22 47 (fun (q100 : ¬ x3 < (0 : Int32)) => ?_) (fun (hq : x3 < (0 : Int32)) => False.elim (Cd hx3 hq))
  refine Ac C S99 [(47, .iinc 1 1, 3), (50, .goto (-41), 3), (9, .iload_n 1, 1), (10, .aload_n 0, 1)] 11 #[Ab x, Aa 4, .unset] [.ref x, .int 4] ?_
  refine Ah C S99 hw 57 58 60 60 59 61 19 (At l Z a0 hw G1 G3 x _ _ _ _ h6 n0 f10 f20 f21 f22 f23 f24 O2 O4 P5 rG3) 1 f21 [] [.int 4] Al ?_
  rintro T102 h103 v104 L105 S106 ⟨⟨rfl, e101⟩, -⟩
  rw [e101] at S106; clear e101
  refine Ac C S106 [(14, .if_icmp .ge 39, 3), (17, .aload_n 0, 1), (18, .iload_n 1, 1)] 19 #[Ab x, Aa 4, .unset] [.int 4, .ref x] ?_
  refine Ah C S106 hw 67 68 70 70 69 71 19 (Bm l Z a0 hw G1 G3 x _ _ _ _ 4 ((Ad x4).toInt8.toInt32) (Ad x4) h6 n0 f10 f20 f21 f22 f23 f24 O2 O4 P5 rG3 (⟨(by decide), (by decide)⟩) rfl (Ce hx4) (Ai hx4)) 0 f21 [.int 4] [] Be ?_
  rintro T108 h109 v110 L111 S112 ⟨⟨rfl, e107⟩, -⟩
  rw [e107] at S112; clear e107
  refine Ae C S112 hw 129 130 48 131 (Bw l Z a0 hw x4 h6 n0 f10 hx4) 0 [.int (Ad x4)] [] Bx ?_
  rintro T114 h115 v116 L117 S118 ⟨⟨rfl, e113⟩, -⟩
  rw [e113] at S118; clear e113
  refine Bh C S118 .ge 22 47 (fun (q119 : ¬ x4 < (0 : Int32)) => ?_) (fun (hq : x4 < (0 : Int32)) => False.elim (Cd hx4 hq))
  refine Ac C S118 [(47, .iinc 1 1, 3), (50, .goto (-41), 3), (9, .iload_n 1, 1), (10, .aload_n 0, 1)] 11 #[Ab x, Aa 5, .unset] [.ref x, .int 5] ?_
  refine Ah C S118 hw 57 58 60 60 59 61 19 (At l Z a0 hw G1 G3 x _ _ _ _ h6 n0 f10 f20 f21 f22 f23 f24 O2 O4 P5 rG3) 1 f21 [] [.int 5] Al ?_
  rintro T121 h122 v123 L124 S125 ⟨⟨rfl, e120⟩, -⟩
  rw [e120] at S125; clear e120
  refine Ac C S125 [(14, .if_icmp .ge 39, 3), (17, .aload_n 0, 1), (18, .iload_n 1, 1)] 19 #[Ab x, Aa 5, .unset] [.int 5, .ref x] ?_
  refine Ah C S125 hw 67 68 70 70 69 71 19 (Bm l Z a0 hw G1 G3 x _ _ _ _ 5 ((Ad x5).toInt8.toInt32) (Ad x5) h6 n0 f10 f20 f21 f22 f23 f24 O2 O4 P5 rG3 (⟨(by decide), (by decide)⟩) rfl (Ce hx5) (Ai hx5)) 0 f21 [.int 5] [] Be ?_
  rintro T127 h128 v129 L130 S131 ⟨⟨rfl, e126⟩, -⟩
  rw [e126] at S131; clear e126
  refine Ae C S131 hw 129 130 48 131 (Bw l Z a0 hw x5 h6 n0 f10 hx5) 0 [.int (Ad x5)] [] Bx ?_
  rintro T133 h134 v135 L136 S137 ⟨⟨rfl, e132⟩, -⟩
  rw [e132] at S137; clear e132
  refine Bh C S137 .ge 22 47 (fun (q138 : ¬ x5 < (0 : Int32)) => ?_) (fun (hq : x5 < (0 : Int32)) => False.elim (Cd hx5 hq))
  refine Ac C S137 [(47, .iinc 1 1, 3), (50, .goto (-41), 3), (9, .iload_n 1, 1), (10, .aload_n 0, 1)] 11 #[Ab x, Aa 6, .unset] [.ref x, .int 6] ?_
  refine Ah C S137 hw 57 58 60 60 59 61 19 (At l Z a0 hw G1 G3 x _ _ _ _ h6 n0 f10 f20 f21 f22 f23 f24 O2 O4 P5 rG3) 1 f21 [] [.int 6] Al ?_
  rintro T140 h141 v142 L143 S144 ⟨⟨rfl, e139⟩, -⟩
  rw [e139] at S144; clear e139
  refine Ac C S144 [(14, .if_icmp .ge 39, 3), (53, .aload_n 0, 1)] 54 #[Ab x, Aa 6, .unset] [.ref x] ?_
  refine Ah C S144 hw 57 58 60 60 59 61 19 (At l Z a0 hw G1 G3 x _ _ _ _ h6 n0 f10 f20 f21 f22 f23 f24 O2 O4 P5 rG3) 0 f21 [] [] Al ?_
  rintro T146 h147 v148 L149 S150 ⟨⟨rfl, e145⟩, -⟩
  rw [e145] at S150; clear e145
  refine Ac C S150 [(57, .iconst 1, 1), (58, .isub, 1), (59, .istore_n 1, 1), (60, .aload_n 0, 1)] 61 #[Ab x, Aa 5, .unset] [.ref x] ?_
  refine Ah C S150 hw 57 58 60 60 59 61 19 (At l Z a0 hw G1 G3 x _ _ _ _ h6 n0 f10 f20 f21 f22 f23 f24 O2 O4 P5 rG3) 0 f21 [] [] Al ?_
  rintro T152 h153 v154 L155 S156 ⟨⟨rfl, e151⟩, -⟩
  rw [e151] at S156; clear e151
  refine Ac C S156 [(64, .iconst 4, 1)] 65 #[Ab x, Aa 5, .unset] [.int 4, .int 6] ?_
  refine Dj C S156 (by decide +kernel) (by decide) ?_
  refine own_tsi C S156 (df := 53) (lo := 1) (hi := 3) (offs := #[26, 45, 49]) (len := 26) (o := 45) (by decide +kernel) (by decide) (by decide) (by decide) 111 (by decide) ?_
  refine Ac C S156 [(111, .iconst 4, 1), (112, .goto 8, 3), (120, .istore_n 2, 1), (121, .iload_n 2, 1), (122, .ifCond .le 39, 3), (125, .aload_n 0, 1), (126, .iload_n 1, 1)] 127 #[Ab x, Aa 5, Aa 4] [.int 5, .ref x] ?_
  refine Ah C S156 hw 67 68 70 70 69 71 19 (Bm l Z a0 hw G1 G3 x _ _ _ _ 5 ((Ad x5).toInt8.toInt32) (Ad x5) h6 n0 f10 f20 f21 f22 f23 f24 O2 O4 P5 rG3 (⟨(by decide), (by decide)⟩) rfl (Ce hx5) (Ai hx5)) 0 f21 [.int 5] [] Be ?_
  rintro T158 h159 v160 L161 S162 ⟨⟨rfl, e157⟩, -⟩
  rw [e157] at S162; clear e157
  refine Ae C S162 hw 129 130 48 131 (Bw l Z a0 hw x5 h6 n0 f10 hx5) 0 [.int (Ad x5)] [] Bx ?_
  rintro T164 h165 v166 L167 S168 ⟨⟨rfl, e163⟩, -⟩
  rw [e163] at S168; clear e163
  refine Ac C S168 [(133, .iconst 1, 1), (134, .iload_n 2, 1), (135, .ishl, 1), (136, .iconst 1, 1), (137, .isub, 1), (138, .iand, 1)] 139 #[Ab x, Aa 5, Aa 4] [.int (x5 &&& (((1 : Int32) <<< ((4 : Int32) &&& 31)) - (1 : Int32)))] ?_
  refine Bh C S168 .eq 22 161 (fun (q169 : (x5 &&& (((1 : Int32) <<< ((4 : Int32) &&& 31)) - (1 : Int32))) = (0 : Int32)) => ?_) (fun (hq : ¬ (x5 &&& (((1 : Int32) <<< ((4 : Int32) &&& 31)) - (1 : Int32))) = (0 : Int32)) => False.elim (hq hs))
  refine Bi C S168 (ow hw 132 rfl) Via.refl (OD.ext f20.2) (by decide +kernel) ?_
  intro T170 S171
  refine Ac C S171 [(164, .aload_n 0, 1)] 165 #[Ab x, Aa 5, Aa 4] [.ref x, .ref DE] ?_
  have f172 := (TK.ext E9)
  have f173 := (Exa.ext E9 DEx)
  have f174 := (Fld.ext E9 DEu)
  have f175 := (Fld.ext E9 DEm)
  have f176 := (Exa.ext E9 s4)
  refine Ah C S171 hw 134 135 137 137 136 139 138 (own_ds6 l Z a0 hw G1 G3 U8 I8 TB TBk DE x _ _ x0 x1 x2 x3 x4 x5 h6 n0 f10 f20 f172 f173 f174 f175 f21 f22 f23 f24 f176 XS hx0 hx1 hx2 hx3 hx4 hx5) 0 f173 [.ref x] [] Cb ?_
  rintro T182 h183 v184 L185 S186 ⟨⟨a177, k178, rfl, g179, K180, f181⟩, -⟩
  have o187 : h6.size ≤ a177 := Nat.le_trans (Nat.le_refl _) g179
  have SW188 := rb19 _ _ _ _ [] [a177] S186 ((Keep.refl _ _).trans K180 all0) all0 (allS ⟨o187, f181.lt⟩ all0)
  refine Ck CW SW188 rfl rfl (by decide +kernel) (by decide) (by decide) ?_
  have o190 : h0.size ≤ h6.size := (Nat.le_trans (Nat.le_refl _) E9.1)
  have o189 : h0.size ≤ a177 := Nat.le_trans o190 g179
  exact ⟨a177, k178, rfl, o189, (((Keep.refl _ _).ext E9).trans K180 all0), f181⟩
theorem own_dl7 (hw : Aj a0 Z) (G1 : Int32) (G3 : Value) (U8 : Addr) (I8 : Addr) (TB : Addr) (TBk : ClassId) (DE : Addr) (b : Addr) (bk : ClassId) (x0 : Int32) (x1 : Int32) (x2 : Int32) (x3 : Int32) (x4 : Int32) (x5 : Int32) (x6 : Int32) (h0 : Heap) (n0 : Nat) (z0 : n0 ≤ h0.size) (X00 : Old Z n0 h0) (TK : Arv Z h0 TB TBk .int 256 Bs (.int 0)) (DEx : Exa Z h0 DE "java/util/Base64$Decoder") (DEu : Fld Z h0 DE "java/util/Base64$Decoder" "isURL" "Z" (.int 1)) (DEm : Fld Z h0 DE "java/util/Base64$Decoder" "isMIME" "Z" (.int 0)) (b0 : Arv Z h0 b bk .byte (7 : Int32) ([(.int ((Ad x0).toInt8.toInt32)), (.int ((Ad x1).toInt8.toInt32)), (.int ((Ad x2).toInt8.toInt32)), (.int ((Ad x3).toInt8.toInt32)), (.int ((Ad x4).toInt8.toInt32)), (.int ((Ad x5).toInt8.toInt32)), (.int ((Ad x6).toInt8.toInt32))]) (.int 0)) (b1 : Exa Z h0 b "[B") (XS : Ax Z n0 G1 G3 U8 I8 TB DE) (hx0 : Ag x0) (hx1 : Ag x1) (hx2 : Ag x2) (hx3 : Ag x3) (hx4 : Ag x4) (hx5 : Ag x5) (hx6 : Ag x6) :
    Af l Z (⟨"java/util/Base64$Decoder", "decodedOutLength", "([BII)I"⟩ : MethodName) jdk_2450_method_7_code 9 (some .int) ({ frames := 0, cells := 0, slots := 0, locals := 0 } : Room) n0 #[(.ref DE), (.ref b), (.int 0), (.int 7)] h0 (fun v h => v = some (.int 5) ∧ h = h0) := by
  refine Ar #[.val (.ref DE), .val (.ref b), .val (.int 0), .val (.int 7), .unset, .unset, .unset, .unset, .unset] ?_
  intro p e s m below meth c T0 C S0
  have XS_ := XS
  obtain ⟨O2, O4, P5, rG3, OU, OI, OT, OD, hUI, TBlt, DElt⟩ := XS_
  refine Ac C S0 [(0, .aload_n 0, 1)] 1 #[Ab DE, Ab b, Aa 0, Aa 7, .unset, .unset, .unset, .unset, .unset] [.ref DE] ?_
  refine Ch C S0 hw 178 DEu ?_
  intro T1 S2
  refine Ac C S2 [(4, .ifCond .eq 9, 3)] 7 #[Ab DE, Ab b, Aa 0, Aa 7, .unset, .unset, .unset, .unset, .unset] [] ?_
  refine Bi C S2 (ow hw 180 rfl) Via.refl (OT.ext X00.2) (by decide +kernel) ?_
  intro T3 S4
  refine Ac C S4 [(10, .goto 6, 3), (16, .astore 4, 2), (18, .iconst 0, 1), (19, .istore 5, 2), (21, .iload_n 3, 1), (22, .iload_n 2, 1), (23, .isub, 1), (24, .istore 6, 2), (26, .iload 6, 2), (28, .ifCond .ne 5, 3), (33, .iload 6, 2), (35, .iconst 2, 1), (36, .if_icmp .ge 30, 3), (66, .aload_n 0, 1)] 67 #[Ab DE, Ab b, Aa 0, Aa 7, Ab TB, Aa 0, Aa 7, .unset, .unset] [.ref DE] ?_
  refine Ch C S4 hw 181 DEm ?_
  intro T5 S6
  refine Ac C S6 [(70, .ifCond .eq 71, 3), (141, .aload_n 1, 1), (142, .iload_n 3, 1), (143, .iconst 1, 1), (144, .isub, 1)] 145 #[Ab DE, Ab b, Aa 0, Aa 7, Ab TB, Aa 0, Aa 7, .unset, .unset] [.int 6, .ref b] ?_
  refine Bb C S6 b0 ⟨(by decide), (by decide)⟩ (.int ((Ad x6).toInt8.toInt32)) rfl (by decide +kernel) ?_
  refine Ac C S6 [(146, .bipush 61, 2)] 148 #[Ab DE, Ab b, Aa 0, Aa 7, Ab TB, Aa 0, Aa 7, .unset, .unset] [.int 61, .int ((Ad x6).toInt8.toInt32)] ?_
  refine Bg C S6 .ne 19 167 (fun (q7 : ¬ ((Ad x6).toInt8.toInt32) = (61 : Int32)) => ?_) (fun (hq : ((Ad x6).toInt8.toInt32) = (61 : Int32)) => False.elim (Fe hx6 hq))
  refine Ac C S6 [(167, .iload 5, 2), (169, .ifCond .ne 18, 3), (172, .iload 6, 2), (174, .iconst 3, 1), (175, .iand, 1), (176, .ifCond .eq 11, 3), (179, .iconst 4, 1), (180, .iload 6, 2), (182, .iconst 3, 1), (183, .iand, 1), (184, .isub, 1), (185, .istore 5, 2), (187, .iconst 3, 1), (188, .iload 6, 2), (190, .i2l, 1)] 191 #[Ab DE, Ab b, Aa 0, Aa 7, Ab TB, Aa 1, Aa 7, .unset, .unset] [.long ((7 : Int32).toInt64), .int 3] ?_
  refine Dd C S6 (ow hw 183 rfl) (by decide +kernel) ?_
  refine Ac C S6 [(194, .ladd, 1)] 195 #[Ab DE, Ab b, Aa 0, Aa 7, Ab TB, Aa 1, Aa 7, .unset, .unset] [.long ((7 : Int32).toInt64 + 3), .int 3] ?_
  refine Dd C S6 (ow hw 184 rfl) (by decide +kernel) ?_
  refine Ew C S6 (by decide +kernel) (by decide) ?_
  rw [show (((7 : Int32).toInt64 + 3) / 4) = (2 : Int64) from (by decide)]
  refine Ac C S6 [(199, .l2i, 1), (200, .imul, 1), (201, .iload 5, 2), (203, .isub, 1)] 204 #[Ab DE, Ab b, Aa 0, Aa 7, Ab TB, Aa 1, Aa 7, .unset, .unset] [.int (((3 : Int32) * (2 : Int64).toInt32) - (1 : Int32))] ?_
  rw [show (((3 : Int32) * (2 : Int64).toInt32) - (1 : Int32)) = (5 : Int32) from (by decide)]
  refine Bq C S6 (by decide +kernel) (by decide) (by decide) ?_
  exact ⟨rfl, rfl⟩
theorem own_db7 (hw : Aj a0 Z) (G1 : Int32) (G3 : Value) (U8 : Addr) (I8 : Addr) (TB : Addr) (TBk : ClassId) (DE : Addr) (b : Addr) (bk : ClassId) (d : Addr) (dk : ClassId) (x0 : Int32) (x1 : Int32) (x2 : Int32) (x3 : Int32) (x4 : Int32) (x5 : Int32) (x6 : Int32) (h0 : Heap) (n0 : Nat) (z0 : n0 ≤ h0.size) (ge_d : n0 ≤ d) (X00 : Old Z n0 h0) (TK : Arv Z h0 TB TBk .int 256 Bs (.int 0)) (DEx : Exa Z h0 DE "java/util/Base64$Decoder") (DEu : Fld Z h0 DE "java/util/Base64$Decoder" "isURL" "Z" (.int 1)) (DEm : Fld Z h0 DE "java/util/Base64$Decoder" "isMIME" "Z" (.int 0)) (b0 : Arv Z h0 b bk .byte (7 : Int32) ([(.int ((Ad x0).toInt8.toInt32)), (.int ((Ad x1).toInt8.toInt32)), (.int ((Ad x2).toInt8.toInt32)), (.int ((Ad x3).toInt8.toInt32)), (.int ((Ad x4).toInt8.toInt32)), (.int ((Ad x5).toInt8.toInt32)), (.int ((Ad x6).toInt8.toInt32))]) (.int 0)) (b1 : Exa Z h0 b "[B") (dK : Arv Z h0 d dk .byte (5 : Int32) ([(.int 0), (.int 0), (.int 0), (.int 0), (.int 0)]) (.int 0)) (ne_b_d : b ≠ d) (XS : Ax Z n0 G1 G3 U8 I8 TB DE) (hx0 : Ag x0) (hx1 : Ag x1) (hx2 : Ag x2) (hx3 : Ag x3) (hx4 : Ag x4) (hx5 : Ag x5) (hx6 : Ag x6) :
    Af l Z (⟨"java/util/Base64$Decoder", "decodeBlock", "([BII[BIZZ)I"⟩ : MethodName) jdk_2450_method_8_code 16 (some .int) ({ frames := 0, cells := 0, slots := 0, locals := 0 } : Room) n0 #[(.ref DE), (.ref b), (.int 0), (.int 7), (.ref d), (.int 0), (.int 1), (.int 0)] h0 (fun v h => v = some (.int 3) ∧ Keep h0 h [d] ∧ Arv Z h d dk .byte (5 : Int32) ([(.int (Ay (Aq x0 x1 x2 x3))), (.int (Bk (Aq x0 x1 x2 x3))), (.int (Cc (Aq x0 x1 x2 x3))), (.int 0), (.int 0)]) (.int 0)) := by
  refine Ar #[.val (.ref DE), .val (.ref b), .val (.int 0), .val (.int 7), .val (.ref d), .val (.int 0), .val (.int 1), .val (.int 0), .unset, .unset, .unset, .unset, .unset, .unset, .unset, .unset] ?_
  intro p e s m below meth c T0 C S0
  have XS_ := XS
  obtain ⟨O2, O4, P5, rG3, OU, OI, OT, OD, hUI, TBlt, DElt⟩ := XS_
  refine Ac C S0 [(0, .iload 6, 2), (2, .ifCond .eq 9, 3)] 5 #[Ab DE, Ab b, Aa 0, Aa 7, Ab d, Aa 0, Aa 1, Aa 0, .unset, .unset, .unset, .unset, .unset, .unset, .unset, .unset] [] ?_
  refine Bi C S0 (ow hw 180 rfl) Via.refl (OT.ext X00.2) (by decide +kernel) ?_
  intro T1 S2
  refine Ac C S2 [(8, .goto 6, 3), (14, .astore 8, 2), (16, .iload_n 2, 1), (17, .iload_n 3, 1), (18, .iload_n 2, 1), (19, .isub, 1), (20, .bipush (-4), 2), (22, .iand, 1), (23, .iadd, 1), (24, .istore 9, 2), (26, .iload 5, 2), (28, .istore 10, 2), (30, .iload_n 2, 1), (31, .iload 9, 2), (33, .if_icmp .ge 147, 3), (36, .aload 8, 2), (38, .aload_n 1, 1), (39, .iload_n 2, 1), (40, .iinc 2 1, 3)] 43 #[Ab DE, Ab b, Aa 1, Aa 7, Ab d, Aa 0, Aa 1, Aa 0, Ab TB, Aa 4, Aa 0, .unset, .unset, .unset, .unset, .unset] [.int 0, .ref b, .ref TB] ?_
  refine Bb C S2 b0 ⟨(by decide), (by decide)⟩ (.int ((Ad x0).toInt8.toInt32)) rfl (by decide +kernel) ?_
  refine Ac C S2 [(44, .sipush 255, 3), (47, .iand, 1)] 48 #[Ab DE, Ab b, Aa 1, Aa 7, Ab d, Aa 0, Aa 1, Aa 0, Ab TB, Aa 4, Aa 0, .unset, .unset, .unset, .unset, .unset] [.int ((Ad x0).toInt8.toInt32 &&& (255 : Int32)), .ref TB] ?_
  refine Bl C S2 TK (Cr hx0) (.int x0) (Cq hx0) (by decide +kernel) ?_
  refine Ac C S2 [(49, .istore 11, 2), (51, .aload 8, 2), (53, .aload_n 1, 1), (54, .iload_n 2, 1), (55, .iinc 2 1, 3)] 58 #[Ab DE, Ab b, Aa 2, Aa 7, Ab d, Aa 0, Aa 1, Aa 0, Ab TB, Aa 4, Aa 0, Aa x0, .unset, .unset, .unset, .unset] [.int 1, .ref b, .ref TB] ?_
  refine Bb C S2 b0 ⟨(by decide), (by decide)⟩ (.int ((Ad x1).toInt8.toInt32)) rfl (by decide +kernel) ?_
  refine Ac C S2 [(59, .sipush 255, 3), (62, .iand, 1)] 63 #[Ab DE, Ab b, Aa 2, Aa 7, Ab d, Aa 0, Aa 1, Aa 0, Ab TB, Aa 4, Aa 0, Aa x0, .unset, .unset, .unset, .unset] [.int ((Ad x1).toInt8.toInt32 &&& (255 : Int32)), .ref TB] ?_
  refine Bl C S2 TK (Cr hx1) (.int x1) (Cq hx1) (by decide +kernel) ?_
  refine Ac C S2 [(64, .istore 12, 2), (66, .aload 8, 2), (68, .aload_n 1, 1), (69, .iload_n 2, 1), (70, .iinc 2 1, 3)] 73 #[Ab DE, Ab b, Aa 3, Aa 7, Ab d, Aa 0, Aa 1, Aa 0, Ab TB, Aa 4, Aa 0, Aa x0, Aa x1, .unset, .unset, .unset] [.int 2, .ref b, .ref TB] ?_
  refine Bb C S2 b0 ⟨(by decide), (by decide)⟩ (.int ((Ad x2).toInt8.toInt32)) rfl (by decide +kernel) ?_
  refine Ac C S2 [(74, .sipush 255, 3), (77, .iand, 1)] 78 #[Ab DE, Ab b, Aa 3, Aa 7, Ab d, Aa 0, Aa 1, Aa 0, Ab TB, Aa 4, Aa 0, Aa x0, Aa x1, .unset, .unset, .unset] [.int ((Ad x2).toInt8.toInt32 &&& (255 : Int32)), .ref TB] ?_
  refine Bl C S2 TK (Cr hx2) (.int x2) (Cq hx2) (by decide +kernel) ?_
  refine Ac C S2 [(79, .istore 13, 2), (81, .aload 8, 2), (83, .aload_n 1, 1), (84, .iload_n 2, 1), (85, .iinc 2 1, 3)] 88 #[Ab DE, Ab b, Aa 4, Aa 7, Ab d, Aa 0, Aa 1, Aa 0, Ab TB, Aa 4, Aa 0, Aa x0, Aa x1, Aa x2, .unset, .unset] [.int 3, .ref b, .ref TB] ?_
  refine Bb C S2 b0 ⟨(by decide), (by decide)⟩ (.int ((Ad x3).toInt8.toInt32)) rfl (by decide +kernel) ?_
  refine Ac C S2 [(89, .sipush 255, 3), (92, .iand, 1)] 93 #[Ab DE, Ab b, Aa 4, Aa 7, Ab d, Aa 0, Aa 1, Aa 0, Ab TB, Aa 4, Aa 0, Aa x0, Aa x1, Aa x2, .unset, .unset] [.int ((Ad x3).toInt8.toInt32 &&& (255 : Int32)), .ref TB] ?_
  refine Bl C S2 TK (Cr hx3) (.int x3) (Cq hx3) (by decide +kernel) ?_
  refine Ac C S2 [(94, .istore 14, 2), (96, .iload 11, 2), (98, .iload 12, 2), (100, .ior, 1), (101, .iload 13, 2), (103, .ior, 1), (104, .iload 14, 2), (106, .ior, 1)] 107 #[Ab DE, Ab b, Aa 4, Aa 7, Ab d, Aa 0, Aa 1, Aa 0, Ab TB, Aa 4, Aa 0, Aa x0, Aa x1, Aa x2, Aa x3, .unset] [.int (((x0 ||| x1) ||| x2) ||| x3)] ?_
  refine Bh C S2 .ge 9 116 (fun (q3 : ¬ (((x0 ||| x1) ||| x2) ||| x3) < (0 : Int32)) => ?_) (fun (hq : (((x0 ||| x1) ||| x2) ||| x3) < (0 : Int32)) => False.elim (own_or4 hx0 hx1 hx2 hx3 hq))
  refine Ac C S2 [(116, .iload 11, 2), (118, .bipush 18, 2), (120, .ishl, 1), (121, .iload 12, 2), (123, .bipush 12, 2), (125, .ishl, 1), (126, .ior, 1), (127, .iload 13, 2), (129, .bipush 6, 2), (131, .ishl, 1), (132, .ior, 1), (133, .iload 14, 2), (135, .ior, 1), (136, .istore 15, 2), (138, .aload 4, 2), (140, .iload 10, 2), (142, .iinc 10 1, 3), (145, .iload 15, 2), (147, .bipush 16, 2), (149, .ishr, 1), (150, .i2b, 1)] 151 #[Ab DE, Ab b, Aa 4, Aa 7, Ab d, Aa 0, Aa 1, Aa 0, Ab TB, Aa 4, Aa 1, Aa x0, Aa x1, Aa x2, Aa x3, Aa ((((x0 <<< ((18 : Int32) &&& 31)) ||| (x1 <<< ((12 : Int32) &&& 31))) ||| (x2 <<< ((6 : Int32) &&& 31))) ||| x3)] [.int ((((((x0 <<< ((18 : Int32) &&& 31)) ||| (x1 <<< ((12 : Int32) &&& 31))) ||| (x2 <<< ((6 : Int32) &&& 31))) ||| x3) >>> ((16 : Int32) &&& 31)).toInt8.toInt32), .int 0, .ref d] ?_
  refine Ap C S2 dK ⟨(by decide), (by decide)⟩ 0 rfl (Ak rfl) ((((((x0 <<< ((18 : Int32) &&& 31)) ||| (x1 <<< ((12 : Int32) &&& 31))) ||| (x2 <<< ((6 : Int32) &&& 31))) ||| x3) >>> ((16 : Int32) &&& 31)).toInt8.toInt32) (Bc _) ge_d (by decide +kernel) ?_
  intro T4 h6 S5 W7 f8
  have f9 : Arv Z h6 d dk .byte (5 : Int32) ([(.int ((((((x0 <<< ((18 : Int32) &&& 31)) ||| (x1 <<< ((12 : Int32) &&& 31))) ||| (x2 <<< ((6 : Int32) &&& 31))) ||| x3) >>> ((16 : Int32) &&& 31)).toInt8.toInt32)), (.int 0), (.int 0), (.int 0), (.int 0)]) (.int 0) := f8
  refine Ac C S5 [(152, .aload 4, 2), (154, .iload 10, 2), (156, .iinc 10 1, 3), (159, .iload 15, 2), (161, .bipush 8, 2), (163, .ishr, 1), (164, .i2b, 1)] 165 #[Ab DE, Ab b, Aa 4, Aa 7, Ab d, Aa 0, Aa 1, Aa 0, Ab TB, Aa 4, Aa 2, Aa x0, Aa x1, Aa x2, Aa x3, Aa ((((x0 <<< ((18 : Int32) &&& 31)) ||| (x1 <<< ((12 : Int32) &&& 31))) ||| (x2 <<< ((6 : Int32) &&& 31))) ||| x3)] [.int ((((((x0 <<< ((18 : Int32) &&& 31)) ||| (x1 <<< ((12 : Int32) &&& 31))) ||| (x2 <<< ((6 : Int32) &&& 31))) ||| x3) >>> ((8 : Int32) &&& 31)).toInt8.toInt32), .int 1, .ref d] ?_
  refine Ap C S5 f9 ⟨(by decide), (by decide)⟩ 1 rfl (Ak rfl) ((((((x0 <<< ((18 : Int32) &&& 31)) ||| (x1 <<< ((12 : Int32) &&& 31))) ||| (x2 <<< ((6 : Int32) &&& 31))) ||| x3) >>> ((8 : Int32) &&& 31)).toInt8.toInt32) (Bc _) ge_d (by decide +kernel) ?_
  intro T10 h12 S11 W13 f14
  have f15 : Arv Z h12 d dk .byte (5 : Int32) ([(.int ((((((x0 <<< ((18 : Int32) &&& 31)) ||| (x1 <<< ((12 : Int32) &&& 31))) ||| (x2 <<< ((6 : Int32) &&& 31))) ||| x3) >>> ((16 : Int32) &&& 31)).toInt8.toInt32)), (.int ((((((x0 <<< ((18 : Int32) &&& 31)) ||| (x1 <<< ((12 : Int32) &&& 31))) ||| (x2 <<< ((6 : Int32) &&& 31))) ||| x3) >>> ((8 : Int32) &&& 31)).toInt8.toInt32)), (.int 0), (.int 0), (.int 0)]) (.int 0) := f14
  refine Ac C S11 [(166, .aload 4, 2), (168, .iload 10, 2), (170, .iinc 10 1, 3), (173, .iload 15, 2), (175, .i2b, 1)] 176 #[Ab DE, Ab b, Aa 4, Aa 7, Ab d, Aa 0, Aa 1, Aa 0, Ab TB, Aa 4, Aa 3, Aa x0, Aa x1, Aa x2, Aa x3, Aa ((((x0 <<< ((18 : Int32) &&& 31)) ||| (x1 <<< ((12 : Int32) &&& 31))) ||| (x2 <<< ((6 : Int32) &&& 31))) ||| x3)] [.int (((((x0 <<< ((18 : Int32) &&& 31)) ||| (x1 <<< ((12 : Int32) &&& 31))) ||| (x2 <<< ((6 : Int32) &&& 31))) ||| x3).toInt8.toInt32), .int 2, .ref d] ?_
  refine Ap C S11 f15 ⟨(by decide), (by decide)⟩ 2 rfl (Ak rfl) (((((x0 <<< ((18 : Int32) &&& 31)) ||| (x1 <<< ((12 : Int32) &&& 31))) ||| (x2 <<< ((6 : Int32) &&& 31))) ||| x3).toInt8.toInt32) (Bc _) ge_d (by decide +kernel) ?_
  intro T16 h18 S17 W19 f20
  have f21 : Arv Z h18 d dk .byte (5 : Int32) ([(.int ((((((x0 <<< ((18 : Int32) &&& 31)) ||| (x1 <<< ((12 : Int32) &&& 31))) ||| (x2 <<< ((6 : Int32) &&& 31))) ||| x3) >>> ((16 : Int32) &&& 31)).toInt8.toInt32)), (.int ((((((x0 <<< ((18 : Int32) &&& 31)) ||| (x1 <<< ((12 : Int32) &&& 31))) ||| (x2 <<< ((6 : Int32) &&& 31))) ||| x3) >>> ((8 : Int32) &&& 31)).toInt8.toInt32)), (.int (((((x0 <<< ((18 : Int32) &&& 31)) ||| (x1 <<< ((12 : Int32) &&& 31))) ||| (x2 <<< ((6 : Int32) &&& 31))) ||| x3).toInt8.toInt32)), (.int 0), (.int 0)]) (.int 0) := f20
  refine Ac C S17 [(177, .goto (-147), 3), (30, .iload_n 2, 1), (31, .iload 9, 2), (33, .if_icmp .ge 147, 3), (180, .iload 10, 2), (182, .iload 5, 2), (184, .isub, 1)] 185 #[Ab DE, Ab b, Aa 4, Aa 7, Ab d, Aa 0, Aa 1, Aa 0, Ab TB, Aa 4, Aa 3, Aa x0, Aa x1, Aa x2, Aa x3, Aa ((((x0 <<< ((18 : Int32) &&& 31)) ||| (x1 <<< ((12 : Int32) &&& 31))) ||| (x2 <<< ((6 : Int32) &&& 31))) ||| x3)] [.int 3] ?_
  refine Bq C S17 (by decide +kernel) (by decide) (by decide) ?_
  exact ⟨rfl, ((((Keep.refl _ _).wr W7 (Ba 0)).wr W13 (Ba 0)).wr W19 (Ba 0)), f21⟩
theorem own_d07 (hw : Aj a0 Z) (G1 : Int32) (G3 : Value) (U8 : Addr) (I8 : Addr) (TB : Addr) (TBk : ClassId) (DE : Addr) (b : Addr) (bk : ClassId) (d : Addr) (dk : ClassId) (x0 : Int32) (x1 : Int32) (x2 : Int32) (x3 : Int32) (x4 : Int32) (x5 : Int32) (x6 : Int32) (h0 : Heap) (n0 : Nat) (z0 : n0 ≤ h0.size) (ge_d : n0 ≤ d) (X00 : Old Z n0 h0) (TK : Arv Z h0 TB TBk .int 256 Bs (.int 0)) (DEx : Exa Z h0 DE "java/util/Base64$Decoder") (DEu : Fld Z h0 DE "java/util/Base64$Decoder" "isURL" "Z" (.int 1)) (DEm : Fld Z h0 DE "java/util/Base64$Decoder" "isMIME" "Z" (.int 0)) (b0 : Arv Z h0 b bk .byte (7 : Int32) ([(.int ((Ad x0).toInt8.toInt32)), (.int ((Ad x1).toInt8.toInt32)), (.int ((Ad x2).toInt8.toInt32)), (.int ((Ad x3).toInt8.toInt32)), (.int ((Ad x4).toInt8.toInt32)), (.int ((Ad x5).toInt8.toInt32)), (.int ((Ad x6).toInt8.toInt32))]) (.int 0)) (b1 : Exa Z h0 b "[B") (dK : Arv Z h0 d dk .byte (5 : Int32) ([(.int 0), (.int 0), (.int 0), (.int 0), (.int 0)]) (.int 0)) (ne_b_d : b ≠ d) (XS : Ax Z n0 G1 G3 U8 I8 TB DE) (hx0 : Ag x0) (hx1 : Ag x1) (hx2 : Ag x2) (hx3 : Ag x3) (hx4 : Ag x4) (hx5 : Ag x5) (hx6 : Ag x6) :
    Af l Z (⟨"java/util/Base64$Decoder", "decode0", "([BII[B)I"⟩ : MethodName) jdk_2450_method_9_code 11 (some .int) ({ frames := 1, cells := 0, slots := 0, locals := 27 } : Room) n0 #[(.ref DE), (.ref b), (.int 0), (.int 7), (.ref d)] h0 (fun v h => v = some (.int 5) ∧ Keep h0 h [d] ∧ Arv Z h d dk .byte (5 : Int32) ([(.int (Ay (Aq x0 x1 x2 x3))), (.int (Bk (Aq x0 x1 x2 x3))), (.int (Cc (Aq x0 x1 x2 x3))), (.int (Ay (Ci x4 x5 x6))), (.int (Bk (Ci x4 x5 x6)))]) (.int 0)) := by
  refine Ar #[.val (.ref DE), .val (.ref b), .val (.int 0), .val (.int 7), .val (.ref d), .unset, .unset, .unset, .unset, .unset, .unset] ?_
  intro p e s m below meth c T0 C S0
  have XS_ := XS
  obtain ⟨O2, O4, P5, rG3, OU, OI, OT, OD, hUI, TBlt, DElt⟩ := XS_
  refine Ac C S0 [(0, .aload_n 0, 1)] 1 #[Ab DE, Ab b, Aa 0, Aa 7, Ab d, .unset, .unset, .unset, .unset, .unset, .unset] [.ref DE] ?_
  refine Ch C S0 hw 178 DEu ?_
  intro T1 S2
  refine Ac C S2 [(4, .ifCond .eq 9, 3)] 7 #[Ab DE, Ab b, Aa 0, Aa 7, Ab d, .unset, .unset, .unset, .unset, .unset, .unset] [] ?_
  refine Bi C S2 (ow hw 180 rfl) Via.refl (OT.ext X00.2) (by decide +kernel) ?_
  intro T3 S4
  refine Ac C S4 [(10, .goto 6, 3), (16, .astore 5, 2), (18, .iconst 0, 1), (19, .istore 6, 2), (21, .iconst 0, 1), (22, .istore 7, 2), (24, .bipush 18, 2), (26, .istore 8, 2), (28, .iload_n 2, 1), (29, .iload_n 3, 1), (30, .if_icmp .ge 251, 3), (33, .iload 8, 2), (35, .bipush 18, 2), (37, .if_icmp .ne 53, 3), (40, .iload_n 2, 1), (41, .iload_n 3, 1), (42, .iconst 4, 1), (43, .isub, 1), (44, .if_icmp .ge 46, 3), (47, .aload_n 0, 1), (48, .aload_n 1, 1), (49, .iload_n 2, 1), (50, .iload_n 3, 1), (51, .aload 4, 2), (53, .iload 6, 2), (55, .aload_n 0, 1)] 56 #[Ab DE, Ab b, Aa 0, Aa 7, Ab d, Ab TB, Aa 0, Aa 0, Aa 18, .unset, .unset] [.ref DE, .int 0, .ref d, .int 7, .int 0, .ref b, .ref DE] ?_
  refine Ch C S4 hw 178 DEu ?_
  intro T5 S6
  refine Ac C S6 [(59, .aload_n 0, 1)] 60 #[Ab DE, Ab b, Aa 0, Aa 7, Ab d, Ab TB, Aa 0, Aa 0, Aa 18, .unset, .unset] [.ref DE, .int 1, .int 0, .ref d, .int 7, .int 0, .ref b, .ref DE] ?_
  refine Ch C S6 hw 181 DEm ?_
  intro T7 S8
  refine Co C S8 (ow hw 193 rfl) (ow hw 194 rfl) (ow hw 196 rfl) (ow hw 195 rfl) (ow hw 197 rfl) (by decide) (Af.pay (own_db7 l Z a0 hw G1 G3 U8 I8 TB TBk DE b _ d _ x0 x1 x2 x3 x4 x5 x6 h0 n0 z0 ge_d X00 TK DEx DEu DEm b0 b1 dK ne_b_d XS hx0 hx1 hx2 hx3 hx4 hx5 hx6) C 0 (ow hw 197 rfl) (ow hw 138 rfl) (by decide) (by decide)) (fun _ _ _ q => q.2) DEx [.ref b, .int 0, .int 7, .ref d, .int 0, .int 1, .int 0] [] rfl own_pd21 rfl rfl rfl (Ak rfl) (by decide) (by decide) (by decide +kernel) ?_
  rintro T11 h12 v13 L14 S15 ⟨⟨rfl, K9, f10⟩, -⟩
  refine Ac C S15 [(66, .istore 9, 2), (68, .iload 9, 2), (70, .iconst 2, 1), (71, .iadd, 1), (72, .iconst 3, 1)] 73 #[Ab DE, Ab b, Aa 0, Aa 7, Ab d, Ab TB, Aa 0, Aa 0, Aa 18, Aa 3, .unset] [.int 3, .int 5] ?_
  refine Fb C S15 (by decide +kernel) (by decide) ?_
  refine Ac C S15 [(74, .iconst 4, 1), (75, .imul, 1), (76, .istore 10, 2), (78, .iload_n 2, 1), (79, .iload 10, 2), (81, .iadd, 1), (82, .istore_n 2, 1), (83, .iload 6, 2), (85, .iload 9, 2), (87, .iadd, 1), (88, .istore 6, 2), (90, .iload_n 2, 1), (91, .iload_n 3, 1), (92, .if_icmp .lt 6, 3), (98, .aload_n 1, 1), (99, .iload_n 2, 1), (100, .iinc 2 1, 3)] 103 #[Ab DE, Ab b, Aa 5, Aa 7, Ab d, Ab TB, Aa 3, Aa 0, Aa 18, Aa 3, Aa 4] [.int 4, .ref b] ?_
  have f16 := (b0.keep K9 (ninS ne_b_d nin0))
  refine Bb C S15 f16 ⟨(by decide), (by decide)⟩ (.int ((Ad x4).toInt8.toInt32)) rfl (by decide +kernel) ?_
  refine Ac C S15 [(104, .sipush 255, 3), (107, .iand, 1), (108, .istore 9, 2), (110, .aload 5, 2), (112, .iload 9, 2)] 114 #[Ab DE, Ab b, Aa 5, Aa 7, Ab d, Ab TB, Aa 3, Aa 0, Aa 18, Aa ((Ad x4).toInt8.toInt32 &&& (255 : Int32)), Aa 4] [.int ((Ad x4).toInt8.toInt32 &&& (255 : Int32)), .ref TB] ?_
  have n17 : TB ≠ d := Nat.ne_of_lt (Nat.lt_of_lt_of_le TBlt ge_d)
  have f18 := (TK.keep K9 (ninS n17 nin0))
  refine Bl C S15 f18 (Cr hx4) (.int x4) (Cq hx4) (by decide +kernel) ?_
  refine Ac C S15 [(115, .dup, 1), (116, .istore 9, 2)] 118 #[Ab DE, Ab b, Aa 5, Aa 7, Ab d, Ab TB, Aa 3, Aa 0, Aa 18, Aa x4, Aa 4] [.int x4] ?_
  refine Bh C S15 .ge 96 214 (fun (q19 : ¬ x4 < (0 : Int32)) => ?_) (fun (hq : x4 < (0 : Int32)) => False.elim (Cd hx4 hq))
  refine Ac C S15 [(214, .iload 7, 2), (216, .iload 9, 2), (218, .iload 8, 2), (220, .ishl, 1), (221, .ior, 1), (222, .istore 7, 2), (224, .iinc 8 (-6), 3), (227, .iload 8, 2), (229, .ifCond .ge 49, 3), (278, .goto (-250), 3), (28, .iload_n 2, 1), (29, .iload_n 3, 1), (30, .if_icmp .ge 251, 3), (33, .iload 8, 2), (35, .bipush 18, 2), (37, .if_icmp .ne 53, 3), (90, .iload_n 2, 1), (91, .iload_n 3, 1), (92, .if_icmp .lt 6, 3), (98, .aload_n 1, 1), (99, .iload_n 2, 1), (100, .iinc 2 1, 3)] 103 #[Ab DE, Ab b, Aa 6, Aa 7, Ab d, Ab TB, Aa 3, Aa ((0 : Int32) ||| (x4 <<< ((18 : Int32) &&& 31))), Aa 12, Aa x4, Aa 4] [.int 5, .ref b] ?_
  refine Bb C S15 f16 ⟨(by decide), (by decide)⟩ (.int ((Ad x5).toInt8.toInt32)) rfl (by decide +kernel) ?_
  refine Ac C S15 [(104, .sipush 255, 3), (107, .iand, 1), (108, .istore 9, 2), (110, .aload 5, 2), (112, .iload 9, 2)] 114 #[Ab DE, Ab b, Aa 6, Aa 7, Ab d, Ab TB, Aa 3, Aa ((0 : Int32) ||| (x4 <<< ((18 : Int32) &&& 31))), Aa 12, Aa ((Ad x5).toInt8.toInt32 &&& (255 : Int32)), Aa 4] [.int ((Ad x5).toInt8.toInt32 &&& (255 : Int32)), .ref TB] ?_
  refine Bl C S15 f18 (Cr hx5) (.int x5) (Cq hx5) (by decide +kernel) ?_
  refine Ac C S15 [(115, .dup, 1), (116, .istore 9, 2)] 118 #[Ab DE, Ab b, Aa 6, Aa 7, Ab d, Ab TB, Aa 3, Aa ((0 : Int32) ||| (x4 <<< ((18 : Int32) &&& 31))), Aa 12, Aa x5, Aa 4] [.int x5] ?_
  refine Bh C S15 .ge 96 214 (fun (q20 : ¬ x5 < (0 : Int32)) => ?_) (fun (hq : x5 < (0 : Int32)) => False.elim (Cd hx5 hq))
  refine Ac C S15 [(214, .iload 7, 2), (216, .iload 9, 2), (218, .iload 8, 2), (220, .ishl, 1), (221, .ior, 1), (222, .istore 7, 2), (224, .iinc 8 (-6), 3), (227, .iload 8, 2), (229, .ifCond .ge 49, 3), (278, .goto (-250), 3), (28, .iload_n 2, 1), (29, .iload_n 3, 1), (30, .if_icmp .ge 251, 3), (33, .iload 8, 2), (35, .bipush 18, 2), (37, .if_icmp .ne 53, 3), (90, .iload_n 2, 1), (91, .iload_n 3, 1), (92, .if_icmp .lt 6, 3), (98, .aload_n 1, 1), (99, .iload_n 2, 1), (100, .iinc 2 1, 3)] 103 #[Ab DE, Ab b, Aa 7, Aa 7, Ab d, Ab TB, Aa 3, Aa (((0 : Int32) ||| (x4 <<< ((18 : Int32) &&& 31))) ||| (x5 <<< ((12 : Int32) &&& 31))), Aa 6, Aa x5, Aa 4] [.int 6, .ref b] ?_
  refine Bb C S15 f16 ⟨(by decide), (by decide)⟩ (.int ((Ad x6).toInt8.toInt32)) rfl (by decide +kernel) ?_
  refine Ac C S15 [(104, .sipush 255, 3), (107, .iand, 1), (108, .istore 9, 2), (110, .aload 5, 2), (112, .iload 9, 2)] 114 #[Ab DE, Ab b, Aa 7, Aa 7, Ab d, Ab TB, Aa 3, Aa (((0 : Int32) ||| (x4 <<< ((18 : Int32) &&& 31))) ||| (x5 <<< ((12 : Int32) &&& 31))), Aa 6, Aa ((Ad x6).toInt8.toInt32 &&& (255 : Int32)), Aa 4] [.int ((Ad x6).toInt8.toInt32 &&& (255 : Int32)), .ref TB] ?_
  refine Bl C S15 f18 (Cr hx6) (.int x6) (Cq hx6) (by decide +kernel) ?_
  refine Ac C S15 [(115, .dup, 1), (116, .istore 9, 2)] 118 #[Ab DE, Ab b, Aa 7, Aa 7, Ab d, Ab TB, Aa 3, Aa (((0 : Int32) ||| (x4 <<< ((18 : Int32) &&& 31))) ||| (x5 <<< ((12 : Int32) &&& 31))), Aa 6, Aa x6, Aa 4] [.int x6] ?_
  refine Bh C S15 .ge 96 214 (fun (q21 : ¬ x6 < (0 : Int32)) => ?_) (fun (hq : x6 < (0 : Int32)) => False.elim (Cd hx6 hq))
  refine Ac C S15 [(214, .iload 7, 2), (216, .iload 9, 2), (218, .iload 8, 2), (220, .ishl, 1), (221, .ior, 1), (222, .istore 7, 2), (224, .iinc 8 (-6), 3), (227, .iload 8, 2), (229, .ifCond .ge 49, 3), (278, .goto (-250), 3), (28, .iload_n 2, 1), (29, .iload_n 3, 1), (30, .if_icmp .ge 251, 3), (281, .iload 8, 2), (283, .bipush 6, 2), (285, .if_icmp .ne 20, 3), (305, .iload 8, 2), (307, .ifCond .ne 34, 3), (310, .aload 4, 2), (312, .iload 6, 2), (314, .iinc 6 1, 3), (317, .iload 7, 2), (319, .bipush 16, 2), (321, .ishr, 1), (322, .i2b, 1)] 323 #[Ab DE, Ab b, Aa 7, Aa 7, Ab d, Ab TB, Aa 4, Aa ((((0 : Int32) ||| (x4 <<< ((18 : Int32) &&& 31))) ||| (x5 <<< ((12 : Int32) &&& 31))) ||| (x6 <<< ((6 : Int32) &&& 31))), Aa 0, Aa x6, Aa 4] [.int ((((((0 : Int32) ||| (x4 <<< ((18 : Int32) &&& 31))) ||| (x5 <<< ((12 : Int32) &&& 31))) ||| (x6 <<< ((6 : Int32) &&& 31))) >>> ((16 : Int32) &&& 31)).toInt8.toInt32), .int 3, .ref d] ?_
  refine Ap C S15 f10 ⟨(by decide), (by decide)⟩ 3 rfl (Ak rfl) ((((((0 : Int32) ||| (x4 <<< ((18 : Int32) &&& 31))) ||| (x5 <<< ((12 : Int32) &&& 31))) ||| (x6 <<< ((6 : Int32) &&& 31))) >>> ((16 : Int32) &&& 31)).toInt8.toInt32) (Bc _) ge_d (by decide +kernel) ?_
  intro T22 h24 S23 W25 f26
  have f27 : Arv Z h24 d dk .byte (5 : Int32) ([(.int (Ay (Aq x0 x1 x2 x3))), (.int (Bk (Aq x0 x1 x2 x3))), (.int (Cc (Aq x0 x1 x2 x3))), (.int ((((((0 : Int32) ||| (x4 <<< ((18 : Int32) &&& 31))) ||| (x5 <<< ((12 : Int32) &&& 31))) ||| (x6 <<< ((6 : Int32) &&& 31))) >>> ((16 : Int32) &&& 31)).toInt8.toInt32)), (.int 0)]) (.int 0) := f26
  refine Ac C S23 [(324, .aload 4, 2), (326, .iload 6, 2), (328, .iinc 6 1, 3), (331, .iload 7, 2), (333, .bipush 8, 2), (335, .ishr, 1), (336, .i2b, 1)] 337 #[Ab DE, Ab b, Aa 7, Aa 7, Ab d, Ab TB, Aa 5, Aa ((((0 : Int32) ||| (x4 <<< ((18 : Int32) &&& 31))) ||| (x5 <<< ((12 : Int32) &&& 31))) ||| (x6 <<< ((6 : Int32) &&& 31))), Aa 0, Aa x6, Aa 4] [.int ((((((0 : Int32) ||| (x4 <<< ((18 : Int32) &&& 31))) ||| (x5 <<< ((12 : Int32) &&& 31))) ||| (x6 <<< ((6 : Int32) &&& 31))) >>> ((8 : Int32) &&& 31)).toInt8.toInt32), .int 4, .ref d] ?_
  refine Ap C S23 f27 ⟨(by decide), (by decide)⟩ 4 rfl (Ak rfl) ((((((0 : Int32) ||| (x4 <<< ((18 : Int32) &&& 31))) ||| (x5 <<< ((12 : Int32) &&& 31))) ||| (x6 <<< ((6 : Int32) &&& 31))) >>> ((8 : Int32) &&& 31)).toInt8.toInt32) (Bc _) ge_d (by decide +kernel) ?_
  intro T28 h30 S29 W31 f32
  have f33 : Arv Z h30 d dk .byte (5 : Int32) ([(.int (Ay (Aq x0 x1 x2 x3))), (.int (Bk (Aq x0 x1 x2 x3))), (.int (Cc (Aq x0 x1 x2 x3))), (.int ((((((0 : Int32) ||| (x4 <<< ((18 : Int32) &&& 31))) ||| (x5 <<< ((12 : Int32) &&& 31))) ||| (x6 <<< ((6 : Int32) &&& 31))) >>> ((16 : Int32) &&& 31)).toInt8.toInt32)), (.int ((((((0 : Int32) ||| (x4 <<< ((18 : Int32) &&& 31))) ||| (x5 <<< ((12 : Int32) &&& 31))) ||| (x6 <<< ((6 : Int32) &&& 31))) >>> ((8 : Int32) &&& 31)).toInt8.toInt32))]) (.int 0) := f32
  refine Ac C S29 [(338, .goto 20, 3), (358, .iload_n 2, 1), (359, .iload_n 3, 1), (360, .if_icmp .ge 56, 3), (416, .iload 6, 2)] 418 #[Ab DE, Ab b, Aa 7, Aa 7, Ab d, Ab TB, Aa 5, Aa ((((0 : Int32) ||| (x4 <<< ((18 : Int32) &&& 31))) ||| (x5 <<< ((12 : Int32) &&& 31))) ||| (x6 <<< ((6 : Int32) &&& 31))), Aa 0, Aa x6, Aa 4] [.int 5] ?_
  refine Bq C S29 (by decide +kernel) (by decide) (by decide) ?_
  exact ⟨rfl, ((((Keep.refl _ _).trans K9 (allS (Ba 0) all0)).wr W25 (Ba 0)).wr W31 (Ba 0)), f33⟩
theorem own_da7 (hw : Aj a0 Z) (G1 : Int32) (G3 : Value) (U8 : Addr) (I8 : Addr) (TB : Addr) (TBk : ClassId) (DE : Addr) (b : Addr) (bk : ClassId) (x0 : Int32) (x1 : Int32) (x2 : Int32) (x3 : Int32) (x4 : Int32) (x5 : Int32) (x6 : Int32) (h0 : Heap) (n0 : Nat) (z0 : n0 ≤ h0.size) (X00 : Old Z n0 h0) (TK : Arv Z h0 TB TBk .int 256 Bs (.int 0)) (DEx : Exa Z h0 DE "java/util/Base64$Decoder") (DEu : Fld Z h0 DE "java/util/Base64$Decoder" "isURL" "Z" (.int 1)) (DEm : Fld Z h0 DE "java/util/Base64$Decoder" "isMIME" "Z" (.int 0)) (b0 : Arv Z h0 b bk .byte (7 : Int32) ([(.int ((Ad x0).toInt8.toInt32)), (.int ((Ad x1).toInt8.toInt32)), (.int ((Ad x2).toInt8.toInt32)), (.int ((Ad x3).toInt8.toInt32)), (.int ((Ad x4).toInt8.toInt32)), (.int ((Ad x5).toInt8.toInt32)), (.int ((Ad x6).toInt8.toInt32))]) (.int 0)) (b1 : Exa Z h0 b "[B") (XS : Ax Z n0 G1 G3 U8 I8 TB DE) (hx0 : Ag x0) (hx1 : Ag x1) (hx2 : Ag x2) (hx3 : Ag x3) (hx4 : Ag x4) (hx5 : Ag x5) (hx6 : Ag x6) :
    Af l Z (⟨"java/util/Base64$Decoder", "decode", "([B)[B"⟩ : MethodName) jdk_2450_method_2_code 4 (some (.array .byte)) ({ frames := 2, cells := 1, slots := 5, locals := 49 } : Room) n0 #[(.ref DE), (.ref b)] h0 (fun v h => ∃ r : Addr, ∃ rk : ClassId, v = some (.ref r) ∧ h0.size ≤ r ∧ Keep h0 h [] ∧ Arv Z h r rk .byte (5 : Int32) ([(.int (Ay (Aq x0 x1 x2 x3))), (.int (Bk (Aq x0 x1 x2 x3))), (.int (Cc (Aq x0 x1 x2 x3))), (.int (Ay (Ci x4 x5 x6))), (.int (Bk (Ci x4 x5 x6)))]) (.int 0)) := by
  refine Ar #[.val (.ref DE), .val (.ref b), .unset, .unset] ?_
  intro p e s m below meth c T0 C S0
  have XS_ := XS
  obtain ⟨O2, O4, P5, rG3, OU, OI, OT, OD, hUI, TBlt, DElt⟩ := XS_
  refine Ac C S0 [(0, .aload_n 0, 1), (1, .aload_n 1, 1), (2, .iconst 0, 1), (3, .aload_n 1, 1)] 4 #[Ab DE, Ab b, .unset, .unset] [.ref b, .int 0, .ref b, .ref DE] ?_
  refine Au C S0 b0 (by decide +kernel) ?_
  refine Co C S0 (ow hw 173 rfl) (ow hw 174 rfl) (ow hw 176 rfl) (ow hw 175 rfl) (ow hw 177 rfl) (by decide) (Af.pay (own_dl7 l Z a0 hw G1 G3 U8 I8 TB TBk DE b _ x0 x1 x2 x3 x4 x5 x6 h0 n0 z0 X00 TK DEx DEu DEm b0 b1 XS hx0 hx1 hx2 hx3 hx4 hx5 hx6) C 0 (ow hw 177 rfl) (ow hw 138 rfl) (by decide) (by decide)) (fun _ _ _ q => q.2) DEx [.ref b, .int 0, .int 7] [] rfl Eh rfl rfl rfl (Ak rfl) (by decide) (by decide) (by decide +kernel) ?_
  rintro T2 h3 v4 L5 S6 ⟨⟨rfl, e1⟩, -⟩
  rw [e1] at S6; clear e1
  refine Cp C S6 (aty := .byte) (ad := "[B") (by decide) (ow hw 35 rfl) (by decide +kernel) (by decide) 5 (by decide) (by decide) (by decide) (by decide) ?_
  intro T7 h9 a10 k11 S8 g12 E13 f14 x15
  have f16 : Arv Z h9 a10 k11 .byte (5 : Int32) ([(.int 0), (.int 0), (.int 0), (.int 0), (.int 0)]) (.int 0) := Arv.pad f14 (pad_rep [] (.int 0) 5)
  refine Ac C S8 [(10, .astore_n 2, 1), (11, .aload_n 0, 1), (12, .aload_n 1, 1), (13, .iconst 0, 1), (14, .aload_n 1, 1)] 15 #[Ab DE, Ab b, Ab a10, .unset] [.ref b, .int 0, .ref b, .ref DE] ?_
  have f17 := (b0.ext E13)
  refine Au C S8 f17 (by decide +kernel) ?_
  refine Ac C S8 [(16, .aload_n 2, 1)] 17 #[Ab DE, Ab b, Ab a10, .unset] [.ref a10, .int 7, .int 0, .ref b, .ref DE] ?_
  have f18 := (X00.ext E13)
  have f19 := (TK.ext E13)
  have f20 := (Exa.ext E13 DEx)
  have f21 := (Fld.ext E13 DEu)
  have f22 := (Fld.ext E13 DEm)
  have f23 := (Exa.ext E13 b1)
  have f24 : n0 ≤ h9.size := (Nat.le_trans z0 E13.1)
  have g25 : n0 ≤ a10 := by rw [g12]; exact z0
  have n26 : b ≠ a10 := by rw [g12]; exact Nat.ne_of_lt b0.lt
  refine Co C S8 (ow hw 185 rfl) (ow hw 186 rfl) (ow hw 188 rfl) (ow hw 187 rfl) (ow hw 189 rfl) (by decide) (Af.pay (own_d07 l Z a0 hw G1 G3 U8 I8 TB TBk DE b _ a10 _ x0 x1 x2 x3 x4 x5 x6 h9 n0 f24 g25 f18 f19 f20 f21 f22 f17 f23 f16 n26 XS hx0 hx1 hx2 hx3 hx4 hx5 hx6) C 0 (ow hw 189 rfl) (ow hw 138 rfl) (by decide) (by decide)) (fun _ _ _ q => q.2) f20 [.ref b, .int 0, .int 7, .ref a10] [] rfl Ei rfl rfl rfl (Ak rfl) (by decide) (by decide) (by decide +kernel) ?_
  rintro T29 h30 v31 L32 S33 ⟨⟨rfl, K27, f28⟩, -⟩
  refine Ac C S33 [(20, .istore_n 3, 1), (21, .iload_n 3, 1), (22, .aload_n 2, 1)] 23 #[Ab DE, Ab b, Ab a10, Aa 5] [.ref a10, .int 5] ?_
  refine Au C S33 f28 (by decide +kernel) ?_
  refine Ac C S33 [(24, .if_icmp .eq 9, 3), (33, .aload_n 2, 1)] 34 #[Ab DE, Ab b, Ab a10, Aa 5] [.ref a10] ?_
  refine Az C S33 rfl rfl (by decide +kernel) (by decide) (by decide) ?_
  have o34 : h0.size ≤ a10 := by rw [g12]; exact (Nat.le_refl _)
  exact ⟨a10, k11, rfl, o34, (((Keep.refl _ _).ext E13).trans K27 (allS (Or.inr o34) all0)), f28⟩
theorem own_ds7 (hw : Aj a0 Z) (G1 : Int32) (G3 : Value) (U8 : Addr) (I8 : Addr) (TB : Addr) (TBk : ClassId) (DE : Addr) (x : Addr) (xt : Addr) (xtk : ClassId) (x0 : Int32) (x1 : Int32) (x2 : Int32) (x3 : Int32) (x4 : Int32) (x5 : Int32) (x6 : Int32) (h0 : Heap) (n0 : Nat) (z0 : n0 ≤ h0.size) (X00 : Old Z n0 h0) (TK : Arv Z h0 TB TBk .int 256 Bs (.int 0)) (DEx : Exa Z h0 DE "java/util/Base64$Decoder") (DEu : Fld Z h0 DE "java/util/Base64$Decoder" "isURL" "Z" (.int 1)) (DEm : Fld Z h0 DE "java/util/Base64$Decoder" "isMIME" "Z" (.int 0)) (s0 : Exa Z h0 x "java/lang/String") (s1 : Fld Z h0 x "java/lang/String" "value" "[B" (.ref xt)) (s2 : Fld Z h0 x "java/lang/String" "coder" "B" (.int 0)) (s3 : Arv Z h0 xt xtk .byte (7 : Int32) ([(.int ((Ad x0).toInt8.toInt32)), (.int ((Ad x1).toInt8.toInt32)), (.int ((Ad x2).toInt8.toInt32)), (.int ((Ad x3).toInt8.toInt32)), (.int ((Ad x4).toInt8.toInt32)), (.int ((Ad x5).toInt8.toInt32)), (.int ((Ad x6).toInt8.toInt32))]) (.int 0)) (s4 : Exa Z h0 xt "[B") (XS : Ax Z n0 G1 G3 U8 I8 TB DE) (hx0 : Ag x0) (hx1 : Ag x1) (hx2 : Ag x2) (hx3 : Ag x3) (hx4 : Ag x4) (hx5 : Ag x5) (hx6 : Ag x6) :
    Af l Z (⟨"java/util/Base64$Decoder", "decode", "(Ljava/lang/String;)[B"⟩ : MethodName) jdk_2450_method_3_code 2 (some (.array .byte)) ({ frames := 5, cells := 2, slots := 13, locals := 76 } : Room) n0 #[(.ref DE), (.ref x)] h0 (fun v h => ∃ r : Addr, ∃ rk : ClassId, v = some (.ref r) ∧ h0.size ≤ r ∧ Keep h0 h [] ∧ Arv Z h r rk .byte (5 : Int32) ([(.int (Ay (Aq x0 x1 x2 x3))), (.int (Bk (Aq x0 x1 x2 x3))), (.int (Cc (Aq x0 x1 x2 x3))), (.int (Ay (Ci x4 x5 x6))), (.int (Bk (Ci x4 x5 x6)))]) (.int 0)) := by
  refine Ar #[.val (.ref DE), .val (.ref x)] ?_
  intro p e s m below meth c T0 C S0
  have XS_ := XS
  obtain ⟨O2, O4, P5, rG3, OU, OI, OT, OD, hUI, TBlt, DElt⟩ := XS_
  refine Ac C S0 [(0, .aload_n 0, 1), (1, .aload_n 1, 1)] 2 #[Ab DE, Ab x] [.ref x, .ref DE] ?_
  refine Bi C S0 (ow hw 140 rfl) Via.refl (OI.ext X00.2) (by decide +kernel) ?_
  intro T1 S2
  refine Ah C S2 hw 142 143 145 145 144 146 19 (Fk l Z a0 hw G1 G3 U8 I8 TB DE x _ _ _ _ h0 n0 z0 X00 s0 s1 s2 s3 s4 XS (Ak rfl)) 1 s0 [.ref I8] [.ref DE] Ej ?_
  rintro T8 h9 v10 L11 S12 ⟨⟨a3, rfl, g4, K5, f6, f7⟩, -⟩
  have f13 := (X00.keep K5 all0)
  have f14 := (TK.keep K5 nin0)
  have f15 := (DEx.keep K5)
  have f16 := (DEu.keep K5 nin0)
  have f17 := (DEm.keep K5 nin0)
  have f18 : n0 ≤ h9.size := (Nat.le_trans z0 K5.1)
  refine Ah C S12 hw 168 169 171 171 170 172 138 (own_da7 l Z a0 hw G1 G3 U8 I8 TB TBk DE a3 _ x0 x1 x2 x3 x4 x5 x6 h9 n0 f18 f13 f14 f15 f16 f17 f6 f7 XS hx0 hx1 hx2 hx3 hx4 hx5 hx6) 0 f15 [.ref a3] [] Ek ?_
  rintro T24 h25 v26 L27 S28 ⟨⟨a19, k20, rfl, g21, K22, f23⟩, -⟩
  refine Az C S28 rfl rfl (by decide +kernel) (by decide) (by decide) ?_
  have o30 : h0.size ≤ h9.size := (Nat.le_trans (Nat.le_refl _) K5.1)
  have o29 : h0.size ≤ a19 := Nat.le_trans o30 g21
  exact ⟨a19, k20, rfl, o29, (((Keep.refl _ _).trans K5 all0).trans K22 all0), f23⟩
theorem own_du7 (hw : Aj a0 Z) (hEL : EW Z a0 Ca) (wS : ∀ a ∈ Bundle.stringAtoms, a.before a0 Z = true) (G1 : Int32) (G3 : Value) (U8 : Addr) (I8 : Addr) (TB : Addr) (TBk : ClassId) (DE : Addr) (x : Addr) (xt : Addr) (xtk : ClassId) (x0 : Int32) (x1 : Int32) (x2 : Int32) (x3 : Int32) (x4 : Int32) (x5 : Int32) (x6 : Int32) (h0 : Heap) (n0 : Nat) (z0 : n0 ≤ h0.size) (X00 : Old Z n0 h0) (TK : Arv Z h0 TB TBk .int 256 Bs (.int 0)) (DEx : Exa Z h0 DE "java/util/Base64$Decoder") (DEu : Fld Z h0 DE "java/util/Base64$Decoder" "isURL" "Z" (.int 1)) (DEm : Fld Z h0 DE "java/util/Base64$Decoder" "isMIME" "Z" (.int 0)) (s0 : Exa Z h0 x "java/lang/String") (s1 : Fld Z h0 x "java/lang/String" "value" "[B" (.ref xt)) (s2 : Fld Z h0 x "java/lang/String" "coder" "B" (.int 0)) (s3 : Arv Z h0 xt xtk .byte (7 : Int32) ([(.int ((Ad x0).toInt8.toInt32)), (.int ((Ad x1).toInt8.toInt32)), (.int ((Ad x2).toInt8.toInt32)), (.int ((Ad x3).toInt8.toInt32)), (.int ((Ad x4).toInt8.toInt32)), (.int ((Ad x5).toInt8.toInt32)), (.int ((Ad x6).toInt8.toInt32))]) (.int 0)) (s4 : Exa Z h0 xt "[B") (XS : Ax Z n0 G1 G3 U8 I8 TB DE) (hx0 : Ag x0) (hx1 : Ag x1) (hx2 : Ag x2) (hx3 : Ag x3) (hx4 : Ag x4) (hx5 : Ag x5) (hx6 : Ag x6) (hs : (x6 &&& (((1 : Int32) <<< ((2 : Int32) &&& 31)) - (1 : Int32))) = (0 : Int32)) :
    Cf l Z Ca (⟨"com/example/torrey/torrey/Base64Url", "decode", "(Ljava/lang/String;)[B"⟩ : MethodName) prog_1_method_3_code 3 (some (.array .byte)) ({ frames := 6, cells := 4, slots := 33, locals := 89 } : Room) n0 #[(.ref x)] h0 [] (fun v h => ∃ r : Addr, ∃ rk : ClassId, v = some (.ref r) ∧ h0.size ≤ r ∧ Keep h0 h [] ∧ Arv Z h r rk .byte (5 : Int32) ([(.int (Ay (Aq x0 x1 x2 x3))), (.int (Bk (Aq x0 x1 x2 x3))), (.int (Cc (Aq x0 x1 x2 x3))), (.int (Ay (Ci x4 x5 x6))), (.int (Bk (Ci x4 x5 x6)))]) (.int 0)) := by
  refine Cm hEL wS (by decide +kernel) #[.val (.ref x), .unset, .unset] (fun m => by first | (simp [entryFrame, mkF, argsToLocals, Value.category]; done) | rfl) ?_
  intro p e s m below meth c T0 CW SW0
  have XS_ := XS
  obtain ⟨O2, O4, P5, rG3, OU, OI, OT, OD, hUI, TBlt, DElt⟩ := XS_
  refine Av CW SW0 ?_
  intro vm1 C S2 rb3
  refine Ac C S2 [(0, .aload_n 0, 1)] 1 #[Ab x, .unset, .unset] [.ref x] ?_
  have SW4 := rb3 _ _ _ _ [] [] S2 (Keep.refl _ _) all0 all0
  refine Cu CW SW4 (ow hw 50 rfl) (by decide +kernel) 16 (by decide) (by decide) (by decide) (by decide) ?_
  intro T5 h6 a7 SW8 E9
  have f10 : n0 ≤ h6.size := (Nat.le_trans z0 E9.1)
  refine Av CW SW8 ?_
  intro vm17 C S18 rb19
  refine Ae C S18 hw 53 54 55 56 (De l Z a0 hw x a7 h6 n0 f10) 0 [.ref x, .ref a7] [] Cv ?_
  rintro T12 h13 v14 L15 S16 ⟨⟨rfl, e11⟩, -⟩
  rw [e11] at S16; clear e11
  refine Ac C S16 [(6, .pop, 1), (7, .iconst 0, 1), (8, .istore_n 1, 1), (9, .iload_n 1, 1), (10, .aload_n 0, 1)] 11 #[Ab x, Aa 0, .unset] [.ref x, .int 0] ?_
  have f20 := (X00.ext E9)
  have f21 := (Exa.ext E9 s0)
  have f22 := (Fld.ext E9 s1)
  have f23 := (Fld.ext E9 s2)
  have f24 := (s3.ext E9)
  refine Ah C S16 hw 57 58 60 60 59 61 19 (At l Z a0 hw G1 G3 x _ _ _ _ h6 n0 f10 f20 f21 f22 f23 f24 O2 O4 P5 rG3) 1 f21 [] [.int 0] Al ?_
  rintro T26 h27 v28 L29 S30 ⟨⟨rfl, e25⟩, -⟩
  rw [e25] at S30; clear e25
  refine Ac C S30 [(14, .if_icmp .ge 39, 3), (17, .aload_n 0, 1), (18, .iload_n 1, 1)] 19 #[Ab x, Aa 0, .unset] [.int 0, .ref x] ?_
  refine Ah C S30 hw 67 68 70 70 69 71 19 (Bm l Z a0 hw G1 G3 x _ _ _ _ 0 ((Ad x0).toInt8.toInt32) (Ad x0) h6 n0 f10 f20 f21 f22 f23 f24 O2 O4 P5 rG3 (⟨(by decide), (by decide)⟩) rfl (Ce hx0) (Ai hx0)) 0 f21 [.int 0] [] Be ?_
  rintro T32 h33 v34 L35 S36 ⟨⟨rfl, e31⟩, -⟩
  rw [e31] at S36; clear e31
  refine Ae C S36 hw 129 130 48 131 (Bw l Z a0 hw x0 h6 n0 f10 hx0) 0 [.int (Ad x0)] [] Bx ?_
  rintro T38 h39 v40 L41 S42 ⟨⟨rfl, e37⟩, -⟩
  rw [e37] at S42; clear e37
  refine Bh C S42 .ge 22 47 (fun (q43 : ¬ x0 < (0 : Int32)) => ?_) (fun (hq : x0 < (0 : Int32)) => False.elim (Cd hx0 hq))
  refine Ac C S42 [(47, .iinc 1 1, 3), (50, .goto (-41), 3), (9, .iload_n 1, 1), (10, .aload_n 0, 1)] 11 #[Ab x, Aa 1, .unset] [.ref x, .int 1] ?_
  refine Ah C S42 hw 57 58 60 60 59 61 19 (At l Z a0 hw G1 G3 x _ _ _ _ h6 n0 f10 f20 f21 f22 f23 f24 O2 O4 P5 rG3) 1 f21 [] [.int 1] Al ?_
  rintro T45 h46 v47 L48 S49 ⟨⟨rfl, e44⟩, -⟩
  rw [e44] at S49; clear e44
  refine Ac C S49 [(14, .if_icmp .ge 39, 3), (17, .aload_n 0, 1), (18, .iload_n 1, 1)] 19 #[Ab x, Aa 1, .unset] [.int 1, .ref x] ?_
  refine Ah C S49 hw 67 68 70 70 69 71 19 (Bm l Z a0 hw G1 G3 x _ _ _ _ 1 ((Ad x1).toInt8.toInt32) (Ad x1) h6 n0 f10 f20 f21 f22 f23 f24 O2 O4 P5 rG3 (⟨(by decide), (by decide)⟩) rfl (Ce hx1) (Ai hx1)) 0 f21 [.int 1] [] Be ?_
  rintro T51 h52 v53 L54 S55 ⟨⟨rfl, e50⟩, -⟩
  rw [e50] at S55; clear e50
  refine Ae C S55 hw 129 130 48 131 (Bw l Z a0 hw x1 h6 n0 f10 hx1) 0 [.int (Ad x1)] [] Bx ?_
  rintro T57 h58 v59 L60 S61 ⟨⟨rfl, e56⟩, -⟩
  rw [e56] at S61; clear e56
  refine Bh C S61 .ge 22 47 (fun (q62 : ¬ x1 < (0 : Int32)) => ?_) (fun (hq : x1 < (0 : Int32)) => False.elim (Cd hx1 hq))
  refine Ac C S61 [(47, .iinc 1 1, 3), (50, .goto (-41), 3), (9, .iload_n 1, 1), (10, .aload_n 0, 1)] 11 #[Ab x, Aa 2, .unset] [.ref x, .int 2] ?_
  refine Ah C S61 hw 57 58 60 60 59 61 19 (At l Z a0 hw G1 G3 x _ _ _ _ h6 n0 f10 f20 f21 f22 f23 f24 O2 O4 P5 rG3) 1 f21 [] [.int 2] Al ?_
  rintro T64 h65 v66 L67 S68 ⟨⟨rfl, e63⟩, -⟩
  rw [e63] at S68; clear e63
  refine Ac C S68 [(14, .if_icmp .ge 39, 3), (17, .aload_n 0, 1), (18, .iload_n 1, 1)] 19 #[Ab x, Aa 2, .unset] [.int 2, .ref x] ?_
  refine Ah C S68 hw 67 68 70 70 69 71 19 (Bm l Z a0 hw G1 G3 x _ _ _ _ 2 ((Ad x2).toInt8.toInt32) (Ad x2) h6 n0 f10 f20 f21 f22 f23 f24 O2 O4 P5 rG3 (⟨(by decide), (by decide)⟩) rfl (Ce hx2) (Ai hx2)) 0 f21 [.int 2] [] Be ?_
  rintro T70 h71 v72 L73 S74 ⟨⟨rfl, e69⟩, -⟩
  rw [e69] at S74; clear e69
  refine Ae C S74 hw 129 130 48 131 (Bw l Z a0 hw x2 h6 n0 f10 hx2) 0 [.int (Ad x2)] [] Bx ?_
  rintro T76 h77 v78 L79 S80 ⟨⟨rfl, e75⟩, -⟩
  rw [e75] at S80; clear e75
  refine Bh C S80 .ge 22 47 (fun (q81 : ¬ x2 < (0 : Int32)) => ?_) (fun (hq : x2 < (0 : Int32)) => False.elim (Cd hx2 hq))
  refine Ac C S80 [(47, .iinc 1 1, 3), (50, .goto (-41), 3), (9, .iload_n 1, 1), (10, .aload_n 0, 1)] 11 #[Ab x, Aa 3, .unset] [.ref x, .int 3] ?_
  refine Ah C S80 hw 57 58 60 60 59 61 19 (At l Z a0 hw G1 G3 x _ _ _ _ h6 n0 f10 f20 f21 f22 f23 f24 O2 O4 P5 rG3) 1 f21 [] [.int 3] Al ?_
  rintro T83 h84 v85 L86 S87 ⟨⟨rfl, e82⟩, -⟩
  rw [e82] at S87; clear e82
  refine Ac C S87 [(14, .if_icmp .ge 39, 3), (17, .aload_n 0, 1), (18, .iload_n 1, 1)] 19 #[Ab x, Aa 3, .unset] [.int 3, .ref x] ?_
  refine Ah C S87 hw 67 68 70 70 69 71 19 (Bm l Z a0 hw G1 G3 x _ _ _ _ 3 ((Ad x3).toInt8.toInt32) (Ad x3) h6 n0 f10 f20 f21 f22 f23 f24 O2 O4 P5 rG3 (⟨(by decide), (by decide)⟩) rfl (Ce hx3) (Ai hx3)) 0 f21 [.int 3] [] Be ?_
  rintro T89 h90 v91 L92 S93 ⟨⟨rfl, e88⟩, -⟩
  rw [e88] at S93; clear e88
  refine Ae C S93 hw 129 130 48 131 (Bw l Z a0 hw x3 h6 n0 f10 hx3) 0 [.int (Ad x3)] [] Bx ?_
  rintro T95 h96 v97 L98 S99 ⟨⟨rfl, e94⟩, -⟩
  rw [e94] at S99; clear e94
  refine Bh C S99 .ge 22 47 (fun (q100 : ¬ x3 < (0 : Int32)) => ?_) (fun (hq : x3 < (0 : Int32)) => False.elim (Cd hx3 hq))
  refine Ac C S99 [(47, .iinc 1 1, 3), (50, .goto (-41), 3), (9, .iload_n 1, 1), (10, .aload_n 0, 1)] 11 #[Ab x, Aa 4, .unset] [.ref x, .int 4] ?_
  refine Ah C S99 hw 57 58 60 60 59 61 19 (At l Z a0 hw G1 G3 x _ _ _ _ h6 n0 f10 f20 f21 f22 f23 f24 O2 O4 P5 rG3) 1 f21 [] [.int 4] Al ?_
  rintro T102 h103 v104 L105 S106 ⟨⟨rfl, e101⟩, -⟩
  rw [e101] at S106; clear e101
  refine Ac C S106 [(14, .if_icmp .ge 39, 3), (17, .aload_n 0, 1), (18, .iload_n 1, 1)] 19 #[Ab x, Aa 4, .unset] [.int 4, .ref x] ?_
  refine Ah C S106 hw 67 68 70 70 69 71 19 (Bm l Z a0 hw G1 G3 x _ _ _ _ 4 ((Ad x4).toInt8.toInt32) (Ad x4) h6 n0 f10 f20 f21 f22 f23 f24 O2 O4 P5 rG3 (⟨(by decide), (by decide)⟩) rfl (Ce hx4) (Ai hx4)) 0 f21 [.int 4] [] Be ?_
  rintro T108 h109 v110 L111 S112 ⟨⟨rfl, e107⟩, -⟩
  rw [e107] at S112; clear e107
  refine Ae C S112 hw 129 130 48 131 (Bw l Z a0 hw x4 h6 n0 f10 hx4) 0 [.int (Ad x4)] [] Bx ?_
  rintro T114 h115 v116 L117 S118 ⟨⟨rfl, e113⟩, -⟩
  rw [e113] at S118; clear e113
  refine Bh C S118 .ge 22 47 (fun (q119 : ¬ x4 < (0 : Int32)) => ?_) (fun (hq : x4 < (0 : Int32)) => False.elim (Cd hx4 hq))
  refine Ac C S118 [(47, .iinc 1 1, 3), (50, .goto (-41), 3), (9, .iload_n 1, 1), (10, .aload_n 0, 1)] 11 #[Ab x, Aa 5, .unset] [.ref x, .int 5] ?_
  refine Ah C S118 hw 57 58 60 60 59 61 19 (At l Z a0 hw G1 G3 x _ _ _ _ h6 n0 f10 f20 f21 f22 f23 f24 O2 O4 P5 rG3) 1 f21 [] [.int 5] Al ?_
  rintro T121 h122 v123 L124 S125 ⟨⟨rfl, e120⟩, -⟩
  rw [e120] at S125; clear e120
  refine Ac C S125 [(14, .if_icmp .ge 39, 3), (17, .aload_n 0, 1), (18, .iload_n 1, 1)] 19 #[Ab x, Aa 5, .unset] [.int 5, .ref x] ?_
  refine Ah C S125 hw 67 68 70 70 69 71 19 (Bm l Z a0 hw G1 G3 x _ _ _ _ 5 ((Ad x5).toInt8.toInt32) (Ad x5) h6 n0 f10 f20 f21 f22 f23 f24 O2 O4 P5 rG3 (⟨(by decide), (by decide)⟩) rfl (Ce hx5) (Ai hx5)) 0 f21 [.int 5] [] Be ?_
  rintro T127 h128 v129 L130 S131 ⟨⟨rfl, e126⟩, -⟩
  rw [e126] at S131; clear e126
  refine Ae C S131 hw 129 130 48 131 (Bw l Z a0 hw x5 h6 n0 f10 hx5) 0 [.int (Ad x5)] [] Bx ?_
  rintro T133 h134 v135 L136 S137 ⟨⟨rfl, e132⟩, -⟩
  rw [e132] at S137; clear e132
  refine Bh C S137 .ge 22 47 (fun (q138 : ¬ x5 < (0 : Int32)) => ?_) (fun (hq : x5 < (0 : Int32)) => False.elim (Cd hx5 hq))
  refine Ac C S137 [(47, .iinc 1 1, 3), (50, .goto (-41), 3), (9, .iload_n 1, 1), (10, .aload_n 0, 1)] 11 #[Ab x, Aa 6, .unset] [.ref x, .int 6] ?_
  refine Ah C S137 hw 57 58 60 60 59 61 19 (At l Z a0 hw G1 G3 x _ _ _ _ h6 n0 f10 f20 f21 f22 f23 f24 O2 O4 P5 rG3) 1 f21 [] [.int 6] Al ?_
  rintro T140 h141 v142 L143 S144 ⟨⟨rfl, e139⟩, -⟩
  rw [e139] at S144; clear e139
  refine Ac C S144 [(14, .if_icmp .ge 39, 3), (17, .aload_n 0, 1), (18, .iload_n 1, 1)] 19 #[Ab x, Aa 6, .unset] [.int 6, .ref x] ?_
  refine Ah C S144 hw 67 68 70 70 69 71 19 (Bm l Z a0 hw G1 G3 x _ _ _ _ 6 ((Ad x6).toInt8.toInt32) (Ad x6) h6 n0 f10 f20 f21 f22 f23 f24 O2 O4 P5 rG3 (⟨(by decide), (by decide)⟩) rfl (Ce hx6) (Ai hx6)) 0 f21 [.int 6] [] Be ?_
  rintro T146 h147 v148 L149 S150 ⟨⟨rfl, e145⟩, -⟩
  rw [e145] at S150; clear e145
  refine Ae C S150 hw 129 130 48 131 (Bw l Z a0 hw x6 h6 n0 f10 hx6) 0 [.int (Ad x6)] [] Bx ?_
  rintro T152 h153 v154 L155 S156 ⟨⟨rfl, e151⟩, -⟩
  rw [e151] at S156; clear e151
  refine Bh C S156 .ge 22 47 (fun (q157 : ¬ x6 < (0 : Int32)) => ?_) (fun (hq : x6 < (0 : Int32)) => False.elim (Cd hx6 hq))
  refine Ac C S156 [(47, .iinc 1 1, 3), (50, .goto (-41), 3), (9, .iload_n 1, 1), (10, .aload_n 0, 1)] 11 #[Ab x, Aa 7, .unset] [.ref x, .int 7] ?_
  refine Ah C S156 hw 57 58 60 60 59 61 19 (At l Z a0 hw G1 G3 x _ _ _ _ h6 n0 f10 f20 f21 f22 f23 f24 O2 O4 P5 rG3) 1 f21 [] [.int 7] Al ?_
  rintro T159 h160 v161 L162 S163 ⟨⟨rfl, e158⟩, -⟩
  rw [e158] at S163; clear e158
  refine Ac C S163 [(14, .if_icmp .ge 39, 3), (53, .aload_n 0, 1)] 54 #[Ab x, Aa 7, .unset] [.ref x] ?_
  refine Ah C S163 hw 57 58 60 60 59 61 19 (At l Z a0 hw G1 G3 x _ _ _ _ h6 n0 f10 f20 f21 f22 f23 f24 O2 O4 P5 rG3) 0 f21 [] [] Al ?_
  rintro T165 h166 v167 L168 S169 ⟨⟨rfl, e164⟩, -⟩
  rw [e164] at S169; clear e164
  refine Ac C S169 [(57, .iconst 1, 1), (58, .isub, 1), (59, .istore_n 1, 1), (60, .aload_n 0, 1)] 61 #[Ab x, Aa 6, .unset] [.ref x] ?_
  refine Ah C S169 hw 57 58 60 60 59 61 19 (At l Z a0 hw G1 G3 x _ _ _ _ h6 n0 f10 f20 f21 f22 f23 f24 O2 O4 P5 rG3) 0 f21 [] [] Al ?_
  rintro T171 h172 v173 L174 S175 ⟨⟨rfl, e170⟩, -⟩
  rw [e170] at S175; clear e170
  refine Ac C S175 [(64, .iconst 4, 1)] 65 #[Ab x, Aa 6, .unset] [.int 4, .int 7] ?_
  refine Dj C S175 (by decide +kernel) (by decide) ?_
  refine own_tsi C S175 (df := 53) (lo := 1) (hi := 3) (offs := #[26, 45, 49]) (len := 26) (o := 49) (by decide +kernel) (by decide) (by decide) (by decide) 115 (by decide) ?_
  refine Ac C S175 [(115, .iconst 2, 1), (116, .goto 4, 3), (120, .istore_n 2, 1), (121, .iload_n 2, 1), (122, .ifCond .le 39, 3), (125, .aload_n 0, 1), (126, .iload_n 1, 1)] 127 #[Ab x, Aa 6, Aa 2] [.int 6, .ref x] ?_
  refine Ah C S175 hw 67 68 70 70 69 71 19 (Bm l Z a0 hw G1 G3 x _ _ _ _ 6 ((Ad x6).toInt8.toInt32) (Ad x6) h6 n0 f10 f20 f21 f22 f23 f24 O2 O4 P5 rG3 (⟨(by decide), (by decide)⟩) rfl (Ce hx6) (Ai hx6)) 0 f21 [.int 6] [] Be ?_
  rintro T177 h178 v179 L180 S181 ⟨⟨rfl, e176⟩, -⟩
  rw [e176] at S181; clear e176
  refine Ae C S181 hw 129 130 48 131 (Bw l Z a0 hw x6 h6 n0 f10 hx6) 0 [.int (Ad x6)] [] Bx ?_
  rintro T183 h184 v185 L186 S187 ⟨⟨rfl, e182⟩, -⟩
  rw [e182] at S187; clear e182
  refine Ac C S187 [(133, .iconst 1, 1), (134, .iload_n 2, 1), (135, .ishl, 1), (136, .iconst 1, 1), (137, .isub, 1), (138, .iand, 1)] 139 #[Ab x, Aa 6, Aa 2] [.int (x6 &&& (((1 : Int32) <<< ((2 : Int32) &&& 31)) - (1 : Int32)))] ?_
  refine Bh C S187 .eq 22 161 (fun (q188 : (x6 &&& (((1 : Int32) <<< ((2 : Int32) &&& 31)) - (1 : Int32))) = (0 : Int32)) => ?_) (fun (hq : ¬ (x6 &&& (((1 : Int32) <<< ((2 : Int32) &&& 31)) - (1 : Int32))) = (0 : Int32)) => False.elim (hq hs))
  refine Bi C S187 (ow hw 132 rfl) Via.refl (OD.ext f20.2) (by decide +kernel) ?_
  intro T189 S190
  refine Ac C S190 [(164, .aload_n 0, 1)] 165 #[Ab x, Aa 6, Aa 2] [.ref x, .ref DE] ?_
  have f191 := (TK.ext E9)
  have f192 := (Exa.ext E9 DEx)
  have f193 := (Fld.ext E9 DEu)
  have f194 := (Fld.ext E9 DEm)
  have f195 := (Exa.ext E9 s4)
  refine Ah C S190 hw 134 135 137 137 136 139 138 (own_ds7 l Z a0 hw G1 G3 U8 I8 TB TBk DE x _ _ x0 x1 x2 x3 x4 x5 x6 h6 n0 f10 f20 f191 f192 f193 f194 f21 f22 f23 f24 f195 XS hx0 hx1 hx2 hx3 hx4 hx5 hx6) 0 f192 [.ref x] [] Cb ?_
  rintro T201 h202 v203 L204 S205 ⟨⟨a196, k197, rfl, g198, K199, f200⟩, -⟩
  have o206 : h6.size ≤ a196 := Nat.le_trans (Nat.le_refl _) g198
  have SW207 := rb19 _ _ _ _ [] [a196] S205 ((Keep.refl _ _).trans K199 all0) all0 (allS ⟨o206, f200.lt⟩ all0)
  refine Ck CW SW207 rfl rfl (by decide +kernel) (by decide) (by decide) ?_
  have o209 : h0.size ≤ h6.size := (Nat.le_trans (Nat.le_refl _) E9.1)
  have o208 : h0.size ≤ a196 := Nat.le_trans o209 g198
  exact ⟨a196, k197, rfl, o208, (((Keep.refl _ _).ext E9).trans K199 all0), f200⟩
theorem own_dl8 (hw : Aj a0 Z) (G1 : Int32) (G3 : Value) (U8 : Addr) (I8 : Addr) (TB : Addr) (TBk : ClassId) (DE : Addr) (b : Addr) (bk : ClassId) (x0 : Int32) (x1 : Int32) (x2 : Int32) (x3 : Int32) (x4 : Int32) (x5 : Int32) (x6 : Int32) (x7 : Int32) (h0 : Heap) (n0 : Nat) (z0 : n0 ≤ h0.size) (X00 : Old Z n0 h0) (TK : Arv Z h0 TB TBk .int 256 Bs (.int 0)) (DEx : Exa Z h0 DE "java/util/Base64$Decoder") (DEu : Fld Z h0 DE "java/util/Base64$Decoder" "isURL" "Z" (.int 1)) (DEm : Fld Z h0 DE "java/util/Base64$Decoder" "isMIME" "Z" (.int 0)) (b0 : Arv Z h0 b bk .byte (8 : Int32) ([(.int ((Ad x0).toInt8.toInt32)), (.int ((Ad x1).toInt8.toInt32)), (.int ((Ad x2).toInt8.toInt32)), (.int ((Ad x3).toInt8.toInt32)), (.int ((Ad x4).toInt8.toInt32)), (.int ((Ad x5).toInt8.toInt32)), (.int ((Ad x6).toInt8.toInt32)), (.int ((Ad x7).toInt8.toInt32))]) (.int 0)) (b1 : Exa Z h0 b "[B") (XS : Ax Z n0 G1 G3 U8 I8 TB DE) (hx0 : Ag x0) (hx1 : Ag x1) (hx2 : Ag x2) (hx3 : Ag x3) (hx4 : Ag x4) (hx5 : Ag x5) (hx6 : Ag x6) (hx7 : Ag x7) :
    Af l Z (⟨"java/util/Base64$Decoder", "decodedOutLength", "([BII)I"⟩ : MethodName) jdk_2450_method_7_code 9 (some .int) ({ frames := 0, cells := 0, slots := 0, locals := 0 } : Room) n0 #[(.ref DE), (.ref b), (.int 0), (.int 8)] h0 (fun v h => v = some (.int 6) ∧ h = h0) := by
  refine Ar #[.val (.ref DE), .val (.ref b), .val (.int 0), .val (.int 8), .unset, .unset, .unset, .unset, .unset] ?_
  intro p e s m below meth c T0 C S0
  have XS_ := XS
  obtain ⟨O2, O4, P5, rG3, OU, OI, OT, OD, hUI, TBlt, DElt⟩ := XS_
  refine Ac C S0 [(0, .aload_n 0, 1)] 1 #[Ab DE, Ab b, Aa 0, Aa 8, .unset, .unset, .unset, .unset, .unset] [.ref DE] ?_
  refine Ch C S0 hw 178 DEu ?_
  intro T1 S2
  refine Ac C S2 [(4, .ifCond .eq 9, 3)] 7 #[Ab DE, Ab b, Aa 0, Aa 8, .unset, .unset, .unset, .unset, .unset] [] ?_
  refine Bi C S2 (ow hw 180 rfl) Via.refl (OT.ext X00.2) (by decide +kernel) ?_
  intro T3 S4
  refine Ac C S4 [(10, .goto 6, 3), (16, .astore 4, 2), (18, .iconst 0, 1), (19, .istore 5, 2), (21, .iload_n 3, 1), (22, .iload_n 2, 1), (23, .isub, 1), (24, .istore 6, 2), (26, .iload 6, 2), (28, .ifCond .ne 5, 3), (33, .iload 6, 2), (35, .iconst 2, 1), (36, .if_icmp .ge 30, 3), (66, .aload_n 0, 1)] 67 #[Ab DE, Ab b, Aa 0, Aa 8, Ab TB, Aa 0, Aa 8, .unset, .unset] [.ref DE] ?_
  refine Ch C S4 hw 181 DEm ?_
  intro T5 S6
  refine Ac C S6 [(70, .ifCond .eq 71, 3), (141, .aload_n 1, 1), (142, .iload_n 3, 1), (143, .iconst 1, 1), (144, .isub, 1)] 145 #[Ab DE, Ab b, Aa 0, Aa 8, Ab TB, Aa 0, Aa 8, .unset, .unset] [.int 7, .ref b] ?_
  refine Bb C S6 b0 ⟨(by decide), (by decide)⟩ (.int ((Ad x7).toInt8.toInt32)) rfl (by decide +kernel) ?_
  refine Ac C S6 [(146, .bipush 61, 2)] 148 #[Ab DE, Ab b, Aa 0, Aa 8, Ab TB, Aa 0, Aa 8, .unset, .unset] [.int 61, .int ((Ad x7).toInt8.toInt32)] ?_
  refine Bg C S6 .ne 19 167 (fun (q7 : ¬ ((Ad x7).toInt8.toInt32) = (61 : Int32)) => ?_) (fun (hq : ((Ad x7).toInt8.toInt32) = (61 : Int32)) => False.elim (Fe hx7 hq))
  refine Ac C S6 [(167, .iload 5, 2), (169, .ifCond .ne 18, 3), (172, .iload 6, 2), (174, .iconst 3, 1), (175, .iand, 1), (176, .ifCond .eq 11, 3), (187, .iconst 3, 1), (188, .iload 6, 2), (190, .i2l, 1)] 191 #[Ab DE, Ab b, Aa 0, Aa 8, Ab TB, Aa 0, Aa 8, .unset, .unset] [.long ((8 : Int32).toInt64), .int 3] ?_
  refine Dd C S6 (ow hw 183 rfl) (by decide +kernel) ?_
  refine Ac C S6 [(194, .ladd, 1)] 195 #[Ab DE, Ab b, Aa 0, Aa 8, Ab TB, Aa 0, Aa 8, .unset, .unset] [.long ((8 : Int32).toInt64 + 3), .int 3] ?_
  refine Dd C S6 (ow hw 184 rfl) (by decide +kernel) ?_
  refine Ew C S6 (by decide +kernel) (by decide) ?_
  rw [show (((8 : Int32).toInt64 + 3) / 4) = (2 : Int64) from (by decide)]
  refine Ac C S6 [(199, .l2i, 1), (200, .imul, 1), (201, .iload 5, 2), (203, .isub, 1)] 204 #[Ab DE, Ab b, Aa 0, Aa 8, Ab TB, Aa 0, Aa 8, .unset, .unset] [.int (((3 : Int32) * (2 : Int64).toInt32) - (0 : Int32))] ?_
  rw [show (((3 : Int32) * (2 : Int64).toInt32) - (0 : Int32)) = (6 : Int32) from (by decide)]
  refine Bq C S6 (by decide +kernel) (by decide) (by decide) ?_
  exact ⟨rfl, rfl⟩
theorem own_db8 (hw : Aj a0 Z) (G1 : Int32) (G3 : Value) (U8 : Addr) (I8 : Addr) (TB : Addr) (TBk : ClassId) (DE : Addr) (b : Addr) (bk : ClassId) (d : Addr) (dk : ClassId) (x0 : Int32) (x1 : Int32) (x2 : Int32) (x3 : Int32) (x4 : Int32) (x5 : Int32) (x6 : Int32) (x7 : Int32) (h0 : Heap) (n0 : Nat) (z0 : n0 ≤ h0.size) (ge_d : n0 ≤ d) (X00 : Old Z n0 h0) (TK : Arv Z h0 TB TBk .int 256 Bs (.int 0)) (DEx : Exa Z h0 DE "java/util/Base64$Decoder") (DEu : Fld Z h0 DE "java/util/Base64$Decoder" "isURL" "Z" (.int 1)) (DEm : Fld Z h0 DE "java/util/Base64$Decoder" "isMIME" "Z" (.int 0)) (b0 : Arv Z h0 b bk .byte (8 : Int32) ([(.int ((Ad x0).toInt8.toInt32)), (.int ((Ad x1).toInt8.toInt32)), (.int ((Ad x2).toInt8.toInt32)), (.int ((Ad x3).toInt8.toInt32)), (.int ((Ad x4).toInt8.toInt32)), (.int ((Ad x5).toInt8.toInt32)), (.int ((Ad x6).toInt8.toInt32)), (.int ((Ad x7).toInt8.toInt32))]) (.int 0)) (b1 : Exa Z h0 b "[B") (dK : Arv Z h0 d dk .byte (6 : Int32) ([(.int 0), (.int 0), (.int 0), (.int 0), (.int 0), (.int 0)]) (.int 0)) (ne_b_d : b ≠ d) (XS : Ax Z n0 G1 G3 U8 I8 TB DE) (hx0 : Ag x0) (hx1 : Ag x1) (hx2 : Ag x2) (hx3 : Ag x3) (hx4 : Ag x4) (hx5 : Ag x5) (hx6 : Ag x6) (hx7 : Ag x7) :
    Af l Z (⟨"java/util/Base64$Decoder", "decodeBlock", "([BII[BIZZ)I"⟩ : MethodName) jdk_2450_method_8_code 16 (some .int) ({ frames := 0, cells := 0, slots := 0, locals := 0 } : Room) n0 #[(.ref DE), (.ref b), (.int 0), (.int 8), (.ref d), (.int 0), (.int 1), (.int 0)] h0 (fun v h => v = some (.int 6) ∧ Keep h0 h [d] ∧ Arv Z h d dk .byte (6 : Int32) ([(.int (Ay (Aq x0 x1 x2 x3))), (.int (Bk (Aq x0 x1 x2 x3))), (.int (Cc (Aq x0 x1 x2 x3))), (.int (Ay (Aq x4 x5 x6 x7))), (.int (Bk (Aq x4 x5 x6 x7))), (.int (Cc (Aq x4 x5 x6 x7)))]) (.int 0)) := by
  refine Ar #[.val (.ref DE), .val (.ref b), .val (.int 0), .val (.int 8), .val (.ref d), .val (.int 0), .val (.int 1), .val (.int 0), .unset, .unset, .unset, .unset, .unset, .unset, .unset, .unset] ?_
  intro p e s m below meth c T0 C S0
  have XS_ := XS
  obtain ⟨O2, O4, P5, rG3, OU, OI, OT, OD, hUI, TBlt, DElt⟩ := XS_
  refine Ac C S0 [(0, .iload 6, 2), (2, .ifCond .eq 9, 3)] 5 #[Ab DE, Ab b, Aa 0, Aa 8, Ab d, Aa 0, Aa 1, Aa 0, .unset, .unset, .unset, .unset, .unset, .unset, .unset, .unset] [] ?_
  refine Bi C S0 (ow hw 180 rfl) Via.refl (OT.ext X00.2) (by decide +kernel) ?_
  intro T1 S2
  refine Ac C S2 [(8, .goto 6, 3), (14, .astore 8, 2), (16, .iload_n 2, 1), (17, .iload_n 3, 1), (18, .iload_n 2, 1), (19, .isub, 1), (20, .bipush (-4), 2), (22, .iand, 1), (23, .iadd, 1), (24, .istore 9, 2), (26, .iload 5, 2), (28, .istore 10, 2), (30, .iload_n 2, 1), (31, .iload 9, 2), (33, .if_icmp .ge 147, 3), (36, .aload 8, 2), (38, .aload_n 1, 1), (39, .iload_n 2, 1), (40, .iinc 2 1, 3)] 43 #[Ab DE, Ab b, Aa 1, Aa 8, Ab d, Aa 0, Aa 1, Aa 0, Ab TB, Aa 8, Aa 0, .unset, .unset, .unset, .unset, .unset] [.int 0, .ref b, .ref TB] ?_
  refine Bb C S2 b0 ⟨(by decide), (by decide)⟩ (.int ((Ad x0).toInt8.toInt32)) rfl (by decide +kernel) ?_
  refine Ac C S2 [(44, .sipush 255, 3), (47, .iand, 1)] 48 #[Ab DE, Ab b, Aa 1, Aa 8, Ab d, Aa 0, Aa 1, Aa 0, Ab TB, Aa 8, Aa 0, .unset, .unset, .unset, .unset, .unset] [.int ((Ad x0).toInt8.toInt32 &&& (255 : Int32)), .ref TB] ?_
  refine Bl C S2 TK (Cr hx0) (.int x0) (Cq hx0) (by decide +kernel) ?_
  refine Ac C S2 [(49, .istore 11, 2), (51, .aload 8, 2), (53, .aload_n 1, 1), (54, .iload_n 2, 1), (55, .iinc 2 1, 3)] 58 #[Ab DE, Ab b, Aa 2, Aa 8, Ab d, Aa 0, Aa 1, Aa 0, Ab TB, Aa 8, Aa 0, Aa x0, .unset, .unset, .unset, .unset] [.int 1, .ref b, .ref TB] ?_
  refine Bb C S2 b0 ⟨(by decide), (by decide)⟩ (.int ((Ad x1).toInt8.toInt32)) rfl (by decide +kernel) ?_
  refine Ac C S2 [(59, .sipush 255, 3), (62, .iand, 1)] 63 #[Ab DE, Ab b, Aa 2, Aa 8, Ab d, Aa 0, Aa 1, Aa 0, Ab TB, Aa 8, Aa 0, Aa x0, .unset, .unset, .unset, .unset] [.int ((Ad x1).toInt8.toInt32 &&& (255 : Int32)), .ref TB] ?_
  refine Bl C S2 TK (Cr hx1) (.int x1) (Cq hx1) (by decide +kernel) ?_
  refine Ac C S2 [(64, .istore 12, 2), (66, .aload 8, 2), (68, .aload_n 1, 1), (69, .iload_n 2, 1), (70, .iinc 2 1, 3)] 73 #[Ab DE, Ab b, Aa 3, Aa 8, Ab d, Aa 0, Aa 1, Aa 0, Ab TB, Aa 8, Aa 0, Aa x0, Aa x1, .unset, .unset, .unset] [.int 2, .ref b, .ref TB] ?_
  refine Bb C S2 b0 ⟨(by decide), (by decide)⟩ (.int ((Ad x2).toInt8.toInt32)) rfl (by decide +kernel) ?_
  refine Ac C S2 [(74, .sipush 255, 3), (77, .iand, 1)] 78 #[Ab DE, Ab b, Aa 3, Aa 8, Ab d, Aa 0, Aa 1, Aa 0, Ab TB, Aa 8, Aa 0, Aa x0, Aa x1, .unset, .unset, .unset] [.int ((Ad x2).toInt8.toInt32 &&& (255 : Int32)), .ref TB] ?_
  refine Bl C S2 TK (Cr hx2) (.int x2) (Cq hx2) (by decide +kernel) ?_
  refine Ac C S2 [(79, .istore 13, 2), (81, .aload 8, 2), (83, .aload_n 1, 1), (84, .iload_n 2, 1), (85, .iinc 2 1, 3)] 88 #[Ab DE, Ab b, Aa 4, Aa 8, Ab d, Aa 0, Aa 1, Aa 0, Ab TB, Aa 8, Aa 0, Aa x0, Aa x1, Aa x2, .unset, .unset] [.int 3, .ref b, .ref TB] ?_
  refine Bb C S2 b0 ⟨(by decide), (by decide)⟩ (.int ((Ad x3).toInt8.toInt32)) rfl (by decide +kernel) ?_
  refine Ac C S2 [(89, .sipush 255, 3), (92, .iand, 1)] 93 #[Ab DE, Ab b, Aa 4, Aa 8, Ab d, Aa 0, Aa 1, Aa 0, Ab TB, Aa 8, Aa 0, Aa x0, Aa x1, Aa x2, .unset, .unset] [.int ((Ad x3).toInt8.toInt32 &&& (255 : Int32)), .ref TB] ?_
  refine Bl C S2 TK (Cr hx3) (.int x3) (Cq hx3) (by decide +kernel) ?_
  refine Ac C S2 [(94, .istore 14, 2), (96, .iload 11, 2), (98, .iload 12, 2), (100, .ior, 1), (101, .iload 13, 2), (103, .ior, 1), (104, .iload 14, 2), (106, .ior, 1)] 107 #[Ab DE, Ab b, Aa 4, Aa 8, Ab d, Aa 0, Aa 1, Aa 0, Ab TB, Aa 8, Aa 0, Aa x0, Aa x1, Aa x2, Aa x3, .unset] [.int (((x0 ||| x1) ||| x2) ||| x3)] ?_
  refine Bh C S2 .ge 9 116 (fun (q3 : ¬ (((x0 ||| x1) ||| x2) ||| x3) < (0 : Int32)) => ?_) (fun (hq : (((x0 ||| x1) ||| x2) ||| x3) < (0 : Int32)) => False.elim (own_or4 hx0 hx1 hx2 hx3 hq))
  refine Ac C S2 [(116, .iload 11, 2), (118, .bipush 18, 2), (120, .ishl, 1), (121, .iload 12, 2), (123, .bipush 12, 2), (125, .ishl, 1), (126, .ior, 1), (127, .iload 13, 2), (129, .bipush 6, 2), (131, .ishl, 1), (132, .ior, 1), (133, .iload 14, 2), (135, .ior, 1), (136, .istore 15, 2), (138, .aload 4, 2), (140, .iload 10, 2), (142, .iinc 10 1, 3), (145, .iload 15, 2), (147, .bipush 16, 2), (149, .ishr, 1), (150, .i2b, 1)] 151 #[Ab DE, Ab b, Aa 4, Aa 8, Ab d, Aa 0, Aa 1, Aa 0, Ab TB, Aa 8, Aa 1, Aa x0, Aa x1, Aa x2, Aa x3, Aa ((((x0 <<< ((18 : Int32) &&& 31)) ||| (x1 <<< ((12 : Int32) &&& 31))) ||| (x2 <<< ((6 : Int32) &&& 31))) ||| x3)] [.int ((((((x0 <<< ((18 : Int32) &&& 31)) ||| (x1 <<< ((12 : Int32) &&& 31))) ||| (x2 <<< ((6 : Int32) &&& 31))) ||| x3) >>> ((16 : Int32) &&& 31)).toInt8.toInt32), .int 0, .ref d] ?_
  refine Ap C S2 dK ⟨(by decide), (by decide)⟩ 0 rfl (Ak rfl) ((((((x0 <<< ((18 : Int32) &&& 31)) ||| (x1 <<< ((12 : Int32) &&& 31))) ||| (x2 <<< ((6 : Int32) &&& 31))) ||| x3) >>> ((16 : Int32) &&& 31)).toInt8.toInt32) (Bc _) ge_d (by decide +kernel) ?_
  intro T4 h6 S5 W7 f8
  have f9 : Arv Z h6 d dk .byte (6 : Int32) ([(.int ((((((x0 <<< ((18 : Int32) &&& 31)) ||| (x1 <<< ((12 : Int32) &&& 31))) ||| (x2 <<< ((6 : Int32) &&& 31))) ||| x3) >>> ((16 : Int32) &&& 31)).toInt8.toInt32)), (.int 0), (.int 0), (.int 0), (.int 0), (.int 0)]) (.int 0) := f8
  refine Ac C S5 [(152, .aload 4, 2), (154, .iload 10, 2), (156, .iinc 10 1, 3), (159, .iload 15, 2), (161, .bipush 8, 2), (163, .ishr, 1), (164, .i2b, 1)] 165 #[Ab DE, Ab b, Aa 4, Aa 8, Ab d, Aa 0, Aa 1, Aa 0, Ab TB, Aa 8, Aa 2, Aa x0, Aa x1, Aa x2, Aa x3, Aa ((((x0 <<< ((18 : Int32) &&& 31)) ||| (x1 <<< ((12 : Int32) &&& 31))) ||| (x2 <<< ((6 : Int32) &&& 31))) ||| x3)] [.int ((((((x0 <<< ((18 : Int32) &&& 31)) ||| (x1 <<< ((12 : Int32) &&& 31))) ||| (x2 <<< ((6 : Int32) &&& 31))) ||| x3) >>> ((8 : Int32) &&& 31)).toInt8.toInt32), .int 1, .ref d] ?_
  refine Ap C S5 f9 ⟨(by decide), (by decide)⟩ 1 rfl (Ak rfl) ((((((x0 <<< ((18 : Int32) &&& 31)) ||| (x1 <<< ((12 : Int32) &&& 31))) ||| (x2 <<< ((6 : Int32) &&& 31))) ||| x3) >>> ((8 : Int32) &&& 31)).toInt8.toInt32) (Bc _) ge_d (by decide +kernel) ?_
  intro T10 h12 S11 W13 f14
  have f15 : Arv Z h12 d dk .byte (6 : Int32) ([(.int ((((((x0 <<< ((18 : Int32) &&& 31)) ||| (x1 <<< ((12 : Int32) &&& 31))) ||| (x2 <<< ((6 : Int32) &&& 31))) ||| x3) >>> ((16 : Int32) &&& 31)).toInt8.toInt32)), (.int ((((((x0 <<< ((18 : Int32) &&& 31)) ||| (x1 <<< ((12 : Int32) &&& 31))) ||| (x2 <<< ((6 : Int32) &&& 31))) ||| x3) >>> ((8 : Int32) &&& 31)).toInt8.toInt32)), (.int 0), (.int 0), (.int 0), (.int 0)]) (.int 0) := f14
  refine Ac C S11 [(166, .aload 4, 2), (168, .iload 10, 2), (170, .iinc 10 1, 3), (173, .iload 15, 2), (175, .i2b, 1)] 176 #[Ab DE, Ab b, Aa 4, Aa 8, Ab d, Aa 0, Aa 1, Aa 0, Ab TB, Aa 8, Aa 3, Aa x0, Aa x1, Aa x2, Aa x3, Aa ((((x0 <<< ((18 : Int32) &&& 31)) ||| (x1 <<< ((12 : Int32) &&& 31))) ||| (x2 <<< ((6 : Int32) &&& 31))) ||| x3)] [.int (((((x0 <<< ((18 : Int32) &&& 31)) ||| (x1 <<< ((12 : Int32) &&& 31))) ||| (x2 <<< ((6 : Int32) &&& 31))) ||| x3).toInt8.toInt32), .int 2, .ref d] ?_
  refine Ap C S11 f15 ⟨(by decide), (by decide)⟩ 2 rfl (Ak rfl) (((((x0 <<< ((18 : Int32) &&& 31)) ||| (x1 <<< ((12 : Int32) &&& 31))) ||| (x2 <<< ((6 : Int32) &&& 31))) ||| x3).toInt8.toInt32) (Bc _) ge_d (by decide +kernel) ?_
  intro T16 h18 S17 W19 f20
  have f21 : Arv Z h18 d dk .byte (6 : Int32) ([(.int ((((((x0 <<< ((18 : Int32) &&& 31)) ||| (x1 <<< ((12 : Int32) &&& 31))) ||| (x2 <<< ((6 : Int32) &&& 31))) ||| x3) >>> ((16 : Int32) &&& 31)).toInt8.toInt32)), (.int ((((((x0 <<< ((18 : Int32) &&& 31)) ||| (x1 <<< ((12 : Int32) &&& 31))) ||| (x2 <<< ((6 : Int32) &&& 31))) ||| x3) >>> ((8 : Int32) &&& 31)).toInt8.toInt32)), (.int (((((x0 <<< ((18 : Int32) &&& 31)) ||| (x1 <<< ((12 : Int32) &&& 31))) ||| (x2 <<< ((6 : Int32) &&& 31))) ||| x3).toInt8.toInt32)), (.int 0), (.int 0), (.int 0)]) (.int 0) := f20
  refine Ac C S17 [(177, .goto (-147), 3), (30, .iload_n 2, 1), (31, .iload 9, 2), (33, .if_icmp .ge 147, 3), (36, .aload 8, 2), (38, .aload_n 1, 1), (39, .iload_n 2, 1), (40, .iinc 2 1, 3)] 43 #[Ab DE, Ab b, Aa 5, Aa 8, Ab d, Aa 0, Aa 1, Aa 0, Ab TB, Aa 8, Aa 3, Aa x0, Aa x1, Aa x2, Aa x3, Aa ((((x0 <<< ((18 : Int32) &&& 31)) ||| (x1 <<< ((12 : Int32) &&& 31))) ||| (x2 <<< ((6 : Int32) &&& 31))) ||| x3)] [.int 4, .ref b, .ref TB] ?_
  have f22 := (((b0.other W7 ne_b_d).other W13 ne_b_d).other W19 ne_b_d)
  refine Bb C S17 f22 ⟨(by decide), (by decide)⟩ (.int ((Ad x4).toInt8.toInt32)) rfl (by decide +kernel) ?_
  refine Ac C S17 [(44, .sipush 255, 3), (47, .iand, 1)] 48 #[Ab DE, Ab b, Aa 5, Aa 8, Ab d, Aa 0, Aa 1, Aa 0, Ab TB, Aa 8, Aa 3, Aa x0, Aa x1, Aa x2, Aa x3, Aa ((((x0 <<< ((18 : Int32) &&& 31)) ||| (x1 <<< ((12 : Int32) &&& 31))) ||| (x2 <<< ((6 : Int32) &&& 31))) ||| x3)] [.int ((Ad x4).toInt8.toInt32 &&& (255 : Int32)), .ref TB] ?_
  have n23 : TB ≠ d := Nat.ne_of_lt (Nat.lt_of_lt_of_le TBlt ge_d)
  have f24 := (((TK.other W7 n23).other W13 n23).other W19 n23)
  refine Bl C S17 f24 (Cr hx4) (.int x4) (Cq hx4) (by decide +kernel) ?_
  refine Ac C S17 [(49, .istore 11, 2), (51, .aload 8, 2), (53, .aload_n 1, 1), (54, .iload_n 2, 1), (55, .iinc 2 1, 3)] 58 #[Ab DE, Ab b, Aa 6, Aa 8, Ab d, Aa 0, Aa 1, Aa 0, Ab TB, Aa 8, Aa 3, Aa x4, Aa x1, Aa x2, Aa x3, Aa ((((x0 <<< ((18 : Int32) &&& 31)) ||| (x1 <<< ((12 : Int32) &&& 31))) ||| (x2 <<< ((6 : Int32) &&& 31))) ||| x3)] [.int 5, .ref b, .ref TB] ?_
  refine Bb C S17 f22 ⟨(by decide), (by decide)⟩ (.int ((Ad x5).toInt8.toInt32)) rfl (by decide +kernel) ?_
  refine Ac C S17 [(59, .sipush 255, 3), (62, .iand, 1)] 63 #[Ab DE, Ab b, Aa 6, Aa 8, Ab d, Aa 0, Aa 1, Aa 0, Ab TB, Aa 8, Aa 3, Aa x4, Aa x1, Aa x2, Aa x3, Aa ((((x0 <<< ((18 : Int32) &&& 31)) ||| (x1 <<< ((12 : Int32) &&& 31))) ||| (x2 <<< ((6 : Int32) &&& 31))) ||| x3)] [.int ((Ad x5).toInt8.toInt32 &&& (255 : Int32)), .ref TB] ?_
  refine Bl C S17 f24 (Cr hx5) (.int x5) (Cq hx5) (by decide +kernel) ?_
  refine Ac C S17 [(64, .istore 12, 2), (66, .aload 8, 2), (68, .aload_n 1, 1), (69, .iload_n 2, 1), (70, .iinc 2 1, 3)] 73 #[Ab DE, Ab b, Aa 7, Aa 8, Ab d, Aa 0, Aa 1, Aa 0, Ab TB, Aa 8, Aa 3, Aa x4, Aa x5, Aa x2, Aa x3, Aa ((((x0 <<< ((18 : Int32) &&& 31)) ||| (x1 <<< ((12 : Int32) &&& 31))) ||| (x2 <<< ((6 : Int32) &&& 31))) ||| x3)] [.int 6, .ref b, .ref TB] ?_
  refine Bb C S17 f22 ⟨(by decide), (by decide)⟩ (.int ((Ad x6).toInt8.toInt32)) rfl (by decide +kernel) ?_
  refine Ac C S17 [(74, .sipush 255, 3), (77, .iand, 1)] 78 #[Ab DE, Ab b, Aa 7, Aa 8, Ab d, Aa 0, Aa 1, Aa 0, Ab TB, Aa 8, Aa 3, Aa x4, Aa x5, Aa x2, Aa x3, Aa ((((x0 <<< ((18 : Int32) &&& 31)) ||| (x1 <<< ((12 : Int32) &&& 31))) ||| (x2 <<< ((6 : Int32) &&& 31))) ||| x3)] [.int ((Ad x6).toInt8.toInt32 &&& (255 : Int32)), .ref TB] ?_
  refine Bl C S17 f24 (Cr hx6) (.int x6) (Cq hx6) (by decide +kernel) ?_
  refine Ac C S17 [(79, .istore 13, 2), (81, .aload 8, 2), (83, .aload_n 1, 1), (84, .iload_n 2, 1), (85, .iinc 2 1, 3)] 88 #[Ab DE, Ab b, Aa 8, Aa 8, Ab d, Aa 0, Aa 1, Aa 0, Ab TB, Aa 8, Aa 3, Aa x4, Aa x5, Aa x6, Aa x3, Aa ((((x0 <<< ((18 : Int32) &&& 31)) ||| (x1 <<< ((12 : Int32) &&& 31))) ||| (x2 <<< ((6 : Int32) &&& 31))) ||| x3)] [.int 7, .ref b, .ref TB] ?_
  refine Bb C S17 f22 ⟨(by decide), (by decide)⟩ (.int ((Ad x7).toInt8.toInt32)) rfl (by decide +kernel) ?_
  refine Ac C S17 [(89, .sipush 255, 3), (92, .iand, 1)] 93 #[Ab DE, Ab b, Aa 8, Aa 8, Ab d, Aa 0, Aa 1, Aa 0, Ab TB, Aa 8, Aa 3, Aa x4, Aa x5, Aa x6, Aa x3, Aa ((((x0 <<< ((18 : Int32) &&& 31)) ||| (x1 <<< ((12 : Int32) &&& 31))) ||| (x2 <<< ((6 : Int32) &&& 31))) ||| x3)] [.int ((Ad x7).toInt8.toInt32 &&& (255 : Int32)), .ref TB] ?_
  refine Bl C S17 f24 (Cr hx7) (.int x7) (Cq hx7) (by decide +kernel) ?_
  refine Ac C S17 [(94, .istore 14, 2), (96, .iload 11, 2), (98, .iload 12, 2), (100, .ior, 1), (101, .iload 13, 2), (103, .ior, 1), (104, .iload 14, 2), (106, .ior, 1)] 107 #[Ab DE, Ab b, Aa 8, Aa 8, Ab d, Aa 0, Aa 1, Aa 0, Ab TB, Aa 8, Aa 3, Aa x4, Aa x5, Aa x6, Aa x7, Aa ((((x0 <<< ((18 : Int32) &&& 31)) ||| (x1 <<< ((12 : Int32) &&& 31))) ||| (x2 <<< ((6 : Int32) &&& 31))) ||| x3)] [.int (((x4 ||| x5) ||| x6) ||| x7)] ?_
  refine Bh C S17 .ge 9 116 (fun (q25 : ¬ (((x4 ||| x5) ||| x6) ||| x7) < (0 : Int32)) => ?_) (fun (hq : (((x4 ||| x5) ||| x6) ||| x7) < (0 : Int32)) => False.elim (own_or4 hx4 hx5 hx6 hx7 hq))
  refine Ac C S17 [(116, .iload 11, 2), (118, .bipush 18, 2), (120, .ishl, 1), (121, .iload 12, 2), (123, .bipush 12, 2), (125, .ishl, 1), (126, .ior, 1), (127, .iload 13, 2), (129, .bipush 6, 2), (131, .ishl, 1), (132, .ior, 1), (133, .iload 14, 2), (135, .ior, 1), (136, .istore 15, 2), (138, .aload 4, 2), (140, .iload 10, 2), (142, .iinc 10 1, 3), (145, .iload 15, 2), (147, .bipush 16, 2), (149, .ishr, 1), (150, .i2b, 1)] 151 #[Ab DE, Ab b, Aa 8, Aa 8, Ab d, Aa 0, Aa 1, Aa 0, Ab TB, Aa 8, Aa 4, Aa x4, Aa x5, Aa x6, Aa x7, Aa ((((x4 <<< ((18 : Int32) &&& 31)) ||| (x5 <<< ((12 : Int32) &&& 31))) ||| (x6 <<< ((6 : Int32) &&& 31))) ||| x7)] [.int ((((((x4 <<< ((18 : Int32) &&& 31)) ||| (x5 <<< ((12 : Int32) &&& 31))) ||| (x6 <<< ((6 : Int32) &&& 31))) ||| x7) >>> ((16 : Int32) &&& 31)).toInt8.toInt32), .int 3, .ref d] ?_
  refine Ap C S17 f21 ⟨(by decide), (by decide)⟩ 3 rfl (Ak rfl) ((((((x4 <<< ((18 : Int32) &&& 31)) ||| (x5 <<< ((12 : Int32) &&& 31))) ||| (x6 <<< ((6 : Int32) &&& 31))) ||| x7) >>> ((16 : Int32) &&& 31)).toInt8.toInt32) (Bc _) ge_d (by decide +kernel) ?_
  intro T26 h28 S27 W29 f30
  have f31 : Arv Z h28 d dk .byte (6 : Int32) ([(.int ((((((x0 <<< ((18 : Int32) &&& 31)) ||| (x1 <<< ((12 : Int32) &&& 31))) ||| (x2 <<< ((6 : Int32) &&& 31))) ||| x3) >>> ((16 : Int32) &&& 31)).toInt8.toInt32)), (.int ((((((x0 <<< ((18 : Int32) &&& 31)) ||| (x1 <<< ((12 : Int32) &&& 31))) ||| (x2 <<< ((6 : Int32) &&& 31))) ||| x3) >>> ((8 : Int32) &&& 31)).toInt8.toInt32)), (.int (((((x0 <<< ((18 : Int32) &&& 31)) ||| (x1 <<< ((12 : Int32) &&& 31))) ||| (x2 <<< ((6 : Int32) &&& 31))) ||| x3).toInt8.toInt32)), (.int ((((((x4 <<< ((18 : Int32) &&& 31)) ||| (x5 <<< ((12 : Int32) &&& 31))) ||| (x6 <<< ((6 : Int32) &&& 31))) ||| x7) >>> ((16 : Int32) &&& 31)).toInt8.toInt32)), (.int 0), (.int 0)]) (.int 0) := f30
  refine Ac C S27 [(152, .aload 4, 2), (154, .iload 10, 2), (156, .iinc 10 1, 3), (159, .iload 15, 2), (161, .bipush 8, 2), (163, .ishr, 1), (164, .i2b, 1)] 165 #[Ab DE, Ab b, Aa 8, Aa 8, Ab d, Aa 0, Aa 1, Aa 0, Ab TB, Aa 8, Aa 5, Aa x4, Aa x5, Aa x6, Aa x7, Aa ((((x4 <<< ((18 : Int32) &&& 31)) ||| (x5 <<< ((12 : Int32) &&& 31))) ||| (x6 <<< ((6 : Int32) &&& 31))) ||| x7)] [.int ((((((x4 <<< ((18 : Int32) &&& 31)) ||| (x5 <<< ((12 : Int32) &&& 31))) ||| (x6 <<< ((6 : Int32) &&& 31))) ||| x7) >>> ((8 : Int32) &&& 31)).toInt8.toInt32), .int 4, .ref d] ?_
  refine Ap C S27 f31 ⟨(by decide), (by decide)⟩ 4 rfl (Ak rfl) ((((((x4 <<< ((18 : Int32) &&& 31)) ||| (x5 <<< ((12 : Int32) &&& 31))) ||| (x6 <<< ((6 : Int32) &&& 31))) ||| x7) >>> ((8 : Int32) &&& 31)).toInt8.toInt32) (Bc _) ge_d (by decide +kernel) ?_
  intro T32 h34 S33 W35 f36
  have f37 : Arv Z h34 d dk .byte (6 : Int32) ([(.int ((((((x0 <<< ((18 : Int32) &&& 31)) ||| (x1 <<< ((12 : Int32) &&& 31))) ||| (x2 <<< ((6 : Int32) &&& 31))) ||| x3) >>> ((16 : Int32) &&& 31)).toInt8.toInt32)), (.int ((((((x0 <<< ((18 : Int32) &&& 31)) ||| (x1 <<< ((12 : Int32) &&& 31))) ||| (x2 <<< ((6 : Int32) &&& 31))) ||| x3) >>> ((8 : Int32) &&& 31)).toInt8.toInt32)), (.int (((((x0 <<< ((18 : Int32) &&& 31)) ||| (x1 <<< ((12 : Int32) &&& 31))) ||| (x2 <<< ((6 : Int32) &&& 31))) ||| x3).toInt8.toInt32)), (.int ((((((x4 <<< ((18 : Int32) &&& 31)) ||| (x5 <<< ((12 : Int32) &&& 31))) ||| (x6 <<< ((6 : Int32) &&& 31))) ||| x7) >>> ((16 : Int32) &&& 31)).toInt8.toInt32)), (.int ((((((x4 <<< ((18 : Int32) &&& 31)) ||| (x5 <<< ((12 : Int32) &&& 31))) ||| (x6 <<< ((6 : Int32) &&& 31))) ||| x7) >>> ((8 : Int32) &&& 31)).toInt8.toInt32)), (.int 0)]) (.int 0) := f36
  refine Ac C S33 [(166, .aload 4, 2), (168, .iload 10, 2), (170, .iinc 10 1, 3), (173, .iload 15, 2), (175, .i2b, 1)] 176 #[Ab DE, Ab b, Aa 8, Aa 8, Ab d, Aa 0, Aa 1, Aa 0, Ab TB, Aa 8, Aa 6, Aa x4, Aa x5, Aa x6, Aa x7, Aa ((((x4 <<< ((18 : Int32) &&& 31)) ||| (x5 <<< ((12 : Int32) &&& 31))) ||| (x6 <<< ((6 : Int32) &&& 31))) ||| x7)] [.int (((((x4 <<< ((18 : Int32) &&& 31)) ||| (x5 <<< ((12 : Int32) &&& 31))) ||| (x6 <<< ((6 : Int32) &&& 31))) ||| x7).toInt8.toInt32), .int 5, .ref d] ?_
  refine Ap C S33 f37 ⟨(by decide), (by decide)⟩ 5 rfl (Ak rfl) (((((x4 <<< ((18 : Int32) &&& 31)) ||| (x5 <<< ((12 : Int32) &&& 31))) ||| (x6 <<< ((6 : Int32) &&& 31))) ||| x7).toInt8.toInt32) (Bc _) ge_d (by decide +kernel) ?_
  intro T38 h40 S39 W41 f42
  have f43 : Arv Z h40 d dk .byte (6 : Int32) ([(.int ((((((x0 <<< ((18 : Int32) &&& 31)) ||| (x1 <<< ((12 : Int32) &&& 31))) ||| (x2 <<< ((6 : Int32) &&& 31))) ||| x3) >>> ((16 : Int32) &&& 31)).toInt8.toInt32)), (.int ((((((x0 <<< ((18 : Int32) &&& 31)) ||| (x1 <<< ((12 : Int32) &&& 31))) ||| (x2 <<< ((6 : Int32) &&& 31))) ||| x3) >>> ((8 : Int32) &&& 31)).toInt8.toInt32)), (.int (((((x0 <<< ((18 : Int32) &&& 31)) ||| (x1 <<< ((12 : Int32) &&& 31))) ||| (x2 <<< ((6 : Int32) &&& 31))) ||| x3).toInt8.toInt32)), (.int ((((((x4 <<< ((18 : Int32) &&& 31)) ||| (x5 <<< ((12 : Int32) &&& 31))) ||| (x6 <<< ((6 : Int32) &&& 31))) ||| x7) >>> ((16 : Int32) &&& 31)).toInt8.toInt32)), (.int ((((((x4 <<< ((18 : Int32) &&& 31)) ||| (x5 <<< ((12 : Int32) &&& 31))) ||| (x6 <<< ((6 : Int32) &&& 31))) ||| x7) >>> ((8 : Int32) &&& 31)).toInt8.toInt32)), (.int (((((x4 <<< ((18 : Int32) &&& 31)) ||| (x5 <<< ((12 : Int32) &&& 31))) ||| (x6 <<< ((6 : Int32) &&& 31))) ||| x7).toInt8.toInt32))]) (.int 0) := f42
  refine Ac C S39 [(177, .goto (-147), 3), (30, .iload_n 2, 1), (31, .iload 9, 2), (33, .if_icmp .ge 147, 3), (180, .iload 10, 2), (182, .iload 5, 2), (184, .isub, 1)] 185 #[Ab DE, Ab b, Aa 8, Aa 8, Ab d, Aa 0, Aa 1, Aa 0, Ab TB, Aa 8, Aa 6, Aa x4, Aa x5, Aa x6, Aa x7, Aa ((((x4 <<< ((18 : Int32) &&& 31)) ||| (x5 <<< ((12 : Int32) &&& 31))) ||| (x6 <<< ((6 : Int32) &&& 31))) ||| x7)] [.int 6] ?_
  refine Bq C S39 (by decide +kernel) (by decide) (by decide) ?_
  exact ⟨rfl, (((((((Keep.refl _ _).wr W7 (Ba 0)).wr W13 (Ba 0)).wr W19 (Ba 0)).wr W29 (Ba 0)).wr W35 (Ba 0)).wr W41 (Ba 0)), f43⟩
theorem own_d08 (hw : Aj a0 Z) (G1 : Int32) (G3 : Value) (U8 : Addr) (I8 : Addr) (TB : Addr) (TBk : ClassId) (DE : Addr) (b : Addr) (bk : ClassId) (d : Addr) (dk : ClassId) (x0 : Int32) (x1 : Int32) (x2 : Int32) (x3 : Int32) (x4 : Int32) (x5 : Int32) (x6 : Int32) (x7 : Int32) (h0 : Heap) (n0 : Nat) (z0 : n0 ≤ h0.size) (ge_d : n0 ≤ d) (X00 : Old Z n0 h0) (TK : Arv Z h0 TB TBk .int 256 Bs (.int 0)) (DEx : Exa Z h0 DE "java/util/Base64$Decoder") (DEu : Fld Z h0 DE "java/util/Base64$Decoder" "isURL" "Z" (.int 1)) (DEm : Fld Z h0 DE "java/util/Base64$Decoder" "isMIME" "Z" (.int 0)) (b0 : Arv Z h0 b bk .byte (8 : Int32) ([(.int ((Ad x0).toInt8.toInt32)), (.int ((Ad x1).toInt8.toInt32)), (.int ((Ad x2).toInt8.toInt32)), (.int ((Ad x3).toInt8.toInt32)), (.int ((Ad x4).toInt8.toInt32)), (.int ((Ad x5).toInt8.toInt32)), (.int ((Ad x6).toInt8.toInt32)), (.int ((Ad x7).toInt8.toInt32))]) (.int 0)) (b1 : Exa Z h0 b "[B") (dK : Arv Z h0 d dk .byte (6 : Int32) ([(.int 0), (.int 0), (.int 0), (.int 0), (.int 0), (.int 0)]) (.int 0)) (ne_b_d : b ≠ d) (XS : Ax Z n0 G1 G3 U8 I8 TB DE) (hx0 : Ag x0) (hx1 : Ag x1) (hx2 : Ag x2) (hx3 : Ag x3) (hx4 : Ag x4) (hx5 : Ag x5) (hx6 : Ag x6) (hx7 : Ag x7) :
    Af l Z (⟨"java/util/Base64$Decoder", "decode0", "([BII[B)I"⟩ : MethodName) jdk_2450_method_9_code 11 (some .int) ({ frames := 1, cells := 0, slots := 0, locals := 27 } : Room) n0 #[(.ref DE), (.ref b), (.int 0), (.int 8), (.ref d)] h0 (fun v h => v = some (.int 6) ∧ Keep h0 h [d] ∧ Arv Z h d dk .byte (6 : Int32) ([(.int (Ay (Aq x0 x1 x2 x3))), (.int (Bk (Aq x0 x1 x2 x3))), (.int (Cc (Aq x0 x1 x2 x3))), (.int (Ay (Aq x4 x5 x6 x7))), (.int (Bk (Aq x4 x5 x6 x7))), (.int (Cc (Aq x4 x5 x6 x7)))]) (.int 0)) := by
  refine Ar #[.val (.ref DE), .val (.ref b), .val (.int 0), .val (.int 8), .val (.ref d), .unset, .unset, .unset, .unset, .unset, .unset] ?_
  intro p e s m below meth c T0 C S0
  have XS_ := XS
  obtain ⟨O2, O4, P5, rG3, OU, OI, OT, OD, hUI, TBlt, DElt⟩ := XS_
  refine Ac C S0 [(0, .aload_n 0, 1)] 1 #[Ab DE, Ab b, Aa 0, Aa 8, Ab d, .unset, .unset, .unset, .unset, .unset, .unset] [.ref DE] ?_
  refine Ch C S0 hw 178 DEu ?_
  intro T1 S2
  refine Ac C S2 [(4, .ifCond .eq 9, 3)] 7 #[Ab DE, Ab b, Aa 0, Aa 8, Ab d, .unset, .unset, .unset, .unset, .unset, .unset] [] ?_
  refine Bi C S2 (ow hw 180 rfl) Via.refl (OT.ext X00.2) (by decide +kernel) ?_
  intro T3 S4
  refine Ac C S4 [(10, .goto 6, 3), (16, .astore 5, 2), (18, .iconst 0, 1), (19, .istore 6, 2), (21, .iconst 0, 1), (22, .istore 7, 2), (24, .bipush 18, 2), (26, .istore 8, 2), (28, .iload_n 2, 1), (29, .iload_n 3, 1), (30, .if_icmp .ge 251, 3), (33, .iload 8, 2), (35, .bipush 18, 2), (37, .if_icmp .ne 53, 3), (40, .iload_n 2, 1), (41, .iload_n 3, 1), (42, .iconst 4, 1), (43, .isub, 1), (44, .if_icmp .ge 46, 3), (47, .aload_n 0, 1), (48, .aload_n 1, 1), (49, .iload_n 2, 1), (50, .iload_n 3, 1), (51, .aload 4, 2), (53, .iload 6, 2), (55, .aload_n 0, 1)] 56 #[Ab DE, Ab b, Aa 0, Aa 8, Ab d, Ab TB, Aa 0, Aa 0, Aa 18, .unset, .unset] [.ref DE, .int 0, .ref d, .int 8, .int 0, .ref b, .ref DE] ?_
  refine Ch C S4 hw 178 DEu ?_
  intro T5 S6
  refine Ac C S6 [(59, .aload_n 0, 1)] 60 #[Ab DE, Ab b, Aa 0, Aa 8, Ab d, Ab TB, Aa 0, Aa 0, Aa 18, .unset, .unset] [.ref DE, .int 1, .int 0, .ref d, .int 8, .int 0, .ref b, .ref DE] ?_
  refine Ch C S6 hw 181 DEm ?_
  intro T7 S8
  refine Co C S8 (ow hw 193 rfl) (ow hw 194 rfl) (ow hw 196 rfl) (ow hw 195 rfl) (ow hw 197 rfl) (by decide) (Af.pay (own_db8 l Z a0 hw G1 G3 U8 I8 TB TBk DE b _ d _ x0 x1 x2 x3 x4 x5 x6 x7 h0 n0 z0 ge_d X00 TK DEx DEu DEm b0 b1 dK ne_b_d XS hx0 hx1 hx2 hx3 hx4 hx5 hx6 hx7) C 0 (ow hw 197 rfl) (ow hw 138 rfl) (by decide) (by decide)) (fun _ _ _ q => q.2) DEx [.ref b, .int 0, .int 8, .ref d, .int 0, .int 1, .int 0] [] rfl own_pd21 rfl rfl rfl (Ak rfl) (by decide) (by decide) (by decide +kernel) ?_
  rintro T11 h12 v13 L14 S15 ⟨⟨rfl, K9, f10⟩, -⟩
  refine Ac C S15 [(66, .istore 9, 2), (68, .iload 9, 2), (70, .iconst 2, 1), (71, .iadd, 1), (72, .iconst 3, 1)] 73 #[Ab DE, Ab b, Aa 0, Aa 8, Ab d, Ab TB, Aa 0, Aa 0, Aa 18, Aa 6, .unset] [.int 3, .int 8] ?_
  refine Fb C S15 (by decide +kernel) (by decide) ?_
  refine Ac C S15 [(74, .iconst 4, 1), (75, .imul, 1), (76, .istore 10, 2), (78, .iload_n 2, 1), (79, .iload 10, 2), (81, .iadd, 1), (82, .istore_n 2, 1), (83, .iload 6, 2), (85, .iload 9, 2), (87, .iadd, 1), (88, .istore 6, 2), (90, .iload_n 2, 1), (91, .iload_n 3, 1), (92, .if_icmp .lt 6, 3), (95, .goto 186, 3), (281, .iload 8, 2), (283, .bipush 6, 2), (285, .if_icmp .ne 20, 3), (305, .iload 8, 2), (307, .ifCond .ne 34, 3), (341, .iload 8, 2), (343, .bipush 12, 2), (345, .if_icmp .ne 13, 3), (358, .iload_n 2, 1), (359, .iload_n 3, 1), (360, .if_icmp .ge 56, 3), (416, .iload 6, 2)] 418 #[Ab DE, Ab b, Aa 8, Aa 8, Ab d, Ab TB, Aa 6, Aa 0, Aa 18, Aa 6, Aa 8] [.int 6] ?_
  refine Bq C S15 (by decide +kernel) (by decide) (by decide) ?_
  exact ⟨rfl, ((Keep.refl _ _).trans K9 (allS (Ba 0) all0)), f10⟩
theorem own_da8 (hw : Aj a0 Z) (G1 : Int32) (G3 : Value) (U8 : Addr) (I8 : Addr) (TB : Addr) (TBk : ClassId) (DE : Addr) (b : Addr) (bk : ClassId) (x0 : Int32) (x1 : Int32) (x2 : Int32) (x3 : Int32) (x4 : Int32) (x5 : Int32) (x6 : Int32) (x7 : Int32) (h0 : Heap) (n0 : Nat) (z0 : n0 ≤ h0.size) (X00 : Old Z n0 h0) (TK : Arv Z h0 TB TBk .int 256 Bs (.int 0)) (DEx : Exa Z h0 DE "java/util/Base64$Decoder") (DEu : Fld Z h0 DE "java/util/Base64$Decoder" "isURL" "Z" (.int 1)) (DEm : Fld Z h0 DE "java/util/Base64$Decoder" "isMIME" "Z" (.int 0)) (b0 : Arv Z h0 b bk .byte (8 : Int32) ([(.int ((Ad x0).toInt8.toInt32)), (.int ((Ad x1).toInt8.toInt32)), (.int ((Ad x2).toInt8.toInt32)), (.int ((Ad x3).toInt8.toInt32)), (.int ((Ad x4).toInt8.toInt32)), (.int ((Ad x5).toInt8.toInt32)), (.int ((Ad x6).toInt8.toInt32)), (.int ((Ad x7).toInt8.toInt32))]) (.int 0)) (b1 : Exa Z h0 b "[B") (XS : Ax Z n0 G1 G3 U8 I8 TB DE) (hx0 : Ag x0) (hx1 : Ag x1) (hx2 : Ag x2) (hx3 : Ag x3) (hx4 : Ag x4) (hx5 : Ag x5) (hx6 : Ag x6) (hx7 : Ag x7) :
    Af l Z (⟨"java/util/Base64$Decoder", "decode", "([B)[B"⟩ : MethodName) jdk_2450_method_2_code 4 (some (.array .byte)) ({ frames := 2, cells := 1, slots := 6, locals := 49 } : Room) n0 #[(.ref DE), (.ref b)] h0 (fun v h => ∃ r : Addr, ∃ rk : ClassId, v = some (.ref r) ∧ h0.size ≤ r ∧ Keep h0 h [] ∧ Arv Z h r rk .byte (6 : Int32) ([(.int (Ay (Aq x0 x1 x2 x3))), (.int (Bk (Aq x0 x1 x2 x3))), (.int (Cc (Aq x0 x1 x2 x3))), (.int (Ay (Aq x4 x5 x6 x7))), (.int (Bk (Aq x4 x5 x6 x7))), (.int (Cc (Aq x4 x5 x6 x7)))]) (.int 0)) := by
  refine Ar #[.val (.ref DE), .val (.ref b), .unset, .unset] ?_
  intro p e s m below meth c T0 C S0
  have XS_ := XS
  obtain ⟨O2, O4, P5, rG3, OU, OI, OT, OD, hUI, TBlt, DElt⟩ := XS_
  refine Ac C S0 [(0, .aload_n 0, 1), (1, .aload_n 1, 1), (2, .iconst 0, 1), (3, .aload_n 1, 1)] 4 #[Ab DE, Ab b, .unset, .unset] [.ref b, .int 0, .ref b, .ref DE] ?_
  refine Au C S0 b0 (by decide +kernel) ?_
  refine Co C S0 (ow hw 173 rfl) (ow hw 174 rfl) (ow hw 176 rfl) (ow hw 175 rfl) (ow hw 177 rfl) (by decide) (Af.pay (own_dl8 l Z a0 hw G1 G3 U8 I8 TB TBk DE b _ x0 x1 x2 x3 x4 x5 x6 x7 h0 n0 z0 X00 TK DEx DEu DEm b0 b1 XS hx0 hx1 hx2 hx3 hx4 hx5 hx6 hx7) C 0 (ow hw 177 rfl) (ow hw 138 rfl) (by decide) (by decide)) (fun _ _ _ q => q.2) DEx [.ref b, .int 0, .int 8] [] rfl Eh rfl rfl rfl (Ak rfl) (by decide) (by decide) (by decide +kernel) ?_
  rintro T2 h3 v4 L5 S6 ⟨⟨rfl, e1⟩, -⟩
  rw [e1] at S6; clear e1
  refine Cp C S6 (aty := .byte) (ad := "[B") (by decide) (ow hw 35 rfl) (by decide +kernel) (by decide) 6 (by decide) (by decide) (by decide) (by decide) ?_
  intro T7 h9 a10 k11 S8 g12 E13 f14 x15
  have f16 : Arv Z h9 a10 k11 .byte (6 : Int32) ([(.int 0), (.int 0), (.int 0), (.int 0), (.int 0), (.int 0)]) (.int 0) := Arv.pad f14 (pad_rep [] (.int 0) 6)
  refine Ac C S8 [(10, .astore_n 2, 1), (11, .aload_n 0, 1), (12, .aload_n 1, 1), (13, .iconst 0, 1), (14, .aload_n 1, 1)] 15 #[Ab DE, Ab b, Ab a10, .unset] [.ref b, .int 0, .ref b, .ref DE] ?_
  have f17 := (b0.ext E13)
  refine Au C S8 f17 (by decide +kernel) ?_
  refine Ac C S8 [(16, .aload_n 2, 1)] 17 #[Ab DE, Ab b, Ab a10, .unset] [.ref a10, .int 8, .int 0, .ref b, .ref DE] ?_
  have f18 := (X00.ext E13)
  have f19 := (TK.ext E13)
  have f20 := (Exa.ext E13 DEx)
  have f21 := (Fld.ext E13 DEu)
  have f22 := (Fld.ext E13 DEm)
  have f23 := (Exa.ext E13 b1)
  have f24 : n0 ≤ h9.size := (Nat.le_trans z0 E13.1)
  have g25 : n0 ≤ a10 := by rw [g12]; exact z0
  have n26 : b ≠ a10 := by rw [g12]; exact Nat.ne_of_lt b0.lt
  refine Co C S8 (ow hw 185 rfl) (ow hw 186 rfl) (ow hw 188 rfl) (ow hw 187 rfl) (ow hw 189 rfl) (by decide) (Af.pay (own_d08 l Z a0 hw G1 G3 U8 I8 TB TBk DE b _ a10 _ x0 x1 x2 x3 x4 x5 x6 x7 h9 n0 f24 g25 f18 f19 f20 f21 f22 f17 f23 f16 n26 XS hx0 hx1 hx2 hx3 hx4 hx5 hx6 hx7) C 0 (ow hw 189 rfl) (ow hw 138 rfl) (by decide) (by decide)) (fun _ _ _ q => q.2) f20 [.ref b, .int 0, .int 8, .ref a10] [] rfl Ei rfl rfl rfl (Ak rfl) (by decide) (by decide) (by decide +kernel) ?_
  rintro T29 h30 v31 L32 S33 ⟨⟨rfl, K27, f28⟩, -⟩
  refine Ac C S33 [(20, .istore_n 3, 1), (21, .iload_n 3, 1), (22, .aload_n 2, 1)] 23 #[Ab DE, Ab b, Ab a10, Aa 6] [.ref a10, .int 6] ?_
  refine Au C S33 f28 (by decide +kernel) ?_
  refine Ac C S33 [(24, .if_icmp .eq 9, 3), (33, .aload_n 2, 1)] 34 #[Ab DE, Ab b, Ab a10, Aa 6] [.ref a10] ?_
  refine Az C S33 rfl rfl (by decide +kernel) (by decide) (by decide) ?_
  have o34 : h0.size ≤ a10 := by rw [g12]; exact (Nat.le_refl _)
  exact ⟨a10, k11, rfl, o34, (((Keep.refl _ _).ext E13).trans K27 (allS (Or.inr o34) all0)), f28⟩
theorem own_ds8 (hw : Aj a0 Z) (G1 : Int32) (G3 : Value) (U8 : Addr) (I8 : Addr) (TB : Addr) (TBk : ClassId) (DE : Addr) (x : Addr) (xt : Addr) (xtk : ClassId) (x0 : Int32) (x1 : Int32) (x2 : Int32) (x3 : Int32) (x4 : Int32) (x5 : Int32) (x6 : Int32) (x7 : Int32) (h0 : Heap) (n0 : Nat) (z0 : n0 ≤ h0.size) (X00 : Old Z n0 h0) (TK : Arv Z h0 TB TBk .int 256 Bs (.int 0)) (DEx : Exa Z h0 DE "java/util/Base64$Decoder") (DEu : Fld Z h0 DE "java/util/Base64$Decoder" "isURL" "Z" (.int 1)) (DEm : Fld Z h0 DE "java/util/Base64$Decoder" "isMIME" "Z" (.int 0)) (s0 : Exa Z h0 x "java/lang/String") (s1 : Fld Z h0 x "java/lang/String" "value" "[B" (.ref xt)) (s2 : Fld Z h0 x "java/lang/String" "coder" "B" (.int 0)) (s3 : Arv Z h0 xt xtk .byte (8 : Int32) ([(.int ((Ad x0).toInt8.toInt32)), (.int ((Ad x1).toInt8.toInt32)), (.int ((Ad x2).toInt8.toInt32)), (.int ((Ad x3).toInt8.toInt32)), (.int ((Ad x4).toInt8.toInt32)), (.int ((Ad x5).toInt8.toInt32)), (.int ((Ad x6).toInt8.toInt32)), (.int ((Ad x7).toInt8.toInt32))]) (.int 0)) (s4 : Exa Z h0 xt "[B") (XS : Ax Z n0 G1 G3 U8 I8 TB DE) (hx0 : Ag x0) (hx1 : Ag x1) (hx2 : Ag x2) (hx3 : Ag x3) (hx4 : Ag x4) (hx5 : Ag x5) (hx6 : Ag x6) (hx7 : Ag x7) :
    Af l Z (⟨"java/util/Base64$Decoder", "decode", "(Ljava/lang/String;)[B"⟩ : MethodName) jdk_2450_method_3_code 2 (some (.array .byte)) ({ frames := 5, cells := 2, slots := 14, locals := 76 } : Room) n0 #[(.ref DE), (.ref x)] h0 (fun v h => ∃ r : Addr, ∃ rk : ClassId, v = some (.ref r) ∧ h0.size ≤ r ∧ Keep h0 h [] ∧ Arv Z h r rk .byte (6 : Int32) ([(.int (Ay (Aq x0 x1 x2 x3))), (.int (Bk (Aq x0 x1 x2 x3))), (.int (Cc (Aq x0 x1 x2 x3))), (.int (Ay (Aq x4 x5 x6 x7))), (.int (Bk (Aq x4 x5 x6 x7))), (.int (Cc (Aq x4 x5 x6 x7)))]) (.int 0)) := by
  refine Ar #[.val (.ref DE), .val (.ref x)] ?_
  intro p e s m below meth c T0 C S0
  have XS_ := XS
  obtain ⟨O2, O4, P5, rG3, OU, OI, OT, OD, hUI, TBlt, DElt⟩ := XS_
  refine Ac C S0 [(0, .aload_n 0, 1), (1, .aload_n 1, 1)] 2 #[Ab DE, Ab x] [.ref x, .ref DE] ?_
  refine Bi C S0 (ow hw 140 rfl) Via.refl (OI.ext X00.2) (by decide +kernel) ?_
  intro T1 S2
  refine Ah C S2 hw 142 143 145 145 144 146 19 (Fk l Z a0 hw G1 G3 U8 I8 TB DE x _ _ _ _ h0 n0 z0 X00 s0 s1 s2 s3 s4 XS (Ak rfl)) 1 s0 [.ref I8] [.ref DE] Ej ?_
  rintro T8 h9 v10 L11 S12 ⟨⟨a3, rfl, g4, K5, f6, f7⟩, -⟩
  have f13 := (X00.keep K5 all0)
  have f14 := (TK.keep K5 nin0)
  have f15 := (DEx.keep K5)
  have f16 := (DEu.keep K5 nin0)
  have f17 := (DEm.keep K5 nin0)
  have f18 : n0 ≤ h9.size := (Nat.le_trans z0 K5.1)
  refine Ah C S12 hw 168 169 171 171 170 172 138 (own_da8 l Z a0 hw G1 G3 U8 I8 TB TBk DE a3 _ x0 x1 x2 x3 x4 x5 x6 x7 h9 n0 f18 f13 f14 f15 f16 f17 f6 f7 XS hx0 hx1 hx2 hx3 hx4 hx5 hx6 hx7) 0 f15 [.ref a3] [] Ek ?_
  rintro T24 h25 v26 L27 S28 ⟨⟨a19, k20, rfl, g21, K22, f23⟩, -⟩
  refine Az C S28 rfl rfl (by decide +kernel) (by decide) (by decide) ?_
  have o30 : h0.size ≤ h9.size := (Nat.le_trans (Nat.le_refl _) K5.1)
  have o29 : h0.size ≤ a19 := Nat.le_trans o30 g21
  exact ⟨a19, k20, rfl, o29, (((Keep.refl _ _).trans K5 all0).trans K22 all0), f23⟩
theorem own_du8 (hw : Aj a0 Z) (hEL : EW Z a0 Ca) (wS : ∀ a ∈ Bundle.stringAtoms, a.before a0 Z = true) (G1 : Int32) (G3 : Value) (U8 : Addr) (I8 : Addr) (TB : Addr) (TBk : ClassId) (DE : Addr) (x : Addr) (xt : Addr) (xtk : ClassId) (x0 : Int32) (x1 : Int32) (x2 : Int32) (x3 : Int32) (x4 : Int32) (x5 : Int32) (x6 : Int32) (x7 : Int32) (h0 : Heap) (n0 : Nat) (z0 : n0 ≤ h0.size) (X00 : Old Z n0 h0) (TK : Arv Z h0 TB TBk .int 256 Bs (.int 0)) (DEx : Exa Z h0 DE "java/util/Base64$Decoder") (DEu : Fld Z h0 DE "java/util/Base64$Decoder" "isURL" "Z" (.int 1)) (DEm : Fld Z h0 DE "java/util/Base64$Decoder" "isMIME" "Z" (.int 0)) (s0 : Exa Z h0 x "java/lang/String") (s1 : Fld Z h0 x "java/lang/String" "value" "[B" (.ref xt)) (s2 : Fld Z h0 x "java/lang/String" "coder" "B" (.int 0)) (s3 : Arv Z h0 xt xtk .byte (8 : Int32) ([(.int ((Ad x0).toInt8.toInt32)), (.int ((Ad x1).toInt8.toInt32)), (.int ((Ad x2).toInt8.toInt32)), (.int ((Ad x3).toInt8.toInt32)), (.int ((Ad x4).toInt8.toInt32)), (.int ((Ad x5).toInt8.toInt32)), (.int ((Ad x6).toInt8.toInt32)), (.int ((Ad x7).toInt8.toInt32))]) (.int 0)) (s4 : Exa Z h0 xt "[B") (XS : Ax Z n0 G1 G3 U8 I8 TB DE) (hx0 : Ag x0) (hx1 : Ag x1) (hx2 : Ag x2) (hx3 : Ag x3) (hx4 : Ag x4) (hx5 : Ag x5) (hx6 : Ag x6) (hx7 : Ag x7) :
    Cf l Z Ca (⟨"com/example/torrey/torrey/Base64Url", "decode", "(Ljava/lang/String;)[B"⟩ : MethodName) prog_1_method_3_code 3 (some (.array .byte)) ({ frames := 6, cells := 4, slots := 34, locals := 89 } : Room) n0 #[(.ref x)] h0 [] (fun v h => ∃ r : Addr, ∃ rk : ClassId, v = some (.ref r) ∧ h0.size ≤ r ∧ Keep h0 h [] ∧ Arv Z h r rk .byte (6 : Int32) ([(.int (Ay (Aq x0 x1 x2 x3))), (.int (Bk (Aq x0 x1 x2 x3))), (.int (Cc (Aq x0 x1 x2 x3))), (.int (Ay (Aq x4 x5 x6 x7))), (.int (Bk (Aq x4 x5 x6 x7))), (.int (Cc (Aq x4 x5 x6 x7)))]) (.int 0)) := by
  refine Cm hEL wS (by decide +kernel) #[.val (.ref x), .unset, .unset] (fun m => by first | (simp [entryFrame, mkF, argsToLocals, Value.category]; done) | rfl) ?_
  intro p e s m below meth c T0 CW SW0
  have XS_ := XS
  obtain ⟨O2, O4, P5, rG3, OU, OI, OT, OD, hUI, TBlt, DElt⟩ := XS_
  refine Av CW SW0 ?_
  intro vm1 C S2 rb3
  refine Ac C S2 [(0, .aload_n 0, 1)] 1 #[Ab x, .unset, .unset] [.ref x] ?_
  have SW4 := rb3 _ _ _ _ [] [] S2 (Keep.refl _ _) all0 all0
  refine Cu CW SW4 (ow hw 50 rfl) (by decide +kernel) 16 (by decide) (by decide) (by decide) (by decide) ?_
  intro T5 h6 a7 SW8 E9
  have f10 : n0 ≤ h6.size := (Nat.le_trans z0 E9.1)
  refine Av CW SW8 ?_
  intro vm17 C S18 rb19
  refine Ae C S18 hw 53 54 55 56 (De l Z a0 hw x a7 h6 n0 f10) 0 [.ref x, .ref a7] [] Cv ?_
  rintro T12 h13 v14 L15 S16 ⟨⟨rfl, e11⟩, -⟩
  rw [e11] at S16; clear e11
  refine Ac C S16 [(6, .pop, 1), (7, .iconst 0, 1), (8, .istore_n 1, 1), (9, .iload_n 1, 1), (10, .aload_n 0, 1)] 11 #[Ab x, Aa 0, .unset] [.ref x, .int 0] ?_
  have f20 := (X00.ext E9)
  have f21 := (Exa.ext E9 s0)
  have f22 := (Fld.ext E9 s1)
  have f23 := (Fld.ext E9 s2)
  have f24 := (s3.ext E9)
  refine Ah C S16 hw 57 58 60 60 59 61 19 (At l Z a0 hw G1 G3 x _ _ _ _ h6 n0 f10 f20 f21 f22 f23 f24 O2 O4 P5 rG3) 1 f21 [] [.int 0] Al ?_
  rintro T26 h27 v28 L29 S30 ⟨⟨rfl, e25⟩, -⟩
  rw [e25] at S30; clear e25
  refine Ac C S30 [(14, .if_icmp .ge 39, 3), (17, .aload_n 0, 1), (18, .iload_n 1, 1)] 19 #[Ab x, Aa 0, .unset] [.int 0, .ref x] ?_
  refine Ah C S30 hw 67 68 70 70 69 71 19 (Bm l Z a0 hw G1 G3 x _ _ _ _ 0 ((Ad x0).toInt8.toInt32) (Ad x0) h6 n0 f10 f20 f21 f22 f23 f24 O2 O4 P5 rG3 (⟨(by decide), (by decide)⟩) rfl (Ce hx0) (Ai hx0)) 0 f21 [.int 0] [] Be ?_
  rintro T32 h33 v34 L35 S36 ⟨⟨rfl, e31⟩, -⟩
  rw [e31] at S36; clear e31
  refine Ae C S36 hw 129 130 48 131 (Bw l Z a0 hw x0 h6 n0 f10 hx0) 0 [.int (Ad x0)] [] Bx ?_
  rintro T38 h39 v40 L41 S42 ⟨⟨rfl, e37⟩, -⟩
  rw [e37] at S42; clear e37
  refine Bh C S42 .ge 22 47 (fun (q43 : ¬ x0 < (0 : Int32)) => ?_) (fun (hq : x0 < (0 : Int32)) => False.elim (Cd hx0 hq))
  refine Ac C S42 [(47, .iinc 1 1, 3), (50, .goto (-41), 3), (9, .iload_n 1, 1), (10, .aload_n 0, 1)] 11 #[Ab x, Aa 1, .unset] [.ref x, .int 1] ?_
  refine Ah C S42 hw 57 58 60 60 59 61 19 (At l Z a0 hw G1 G3 x _ _ _ _ h6 n0 f10 f20 f21 f22 f23 f24 O2 O4 P5 rG3) 1 f21 [] [.int 1] Al ?_
  rintro T45 h46 v47 L48 S49 ⟨⟨rfl, e44⟩, -⟩
  rw [e44] at S49; clear e44
  refine Ac C S49 [(14, .if_icmp .ge 39, 3), (17, .aload_n 0, 1), (18, .iload_n 1, 1)] 19 #[Ab x, Aa 1, .unset] [.int 1, .ref x] ?_
  refine Ah C S49 hw 67 68 70 70 69 71 19 (Bm l Z a0 hw G1 G3 x _ _ _ _ 1 ((Ad x1).toInt8.toInt32) (Ad x1) h6 n0 f10 f20 f21 f22 f23 f24 O2 O4 P5 rG3 (⟨(by decide), (by decide)⟩) rfl (Ce hx1) (Ai hx1)) 0 f21 [.int 1] [] Be ?_
  rintro T51 h52 v53 L54 S55 ⟨⟨rfl, e50⟩, -⟩
  rw [e50] at S55; clear e50
  refine Ae C S55 hw 129 130 48 131 (Bw l Z a0 hw x1 h6 n0 f10 hx1) 0 [.int (Ad x1)] [] Bx ?_
  rintro T57 h58 v59 L60 S61 ⟨⟨rfl, e56⟩, -⟩
  rw [e56] at S61; clear e56
  refine Bh C S61 .ge 22 47 (fun (q62 : ¬ x1 < (0 : Int32)) => ?_) (fun (hq : x1 < (0 : Int32)) => False.elim (Cd hx1 hq))
  refine Ac C S61 [(47, .iinc 1 1, 3), (50, .goto (-41), 3), (9, .iload_n 1, 1), (10, .aload_n 0, 1)] 11 #[Ab x, Aa 2, .unset] [.ref x, .int 2] ?_
  refine Ah C S61 hw 57 58 60 60 59 61 19 (At l Z a0 hw G1 G3 x _ _ _ _ h6 n0 f10 f20 f21 f22 f23 f24 O2 O4 P5 rG3) 1 f21 [] [.int 2] Al ?_
  rintro T64 h65 v66 L67 S68 ⟨⟨rfl, e63⟩, -⟩
  rw [e63] at S68; clear e63
  refine Ac C S68 [(14, .if_icmp .ge 39, 3), (17, .aload_n 0, 1), (18, .iload_n 1, 1)] 19 #[Ab x, Aa 2, .unset] [.int 2, .ref x] ?_
  refine Ah C S68 hw 67 68 70 70 69 71 19 (Bm l Z a0 hw G1 G3 x _ _ _ _ 2 ((Ad x2).toInt8.toInt32) (Ad x2) h6 n0 f10 f20 f21 f22 f23 f24 O2 O4 P5 rG3 (⟨(by decide), (by decide)⟩) rfl (Ce hx2) (Ai hx2)) 0 f21 [.int 2] [] Be ?_
  rintro T70 h71 v72 L73 S74 ⟨⟨rfl, e69⟩, -⟩
  rw [e69] at S74; clear e69
  refine Ae C S74 hw 129 130 48 131 (Bw l Z a0 hw x2 h6 n0 f10 hx2) 0 [.int (Ad x2)] [] Bx ?_
  rintro T76 h77 v78 L79 S80 ⟨⟨rfl, e75⟩, -⟩
  rw [e75] at S80; clear e75
  refine Bh C S80 .ge 22 47 (fun (q81 : ¬ x2 < (0 : Int32)) => ?_) (fun (hq : x2 < (0 : Int32)) => False.elim (Cd hx2 hq))
  refine Ac C S80 [(47, .iinc 1 1, 3), (50, .goto (-41), 3), (9, .iload_n 1, 1), (10, .aload_n 0, 1)] 11 #[Ab x, Aa 3, .unset] [.ref x, .int 3] ?_
  refine Ah C S80 hw 57 58 60 60 59 61 19 (At l Z a0 hw G1 G3 x _ _ _ _ h6 n0 f10 f20 f21 f22 f23 f24 O2 O4 P5 rG3) 1 f21 [] [.int 3] Al ?_
  rintro T83 h84 v85 L86 S87 ⟨⟨rfl, e82⟩, -⟩
  rw [e82] at S87; clear e82
  refine Ac C S87 [(14, .if_icmp .ge 39, 3), (17, .aload_n 0, 1), (18, .iload_n 1, 1)] 19 #[Ab x, Aa 3, .unset] [.int 3, .ref x] ?_
  refine Ah C S87 hw 67 68 70 70 69 71 19 (Bm l Z a0 hw G1 G3 x _ _ _ _ 3 ((Ad x3).toInt8.toInt32) (Ad x3) h6 n0 f10 f20 f21 f22 f23 f24 O2 O4 P5 rG3 (⟨(by decide), (by decide)⟩) rfl (Ce hx3) (Ai hx3)) 0 f21 [.int 3] [] Be ?_
  rintro T89 h90 v91 L92 S93 ⟨⟨rfl, e88⟩, -⟩
  rw [e88] at S93; clear e88
  refine Ae C S93 hw 129 130 48 131 (Bw l Z a0 hw x3 h6 n0 f10 hx3) 0 [.int (Ad x3)] [] Bx ?_
  rintro T95 h96 v97 L98 S99 ⟨⟨rfl, e94⟩, -⟩
  rw [e94] at S99; clear e94
  refine Bh C S99 .ge 22 47 (fun (q100 : ¬ x3 < (0 : Int32)) => ?_) (fun (hq : x3 < (0 : Int32)) => False.elim (Cd hx3 hq))
  refine Ac C S99 [(47, .iinc 1 1, 3), (50, .goto (-41), 3), (9, .iload_n 1, 1), (10, .aload_n 0, 1)] 11 #[Ab x, Aa 4, .unset] [.ref x, .int 4] ?_
  refine Ah C S99 hw 57 58 60 60 59 61 19 (At l Z a0 hw G1 G3 x _ _ _ _ h6 n0 f10 f20 f21 f22 f23 f24 O2 O4 P5 rG3) 1 f21 [] [.int 4] Al ?_
  rintro T102 h103 v104 L105 S106 ⟨⟨rfl, e101⟩, -⟩
  rw [e101] at S106; clear e101
  refine Ac C S106 [(14, .if_icmp .ge 39, 3), (17, .aload_n 0, 1), (18, .iload_n 1, 1)] 19 #[Ab x, Aa 4, .unset] [.int 4, .ref x] ?_
  refine Ah C S106 hw 67 68 70 70 69 71 19 (Bm l Z a0 hw G1 G3 x _ _ _ _ 4 ((Ad x4).toInt8.toInt32) (Ad x4) h6 n0 f10 f20 f21 f22 f23 f24 O2 O4 P5 rG3 (⟨(by decide), (by decide)⟩) rfl (Ce hx4) (Ai hx4)) 0 f21 [.int 4] [] Be ?_
  rintro T108 h109 v110 L111 S112 ⟨⟨rfl, e107⟩, -⟩
  rw [e107] at S112; clear e107
  refine Ae C S112 hw 129 130 48 131 (Bw l Z a0 hw x4 h6 n0 f10 hx4) 0 [.int (Ad x4)] [] Bx ?_
  rintro T114 h115 v116 L117 S118 ⟨⟨rfl, e113⟩, -⟩
  rw [e113] at S118; clear e113
  refine Bh C S118 .ge 22 47 (fun (q119 : ¬ x4 < (0 : Int32)) => ?_) (fun (hq : x4 < (0 : Int32)) => False.elim (Cd hx4 hq))
  refine Ac C S118 [(47, .iinc 1 1, 3), (50, .goto (-41), 3), (9, .iload_n 1, 1), (10, .aload_n 0, 1)] 11 #[Ab x, Aa 5, .unset] [.ref x, .int 5] ?_
  refine Ah C S118 hw 57 58 60 60 59 61 19 (At l Z a0 hw G1 G3 x _ _ _ _ h6 n0 f10 f20 f21 f22 f23 f24 O2 O4 P5 rG3) 1 f21 [] [.int 5] Al ?_
  rintro T121 h122 v123 L124 S125 ⟨⟨rfl, e120⟩, -⟩
  rw [e120] at S125; clear e120
  refine Ac C S125 [(14, .if_icmp .ge 39, 3), (17, .aload_n 0, 1), (18, .iload_n 1, 1)] 19 #[Ab x, Aa 5, .unset] [.int 5, .ref x] ?_
  refine Ah C S125 hw 67 68 70 70 69 71 19 (Bm l Z a0 hw G1 G3 x _ _ _ _ 5 ((Ad x5).toInt8.toInt32) (Ad x5) h6 n0 f10 f20 f21 f22 f23 f24 O2 O4 P5 rG3 (⟨(by decide), (by decide)⟩) rfl (Ce hx5) (Ai hx5)) 0 f21 [.int 5] [] Be ?_
  rintro T127 h128 v129 L130 S131 ⟨⟨rfl, e126⟩, -⟩
  rw [e126] at S131; clear e126
  refine Ae C S131 hw 129 130 48 131 (Bw l Z a0 hw x5 h6 n0 f10 hx5) 0 [.int (Ad x5)] [] Bx ?_
  rintro T133 h134 v135 L136 S137 ⟨⟨rfl, e132⟩, -⟩
  rw [e132] at S137; clear e132
  refine Bh C S137 .ge 22 47 (fun (q138 : ¬ x5 < (0 : Int32)) => ?_) (fun (hq : x5 < (0 : Int32)) => False.elim (Cd hx5 hq))
  refine Ac C S137 [(47, .iinc 1 1, 3), (50, .goto (-41), 3), (9, .iload_n 1, 1), (10, .aload_n 0, 1)] 11 #[Ab x, Aa 6, .unset] [.ref x, .int 6] ?_
  refine Ah C S137 hw 57 58 60 60 59 61 19 (At l Z a0 hw G1 G3 x _ _ _ _ h6 n0 f10 f20 f21 f22 f23 f24 O2 O4 P5 rG3) 1 f21 [] [.int 6] Al ?_
  rintro T140 h141 v142 L143 S144 ⟨⟨rfl, e139⟩, -⟩
  rw [e139] at S144; clear e139
  refine Ac C S144 [(14, .if_icmp .ge 39, 3), (17, .aload_n 0, 1), (18, .iload_n 1, 1)] 19 #[Ab x, Aa 6, .unset] [.int 6, .ref x] ?_
  refine Ah C S144 hw 67 68 70 70 69 71 19 (Bm l Z a0 hw G1 G3 x _ _ _ _ 6 ((Ad x6).toInt8.toInt32) (Ad x6) h6 n0 f10 f20 f21 f22 f23 f24 O2 O4 P5 rG3 (⟨(by decide), (by decide)⟩) rfl (Ce hx6) (Ai hx6)) 0 f21 [.int 6] [] Be ?_
  rintro T146 h147 v148 L149 S150 ⟨⟨rfl, e145⟩, -⟩
  rw [e145] at S150; clear e145
  refine Ae C S150 hw 129 130 48 131 (Bw l Z a0 hw x6 h6 n0 f10 hx6) 0 [.int (Ad x6)] [] Bx ?_
  rintro T152 h153 v154 L155 S156 ⟨⟨rfl, e151⟩, -⟩
  rw [e151] at S156; clear e151
  refine Bh C S156 .ge 22 47 (fun (q157 : ¬ x6 < (0 : Int32)) => ?_) (fun (hq : x6 < (0 : Int32)) => False.elim (Cd hx6 hq))
  refine Ac C S156 [(47, .iinc 1 1, 3), (50, .goto (-41), 3), (9, .iload_n 1, 1), (10, .aload_n 0, 1)] 11 #[Ab x, Aa 7, .unset] [.ref x, .int 7] ?_
  refine Ah C S156 hw 57 58 60 60 59 61 19 (At l Z a0 hw G1 G3 x _ _ _ _ h6 n0 f10 f20 f21 f22 f23 f24 O2 O4 P5 rG3) 1 f21 [] [.int 7] Al ?_
  rintro T159 h160 v161 L162 S163 ⟨⟨rfl, e158⟩, -⟩
  rw [e158] at S163; clear e158
  refine Ac C S163 [(14, .if_icmp .ge 39, 3), (17, .aload_n 0, 1), (18, .iload_n 1, 1)] 19 #[Ab x, Aa 7, .unset] [.int 7, .ref x] ?_
  refine Ah C S163 hw 67 68 70 70 69 71 19 (Bm l Z a0 hw G1 G3 x _ _ _ _ 7 ((Ad x7).toInt8.toInt32) (Ad x7) h6 n0 f10 f20 f21 f22 f23 f24 O2 O4 P5 rG3 (⟨(by decide), (by decide)⟩) rfl (Ce hx7) (Ai hx7)) 0 f21 [.int 7] [] Be ?_
  rintro T165 h166 v167 L168 S169 ⟨⟨rfl, e164⟩, -⟩
  rw [e164] at S169; clear e164
  refine Ae C S169 hw 129 130 48 131 (Bw l Z a0 hw x7 h6 n0 f10 hx7) 0 [.int (Ad x7)] [] Bx ?_
  rintro T171 h172 v173 L174 S175 ⟨⟨rfl, e170⟩, -⟩
  rw [e170] at S175; clear e170
  refine Bh C S175 .ge 22 47 (fun (q176 : ¬ x7 < (0 : Int32)) => ?_) (fun (hq : x7 < (0 : Int32)) => False.elim (Cd hx7 hq))
  refine Ac C S175 [(47, .iinc 1 1, 3), (50, .goto (-41), 3), (9, .iload_n 1, 1), (10, .aload_n 0, 1)] 11 #[Ab x, Aa 8, .unset] [.ref x, .int 8] ?_
  refine Ah C S175 hw 57 58 60 60 59 61 19 (At l Z a0 hw G1 G3 x _ _ _ _ h6 n0 f10 f20 f21 f22 f23 f24 O2 O4 P5 rG3) 1 f21 [] [.int 8] Al ?_
  rintro T178 h179 v180 L181 S182 ⟨⟨rfl, e177⟩, -⟩
  rw [e177] at S182; clear e177
  refine Ac C S182 [(14, .if_icmp .ge 39, 3), (53, .aload_n 0, 1)] 54 #[Ab x, Aa 8, .unset] [.ref x] ?_
  refine Ah C S182 hw 57 58 60 60 59 61 19 (At l Z a0 hw G1 G3 x _ _ _ _ h6 n0 f10 f20 f21 f22 f23 f24 O2 O4 P5 rG3) 0 f21 [] [] Al ?_
  rintro T184 h185 v186 L187 S188 ⟨⟨rfl, e183⟩, -⟩
  rw [e183] at S188; clear e183
  refine Ac C S188 [(57, .iconst 1, 1), (58, .isub, 1), (59, .istore_n 1, 1), (60, .aload_n 0, 1)] 61 #[Ab x, Aa 7, .unset] [.ref x] ?_
  refine Ah C S188 hw 57 58 60 60 59 61 19 (At l Z a0 hw G1 G3 x _ _ _ _ h6 n0 f10 f20 f21 f22 f23 f24 O2 O4 P5 rG3) 0 f21 [] [] Al ?_
  rintro T190 h191 v192 L193 S194 ⟨⟨rfl, e189⟩, -⟩
  rw [e189] at S194; clear e189
  refine Ac C S194 [(64, .iconst 4, 1)] 65 #[Ab x, Aa 7, .unset] [.int 4, .int 8] ?_
  refine Dj C S194 (by decide +kernel) (by decide) ?_
  refine own_tso C S194 (df := 53) (lo := 1) (hi := 3) (offs := #[26, 45, 49]) (len := 26) (by decide +kernel) (by decide) (by decide) 119 (by decide) ?_
  refine Ac C S194 [(119, .iconst 0, 1), (120, .istore_n 2, 1), (121, .iload_n 2, 1), (122, .ifCond .le 39, 3)] 161 #[Ab x, Aa 7, Aa 0] [] ?_
  refine Bi C S194 (ow hw 132 rfl) Via.refl (OD.ext f20.2) (by decide +kernel) ?_
  intro T195 S196
  refine Ac C S196 [(164, .aload_n 0, 1)] 165 #[Ab x, Aa 7, Aa 0] [.ref x, .ref DE] ?_
  have f197 := (TK.ext E9)
  have f198 := (Exa.ext E9 DEx)
  have f199 := (Fld.ext E9 DEu)
  have f200 := (Fld.ext E9 DEm)
  have f201 := (Exa.ext E9 s4)
  refine Ah C S196 hw 134 135 137 137 136 139 138 (own_ds8 l Z a0 hw G1 G3 U8 I8 TB TBk DE x _ _ x0 x1 x2 x3 x4 x5 x6 x7 h6 n0 f10 f20 f197 f198 f199 f200 f21 f22 f23 f24 f201 XS hx0 hx1 hx2 hx3 hx4 hx5 hx6 hx7) 0 f198 [.ref x] [] Cb ?_
  rintro T207 h208 v209 L210 S211 ⟨⟨a202, k203, rfl, g204, K205, f206⟩, -⟩
  have o212 : h6.size ≤ a202 := Nat.le_trans (Nat.le_refl _) g204
  have SW213 := rb19 _ _ _ _ [] [a202] S211 ((Keep.refl _ _).trans K205 all0) all0 (allS ⟨o212, f206.lt⟩ all0)
  refine Ck CW SW213 rfl rfl (by decide +kernel) (by decide) (by decide) ?_
  have o215 : h0.size ≤ h6.size := (Nat.le_trans (Nat.le_refl _) E9.1)
  have o214 : h0.size ≤ a202 := Nat.le_trans o215 g204
  exact ⟨a202, k203, rfl, o214, (((Keep.refl _ _).ext E9).trans K205 all0), f206⟩
theorem own_min (hw : Aj a0 Z) (x1 : Int32) (x2 : Int32) (h0 : Heap) (n0 : Nat) (z0 : n0 ≤ h0.size) :
    Af l Z (⟨"java/lang/Math", "min", "(II)I"⟩ : MethodName) jdk_29_method_69_code 2 (some .int) ({ frames := 0, cells := 0, slots := 0, locals := 0 } : Room) n0 #[(.int x1), (.int x2)] h0 (fun v h => v = some (.int (if x2 < x1 then x2 else x1)) ∧ h = h0) := by
  refine Ar #[.val (.int x1), .val (.int x2)] ?_
  intro p e s m below meth c T0 C S0
  refine Ac C S0 [(0, .iload_n 0, 1), (1, .iload_n 1, 1)] 2 #[Aa x1, Aa x2] [.int x2, .int x1] ?_
  refine Bg C S0 .gt 7 9 (fun (q1 : x2 < x1) => ?_) (fun (q2 : ¬ x2 < x1) => ?_)
  · refine Ac C S0 [(9, .iload_n 1, 1)] 10 #[Aa x1, Aa x2] [.int x2] ?_
    refine Bq C S0 (by decide +kernel) (by decide) (by decide) ?_
    exact ⟨by rw [if_pos q1], rfl⟩
  · refine Ac C S0 [(5, .iload_n 0, 1), (6, .goto 4, 3)] 10 #[Aa x1, Aa x2] [.int x1] ?_
    refine Bq C S0 (by decide +kernel) (by decide) (by decide) ?_
    exact ⟨by rw [if_neg q2], rfl⟩
theorem Fi (hw : Aj a0 Z) (a : Int64) (i : Int32) (k : Int32) (h0 : Heap) (n0 : Nat) (z0 : n0 ≤ h0.size) :
    Af l Z (⟨"com/example/torrey/torrey/Base64UrlDecodeWithOptionalPaddingPinLaw", "ub", "(JII)I"⟩ : MethodName) method_3_code 4 (some .int) ({ frames := 0, cells := 0, slots := 0, locals := 0 } : Room) n0 #[(.long a), (.int i), (.int k)] h0 (fun v h => v = some (.int (Et a i k)) ∧ h = h0) := by
  refine Ar #[.val (.long a), .second, .val (.int i), .val (.int k)] ?_
  intro p e s m below meth c T0 C S0
  refine Ac C S0 [(0, .iload_n 2, 1), (1, .iload_n 3, 1)] 2 #[.val (.long a), .second, Aa i, Aa k] [.int k, .int i] ?_
  refine Bg C S0 .lt 5 7 (fun (q1 : i < k) => ?_) (fun (q2 : ¬ i < k) => ?_)
  · refine Ac C S0 [(7, .lload_n 0, 1), (8, .bipush 8, 2), (10, .iload_n 2, 1), (11, .imul, 1), (12, .lushr, 1)] 13 #[.val (.long a), .second, Aa i, Aa k] [.long (Jvm.Free.XT.ushrL a ((8 : Int32) * i))] ?_
    refine Dd C S0 (ow hw 5 rfl) (by decide +kernel) ?_
    refine Ac C S0 [(16, .land, 1), (17, .l2i, 1)] 18 #[.val (.long a), .second, Aa i, Aa k] [.int (((Jvm.Free.XT.ushrL a ((8 : Int32) * i)) &&& 255).toInt32)] ?_
    refine Bq C S0 (by decide +kernel) (by decide) (by decide) ?_
    exact ⟨(by rw [Bj q1]), rfl⟩
  · refine Ac C S0 [(5, .iconst 0, 1)] 6 #[.val (.long a), .second, Aa i, Aa k] [.int 0] ?_
    refine Bq C S0 (by decide +kernel) (by decide) (by decide) ?_
    exact ⟨(by rw [Cj q2]), rfl⟩
theorem own_alp (hw : Aj a0 Z) (x : Int32) (h0 : Heap) (n0 : Nat) (z0 : n0 ≤ h0.size) (hx : Ag x) :
    Af l Z (⟨"com/example/torrey/torrey/Base64UrlDecodeWithOptionalPaddingPinLaw", "alpha", "(I)C"⟩ : MethodName) method_4_code 1 (some .char) ({ frames := 0, cells := 0, slots := 0, locals := 0 } : Room) n0 #[(.int x)] h0 (fun v h => v = some (.int (Ad x)) ∧ h = h0) := by
  refine Ar #[.val (.int x)] ?_
  intro p e s m below meth c T0 C S0
  refine Ac C S0 [(0, .iload_n 0, 1), (1, .bipush 26, 2)] 3 #[Aa x] [.int 26, .int x] ?_
  refine Bg C S0 .ge 9 12 (fun (q1 : ¬ x < (26 : Int32)) => ?_) (fun (q2 : x < (26 : Int32)) => ?_)
  · refine Ac C S0 [(12, .iload_n 0, 1), (13, .bipush 52, 2)] 15 #[Aa x] [.int 52, .int x] ?_
    refine Bg C S0 .ge 12 27 (fun (q3 : ¬ x < (52 : Int32)) => ?_) (fun (q4 : x < (52 : Int32)) => ?_)
    · refine Ac C S0 [(27, .iload_n 0, 1), (28, .bipush 62, 2)] 30 #[Aa x] [.int 62, .int x] ?_
      refine Bg C S0 .ge 12 42 (fun (q5 : ¬ x < (62 : Int32)) => ?_) (fun (q6 : x < (62 : Int32)) => ?_)
      · refine Ac C S0 [(42, .iload_n 0, 1), (43, .bipush 62, 2)] 45 #[Aa x] [.int 62, .int x] ?_
        refine Bg C S0 .ne 6 51 (fun (q7 : ¬ x = (62 : Int32)) => ?_) (fun (q8 : x = (62 : Int32)) => ?_)
        · refine Ac C S0 [(51, .bipush 95, 2)] 53 #[Aa x] [.int 95] ?_
          rw [show (95 : Int32) = (Ad x) from own_c5 hx q5 q7]
          refine Ds C S0 (by decide +kernel) (Ai hx) (by decide) (by decide) ?_
          exact ⟨rfl, rfl⟩
        · refine Ac C S0 [(48, .bipush 45, 2)] 50 #[Aa x] [.int 45] ?_
          rw [show (45 : Int32) = (Ad x) from own_c4 hx q8]
          refine Ds C S0 (by decide +kernel) (Ai hx) (by decide) (by decide) ?_
          exact ⟨rfl, rfl⟩
      · refine Ac C S0 [(33, .bipush 48, 2), (35, .iload_n 0, 1), (36, .bipush 52, 2), (38, .isub, 1), (39, .iadd, 1), (40, .i2c, 1)] 41 #[Aa x] [.int (((48 : Int32) + (x - (52 : Int32))).toUInt32.toUInt16.toUInt32.toInt32)] ?_
        rw [show ((48 : Int32) + (x - (52 : Int32))).toUInt32.toUInt16.toUInt32.toInt32 = (Ad x) from own_c3 hx q3 q6]
        refine Ds C S0 (by decide +kernel) (Ai hx) (by decide) (by decide) ?_
        exact ⟨rfl, rfl⟩
    · refine Ac C S0 [(18, .bipush 97, 2), (20, .iload_n 0, 1), (21, .bipush 26, 2), (23, .isub, 1), (24, .iadd, 1), (25, .i2c, 1)] 26 #[Aa x] [.int (((97 : Int32) + (x - (26 : Int32))).toUInt32.toUInt16.toUInt32.toInt32)] ?_
      rw [show ((97 : Int32) + (x - (26 : Int32))).toUInt32.toUInt16.toUInt32.toInt32 = (Ad x) from own_c2 hx q1 q4]
      refine Ds C S0 (by decide +kernel) (Ai hx) (by decide) (by decide) ?_
      exact ⟨rfl, rfl⟩
  · refine Ac C S0 [(6, .bipush 65, 2), (8, .iload_n 0, 1), (9, .iadd, 1), (10, .i2c, 1)] 11 #[Aa x] [.int (((65 : Int32) + x).toUInt32.toUInt16.toUInt32.toInt32)] ?_
    rw [show ((65 : Int32) + x).toUInt32.toUInt16.toUInt32.toInt32 = (Ad x) from own_c1 hx q2]
    refine Ds C S0 (by decide +kernel) (Ai hx) (by decide) (by decide) ?_
    exact ⟨rfl, rfl⟩
theorem Es (hw : Aj a0 Z) (a : Addr) (ak : ClassId) (vs : List Value) (j : Int32) (m_ : Int32) (x : Int32) (h0 : Heap) (n0 : Nat) (z0 : n0 ≤ h0.size) (aK : Arv Z h0 a ak .int 8 vs (.int 0)) (hx : Ag x) (hi : ¬ j < 0 ∧ j < (8 : Int32)) (hv : vs.getD j.toNatClampNeg (.int 0) = .int x) :
    Af l Z (⟨"com/example/torrey/torrey/Base64UrlDecodeWithOptionalPaddingPinLaw", "ch", "([III)C"⟩ : MethodName) method_5_code 3 (some .char) ({ frames := 1, cells := 0, slots := 0, locals := 12 } : Room) n0 #[(.ref a), (.int j), (.int m_)] h0 (fun v h => v = some (.int (Am x j m_)) ∧ h = h0) := by
  refine Ar #[.val (.ref a), .val (.int j), .val (.int m_)] ?_
  intro p e s m below meth c T0 C S0
  refine Ac C S0 [(0, .iload_n 1, 1), (1, .iload_n 2, 1)] 2 #[Ab a, Aa j, Aa m_] [.int m_, .int j] ?_
  refine Bg C S0 .ge 10 12 (fun (q1 : ¬ j < m_) => ?_) (fun (q2 : j < m_) => ?_)
  · refine Ac C S0 [(12, .bipush 61, 2)] 14 #[Ab a, Aa j, Aa m_] [.int 61] ?_
    refine Ds C S0 (by decide +kernel) rfl (by decide) (by decide) ?_
    exact ⟨(by rw [Bz q1]), rfl⟩
  · refine Ac C S0 [(5, .aload_n 0, 1), (6, .iload_n 1, 1)] 7 #[Ab a, Aa j, Aa m_] [.int j, .ref a] ?_
    refine Bl C S0 aK hi (.int x) hv (by decide +kernel) ?_
    refine Ae C S0 hw 11 12 3 13 (own_alp l Z a0 hw x h0 n0 z0 hx) 0 [.int x] [] Be ?_
    rintro T4 h5 v6 L7 S8 ⟨⟨rfl, e3⟩, -⟩
    rw [e3] at S8; clear e3
    refine Ds C S8 (by decide +kernel) (Ai hx) (by decide) (by decide) ?_
    exact ⟨(by rw [Bp q2]), rfl⟩
theorem El : parseMethodDescriptor "([C)V" = some ⟨[(.array .char)], none⟩ := by decide +kernel
theorem own_st0 (hw : Aj a0 Z) (hEL : EW Z a0 Ca) (wS : ∀ a ∈ Bundle.stringAtoms, a.before a0 Z = true) (G1 : Int32) (G3 : Value) (U8 : Addr) (I8 : Addr) (TB : Addr) (DE : Addr) (a : Addr) (ak : ClassId) (c0 : Int32) (c1 : Int32) (c2 : Int32) (c3 : Int32) (c4 : Int32) (c5 : Int32) (c6 : Int32) (c7 : Int32) (h0 : Heap) (n0 : Nat) (z0 : n0 ≤ h0.size) (X00 : Old Z n0 h0) (aK : Arv Z h0 a ak .char (8 : Int32) ([(.int c0), (.int c1), (.int c2), (.int c3), (.int c4), (.int c5), (.int c6), (.int c7)]) (.int 0)) (XS : Ax Z n0 G1 G3 U8 I8 TB DE) :
    Cf l Z Ca (⟨"com/example/torrey/torrey/Base64UrlDecodeWithOptionalPaddingPinLaw", "str", "([CI)Ljava/lang/String;"⟩ : MethodName) method_7_code 2 (some (.object "java/lang/String")) ({ frames := 3, cells := 6, slots := 12, locals := 43 } : Room) n0 #[(.ref a), (.int 0)] h0 [] (fun v h => ∃ r : Addr, ∃ rt : Addr, ∃ rtk : ClassId, v = some (.ref r) ∧ h0.size ≤ r ∧ Keep h0 h [] ∧ Exa Z h r "java/lang/String" ∧ Fld Z h r "java/lang/String" "value" "[B" (.ref rt) ∧ Fld Z h r "java/lang/String" "coder" "B" (.int 0) ∧ Arv Z h rt rtk .byte (0 : Int32) ([]) (.int 0) ∧ Exa Z h rt "[B") := by
  refine Cm hEL wS (by decide +kernel) #[.val (.ref a), .val (.int 0)] (fun m => by first | (simp [entryFrame, mkF, argsToLocals, Value.category]; done) | rfl) ?_
  intro p e s m below meth c T0 CW SW0
  have XS_ := XS
  obtain ⟨O2, O4, P5, rG3, OU, OI, OT, OD, hUI, TBlt, DElt⟩ := XS_
  refine Av CW SW0 ?_
  intro vm1 C S2 rb3
  refine Ac C S2 [(0, .iload_n 1, 1), (1, .ifCond .gt 14, 3)] 4 #[Ab a, Aa 0] [] ?_
  refine Dq C S2 (ow hw 17 rfl) (ow hw 18 rfl) (ow hw 19 rfl) (by decide +kernel) (by decide) (by decide) ?_
  intro T4 h6 a7 S5 g8 E9 x10 D11
  have f12 : Fld Z h6 a7 "java/lang/String" "coder" "B" (.int 0) := D11 (ty := .byte) (Or.inr (ow hw 43 rfl)) Cx
  have f13 : Fld Z h6 a7 "java/lang/String" "value" "[B" .null := D11 (ty := (.array .byte)) (Or.inr (ow hw 45 rfl)) Cy
  refine Ac C S5 [(7, .dup, 1), (8, .iconst 0, 1)] 9 #[Ab a, Aa 0] [.int 0, .ref a7, .ref a7] ?_
  refine Dr C S5 (aty := .char) (ow hw 7 rfl) (by decide +kernel) (by decide) 0 (by decide) (by decide) (by decide) (by decide) ?_
  intro T14 h16 a17 k18 S15 g19 E20 f21 
  have f22 : Arv Z h16 a17 k18 .char (0 : Int32) ([]) (.int 0) := Arv.pad f21 (pad_rep [] (.int 0) 0)
  have o24 : h0.size ≤ h6.size := (Nat.le_trans (Nat.le_refl _) E9.1)
  have o23 : h0.size ≤ a17 := by rw [g19]; exact o24
  have o25 : h0.size ≤ a7 := by rw [g8]; exact (Nat.le_refl _)
  have f26 : a7 < h16.size := (Nat.lt_of_lt_of_le x10.lt E20.1)
  have SW27 := rb3 _ _ _ _ [] [a7, a17] S15 (((Keep.refl _ _).ext E9).ext E20) all0 (allS ⟨o25, f26⟩ (allS ⟨o23, f22.lt⟩ all0))
  have f28 := (Exa.ext E20 x10)
  have f29 := (Fld.ext E20 f13)
  have f30 := (Fld.ext E20 f12)
  have f31 : n0 ≤ h16.size := (Nat.le_trans (Nat.le_trans z0 E9.1) E20.1)
  have g32 : n0 ≤ a7 := by rw [g8]; exact z0
  refine own_callIW CW SW27 rfl (ow hw 20 rfl) (ow hw 21 rfl) (ow hw 19 rfl) (ow hw 22 rfl) (by decide) (own_se1 l Z a0 hw hEL wS a7 a17 _ _ (.int 0) h16 n0 f31 g32 f28 f29 f30 f22) (allS (Dc 0) all0) 1 (by decide) (by decide) [(.ref a17)] [(.ref a7)] rfl El rfl rfl rfl (Ak rfl) (by decide) (by decide) (by decide +kernel) ?_
  rintro T46 h47 v48 SW49 hg50 ⟨a33, k34, rfl, K35, f36, f37, f38, f39, f40⟩
  refine Ck CW SW49 rfl rfl (by decide +kernel) (by decide) (by decide) ?_
  exact ⟨a7, a33, k34, rfl, o25, ((((Keep.refl _ _).ext E9).ext E20).trans K35 (allS (Or.inr o25) all0)), f36, f38, f37, f39, f40⟩
theorem own_st2 (hw : Aj a0 Z) (G1 : Int32) (G3 : Value) (U8 : Addr) (I8 : Addr) (TB : Addr) (DE : Addr) (a : Addr) (ak : ClassId) (c0 : Int32) (c1 : Int32) (c2 : Int32) (c3 : Int32) (c4 : Int32) (c5 : Int32) (c6 : Int32) (c7 : Int32) (h0 : Heap) (n0 : Nat) (z0 : n0 ≤ h0.size) (X00 : Old Z n0 h0) (aK : Arv Z h0 a ak .char (8 : Int32) ([(.int c0), (.int c1), (.int c2), (.int c3), (.int c4), (.int c5), (.int c6), (.int c7)]) (.int 0)) (XS : Ax Z n0 G1 G3 U8 I8 TB DE) (gc0 : ¬ (255 : Int32) < c0) (uc0 : c0.toUInt32.toUInt16.toUInt32.toInt32 = c0) (gc1 : ¬ (255 : Int32) < c1) (uc1 : c1.toUInt32.toUInt16.toUInt32.toInt32 = c1) :
    Af l Z (⟨"com/example/torrey/torrey/Base64UrlDecodeWithOptionalPaddingPinLaw", "str", "([CI)Ljava/lang/String;"⟩ : MethodName) method_7_code 2 (some (.object "java/lang/String")) ({ frames := 4, cells := 3, slots := 8, locals := 66 } : Room) n0 #[(.ref a), (.int 2)] h0 (fun v h => ∃ r : Addr, ∃ rt : Addr, ∃ rtk : ClassId, v = some (.ref r) ∧ h0.size ≤ r ∧ Keep h0 h [] ∧ Exa Z h r "java/lang/String" ∧ Fld Z h r "java/lang/String" "value" "[B" (.ref rt) ∧ Fld Z h r "java/lang/String" "coder" "B" (.int 0) ∧ Arv Z h rt rtk .byte (2 : Int32) ([(.int c0.toInt8.toInt32), (.int c1.toInt8.toInt32)]) (.int 0) ∧ Exa Z h rt "[B") := by
  refine Ar #[.val (.ref a), .val (.int 2)] ?_
  intro p e s m below meth c T0 C S0
  have XS_ := XS
  obtain ⟨O2, O4, P5, rG3, OU, OI, OT, OD, hUI, TBlt, DElt⟩ := XS_
  refine Ac C S0 [(0, .iload_n 1, 1), (1, .ifCond .gt 14, 3), (15, .iload_n 1, 1), (16, .iconst 1, 1), (17, .if_icmp .ne 20, 3), (37, .iload_n 1, 1), (38, .iconst 2, 1), (39, .if_icmp .ne 26, 3)] 42 #[Ab a, Aa 2] [] ?_
  refine Dq C S0 (ow hw 17 rfl) (ow hw 18 rfl) (ow hw 19 rfl) (by decide +kernel) (by decide) (by decide) ?_
  intro T1 h3 a4 S2 g5 E6 x7 D8
  have f9 : Fld Z h3 a4 "java/lang/String" "coder" "B" (.int 0) := D8 (ty := .byte) (Or.inr (ow hw 43 rfl)) Cx
  have f10 : Fld Z h3 a4 "java/lang/String" "value" "[B" .null := D8 (ty := (.array .byte)) (Or.inr (ow hw 45 rfl)) Cy
  refine Ac C S2 [(45, .dup, 1), (46, .iconst 2, 1)] 47 #[Ab a, Aa 2] [.int 2, .ref a4, .ref a4] ?_
  refine Dr C S2 (aty := .char) (ow hw 7 rfl) (by decide +kernel) (by decide) 2 (by decide) (by decide) (by decide) (by decide) ?_
  intro T11 h13 a14 k15 S12 g16 E17 f18 
  have f19 : Arv Z h13 a14 k15 .char (2 : Int32) ([(.int 0), (.int 0)]) (.int 0) := Arv.pad f18 (pad_rep [] (.int 0) 2)
  refine Ac C S12 [(49, .dup, 1), (50, .iconst 0, 1), (51, .aload_n 0, 1), (52, .iconst 0, 1)] 53 #[Ab a, Aa 2] [.int 0, .ref a, .int 0, .ref a14, .ref a14, .ref a4, .ref a4] ?_
  have f20 := ((aK.ext E6).ext E17)
  refine Ao C S12 f20 ⟨(by decide), (by decide)⟩ (.int c0) rfl (by decide +kernel) ?_
  have f21 : n0 ≤ h3.size := (Nat.le_trans z0 E6.1)
  have g22 : n0 ≤ a14 := by rw [g16]; exact f21
  refine Aw C S12 f19 ⟨(by decide), (by decide)⟩ 0 rfl (Ak rfl) c0 uc0 g22 (by decide +kernel) ?_
  intro T23 h25 S24 W26 f27
  have f28 : Arv Z h25 a14 k15 .char (2 : Int32) ([(.int c0), (.int 0)]) (.int 0) := f27
  refine Ac C S24 [(55, .dup, 1), (56, .iconst 1, 1), (57, .aload_n 0, 1), (58, .iconst 1, 1)] 59 #[Ab a, Aa 2] [.int 1, .ref a, .int 1, .ref a14, .ref a14, .ref a4, .ref a4] ?_
  have f29 : a < h3.size := (Nat.lt_of_lt_of_le aK.lt E6.1)
  have n30 : a ≠ a14 := by rw [g16]; exact Nat.ne_of_lt f29
  have f31 := (f20.other W26 n30)
  refine Ao C S24 f31 ⟨(by decide), (by decide)⟩ (.int c1) rfl (by decide +kernel) ?_
  refine Aw C S24 f28 ⟨(by decide), (by decide)⟩ 1 rfl (Ak rfl) c1 uc1 g22 (by decide +kernel) ?_
  intro T32 h34 S33 W35 f36
  have f37 : Arv Z h34 a14 k15 .char (2 : Int32) ([(.int c0), (.int c1)]) (.int 0) := f36
  have f38 := ((((X00.ext E6).ext E17).wr W26 g22).wr W35 g22)
  have f39 := (Exa.wr W35 (Exa.wr W26 (Exa.ext E17 x7)))
  have n40 : a4 ≠ a14 := by rw [g16]; exact Nat.ne_of_lt x7.lt
  have f41 := (Fld.other W35 (Fld.other W26 (Fld.ext E17 f10) (Or.inl n40)) (Or.inl n40))
  have f42 := (Fld.other W35 (Fld.other W26 (Fld.ext E17 f9) (Or.inl n40)) (Or.inl n40))
  have f43 : n0 ≤ h34.size := (by rw [W35.size]; exact (by rw [W26.size]; exact (Nat.le_trans f21 E17.1)))
  have g44 : n0 ≤ a4 := by rw [g5]; exact z0
  refine Cs C S33 rfl (ow hw 20 rfl) (ow hw 21 rfl) (ow hw 22 rfl) (by decide) (Af.pay (own_s1i2 l Z a0 hw G1 G3 U8 I8 TB DE a4 a14 _ _ _ h34 n0 f43 g44 f38 f39 f41 f42 f37 (Ne.symm n40) XS gc0 gc1) C 1 (ow hw 22 rfl) (ow hw 19 rfl) (by decide) (by decide)) (fun _ _ _ q => q.2) [.ref a14] [.ref a4] rfl El rfl rfl rfl (Ak rfl) (by decide) (by decide) (by decide +kernel) ?_
  rintro T54 h55 v56 L57 S58 ⟨⟨a45, k46, rfl, g47, K48, f49, f50, f51, f52, f53⟩, -⟩
  refine Az C S58 rfl rfl (by decide +kernel) (by decide) (by decide) ?_
  have o59 : h0.size ≤ a4 := by rw [g5]; exact (Nat.le_refl _)
  have o61 : h0.size ≤ h3.size := (Nat.le_trans (Nat.le_refl _) E6.1)
  have o60 : h0.size ≤ a14 := by rw [g16]; exact o61
  exact ⟨a4, a45, k46, rfl, o59, ((((((Keep.refl _ _).ext E6).ext E17).wr W26 (Or.inr o60)).wr W35 (Or.inr o60)).trans K48 (allS (Or.inr o59) all0)), f49, f50, f51, f52, f53⟩
theorem own_st3 (hw : Aj a0 Z) (G1 : Int32) (G3 : Value) (U8 : Addr) (I8 : Addr) (TB : Addr) (DE : Addr) (a : Addr) (ak : ClassId) (c0 : Int32) (c1 : Int32) (c2 : Int32) (c3 : Int32) (c4 : Int32) (c5 : Int32) (c6 : Int32) (c7 : Int32) (h0 : Heap) (n0 : Nat) (z0 : n0 ≤ h0.size) (X00 : Old Z n0 h0) (aK : Arv Z h0 a ak .char (8 : Int32) ([(.int c0), (.int c1), (.int c2), (.int c3), (.int c4), (.int c5), (.int c6), (.int c7)]) (.int 0)) (XS : Ax Z n0 G1 G3 U8 I8 TB DE) (gc0 : ¬ (255 : Int32) < c0) (uc0 : c0.toUInt32.toUInt16.toUInt32.toInt32 = c0) (gc1 : ¬ (255 : Int32) < c1) (uc1 : c1.toUInt32.toUInt16.toUInt32.toInt32 = c1) (gc2 : ¬ (255 : Int32) < c2) (uc2 : c2.toUInt32.toUInt16.toUInt32.toInt32 = c2) :
    Af l Z (⟨"com/example/torrey/torrey/Base64UrlDecodeWithOptionalPaddingPinLaw", "str", "([CI)Ljava/lang/String;"⟩ : MethodName) method_7_code 2 (some (.object "java/lang/String")) ({ frames := 4, cells := 3, slots := 10, locals := 66 } : Room) n0 #[(.ref a), (.int 3)] h0 (fun v h => ∃ r : Addr, ∃ rt : Addr, ∃ rtk : ClassId, v = some (.ref r) ∧ h0.size ≤ r ∧ Keep h0 h [] ∧ Exa Z h r "java/lang/String" ∧ Fld Z h r "java/lang/String" "value" "[B" (.ref rt) ∧ Fld Z h r "java/lang/String" "coder" "B" (.int 0) ∧ Arv Z h rt rtk .byte (3 : Int32) ([(.int c0.toInt8.toInt32), (.int c1.toInt8.toInt32), (.int c2.toInt8.toInt32)]) (.int 0) ∧ Exa Z h rt "[B") := by
  refine Ar #[.val (.ref a), .val (.int 3)] ?_
  intro p e s m below meth c T0 C S0
  have XS_ := XS
  obtain ⟨O2, O4, P5, rG3, OU, OI, OT, OD, hUI, TBlt, DElt⟩ := XS_
  refine Ac C S0 [(0, .iload_n 1, 1), (1, .ifCond .gt 14, 3), (15, .iload_n 1, 1), (16, .iconst 1, 1), (17, .if_icmp .ne 20, 3), (37, .iload_n 1, 1), (38, .iconst 2, 1), (39, .if_icmp .ne 26, 3), (65, .iload_n 1, 1), (66, .iconst 3, 1), (67, .if_icmp .ne 32, 3)] 70 #[Ab a, Aa 3] [] ?_
  refine Dq C S0 (ow hw 17 rfl) (ow hw 18 rfl) (ow hw 19 rfl) (by decide +kernel) (by decide) (by decide) ?_
  intro T1 h3 a4 S2 g5 E6 x7 D8
  have f9 : Fld Z h3 a4 "java/lang/String" "coder" "B" (.int 0) := D8 (ty := .byte) (Or.inr (ow hw 43 rfl)) Cx
  have f10 : Fld Z h3 a4 "java/lang/String" "value" "[B" .null := D8 (ty := (.array .byte)) (Or.inr (ow hw 45 rfl)) Cy
  refine Ac C S2 [(73, .dup, 1), (74, .iconst 3, 1)] 75 #[Ab a, Aa 3] [.int 3, .ref a4, .ref a4] ?_
  refine Dr C S2 (aty := .char) (ow hw 7 rfl) (by decide +kernel) (by decide) 3 (by decide) (by decide) (by decide) (by decide) ?_
  intro T11 h13 a14 k15 S12 g16 E17 f18 
  have f19 : Arv Z h13 a14 k15 .char (3 : Int32) ([(.int 0), (.int 0), (.int 0)]) (.int 0) := Arv.pad f18 (pad_rep [] (.int 0) 3)
  refine Ac C S12 [(77, .dup, 1), (78, .iconst 0, 1), (79, .aload_n 0, 1), (80, .iconst 0, 1)] 81 #[Ab a, Aa 3] [.int 0, .ref a, .int 0, .ref a14, .ref a14, .ref a4, .ref a4] ?_
  have f20 := ((aK.ext E6).ext E17)
  refine Ao C S12 f20 ⟨(by decide), (by decide)⟩ (.int c0) rfl (by decide +kernel) ?_
  have f21 : n0 ≤ h3.size := (Nat.le_trans z0 E6.1)
  have g22 : n0 ≤ a14 := by rw [g16]; exact f21
  refine Aw C S12 f19 ⟨(by decide), (by decide)⟩ 0 rfl (Ak rfl) c0 uc0 g22 (by decide +kernel) ?_
  intro T23 h25 S24 W26 f27
  have f28 : Arv Z h25 a14 k15 .char (3 : Int32) ([(.int c0), (.int 0), (.int 0)]) (.int 0) := f27
  refine Ac C S24 [(83, .dup, 1), (84, .iconst 1, 1), (85, .aload_n 0, 1), (86, .iconst 1, 1)] 87 #[Ab a, Aa 3] [.int 1, .ref a, .int 1, .ref a14, .ref a14, .ref a4, .ref a4] ?_
  have f29 : a < h3.size := (Nat.lt_of_lt_of_le aK.lt E6.1)
  have n30 : a ≠ a14 := by rw [g16]; exact Nat.ne_of_lt f29
  have f31 := (f20.other W26 n30)
  refine Ao C S24 f31 ⟨(by decide), (by decide)⟩ (.int c1) rfl (by decide +kernel) ?_
  refine Aw C S24 f28 ⟨(by decide), (by decide)⟩ 1 rfl (Ak rfl) c1 uc1 g22 (by decide +kernel) ?_
  intro T32 h34 S33 W35 f36
  have f37 : Arv Z h34 a14 k15 .char (3 : Int32) ([(.int c0), (.int c1), (.int 0)]) (.int 0) := f36
  refine Ac C S33 [(89, .dup, 1), (90, .iconst 2, 1), (91, .aload_n 0, 1), (92, .iconst 2, 1)] 93 #[Ab a, Aa 3] [.int 2, .ref a, .int 2, .ref a14, .ref a14, .ref a4, .ref a4] ?_
  have f38 := (f31.other W35 n30)
  refine Ao C S33 f38 ⟨(by decide), (by decide)⟩ (.int c2) rfl (by decide +kernel) ?_
  refine Aw C S33 f37 ⟨(by decide), (by decide)⟩ 2 rfl (Ak rfl) c2 uc2 g22 (by decide +kernel) ?_
  intro T39 h41 S40 W42 f43
  have f44 : Arv Z h41 a14 k15 .char (3 : Int32) ([(.int c0), (.int c1), (.int c2)]) (.int 0) := f43
  have f45 := (((((X00.ext E6).ext E17).wr W26 g22).wr W35 g22).wr W42 g22)
  have f46 := (Exa.wr W42 (Exa.wr W35 (Exa.wr W26 (Exa.ext E17 x7))))
  have n47 : a4 ≠ a14 := by rw [g16]; exact Nat.ne_of_lt x7.lt
  have f48 := (Fld.other W42 (Fld.other W35 (Fld.other W26 (Fld.ext E17 f10) (Or.inl n47)) (Or.inl n47)) (Or.inl n47))
  have f49 := (Fld.other W42 (Fld.other W35 (Fld.other W26 (Fld.ext E17 f9) (Or.inl n47)) (Or.inl n47)) (Or.inl n47))
  have f50 : n0 ≤ h41.size := (by rw [W42.size]; exact (by rw [W35.size]; exact (by rw [W26.size]; exact (Nat.le_trans f21 E17.1))))
  have g51 : n0 ≤ a4 := by rw [g5]; exact z0
  refine Cs C S40 rfl (ow hw 20 rfl) (ow hw 21 rfl) (ow hw 22 rfl) (by decide) (Af.pay (own_s1i3 l Z a0 hw G1 G3 U8 I8 TB DE a4 a14 _ _ _ _ h41 n0 f50 g51 f45 f46 f48 f49 f44 (Ne.symm n47) XS gc0 gc1 gc2) C 1 (ow hw 22 rfl) (ow hw 19 rfl) (by decide) (by decide)) (fun _ _ _ q => q.2) [.ref a14] [.ref a4] rfl El rfl rfl rfl (Ak rfl) (by decide) (by decide) (by decide +kernel) ?_
  rintro T61 h62 v63 L64 S65 ⟨⟨a52, k53, rfl, g54, K55, f56, f57, f58, f59, f60⟩, -⟩
  refine Az C S65 rfl rfl (by decide +kernel) (by decide) (by decide) ?_
  have o66 : h0.size ≤ a4 := by rw [g5]; exact (Nat.le_refl _)
  have o68 : h0.size ≤ h3.size := (Nat.le_trans (Nat.le_refl _) E6.1)
  have o67 : h0.size ≤ a14 := by rw [g16]; exact o68
  exact ⟨a4, a52, k53, rfl, o66, (((((((Keep.refl _ _).ext E6).ext E17).wr W26 (Or.inr o67)).wr W35 (Or.inr o67)).wr W42 (Or.inr o67)).trans K55 (allS (Or.inr o66) all0)), f56, f57, f58, f59, f60⟩
theorem own_st4 (hw : Aj a0 Z) (G1 : Int32) (G3 : Value) (U8 : Addr) (I8 : Addr) (TB : Addr) (DE : Addr) (a : Addr) (ak : ClassId) (c0 : Int32) (c1 : Int32) (c2 : Int32) (c3 : Int32) (c4 : Int32) (c5 : Int32) (c6 : Int32) (c7 : Int32) (h0 : Heap) (n0 : Nat) (z0 : n0 ≤ h0.size) (X00 : Old Z n0 h0) (aK : Arv Z h0 a ak .char (8 : Int32) ([(.int c0), (.int c1), (.int c2), (.int c3), (.int c4), (.int c5), (.int c6), (.int c7)]) (.int 0)) (XS : Ax Z n0 G1 G3 U8 I8 TB DE) (gc0 : ¬ (255 : Int32) < c0) (uc0 : c0.toUInt32.toUInt16.toUInt32.toInt32 = c0) (gc1 : ¬ (255 : Int32) < c1) (uc1 : c1.toUInt32.toUInt16.toUInt32.toInt32 = c1) (gc2 : ¬ (255 : Int32) < c2) (uc2 : c2.toUInt32.toUInt16.toUInt32.toInt32 = c2) (gc3 : ¬ (255 : Int32) < c3) (uc3 : c3.toUInt32.toUInt16.toUInt32.toInt32 = c3) :
    Af l Z (⟨"com/example/torrey/torrey/Base64UrlDecodeWithOptionalPaddingPinLaw", "str", "([CI)Ljava/lang/String;"⟩ : MethodName) method_7_code 2 (some (.object "java/lang/String")) ({ frames := 4, cells := 3, slots := 12, locals := 66 } : Room) n0 #[(.ref a), (.int 4)] h0 (fun v h => ∃ r : Addr, ∃ rt : Addr, ∃ rtk : ClassId, v = some (.ref r) ∧ h0.size ≤ r ∧ Keep h0 h [] ∧ Exa Z h r "java/lang/String" ∧ Fld Z h r "java/lang/String" "value" "[B" (.ref rt) ∧ Fld Z h r "java/lang/String" "coder" "B" (.int 0) ∧ Arv Z h rt rtk .byte (4 : Int32) ([(.int c0.toInt8.toInt32), (.int c1.toInt8.toInt32), (.int c2.toInt8.toInt32), (.int c3.toInt8.toInt32)]) (.int 0) ∧ Exa Z h rt "[B") := by
  refine Ar #[.val (.ref a), .val (.int 4)] ?_
  intro p e s m below meth c T0 C S0
  have XS_ := XS
  obtain ⟨O2, O4, P5, rG3, OU, OI, OT, OD, hUI, TBlt, DElt⟩ := XS_
  refine Ac C S0 [(0, .iload_n 1, 1), (1, .ifCond .gt 14, 3), (15, .iload_n 1, 1), (16, .iconst 1, 1), (17, .if_icmp .ne 20, 3), (37, .iload_n 1, 1), (38, .iconst 2, 1), (39, .if_icmp .ne 26, 3), (65, .iload_n 1, 1), (66, .iconst 3, 1), (67, .if_icmp .ne 32, 3), (99, .iload_n 1, 1), (100, .iconst 4, 1), (101, .if_icmp .ne 38, 3)] 104 #[Ab a, Aa 4] [] ?_
  refine Dq C S0 (ow hw 17 rfl) (ow hw 18 rfl) (ow hw 19 rfl) (by decide +kernel) (by decide) (by decide) ?_
  intro T1 h3 a4 S2 g5 E6 x7 D8
  have f9 : Fld Z h3 a4 "java/lang/String" "coder" "B" (.int 0) := D8 (ty := .byte) (Or.inr (ow hw 43 rfl)) Cx
  have f10 : Fld Z h3 a4 "java/lang/String" "value" "[B" .null := D8 (ty := (.array .byte)) (Or.inr (ow hw 45 rfl)) Cy
  refine Ac C S2 [(107, .dup, 1), (108, .iconst 4, 1)] 109 #[Ab a, Aa 4] [.int 4, .ref a4, .ref a4] ?_
  refine Dr C S2 (aty := .char) (ow hw 7 rfl) (by decide +kernel) (by decide) 4 (by decide) (by decide) (by decide) (by decide) ?_
  intro T11 h13 a14 k15 S12 g16 E17 f18 
  have f19 : Arv Z h13 a14 k15 .char (4 : Int32) ([(.int 0), (.int 0), (.int 0), (.int 0)]) (.int 0) := Arv.pad f18 (pad_rep [] (.int 0) 4)
  refine Ac C S12 [(111, .dup, 1), (112, .iconst 0, 1), (113, .aload_n 0, 1), (114, .iconst 0, 1)] 115 #[Ab a, Aa 4] [.int 0, .ref a, .int 0, .ref a14, .ref a14, .ref a4, .ref a4] ?_
  have f20 := ((aK.ext E6).ext E17)
  refine Ao C S12 f20 ⟨(by decide), (by decide)⟩ (.int c0) rfl (by decide +kernel) ?_
  have f21 : n0 ≤ h3.size := (Nat.le_trans z0 E6.1)
  have g22 : n0 ≤ a14 := by rw [g16]; exact f21
  refine Aw C S12 f19 ⟨(by decide), (by decide)⟩ 0 rfl (Ak rfl) c0 uc0 g22 (by decide +kernel) ?_
  intro T23 h25 S24 W26 f27
  have f28 : Arv Z h25 a14 k15 .char (4 : Int32) ([(.int c0), (.int 0), (.int 0), (.int 0)]) (.int 0) := f27
  refine Ac C S24 [(117, .dup, 1), (118, .iconst 1, 1), (119, .aload_n 0, 1), (120, .iconst 1, 1)] 121 #[Ab a, Aa 4] [.int 1, .ref a, .int 1, .ref a14, .ref a14, .ref a4, .ref a4] ?_
  have f29 : a < h3.size := (Nat.lt_of_lt_of_le aK.lt E6.1)
  have n30 : a ≠ a14 := by rw [g16]; exact Nat.ne_of_lt f29
  have f31 := (f20.other W26 n30)
  refine Ao C S24 f31 ⟨(by decide), (by decide)⟩ (.int c1) rfl (by decide +kernel) ?_
  refine Aw C S24 f28 ⟨(by decide), (by decide)⟩ 1 rfl (Ak rfl) c1 uc1 g22 (by decide +kernel) ?_
  intro T32 h34 S33 W35 f36
  have f37 : Arv Z h34 a14 k15 .char (4 : Int32) ([(.int c0), (.int c1), (.int 0), (.int 0)]) (.int 0) := f36
  refine Ac C S33 [(123, .dup, 1), (124, .iconst 2, 1), (125, .aload_n 0, 1), (126, .iconst 2, 1)] 127 #[Ab a, Aa 4] [.int 2, .ref a, .int 2, .ref a14, .ref a14, .ref a4, .ref a4] ?_
  have f38 := (f31.other W35 n30)
  refine Ao C S33 f38 ⟨(by decide), (by decide)⟩ (.int c2) rfl (by decide +kernel) ?_
  refine Aw C S33 f37 ⟨(by decide), (by decide)⟩ 2 rfl (Ak rfl) c2 uc2 g22 (by decide +kernel) ?_
  intro T39 h41 S40 W42 f43
  have f44 : Arv Z h41 a14 k15 .char (4 : Int32) ([(.int c0), (.int c1), (.int c2), (.int 0)]) (.int 0) := f43
  refine Ac C S40 [(129, .dup, 1), (130, .iconst 3, 1), (131, .aload_n 0, 1), (132, .iconst 3, 1)] 133 #[Ab a, Aa 4] [.int 3, .ref a, .int 3, .ref a14, .ref a14, .ref a4, .ref a4] ?_
  have f45 := (f38.other W42 n30)
  refine Ao C S40 f45 ⟨(by decide), (by decide)⟩ (.int c3) rfl (by decide +kernel) ?_
  refine Aw C S40 f44 ⟨(by decide), (by decide)⟩ 3 rfl (Ak rfl) c3 uc3 g22 (by decide +kernel) ?_
  intro T46 h48 S47 W49 f50
  have f51 : Arv Z h48 a14 k15 .char (4 : Int32) ([(.int c0), (.int c1), (.int c2), (.int c3)]) (.int 0) := f50
  have f52 := ((((((X00.ext E6).ext E17).wr W26 g22).wr W35 g22).wr W42 g22).wr W49 g22)
  have f53 := (Exa.wr W49 (Exa.wr W42 (Exa.wr W35 (Exa.wr W26 (Exa.ext E17 x7)))))
  have n54 : a4 ≠ a14 := by rw [g16]; exact Nat.ne_of_lt x7.lt
  have f55 := (Fld.other W49 (Fld.other W42 (Fld.other W35 (Fld.other W26 (Fld.ext E17 f10) (Or.inl n54)) (Or.inl n54)) (Or.inl n54)) (Or.inl n54))
  have f56 := (Fld.other W49 (Fld.other W42 (Fld.other W35 (Fld.other W26 (Fld.ext E17 f9) (Or.inl n54)) (Or.inl n54)) (Or.inl n54)) (Or.inl n54))
  have f57 : n0 ≤ h48.size := (by rw [W49.size]; exact (by rw [W42.size]; exact (by rw [W35.size]; exact (by rw [W26.size]; exact (Nat.le_trans f21 E17.1)))))
  have g58 : n0 ≤ a4 := by rw [g5]; exact z0
  refine Cs C S47 rfl (ow hw 20 rfl) (ow hw 21 rfl) (ow hw 22 rfl) (by decide) (Af.pay (own_s1i4 l Z a0 hw G1 G3 U8 I8 TB DE a4 a14 _ _ _ _ _ h48 n0 f57 g58 f52 f53 f55 f56 f51 (Ne.symm n54) XS gc0 gc1 gc2 gc3) C 1 (ow hw 22 rfl) (ow hw 19 rfl) (by decide) (by decide)) (fun _ _ _ q => q.2) [.ref a14] [.ref a4] rfl El rfl rfl rfl (Ak rfl) (by decide) (by decide) (by decide +kernel) ?_
  rintro T68 h69 v70 L71 S72 ⟨⟨a59, k60, rfl, g61, K62, f63, f64, f65, f66, f67⟩, -⟩
  refine Az C S72 rfl rfl (by decide +kernel) (by decide) (by decide) ?_
  have o73 : h0.size ≤ a4 := by rw [g5]; exact (Nat.le_refl _)
  have o75 : h0.size ≤ h3.size := (Nat.le_trans (Nat.le_refl _) E6.1)
  have o74 : h0.size ≤ a14 := by rw [g16]; exact o75
  exact ⟨a4, a59, k60, rfl, o73, ((((((((Keep.refl _ _).ext E6).ext E17).wr W26 (Or.inr o74)).wr W35 (Or.inr o74)).wr W42 (Or.inr o74)).wr W49 (Or.inr o74)).trans K62 (allS (Or.inr o73) all0)), f63, f64, f65, f66, f67⟩
theorem own_st6 (hw : Aj a0 Z) (G1 : Int32) (G3 : Value) (U8 : Addr) (I8 : Addr) (TB : Addr) (DE : Addr) (a : Addr) (ak : ClassId) (c0 : Int32) (c1 : Int32) (c2 : Int32) (c3 : Int32) (c4 : Int32) (c5 : Int32) (c6 : Int32) (c7 : Int32) (h0 : Heap) (n0 : Nat) (z0 : n0 ≤ h0.size) (X00 : Old Z n0 h0) (aK : Arv Z h0 a ak .char (8 : Int32) ([(.int c0), (.int c1), (.int c2), (.int c3), (.int c4), (.int c5), (.int c6), (.int c7)]) (.int 0)) (XS : Ax Z n0 G1 G3 U8 I8 TB DE) (gc0 : ¬ (255 : Int32) < c0) (uc0 : c0.toUInt32.toUInt16.toUInt32.toInt32 = c0) (gc1 : ¬ (255 : Int32) < c1) (uc1 : c1.toUInt32.toUInt16.toUInt32.toInt32 = c1) (gc2 : ¬ (255 : Int32) < c2) (uc2 : c2.toUInt32.toUInt16.toUInt32.toInt32 = c2) (gc3 : ¬ (255 : Int32) < c3) (uc3 : c3.toUInt32.toUInt16.toUInt32.toInt32 = c3) (gc4 : ¬ (255 : Int32) < c4) (uc4 : c4.toUInt32.toUInt16.toUInt32.toInt32 = c4) (gc5 : ¬ (255 : Int32) < c5) (uc5 : c5.toUInt32.toUInt16.toUInt32.toInt32 = c5) :
    Af l Z (⟨"com/example/torrey/torrey/Base64UrlDecodeWithOptionalPaddingPinLaw", "str", "([CI)Ljava/lang/String;"⟩ : MethodName) method_7_code 2 (some (.object "java/lang/String")) ({ frames := 4, cells := 3, slots := 16, locals := 66 } : Room) n0 #[(.ref a), (.int 6)] h0 (fun v h => ∃ r : Addr, ∃ rt : Addr, ∃ rtk : ClassId, v = some (.ref r) ∧ h0.size ≤ r ∧ Keep h0 h [] ∧ Exa Z h r "java/lang/String" ∧ Fld Z h r "java/lang/String" "value" "[B" (.ref rt) ∧ Fld Z h r "java/lang/String" "coder" "B" (.int 0) ∧ Arv Z h rt rtk .byte (6 : Int32) ([(.int c0.toInt8.toInt32), (.int c1.toInt8.toInt32), (.int c2.toInt8.toInt32), (.int c3.toInt8.toInt32), (.int c4.toInt8.toInt32), (.int c5.toInt8.toInt32)]) (.int 0) ∧ Exa Z h rt "[B") := by
  refine Ar #[.val (.ref a), .val (.int 6)] ?_
  intro p e s m below meth c T0 C S0
  have XS_ := XS
  obtain ⟨O2, O4, P5, rG3, OU, OI, OT, OD, hUI, TBlt, DElt⟩ := XS_
  refine Ac C S0 [(0, .iload_n 1, 1), (1, .ifCond .gt 14, 3), (15, .iload_n 1, 1), (16, .iconst 1, 1), (17, .if_icmp .ne 20, 3), (37, .iload_n 1, 1), (38, .iconst 2, 1), (39, .if_icmp .ne 26, 3), (65, .iload_n 1, 1), (66, .iconst 3, 1), (67, .if_icmp .ne 32, 3), (99, .iload_n 1, 1), (100, .iconst 4, 1), (101, .if_icmp .ne 38, 3), (139, .iload_n 1, 1), (140, .iconst 5, 1), (141, .if_icmp .ne 44, 3), (185, .iload_n 1, 1), (186, .bipush 6, 2), (188, .if_icmp .ne 51, 3)] 191 #[Ab a, Aa 6] [] ?_
  refine Dq C S0 (ow hw 17 rfl) (ow hw 18 rfl) (ow hw 19 rfl) (by decide +kernel) (by decide) (by decide) ?_
  intro T1 h3 a4 S2 g5 E6 x7 D8
  have f9 : Fld Z h3 a4 "java/lang/String" "coder" "B" (.int 0) := D8 (ty := .byte) (Or.inr (ow hw 43 rfl)) Cx
  have f10 : Fld Z h3 a4 "java/lang/String" "value" "[B" .null := D8 (ty := (.array .byte)) (Or.inr (ow hw 45 rfl)) Cy
  refine Ac C S2 [(194, .dup, 1), (195, .bipush 6, 2)] 197 #[Ab a, Aa 6] [.int 6, .ref a4, .ref a4] ?_
  refine Dr C S2 (aty := .char) (ow hw 7 rfl) (by decide +kernel) (by decide) 6 (by decide) (by decide) (by decide) (by decide) ?_
  intro T11 h13 a14 k15 S12 g16 E17 f18 
  have f19 : Arv Z h13 a14 k15 .char (6 : Int32) ([(.int 0), (.int 0), (.int 0), (.int 0), (.int 0), (.int 0)]) (.int 0) := Arv.pad f18 (pad_rep [] (.int 0) 6)
  refine Ac C S12 [(199, .dup, 1), (200, .iconst 0, 1), (201, .aload_n 0, 1), (202, .iconst 0, 1)] 203 #[Ab a, Aa 6] [.int 0, .ref a, .int 0, .ref a14, .ref a14, .ref a4, .ref a4] ?_
  have f20 := ((aK.ext E6).ext E17)
  refine Ao C S12 f20 ⟨(by decide), (by decide)⟩ (.int c0) rfl (by decide +kernel) ?_
  have f21 : n0 ≤ h3.size := (Nat.le_trans z0 E6.1)
  have g22 : n0 ≤ a14 := by rw [g16]; exact f21
  refine Aw C S12 f19 ⟨(by decide), (by decide)⟩ 0 rfl (Ak rfl) c0 uc0 g22 (by decide +kernel) ?_
  intro T23 h25 S24 W26 f27
  have f28 : Arv Z h25 a14 k15 .char (6 : Int32) ([(.int c0), (.int 0), (.int 0), (.int 0), (.int 0), (.int 0)]) (.int 0) := f27
  refine Ac C S24 [(205, .dup, 1), (206, .iconst 1, 1), (207, .aload_n 0, 1), (208, .iconst 1, 1)] 209 #[Ab a, Aa 6] [.int 1, .ref a, .int 1, .ref a14, .ref a14, .ref a4, .ref a4] ?_
  have f29 : a < h3.size := (Nat.lt_of_lt_of_le aK.lt E6.1)
  have n30 : a ≠ a14 := by rw [g16]; exact Nat.ne_of_lt f29
  have f31 := (f20.other W26 n30)
  refine Ao C S24 f31 ⟨(by decide), (by decide)⟩ (.int c1) rfl (by decide +kernel) ?_
  refine Aw C S24 f28 ⟨(by decide), (by decide)⟩ 1 rfl (Ak rfl) c1 uc1 g22 (by decide +kernel) ?_
  intro T32 h34 S33 W35 f36
  have f37 : Arv Z h34 a14 k15 .char (6 : Int32) ([(.int c0), (.int c1), (.int 0), (.int 0), (.int 0), (.int 0)]) (.int 0) := f36
  refine Ac C S33 [(211, .dup, 1), (212, .iconst 2, 1), (213, .aload_n 0, 1), (214, .iconst 2, 1)] 215 #[Ab a, Aa 6] [.int 2, .ref a, .int 2, .ref a14, .ref a14, .ref a4, .ref a4] ?_
  have f38 := (f31.other W35 n30)
  refine Ao C S33 f38 ⟨(by decide), (by decide)⟩ (.int c2) rfl (by decide +kernel) ?_
  refine Aw C S33 f37 ⟨(by decide), (by decide)⟩ 2 rfl (Ak rfl) c2 uc2 g22 (by decide +kernel) ?_
  intro T39 h41 S40 W42 f43
  have f44 : Arv Z h41 a14 k15 .char (6 : Int32) ([(.int c0), (.int c1), (.int c2), (.int 0), (.int 0), (.int 0)]) (.int 0) := f43
  refine Ac C S40 [(217, .dup, 1), (218, .iconst 3, 1), (219, .aload_n 0, 1), (220, .iconst 3, 1)] 221 #[Ab a, Aa 6] [.int 3, .ref a, .int 3, .ref a14, .ref a14, .ref a4, .ref a4] ?_
  have f45 := (f38.other W42 n30)
  refine Ao C S40 f45 ⟨(by decide), (by decide)⟩ (.int c3) rfl (by decide +kernel) ?_
  refine Aw C S40 f44 ⟨(by decide), (by decide)⟩ 3 rfl (Ak rfl) c3 uc3 g22 (by decide +kernel) ?_
  intro T46 h48 S47 W49 f50
  have f51 : Arv Z h48 a14 k15 .char (6 : Int32) ([(.int c0), (.int c1), (.int c2), (.int c3), (.int 0), (.int 0)]) (.int 0) := f50
  refine Ac C S47 [(223, .dup, 1), (224, .iconst 4, 1), (225, .aload_n 0, 1), (226, .iconst 4, 1)] 227 #[Ab a, Aa 6] [.int 4, .ref a, .int 4, .ref a14, .ref a14, .ref a4, .ref a4] ?_
  have f52 := (f45.other W49 n30)
  refine Ao C S47 f52 ⟨(by decide), (by decide)⟩ (.int c4) rfl (by decide +kernel) ?_
  refine Aw C S47 f51 ⟨(by decide), (by decide)⟩ 4 rfl (Ak rfl) c4 uc4 g22 (by decide +kernel) ?_
  intro T53 h55 S54 W56 f57
  have f58 : Arv Z h55 a14 k15 .char (6 : Int32) ([(.int c0), (.int c1), (.int c2), (.int c3), (.int c4), (.int 0)]) (.int 0) := f57
  refine Ac C S54 [(229, .dup, 1), (230, .iconst 5, 1), (231, .aload_n 0, 1), (232, .iconst 5, 1)] 233 #[Ab a, Aa 6] [.int 5, .ref a, .int 5, .ref a14, .ref a14, .ref a4, .ref a4] ?_
  have f59 := (f52.other W56 n30)
  refine Ao C S54 f59 ⟨(by decide), (by decide)⟩ (.int c5) rfl (by decide +kernel) ?_
  refine Aw C S54 f58 ⟨(by decide), (by decide)⟩ 5 rfl (Ak rfl) c5 uc5 g22 (by decide +kernel) ?_
  intro T60 h62 S61 W63 f64
  have f65 : Arv Z h62 a14 k15 .char (6 : Int32) ([(.int c0), (.int c1), (.int c2), (.int c3), (.int c4), (.int c5)]) (.int 0) := f64
  have f66 := ((((((((X00.ext E6).ext E17).wr W26 g22).wr W35 g22).wr W42 g22).wr W49 g22).wr W56 g22).wr W63 g22)
  have f67 := (Exa.wr W63 (Exa.wr W56 (Exa.wr W49 (Exa.wr W42 (Exa.wr W35 (Exa.wr W26 (Exa.ext E17 x7)))))))
  have n68 : a4 ≠ a14 := by rw [g16]; exact Nat.ne_of_lt x7.lt
  have f69 := (Fld.other W63 (Fld.other W56 (Fld.other W49 (Fld.other W42 (Fld.other W35 (Fld.other W26 (Fld.ext E17 f10) (Or.inl n68)) (Or.inl n68)) (Or.inl n68)) (Or.inl n68)) (Or.inl n68)) (Or.inl n68))
  have f70 := (Fld.other W63 (Fld.other W56 (Fld.other W49 (Fld.other W42 (Fld.other W35 (Fld.other W26 (Fld.ext E17 f9) (Or.inl n68)) (Or.inl n68)) (Or.inl n68)) (Or.inl n68)) (Or.inl n68)) (Or.inl n68))
  have f71 : n0 ≤ h62.size := (by rw [W63.size]; exact (by rw [W56.size]; exact (by rw [W49.size]; exact (by rw [W42.size]; exact (by rw [W35.size]; exact (by rw [W26.size]; exact (Nat.le_trans f21 E17.1)))))))
  have g72 : n0 ≤ a4 := by rw [g5]; exact z0
  refine Cs C S61 rfl (ow hw 20 rfl) (ow hw 21 rfl) (ow hw 22 rfl) (by decide) (Af.pay (own_s1i6 l Z a0 hw G1 G3 U8 I8 TB DE a4 a14 _ _ _ _ _ _ _ h62 n0 f71 g72 f66 f67 f69 f70 f65 (Ne.symm n68) XS gc0 gc1 gc2 gc3 gc4 gc5) C 1 (ow hw 22 rfl) (ow hw 19 rfl) (by decide) (by decide)) (fun _ _ _ q => q.2) [.ref a14] [.ref a4] rfl El rfl rfl rfl (Ak rfl) (by decide) (by decide) (by decide +kernel) ?_
  rintro T82 h83 v84 L85 S86 ⟨⟨a73, k74, rfl, g75, K76, f77, f78, f79, f80, f81⟩, -⟩
  refine Az C S86 rfl rfl (by decide +kernel) (by decide) (by decide) ?_
  have o87 : h0.size ≤ a4 := by rw [g5]; exact (Nat.le_refl _)
  have o89 : h0.size ≤ h3.size := (Nat.le_trans (Nat.le_refl _) E6.1)
  have o88 : h0.size ≤ a14 := by rw [g16]; exact o89
  exact ⟨a4, a73, k74, rfl, o87, ((((((((((Keep.refl _ _).ext E6).ext E17).wr W26 (Or.inr o88)).wr W35 (Or.inr o88)).wr W42 (Or.inr o88)).wr W49 (Or.inr o88)).wr W56 (Or.inr o88)).wr W63 (Or.inr o88)).trans K76 (allS (Or.inr o87) all0)), f77, f78, f79, f80, f81⟩
theorem own_st7 (hw : Aj a0 Z) (G1 : Int32) (G3 : Value) (U8 : Addr) (I8 : Addr) (TB : Addr) (DE : Addr) (a : Addr) (ak : ClassId) (c0 : Int32) (c1 : Int32) (c2 : Int32) (c3 : Int32) (c4 : Int32) (c5 : Int32) (c6 : Int32) (c7 : Int32) (h0 : Heap) (n0 : Nat) (z0 : n0 ≤ h0.size) (X00 : Old Z n0 h0) (aK : Arv Z h0 a ak .char (8 : Int32) ([(.int c0), (.int c1), (.int c2), (.int c3), (.int c4), (.int c5), (.int c6), (.int c7)]) (.int 0)) (XS : Ax Z n0 G1 G3 U8 I8 TB DE) (gc0 : ¬ (255 : Int32) < c0) (uc0 : c0.toUInt32.toUInt16.toUInt32.toInt32 = c0) (gc1 : ¬ (255 : Int32) < c1) (uc1 : c1.toUInt32.toUInt16.toUInt32.toInt32 = c1) (gc2 : ¬ (255 : Int32) < c2) (uc2 : c2.toUInt32.toUInt16.toUInt32.toInt32 = c2) (gc3 : ¬ (255 : Int32) < c3) (uc3 : c3.toUInt32.toUInt16.toUInt32.toInt32 = c3) (gc4 : ¬ (255 : Int32) < c4) (uc4 : c4.toUInt32.toUInt16.toUInt32.toInt32 = c4) (gc5 : ¬ (255 : Int32) < c5) (uc5 : c5.toUInt32.toUInt16.toUInt32.toInt32 = c5) (gc6 : ¬ (255 : Int32) < c6) (uc6 : c6.toUInt32.toUInt16.toUInt32.toInt32 = c6) :
    Af l Z (⟨"com/example/torrey/torrey/Base64UrlDecodeWithOptionalPaddingPinLaw", "str", "([CI)Ljava/lang/String;"⟩ : MethodName) method_7_code 2 (some (.object "java/lang/String")) ({ frames := 4, cells := 3, slots := 18, locals := 66 } : Room) n0 #[(.ref a), (.int 7)] h0 (fun v h => ∃ r : Addr, ∃ rt : Addr, ∃ rtk : ClassId, v = some (.ref r) ∧ h0.size ≤ r ∧ Keep h0 h [] ∧ Exa Z h r "java/lang/String" ∧ Fld Z h r "java/lang/String" "value" "[B" (.ref rt) ∧ Fld Z h r "java/lang/String" "coder" "B" (.int 0) ∧ Arv Z h rt rtk .byte (7 : Int32) ([(.int c0.toInt8.toInt32), (.int c1.toInt8.toInt32), (.int c2.toInt8.toInt32), (.int c3.toInt8.toInt32), (.int c4.toInt8.toInt32), (.int c5.toInt8.toInt32), (.int c6.toInt8.toInt32)]) (.int 0) ∧ Exa Z h rt "[B") := by
  refine Ar #[.val (.ref a), .val (.int 7)] ?_
  intro p e s m below meth c T0 C S0
  have XS_ := XS
  obtain ⟨O2, O4, P5, rG3, OU, OI, OT, OD, hUI, TBlt, DElt⟩ := XS_
  refine Ac C S0 [(0, .iload_n 1, 1), (1, .ifCond .gt 14, 3), (15, .iload_n 1, 1), (16, .iconst 1, 1), (17, .if_icmp .ne 20, 3), (37, .iload_n 1, 1), (38, .iconst 2, 1), (39, .if_icmp .ne 26, 3), (65, .iload_n 1, 1), (66, .iconst 3, 1), (67, .if_icmp .ne 32, 3), (99, .iload_n 1, 1), (100, .iconst 4, 1), (101, .if_icmp .ne 38, 3), (139, .iload_n 1, 1), (140, .iconst 5, 1), (141, .if_icmp .ne 44, 3), (185, .iload_n 1, 1), (186, .bipush 6, 2), (188, .if_icmp .ne 51, 3), (239, .iload_n 1, 1), (240, .bipush 7, 2), (242, .if_icmp .ne 59, 3)] 245 #[Ab a, Aa 7] [] ?_
  refine Dq C S0 (ow hw 17 rfl) (ow hw 18 rfl) (ow hw 19 rfl) (by decide +kernel) (by decide) (by decide) ?_
  intro T1 h3 a4 S2 g5 E6 x7 D8
  have f9 : Fld Z h3 a4 "java/lang/String" "coder" "B" (.int 0) := D8 (ty := .byte) (Or.inr (ow hw 43 rfl)) Cx
  have f10 : Fld Z h3 a4 "java/lang/String" "value" "[B" .null := D8 (ty := (.array .byte)) (Or.inr (ow hw 45 rfl)) Cy
  refine Ac C S2 [(248, .dup, 1), (249, .bipush 7, 2)] 251 #[Ab a, Aa 7] [.int 7, .ref a4, .ref a4] ?_
  refine Dr C S2 (aty := .char) (ow hw 7 rfl) (by decide +kernel) (by decide) 7 (by decide) (by decide) (by decide) (by decide) ?_
  intro T11 h13 a14 k15 S12 g16 E17 f18 
  have f19 : Arv Z h13 a14 k15 .char (7 : Int32) ([(.int 0), (.int 0), (.int 0), (.int 0), (.int 0), (.int 0), (.int 0)]) (.int 0) := Arv.pad f18 (pad_rep [] (.int 0) 7)
  refine Ac C S12 [(253, .dup, 1), (254, .iconst 0, 1), (255, .aload_n 0, 1), (256, .iconst 0, 1)] 257 #[Ab a, Aa 7] [.int 0, .ref a, .int 0, .ref a14, .ref a14, .ref a4, .ref a4] ?_
  have f20 := ((aK.ext E6).ext E17)
  refine Ao C S12 f20 ⟨(by decide), (by decide)⟩ (.int c0) rfl (by decide +kernel) ?_
  have f21 : n0 ≤ h3.size := (Nat.le_trans z0 E6.1)
  have g22 : n0 ≤ a14 := by rw [g16]; exact f21
  refine Aw C S12 f19 ⟨(by decide), (by decide)⟩ 0 rfl (Ak rfl) c0 uc0 g22 (by decide +kernel) ?_
  intro T23 h25 S24 W26 f27
  have f28 : Arv Z h25 a14 k15 .char (7 : Int32) ([(.int c0), (.int 0), (.int 0), (.int 0), (.int 0), (.int 0), (.int 0)]) (.int 0) := f27
  refine Ac C S24 [(259, .dup, 1), (260, .iconst 1, 1), (261, .aload_n 0, 1), (262, .iconst 1, 1)] 263 #[Ab a, Aa 7] [.int 1, .ref a, .int 1, .ref a14, .ref a14, .ref a4, .ref a4] ?_
  have f29 : a < h3.size := (Nat.lt_of_lt_of_le aK.lt E6.1)
  have n30 : a ≠ a14 := by rw [g16]; exact Nat.ne_of_lt f29
  have f31 := (f20.other W26 n30)
  refine Ao C S24 f31 ⟨(by decide), (by decide)⟩ (.int c1) rfl (by decide +kernel) ?_
  refine Aw C S24 f28 ⟨(by decide), (by decide)⟩ 1 rfl (Ak rfl) c1 uc1 g22 (by decide +kernel) ?_
  intro T32 h34 S33 W35 f36
  have f37 : Arv Z h34 a14 k15 .char (7 : Int32) ([(.int c0), (.int c1), (.int 0), (.int 0), (.int 0), (.int 0), (.int 0)]) (.int 0) := f36
  refine Ac C S33 [(265, .dup, 1), (266, .iconst 2, 1), (267, .aload_n 0, 1), (268, .iconst 2, 1)] 269 #[Ab a, Aa 7] [.int 2, .ref a, .int 2, .ref a14, .ref a14, .ref a4, .ref a4] ?_
  have f38 := (f31.other W35 n30)
  refine Ao C S33 f38 ⟨(by decide), (by decide)⟩ (.int c2) rfl (by decide +kernel) ?_
  refine Aw C S33 f37 ⟨(by decide), (by decide)⟩ 2 rfl (Ak rfl) c2 uc2 g22 (by decide +kernel) ?_
  intro T39 h41 S40 W42 f43
  have f44 : Arv Z h41 a14 k15 .char (7 : Int32) ([(.int c0), (.int c1), (.int c2), (.int 0), (.int 0), (.int 0), (.int 0)]) (.int 0) := f43
  refine Ac C S40 [(271, .dup, 1), (272, .iconst 3, 1), (273, .aload_n 0, 1), (274, .iconst 3, 1)] 275 #[Ab a, Aa 7] [.int 3, .ref a, .int 3, .ref a14, .ref a14, .ref a4, .ref a4] ?_
  have f45 := (f38.other W42 n30)
  refine Ao C S40 f45 ⟨(by decide), (by decide)⟩ (.int c3) rfl (by decide +kernel) ?_
  refine Aw C S40 f44 ⟨(by decide), (by decide)⟩ 3 rfl (Ak rfl) c3 uc3 g22 (by decide +kernel) ?_
  intro T46 h48 S47 W49 f50
  have f51 : Arv Z h48 a14 k15 .char (7 : Int32) ([(.int c0), (.int c1), (.int c2), (.int c3), (.int 0), (.int 0), (.int 0)]) (.int 0) := f50
  refine Ac C S47 [(277, .dup, 1), (278, .iconst 4, 1), (279, .aload_n 0, 1), (280, .iconst 4, 1)] 281 #[Ab a, Aa 7] [.int 4, .ref a, .int 4, .ref a14, .ref a14, .ref a4, .ref a4] ?_
  have f52 := (f45.other W49 n30)
  refine Ao C S47 f52 ⟨(by decide), (by decide)⟩ (.int c4) rfl (by decide +kernel) ?_
  refine Aw C S47 f51 ⟨(by decide), (by decide)⟩ 4 rfl (Ak rfl) c4 uc4 g22 (by decide +kernel) ?_
  intro T53 h55 S54 W56 f57
  have f58 : Arv Z h55 a14 k15 .char (7 : Int32) ([(.int c0), (.int c1), (.int c2), (.int c3), (.int c4), (.int 0), (.int 0)]) (.int 0) := f57
  refine Ac C S54 [(283, .dup, 1), (284, .iconst 5, 1), (285, .aload_n 0, 1), (286, .iconst 5, 1)] 287 #[Ab a, Aa 7] [.int 5, .ref a, .int 5, .ref a14, .ref a14, .ref a4, .ref a4] ?_
  have f59 := (f52.other W56 n30)
  refine Ao C S54 f59 ⟨(by decide), (by decide)⟩ (.int c5) rfl (by decide +kernel) ?_
  refine Aw C S54 f58 ⟨(by decide), (by decide)⟩ 5 rfl (Ak rfl) c5 uc5 g22 (by decide +kernel) ?_
  intro T60 h62 S61 W63 f64
  have f65 : Arv Z h62 a14 k15 .char (7 : Int32) ([(.int c0), (.int c1), (.int c2), (.int c3), (.int c4), (.int c5), (.int 0)]) (.int 0) := f64
  refine Ac C S61 [(289, .dup, 1), (290, .bipush 6, 2), (292, .aload_n 0, 1), (293, .bipush 6, 2)] 295 #[Ab a, Aa 7] [.int 6, .ref a, .int 6, .ref a14, .ref a14, .ref a4, .ref a4] ?_
  have f66 := (f59.other W63 n30)
  refine Ao C S61 f66 ⟨(by decide), (by decide)⟩ (.int c6) rfl (by decide +kernel) ?_
  refine Aw C S61 f65 ⟨(by decide), (by decide)⟩ 6 rfl (Ak rfl) c6 uc6 g22 (by decide +kernel) ?_
  intro T67 h69 S68 W70 f71
  have f72 : Arv Z h69 a14 k15 .char (7 : Int32) ([(.int c0), (.int c1), (.int c2), (.int c3), (.int c4), (.int c5), (.int c6)]) (.int 0) := f71
  have f73 := (((((((((X00.ext E6).ext E17).wr W26 g22).wr W35 g22).wr W42 g22).wr W49 g22).wr W56 g22).wr W63 g22).wr W70 g22)
  have f74 := (Exa.wr W70 (Exa.wr W63 (Exa.wr W56 (Exa.wr W49 (Exa.wr W42 (Exa.wr W35 (Exa.wr W26 (Exa.ext E17 x7))))))))
  have n75 : a4 ≠ a14 := by rw [g16]; exact Nat.ne_of_lt x7.lt
  have f76 := (Fld.other W70 (Fld.other W63 (Fld.other W56 (Fld.other W49 (Fld.other W42 (Fld.other W35 (Fld.other W26 (Fld.ext E17 f10) (Or.inl n75)) (Or.inl n75)) (Or.inl n75)) (Or.inl n75)) (Or.inl n75)) (Or.inl n75)) (Or.inl n75))
  have f77 := (Fld.other W70 (Fld.other W63 (Fld.other W56 (Fld.other W49 (Fld.other W42 (Fld.other W35 (Fld.other W26 (Fld.ext E17 f9) (Or.inl n75)) (Or.inl n75)) (Or.inl n75)) (Or.inl n75)) (Or.inl n75)) (Or.inl n75)) (Or.inl n75))
  have f78 : n0 ≤ h69.size := (by rw [W70.size]; exact (by rw [W63.size]; exact (by rw [W56.size]; exact (by rw [W49.size]; exact (by rw [W42.size]; exact (by rw [W35.size]; exact (by rw [W26.size]; exact (Nat.le_trans f21 E17.1))))))))
  have g79 : n0 ≤ a4 := by rw [g5]; exact z0
  refine Cs C S68 rfl (ow hw 20 rfl) (ow hw 21 rfl) (ow hw 22 rfl) (by decide) (Af.pay (own_s1i7 l Z a0 hw G1 G3 U8 I8 TB DE a4 a14 _ _ _ _ _ _ _ _ h69 n0 f78 g79 f73 f74 f76 f77 f72 (Ne.symm n75) XS gc0 gc1 gc2 gc3 gc4 gc5 gc6) C 1 (ow hw 22 rfl) (ow hw 19 rfl) (by decide) (by decide)) (fun _ _ _ q => q.2) [.ref a14] [.ref a4] rfl El rfl rfl rfl (Ak rfl) (by decide) (by decide) (by decide +kernel) ?_
  rintro T89 h90 v91 L92 S93 ⟨⟨a80, k81, rfl, g82, K83, f84, f85, f86, f87, f88⟩, -⟩
  refine Az C S93 rfl rfl (by decide +kernel) (by decide) (by decide) ?_
  have o94 : h0.size ≤ a4 := by rw [g5]; exact (Nat.le_refl _)
  have o96 : h0.size ≤ h3.size := (Nat.le_trans (Nat.le_refl _) E6.1)
  have o95 : h0.size ≤ a14 := by rw [g16]; exact o96
  exact ⟨a4, a80, k81, rfl, o94, (((((((((((Keep.refl _ _).ext E6).ext E17).wr W26 (Or.inr o95)).wr W35 (Or.inr o95)).wr W42 (Or.inr o95)).wr W49 (Or.inr o95)).wr W56 (Or.inr o95)).wr W63 (Or.inr o95)).wr W70 (Or.inr o95)).trans K83 (allS (Or.inr o94) all0)), f84, f85, f86, f87, f88⟩
theorem own_st8 (hw : Aj a0 Z) (G1 : Int32) (G3 : Value) (U8 : Addr) (I8 : Addr) (TB : Addr) (DE : Addr) (a : Addr) (ak : ClassId) (c0 : Int32) (c1 : Int32) (c2 : Int32) (c3 : Int32) (c4 : Int32) (c5 : Int32) (c6 : Int32) (c7 : Int32) (h0 : Heap) (n0 : Nat) (z0 : n0 ≤ h0.size) (X00 : Old Z n0 h0) (aK : Arv Z h0 a ak .char (8 : Int32) ([(.int c0), (.int c1), (.int c2), (.int c3), (.int c4), (.int c5), (.int c6), (.int c7)]) (.int 0)) (XS : Ax Z n0 G1 G3 U8 I8 TB DE) (gc0 : ¬ (255 : Int32) < c0) (uc0 : c0.toUInt32.toUInt16.toUInt32.toInt32 = c0) (gc1 : ¬ (255 : Int32) < c1) (uc1 : c1.toUInt32.toUInt16.toUInt32.toInt32 = c1) (gc2 : ¬ (255 : Int32) < c2) (uc2 : c2.toUInt32.toUInt16.toUInt32.toInt32 = c2) (gc3 : ¬ (255 : Int32) < c3) (uc3 : c3.toUInt32.toUInt16.toUInt32.toInt32 = c3) (gc4 : ¬ (255 : Int32) < c4) (uc4 : c4.toUInt32.toUInt16.toUInt32.toInt32 = c4) (gc5 : ¬ (255 : Int32) < c5) (uc5 : c5.toUInt32.toUInt16.toUInt32.toInt32 = c5) (gc6 : ¬ (255 : Int32) < c6) (uc6 : c6.toUInt32.toUInt16.toUInt32.toInt32 = c6) (gc7 : ¬ (255 : Int32) < c7) (uc7 : c7.toUInt32.toUInt16.toUInt32.toInt32 = c7) :
    Af l Z (⟨"com/example/torrey/torrey/Base64UrlDecodeWithOptionalPaddingPinLaw", "str", "([CI)Ljava/lang/String;"⟩ : MethodName) method_7_code 2 (some (.object "java/lang/String")) ({ frames := 4, cells := 3, slots := 20, locals := 66 } : Room) n0 #[(.ref a), (.int 8)] h0 (fun v h => ∃ r : Addr, ∃ rt : Addr, ∃ rtk : ClassId, v = some (.ref r) ∧ h0.size ≤ r ∧ Keep h0 h [] ∧ Exa Z h r "java/lang/String" ∧ Fld Z h r "java/lang/String" "value" "[B" (.ref rt) ∧ Fld Z h r "java/lang/String" "coder" "B" (.int 0) ∧ Arv Z h rt rtk .byte (8 : Int32) ([(.int c0.toInt8.toInt32), (.int c1.toInt8.toInt32), (.int c2.toInt8.toInt32), (.int c3.toInt8.toInt32), (.int c4.toInt8.toInt32), (.int c5.toInt8.toInt32), (.int c6.toInt8.toInt32), (.int c7.toInt8.toInt32)]) (.int 0) ∧ Exa Z h rt "[B") := by
  refine Ar #[.val (.ref a), .val (.int 8)] ?_
  intro p e s m below meth c T0 C S0
  have XS_ := XS
  obtain ⟨O2, O4, P5, rG3, OU, OI, OT, OD, hUI, TBlt, DElt⟩ := XS_
  refine Ac C S0 [(0, .iload_n 1, 1), (1, .ifCond .gt 14, 3), (15, .iload_n 1, 1), (16, .iconst 1, 1), (17, .if_icmp .ne 20, 3), (37, .iload_n 1, 1), (38, .iconst 2, 1), (39, .if_icmp .ne 26, 3), (65, .iload_n 1, 1), (66, .iconst 3, 1), (67, .if_icmp .ne 32, 3), (99, .iload_n 1, 1), (100, .iconst 4, 1), (101, .if_icmp .ne 38, 3), (139, .iload_n 1, 1), (140, .iconst 5, 1), (141, .if_icmp .ne 44, 3), (185, .iload_n 1, 1), (186, .bipush 6, 2), (188, .if_icmp .ne 51, 3), (239, .iload_n 1, 1), (240, .bipush 7, 2), (242, .if_icmp .ne 59, 3)] 301 #[Ab a, Aa 8] [] ?_
  refine Dq C S0 (ow hw 17 rfl) (ow hw 18 rfl) (ow hw 19 rfl) (by decide +kernel) (by decide) (by decide) ?_
  intro T1 h3 a4 S2 g5 E6 x7 D8
  have f9 : Fld Z h3 a4 "java/lang/String" "coder" "B" (.int 0) := D8 (ty := .byte) (Or.inr (ow hw 43 rfl)) Cx
  have f10 : Fld Z h3 a4 "java/lang/String" "value" "[B" .null := D8 (ty := (.array .byte)) (Or.inr (ow hw 45 rfl)) Cy
  refine Ac C S2 [(304, .dup, 1), (305, .bipush 8, 2)] 307 #[Ab a, Aa 8] [.int 8, .ref a4, .ref a4] ?_
  refine Dr C S2 (aty := .char) (ow hw 7 rfl) (by decide +kernel) (by decide) 8 (by decide) (by decide) (by decide) (by decide) ?_
  intro T11 h13 a14 k15 S12 g16 E17 f18 
  have f19 : Arv Z h13 a14 k15 .char (8 : Int32) ([(.int 0), (.int 0), (.int 0), (.int 0), (.int 0), (.int 0), (.int 0), (.int 0)]) (.int 0) := Arv.pad f18 (pad_rep [] (.int 0) 8)
  refine Ac C S12 [(309, .dup, 1), (310, .iconst 0, 1), (311, .aload_n 0, 1), (312, .iconst 0, 1)] 313 #[Ab a, Aa 8] [.int 0, .ref a, .int 0, .ref a14, .ref a14, .ref a4, .ref a4] ?_
  have f20 := ((aK.ext E6).ext E17)
  refine Ao C S12 f20 ⟨(by decide), (by decide)⟩ (.int c0) rfl (by decide +kernel) ?_
  have f21 : n0 ≤ h3.size := (Nat.le_trans z0 E6.1)
  have g22 : n0 ≤ a14 := by rw [g16]; exact f21
  refine Aw C S12 f19 ⟨(by decide), (by decide)⟩ 0 rfl (Ak rfl) c0 uc0 g22 (by decide +kernel) ?_
  intro T23 h25 S24 W26 f27
  have f28 : Arv Z h25 a14 k15 .char (8 : Int32) ([(.int c0), (.int 0), (.int 0), (.int 0), (.int 0), (.int 0), (.int 0), (.int 0)]) (.int 0) := f27
  refine Ac C S24 [(315, .dup, 1), (316, .iconst 1, 1), (317, .aload_n 0, 1), (318, .iconst 1, 1)] 319 #[Ab a, Aa 8] [.int 1, .ref a, .int 1, .ref a14, .ref a14, .ref a4, .ref a4] ?_
  have f29 : a < h3.size := (Nat.lt_of_lt_of_le aK.lt E6.1)
  have n30 : a ≠ a14 := by rw [g16]; exact Nat.ne_of_lt f29
  have f31 := (f20.other W26 n30)
  refine Ao C S24 f31 ⟨(by decide), (by decide)⟩ (.int c1) rfl (by decide +kernel) ?_
  refine Aw C S24 f28 ⟨(by decide), (by decide)⟩ 1 rfl (Ak rfl) c1 uc1 g22 (by decide +kernel) ?_
  intro T32 h34 S33 W35 f36
  have f37 : Arv Z h34 a14 k15 .char (8 : Int32) ([(.int c0), (.int c1), (.int 0), (.int 0), (.int 0), (.int 0), (.int 0), (.int 0)]) (.int 0) := f36
  refine Ac C S33 [(321, .dup, 1), (322, .iconst 2, 1), (323, .aload_n 0, 1), (324, .iconst 2, 1)] 325 #[Ab a, Aa 8] [.int 2, .ref a, .int 2, .ref a14, .ref a14, .ref a4, .ref a4] ?_
  have f38 := (f31.other W35 n30)
  refine Ao C S33 f38 ⟨(by decide), (by decide)⟩ (.int c2) rfl (by decide +kernel) ?_
  refine Aw C S33 f37 ⟨(by decide), (by decide)⟩ 2 rfl (Ak rfl) c2 uc2 g22 (by decide +kernel) ?_
  intro T39 h41 S40 W42 f43
  have f44 : Arv Z h41 a14 k15 .char (8 : Int32) ([(.int c0), (.int c1), (.int c2), (.int 0), (.int 0), (.int 0), (.int 0), (.int 0)]) (.int 0) := f43
  refine Ac C S40 [(327, .dup, 1), (328, .iconst 3, 1), (329, .aload_n 0, 1), (330, .iconst 3, 1)] 331 #[Ab a, Aa 8] [.int 3, .ref a, .int 3, .ref a14, .ref a14, .ref a4, .ref a4] ?_
  have f45 := (f38.other W42 n30)
  refine Ao C S40 f45 ⟨(by decide), (by decide)⟩ (.int c3) rfl (by decide +kernel) ?_
  refine Aw C S40 f44 ⟨(by decide), (by decide)⟩ 3 rfl (Ak rfl) c3 uc3 g22 (by decide +kernel) ?_
  intro T46 h48 S47 W49 f50
  have f51 : Arv Z h48 a14 k15 .char (8 : Int32) ([(.int c0), (.int c1), (.int c2), (.int c3), (.int 0), (.int 0), (.int 0), (.int 0)]) (.int 0) := f50
  refine Ac C S47 [(333, .dup, 1), (334, .iconst 4, 1), (335, .aload_n 0, 1), (336, .iconst 4, 1)] 337 #[Ab a, Aa 8] [.int 4, .ref a, .int 4, .ref a14, .ref a14, .ref a4, .ref a4] ?_
  have f52 := (f45.other W49 n30)
  refine Ao C S47 f52 ⟨(by decide), (by decide)⟩ (.int c4) rfl (by decide +kernel) ?_
  refine Aw C S47 f51 ⟨(by decide), (by decide)⟩ 4 rfl (Ak rfl) c4 uc4 g22 (by decide +kernel) ?_
  intro T53 h55 S54 W56 f57
  have f58 : Arv Z h55 a14 k15 .char (8 : Int32) ([(.int c0), (.int c1), (.int c2), (.int c3), (.int c4), (.int 0), (.int 0), (.int 0)]) (.int 0) := f57
  refine Ac C S54 [(339, .dup, 1), (340, .iconst 5, 1), (341, .aload_n 0, 1), (342, .iconst 5, 1)] 343 #[Ab a, Aa 8] [.int 5, .ref a, .int 5, .ref a14, .ref a14, .ref a4, .ref a4] ?_
  have f59 := (f52.other W56 n30)
  refine Ao C S54 f59 ⟨(by decide), (by decide)⟩ (.int c5) rfl (by decide +kernel) ?_
  refine Aw C S54 f58 ⟨(by decide), (by decide)⟩ 5 rfl (Ak rfl) c5 uc5 g22 (by decide +kernel) ?_
  intro T60 h62 S61 W63 f64
  have f65 : Arv Z h62 a14 k15 .char (8 : Int32) ([(.int c0), (.int c1), (.int c2), (.int c3), (.int c4), (.int c5), (.int 0), (.int 0)]) (.int 0) := f64
  refine Ac C S61 [(345, .dup, 1), (346, .bipush 6, 2), (348, .aload_n 0, 1), (349, .bipush 6, 2)] 351 #[Ab a, Aa 8] [.int 6, .ref a, .int 6, .ref a14, .ref a14, .ref a4, .ref a4] ?_
  have f66 := (f59.other W63 n30)
  refine Ao C S61 f66 ⟨(by decide), (by decide)⟩ (.int c6) rfl (by decide +kernel) ?_
  refine Aw C S61 f65 ⟨(by decide), (by decide)⟩ 6 rfl (Ak rfl) c6 uc6 g22 (by decide +kernel) ?_
  intro T67 h69 S68 W70 f71
  have f72 : Arv Z h69 a14 k15 .char (8 : Int32) ([(.int c0), (.int c1), (.int c2), (.int c3), (.int c4), (.int c5), (.int c6), (.int 0)]) (.int 0) := f71
  refine Ac C S68 [(353, .dup, 1), (354, .bipush 7, 2), (356, .aload_n 0, 1), (357, .bipush 7, 2)] 359 #[Ab a, Aa 8] [.int 7, .ref a, .int 7, .ref a14, .ref a14, .ref a4, .ref a4] ?_
  have f73 := (f66.other W70 n30)
  refine Ao C S68 f73 ⟨(by decide), (by decide)⟩ (.int c7) rfl (by decide +kernel) ?_
  refine Aw C S68 f72 ⟨(by decide), (by decide)⟩ 7 rfl (Ak rfl) c7 uc7 g22 (by decide +kernel) ?_
  intro T74 h76 S75 W77 f78
  have f79 : Arv Z h76 a14 k15 .char (8 : Int32) ([(.int c0), (.int c1), (.int c2), (.int c3), (.int c4), (.int c5), (.int c6), (.int c7)]) (.int 0) := f78
  have f80 := ((((((((((X00.ext E6).ext E17).wr W26 g22).wr W35 g22).wr W42 g22).wr W49 g22).wr W56 g22).wr W63 g22).wr W70 g22).wr W77 g22)
  have f81 := (Exa.wr W77 (Exa.wr W70 (Exa.wr W63 (Exa.wr W56 (Exa.wr W49 (Exa.wr W42 (Exa.wr W35 (Exa.wr W26 (Exa.ext E17 x7)))))))))
  have n82 : a4 ≠ a14 := by rw [g16]; exact Nat.ne_of_lt x7.lt
  have f83 := (Fld.other W77 (Fld.other W70 (Fld.other W63 (Fld.other W56 (Fld.other W49 (Fld.other W42 (Fld.other W35 (Fld.other W26 (Fld.ext E17 f10) (Or.inl n82)) (Or.inl n82)) (Or.inl n82)) (Or.inl n82)) (Or.inl n82)) (Or.inl n82)) (Or.inl n82)) (Or.inl n82))
  have f84 := (Fld.other W77 (Fld.other W70 (Fld.other W63 (Fld.other W56 (Fld.other W49 (Fld.other W42 (Fld.other W35 (Fld.other W26 (Fld.ext E17 f9) (Or.inl n82)) (Or.inl n82)) (Or.inl n82)) (Or.inl n82)) (Or.inl n82)) (Or.inl n82)) (Or.inl n82)) (Or.inl n82))
  have f85 : n0 ≤ h76.size := (by rw [W77.size]; exact (by rw [W70.size]; exact (by rw [W63.size]; exact (by rw [W56.size]; exact (by rw [W49.size]; exact (by rw [W42.size]; exact (by rw [W35.size]; exact (by rw [W26.size]; exact (Nat.le_trans f21 E17.1)))))))))
  have g86 : n0 ≤ a4 := by rw [g5]; exact z0
  refine Cs C S75 rfl (ow hw 20 rfl) (ow hw 21 rfl) (ow hw 22 rfl) (by decide) (Af.pay (own_s1i8 l Z a0 hw G1 G3 U8 I8 TB DE a4 a14 _ _ _ _ _ _ _ _ _ h76 n0 f85 g86 f80 f81 f83 f84 f79 (Ne.symm n82) XS gc0 gc1 gc2 gc3 gc4 gc5 gc6 gc7) C 1 (ow hw 22 rfl) (ow hw 19 rfl) (by decide) (by decide)) (fun _ _ _ q => q.2) [.ref a14] [.ref a4] rfl El rfl rfl rfl (Ak rfl) (by decide) (by decide) (by decide +kernel) ?_
  rintro T96 h97 v98 L99 S100 ⟨⟨a87, k88, rfl, g89, K90, f91, f92, f93, f94, f95⟩, -⟩
  refine Az C S100 rfl rfl (by decide +kernel) (by decide) (by decide) ?_
  have o101 : h0.size ≤ a4 := by rw [g5]; exact (Nat.le_refl _)
  have o103 : h0.size ≤ h3.size := (Nat.le_trans (Nat.le_refl _) E6.1)
  have o102 : h0.size ≤ a14 := by rw [g16]; exact o103
  exact ⟨a4, a87, k88, rfl, o101, ((((((((((((Keep.refl _ _).ext E6).ext E17).wr W26 (Or.inr o102)).wr W35 (Or.inr o102)).wr W42 (Or.inr o102)).wr W49 (Or.inr o102)).wr W56 (Or.inr o102)).wr W63 (Or.inr o102)).wr W70 (Or.inr o102)).wr W77 (Or.inr o102)).trans K90 (allS (Or.inr o101) all0)), f91, f92, f93, f94, f95⟩
theorem own_pfN (hw : Aj a0 Z) (i : Int32) (j : Int32) (n : Int32) (h0 : Heap) (n0 : Nat) (z0 : n0 ≤ h0.size) (h1 : ¬ i < 0) (h2 : ¬ j < i) (h3 : ¬ n < j) :
    Af l Z (⟨"jdk/internal/util/Preconditions", "checkFromToIndex", "(IIILjava/util/function/BiFunction;)I"⟩ : MethodName) jdk_41_method_12_code 4 (some .int) ({ frames := 0, cells := 0, slots := 0, locals := 0 } : Room) n0 #[(.int i), (.int j), (.int n), .null] h0 (fun v h => v = some (.int i) ∧ h = h0) := by
  refine Ar #[.val (.int i), .val (.int j), .val (.int n), .val .null] ?_
  intro p e s m below meth c T0 C S0
  refine Ac C S0 [(0, .iload_n 0, 1)] 1 #[Aa i, Aa j, Aa n, .val .null] [.int i] ?_
  refine Bh C S0 .lt 13 14 (fun (hq : i < (0 : Int32)) => False.elim (h1 hq)) (fun (q1 : ¬ i < (0 : Int32)) => ?_)
  refine Ac C S0 [(4, .iload_n 0, 1), (5, .iload_n 1, 1)] 6 #[Aa i, Aa j, Aa n, .val .null] [.int j, .int i] ?_
  refine Bg C S0 .gt 8 14 (fun (hq : j < i) => False.elim (h2 hq)) (fun (q2 : ¬ j < i) => ?_)
  refine Ac C S0 [(9, .iload_n 1, 1), (10, .iload_n 2, 1)] 11 #[Aa i, Aa j, Aa n, .val .null] [.int n, .int j] ?_
  refine Bg C S0 .le 11 22 (fun (q3 : ¬ n < j) => ?_) (fun (hq : n < j) => False.elim (h3 hq))
  refine Ac C S0 [(22, .iload_n 0, 1)] 23 #[Aa i, Aa j, Aa n, .val .null] [.int i] ?_
  refine Bq C S0 (by decide +kernel) (by decide) (by decide) ?_
  exact ⟨rfl, rfl⟩
theorem own_pfR (hw : Aj a0 Z) (i : Int32) (j : Int32) (n : Int32) (g : Addr) (h0 : Heap) (n0 : Nat) (z0 : n0 ≤ h0.size) (h1 : ¬ i < 0) (h2 : ¬ j < i) (h3 : ¬ n < j) :
    Af l Z (⟨"jdk/internal/util/Preconditions", "checkFromToIndex", "(IIILjava/util/function/BiFunction;)I"⟩ : MethodName) jdk_41_method_12_code 4 (some .int) ({ frames := 0, cells := 0, slots := 0, locals := 0 } : Room) n0 #[(.int i), (.int j), (.int n), (.ref g)] h0 (fun v h => v = some (.int i) ∧ h = h0) := by
  refine Ar #[.val (.int i), .val (.int j), .val (.int n), .val (.ref g)] ?_
  intro p e s m below meth c T0 C S0
  refine Ac C S0 [(0, .iload_n 0, 1)] 1 #[Aa i, Aa j, Aa n, Ab g] [.int i] ?_
  refine Bh C S0 .lt 13 14 (fun (hq : i < (0 : Int32)) => False.elim (h1 hq)) (fun (q1 : ¬ i < (0 : Int32)) => ?_)
  refine Ac C S0 [(4, .iload_n 0, 1), (5, .iload_n 1, 1)] 6 #[Aa i, Aa j, Aa n, Ab g] [.int j, .int i] ?_
  refine Bg C S0 .gt 8 14 (fun (hq : j < i) => False.elim (h2 hq)) (fun (q2 : ¬ j < i) => ?_)
  refine Ac C S0 [(9, .iload_n 1, 1), (10, .iload_n 2, 1)] 11 #[Aa i, Aa j, Aa n, Ab g] [.int n, .int j] ?_
  refine Bg C S0 .le 11 22 (fun (q3 : ¬ n < j) => ?_) (fun (hq : n < j) => False.elim (h3 hq))
  refine Ac C S0 [(22, .iload_n 0, 1)] 23 #[Aa i, Aa j, Aa n, Ab g] [.int i] ?_
  refine Bq C S0 (by decide +kernel) (by decide) (by decide) ?_
  exact ⟨rfl, rfl⟩
theorem own_pd23 : parseMethodDescriptor "(IIILjava/util/function/BiFunction;)I" = some ⟨[.int, .int, .int, (.object "java/util/function/BiFunction")], (some .int)⟩ := by decide +kernel
theorem Du (hw : Aj a0 Z) (G1 : Int32) (G3 : Value) (i : Int32) (j : Int32) (n : Int32) (h0 : Heap) (n0 : Nat) (z0 : n0 ≤ h0.size) (X00 : Old Z n0 h0) (O2 : Sta Z Z.heap "java/lang/String" "COMPACT_STRINGS" "Z" (.int G1)) (O4 : Sta Z Z.heap "jdk/internal/util/Preconditions" "SIOOBE_FORMATTER" "Ljava/util/function/BiFunction;" G3) (P5 : ¬ G1 = (0 : Int32)) (rG3 : G3.isRef = true) (h1 : ¬ i < 0) (h2 : ¬ j < i) (h3 : ¬ n < j) :
    Af l Z (⟨"java/lang/String", "checkBoundsBeginEnd", "(III)V"⟩ : MethodName) jdk_42_method_158_code 3 none ({ frames := 1, cells := 0, slots := 0, locals := 15 } : Room) n0 #[(.int i), (.int j), (.int n)] h0 (fun v h => v = none ∧ h = h0) := by
  refine Ar #[.val (.int i), .val (.int j), .val (.int n)] ?_
  intro p e s m below meth c T0 C S0
  refine Ac C S0 [(0, .iload_n 0, 1), (1, .iload_n 1, 1), (2, .iload_n 2, 1)] 3 #[Aa i, Aa j, Aa n] [.int n, .int j, .int i] ?_
  rcases ref_cases rG3 with e3 | ⟨g, e3⟩
  · subst e3
    refine Bi C S0 (ow hw 84 rfl) Via.refl (O4.ext X00.2) (by decide +kernel) ?_
    intro T1 S2
    refine Ae C S2 hw 98 99 85 100 (own_pfN l Z a0 hw i j n h0 n0 z0 h1 h2 h3) 0 [.int i, .int j, .int n, .null] [] own_pd23 ?_
    rintro T4 h5 v6 L7 S8 ⟨⟨rfl, e3⟩, -⟩
    rw [e3] at S8; clear e3
    refine Ac C S8 [(9, .pop, 1)] 10 #[Aa i, Aa j, Aa n] [] ?_
    refine Ct C S8 (by decide +kernel) (by decide) (by decide) ?_
    exact ⟨rfl, rfl⟩
  · subst e3
    refine Bi C S0 (ow hw 84 rfl) Via.refl (O4.ext X00.2) (by decide +kernel) ?_
    intro T9 S10
    refine Ae C S10 hw 98 99 85 100 (own_pfR l Z a0 hw i j n g h0 n0 z0 h1 h2 h3) 0 [.int i, .int j, .int n, .ref g] [] own_pd23 ?_
    rintro T12 h13 v14 L15 S16 ⟨⟨rfl, e11⟩, -⟩
    rw [e11] at S16; clear e11
    refine Ac C S16 [(9, .pop, 1)] 10 #[Aa i, Aa j, Aa n] [] ?_
    refine Ct C S16 (by decide +kernel) (by decide) (by decide) ?_
    exact ⟨rfl, rfl⟩
theorem own_ckl (hw : Aj a0 Z) (i : Int32) (j : Int32) (h0 : Heap) (n0 : Nat) (z0 : n0 ≤ h0.size) (h2 : ¬ j < i) :
    Af l Z (⟨"java/util/Arrays", "checkLength", "(II)V"⟩ : MethodName) jdk_65_method_131_code 2 none ({ frames := 0, cells := 0, slots := 0, locals := 0 } : Room) n0 #[(.int i), (.int j)] h0 (fun v h => v = none ∧ h = h0) := by
  refine Ar #[.val (.int i), .val (.int j)] ?_
  intro p e s m below meth c T0 C S0
  refine Ac C S0 [(0, .iload_n 1, 1), (1, .iload_n 0, 1)] 2 #[Aa i, Aa j] [.int i, .int j] ?_
  refine Bg C S0 .ge 35 37 (fun (q1 : ¬ j < i) => ?_) (fun (hq : j < i) => False.elim (h2 hq))
  refine Ct C S0 (by decide +kernel) (by decide) (by decide) ?_
  exact ⟨rfl, rfl⟩
theorem own_sib (hw : Aj a0 Z) (x : Addr) (b : Addr) (h0 : Heap) (n0 : Nat) (z0 : n0 ≤ h0.size) (ge_x : n0 ≤ x) (p0 : Exa Z h0 x "java/lang/String") (p1 : Fld Z h0 x "java/lang/String" "value" "[B" .null) (p2 : Fld Z h0 x "java/lang/String" "coder" "B" (.int 0)) :
    Af l Z (⟨"java/lang/String", "<init>", "([BB)V"⟩ : MethodName) jdk_42_method_151_code 3 none ({ frames := 1, cells := 0, slots := 0, locals := 12 } : Room) n0 #[(.ref x), (.ref b), (.int 0)] h0 (fun v h => v = none ∧ Keep h0 h [x] ∧ Exa Z h x "java/lang/String" ∧ Fld Z h x "java/lang/String" "value" "[B" (.ref b) ∧ Fld Z h x "java/lang/String" "coder" "B" (.int 0)) := by
  refine Ar #[.val (.ref x), .val (.ref b), .val (.int 0)] ?_
  intro p e s m below meth c T0 C S0
  refine Ac C S0 [(0, .aload_n 0, 1)] 1 #[Ab x, Ab b, Aa 0] [.ref x] ?_
  refine Dp C S0 (ow hw 27 rfl) (ow hw 28 rfl) (ow hw 29 rfl) rfl (by decide +kernel) (by decide) 0 (Ak rfl) (by decide) ?_
  intro T1 S2
  refine Ac C S2 [(4, .aload_n 0, 1), (5, .aload_n 1, 1)] 6 #[Ab x, Ab b, Aa 0] [.ref b, .ref x] ?_
  refine Db C S2 (ty := (.array .byte)) (host := "") (Or.inl (ow hw 44 rfl)) Via.refl p1 p0 (Or.inr ⟨(ow hw 45 rfl), rfl, rfl⟩) (ow hw 18 rfl) Cy rfl rfl ge_x (by decide +kernel) ?_
  intro T3 h5 S4 W6
  have f7 : Fld Z h5 x "java/lang/String" "value" "[B" (.ref b) := Fld.same W6 p1
  refine Ac C S4 [(9, .aload_n 0, 1), (10, .iload_n 2, 1)] 11 #[Ab x, Ab b, Aa 0] [.int 0, .ref x] ?_
  have f8 := (Fld.other W6 p2 (Or.inr (Er hw)))
  have f9 := (Exa.wr W6 p0)
  refine Db C S4 (ty := .byte) (host := "") (Or.inl (ow hw 42 rfl)) Via.refl f8 f9 (Or.inr ⟨(ow hw 43 rfl), rfl, rfl⟩) (ow hw 18 rfl) Cx rfl rfl ge_x (by decide +kernel) ?_
  intro T10 h12 S11 W13
  have f14 : Fld Z h12 x "java/lang/String" "coder" "B" (.int 0) := Fld.same W13 f8
  refine Ct C S11 (by decide +kernel) (by decide) (by decide) ?_
  have f15 := (Exa.wr W13 f9)
  have f16 := (Fld.other W13 f7 (Or.inr (Ep hw)))
  exact ⟨rfl, (((Keep.refl _ _).wr W6 (Ba 0)).wr W13 (Ba 0)), f15, f16, f14⟩
theorem Dm : parseMethodDescriptor "(III)V" = some ⟨[.int, .int, .int], none⟩ := by decide +kernel
theorem own_su0 (hw : Aj a0 Z) (G1 : Int32) (G3 : Value) (U8 : Addr) (I8 : Addr) (TB : Addr) (DE : Addr) (x : Addr) (xt : Addr) (xtk : ClassId) (vs : List Value) (h0 : Heap) (n0 : Nat) (z0 : n0 ≤ h0.size) (X00 : Old Z n0 h0) (s0 : Exa Z h0 x "java/lang/String") (s1 : Fld Z h0 x "java/lang/String" "value" "[B" (.ref xt)) (s2 : Fld Z h0 x "java/lang/String" "coder" "B" (.int 0)) (s3 : Arv Z h0 xt xtk .byte (0 : Int32) vs (.int 0)) (XS : Ax Z n0 G1 G3 U8 I8 TB DE) :
    Af l Z (⟨"java/lang/String", "substring", "(II)Ljava/lang/String;"⟩ : MethodName) jdk_42_method_92_code 5 (some (.object "java/lang/String")) ({ frames := 2, cells := 0, slots := 0, locals := 29 } : Room) n0 #[(.ref x), (.int 0), (.int 0)] h0 (fun v h => v = some (.ref x) ∧ h = h0) := by
  refine Ar #[.val (.ref x), .val (.int 0), .val (.int 0), .unset, .unset] ?_
  intro p e s m below meth c T0 C S0
  have XS_ := XS
  obtain ⟨O2, O4, P5, rG3, OU, OI, OT, OD, hUI, TBlt, DElt⟩ := XS_
  refine Ac C S0 [(0, .aload_n 0, 1)] 1 #[Ab x, Aa 0, Aa 0, .unset, .unset] [.ref x] ?_
  refine Ah C S0 hw 94 58 60 60 59 61 19 (At l Z a0 hw G1 G3 x _ _ _ _ h0 n0 z0 X00 s0 s1 s2 s3 O2 O4 P5 rG3) 0 s0 [] [] Al ?_
  rintro T2 h3 v4 L5 S6 ⟨⟨rfl, e1⟩, -⟩
  rw [e1] at S6; clear e1
  refine Ac C S6 [(4, .istore_n 3, 1), (5, .iload_n 1, 1), (6, .iload_n 2, 1), (7, .iload_n 3, 1)] 8 #[Ab x, Aa 0, Aa 0, Aa 0, .unset] [.int 0, .int 0, .int 0] ?_
  refine Ae C S6 hw 95 96 19 97 (Du l Z a0 hw G1 G3 0 0 0 h0 n0 z0 X00 O2 O4 P5 rG3 (by decide) (by decide) (by decide)) 0 [.int 0, .int 0, .int 0] [] Dm ?_
  rintro T8 h9 v10 L11 S12 ⟨⟨rfl, e7⟩, -⟩
  rw [e7] at S12; clear e7
  refine Ac C S12 [(11, .iload_n 1, 1), (12, .ifCond .ne 10, 3), (15, .iload_n 2, 1), (16, .iload_n 3, 1), (17, .if_icmp .ne 5, 3), (20, .aload_n 0, 1)] 21 #[Ab x, Aa 0, Aa 0, Aa 0, .unset] [.ref x] ?_
  refine Az C S12 rfl rfl (by decide +kernel) (by decide) (by decide) ?_
  exact ⟨rfl, rfl⟩
theorem Dn : parseMethodDescriptor "(II)Ljava/lang/String;" = some ⟨[.int, .int], (some (.object "java/lang/String"))⟩ := by decide +kernel
theorem own_wp00 (hw : Aj a0 Z) (hEL : EW Z a0 Ca) (wS : ∀ a ∈ Bundle.stringAtoms, a.before a0 Z = true) (G1 : Int32) (G3 : Value) (U8 : Addr) (I8 : Addr) (TB : Addr) (TBk : ClassId) (DE : Addr) (x : Addr) (xt : Addr) (xtk : ClassId) (h0 : Heap) (n0 : Nat) (z0 : n0 ≤ h0.size) (X00 : Old Z n0 h0) (TK : Arv Z h0 TB TBk .int 256 Bs (.int 0)) (DEx : Exa Z h0 DE "java/util/Base64$Decoder") (DEu : Fld Z h0 DE "java/util/Base64$Decoder" "isURL" "Z" (.int 1)) (DEm : Fld Z h0 DE "java/util/Base64$Decoder" "isMIME" "Z" (.int 0)) (s0 : Exa Z h0 x "java/lang/String") (s1 : Fld Z h0 x "java/lang/String" "value" "[B" (.ref xt)) (s2 : Fld Z h0 x "java/lang/String" "coder" "B" (.int 0)) (s3 : Arv Z h0 xt xtk .byte (0 : Int32) ([]) (.int 0)) (s4 : Exa Z h0 xt "[B") (XS : Ax Z n0 G1 G3 U8 I8 TB DE) :
    Cf l Z Ca (⟨"com/example/torrey/torrey/Base64Url", "decodeWithOptionalPadding", "(Ljava/lang/String;)[B"⟩ : MethodName) prog_1_method_4_code 3 (some (.array .byte)) ({ frames := 7, cells := 6, slots := 48, locals := 103 } : Room) n0 #[(.ref x)] h0 [] (fun v h => ∃ r : Addr, ∃ rk : ClassId, v = some (.ref r) ∧ h0.size ≤ r ∧ Keep h0 h [] ∧ Arv Z h r rk .byte (0 : Int32) ([]) (.int 0)) := by
  refine Cm hEL wS (by decide +kernel) #[.val (.ref x), .unset, .unset] (fun m => by first | (simp [entryFrame, mkF, argsToLocals, Value.category]; done) | rfl) ?_
  intro p e s m below meth c T0 CW SW0
  have XS_ := XS
  obtain ⟨O2, O4, P5, rG3, OU, OI, OT, OD, hUI, TBlt, DElt⟩ := XS_
  refine Av CW SW0 ?_
  intro vm1 C S2 rb3
  refine Ac C S2 [(0, .aload_n 0, 1)] 1 #[Ab x, .unset, .unset] [.ref x] ?_
  have SW4 := rb3 _ _ _ _ [] [] S2 (Keep.refl _ _) all0 all0
  refine Cu CW SW4 (ow hw 50 rfl) (by decide +kernel) 16 (by decide) (by decide) (by decide) (by decide) ?_
  intro T5 h6 a7 SW8 E9
  have f10 : n0 ≤ h6.size := (Nat.le_trans z0 E9.1)
  refine Av CW SW8 ?_
  intro vm17 C S18 rb19
  refine Ae C S18 hw 53 54 55 56 (De l Z a0 hw x a7 h6 n0 f10) 0 [.ref x, .ref a7] [] Cv ?_
  rintro T12 h13 v14 L15 S16 ⟨⟨rfl, e11⟩, -⟩
  rw [e11] at S16; clear e11
  refine Ac C S16 [(6, .pop, 1), (7, .aload_n 0, 1)] 8 #[Ab x, .unset, .unset] [.ref x] ?_
  have f20 := (X00.ext E9)
  have f21 := (Exa.ext E9 s0)
  have f22 := (Fld.ext E9 s1)
  have f23 := (Fld.ext E9 s2)
  have f24 := (s3.ext E9)
  refine Ah C S16 hw 57 58 60 60 59 61 19 (At l Z a0 hw G1 G3 x _ _ _ _ h6 n0 f10 f20 f21 f22 f23 f24 O2 O4 P5 rG3) 0 f21 [] [] Al ?_
  rintro T26 h27 v28 L29 S30 ⟨⟨rfl, e25⟩, -⟩
  rw [e25] at S30; clear e25
  refine Ac C S30 [(11, .istore_n 1, 1), (12, .iload_n 1, 1), (13, .ifCond .le 21, 3), (34, .aload_n 0, 1)] 35 #[Ab x, Aa 0, .unset] [.ref x] ?_
  refine Ah C S30 hw 57 58 60 60 59 61 19 (At l Z a0 hw G1 G3 x _ _ _ _ h6 n0 f10 f20 f21 f22 f23 f24 O2 O4 P5 rG3) 0 f21 [] [] Al ?_
  rintro T32 h33 v34 L35 S36 ⟨⟨rfl, e31⟩, -⟩
  rw [e31] at S36; clear e31
  refine Ac C S36 [(38, .iload_n 1, 1), (39, .isub, 1), (40, .istore_n 2, 1), (41, .iload_n 2, 1), (42, .iconst 2, 1), (43, .if_icmp .gt 16, 3), (46, .iload_n 2, 1), (47, .ifCond .le 28, 3), (75, .aload_n 0, 1), (76, .iconst 0, 1), (77, .iload_n 1, 1)] 78 #[Ab x, Aa 0, Aa 0] [.int 0, .int 0, .ref x] ?_
  refine Ah C S36 hw 89 90 92 92 91 93 19 (own_su0 l Z a0 hw G1 G3 U8 I8 TB DE x _ _ _ h6 n0 f10 f20 f21 f22 f23 f24 XS) 0 f21 [.int 0, .int 0] [] Dn ?_
  rintro T38 h39 v40 L41 S42 ⟨⟨rfl, e37⟩, -⟩
  rw [e37] at S42; clear e37
  have f43 := (TK.ext E9)
  have f44 := (Exa.ext E9 DEx)
  have f45 := (Fld.ext E9 DEu)
  have f46 := (Fld.ext E9 DEm)
  have f47 := (Exa.ext E9 s4)
  have SW58 := rb19 _ _ _ _ [] [] S42 (Keep.refl _ _) all0 all0
  refine Br CW SW58 (ow hw 126 rfl) (ow hw 127 rfl) (ow hw 48 rfl) (ow hw 128 rfl) (by decide) (own_du0 l Z a0 hw hEL wS G1 G3 U8 I8 TB TBk DE x _ _ h6 n0 f10 f20 f43 f44 f45 f46 f21 f22 f23 f24 f47 XS) all0 0 (by decide) (by decide) [(.ref x)] [] rfl Cb rfl rfl rfl (Ak rfl) (by decide) (by decide) (by decide +kernel) ?_
  rintro T59 h60 v61 SW62 hg63 ⟨a48, k49, rfl, g50, K51, f52⟩
  refine Ck CW SW62 rfl rfl (by decide +kernel) (by decide) (by decide) ?_
  have o65 : h0.size ≤ h6.size := (Nat.le_trans (Nat.le_refl _) E9.1)
  have o64 : h0.size ≤ a48 := Nat.le_trans o65 g50
  exact ⟨a48, k49, rfl, o64, (((Keep.refl _ _).ext E9).trans K51 all0), f52⟩
theorem own_su2 (hw : Aj a0 Z) (G1 : Int32) (G3 : Value) (U8 : Addr) (I8 : Addr) (TB : Addr) (DE : Addr) (x : Addr) (xt : Addr) (xtk : ClassId) (vs : List Value) (h0 : Heap) (n0 : Nat) (z0 : n0 ≤ h0.size) (X00 : Old Z n0 h0) (s0 : Exa Z h0 x "java/lang/String") (s1 : Fld Z h0 x "java/lang/String" "value" "[B" (.ref xt)) (s2 : Fld Z h0 x "java/lang/String" "coder" "B" (.int 0)) (s3 : Arv Z h0 xt xtk .byte (2 : Int32) vs (.int 0)) (XS : Ax Z n0 G1 G3 U8 I8 TB DE) :
    Af l Z (⟨"java/lang/String", "substring", "(II)Ljava/lang/String;"⟩ : MethodName) jdk_42_method_92_code 5 (some (.object "java/lang/String")) ({ frames := 2, cells := 0, slots := 0, locals := 29 } : Room) n0 #[(.ref x), (.int 0), (.int 2)] h0 (fun v h => v = some (.ref x) ∧ h = h0) := by
  refine Ar #[.val (.ref x), .val (.int 0), .val (.int 2), .unset, .unset] ?_
  intro p e s m below meth c T0 C S0
  have XS_ := XS
  obtain ⟨O2, O4, P5, rG3, OU, OI, OT, OD, hUI, TBlt, DElt⟩ := XS_
  refine Ac C S0 [(0, .aload_n 0, 1)] 1 #[Ab x, Aa 0, Aa 2, .unset, .unset] [.ref x] ?_
  refine Ah C S0 hw 94 58 60 60 59 61 19 (At l Z a0 hw G1 G3 x _ _ _ _ h0 n0 z0 X00 s0 s1 s2 s3 O2 O4 P5 rG3) 0 s0 [] [] Al ?_
  rintro T2 h3 v4 L5 S6 ⟨⟨rfl, e1⟩, -⟩
  rw [e1] at S6; clear e1
  refine Ac C S6 [(4, .istore_n 3, 1), (5, .iload_n 1, 1), (6, .iload_n 2, 1), (7, .iload_n 3, 1)] 8 #[Ab x, Aa 0, Aa 2, Aa 2, .unset] [.int 2, .int 2, .int 0] ?_
  refine Ae C S6 hw 95 96 19 97 (Du l Z a0 hw G1 G3 0 2 2 h0 n0 z0 X00 O2 O4 P5 rG3 (by decide) (by decide) (by decide)) 0 [.int 0, .int 2, .int 2] [] Dm ?_
  rintro T8 h9 v10 L11 S12 ⟨⟨rfl, e7⟩, -⟩
  rw [e7] at S12; clear e7
  refine Ac C S12 [(11, .iload_n 1, 1), (12, .ifCond .ne 10, 3), (15, .iload_n 2, 1), (16, .iload_n 3, 1), (17, .if_icmp .ne 5, 3), (20, .aload_n 0, 1)] 21 #[Ab x, Aa 0, Aa 2, Aa 2, .unset] [.ref x] ?_
  refine Az C S12 rfl rfl (by decide +kernel) (by decide) (by decide) ?_
  exact ⟨rfl, rfl⟩
theorem own_wp22 (hw : Aj a0 Z) (hEL : EW Z a0 Ca) (wS : ∀ a ∈ Bundle.stringAtoms, a.before a0 Z = true) (G1 : Int32) (G3 : Value) (U8 : Addr) (I8 : Addr) (TB : Addr) (TBk : ClassId) (DE : Addr) (x : Addr) (xt : Addr) (xtk : ClassId) (x0 : Int32) (x1 : Int32) (h0 : Heap) (n0 : Nat) (z0 : n0 ≤ h0.size) (X00 : Old Z n0 h0) (TK : Arv Z h0 TB TBk .int 256 Bs (.int 0)) (DEx : Exa Z h0 DE "java/util/Base64$Decoder") (DEu : Fld Z h0 DE "java/util/Base64$Decoder" "isURL" "Z" (.int 1)) (DEm : Fld Z h0 DE "java/util/Base64$Decoder" "isMIME" "Z" (.int 0)) (s0 : Exa Z h0 x "java/lang/String") (s1 : Fld Z h0 x "java/lang/String" "value" "[B" (.ref xt)) (s2 : Fld Z h0 x "java/lang/String" "coder" "B" (.int 0)) (s3 : Arv Z h0 xt xtk .byte (2 : Int32) ([(.int ((Ad x0).toInt8.toInt32)), (.int ((Ad x1).toInt8.toInt32))]) (.int 0)) (s4 : Exa Z h0 xt "[B") (XS : Ax Z n0 G1 G3 U8 I8 TB DE) (hx0 : Ag x0) (hx1 : Ag x1) (hs : (x1 &&& (((1 : Int32) <<< ((4 : Int32) &&& 31)) - (1 : Int32))) = (0 : Int32)) :
    Cf l Z Ca (⟨"com/example/torrey/torrey/Base64Url", "decodeWithOptionalPadding", "(Ljava/lang/String;)[B"⟩ : MethodName) prog_1_method_4_code 3 (some (.array .byte)) ({ frames := 7, cells := 6, slots := 49, locals := 103 } : Room) n0 #[(.ref x)] h0 [] (fun v h => ∃ r : Addr, ∃ rk : ClassId, v = some (.ref r) ∧ h0.size ≤ r ∧ Keep h0 h [] ∧ Arv Z h r rk .byte (1 : Int32) ([(.int (Ay (Dg x0 x1)))]) (.int 0)) := by
  refine Cm hEL wS (by decide +kernel) #[.val (.ref x), .unset, .unset] (fun m => by first | (simp [entryFrame, mkF, argsToLocals, Value.category]; done) | rfl) ?_
  intro p e s m below meth c T0 CW SW0
  have XS_ := XS
  obtain ⟨O2, O4, P5, rG3, OU, OI, OT, OD, hUI, TBlt, DElt⟩ := XS_
  refine Av CW SW0 ?_
  intro vm1 C S2 rb3
  refine Ac C S2 [(0, .aload_n 0, 1)] 1 #[Ab x, .unset, .unset] [.ref x] ?_
  have SW4 := rb3 _ _ _ _ [] [] S2 (Keep.refl _ _) all0 all0
  refine Cu CW SW4 (ow hw 50 rfl) (by decide +kernel) 16 (by decide) (by decide) (by decide) (by decide) ?_
  intro T5 h6 a7 SW8 E9
  have f10 : n0 ≤ h6.size := (Nat.le_trans z0 E9.1)
  refine Av CW SW8 ?_
  intro vm17 C S18 rb19
  refine Ae C S18 hw 53 54 55 56 (De l Z a0 hw x a7 h6 n0 f10) 0 [.ref x, .ref a7] [] Cv ?_
  rintro T12 h13 v14 L15 S16 ⟨⟨rfl, e11⟩, -⟩
  rw [e11] at S16; clear e11
  refine Ac C S16 [(6, .pop, 1), (7, .aload_n 0, 1)] 8 #[Ab x, .unset, .unset] [.ref x] ?_
  have f20 := (X00.ext E9)
  have f21 := (Exa.ext E9 s0)
  have f22 := (Fld.ext E9 s1)
  have f23 := (Fld.ext E9 s2)
  have f24 := (s3.ext E9)
  refine Ah C S16 hw 57 58 60 60 59 61 19 (At l Z a0 hw G1 G3 x _ _ _ _ h6 n0 f10 f20 f21 f22 f23 f24 O2 O4 P5 rG3) 0 f21 [] [] Al ?_
  rintro T26 h27 v28 L29 S30 ⟨⟨rfl, e25⟩, -⟩
  rw [e25] at S30; clear e25
  refine Ac C S30 [(11, .istore_n 1, 1), (12, .iload_n 1, 1), (13, .ifCond .le 21, 3), (16, .aload_n 0, 1), (17, .iload_n 1, 1), (18, .iconst 1, 1), (19, .isub, 1)] 20 #[Ab x, Aa 2, .unset] [.int 1, .ref x] ?_
  refine Ah C S30 hw 67 68 70 70 69 71 19 (Bm l Z a0 hw G1 G3 x _ _ _ _ 1 ((Ad x1).toInt8.toInt32) (Ad x1) h6 n0 f10 f20 f21 f22 f23 f24 O2 O4 P5 rG3 (⟨(by decide), (by decide)⟩) rfl (Ce hx1) (Ai hx1)) 0 f21 [.int 1] [] Be ?_
  rintro T32 h33 v34 L35 S36 ⟨⟨rfl, e31⟩, -⟩
  rw [e31] at S36; clear e31
  refine Ac C S36 [(23, .bipush 61, 2)] 25 #[Ab x, Aa 2, .unset] [.int 61, .int (Ad x1)] ?_
  refine Bg C S36 .ne 9 34 (fun (q37 : ¬ (Ad x1) = (61 : Int32)) => ?_) (fun (hq : (Ad x1) = (61 : Int32)) => False.elim (Do hx1 hq))
  refine Ac C S36 [(34, .aload_n 0, 1)] 35 #[Ab x, Aa 2, .unset] [.ref x] ?_
  refine Ah C S36 hw 57 58 60 60 59 61 19 (At l Z a0 hw G1 G3 x _ _ _ _ h6 n0 f10 f20 f21 f22 f23 f24 O2 O4 P5 rG3) 0 f21 [] [] Al ?_
  rintro T39 h40 v41 L42 S43 ⟨⟨rfl, e38⟩, -⟩
  rw [e38] at S43; clear e38
  refine Ac C S43 [(38, .iload_n 1, 1), (39, .isub, 1), (40, .istore_n 2, 1), (41, .iload_n 2, 1), (42, .iconst 2, 1), (43, .if_icmp .gt 16, 3), (46, .iload_n 2, 1), (47, .ifCond .le 28, 3), (75, .aload_n 0, 1), (76, .iconst 0, 1), (77, .iload_n 1, 1)] 78 #[Ab x, Aa 2, Aa 0] [.int 2, .int 0, .ref x] ?_
  refine Ah C S43 hw 89 90 92 92 91 93 19 (own_su2 l Z a0 hw G1 G3 U8 I8 TB DE x _ _ _ h6 n0 f10 f20 f21 f22 f23 f24 XS) 0 f21 [.int 0, .int 2] [] Dn ?_
  rintro T45 h46 v47 L48 S49 ⟨⟨rfl, e44⟩, -⟩
  rw [e44] at S49; clear e44
  have f50 := (TK.ext E9)
  have f51 := (Exa.ext E9 DEx)
  have f52 := (Fld.ext E9 DEu)
  have f53 := (Fld.ext E9 DEm)
  have f54 := (Exa.ext E9 s4)
  have SW65 := rb19 _ _ _ _ [] [] S49 (Keep.refl _ _) all0 all0
  refine Br CW SW65 (ow hw 126 rfl) (ow hw 127 rfl) (ow hw 48 rfl) (ow hw 128 rfl) (by decide) (own_du2 l Z a0 hw hEL wS G1 G3 U8 I8 TB TBk DE x _ _ x0 x1 h6 n0 f10 f20 f50 f51 f52 f53 f21 f22 f23 f24 f54 XS hx0 hx1 hs) all0 0 (by decide) (by decide) [(.ref x)] [] rfl Cb rfl rfl rfl (Ak rfl) (by decide) (by decide) (by decide +kernel) ?_
  rintro T66 h67 v68 SW69 hg70 ⟨a55, k56, rfl, g57, K58, f59⟩
  refine Ck CW SW69 rfl rfl (by decide +kernel) (by decide) (by decide) ?_
  have o72 : h0.size ≤ h6.size := (Nat.le_trans (Nat.le_refl _) E9.1)
  have o71 : h0.size ≤ a55 := Nat.le_trans o72 g57
  exact ⟨a55, k56, rfl, o71, (((Keep.refl _ _).ext E9).trans K58 all0), f59⟩
theorem own_su3 (hw : Aj a0 Z) (G1 : Int32) (G3 : Value) (U8 : Addr) (I8 : Addr) (TB : Addr) (DE : Addr) (x : Addr) (xt : Addr) (xtk : ClassId) (vs : List Value) (h0 : Heap) (n0 : Nat) (z0 : n0 ≤ h0.size) (X00 : Old Z n0 h0) (s0 : Exa Z h0 x "java/lang/String") (s1 : Fld Z h0 x "java/lang/String" "value" "[B" (.ref xt)) (s2 : Fld Z h0 x "java/lang/String" "coder" "B" (.int 0)) (s3 : Arv Z h0 xt xtk .byte (3 : Int32) vs (.int 0)) (XS : Ax Z n0 G1 G3 U8 I8 TB DE) :
    Af l Z (⟨"java/lang/String", "substring", "(II)Ljava/lang/String;"⟩ : MethodName) jdk_42_method_92_code 5 (some (.object "java/lang/String")) ({ frames := 2, cells := 0, slots := 0, locals := 29 } : Room) n0 #[(.ref x), (.int 0), (.int 3)] h0 (fun v h => v = some (.ref x) ∧ h = h0) := by
  refine Ar #[.val (.ref x), .val (.int 0), .val (.int 3), .unset, .unset] ?_
  intro p e s m below meth c T0 C S0
  have XS_ := XS
  obtain ⟨O2, O4, P5, rG3, OU, OI, OT, OD, hUI, TBlt, DElt⟩ := XS_
  refine Ac C S0 [(0, .aload_n 0, 1)] 1 #[Ab x, Aa 0, Aa 3, .unset, .unset] [.ref x] ?_
  refine Ah C S0 hw 94 58 60 60 59 61 19 (At l Z a0 hw G1 G3 x _ _ _ _ h0 n0 z0 X00 s0 s1 s2 s3 O2 O4 P5 rG3) 0 s0 [] [] Al ?_
  rintro T2 h3 v4 L5 S6 ⟨⟨rfl, e1⟩, -⟩
  rw [e1] at S6; clear e1
  refine Ac C S6 [(4, .istore_n 3, 1), (5, .iload_n 1, 1), (6, .iload_n 2, 1), (7, .iload_n 3, 1)] 8 #[Ab x, Aa 0, Aa 3, Aa 3, .unset] [.int 3, .int 3, .int 0] ?_
  refine Ae C S6 hw 95 96 19 97 (Du l Z a0 hw G1 G3 0 3 3 h0 n0 z0 X00 O2 O4 P5 rG3 (by decide) (by decide) (by decide)) 0 [.int 0, .int 3, .int 3] [] Dm ?_
  rintro T8 h9 v10 L11 S12 ⟨⟨rfl, e7⟩, -⟩
  rw [e7] at S12; clear e7
  refine Ac C S12 [(11, .iload_n 1, 1), (12, .ifCond .ne 10, 3), (15, .iload_n 2, 1), (16, .iload_n 3, 1), (17, .if_icmp .ne 5, 3), (20, .aload_n 0, 1)] 21 #[Ab x, Aa 0, Aa 3, Aa 3, .unset] [.ref x] ?_
  refine Az C S12 rfl rfl (by decide +kernel) (by decide) (by decide) ?_
  exact ⟨rfl, rfl⟩
theorem own_wp33 (hw : Aj a0 Z) (hEL : EW Z a0 Ca) (wS : ∀ a ∈ Bundle.stringAtoms, a.before a0 Z = true) (G1 : Int32) (G3 : Value) (U8 : Addr) (I8 : Addr) (TB : Addr) (TBk : ClassId) (DE : Addr) (x : Addr) (xt : Addr) (xtk : ClassId) (x0 : Int32) (x1 : Int32) (x2 : Int32) (h0 : Heap) (n0 : Nat) (z0 : n0 ≤ h0.size) (X00 : Old Z n0 h0) (TK : Arv Z h0 TB TBk .int 256 Bs (.int 0)) (DEx : Exa Z h0 DE "java/util/Base64$Decoder") (DEu : Fld Z h0 DE "java/util/Base64$Decoder" "isURL" "Z" (.int 1)) (DEm : Fld Z h0 DE "java/util/Base64$Decoder" "isMIME" "Z" (.int 0)) (s0 : Exa Z h0 x "java/lang/String") (s1 : Fld Z h0 x "java/lang/String" "value" "[B" (.ref xt)) (s2 : Fld Z h0 x "java/lang/String" "coder" "B" (.int 0)) (s3 : Arv Z h0 xt xtk .byte (3 : Int32) ([(.int ((Ad x0).toInt8.toInt32)), (.int ((Ad x1).toInt8.toInt32)), (.int ((Ad x2).toInt8.toInt32))]) (.int 0)) (s4 : Exa Z h0 xt "[B") (XS : Ax Z n0 G1 G3 U8 I8 TB DE) (hx0 : Ag x0) (hx1 : Ag x1) (hx2 : Ag x2) (hs : (x2 &&& (((1 : Int32) <<< ((2 : Int32) &&& 31)) - (1 : Int32))) = (0 : Int32)) :
    Cf l Z Ca (⟨"com/example/torrey/torrey/Base64Url", "decodeWithOptionalPadding", "(Ljava/lang/String;)[B"⟩ : MethodName) prog_1_method_4_code 3 (some (.array .byte)) ({ frames := 7, cells := 6, slots := 50, locals := 103 } : Room) n0 #[(.ref x)] h0 [] (fun v h => ∃ r : Addr, ∃ rk : ClassId, v = some (.ref r) ∧ h0.size ≤ r ∧ Keep h0 h [] ∧ Arv Z h r rk .byte (2 : Int32) ([(.int (Ay (Ci x0 x1 x2))), (.int (Bk (Ci x0 x1 x2)))]) (.int 0)) := by
  refine Cm hEL wS (by decide +kernel) #[.val (.ref x), .unset, .unset] (fun m => by first | (simp [entryFrame, mkF, argsToLocals, Value.category]; done) | rfl) ?_
  intro p e s m below meth c T0 CW SW0
  have XS_ := XS
  obtain ⟨O2, O4, P5, rG3, OU, OI, OT, OD, hUI, TBlt, DElt⟩ := XS_
  refine Av CW SW0 ?_
  intro vm1 C S2 rb3
  refine Ac C S2 [(0, .aload_n 0, 1)] 1 #[Ab x, .unset, .unset] [.ref x] ?_
  have SW4 := rb3 _ _ _ _ [] [] S2 (Keep.refl _ _) all0 all0
  refine Cu CW SW4 (ow hw 50 rfl) (by decide +kernel) 16 (by decide) (by decide) (by decide) (by decide) ?_
  intro T5 h6 a7 SW8 E9
  have f10 : n0 ≤ h6.size := (Nat.le_trans z0 E9.1)
  refine Av CW SW8 ?_
  intro vm17 C S18 rb19
  refine Ae C S18 hw 53 54 55 56 (De l Z a0 hw x a7 h6 n0 f10) 0 [.ref x, .ref a7] [] Cv ?_
  rintro T12 h13 v14 L15 S16 ⟨⟨rfl, e11⟩, -⟩
  rw [e11] at S16; clear e11
  refine Ac C S16 [(6, .pop, 1), (7, .aload_n 0, 1)] 8 #[Ab x, .unset, .unset] [.ref x] ?_
  have f20 := (X00.ext E9)
  have f21 := (Exa.ext E9 s0)
  have f22 := (Fld.ext E9 s1)
  have f23 := (Fld.ext E9 s2)
  have f24 := (s3.ext E9)
  refine Ah C S16 hw 57 58 60 60 59 61 19 (At l Z a0 hw G1 G3 x _ _ _ _ h6 n0 f10 f20 f21 f22 f23 f24 O2 O4 P5 rG3) 0 f21 [] [] Al ?_
  rintro T26 h27 v28 L29 S30 ⟨⟨rfl, e25⟩, -⟩
  rw [e25] at S30; clear e25
  refine Ac C S30 [(11, .istore_n 1, 1), (12, .iload_n 1, 1), (13, .ifCond .le 21, 3), (16, .aload_n 0, 1), (17, .iload_n 1, 1), (18, .iconst 1, 1), (19, .isub, 1)] 20 #[Ab x, Aa 3, .unset] [.int 2, .ref x] ?_
  refine Ah C S30 hw 67 68 70 70 69 71 19 (Bm l Z a0 hw G1 G3 x _ _ _ _ 2 ((Ad x2).toInt8.toInt32) (Ad x2) h6 n0 f10 f20 f21 f22 f23 f24 O2 O4 P5 rG3 (⟨(by decide), (by decide)⟩) rfl (Ce hx2) (Ai hx2)) 0 f21 [.int 2] [] Be ?_
  rintro T32 h33 v34 L35 S36 ⟨⟨rfl, e31⟩, -⟩
  rw [e31] at S36; clear e31
  refine Ac C S36 [(23, .bipush 61, 2)] 25 #[Ab x, Aa 3, .unset] [.int 61, .int (Ad x2)] ?_
  refine Bg C S36 .ne 9 34 (fun (q37 : ¬ (Ad x2) = (61 : Int32)) => ?_) (fun (hq : (Ad x2) = (61 : Int32)) => False.elim (Do hx2 hq))
  refine Ac C S36 [(34, .aload_n 0, 1)] 35 #[Ab x, Aa 3, .unset] [.ref x] ?_
  refine Ah C S36 hw 57 58 60 60 59 61 19 (At l Z a0 hw G1 G3 x _ _ _ _ h6 n0 f10 f20 f21 f22 f23 f24 O2 O4 P5 rG3) 0 f21 [] [] Al ?_
  rintro T39 h40 v41 L42 S43 ⟨⟨rfl, e38⟩, -⟩
  rw [e38] at S43; clear e38
  refine Ac C S43 [(38, .iload_n 1, 1), (39, .isub, 1), (40, .istore_n 2, 1), (41, .iload_n 2, 1), (42, .iconst 2, 1), (43, .if_icmp .gt 16, 3), (46, .iload_n 2, 1), (47, .ifCond .le 28, 3), (75, .aload_n 0, 1), (76, .iconst 0, 1), (77, .iload_n 1, 1)] 78 #[Ab x, Aa 3, Aa 0] [.int 3, .int 0, .ref x] ?_
  refine Ah C S43 hw 89 90 92 92 91 93 19 (own_su3 l Z a0 hw G1 G3 U8 I8 TB DE x _ _ _ h6 n0 f10 f20 f21 f22 f23 f24 XS) 0 f21 [.int 0, .int 3] [] Dn ?_
  rintro T45 h46 v47 L48 S49 ⟨⟨rfl, e44⟩, -⟩
  rw [e44] at S49; clear e44
  have f50 := (TK.ext E9)
  have f51 := (Exa.ext E9 DEx)
  have f52 := (Fld.ext E9 DEu)
  have f53 := (Fld.ext E9 DEm)
  have f54 := (Exa.ext E9 s4)
  have SW65 := rb19 _ _ _ _ [] [] S49 (Keep.refl _ _) all0 all0
  refine Br CW SW65 (ow hw 126 rfl) (ow hw 127 rfl) (ow hw 48 rfl) (ow hw 128 rfl) (by decide) (own_du3 l Z a0 hw hEL wS G1 G3 U8 I8 TB TBk DE x _ _ x0 x1 x2 h6 n0 f10 f20 f50 f51 f52 f53 f21 f22 f23 f24 f54 XS hx0 hx1 hx2 hs) all0 0 (by decide) (by decide) [(.ref x)] [] rfl Cb rfl rfl rfl (Ak rfl) (by decide) (by decide) (by decide +kernel) ?_
  rintro T66 h67 v68 SW69 hg70 ⟨a55, k56, rfl, g57, K58, f59⟩
  refine Ck CW SW69 rfl rfl (by decide +kernel) (by decide) (by decide) ?_
  have o72 : h0.size ≤ h6.size := (Nat.le_trans (Nat.le_refl _) E9.1)
  have o71 : h0.size ≤ a55 := Nat.le_trans o72 g57
  exact ⟨a55, k56, rfl, o71, (((Keep.refl _ _).ext E9).trans K58 all0), f59⟩
theorem own_su4 (hw : Aj a0 Z) (G1 : Int32) (G3 : Value) (U8 : Addr) (I8 : Addr) (TB : Addr) (DE : Addr) (x : Addr) (xt : Addr) (xtk : ClassId) (vs : List Value) (h0 : Heap) (n0 : Nat) (z0 : n0 ≤ h0.size) (X00 : Old Z n0 h0) (s0 : Exa Z h0 x "java/lang/String") (s1 : Fld Z h0 x "java/lang/String" "value" "[B" (.ref xt)) (s2 : Fld Z h0 x "java/lang/String" "coder" "B" (.int 0)) (s3 : Arv Z h0 xt xtk .byte (4 : Int32) vs (.int 0)) (XS : Ax Z n0 G1 G3 U8 I8 TB DE) :
    Af l Z (⟨"java/lang/String", "substring", "(II)Ljava/lang/String;"⟩ : MethodName) jdk_42_method_92_code 5 (some (.object "java/lang/String")) ({ frames := 2, cells := 0, slots := 0, locals := 29 } : Room) n0 #[(.ref x), (.int 0), (.int 4)] h0 (fun v h => v = some (.ref x) ∧ h = h0) := by
  refine Ar #[.val (.ref x), .val (.int 0), .val (.int 4), .unset, .unset] ?_
  intro p e s m below meth c T0 C S0
  have XS_ := XS
  obtain ⟨O2, O4, P5, rG3, OU, OI, OT, OD, hUI, TBlt, DElt⟩ := XS_
  refine Ac C S0 [(0, .aload_n 0, 1)] 1 #[Ab x, Aa 0, Aa 4, .unset, .unset] [.ref x] ?_
  refine Ah C S0 hw 94 58 60 60 59 61 19 (At l Z a0 hw G1 G3 x _ _ _ _ h0 n0 z0 X00 s0 s1 s2 s3 O2 O4 P5 rG3) 0 s0 [] [] Al ?_
  rintro T2 h3 v4 L5 S6 ⟨⟨rfl, e1⟩, -⟩
  rw [e1] at S6; clear e1
  refine Ac C S6 [(4, .istore_n 3, 1), (5, .iload_n 1, 1), (6, .iload_n 2, 1), (7, .iload_n 3, 1)] 8 #[Ab x, Aa 0, Aa 4, Aa 4, .unset] [.int 4, .int 4, .int 0] ?_
  refine Ae C S6 hw 95 96 19 97 (Du l Z a0 hw G1 G3 0 4 4 h0 n0 z0 X00 O2 O4 P5 rG3 (by decide) (by decide) (by decide)) 0 [.int 0, .int 4, .int 4] [] Dm ?_
  rintro T8 h9 v10 L11 S12 ⟨⟨rfl, e7⟩, -⟩
  rw [e7] at S12; clear e7
  refine Ac C S12 [(11, .iload_n 1, 1), (12, .ifCond .ne 10, 3), (15, .iload_n 2, 1), (16, .iload_n 3, 1), (17, .if_icmp .ne 5, 3), (20, .aload_n 0, 1)] 21 #[Ab x, Aa 0, Aa 4, Aa 4, .unset] [.ref x] ?_
  refine Az C S12 rfl rfl (by decide +kernel) (by decide) (by decide) ?_
  exact ⟨rfl, rfl⟩
theorem own_wp44 (hw : Aj a0 Z) (hEL : EW Z a0 Ca) (wS : ∀ a ∈ Bundle.stringAtoms, a.before a0 Z = true) (G1 : Int32) (G3 : Value) (U8 : Addr) (I8 : Addr) (TB : Addr) (TBk : ClassId) (DE : Addr) (x : Addr) (xt : Addr) (xtk : ClassId) (x0 : Int32) (x1 : Int32) (x2 : Int32) (x3 : Int32) (h0 : Heap) (n0 : Nat) (z0 : n0 ≤ h0.size) (X00 : Old Z n0 h0) (TK : Arv Z h0 TB TBk .int 256 Bs (.int 0)) (DEx : Exa Z h0 DE "java/util/Base64$Decoder") (DEu : Fld Z h0 DE "java/util/Base64$Decoder" "isURL" "Z" (.int 1)) (DEm : Fld Z h0 DE "java/util/Base64$Decoder" "isMIME" "Z" (.int 0)) (s0 : Exa Z h0 x "java/lang/String") (s1 : Fld Z h0 x "java/lang/String" "value" "[B" (.ref xt)) (s2 : Fld Z h0 x "java/lang/String" "coder" "B" (.int 0)) (s3 : Arv Z h0 xt xtk .byte (4 : Int32) ([(.int ((Ad x0).toInt8.toInt32)), (.int ((Ad x1).toInt8.toInt32)), (.int ((Ad x2).toInt8.toInt32)), (.int ((Ad x3).toInt8.toInt32))]) (.int 0)) (s4 : Exa Z h0 xt "[B") (XS : Ax Z n0 G1 G3 U8 I8 TB DE) (hx0 : Ag x0) (hx1 : Ag x1) (hx2 : Ag x2) (hx3 : Ag x3) :
    Cf l Z Ca (⟨"com/example/torrey/torrey/Base64Url", "decodeWithOptionalPadding", "(Ljava/lang/String;)[B"⟩ : MethodName) prog_1_method_4_code 3 (some (.array .byte)) ({ frames := 7, cells := 6, slots := 51, locals := 103 } : Room) n0 #[(.ref x)] h0 [] (fun v h => ∃ r : Addr, ∃ rk : ClassId, v = some (.ref r) ∧ h0.size ≤ r ∧ Keep h0 h [] ∧ Arv Z h r rk .byte (3 : Int32) ([(.int (Ay (Cz x0 x1 x2 x3))), (.int (Bk (Cz x0 x1 x2 x3))), (.int (Cc (Cz x0 x1 x2 x3)))]) (.int 0)) := by
  refine Cm hEL wS (by decide +kernel) #[.val (.ref x), .unset, .unset] (fun m => by first | (simp [entryFrame, mkF, argsToLocals, Value.category]; done) | rfl) ?_
  intro p e s m below meth c T0 CW SW0
  have XS_ := XS
  obtain ⟨O2, O4, P5, rG3, OU, OI, OT, OD, hUI, TBlt, DElt⟩ := XS_
  refine Av CW SW0 ?_
  intro vm1 C S2 rb3
  refine Ac C S2 [(0, .aload_n 0, 1)] 1 #[Ab x, .unset, .unset] [.ref x] ?_
  have SW4 := rb3 _ _ _ _ [] [] S2 (Keep.refl _ _) all0 all0
  refine Cu CW SW4 (ow hw 50 rfl) (by decide +kernel) 16 (by decide) (by decide) (by decide) (by decide) ?_
  intro T5 h6 a7 SW8 E9
  have f10 : n0 ≤ h6.size := (Nat.le_trans z0 E9.1)
  refine Av CW SW8 ?_
  intro vm17 C S18 rb19
  refine Ae C S18 hw 53 54 55 56 (De l Z a0 hw x a7 h6 n0 f10) 0 [.ref x, .ref a7] [] Cv ?_
  rintro T12 h13 v14 L15 S16 ⟨⟨rfl, e11⟩, -⟩
  rw [e11] at S16; clear e11
  refine Ac C S16 [(6, .pop, 1), (7, .aload_n 0, 1)] 8 #[Ab x, .unset, .unset] [.ref x] ?_
  have f20 := (X00.ext E9)
  have f21 := (Exa.ext E9 s0)
  have f22 := (Fld.ext E9 s1)
  have f23 := (Fld.ext E9 s2)
  have f24 := (s3.ext E9)
  refine Ah C S16 hw 57 58 60 60 59 61 19 (At l Z a0 hw G1 G3 x _ _ _ _ h6 n0 f10 f20 f21 f22 f23 f24 O2 O4 P5 rG3) 0 f21 [] [] Al ?_
  rintro T26 h27 v28 L29 S30 ⟨⟨rfl, e25⟩, -⟩
  rw [e25] at S30; clear e25
  refine Ac C S30 [(11, .istore_n 1, 1), (12, .iload_n 1, 1), (13, .ifCond .le 21, 3), (16, .aload_n 0, 1), (17, .iload_n 1, 1), (18, .iconst 1, 1), (19, .isub, 1)] 20 #[Ab x, Aa 4, .unset] [.int 3, .ref x] ?_
  refine Ah C S30 hw 67 68 70 70 69 71 19 (Bm l Z a0 hw G1 G3 x _ _ _ _ 3 ((Ad x3).toInt8.toInt32) (Ad x3) h6 n0 f10 f20 f21 f22 f23 f24 O2 O4 P5 rG3 (⟨(by decide), (by decide)⟩) rfl (Ce hx3) (Ai hx3)) 0 f21 [.int 3] [] Be ?_
  rintro T32 h33 v34 L35 S36 ⟨⟨rfl, e31⟩, -⟩
  rw [e31] at S36; clear e31
  refine Ac C S36 [(23, .bipush 61, 2)] 25 #[Ab x, Aa 4, .unset] [.int 61, .int (Ad x3)] ?_
  refine Bg C S36 .ne 9 34 (fun (q37 : ¬ (Ad x3) = (61 : Int32)) => ?_) (fun (hq : (Ad x3) = (61 : Int32)) => False.elim (Do hx3 hq))
  refine Ac C S36 [(34, .aload_n 0, 1)] 35 #[Ab x, Aa 4, .unset] [.ref x] ?_
  refine Ah C S36 hw 57 58 60 60 59 61 19 (At l Z a0 hw G1 G3 x _ _ _ _ h6 n0 f10 f20 f21 f22 f23 f24 O2 O4 P5 rG3) 0 f21 [] [] Al ?_
  rintro T39 h40 v41 L42 S43 ⟨⟨rfl, e38⟩, -⟩
  rw [e38] at S43; clear e38
  refine Ac C S43 [(38, .iload_n 1, 1), (39, .isub, 1), (40, .istore_n 2, 1), (41, .iload_n 2, 1), (42, .iconst 2, 1), (43, .if_icmp .gt 16, 3), (46, .iload_n 2, 1), (47, .ifCond .le 28, 3), (75, .aload_n 0, 1), (76, .iconst 0, 1), (77, .iload_n 1, 1)] 78 #[Ab x, Aa 4, Aa 0] [.int 4, .int 0, .ref x] ?_
  refine Ah C S43 hw 89 90 92 92 91 93 19 (own_su4 l Z a0 hw G1 G3 U8 I8 TB DE x _ _ _ h6 n0 f10 f20 f21 f22 f23 f24 XS) 0 f21 [.int 0, .int 4] [] Dn ?_
  rintro T45 h46 v47 L48 S49 ⟨⟨rfl, e44⟩, -⟩
  rw [e44] at S49; clear e44
  have f50 := (TK.ext E9)
  have f51 := (Exa.ext E9 DEx)
  have f52 := (Fld.ext E9 DEu)
  have f53 := (Fld.ext E9 DEm)
  have f54 := (Exa.ext E9 s4)
  have SW65 := rb19 _ _ _ _ [] [] S49 (Keep.refl _ _) all0 all0
  refine Br CW SW65 (ow hw 126 rfl) (ow hw 127 rfl) (ow hw 48 rfl) (ow hw 128 rfl) (by decide) (own_du4 l Z a0 hw hEL wS G1 G3 U8 I8 TB TBk DE x _ _ x0 x1 x2 x3 h6 n0 f10 f20 f50 f51 f52 f53 f21 f22 f23 f24 f54 XS hx0 hx1 hx2 hx3) all0 0 (by decide) (by decide) [(.ref x)] [] rfl Cb rfl rfl rfl (Ak rfl) (by decide) (by decide) (by decide +kernel) ?_
  rintro T66 h67 v68 SW69 hg70 ⟨a55, k56, rfl, g57, K58, f59⟩
  refine Ck CW SW69 rfl rfl (by decide +kernel) (by decide) (by decide) ?_
  have o72 : h0.size ≤ h6.size := (Nat.le_trans (Nat.le_refl _) E9.1)
  have o71 : h0.size ≤ a55 := Nat.le_trans o72 g57
  exact ⟨a55, k56, rfl, o71, (((Keep.refl _ _).ext E9).trans K58 all0), f59⟩
theorem own_su6 (hw : Aj a0 Z) (G1 : Int32) (G3 : Value) (U8 : Addr) (I8 : Addr) (TB : Addr) (DE : Addr) (x : Addr) (xt : Addr) (xtk : ClassId) (vs : List Value) (h0 : Heap) (n0 : Nat) (z0 : n0 ≤ h0.size) (X00 : Old Z n0 h0) (s0 : Exa Z h0 x "java/lang/String") (s1 : Fld Z h0 x "java/lang/String" "value" "[B" (.ref xt)) (s2 : Fld Z h0 x "java/lang/String" "coder" "B" (.int 0)) (s3 : Arv Z h0 xt xtk .byte (6 : Int32) vs (.int 0)) (XS : Ax Z n0 G1 G3 U8 I8 TB DE) :
    Af l Z (⟨"java/lang/String", "substring", "(II)Ljava/lang/String;"⟩ : MethodName) jdk_42_method_92_code 5 (some (.object "java/lang/String")) ({ frames := 2, cells := 0, slots := 0, locals := 29 } : Room) n0 #[(.ref x), (.int 0), (.int 6)] h0 (fun v h => v = some (.ref x) ∧ h = h0) := by
  refine Ar #[.val (.ref x), .val (.int 0), .val (.int 6), .unset, .unset] ?_
  intro p e s m below meth c T0 C S0
  have XS_ := XS
  obtain ⟨O2, O4, P5, rG3, OU, OI, OT, OD, hUI, TBlt, DElt⟩ := XS_
  refine Ac C S0 [(0, .aload_n 0, 1)] 1 #[Ab x, Aa 0, Aa 6, .unset, .unset] [.ref x] ?_
  refine Ah C S0 hw 94 58 60 60 59 61 19 (At l Z a0 hw G1 G3 x _ _ _ _ h0 n0 z0 X00 s0 s1 s2 s3 O2 O4 P5 rG3) 0 s0 [] [] Al ?_
  rintro T2 h3 v4 L5 S6 ⟨⟨rfl, e1⟩, -⟩
  rw [e1] at S6; clear e1
  refine Ac C S6 [(4, .istore_n 3, 1), (5, .iload_n 1, 1), (6, .iload_n 2, 1), (7, .iload_n 3, 1)] 8 #[Ab x, Aa 0, Aa 6, Aa 6, .unset] [.int 6, .int 6, .int 0] ?_
  refine Ae C S6 hw 95 96 19 97 (Du l Z a0 hw G1 G3 0 6 6 h0 n0 z0 X00 O2 O4 P5 rG3 (by decide) (by decide) (by decide)) 0 [.int 0, .int 6, .int 6] [] Dm ?_
  rintro T8 h9 v10 L11 S12 ⟨⟨rfl, e7⟩, -⟩
  rw [e7] at S12; clear e7
  refine Ac C S12 [(11, .iload_n 1, 1), (12, .ifCond .ne 10, 3), (15, .iload_n 2, 1), (16, .iload_n 3, 1), (17, .if_icmp .ne 5, 3), (20, .aload_n 0, 1)] 21 #[Ab x, Aa 0, Aa 6, Aa 6, .unset] [.ref x] ?_
  refine Az C S12 rfl rfl (by decide +kernel) (by decide) (by decide) ?_
  exact ⟨rfl, rfl⟩
theorem own_wp66 (hw : Aj a0 Z) (hEL : EW Z a0 Ca) (wS : ∀ a ∈ Bundle.stringAtoms, a.before a0 Z = true) (G1 : Int32) (G3 : Value) (U8 : Addr) (I8 : Addr) (TB : Addr) (TBk : ClassId) (DE : Addr) (x : Addr) (xt : Addr) (xtk : ClassId) (x0 : Int32) (x1 : Int32) (x2 : Int32) (x3 : Int32) (x4 : Int32) (x5 : Int32) (h0 : Heap) (n0 : Nat) (z0 : n0 ≤ h0.size) (X00 : Old Z n0 h0) (TK : Arv Z h0 TB TBk .int 256 Bs (.int 0)) (DEx : Exa Z h0 DE "java/util/Base64$Decoder") (DEu : Fld Z h0 DE "java/util/Base64$Decoder" "isURL" "Z" (.int 1)) (DEm : Fld Z h0 DE "java/util/Base64$Decoder" "isMIME" "Z" (.int 0)) (s0 : Exa Z h0 x "java/lang/String") (s1 : Fld Z h0 x "java/lang/String" "value" "[B" (.ref xt)) (s2 : Fld Z h0 x "java/lang/String" "coder" "B" (.int 0)) (s3 : Arv Z h0 xt xtk .byte (6 : Int32) ([(.int ((Ad x0).toInt8.toInt32)), (.int ((Ad x1).toInt8.toInt32)), (.int ((Ad x2).toInt8.toInt32)), (.int ((Ad x3).toInt8.toInt32)), (.int ((Ad x4).toInt8.toInt32)), (.int ((Ad x5).toInt8.toInt32))]) (.int 0)) (s4 : Exa Z h0 xt "[B") (XS : Ax Z n0 G1 G3 U8 I8 TB DE) (hx0 : Ag x0) (hx1 : Ag x1) (hx2 : Ag x2) (hx3 : Ag x3) (hx4 : Ag x4) (hx5 : Ag x5) (hs : (x5 &&& (((1 : Int32) <<< ((4 : Int32) &&& 31)) - (1 : Int32))) = (0 : Int32)) :
    Cf l Z Ca (⟨"com/example/torrey/torrey/Base64Url", "decodeWithOptionalPadding", "(Ljava/lang/String;)[B"⟩ : MethodName) prog_1_method_4_code 3 (some (.array .byte)) ({ frames := 7, cells := 6, slots := 52, locals := 103 } : Room) n0 #[(.ref x)] h0 [] (fun v h => ∃ r : Addr, ∃ rk : ClassId, v = some (.ref r) ∧ h0.size ≤ r ∧ Keep h0 h [] ∧ Arv Z h r rk .byte (4 : Int32) ([(.int (Ay (Aq x0 x1 x2 x3))), (.int (Bk (Aq x0 x1 x2 x3))), (.int (Cc (Aq x0 x1 x2 x3))), (.int (Ay (Dg x4 x5)))]) (.int 0)) := by
  refine Cm hEL wS (by decide +kernel) #[.val (.ref x), .unset, .unset] (fun m => by first | (simp [entryFrame, mkF, argsToLocals, Value.category]; done) | rfl) ?_
  intro p e s m below meth c T0 CW SW0
  have XS_ := XS
  obtain ⟨O2, O4, P5, rG3, OU, OI, OT, OD, hUI, TBlt, DElt⟩ := XS_
  refine Av CW SW0 ?_
  intro vm1 C S2 rb3
  refine Ac C S2 [(0, .aload_n 0, 1)] 1 #[Ab x, .unset, .unset] [.ref x] ?_
  have SW4 := rb3 _ _ _ _ [] [] S2 (Keep.refl _ _) all0 all0
  refine Cu CW SW4 (ow hw 50 rfl) (by decide +kernel) 16 (by decide) (by decide) (by decide) (by decide) ?_
  intro T5 h6 a7 SW8 E9
  have f10 : n0 ≤ h6.size := (Nat.le_trans z0 E9.1)
  refine Av CW SW8 ?_
  intro vm17 C S18 rb19
  refine Ae C S18 hw 53 54 55 56 (De l Z a0 hw x a7 h6 n0 f10) 0 [.ref x, .ref a7] [] Cv ?_
  rintro T12 h13 v14 L15 S16 ⟨⟨rfl, e11⟩, -⟩
  rw [e11] at S16; clear e11
  refine Ac C S16 [(6, .pop, 1), (7, .aload_n 0, 1)] 8 #[Ab x, .unset, .unset] [.ref x] ?_
  have f20 := (X00.ext E9)
  have f21 := (Exa.ext E9 s0)
  have f22 := (Fld.ext E9 s1)
  have f23 := (Fld.ext E9 s2)
  have f24 := (s3.ext E9)
  refine Ah C S16 hw 57 58 60 60 59 61 19 (At l Z a0 hw G1 G3 x _ _ _ _ h6 n0 f10 f20 f21 f22 f23 f24 O2 O4 P5 rG3) 0 f21 [] [] Al ?_
  rintro T26 h27 v28 L29 S30 ⟨⟨rfl, e25⟩, -⟩
  rw [e25] at S30; clear e25
  refine Ac C S30 [(11, .istore_n 1, 1), (12, .iload_n 1, 1), (13, .ifCond .le 21, 3), (16, .aload_n 0, 1), (17, .iload_n 1, 1), (18, .iconst 1, 1), (19, .isub, 1)] 20 #[Ab x, Aa 6, .unset] [.int 5, .ref x] ?_
  refine Ah C S30 hw 67 68 70 70 69 71 19 (Bm l Z a0 hw G1 G3 x _ _ _ _ 5 ((Ad x5).toInt8.toInt32) (Ad x5) h6 n0 f10 f20 f21 f22 f23 f24 O2 O4 P5 rG3 (⟨(by decide), (by decide)⟩) rfl (Ce hx5) (Ai hx5)) 0 f21 [.int 5] [] Be ?_
  rintro T32 h33 v34 L35 S36 ⟨⟨rfl, e31⟩, -⟩
  rw [e31] at S36; clear e31
  refine Ac C S36 [(23, .bipush 61, 2)] 25 #[Ab x, Aa 6, .unset] [.int 61, .int (Ad x5)] ?_
  refine Bg C S36 .ne 9 34 (fun (q37 : ¬ (Ad x5) = (61 : Int32)) => ?_) (fun (hq : (Ad x5) = (61 : Int32)) => False.elim (Do hx5 hq))
  refine Ac C S36 [(34, .aload_n 0, 1)] 35 #[Ab x, Aa 6, .unset] [.ref x] ?_
  refine Ah C S36 hw 57 58 60 60 59 61 19 (At l Z a0 hw G1 G3 x _ _ _ _ h6 n0 f10 f20 f21 f22 f23 f24 O2 O4 P5 rG3) 0 f21 [] [] Al ?_
  rintro T39 h40 v41 L42 S43 ⟨⟨rfl, e38⟩, -⟩
  rw [e38] at S43; clear e38
  refine Ac C S43 [(38, .iload_n 1, 1), (39, .isub, 1), (40, .istore_n 2, 1), (41, .iload_n 2, 1), (42, .iconst 2, 1), (43, .if_icmp .gt 16, 3), (46, .iload_n 2, 1), (47, .ifCond .le 28, 3), (75, .aload_n 0, 1), (76, .iconst 0, 1), (77, .iload_n 1, 1)] 78 #[Ab x, Aa 6, Aa 0] [.int 6, .int 0, .ref x] ?_
  refine Ah C S43 hw 89 90 92 92 91 93 19 (own_su6 l Z a0 hw G1 G3 U8 I8 TB DE x _ _ _ h6 n0 f10 f20 f21 f22 f23 f24 XS) 0 f21 [.int 0, .int 6] [] Dn ?_
  rintro T45 h46 v47 L48 S49 ⟨⟨rfl, e44⟩, -⟩
  rw [e44] at S49; clear e44
  have f50 := (TK.ext E9)
  have f51 := (Exa.ext E9 DEx)
  have f52 := (Fld.ext E9 DEu)
  have f53 := (Fld.ext E9 DEm)
  have f54 := (Exa.ext E9 s4)
  have SW65 := rb19 _ _ _ _ [] [] S49 (Keep.refl _ _) all0 all0
  refine Br CW SW65 (ow hw 126 rfl) (ow hw 127 rfl) (ow hw 48 rfl) (ow hw 128 rfl) (by decide) (own_du6 l Z a0 hw hEL wS G1 G3 U8 I8 TB TBk DE x _ _ x0 x1 x2 x3 x4 x5 h6 n0 f10 f20 f50 f51 f52 f53 f21 f22 f23 f24 f54 XS hx0 hx1 hx2 hx3 hx4 hx5 hs) all0 0 (by decide) (by decide) [(.ref x)] [] rfl Cb rfl rfl rfl (Ak rfl) (by decide) (by decide) (by decide +kernel) ?_
  rintro T66 h67 v68 SW69 hg70 ⟨a55, k56, rfl, g57, K58, f59⟩
  refine Ck CW SW69 rfl rfl (by decide +kernel) (by decide) (by decide) ?_
  have o72 : h0.size ≤ h6.size := (Nat.le_trans (Nat.le_refl _) E9.1)
  have o71 : h0.size ≤ a55 := Nat.le_trans o72 g57
  exact ⟨a55, k56, rfl, o71, (((Keep.refl _ _).ext E9).trans K58 all0), f59⟩
theorem own_su7 (hw : Aj a0 Z) (G1 : Int32) (G3 : Value) (U8 : Addr) (I8 : Addr) (TB : Addr) (DE : Addr) (x : Addr) (xt : Addr) (xtk : ClassId) (vs : List Value) (h0 : Heap) (n0 : Nat) (z0 : n0 ≤ h0.size) (X00 : Old Z n0 h0) (s0 : Exa Z h0 x "java/lang/String") (s1 : Fld Z h0 x "java/lang/String" "value" "[B" (.ref xt)) (s2 : Fld Z h0 x "java/lang/String" "coder" "B" (.int 0)) (s3 : Arv Z h0 xt xtk .byte (7 : Int32) vs (.int 0)) (XS : Ax Z n0 G1 G3 U8 I8 TB DE) :
    Af l Z (⟨"java/lang/String", "substring", "(II)Ljava/lang/String;"⟩ : MethodName) jdk_42_method_92_code 5 (some (.object "java/lang/String")) ({ frames := 2, cells := 0, slots := 0, locals := 29 } : Room) n0 #[(.ref x), (.int 0), (.int 7)] h0 (fun v h => v = some (.ref x) ∧ h = h0) := by
  refine Ar #[.val (.ref x), .val (.int 0), .val (.int 7), .unset, .unset] ?_
  intro p e s m below meth c T0 C S0
  have XS_ := XS
  obtain ⟨O2, O4, P5, rG3, OU, OI, OT, OD, hUI, TBlt, DElt⟩ := XS_
  refine Ac C S0 [(0, .aload_n 0, 1)] 1 #[Ab x, Aa 0, Aa 7, .unset, .unset] [.ref x] ?_
  refine Ah C S0 hw 94 58 60 60 59 61 19 (At l Z a0 hw G1 G3 x _ _ _ _ h0 n0 z0 X00 s0 s1 s2 s3 O2 O4 P5 rG3) 0 s0 [] [] Al ?_
  rintro T2 h3 v4 L5 S6 ⟨⟨rfl, e1⟩, -⟩
  rw [e1] at S6; clear e1
  refine Ac C S6 [(4, .istore_n 3, 1), (5, .iload_n 1, 1), (6, .iload_n 2, 1), (7, .iload_n 3, 1)] 8 #[Ab x, Aa 0, Aa 7, Aa 7, .unset] [.int 7, .int 7, .int 0] ?_
  refine Ae C S6 hw 95 96 19 97 (Du l Z a0 hw G1 G3 0 7 7 h0 n0 z0 X00 O2 O4 P5 rG3 (by decide) (by decide) (by decide)) 0 [.int 0, .int 7, .int 7] [] Dm ?_
  rintro T8 h9 v10 L11 S12 ⟨⟨rfl, e7⟩, -⟩
  rw [e7] at S12; clear e7
  refine Ac C S12 [(11, .iload_n 1, 1), (12, .ifCond .ne 10, 3), (15, .iload_n 2, 1), (16, .iload_n 3, 1), (17, .if_icmp .ne 5, 3), (20, .aload_n 0, 1)] 21 #[Ab x, Aa 0, Aa 7, Aa 7, .unset] [.ref x] ?_
  refine Az C S12 rfl rfl (by decide +kernel) (by decide) (by decide) ?_
  exact ⟨rfl, rfl⟩
theorem own_wp77 (hw : Aj a0 Z) (hEL : EW Z a0 Ca) (wS : ∀ a ∈ Bundle.stringAtoms, a.before a0 Z = true) (G1 : Int32) (G3 : Value) (U8 : Addr) (I8 : Addr) (TB : Addr) (TBk : ClassId) (DE : Addr) (x : Addr) (xt : Addr) (xtk : ClassId) (x0 : Int32) (x1 : Int32) (x2 : Int32) (x3 : Int32) (x4 : Int32) (x5 : Int32) (x6 : Int32) (h0 : Heap) (n0 : Nat) (z0 : n0 ≤ h0.size) (X00 : Old Z n0 h0) (TK : Arv Z h0 TB TBk .int 256 Bs (.int 0)) (DEx : Exa Z h0 DE "java/util/Base64$Decoder") (DEu : Fld Z h0 DE "java/util/Base64$Decoder" "isURL" "Z" (.int 1)) (DEm : Fld Z h0 DE "java/util/Base64$Decoder" "isMIME" "Z" (.int 0)) (s0 : Exa Z h0 x "java/lang/String") (s1 : Fld Z h0 x "java/lang/String" "value" "[B" (.ref xt)) (s2 : Fld Z h0 x "java/lang/String" "coder" "B" (.int 0)) (s3 : Arv Z h0 xt xtk .byte (7 : Int32) ([(.int ((Ad x0).toInt8.toInt32)), (.int ((Ad x1).toInt8.toInt32)), (.int ((Ad x2).toInt8.toInt32)), (.int ((Ad x3).toInt8.toInt32)), (.int ((Ad x4).toInt8.toInt32)), (.int ((Ad x5).toInt8.toInt32)), (.int ((Ad x6).toInt8.toInt32))]) (.int 0)) (s4 : Exa Z h0 xt "[B") (XS : Ax Z n0 G1 G3 U8 I8 TB DE) (hx0 : Ag x0) (hx1 : Ag x1) (hx2 : Ag x2) (hx3 : Ag x3) (hx4 : Ag x4) (hx5 : Ag x5) (hx6 : Ag x6) (hs : (x6 &&& (((1 : Int32) <<< ((2 : Int32) &&& 31)) - (1 : Int32))) = (0 : Int32)) :
    Cf l Z Ca (⟨"com/example/torrey/torrey/Base64Url", "decodeWithOptionalPadding", "(Ljava/lang/String;)[B"⟩ : MethodName) prog_1_method_4_code 3 (some (.array .byte)) ({ frames := 7, cells := 6, slots := 53, locals := 103 } : Room) n0 #[(.ref x)] h0 [] (fun v h => ∃ r : Addr, ∃ rk : ClassId, v = some (.ref r) ∧ h0.size ≤ r ∧ Keep h0 h [] ∧ Arv Z h r rk .byte (5 : Int32) ([(.int (Ay (Aq x0 x1 x2 x3))), (.int (Bk (Aq x0 x1 x2 x3))), (.int (Cc (Aq x0 x1 x2 x3))), (.int (Ay (Ci x4 x5 x6))), (.int (Bk (Ci x4 x5 x6)))]) (.int 0)) := by
  refine Cm hEL wS (by decide +kernel) #[.val (.ref x), .unset, .unset] (fun m => by first | (simp [entryFrame, mkF, argsToLocals, Value.category]; done) | rfl) ?_
  intro p e s m below meth c T0 CW SW0
  have XS_ := XS
  obtain ⟨O2, O4, P5, rG3, OU, OI, OT, OD, hUI, TBlt, DElt⟩ := XS_
  refine Av CW SW0 ?_
  intro vm1 C S2 rb3
  refine Ac C S2 [(0, .aload_n 0, 1)] 1 #[Ab x, .unset, .unset] [.ref x] ?_
  have SW4 := rb3 _ _ _ _ [] [] S2 (Keep.refl _ _) all0 all0
  refine Cu CW SW4 (ow hw 50 rfl) (by decide +kernel) 16 (by decide) (by decide) (by decide) (by decide) ?_
  intro T5 h6 a7 SW8 E9
  have f10 : n0 ≤ h6.size := (Nat.le_trans z0 E9.1)
  refine Av CW SW8 ?_
  intro vm17 C S18 rb19
  refine Ae C S18 hw 53 54 55 56 (De l Z a0 hw x a7 h6 n0 f10) 0 [.ref x, .ref a7] [] Cv ?_
  rintro T12 h13 v14 L15 S16 ⟨⟨rfl, e11⟩, -⟩
  rw [e11] at S16; clear e11
  refine Ac C S16 [(6, .pop, 1), (7, .aload_n 0, 1)] 8 #[Ab x, .unset, .unset] [.ref x] ?_
  have f20 := (X00.ext E9)
  have f21 := (Exa.ext E9 s0)
  have f22 := (Fld.ext E9 s1)
  have f23 := (Fld.ext E9 s2)
  have f24 := (s3.ext E9)
  refine Ah C S16 hw 57 58 60 60 59 61 19 (At l Z a0 hw G1 G3 x _ _ _ _ h6 n0 f10 f20 f21 f22 f23 f24 O2 O4 P5 rG3) 0 f21 [] [] Al ?_
  rintro T26 h27 v28 L29 S30 ⟨⟨rfl, e25⟩, -⟩
  rw [e25] at S30; clear e25
  refine Ac C S30 [(11, .istore_n 1, 1), (12, .iload_n 1, 1), (13, .ifCond .le 21, 3), (16, .aload_n 0, 1), (17, .iload_n 1, 1), (18, .iconst 1, 1), (19, .isub, 1)] 20 #[Ab x, Aa 7, .unset] [.int 6, .ref x] ?_
  refine Ah C S30 hw 67 68 70 70 69 71 19 (Bm l Z a0 hw G1 G3 x _ _ _ _ 6 ((Ad x6).toInt8.toInt32) (Ad x6) h6 n0 f10 f20 f21 f22 f23 f24 O2 O4 P5 rG3 (⟨(by decide), (by decide)⟩) rfl (Ce hx6) (Ai hx6)) 0 f21 [.int 6] [] Be ?_
  rintro T32 h33 v34 L35 S36 ⟨⟨rfl, e31⟩, -⟩
  rw [e31] at S36; clear e31
  refine Ac C S36 [(23, .bipush 61, 2)] 25 #[Ab x, Aa 7, .unset] [.int 61, .int (Ad x6)] ?_
  refine Bg C S36 .ne 9 34 (fun (q37 : ¬ (Ad x6) = (61 : Int32)) => ?_) (fun (hq : (Ad x6) = (61 : Int32)) => False.elim (Do hx6 hq))
  refine Ac C S36 [(34, .aload_n 0, 1)] 35 #[Ab x, Aa 7, .unset] [.ref x] ?_
  refine Ah C S36 hw 57 58 60 60 59 61 19 (At l Z a0 hw G1 G3 x _ _ _ _ h6 n0 f10 f20 f21 f22 f23 f24 O2 O4 P5 rG3) 0 f21 [] [] Al ?_
  rintro T39 h40 v41 L42 S43 ⟨⟨rfl, e38⟩, -⟩
  rw [e38] at S43; clear e38
  refine Ac C S43 [(38, .iload_n 1, 1), (39, .isub, 1), (40, .istore_n 2, 1), (41, .iload_n 2, 1), (42, .iconst 2, 1), (43, .if_icmp .gt 16, 3), (46, .iload_n 2, 1), (47, .ifCond .le 28, 3), (75, .aload_n 0, 1), (76, .iconst 0, 1), (77, .iload_n 1, 1)] 78 #[Ab x, Aa 7, Aa 0] [.int 7, .int 0, .ref x] ?_
  refine Ah C S43 hw 89 90 92 92 91 93 19 (own_su7 l Z a0 hw G1 G3 U8 I8 TB DE x _ _ _ h6 n0 f10 f20 f21 f22 f23 f24 XS) 0 f21 [.int 0, .int 7] [] Dn ?_
  rintro T45 h46 v47 L48 S49 ⟨⟨rfl, e44⟩, -⟩
  rw [e44] at S49; clear e44
  have f50 := (TK.ext E9)
  have f51 := (Exa.ext E9 DEx)
  have f52 := (Fld.ext E9 DEu)
  have f53 := (Fld.ext E9 DEm)
  have f54 := (Exa.ext E9 s4)
  have SW65 := rb19 _ _ _ _ [] [] S49 (Keep.refl _ _) all0 all0
  refine Br CW SW65 (ow hw 126 rfl) (ow hw 127 rfl) (ow hw 48 rfl) (ow hw 128 rfl) (by decide) (own_du7 l Z a0 hw hEL wS G1 G3 U8 I8 TB TBk DE x _ _ x0 x1 x2 x3 x4 x5 x6 h6 n0 f10 f20 f50 f51 f52 f53 f21 f22 f23 f24 f54 XS hx0 hx1 hx2 hx3 hx4 hx5 hx6 hs) all0 0 (by decide) (by decide) [(.ref x)] [] rfl Cb rfl rfl rfl (Ak rfl) (by decide) (by decide) (by decide +kernel) ?_
  rintro T66 h67 v68 SW69 hg70 ⟨a55, k56, rfl, g57, K58, f59⟩
  refine Ck CW SW69 rfl rfl (by decide +kernel) (by decide) (by decide) ?_
  have o72 : h0.size ≤ h6.size := (Nat.le_trans (Nat.le_refl _) E9.1)
  have o71 : h0.size ≤ a55 := Nat.le_trans o72 g57
  exact ⟨a55, k56, rfl, o71, (((Keep.refl _ _).ext E9).trans K58 all0), f59⟩
theorem own_su8 (hw : Aj a0 Z) (G1 : Int32) (G3 : Value) (U8 : Addr) (I8 : Addr) (TB : Addr) (DE : Addr) (x : Addr) (xt : Addr) (xtk : ClassId) (vs : List Value) (h0 : Heap) (n0 : Nat) (z0 : n0 ≤ h0.size) (X00 : Old Z n0 h0) (s0 : Exa Z h0 x "java/lang/String") (s1 : Fld Z h0 x "java/lang/String" "value" "[B" (.ref xt)) (s2 : Fld Z h0 x "java/lang/String" "coder" "B" (.int 0)) (s3 : Arv Z h0 xt xtk .byte (8 : Int32) vs (.int 0)) (XS : Ax Z n0 G1 G3 U8 I8 TB DE) :
    Af l Z (⟨"java/lang/String", "substring", "(II)Ljava/lang/String;"⟩ : MethodName) jdk_42_method_92_code 5 (some (.object "java/lang/String")) ({ frames := 2, cells := 0, slots := 0, locals := 29 } : Room) n0 #[(.ref x), (.int 0), (.int 8)] h0 (fun v h => v = some (.ref x) ∧ h = h0) := by
  refine Ar #[.val (.ref x), .val (.int 0), .val (.int 8), .unset, .unset] ?_
  intro p e s m below meth c T0 C S0
  have XS_ := XS
  obtain ⟨O2, O4, P5, rG3, OU, OI, OT, OD, hUI, TBlt, DElt⟩ := XS_
  refine Ac C S0 [(0, .aload_n 0, 1)] 1 #[Ab x, Aa 0, Aa 8, .unset, .unset] [.ref x] ?_
  refine Ah C S0 hw 94 58 60 60 59 61 19 (At l Z a0 hw G1 G3 x _ _ _ _ h0 n0 z0 X00 s0 s1 s2 s3 O2 O4 P5 rG3) 0 s0 [] [] Al ?_
  rintro T2 h3 v4 L5 S6 ⟨⟨rfl, e1⟩, -⟩
  rw [e1] at S6; clear e1
  refine Ac C S6 [(4, .istore_n 3, 1), (5, .iload_n 1, 1), (6, .iload_n 2, 1), (7, .iload_n 3, 1)] 8 #[Ab x, Aa 0, Aa 8, Aa 8, .unset] [.int 8, .int 8, .int 0] ?_
  refine Ae C S6 hw 95 96 19 97 (Du l Z a0 hw G1 G3 0 8 8 h0 n0 z0 X00 O2 O4 P5 rG3 (by decide) (by decide) (by decide)) 0 [.int 0, .int 8, .int 8] [] Dm ?_
  rintro T8 h9 v10 L11 S12 ⟨⟨rfl, e7⟩, -⟩
  rw [e7] at S12; clear e7
  refine Ac C S12 [(11, .iload_n 1, 1), (12, .ifCond .ne 10, 3), (15, .iload_n 2, 1), (16, .iload_n 3, 1), (17, .if_icmp .ne 5, 3), (20, .aload_n 0, 1)] 21 #[Ab x, Aa 0, Aa 8, Aa 8, .unset] [.ref x] ?_
  refine Az C S12 rfl rfl (by decide +kernel) (by decide) (by decide) ?_
  exact ⟨rfl, rfl⟩
theorem own_wp88 (hw : Aj a0 Z) (hEL : EW Z a0 Ca) (wS : ∀ a ∈ Bundle.stringAtoms, a.before a0 Z = true) (G1 : Int32) (G3 : Value) (U8 : Addr) (I8 : Addr) (TB : Addr) (TBk : ClassId) (DE : Addr) (x : Addr) (xt : Addr) (xtk : ClassId) (x0 : Int32) (x1 : Int32) (x2 : Int32) (x3 : Int32) (x4 : Int32) (x5 : Int32) (x6 : Int32) (x7 : Int32) (h0 : Heap) (n0 : Nat) (z0 : n0 ≤ h0.size) (X00 : Old Z n0 h0) (TK : Arv Z h0 TB TBk .int 256 Bs (.int 0)) (DEx : Exa Z h0 DE "java/util/Base64$Decoder") (DEu : Fld Z h0 DE "java/util/Base64$Decoder" "isURL" "Z" (.int 1)) (DEm : Fld Z h0 DE "java/util/Base64$Decoder" "isMIME" "Z" (.int 0)) (s0 : Exa Z h0 x "java/lang/String") (s1 : Fld Z h0 x "java/lang/String" "value" "[B" (.ref xt)) (s2 : Fld Z h0 x "java/lang/String" "coder" "B" (.int 0)) (s3 : Arv Z h0 xt xtk .byte (8 : Int32) ([(.int ((Ad x0).toInt8.toInt32)), (.int ((Ad x1).toInt8.toInt32)), (.int ((Ad x2).toInt8.toInt32)), (.int ((Ad x3).toInt8.toInt32)), (.int ((Ad x4).toInt8.toInt32)), (.int ((Ad x5).toInt8.toInt32)), (.int ((Ad x6).toInt8.toInt32)), (.int ((Ad x7).toInt8.toInt32))]) (.int 0)) (s4 : Exa Z h0 xt "[B") (XS : Ax Z n0 G1 G3 U8 I8 TB DE) (hx0 : Ag x0) (hx1 : Ag x1) (hx2 : Ag x2) (hx3 : Ag x3) (hx4 : Ag x4) (hx5 : Ag x5) (hx6 : Ag x6) (hx7 : Ag x7) :
    Cf l Z Ca (⟨"com/example/torrey/torrey/Base64Url", "decodeWithOptionalPadding", "(Ljava/lang/String;)[B"⟩ : MethodName) prog_1_method_4_code 3 (some (.array .byte)) ({ frames := 7, cells := 6, slots := 54, locals := 103 } : Room) n0 #[(.ref x)] h0 [] (fun v h => ∃ r : Addr, ∃ rk : ClassId, v = some (.ref r) ∧ h0.size ≤ r ∧ Keep h0 h [] ∧ Arv Z h r rk .byte (6 : Int32) ([(.int (Ay (Aq x0 x1 x2 x3))), (.int (Bk (Aq x0 x1 x2 x3))), (.int (Cc (Aq x0 x1 x2 x3))), (.int (Ay (Aq x4 x5 x6 x7))), (.int (Bk (Aq x4 x5 x6 x7))), (.int (Cc (Aq x4 x5 x6 x7)))]) (.int 0)) := by
  refine Cm hEL wS (by decide +kernel) #[.val (.ref x), .unset, .unset] (fun m => by first | (simp [entryFrame, mkF, argsToLocals, Value.category]; done) | rfl) ?_
  intro p e s m below meth c T0 CW SW0
  have XS_ := XS
  obtain ⟨O2, O4, P5, rG3, OU, OI, OT, OD, hUI, TBlt, DElt⟩ := XS_
  refine Av CW SW0 ?_
  intro vm1 C S2 rb3
  refine Ac C S2 [(0, .aload_n 0, 1)] 1 #[Ab x, .unset, .unset] [.ref x] ?_
  have SW4 := rb3 _ _ _ _ [] [] S2 (Keep.refl _ _) all0 all0
  refine Cu CW SW4 (ow hw 50 rfl) (by decide +kernel) 16 (by decide) (by decide) (by decide) (by decide) ?_
  intro T5 h6 a7 SW8 E9
  have f10 : n0 ≤ h6.size := (Nat.le_trans z0 E9.1)
  refine Av CW SW8 ?_
  intro vm17 C S18 rb19
  refine Ae C S18 hw 53 54 55 56 (De l Z a0 hw x a7 h6 n0 f10) 0 [.ref x, .ref a7] [] Cv ?_
  rintro T12 h13 v14 L15 S16 ⟨⟨rfl, e11⟩, -⟩
  rw [e11] at S16; clear e11
  refine Ac C S16 [(6, .pop, 1), (7, .aload_n 0, 1)] 8 #[Ab x, .unset, .unset] [.ref x] ?_
  have f20 := (X00.ext E9)
  have f21 := (Exa.ext E9 s0)
  have f22 := (Fld.ext E9 s1)
  have f23 := (Fld.ext E9 s2)
  have f24 := (s3.ext E9)
  refine Ah C S16 hw 57 58 60 60 59 61 19 (At l Z a0 hw G1 G3 x _ _ _ _ h6 n0 f10 f20 f21 f22 f23 f24 O2 O4 P5 rG3) 0 f21 [] [] Al ?_
  rintro T26 h27 v28 L29 S30 ⟨⟨rfl, e25⟩, -⟩
  rw [e25] at S30; clear e25
  refine Ac C S30 [(11, .istore_n 1, 1), (12, .iload_n 1, 1), (13, .ifCond .le 21, 3), (16, .aload_n 0, 1), (17, .iload_n 1, 1), (18, .iconst 1, 1), (19, .isub, 1)] 20 #[Ab x, Aa 8, .unset] [.int 7, .ref x] ?_
  refine Ah C S30 hw 67 68 70 70 69 71 19 (Bm l Z a0 hw G1 G3 x _ _ _ _ 7 ((Ad x7).toInt8.toInt32) (Ad x7) h6 n0 f10 f20 f21 f22 f23 f24 O2 O4 P5 rG3 (⟨(by decide), (by decide)⟩) rfl (Ce hx7) (Ai hx7)) 0 f21 [.int 7] [] Be ?_
  rintro T32 h33 v34 L35 S36 ⟨⟨rfl, e31⟩, -⟩
  rw [e31] at S36; clear e31
  refine Ac C S36 [(23, .bipush 61, 2)] 25 #[Ab x, Aa 8, .unset] [.int 61, .int (Ad x7)] ?_
  refine Bg C S36 .ne 9 34 (fun (q37 : ¬ (Ad x7) = (61 : Int32)) => ?_) (fun (hq : (Ad x7) = (61 : Int32)) => False.elim (Do hx7 hq))
  refine Ac C S36 [(34, .aload_n 0, 1)] 35 #[Ab x, Aa 8, .unset] [.ref x] ?_
  refine Ah C S36 hw 57 58 60 60 59 61 19 (At l Z a0 hw G1 G3 x _ _ _ _ h6 n0 f10 f20 f21 f22 f23 f24 O2 O4 P5 rG3) 0 f21 [] [] Al ?_
  rintro T39 h40 v41 L42 S43 ⟨⟨rfl, e38⟩, -⟩
  rw [e38] at S43; clear e38
  refine Ac C S43 [(38, .iload_n 1, 1), (39, .isub, 1), (40, .istore_n 2, 1), (41, .iload_n 2, 1), (42, .iconst 2, 1), (43, .if_icmp .gt 16, 3), (46, .iload_n 2, 1), (47, .ifCond .le 28, 3), (75, .aload_n 0, 1), (76, .iconst 0, 1), (77, .iload_n 1, 1)] 78 #[Ab x, Aa 8, Aa 0] [.int 8, .int 0, .ref x] ?_
  refine Ah C S43 hw 89 90 92 92 91 93 19 (own_su8 l Z a0 hw G1 G3 U8 I8 TB DE x _ _ _ h6 n0 f10 f20 f21 f22 f23 f24 XS) 0 f21 [.int 0, .int 8] [] Dn ?_
  rintro T45 h46 v47 L48 S49 ⟨⟨rfl, e44⟩, -⟩
  rw [e44] at S49; clear e44
  have f50 := (TK.ext E9)
  have f51 := (Exa.ext E9 DEx)
  have f52 := (Fld.ext E9 DEu)
  have f53 := (Fld.ext E9 DEm)
  have f54 := (Exa.ext E9 s4)
  have SW65 := rb19 _ _ _ _ [] [] S49 (Keep.refl _ _) all0 all0
  refine Br CW SW65 (ow hw 126 rfl) (ow hw 127 rfl) (ow hw 48 rfl) (ow hw 128 rfl) (by decide) (own_du8 l Z a0 hw hEL wS G1 G3 U8 I8 TB TBk DE x _ _ x0 x1 x2 x3 x4 x5 x6 x7 h6 n0 f10 f20 f50 f51 f52 f53 f21 f22 f23 f24 f54 XS hx0 hx1 hx2 hx3 hx4 hx5 hx6 hx7) all0 0 (by decide) (by decide) [(.ref x)] [] rfl Cb rfl rfl rfl (Ak rfl) (by decide) (by decide) (by decide +kernel) ?_
  rintro T66 h67 v68 SW69 hg70 ⟨a55, k56, rfl, g57, K58, f59⟩
  refine Ck CW SW69 rfl rfl (by decide +kernel) (by decide) (by decide) ?_
  have o72 : h0.size ≤ h6.size := (Nat.le_trans (Nat.le_refl _) E9.1)
  have o71 : h0.size ≤ a55 := Nat.le_trans o72 g57
  exact ⟨a55, k56, rfl, o71, (((Keep.refl _ _).ext E9).trans K58 all0), f59⟩
theorem Fx : parseMethodDescriptor "(II)I" = some ⟨[.int, .int], (some .int)⟩ := by decide +kernel
theorem own_cb42 (hw : Aj a0 Z) (b : Addr) (bk : ClassId) (v0 : Int32) (v1 : Int32) (v2 : Int32) (v3 : Int32) (h0 : Heap) (n0 : Nat) (z0 : n0 ≤ h0.size) (b0 : Arv Z h0 b bk .byte (4 : Int32) ([(.int v0), (.int v1), (.int v2), (.int v3)]) (.int 0)) (b1 : Exa Z h0 b "[B") :
    Af l Z (⟨"java/util/Arrays", "copyOfRangeByte", "([BII)[B"⟩ : MethodName) jdk_65_method_133_code 5 (some (.array .byte)) ({ frames := 1, cells := 1, slots := 2, locals := 18 } : Room) n0 #[(.ref b), (.int 0), (.int 2)] h0 (fun v h => ∃ r : Addr, ∃ rk : ClassId, v = some (.ref r) ∧ h0.size ≤ r ∧ Keep h0 h [] ∧ Arv Z h r rk .byte (2 : Int32) ([(.int v0), (.int v1)]) (.int 0) ∧ Exa Z h r "[B") := by
  refine Ar #[.val (.ref b), .val (.int 0), .val (.int 2), .unset, .unset] ?_
  intro p e s m below meth c T0 C S0
  refine Ac C S0 [(0, .iload_n 1, 1), (1, .iload_n 2, 1)] 2 #[Ab b, Aa 0, Aa 2, .unset, .unset] [.int 2, .int 0] ?_
  refine Ae C S0 hw 112 113 107 114 (own_ckl l Z a0 hw 0 2 h0 n0 z0 (by decide)) 0 [.int 0, .int 2] [] Fv ?_
  rintro T2 h3 v4 L5 S6 ⟨⟨rfl, e1⟩, -⟩
  rw [e1] at S6; clear e1
  refine Ac C S6 [(5, .iload_n 2, 1), (6, .iload_n 1, 1), (7, .isub, 1), (8, .istore_n 3, 1), (9, .iload_n 3, 1)] 10 #[Ab b, Aa 0, Aa 2, Aa 2, .unset] [.int 2] ?_
  refine Cp C S6 (aty := .byte) (ad := "[B") (by decide) (ow hw 35 rfl) (by decide +kernel) (by decide) 2 (by decide) (by decide) (by decide) (by decide) ?_
  intro T7 h9 a10 k11 S8 g12 E13 f14 x15
  have f16 : Arv Z h9 a10 k11 .byte (2 : Int32) ([(.int 0), (.int 0)]) (.int 0) := Arv.pad f14 (pad_rep [] (.int 0) 2)
  refine Ac C S8 [(12, .astore 4, 2), (14, .aload_n 0, 1), (15, .iload_n 1, 1), (16, .aload 4, 2), (18, .iconst 0, 1), (19, .aload_n 0, 1)] 20 #[Ab b, Aa 0, Aa 2, Aa 2, Ab a10] [.ref b, .int 0, .ref a10, .int 0, .ref b] ?_
  have f17 := (b0.ext E13)
  refine Au C S8 f17 (by decide +kernel) ?_
  refine Ac C S8 [(21, .iload_n 1, 1), (22, .isub, 1), (23, .iload_n 3, 1)] 24 #[Ab b, Aa 0, Aa 2, Aa 2, Ab a10] [.int 2, .int 4, .int 0, .ref a10, .int 0, .ref b] ?_
  have f18 : n0 ≤ h9.size := (Nat.le_trans z0 E13.1)
  refine Ae C S8 hw 115 116 117 118 (own_min l Z a0 hw (4 : Int32) (2 : Int32) h9 n0 f18) 4 [.int 4, .int 2] [.int 0, .ref a10, .int 0, .ref b] Fx ?_
  rintro T20 h21 v22 L23 S24 ⟨⟨rfl, e19⟩, -⟩
  rw [e19] at S24; clear e19
  rw [show (if (2 : Int32) < 4 then (2 : Int32) else (4 : Int32)) = (2 : Int32) from (by decide)]
  have g25 : n0 ≤ a10 := by rw [g12]; exact z0
  refine Fn C S24 (ow hw 119 rfl) (ow hw 122 rfl) (ow hw 120 rfl) (ow hw 121 rfl) f17 f16 rfl (by decide) (by decide) (by decide) (by decide) (by decide) (by decide) g25 ([(.int v0), (.int v1)]) rfl rfl (by decide +kernel) (by decide) 0 (Ak rfl) (by decide) ?_
  intro T26 h28 S27 K29 f30
  refine Ac C S27 [(30, .aload 4, 2)] 32 #[Ab b, Aa 0, Aa 2, Aa 2, Ab a10] [.ref a10] ?_
  refine Az C S27 rfl rfl (by decide +kernel) (by decide) (by decide) ?_
  have o31 : h0.size ≤ a10 := by rw [g12]; exact (Nat.le_refl _)
  have f32 := (x15.keep K29)
  exact ⟨a10, k11, rfl, o31, (((Keep.refl _ _).ext E13).trans K29 (allS (Or.inr o31) all0)), f30, f32⟩
theorem Dz : parseMethodDescriptor "([BII)[B" = some ⟨[(.array .byte), .int, .int], (some (.array .byte))⟩ := by decide +kernel
theorem own_cc42 (hw : Aj a0 Z) (b : Addr) (bk : ClassId) (v0 : Int32) (v1 : Int32) (v2 : Int32) (v3 : Int32) (h0 : Heap) (n0 : Nat) (z0 : n0 ≤ h0.size) (b0 : Arv Z h0 b bk .byte (4 : Int32) ([(.int v0), (.int v1), (.int v2), (.int v3)]) (.int 0)) (b1 : Exa Z h0 b "[B") :
    Af l Z (⟨"java/util/Arrays", "copyOfRange", "([BII)[B"⟩ : MethodName) jdk_65_method_132_code 3 (some (.array .byte)) ({ frames := 2, cells := 1, slots := 2, locals := 34 } : Room) n0 #[(.ref b), (.int 0), (.int 2)] h0 (fun v h => ∃ r : Addr, ∃ rk : ClassId, v = some (.ref r) ∧ h0.size ≤ r ∧ Keep h0 h [] ∧ Arv Z h r rk .byte (2 : Int32) ([(.int v0), (.int v1)]) (.int 0) ∧ Exa Z h r "[B") := by
  refine Ar #[.val (.ref b), .val (.int 0), .val (.int 2)] ?_
  intro p e s m below meth c T0 C S0
  refine Ac C S0 [(0, .iload_n 1, 1), (1, .ifCond .ne 9, 3), (4, .iload_n 2, 1), (5, .aload_n 0, 1)] 6 #[Ab b, Aa 0, Aa 2] [.ref b, .int 2] ?_
  refine Au C S0 b0 (by decide +kernel) ?_
  refine Ac C S0 [(7, .if_icmp .eq 10, 3), (10, .aload_n 0, 1), (11, .iload_n 1, 1), (12, .iload_n 2, 1)] 13 #[Ab b, Aa 0, Aa 2] [.int 2, .int 0, .ref b] ?_
  refine Ae C S0 hw 109 110 107 111 (own_cb42 l Z a0 hw b _ _ _ _ _ h0 n0 z0 b0 b1) 0 [.ref b, .int 0, .int 2] [] Dz ?_
  rintro T7 h8 v9 L10 S11 ⟨⟨a1, k2, rfl, g3, K4, f5, f6⟩, -⟩
  refine Az C S11 rfl rfl (by decide +kernel) (by decide) (by decide) ?_
  have o12 : h0.size ≤ a1 := Nat.le_trans (Nat.le_refl _) g3
  exact ⟨a1, k2, rfl, o12, ((Keep.refl _ _).trans K4 all0), f5, f6⟩
theorem Fy : parseMethodDescriptor "([BB)V" = some ⟨[(.array .byte), .byte], none⟩ := by decide +kernel
theorem own_nw42 (hw : Aj a0 Z) (b : Addr) (bk : ClassId) (v0 : Int32) (v1 : Int32) (v2 : Int32) (v3 : Int32) (h0 : Heap) (n0 : Nat) (z0 : n0 ≤ h0.size) (b0 : Arv Z h0 b bk .byte (4 : Int32) ([(.int v0), (.int v1), (.int v2), (.int v3)]) (.int 0)) (b1 : Exa Z h0 b "[B") :
    Af l Z (⟨"java/lang/StringLatin1", "newString", "([BII)Ljava/lang/String;"⟩ : MethodName) jdk_43_method_47_code 3 (some (.object "java/lang/String")) ({ frames := 3, cells := 2, slots := 6, locals := 50 } : Room) n0 #[(.ref b), (.int 0), (.int 2)] h0 (fun v h => ∃ r : Addr, ∃ rt : Addr, ∃ rtk : ClassId, v = some (.ref r) ∧ h0.size ≤ r ∧ Keep h0 h [] ∧ Exa Z h r "java/lang/String" ∧ Fld Z h r "java/lang/String" "value" "[B" (.ref rt) ∧ Fld Z h r "java/lang/String" "coder" "B" (.int 0) ∧ Arv Z h rt rtk .byte (2 : Int32) ([(.int v0), (.int v1)]) (.int 0) ∧ Exa Z h rt "[B") := by
  refine Ar #[.val (.ref b), .val (.int 0), .val (.int 2)] ?_
  intro p e s m below meth c T0 C S0
  refine Ac C S0 [(0, .iload_n 2, 1), (1, .ifCond .ne 6, 3)] 7 #[Ab b, Aa 0, Aa 2] [] ?_
  refine Dq C S0 (ow hw 104 rfl) (ow hw 18 rfl) (ow hw 19 rfl) (by decide +kernel) (by decide) (by decide) ?_
  intro T1 h3 a4 S2 g5 E6 x7 D8
  have f9 : Fld Z h3 a4 "java/lang/String" "coder" "B" (.int 0) := D8 (ty := .byte) (Or.inr (ow hw 43 rfl)) Cx
  have f10 : Fld Z h3 a4 "java/lang/String" "value" "[B" .null := D8 (ty := (.array .byte)) (Or.inr (ow hw 45 rfl)) Cy
  refine Ac C S2 [(10, .dup, 1), (11, .aload_n 0, 1), (12, .iload_n 1, 1), (13, .iload_n 1, 1), (14, .iload_n 2, 1), (15, .iadd, 1)] 16 #[Ab b, Aa 0, Aa 2] [.int 2, .int 0, .ref b, .ref a4, .ref a4] ?_
  have f11 := (b0.ext E6)
  have f12 := (Exa.ext E6 b1)
  have f13 : n0 ≤ h3.size := (Nat.le_trans z0 E6.1)
  refine Ae C S2 hw 105 106 107 108 (own_cc42 l Z a0 hw b _ _ _ _ _ h3 n0 f13 f11 f12) 2 [.ref b, .int 0, .int 2] [.ref a4, .ref a4] Dz ?_
  rintro T20 h21 v22 L23 S24 ⟨⟨a14, k15, rfl, g16, K17, f18, f19⟩, -⟩
  refine Ac C S24 [(19, .iconst 0, 1)] 20 #[Ab b, Aa 0, Aa 2] [.int 0, .ref a14, .ref a4, .ref a4] ?_
  have f25 := (x7.keep K17)
  have f26 := (f10.keep K17 nin0)
  have f27 := (f9.keep K17 nin0)
  have f28 : n0 ≤ h21.size := (Nat.le_trans f13 K17.1)
  have g29 : n0 ≤ a4 := by rw [g5]; exact z0
  refine Cs C S24 rfl (ow hw 123 rfl) (ow hw 124 rfl) (ow hw 125 rfl) (by decide) (Af.pay (own_sib l Z a0 hw a4 a14 h21 n0 f28 g29 f25 f26 f27) C 1 (ow hw 125 rfl) (ow hw 19 rfl) (by decide) (by decide)) (fun _ _ _ q => q.2) [.ref a14, .int 0] [.ref a4] rfl Fy rfl rfl rfl (Ak rfl) (by decide) (by decide) (by decide +kernel) ?_
  rintro T34 h35 v36 L37 S38 ⟨⟨rfl, K30, f31, f32, f33⟩, -⟩
  refine Az C S38 rfl rfl (by decide +kernel) (by decide) (by decide) ?_
  have o39 : h0.size ≤ a4 := by rw [g5]; exact (Nat.le_refl _)
  have n40 : a4 ≠ a14 := Nat.ne_of_lt (Nat.lt_of_lt_of_le x7.lt g16)
  have f41 := (f18.keep K30 (ninS (Ne.symm n40) nin0))
  have f42 := (f19.keep K30)
  exact ⟨a4, a14, k15, rfl, o39, ((((Keep.refl _ _).ext E6).trans K17 all0).trans K30 (allS (Or.inr o39) all0)), f31, f32, f33, f41, f42⟩
theorem Fz : parseMethodDescriptor "([BII)Ljava/lang/String;" = some ⟨[(.array .byte), .int, .int], (some (.object "java/lang/String"))⟩ := by decide +kernel
theorem own_su42 (hw : Aj a0 Z) (G1 : Int32) (G3 : Value) (U8 : Addr) (I8 : Addr) (TB : Addr) (DE : Addr) (x : Addr) (xt : Addr) (xtk : ClassId) (v0 : Int32) (v1 : Int32) (v2 : Int32) (v3 : Int32) (h0 : Heap) (n0 : Nat) (z0 : n0 ≤ h0.size) (X00 : Old Z n0 h0) (s0 : Exa Z h0 x "java/lang/String") (s1 : Fld Z h0 x "java/lang/String" "value" "[B" (.ref xt)) (s2 : Fld Z h0 x "java/lang/String" "coder" "B" (.int 0)) (s3 : Arv Z h0 xt xtk .byte (4 : Int32) ([(.int v0), (.int v1), (.int v2), (.int v3)]) (.int 0)) (s4 : Exa Z h0 xt "[B") (XS : Ax Z n0 G1 G3 U8 I8 TB DE) :
    Af l Z (⟨"java/lang/String", "substring", "(II)Ljava/lang/String;"⟩ : MethodName) jdk_42_method_92_code 5 (some (.object "java/lang/String")) ({ frames := 4, cells := 2, slots := 6, locals := 64 } : Room) n0 #[(.ref x), (.int 0), (.int 2)] h0 (fun v h => ∃ r : Addr, ∃ rt : Addr, ∃ rtk : ClassId, v = some (.ref r) ∧ h0.size ≤ r ∧ Keep h0 h [] ∧ Exa Z h r "java/lang/String" ∧ Fld Z h r "java/lang/String" "value" "[B" (.ref rt) ∧ Fld Z h r "java/lang/String" "coder" "B" (.int 0) ∧ Arv Z h rt rtk .byte (2 : Int32) ([(.int v0), (.int v1)]) (.int 0) ∧ Exa Z h rt "[B") := by
  refine Ar #[.val (.ref x), .val (.int 0), .val (.int 2), .unset, .unset] ?_
  intro p e s m below meth c T0 C S0
  have XS_ := XS
  obtain ⟨O2, O4, P5, rG3, OU, OI, OT, OD, hUI, TBlt, DElt⟩ := XS_
  refine Ac C S0 [(0, .aload_n 0, 1)] 1 #[Ab x, Aa 0, Aa 2, .unset, .unset] [.ref x] ?_
  refine Ah C S0 hw 94 58 60 60 59 61 19 (At l Z a0 hw G1 G3 x _ _ _ _ h0 n0 z0 X00 s0 s1 s2 s3 O2 O4 P5 rG3) 0 s0 [] [] Al ?_
  rintro T2 h3 v4 L5 S6 ⟨⟨rfl, e1⟩, -⟩
  rw [e1] at S6; clear e1
  refine Ac C S6 [(4, .istore_n 3, 1), (5, .iload_n 1, 1), (6, .iload_n 2, 1), (7, .iload_n 3, 1)] 8 #[Ab x, Aa 0, Aa 2, Aa 4, .unset] [.int 4, .int 2, .int 0] ?_
  refine Ae C S6 hw 95 96 19 97 (Du l Z a0 hw G1 G3 0 2 4 h0 n0 z0 X00 O2 O4 P5 rG3 (by decide) (by decide) (by decide)) 0 [.int 0, .int 2, .int 4] [] Dm ?_
  rintro T8 h9 v10 L11 S12 ⟨⟨rfl, e7⟩, -⟩
  rw [e7] at S12; clear e7
  refine Ac C S12 [(11, .iload_n 1, 1), (12, .ifCond .ne 10, 3), (15, .iload_n 2, 1), (16, .iload_n 3, 1), (17, .if_icmp .ne 5, 3), (22, .iload_n 2, 1), (23, .iload_n 1, 1), (24, .isub, 1), (25, .istore 4, 2), (27, .aload_n 0, 1)] 28 #[Ab x, Aa 0, Aa 2, Aa 4, Aa 2] [.ref x] ?_
  refine Ah C S12 hw 72 73 75 75 74 76 19 (Fu l Z a0 hw G1 G3 x h0 n0 z0 X00 s2 O2 O4 P5 rG3) 0 s0 [] [] Fw ?_
  rintro T14 h15 v16 L17 S18 ⟨⟨rfl, e13⟩, -⟩
  rw [e13] at S18; clear e13
  refine Ac C S18 [(31, .ifCond .eq 16, 3), (34, .aload_n 0, 1)] 35 #[Ab x, Aa 0, Aa 2, Aa 4, Aa 2] [.ref x] ?_
  refine Ch C S18 hw 44 s1 ?_
  intro T19 S20
  refine Ac C S20 [(38, .iload_n 1, 1), (39, .iload 4, 2)] 41 #[Ab x, Aa 0, Aa 2, Aa 4, Aa 2] [.int 2, .int 0, .ref xt] ?_
  refine Ae C S20 hw 101 102 79 103 (own_nw42 l Z a0 hw xt _ _ _ _ _ h0 n0 z0 s3 s4) 0 [.ref xt, .int 0, .int 2] [] Fz ?_
  rintro T31 h32 v33 L34 S35 ⟨⟨a21, a22, k23, rfl, g24, K25, f26, f27, f28, f29, f30⟩, -⟩
  refine Ac C S35 [(44, .goto 13, 3)] 57 #[Ab x, Aa 0, Aa 2, Aa 4, Aa 2] [.ref a21] ?_
  refine Az C S35 rfl rfl (by decide +kernel) (by decide) (by decide) ?_
  have o36 : h0.size ≤ a21 := Nat.le_trans (Nat.le_refl _) g24
  exact ⟨a21, a22, k23, rfl, o36, ((Keep.refl _ _).trans K25 all0), f26, f27, f28, f29, f30⟩
theorem own_wp42 (hw : Aj a0 Z) (hEL : EW Z a0 Ca) (wS : ∀ a ∈ Bundle.stringAtoms, a.before a0 Z = true) (G1 : Int32) (G3 : Value) (U8 : Addr) (I8 : Addr) (TB : Addr) (TBk : ClassId) (DE : Addr) (x : Addr) (xt : Addr) (xtk : ClassId) (x0 : Int32) (x1 : Int32) (h0 : Heap) (n0 : Nat) (z0 : n0 ≤ h0.size) (X00 : Old Z n0 h0) (TK : Arv Z h0 TB TBk .int 256 Bs (.int 0)) (DEx : Exa Z h0 DE "java/util/Base64$Decoder") (DEu : Fld Z h0 DE "java/util/Base64$Decoder" "isURL" "Z" (.int 1)) (DEm : Fld Z h0 DE "java/util/Base64$Decoder" "isMIME" "Z" (.int 0)) (s0 : Exa Z h0 x "java/lang/String") (s1 : Fld Z h0 x "java/lang/String" "value" "[B" (.ref xt)) (s2 : Fld Z h0 x "java/lang/String" "coder" "B" (.int 0)) (s3 : Arv Z h0 xt xtk .byte (4 : Int32) ([(.int ((Ad x0).toInt8.toInt32)), (.int ((Ad x1).toInt8.toInt32)), (.int ((61 : Int32).toInt8.toInt32)), (.int ((61 : Int32).toInt8.toInt32))]) (.int 0)) (s4 : Exa Z h0 xt "[B") (XS : Ax Z n0 G1 G3 U8 I8 TB DE) (hx0 : Ag x0) (hx1 : Ag x1) (hs : (x1 &&& (((1 : Int32) <<< ((4 : Int32) &&& 31)) - (1 : Int32))) = (0 : Int32)) :
    Cf l Z Ca (⟨"com/example/torrey/torrey/Base64Url", "decodeWithOptionalPadding", "(Ljava/lang/String;)[B"⟩ : MethodName) prog_1_method_4_code 3 (some (.array .byte)) ({ frames := 7, cells := 8, slots := 55, locals := 103 } : Room) n0 #[(.ref x)] h0 [] (fun v h => ∃ r : Addr, ∃ rk : ClassId, v = some (.ref r) ∧ h0.size ≤ r ∧ Keep h0 h [] ∧ Arv Z h r rk .byte (1 : Int32) ([(.int (Ay (Dg x0 x1)))]) (.int 0)) := by
  refine Cm hEL wS (by decide +kernel) #[.val (.ref x), .unset, .unset] (fun m => by first | (simp [entryFrame, mkF, argsToLocals, Value.category]; done) | rfl) ?_
  intro p e s m below meth c T0 CW SW0
  have XS_ := XS
  obtain ⟨O2, O4, P5, rG3, OU, OI, OT, OD, hUI, TBlt, DElt⟩ := XS_
  refine Av CW SW0 ?_
  intro vm1 C S2 rb3
  refine Ac C S2 [(0, .aload_n 0, 1)] 1 #[Ab x, .unset, .unset] [.ref x] ?_
  have SW4 := rb3 _ _ _ _ [] [] S2 (Keep.refl _ _) all0 all0
  refine Cu CW SW4 (ow hw 50 rfl) (by decide +kernel) 16 (by decide) (by decide) (by decide) (by decide) ?_
  intro T5 h6 a7 SW8 E9
  have f10 : n0 ≤ h6.size := (Nat.le_trans z0 E9.1)
  refine Av CW SW8 ?_
  intro vm17 C S18 rb19
  refine Ae C S18 hw 53 54 55 56 (De l Z a0 hw x a7 h6 n0 f10) 0 [.ref x, .ref a7] [] Cv ?_
  rintro T12 h13 v14 L15 S16 ⟨⟨rfl, e11⟩, -⟩
  rw [e11] at S16; clear e11
  refine Ac C S16 [(6, .pop, 1), (7, .aload_n 0, 1)] 8 #[Ab x, .unset, .unset] [.ref x] ?_
  have f20 := (X00.ext E9)
  have f21 := (Exa.ext E9 s0)
  have f22 := (Fld.ext E9 s1)
  have f23 := (Fld.ext E9 s2)
  have f24 := (s3.ext E9)
  refine Ah C S16 hw 57 58 60 60 59 61 19 (At l Z a0 hw G1 G3 x _ _ _ _ h6 n0 f10 f20 f21 f22 f23 f24 O2 O4 P5 rG3) 0 f21 [] [] Al ?_
  rintro T26 h27 v28 L29 S30 ⟨⟨rfl, e25⟩, -⟩
  rw [e25] at S30; clear e25
  refine Ac C S30 [(11, .istore_n 1, 1), (12, .iload_n 1, 1), (13, .ifCond .le 21, 3), (16, .aload_n 0, 1), (17, .iload_n 1, 1), (18, .iconst 1, 1), (19, .isub, 1)] 20 #[Ab x, Aa 4, .unset] [.int 3, .ref x] ?_
  refine Ah C S30 hw 67 68 70 70 69 71 19 (Bm l Z a0 hw G1 G3 x _ _ _ _ 3 ((61 : Int32).toInt8.toInt32) 61 h6 n0 f10 f20 f21 f22 f23 f24 O2 O4 P5 rG3 (⟨(by decide), (by decide)⟩) rfl (by decide) (by decide)) 0 f21 [.int 3] [] Be ?_
  rintro T32 h33 v34 L35 S36 ⟨⟨rfl, e31⟩, -⟩
  rw [e31] at S36; clear e31
  refine Ac C S36 [(23, .bipush 61, 2), (25, .if_icmp .ne 9, 3), (28, .iinc 1 (-1), 3), (31, .goto (-19), 3), (12, .iload_n 1, 1), (13, .ifCond .le 21, 3), (16, .aload_n 0, 1), (17, .iload_n 1, 1), (18, .iconst 1, 1), (19, .isub, 1)] 20 #[Ab x, Aa 3, .unset] [.int 2, .ref x] ?_
  refine Ah C S36 hw 67 68 70 70 69 71 19 (Bm l Z a0 hw G1 G3 x _ _ _ _ 2 ((61 : Int32).toInt8.toInt32) 61 h6 n0 f10 f20 f21 f22 f23 f24 O2 O4 P5 rG3 (⟨(by decide), (by decide)⟩) rfl (by decide) (by decide)) 0 f21 [.int 2] [] Be ?_
  rintro T38 h39 v40 L41 S42 ⟨⟨rfl, e37⟩, -⟩
  rw [e37] at S42; clear e37
  refine Ac C S42 [(23, .bipush 61, 2), (25, .if_icmp .ne 9, 3), (28, .iinc 1 (-1), 3), (31, .goto (-19), 3), (12, .iload_n 1, 1), (13, .ifCond .le 21, 3), (16, .aload_n 0, 1), (17, .iload_n 1, 1), (18, .iconst 1, 1), (19, .isub, 1)] 20 #[Ab x, Aa 2, .unset] [.int 1, .ref x] ?_
  refine Ah C S42 hw 67 68 70 70 69 71 19 (Bm l Z a0 hw G1 G3 x _ _ _ _ 1 ((Ad x1).toInt8.toInt32) (Ad x1) h6 n0 f10 f20 f21 f22 f23 f24 O2 O4 P5 rG3 (⟨(by decide), (by decide)⟩) rfl (Ce hx1) (Ai hx1)) 0 f21 [.int 1] [] Be ?_
  rintro T44 h45 v46 L47 S48 ⟨⟨rfl, e43⟩, -⟩
  rw [e43] at S48; clear e43
  refine Ac C S48 [(23, .bipush 61, 2)] 25 #[Ab x, Aa 2, .unset] [.int 61, .int (Ad x1)] ?_
  refine Bg C S48 .ne 9 34 (fun (q49 : ¬ (Ad x1) = (61 : Int32)) => ?_) (fun (hq : (Ad x1) = (61 : Int32)) => False.elim (Do hx1 hq))
  refine Ac C S48 [(34, .aload_n 0, 1)] 35 #[Ab x, Aa 2, .unset] [.ref x] ?_
  refine Ah C S48 hw 57 58 60 60 59 61 19 (At l Z a0 hw G1 G3 x _ _ _ _ h6 n0 f10 f20 f21 f22 f23 f24 O2 O4 P5 rG3) 0 f21 [] [] Al ?_
  rintro T51 h52 v53 L54 S55 ⟨⟨rfl, e50⟩, -⟩
  rw [e50] at S55; clear e50
  refine Ac C S55 [(38, .iload_n 1, 1), (39, .isub, 1), (40, .istore_n 2, 1), (41, .iload_n 2, 1), (42, .iconst 2, 1), (43, .if_icmp .gt 16, 3), (46, .iload_n 2, 1), (47, .ifCond .le 28, 3), (50, .aload_n 0, 1)] 51 #[Ab x, Aa 2, Aa 2] [.ref x] ?_
  refine Ah C S55 hw 57 58 60 60 59 61 19 (At l Z a0 hw G1 G3 x _ _ _ _ h6 n0 f10 f20 f21 f22 f23 f24 O2 O4 P5 rG3) 0 f21 [] [] Al ?_
  rintro T57 h58 v59 L60 S61 ⟨⟨rfl, e56⟩, -⟩
  rw [e56] at S61; clear e56
  refine Ac C S61 [(54, .iconst 4, 1)] 55 #[Ab x, Aa 2, Aa 2] [.int 4, .int 4] ?_
  refine Dj C S61 (by decide +kernel) (by decide) ?_
  refine Ac C S61 [(56, .ifCond .eq 19, 3), (75, .aload_n 0, 1), (76, .iconst 0, 1), (77, .iload_n 1, 1)] 78 #[Ab x, Aa 2, Aa 2] [.int 2, .int 0, .ref x] ?_
  have f62 := (Exa.ext E9 s4)
  refine Ah C S61 hw 89 90 92 92 91 93 19 (own_su42 l Z a0 hw G1 G3 U8 I8 TB DE x _ _ _ _ _ _ h6 n0 f10 f20 f21 f22 f23 f24 f62 XS) 0 f21 [.int 0, .int 2] [] Dn ?_
  rintro T73 h74 v75 L76 S77 ⟨⟨a63, a64, k65, rfl, g66, K67, f68, f69, f70, f71, f72⟩, -⟩
  have f78 := (f20.keep K67 all0)
  have f79 := ((TK.ext E9).keep K67 nin0)
  have f80 := ((Exa.ext E9 DEx).keep K67)
  have f81 := ((Fld.ext E9 DEu).keep K67 nin0)
  have f82 := ((Fld.ext E9 DEm).keep K67 nin0)
  have f83 : n0 ≤ h74.size := (Nat.le_trans f10 K67.1)
  have o94 : h6.size ≤ a63 := Nat.le_trans (Nat.le_refl _) g66
  have SW95 := rb19 _ _ _ _ [] [a63] S77 ((Keep.refl _ _).trans K67 all0) all0 (allS ⟨o94, f68.lt⟩ all0)
  refine Br CW SW95 (ow hw 126 rfl) (ow hw 127 rfl) (ow hw 48 rfl) (ow hw 128 rfl) (by decide) (own_du2 l Z a0 hw hEL wS G1 G3 U8 I8 TB TBk DE a63 _ _ x0 x1 h74 n0 f83 f78 f79 f80 f81 f82 f68 f69 f70 f71 f72 XS hx0 hx1 hs) all0 0 (by decide) (by decide) [(.ref a63)] [] rfl Cb rfl rfl rfl (Ak rfl) (by decide) (by decide) (by decide +kernel) ?_
  rintro T96 h97 v98 SW99 hg100 ⟨a84, k85, rfl, g86, K87, f88⟩
  refine Ck CW SW99 rfl rfl (by decide +kernel) (by decide) (by decide) ?_
  have o102 : h0.size ≤ h74.size := (Nat.le_trans (Nat.le_trans (Nat.le_refl _) E9.1) K67.1)
  have o101 : h0.size ≤ a84 := Nat.le_trans o102 g86
  exact ⟨a84, k85, rfl, o101, ((((Keep.refl _ _).ext E9).trans K67 all0).trans K87 all0), f88⟩
theorem own_cb43 (hw : Aj a0 Z) (b : Addr) (bk : ClassId) (v0 : Int32) (v1 : Int32) (v2 : Int32) (v3 : Int32) (h0 : Heap) (n0 : Nat) (z0 : n0 ≤ h0.size) (b0 : Arv Z h0 b bk .byte (4 : Int32) ([(.int v0), (.int v1), (.int v2), (.int v3)]) (.int 0)) (b1 : Exa Z h0 b "[B") :
    Af l Z (⟨"java/util/Arrays", "copyOfRangeByte", "([BII)[B"⟩ : MethodName) jdk_65_method_133_code 5 (some (.array .byte)) ({ frames := 1, cells := 1, slots := 3, locals := 18 } : Room) n0 #[(.ref b), (.int 0), (.int 3)] h0 (fun v h => ∃ r : Addr, ∃ rk : ClassId, v = some (.ref r) ∧ h0.size ≤ r ∧ Keep h0 h [] ∧ Arv Z h r rk .byte (3 : Int32) ([(.int v0), (.int v1), (.int v2)]) (.int 0) ∧ Exa Z h r "[B") := by
  refine Ar #[.val (.ref b), .val (.int 0), .val (.int 3), .unset, .unset] ?_
  intro p e s m below meth c T0 C S0
  refine Ac C S0 [(0, .iload_n 1, 1), (1, .iload_n 2, 1)] 2 #[Ab b, Aa 0, Aa 3, .unset, .unset] [.int 3, .int 0] ?_
  refine Ae C S0 hw 112 113 107 114 (own_ckl l Z a0 hw 0 3 h0 n0 z0 (by decide)) 0 [.int 0, .int 3] [] Fv ?_
  rintro T2 h3 v4 L5 S6 ⟨⟨rfl, e1⟩, -⟩
  rw [e1] at S6; clear e1
  refine Ac C S6 [(5, .iload_n 2, 1), (6, .iload_n 1, 1), (7, .isub, 1), (8, .istore_n 3, 1), (9, .iload_n 3, 1)] 10 #[Ab b, Aa 0, Aa 3, Aa 3, .unset] [.int 3] ?_
  refine Cp C S6 (aty := .byte) (ad := "[B") (by decide) (ow hw 35 rfl) (by decide +kernel) (by decide) 3 (by decide) (by decide) (by decide) (by decide) ?_
  intro T7 h9 a10 k11 S8 g12 E13 f14 x15
  have f16 : Arv Z h9 a10 k11 .byte (3 : Int32) ([(.int 0), (.int 0), (.int 0)]) (.int 0) := Arv.pad f14 (pad_rep [] (.int 0) 3)
  refine Ac C S8 [(12, .astore 4, 2), (14, .aload_n 0, 1), (15, .iload_n 1, 1), (16, .aload 4, 2), (18, .iconst 0, 1), (19, .aload_n 0, 1)] 20 #[Ab b, Aa 0, Aa 3, Aa 3, Ab a10] [.ref b, .int 0, .ref a10, .int 0, .ref b] ?_
  have f17 := (b0.ext E13)
  refine Au C S8 f17 (by decide +kernel) ?_
  refine Ac C S8 [(21, .iload_n 1, 1), (22, .isub, 1), (23, .iload_n 3, 1)] 24 #[Ab b, Aa 0, Aa 3, Aa 3, Ab a10] [.int 3, .int 4, .int 0, .ref a10, .int 0, .ref b] ?_
  have f18 : n0 ≤ h9.size := (Nat.le_trans z0 E13.1)
  refine Ae C S8 hw 115 116 117 118 (own_min l Z a0 hw (4 : Int32) (3 : Int32) h9 n0 f18) 4 [.int 4, .int 3] [.int 0, .ref a10, .int 0, .ref b] Fx ?_
  rintro T20 h21 v22 L23 S24 ⟨⟨rfl, e19⟩, -⟩
  rw [e19] at S24; clear e19
  rw [show (if (3 : Int32) < 4 then (3 : Int32) else (4 : Int32)) = (3 : Int32) from (by decide)]
  have g25 : n0 ≤ a10 := by rw [g12]; exact z0
  refine Fn C S24 (ow hw 119 rfl) (ow hw 122 rfl) (ow hw 120 rfl) (ow hw 121 rfl) f17 f16 rfl (by decide) (by decide) (by decide) (by decide) (by decide) (by decide) g25 ([(.int v0), (.int v1), (.int v2)]) rfl rfl (by decide +kernel) (by decide) 0 (Ak rfl) (by decide) ?_
  intro T26 h28 S27 K29 f30
  refine Ac C S27 [(30, .aload 4, 2)] 32 #[Ab b, Aa 0, Aa 3, Aa 3, Ab a10] [.ref a10] ?_
  refine Az C S27 rfl rfl (by decide +kernel) (by decide) (by decide) ?_
  have o31 : h0.size ≤ a10 := by rw [g12]; exact (Nat.le_refl _)
  have f32 := (x15.keep K29)
  exact ⟨a10, k11, rfl, o31, (((Keep.refl _ _).ext E13).trans K29 (allS (Or.inr o31) all0)), f30, f32⟩
theorem own_cc43 (hw : Aj a0 Z) (b : Addr) (bk : ClassId) (v0 : Int32) (v1 : Int32) (v2 : Int32) (v3 : Int32) (h0 : Heap) (n0 : Nat) (z0 : n0 ≤ h0.size) (b0 : Arv Z h0 b bk .byte (4 : Int32) ([(.int v0), (.int v1), (.int v2), (.int v3)]) (.int 0)) (b1 : Exa Z h0 b "[B") :
    Af l Z (⟨"java/util/Arrays", "copyOfRange", "([BII)[B"⟩ : MethodName) jdk_65_method_132_code 3 (some (.array .byte)) ({ frames := 2, cells := 1, slots := 3, locals := 34 } : Room) n0 #[(.ref b), (.int 0), (.int 3)] h0 (fun v h => ∃ r : Addr, ∃ rk : ClassId, v = some (.ref r) ∧ h0.size ≤ r ∧ Keep h0 h [] ∧ Arv Z h r rk .byte (3 : Int32) ([(.int v0), (.int v1), (.int v2)]) (.int 0) ∧ Exa Z h r "[B") := by
  refine Ar #[.val (.ref b), .val (.int 0), .val (.int 3)] ?_
  intro p e s m below meth c T0 C S0
  refine Ac C S0 [(0, .iload_n 1, 1), (1, .ifCond .ne 9, 3), (4, .iload_n 2, 1), (5, .aload_n 0, 1)] 6 #[Ab b, Aa 0, Aa 3] [.ref b, .int 3] ?_
  refine Au C S0 b0 (by decide +kernel) ?_
  refine Ac C S0 [(7, .if_icmp .eq 10, 3), (10, .aload_n 0, 1), (11, .iload_n 1, 1), (12, .iload_n 2, 1)] 13 #[Ab b, Aa 0, Aa 3] [.int 3, .int 0, .ref b] ?_
  refine Ae C S0 hw 109 110 107 111 (own_cb43 l Z a0 hw b _ _ _ _ _ h0 n0 z0 b0 b1) 0 [.ref b, .int 0, .int 3] [] Dz ?_
  rintro T7 h8 v9 L10 S11 ⟨⟨a1, k2, rfl, g3, K4, f5, f6⟩, -⟩
  refine Az C S11 rfl rfl (by decide +kernel) (by decide) (by decide) ?_
  have o12 : h0.size ≤ a1 := Nat.le_trans (Nat.le_refl _) g3
  exact ⟨a1, k2, rfl, o12, ((Keep.refl _ _).trans K4 all0), f5, f6⟩
theorem own_nw43 (hw : Aj a0 Z) (b : Addr) (bk : ClassId) (v0 : Int32) (v1 : Int32) (v2 : Int32) (v3 : Int32) (h0 : Heap) (n0 : Nat) (z0 : n0 ≤ h0.size) (b0 : Arv Z h0 b bk .byte (4 : Int32) ([(.int v0), (.int v1), (.int v2), (.int v3)]) (.int 0)) (b1 : Exa Z h0 b "[B") :
    Af l Z (⟨"java/lang/StringLatin1", "newString", "([BII)Ljava/lang/String;"⟩ : MethodName) jdk_43_method_47_code 3 (some (.object "java/lang/String")) ({ frames := 3, cells := 2, slots := 7, locals := 50 } : Room) n0 #[(.ref b), (.int 0), (.int 3)] h0 (fun v h => ∃ r : Addr, ∃ rt : Addr, ∃ rtk : ClassId, v = some (.ref r) ∧ h0.size ≤ r ∧ Keep h0 h [] ∧ Exa Z h r "java/lang/String" ∧ Fld Z h r "java/lang/String" "value" "[B" (.ref rt) ∧ Fld Z h r "java/lang/String" "coder" "B" (.int 0) ∧ Arv Z h rt rtk .byte (3 : Int32) ([(.int v0), (.int v1), (.int v2)]) (.int 0) ∧ Exa Z h rt "[B") := by
  refine Ar #[.val (.ref b), .val (.int 0), .val (.int 3)] ?_
  intro p e s m below meth c T0 C S0
  refine Ac C S0 [(0, .iload_n 2, 1), (1, .ifCond .ne 6, 3)] 7 #[Ab b, Aa 0, Aa 3] [] ?_
  refine Dq C S0 (ow hw 104 rfl) (ow hw 18 rfl) (ow hw 19 rfl) (by decide +kernel) (by decide) (by decide) ?_
  intro T1 h3 a4 S2 g5 E6 x7 D8
  have f9 : Fld Z h3 a4 "java/lang/String" "coder" "B" (.int 0) := D8 (ty := .byte) (Or.inr (ow hw 43 rfl)) Cx
  have f10 : Fld Z h3 a4 "java/lang/String" "value" "[B" .null := D8 (ty := (.array .byte)) (Or.inr (ow hw 45 rfl)) Cy
  refine Ac C S2 [(10, .dup, 1), (11, .aload_n 0, 1), (12, .iload_n 1, 1), (13, .iload_n 1, 1), (14, .iload_n 2, 1), (15, .iadd, 1)] 16 #[Ab b, Aa 0, Aa 3] [.int 3, .int 0, .ref b, .ref a4, .ref a4] ?_
  have f11 := (b0.ext E6)
  have f12 := (Exa.ext E6 b1)
  have f13 : n0 ≤ h3.size := (Nat.le_trans z0 E6.1)
  refine Ae C S2 hw 105 106 107 108 (own_cc43 l Z a0 hw b _ _ _ _ _ h3 n0 f13 f11 f12) 2 [.ref b, .int 0, .int 3] [.ref a4, .ref a4] Dz ?_
  rintro T20 h21 v22 L23 S24 ⟨⟨a14, k15, rfl, g16, K17, f18, f19⟩, -⟩
  refine Ac C S24 [(19, .iconst 0, 1)] 20 #[Ab b, Aa 0, Aa 3] [.int 0, .ref a14, .ref a4, .ref a4] ?_
  have f25 := (x7.keep K17)
  have f26 := (f10.keep K17 nin0)
  have f27 := (f9.keep K17 nin0)
  have f28 : n0 ≤ h21.size := (Nat.le_trans f13 K17.1)
  have g29 : n0 ≤ a4 := by rw [g5]; exact z0
  refine Cs C S24 rfl (ow hw 123 rfl) (ow hw 124 rfl) (ow hw 125 rfl) (by decide) (Af.pay (own_sib l Z a0 hw a4 a14 h21 n0 f28 g29 f25 f26 f27) C 1 (ow hw 125 rfl) (ow hw 19 rfl) (by decide) (by decide)) (fun _ _ _ q => q.2) [.ref a14, .int 0] [.ref a4] rfl Fy rfl rfl rfl (Ak rfl) (by decide) (by decide) (by decide +kernel) ?_
  rintro T34 h35 v36 L37 S38 ⟨⟨rfl, K30, f31, f32, f33⟩, -⟩
  refine Az C S38 rfl rfl (by decide +kernel) (by decide) (by decide) ?_
  have o39 : h0.size ≤ a4 := by rw [g5]; exact (Nat.le_refl _)
  have n40 : a4 ≠ a14 := Nat.ne_of_lt (Nat.lt_of_lt_of_le x7.lt g16)
  have f41 := (f18.keep K30 (ninS (Ne.symm n40) nin0))
  have f42 := (f19.keep K30)
  exact ⟨a4, a14, k15, rfl, o39, ((((Keep.refl _ _).ext E6).trans K17 all0).trans K30 (allS (Or.inr o39) all0)), f31, f32, f33, f41, f42⟩
theorem own_su43 (hw : Aj a0 Z) (G1 : Int32) (G3 : Value) (U8 : Addr) (I8 : Addr) (TB : Addr) (DE : Addr) (x : Addr) (xt : Addr) (xtk : ClassId) (v0 : Int32) (v1 : Int32) (v2 : Int32) (v3 : Int32) (h0 : Heap) (n0 : Nat) (z0 : n0 ≤ h0.size) (X00 : Old Z n0 h0) (s0 : Exa Z h0 x "java/lang/String") (s1 : Fld Z h0 x "java/lang/String" "value" "[B" (.ref xt)) (s2 : Fld Z h0 x "java/lang/String" "coder" "B" (.int 0)) (s3 : Arv Z h0 xt xtk .byte (4 : Int32) ([(.int v0), (.int v1), (.int v2), (.int v3)]) (.int 0)) (s4 : Exa Z h0 xt "[B") (XS : Ax Z n0 G1 G3 U8 I8 TB DE) :
    Af l Z (⟨"java/lang/String", "substring", "(II)Ljava/lang/String;"⟩ : MethodName) jdk_42_method_92_code 5 (some (.object "java/lang/String")) ({ frames := 4, cells := 2, slots := 7, locals := 64 } : Room) n0 #[(.ref x), (.int 0), (.int 3)] h0 (fun v h => ∃ r : Addr, ∃ rt : Addr, ∃ rtk : ClassId, v = some (.ref r) ∧ h0.size ≤ r ∧ Keep h0 h [] ∧ Exa Z h r "java/lang/String" ∧ Fld Z h r "java/lang/String" "value" "[B" (.ref rt) ∧ Fld Z h r "java/lang/String" "coder" "B" (.int 0) ∧ Arv Z h rt rtk .byte (3 : Int32) ([(.int v0), (.int v1), (.int v2)]) (.int 0) ∧ Exa Z h rt "[B") := by
  refine Ar #[.val (.ref x), .val (.int 0), .val (.int 3), .unset, .unset] ?_
  intro p e s m below meth c T0 C S0
  have XS_ := XS
  obtain ⟨O2, O4, P5, rG3, OU, OI, OT, OD, hUI, TBlt, DElt⟩ := XS_
  refine Ac C S0 [(0, .aload_n 0, 1)] 1 #[Ab x, Aa 0, Aa 3, .unset, .unset] [.ref x] ?_
  refine Ah C S0 hw 94 58 60 60 59 61 19 (At l Z a0 hw G1 G3 x _ _ _ _ h0 n0 z0 X00 s0 s1 s2 s3 O2 O4 P5 rG3) 0 s0 [] [] Al ?_
  rintro T2 h3 v4 L5 S6 ⟨⟨rfl, e1⟩, -⟩
  rw [e1] at S6; clear e1
  refine Ac C S6 [(4, .istore_n 3, 1), (5, .iload_n 1, 1), (6, .iload_n 2, 1), (7, .iload_n 3, 1)] 8 #[Ab x, Aa 0, Aa 3, Aa 4, .unset] [.int 4, .int 3, .int 0] ?_
  refine Ae C S6 hw 95 96 19 97 (Du l Z a0 hw G1 G3 0 3 4 h0 n0 z0 X00 O2 O4 P5 rG3 (by decide) (by decide) (by decide)) 0 [.int 0, .int 3, .int 4] [] Dm ?_
  rintro T8 h9 v10 L11 S12 ⟨⟨rfl, e7⟩, -⟩
  rw [e7] at S12; clear e7
  refine Ac C S12 [(11, .iload_n 1, 1), (12, .ifCond .ne 10, 3), (15, .iload_n 2, 1), (16, .iload_n 3, 1), (17, .if_icmp .ne 5, 3), (22, .iload_n 2, 1), (23, .iload_n 1, 1), (24, .isub, 1), (25, .istore 4, 2), (27, .aload_n 0, 1)] 28 #[Ab x, Aa 0, Aa 3, Aa 4, Aa 3] [.ref x] ?_
  refine Ah C S12 hw 72 73 75 75 74 76 19 (Fu l Z a0 hw G1 G3 x h0 n0 z0 X00 s2 O2 O4 P5 rG3) 0 s0 [] [] Fw ?_
  rintro T14 h15 v16 L17 S18 ⟨⟨rfl, e13⟩, -⟩
  rw [e13] at S18; clear e13
  refine Ac C S18 [(31, .ifCond .eq 16, 3), (34, .aload_n 0, 1)] 35 #[Ab x, Aa 0, Aa 3, Aa 4, Aa 3] [.ref x] ?_
  refine Ch C S18 hw 44 s1 ?_
  intro T19 S20
  refine Ac C S20 [(38, .iload_n 1, 1), (39, .iload 4, 2)] 41 #[Ab x, Aa 0, Aa 3, Aa 4, Aa 3] [.int 3, .int 0, .ref xt] ?_
  refine Ae C S20 hw 101 102 79 103 (own_nw43 l Z a0 hw xt _ _ _ _ _ h0 n0 z0 s3 s4) 0 [.ref xt, .int 0, .int 3] [] Fz ?_
  rintro T31 h32 v33 L34 S35 ⟨⟨a21, a22, k23, rfl, g24, K25, f26, f27, f28, f29, f30⟩, -⟩
  refine Ac C S35 [(44, .goto 13, 3)] 57 #[Ab x, Aa 0, Aa 3, Aa 4, Aa 3] [.ref a21] ?_
  refine Az C S35 rfl rfl (by decide +kernel) (by decide) (by decide) ?_
  have o36 : h0.size ≤ a21 := Nat.le_trans (Nat.le_refl _) g24
  exact ⟨a21, a22, k23, rfl, o36, ((Keep.refl _ _).trans K25 all0), f26, f27, f28, f29, f30⟩
theorem own_wp43 (hw : Aj a0 Z) (hEL : EW Z a0 Ca) (wS : ∀ a ∈ Bundle.stringAtoms, a.before a0 Z = true) (G1 : Int32) (G3 : Value) (U8 : Addr) (I8 : Addr) (TB : Addr) (TBk : ClassId) (DE : Addr) (x : Addr) (xt : Addr) (xtk : ClassId) (x0 : Int32) (x1 : Int32) (x2 : Int32) (h0 : Heap) (n0 : Nat) (z0 : n0 ≤ h0.size) (X00 : Old Z n0 h0) (TK : Arv Z h0 TB TBk .int 256 Bs (.int 0)) (DEx : Exa Z h0 DE "java/util/Base64$Decoder") (DEu : Fld Z h0 DE "java/util/Base64$Decoder" "isURL" "Z" (.int 1)) (DEm : Fld Z h0 DE "java/util/Base64$Decoder" "isMIME" "Z" (.int 0)) (s0 : Exa Z h0 x "java/lang/String") (s1 : Fld Z h0 x "java/lang/String" "value" "[B" (.ref xt)) (s2 : Fld Z h0 x "java/lang/String" "coder" "B" (.int 0)) (s3 : Arv Z h0 xt xtk .byte (4 : Int32) ([(.int ((Ad x0).toInt8.toInt32)), (.int ((Ad x1).toInt8.toInt32)), (.int ((Ad x2).toInt8.toInt32)), (.int ((61 : Int32).toInt8.toInt32))]) (.int 0)) (s4 : Exa Z h0 xt "[B") (XS : Ax Z n0 G1 G3 U8 I8 TB DE) (hx0 : Ag x0) (hx1 : Ag x1) (hx2 : Ag x2) (hs : (x2 &&& (((1 : Int32) <<< ((2 : Int32) &&& 31)) - (1 : Int32))) = (0 : Int32)) :
    Cf l Z Ca (⟨"com/example/torrey/torrey/Base64Url", "decodeWithOptionalPadding", "(Ljava/lang/String;)[B"⟩ : MethodName) prog_1_method_4_code 3 (some (.array .byte)) ({ frames := 7, cells := 8, slots := 57, locals := 103 } : Room) n0 #[(.ref x)] h0 [] (fun v h => ∃ r : Addr, ∃ rk : ClassId, v = some (.ref r) ∧ h0.size ≤ r ∧ Keep h0 h [] ∧ Arv Z h r rk .byte (2 : Int32) ([(.int (Ay (Ci x0 x1 x2))), (.int (Bk (Ci x0 x1 x2)))]) (.int 0)) := by
  refine Cm hEL wS (by decide +kernel) #[.val (.ref x), .unset, .unset] (fun m => by first | (simp [entryFrame, mkF, argsToLocals, Value.category]; done) | rfl) ?_
  intro p e s m below meth c T0 CW SW0
  have XS_ := XS
  obtain ⟨O2, O4, P5, rG3, OU, OI, OT, OD, hUI, TBlt, DElt⟩ := XS_
  refine Av CW SW0 ?_
  intro vm1 C S2 rb3
  refine Ac C S2 [(0, .aload_n 0, 1)] 1 #[Ab x, .unset, .unset] [.ref x] ?_
  have SW4 := rb3 _ _ _ _ [] [] S2 (Keep.refl _ _) all0 all0
  refine Cu CW SW4 (ow hw 50 rfl) (by decide +kernel) 16 (by decide) (by decide) (by decide) (by decide) ?_
  intro T5 h6 a7 SW8 E9
  have f10 : n0 ≤ h6.size := (Nat.le_trans z0 E9.1)
  refine Av CW SW8 ?_
  intro vm17 C S18 rb19
  refine Ae C S18 hw 53 54 55 56 (De l Z a0 hw x a7 h6 n0 f10) 0 [.ref x, .ref a7] [] Cv ?_
  rintro T12 h13 v14 L15 S16 ⟨⟨rfl, e11⟩, -⟩
  rw [e11] at S16; clear e11
  refine Ac C S16 [(6, .pop, 1), (7, .aload_n 0, 1)] 8 #[Ab x, .unset, .unset] [.ref x] ?_
  have f20 := (X00.ext E9)
  have f21 := (Exa.ext E9 s0)
  have f22 := (Fld.ext E9 s1)
  have f23 := (Fld.ext E9 s2)
  have f24 := (s3.ext E9)
  refine Ah C S16 hw 57 58 60 60 59 61 19 (At l Z a0 hw G1 G3 x _ _ _ _ h6 n0 f10 f20 f21 f22 f23 f24 O2 O4 P5 rG3) 0 f21 [] [] Al ?_
  rintro T26 h27 v28 L29 S30 ⟨⟨rfl, e25⟩, -⟩
  rw [e25] at S30; clear e25
  refine Ac C S30 [(11, .istore_n 1, 1), (12, .iload_n 1, 1), (13, .ifCond .le 21, 3), (16, .aload_n 0, 1), (17, .iload_n 1, 1), (18, .iconst 1, 1), (19, .isub, 1)] 20 #[Ab x, Aa 4, .unset] [.int 3, .ref x] ?_
  refine Ah C S30 hw 67 68 70 70 69 71 19 (Bm l Z a0 hw G1 G3 x _ _ _ _ 3 ((61 : Int32).toInt8.toInt32) 61 h6 n0 f10 f20 f21 f22 f23 f24 O2 O4 P5 rG3 (⟨(by decide), (by decide)⟩) rfl (by decide) (by decide)) 0 f21 [.int 3] [] Be ?_
  rintro T32 h33 v34 L35 S36 ⟨⟨rfl, e31⟩, -⟩
  rw [e31] at S36; clear e31
  refine Ac C S36 [(23, .bipush 61, 2), (25, .if_icmp .ne 9, 3), (28, .iinc 1 (-1), 3), (31, .goto (-19), 3), (12, .iload_n 1, 1), (13, .ifCond .le 21, 3), (16, .aload_n 0, 1), (17, .iload_n 1, 1), (18, .iconst 1, 1), (19, .isub, 1)] 20 #[Ab x, Aa 3, .unset] [.int 2, .ref x] ?_
  refine Ah C S36 hw 67 68 70 70 69 71 19 (Bm l Z a0 hw G1 G3 x _ _ _ _ 2 ((Ad x2).toInt8.toInt32) (Ad x2) h6 n0 f10 f20 f21 f22 f23 f24 O2 O4 P5 rG3 (⟨(by decide), (by decide)⟩) rfl (Ce hx2) (Ai hx2)) 0 f21 [.int 2] [] Be ?_
  rintro T38 h39 v40 L41 S42 ⟨⟨rfl, e37⟩, -⟩
  rw [e37] at S42; clear e37
  refine Ac C S42 [(23, .bipush 61, 2)] 25 #[Ab x, Aa 3, .unset] [.int 61, .int (Ad x2)] ?_
  refine Bg C S42 .ne 9 34 (fun (q43 : ¬ (Ad x2) = (61 : Int32)) => ?_) (fun (hq : (Ad x2) = (61 : Int32)) => False.elim (Do hx2 hq))
  refine Ac C S42 [(34, .aload_n 0, 1)] 35 #[Ab x, Aa 3, .unset] [.ref x] ?_
  refine Ah C S42 hw 57 58 60 60 59 61 19 (At l Z a0 hw G1 G3 x _ _ _ _ h6 n0 f10 f20 f21 f22 f23 f24 O2 O4 P5 rG3) 0 f21 [] [] Al ?_
  rintro T45 h46 v47 L48 S49 ⟨⟨rfl, e44⟩, -⟩
  rw [e44] at S49; clear e44
  refine Ac C S49 [(38, .iload_n 1, 1), (39, .isub, 1), (40, .istore_n 2, 1), (41, .iload_n 2, 1), (42, .iconst 2, 1), (43, .if_icmp .gt 16, 3), (46, .iload_n 2, 1), (47, .ifCond .le 28, 3), (50, .aload_n 0, 1)] 51 #[Ab x, Aa 3, Aa 1] [.ref x] ?_
  refine Ah C S49 hw 57 58 60 60 59 61 19 (At l Z a0 hw G1 G3 x _ _ _ _ h6 n0 f10 f20 f21 f22 f23 f24 O2 O4 P5 rG3) 0 f21 [] [] Al ?_
  rintro T51 h52 v53 L54 S55 ⟨⟨rfl, e50⟩, -⟩
  rw [e50] at S55; clear e50
  refine Ac C S55 [(54, .iconst 4, 1)] 55 #[Ab x, Aa 3, Aa 1] [.int 4, .int 4] ?_
  refine Dj C S55 (by decide +kernel) (by decide) ?_
  refine Ac C S55 [(56, .ifCond .eq 19, 3), (75, .aload_n 0, 1), (76, .iconst 0, 1), (77, .iload_n 1, 1)] 78 #[Ab x, Aa 3, Aa 1] [.int 3, .int 0, .ref x] ?_
  have f56 := (Exa.ext E9 s4)
  refine Ah C S55 hw 89 90 92 92 91 93 19 (own_su43 l Z a0 hw G1 G3 U8 I8 TB DE x _ _ _ _ _ _ h6 n0 f10 f20 f21 f22 f23 f24 f56 XS) 0 f21 [.int 0, .int 3] [] Dn ?_
  rintro T67 h68 v69 L70 S71 ⟨⟨a57, a58, k59, rfl, g60, K61, f62, f63, f64, f65, f66⟩, -⟩
  have f72 := (f20.keep K61 all0)
  have f73 := ((TK.ext E9).keep K61 nin0)
  have f74 := ((Exa.ext E9 DEx).keep K61)
  have f75 := ((Fld.ext E9 DEu).keep K61 nin0)
  have f76 := ((Fld.ext E9 DEm).keep K61 nin0)
  have f77 : n0 ≤ h68.size := (Nat.le_trans f10 K61.1)
  have o88 : h6.size ≤ a57 := Nat.le_trans (Nat.le_refl _) g60
  have SW89 := rb19 _ _ _ _ [] [a57] S71 ((Keep.refl _ _).trans K61 all0) all0 (allS ⟨o88, f62.lt⟩ all0)
  refine Br CW SW89 (ow hw 126 rfl) (ow hw 127 rfl) (ow hw 48 rfl) (ow hw 128 rfl) (by decide) (own_du3 l Z a0 hw hEL wS G1 G3 U8 I8 TB TBk DE a57 _ _ x0 x1 x2 h68 n0 f77 f72 f73 f74 f75 f76 f62 f63 f64 f65 f66 XS hx0 hx1 hx2 hs) all0 0 (by decide) (by decide) [(.ref a57)] [] rfl Cb rfl rfl rfl (Ak rfl) (by decide) (by decide) (by decide +kernel) ?_
  rintro T90 h91 v92 SW93 hg94 ⟨a78, k79, rfl, g80, K81, f82⟩
  refine Ck CW SW93 rfl rfl (by decide +kernel) (by decide) (by decide) ?_
  have o96 : h0.size ≤ h68.size := (Nat.le_trans (Nat.le_trans (Nat.le_refl _) E9.1) K61.1)
  have o95 : h0.size ≤ a78 := Nat.le_trans o96 g80
  exact ⟨a78, k79, rfl, o95, ((((Keep.refl _ _).ext E9).trans K61 all0).trans K81 all0), f82⟩
theorem own_cb86 (hw : Aj a0 Z) (b : Addr) (bk : ClassId) (v0 : Int32) (v1 : Int32) (v2 : Int32) (v3 : Int32) (v4 : Int32) (v5 : Int32) (v6 : Int32) (v7 : Int32) (h0 : Heap) (n0 : Nat) (z0 : n0 ≤ h0.size) (b0 : Arv Z h0 b bk .byte (8 : Int32) ([(.int v0), (.int v1), (.int v2), (.int v3), (.int v4), (.int v5), (.int v6), (.int v7)]) (.int 0)) (b1 : Exa Z h0 b "[B") :
    Af l Z (⟨"java/util/Arrays", "copyOfRangeByte", "([BII)[B"⟩ : MethodName) jdk_65_method_133_code 5 (some (.array .byte)) ({ frames := 1, cells := 1, slots := 6, locals := 18 } : Room) n0 #[(.ref b), (.int 0), (.int 6)] h0 (fun v h => ∃ r : Addr, ∃ rk : ClassId, v = some (.ref r) ∧ h0.size ≤ r ∧ Keep h0 h [] ∧ Arv Z h r rk .byte (6 : Int32) ([(.int v0), (.int v1), (.int v2), (.int v3), (.int v4), (.int v5)]) (.int 0) ∧ Exa Z h r "[B") := by
  refine Ar #[.val (.ref b), .val (.int 0), .val (.int 6), .unset, .unset] ?_
  intro p e s m below meth c T0 C S0
  refine Ac C S0 [(0, .iload_n 1, 1), (1, .iload_n 2, 1)] 2 #[Ab b, Aa 0, Aa 6, .unset, .unset] [.int 6, .int 0] ?_
  refine Ae C S0 hw 112 113 107 114 (own_ckl l Z a0 hw 0 6 h0 n0 z0 (by decide)) 0 [.int 0, .int 6] [] Fv ?_
  rintro T2 h3 v4 L5 S6 ⟨⟨rfl, e1⟩, -⟩
  rw [e1] at S6; clear e1
  refine Ac C S6 [(5, .iload_n 2, 1), (6, .iload_n 1, 1), (7, .isub, 1), (8, .istore_n 3, 1), (9, .iload_n 3, 1)] 10 #[Ab b, Aa 0, Aa 6, Aa 6, .unset] [.int 6] ?_
  refine Cp C S6 (aty := .byte) (ad := "[B") (by decide) (ow hw 35 rfl) (by decide +kernel) (by decide) 6 (by decide) (by decide) (by decide) (by decide) ?_
  intro T7 h9 a10 k11 S8 g12 E13 f14 x15
  have f16 : Arv Z h9 a10 k11 .byte (6 : Int32) ([(.int 0), (.int 0), (.int 0), (.int 0), (.int 0), (.int 0)]) (.int 0) := Arv.pad f14 (pad_rep [] (.int 0) 6)
  refine Ac C S8 [(12, .astore 4, 2), (14, .aload_n 0, 1), (15, .iload_n 1, 1), (16, .aload 4, 2), (18, .iconst 0, 1), (19, .aload_n 0, 1)] 20 #[Ab b, Aa 0, Aa 6, Aa 6, Ab a10] [.ref b, .int 0, .ref a10, .int 0, .ref b] ?_
  have f17 := (b0.ext E13)
  refine Au C S8 f17 (by decide +kernel) ?_
  refine Ac C S8 [(21, .iload_n 1, 1), (22, .isub, 1), (23, .iload_n 3, 1)] 24 #[Ab b, Aa 0, Aa 6, Aa 6, Ab a10] [.int 6, .int 8, .int 0, .ref a10, .int 0, .ref b] ?_
  have f18 : n0 ≤ h9.size := (Nat.le_trans z0 E13.1)
  refine Ae C S8 hw 115 116 117 118 (own_min l Z a0 hw (8 : Int32) (6 : Int32) h9 n0 f18) 4 [.int 8, .int 6] [.int 0, .ref a10, .int 0, .ref b] Fx ?_
  rintro T20 h21 v22 L23 S24 ⟨⟨rfl, e19⟩, -⟩
  rw [e19] at S24; clear e19
  rw [show (if (6 : Int32) < 8 then (6 : Int32) else (8 : Int32)) = (6 : Int32) from (by decide)]
  have g25 : n0 ≤ a10 := by rw [g12]; exact z0
  refine Fn C S24 (ow hw 119 rfl) (ow hw 122 rfl) (ow hw 120 rfl) (ow hw 121 rfl) f17 f16 rfl (by decide) (by decide) (by decide) (by decide) (by decide) (by decide) g25 ([(.int v0), (.int v1), (.int v2), (.int v3), (.int v4), (.int v5)]) rfl rfl (by decide +kernel) (by decide) 0 (Ak rfl) (by decide) ?_
  intro T26 h28 S27 K29 f30
  refine Ac C S27 [(30, .aload 4, 2)] 32 #[Ab b, Aa 0, Aa 6, Aa 6, Ab a10] [.ref a10] ?_
  refine Az C S27 rfl rfl (by decide +kernel) (by decide) (by decide) ?_
  have o31 : h0.size ≤ a10 := by rw [g12]; exact (Nat.le_refl _)
  have f32 := (x15.keep K29)
  exact ⟨a10, k11, rfl, o31, (((Keep.refl _ _).ext E13).trans K29 (allS (Or.inr o31) all0)), f30, f32⟩
theorem own_cc86 (hw : Aj a0 Z) (b : Addr) (bk : ClassId) (v0 : Int32) (v1 : Int32) (v2 : Int32) (v3 : Int32) (v4 : Int32) (v5 : Int32) (v6 : Int32) (v7 : Int32) (h0 : Heap) (n0 : Nat) (z0 : n0 ≤ h0.size) (b0 : Arv Z h0 b bk .byte (8 : Int32) ([(.int v0), (.int v1), (.int v2), (.int v3), (.int v4), (.int v5), (.int v6), (.int v7)]) (.int 0)) (b1 : Exa Z h0 b "[B") :
    Af l Z (⟨"java/util/Arrays", "copyOfRange", "([BII)[B"⟩ : MethodName) jdk_65_method_132_code 3 (some (.array .byte)) ({ frames := 2, cells := 1, slots := 6, locals := 34 } : Room) n0 #[(.ref b), (.int 0), (.int 6)] h0 (fun v h => ∃ r : Addr, ∃ rk : ClassId, v = some (.ref r) ∧ h0.size ≤ r ∧ Keep h0 h [] ∧ Arv Z h r rk .byte (6 : Int32) ([(.int v0), (.int v1), (.int v2), (.int v3), (.int v4), (.int v5)]) (.int 0) ∧ Exa Z h r "[B") := by
  refine Ar #[.val (.ref b), .val (.int 0), .val (.int 6)] ?_
  intro p e s m below meth c T0 C S0
  refine Ac C S0 [(0, .iload_n 1, 1), (1, .ifCond .ne 9, 3), (4, .iload_n 2, 1), (5, .aload_n 0, 1)] 6 #[Ab b, Aa 0, Aa 6] [.ref b, .int 6] ?_
  refine Au C S0 b0 (by decide +kernel) ?_
  refine Ac C S0 [(7, .if_icmp .eq 10, 3), (10, .aload_n 0, 1), (11, .iload_n 1, 1), (12, .iload_n 2, 1)] 13 #[Ab b, Aa 0, Aa 6] [.int 6, .int 0, .ref b] ?_
  refine Ae C S0 hw 109 110 107 111 (own_cb86 l Z a0 hw b _ _ _ _ _ _ _ _ _ h0 n0 z0 b0 b1) 0 [.ref b, .int 0, .int 6] [] Dz ?_
  rintro T7 h8 v9 L10 S11 ⟨⟨a1, k2, rfl, g3, K4, f5, f6⟩, -⟩
  refine Az C S11 rfl rfl (by decide +kernel) (by decide) (by decide) ?_
  have o12 : h0.size ≤ a1 := Nat.le_trans (Nat.le_refl _) g3
  exact ⟨a1, k2, rfl, o12, ((Keep.refl _ _).trans K4 all0), f5, f6⟩
theorem own_nw86 (hw : Aj a0 Z) (b : Addr) (bk : ClassId) (v0 : Int32) (v1 : Int32) (v2 : Int32) (v3 : Int32) (v4 : Int32) (v5 : Int32) (v6 : Int32) (v7 : Int32) (h0 : Heap) (n0 : Nat) (z0 : n0 ≤ h0.size) (b0 : Arv Z h0 b bk .byte (8 : Int32) ([(.int v0), (.int v1), (.int v2), (.int v3), (.int v4), (.int v5), (.int v6), (.int v7)]) (.int 0)) (b1 : Exa Z h0 b "[B") :
    Af l Z (⟨"java/lang/StringLatin1", "newString", "([BII)Ljava/lang/String;"⟩ : MethodName) jdk_43_method_47_code 3 (some (.object "java/lang/String")) ({ frames := 3, cells := 2, slots := 10, locals := 50 } : Room) n0 #[(.ref b), (.int 0), (.int 6)] h0 (fun v h => ∃ r : Addr, ∃ rt : Addr, ∃ rtk : ClassId, v = some (.ref r) ∧ h0.size ≤ r ∧ Keep h0 h [] ∧ Exa Z h r "java/lang/String" ∧ Fld Z h r "java/lang/String" "value" "[B" (.ref rt) ∧ Fld Z h r "java/lang/String" "coder" "B" (.int 0) ∧ Arv Z h rt rtk .byte (6 : Int32) ([(.int v0), (.int v1), (.int v2), (.int v3), (.int v4), (.int v5)]) (.int 0) ∧ Exa Z h rt "[B") := by
  refine Ar #[.val (.ref b), .val (.int 0), .val (.int 6)] ?_
  intro p e s m below meth c T0 C S0
  refine Ac C S0 [(0, .iload_n 2, 1), (1, .ifCond .ne 6, 3)] 7 #[Ab b, Aa 0, Aa 6] [] ?_
  refine Dq C S0 (ow hw 104 rfl) (ow hw 18 rfl) (ow hw 19 rfl) (by decide +kernel) (by decide) (by decide) ?_
  intro T1 h3 a4 S2 g5 E6 x7 D8
  have f9 : Fld Z h3 a4 "java/lang/String" "coder" "B" (.int 0) := D8 (ty := .byte) (Or.inr (ow hw 43 rfl)) Cx
  have f10 : Fld Z h3 a4 "java/lang/String" "value" "[B" .null := D8 (ty := (.array .byte)) (Or.inr (ow hw 45 rfl)) Cy
  refine Ac C S2 [(10, .dup, 1), (11, .aload_n 0, 1), (12, .iload_n 1, 1), (13, .iload_n 1, 1), (14, .iload_n 2, 1), (15, .iadd, 1)] 16 #[Ab b, Aa 0, Aa 6] [.int 6, .int 0, .ref b, .ref a4, .ref a4] ?_
  have f11 := (b0.ext E6)
  have f12 := (Exa.ext E6 b1)
  have f13 : n0 ≤ h3.size := (Nat.le_trans z0 E6.1)
  refine Ae C S2 hw 105 106 107 108 (own_cc86 l Z a0 hw b _ _ _ _ _ _ _ _ _ h3 n0 f13 f11 f12) 2 [.ref b, .int 0, .int 6] [.ref a4, .ref a4] Dz ?_
  rintro T20 h21 v22 L23 S24 ⟨⟨a14, k15, rfl, g16, K17, f18, f19⟩, -⟩
  refine Ac C S24 [(19, .iconst 0, 1)] 20 #[Ab b, Aa 0, Aa 6] [.int 0, .ref a14, .ref a4, .ref a4] ?_
  have f25 := (x7.keep K17)
  have f26 := (f10.keep K17 nin0)
  have f27 := (f9.keep K17 nin0)
  have f28 : n0 ≤ h21.size := (Nat.le_trans f13 K17.1)
  have g29 : n0 ≤ a4 := by rw [g5]; exact z0
  refine Cs C S24 rfl (ow hw 123 rfl) (ow hw 124 rfl) (ow hw 125 rfl) (by decide) (Af.pay (own_sib l Z a0 hw a4 a14 h21 n0 f28 g29 f25 f26 f27) C 1 (ow hw 125 rfl) (ow hw 19 rfl) (by decide) (by decide)) (fun _ _ _ q => q.2) [.ref a14, .int 0] [.ref a4] rfl Fy rfl rfl rfl (Ak rfl) (by decide) (by decide) (by decide +kernel) ?_
  rintro T34 h35 v36 L37 S38 ⟨⟨rfl, K30, f31, f32, f33⟩, -⟩
  refine Az C S38 rfl rfl (by decide +kernel) (by decide) (by decide) ?_
  have o39 : h0.size ≤ a4 := by rw [g5]; exact (Nat.le_refl _)
  have n40 : a4 ≠ a14 := Nat.ne_of_lt (Nat.lt_of_lt_of_le x7.lt g16)
  have f41 := (f18.keep K30 (ninS (Ne.symm n40) nin0))
  have f42 := (f19.keep K30)
  exact ⟨a4, a14, k15, rfl, o39, ((((Keep.refl _ _).ext E6).trans K17 all0).trans K30 (allS (Or.inr o39) all0)), f31, f32, f33, f41, f42⟩
theorem own_su86 (hw : Aj a0 Z) (G1 : Int32) (G3 : Value) (U8 : Addr) (I8 : Addr) (TB : Addr) (DE : Addr) (x : Addr) (xt : Addr) (xtk : ClassId) (v0 : Int32) (v1 : Int32) (v2 : Int32) (v3 : Int32) (v4 : Int32) (v5 : Int32) (v6 : Int32) (v7 : Int32) (h0 : Heap) (n0 : Nat) (z0 : n0 ≤ h0.size) (X00 : Old Z n0 h0) (s0 : Exa Z h0 x "java/lang/String") (s1 : Fld Z h0 x "java/lang/String" "value" "[B" (.ref xt)) (s2 : Fld Z h0 x "java/lang/String" "coder" "B" (.int 0)) (s3 : Arv Z h0 xt xtk .byte (8 : Int32) ([(.int v0), (.int v1), (.int v2), (.int v3), (.int v4), (.int v5), (.int v6), (.int v7)]) (.int 0)) (s4 : Exa Z h0 xt "[B") (XS : Ax Z n0 G1 G3 U8 I8 TB DE) :
    Af l Z (⟨"java/lang/String", "substring", "(II)Ljava/lang/String;"⟩ : MethodName) jdk_42_method_92_code 5 (some (.object "java/lang/String")) ({ frames := 4, cells := 2, slots := 10, locals := 64 } : Room) n0 #[(.ref x), (.int 0), (.int 6)] h0 (fun v h => ∃ r : Addr, ∃ rt : Addr, ∃ rtk : ClassId, v = some (.ref r) ∧ h0.size ≤ r ∧ Keep h0 h [] ∧ Exa Z h r "java/lang/String" ∧ Fld Z h r "java/lang/String" "value" "[B" (.ref rt) ∧ Fld Z h r "java/lang/String" "coder" "B" (.int 0) ∧ Arv Z h rt rtk .byte (6 : Int32) ([(.int v0), (.int v1), (.int v2), (.int v3), (.int v4), (.int v5)]) (.int 0) ∧ Exa Z h rt "[B") := by
  refine Ar #[.val (.ref x), .val (.int 0), .val (.int 6), .unset, .unset] ?_
  intro p e s m below meth c T0 C S0
  have XS_ := XS
  obtain ⟨O2, O4, P5, rG3, OU, OI, OT, OD, hUI, TBlt, DElt⟩ := XS_
  refine Ac C S0 [(0, .aload_n 0, 1)] 1 #[Ab x, Aa 0, Aa 6, .unset, .unset] [.ref x] ?_
  refine Ah C S0 hw 94 58 60 60 59 61 19 (At l Z a0 hw G1 G3 x _ _ _ _ h0 n0 z0 X00 s0 s1 s2 s3 O2 O4 P5 rG3) 0 s0 [] [] Al ?_
  rintro T2 h3 v4 L5 S6 ⟨⟨rfl, e1⟩, -⟩
  rw [e1] at S6; clear e1
  refine Ac C S6 [(4, .istore_n 3, 1), (5, .iload_n 1, 1), (6, .iload_n 2, 1), (7, .iload_n 3, 1)] 8 #[Ab x, Aa 0, Aa 6, Aa 8, .unset] [.int 8, .int 6, .int 0] ?_
  refine Ae C S6 hw 95 96 19 97 (Du l Z a0 hw G1 G3 0 6 8 h0 n0 z0 X00 O2 O4 P5 rG3 (by decide) (by decide) (by decide)) 0 [.int 0, .int 6, .int 8] [] Dm ?_
  rintro T8 h9 v10 L11 S12 ⟨⟨rfl, e7⟩, -⟩
  rw [e7] at S12; clear e7
  refine Ac C S12 [(11, .iload_n 1, 1), (12, .ifCond .ne 10, 3), (15, .iload_n 2, 1), (16, .iload_n 3, 1), (17, .if_icmp .ne 5, 3), (22, .iload_n 2, 1), (23, .iload_n 1, 1), (24, .isub, 1), (25, .istore 4, 2), (27, .aload_n 0, 1)] 28 #[Ab x, Aa 0, Aa 6, Aa 8, Aa 6] [.ref x] ?_
  refine Ah C S12 hw 72 73 75 75 74 76 19 (Fu l Z a0 hw G1 G3 x h0 n0 z0 X00 s2 O2 O4 P5 rG3) 0 s0 [] [] Fw ?_
  rintro T14 h15 v16 L17 S18 ⟨⟨rfl, e13⟩, -⟩
  rw [e13] at S18; clear e13
  refine Ac C S18 [(31, .ifCond .eq 16, 3), (34, .aload_n 0, 1)] 35 #[Ab x, Aa 0, Aa 6, Aa 8, Aa 6] [.ref x] ?_
  refine Ch C S18 hw 44 s1 ?_
  intro T19 S20
  refine Ac C S20 [(38, .iload_n 1, 1), (39, .iload 4, 2)] 41 #[Ab x, Aa 0, Aa 6, Aa 8, Aa 6] [.int 6, .int 0, .ref xt] ?_
  refine Ae C S20 hw 101 102 79 103 (own_nw86 l Z a0 hw xt _ _ _ _ _ _ _ _ _ h0 n0 z0 s3 s4) 0 [.ref xt, .int 0, .int 6] [] Fz ?_
  rintro T31 h32 v33 L34 S35 ⟨⟨a21, a22, k23, rfl, g24, K25, f26, f27, f28, f29, f30⟩, -⟩
  refine Ac C S35 [(44, .goto 13, 3)] 57 #[Ab x, Aa 0, Aa 6, Aa 8, Aa 6] [.ref a21] ?_
  refine Az C S35 rfl rfl (by decide +kernel) (by decide) (by decide) ?_
  have o36 : h0.size ≤ a21 := Nat.le_trans (Nat.le_refl _) g24
  exact ⟨a21, a22, k23, rfl, o36, ((Keep.refl _ _).trans K25 all0), f26, f27, f28, f29, f30⟩
theorem own_wp86 (hw : Aj a0 Z) (hEL : EW Z a0 Ca) (wS : ∀ a ∈ Bundle.stringAtoms, a.before a0 Z = true) (G1 : Int32) (G3 : Value) (U8 : Addr) (I8 : Addr) (TB : Addr) (TBk : ClassId) (DE : Addr) (x : Addr) (xt : Addr) (xtk : ClassId) (x0 : Int32) (x1 : Int32) (x2 : Int32) (x3 : Int32) (x4 : Int32) (x5 : Int32) (h0 : Heap) (n0 : Nat) (z0 : n0 ≤ h0.size) (X00 : Old Z n0 h0) (TK : Arv Z h0 TB TBk .int 256 Bs (.int 0)) (DEx : Exa Z h0 DE "java/util/Base64$Decoder") (DEu : Fld Z h0 DE "java/util/Base64$Decoder" "isURL" "Z" (.int 1)) (DEm : Fld Z h0 DE "java/util/Base64$Decoder" "isMIME" "Z" (.int 0)) (s0 : Exa Z h0 x "java/lang/String") (s1 : Fld Z h0 x "java/lang/String" "value" "[B" (.ref xt)) (s2 : Fld Z h0 x "java/lang/String" "coder" "B" (.int 0)) (s3 : Arv Z h0 xt xtk .byte (8 : Int32) ([(.int ((Ad x0).toInt8.toInt32)), (.int ((Ad x1).toInt8.toInt32)), (.int ((Ad x2).toInt8.toInt32)), (.int ((Ad x3).toInt8.toInt32)), (.int ((Ad x4).toInt8.toInt32)), (.int ((Ad x5).toInt8.toInt32)), (.int ((61 : Int32).toInt8.toInt32)), (.int ((61 : Int32).toInt8.toInt32))]) (.int 0)) (s4 : Exa Z h0 xt "[B") (XS : Ax Z n0 G1 G3 U8 I8 TB DE) (hx0 : Ag x0) (hx1 : Ag x1) (hx2 : Ag x2) (hx3 : Ag x3) (hx4 : Ag x4) (hx5 : Ag x5) (hs : (x5 &&& (((1 : Int32) <<< ((4 : Int32) &&& 31)) - (1 : Int32))) = (0 : Int32)) :
    Cf l Z Ca (⟨"com/example/torrey/torrey/Base64Url", "decodeWithOptionalPadding", "(Ljava/lang/String;)[B"⟩ : MethodName) prog_1_method_4_code 3 (some (.array .byte)) ({ frames := 7, cells := 8, slots := 62, locals := 103 } : Room) n0 #[(.ref x)] h0 [] (fun v h => ∃ r : Addr, ∃ rk : ClassId, v = some (.ref r) ∧ h0.size ≤ r ∧ Keep h0 h [] ∧ Arv Z h r rk .byte (4 : Int32) ([(.int (Ay (Aq x0 x1 x2 x3))), (.int (Bk (Aq x0 x1 x2 x3))), (.int (Cc (Aq x0 x1 x2 x3))), (.int (Ay (Dg x4 x5)))]) (.int 0)) := by
  refine Cm hEL wS (by decide +kernel) #[.val (.ref x), .unset, .unset] (fun m => by first | (simp [entryFrame, mkF, argsToLocals, Value.category]; done) | rfl) ?_
  intro p e s m below meth c T0 CW SW0
  have XS_ := XS
  obtain ⟨O2, O4, P5, rG3, OU, OI, OT, OD, hUI, TBlt, DElt⟩ := XS_
  refine Av CW SW0 ?_
  intro vm1 C S2 rb3
  refine Ac C S2 [(0, .aload_n 0, 1)] 1 #[Ab x, .unset, .unset] [.ref x] ?_
  have SW4 := rb3 _ _ _ _ [] [] S2 (Keep.refl _ _) all0 all0
  refine Cu CW SW4 (ow hw 50 rfl) (by decide +kernel) 16 (by decide) (by decide) (by decide) (by decide) ?_
  intro T5 h6 a7 SW8 E9
  have f10 : n0 ≤ h6.size := (Nat.le_trans z0 E9.1)
  refine Av CW SW8 ?_
  intro vm17 C S18 rb19
  refine Ae C S18 hw 53 54 55 56 (De l Z a0 hw x a7 h6 n0 f10) 0 [.ref x, .ref a7] [] Cv ?_
  rintro T12 h13 v14 L15 S16 ⟨⟨rfl, e11⟩, -⟩
  rw [e11] at S16; clear e11
  refine Ac C S16 [(6, .pop, 1), (7, .aload_n 0, 1)] 8 #[Ab x, .unset, .unset] [.ref x] ?_
  have f20 := (X00.ext E9)
  have f21 := (Exa.ext E9 s0)
  have f22 := (Fld.ext E9 s1)
  have f23 := (Fld.ext E9 s2)
  have f24 := (s3.ext E9)
  refine Ah C S16 hw 57 58 60 60 59 61 19 (At l Z a0 hw G1 G3 x _ _ _ _ h6 n0 f10 f20 f21 f22 f23 f24 O2 O4 P5 rG3) 0 f21 [] [] Al ?_
  rintro T26 h27 v28 L29 S30 ⟨⟨rfl, e25⟩, -⟩
  rw [e25] at S30; clear e25
  refine Ac C S30 [(11, .istore_n 1, 1), (12, .iload_n 1, 1), (13, .ifCond .le 21, 3), (16, .aload_n 0, 1), (17, .iload_n 1, 1), (18, .iconst 1, 1), (19, .isub, 1)] 20 #[Ab x, Aa 8, .unset] [.int 7, .ref x] ?_
  refine Ah C S30 hw 67 68 70 70 69 71 19 (Bm l Z a0 hw G1 G3 x _ _ _ _ 7 ((61 : Int32).toInt8.toInt32) 61 h6 n0 f10 f20 f21 f22 f23 f24 O2 O4 P5 rG3 (⟨(by decide), (by decide)⟩) rfl (by decide) (by decide)) 0 f21 [.int 7] [] Be ?_
  rintro T32 h33 v34 L35 S36 ⟨⟨rfl, e31⟩, -⟩
  rw [e31] at S36; clear e31
  refine Ac C S36 [(23, .bipush 61, 2), (25, .if_icmp .ne 9, 3), (28, .iinc 1 (-1), 3), (31, .goto (-19), 3), (12, .iload_n 1, 1), (13, .ifCond .le 21, 3), (16, .aload_n 0, 1), (17, .iload_n 1, 1), (18, .iconst 1, 1), (19, .isub, 1)] 20 #[Ab x, Aa 7, .unset] [.int 6, .ref x] ?_
  refine Ah C S36 hw 67 68 70 70 69 71 19 (Bm l Z a0 hw G1 G3 x _ _ _ _ 6 ((61 : Int32).toInt8.toInt32) 61 h6 n0 f10 f20 f21 f22 f23 f24 O2 O4 P5 rG3 (⟨(by decide), (by decide)⟩) rfl (by decide) (by decide)) 0 f21 [.int 6] [] Be ?_
  rintro T38 h39 v40 L41 S42 ⟨⟨rfl, e37⟩, -⟩
  rw [e37] at S42; clear e37
  refine Ac C S42 [(23, .bipush 61, 2), (25, .if_icmp .ne 9, 3), (28, .iinc 1 (-1), 3), (31, .goto (-19), 3), (12, .iload_n 1, 1), (13, .ifCond .le 21, 3), (16, .aload_n 0, 1), (17, .iload_n 1, 1), (18, .iconst 1, 1), (19, .isub, 1)] 20 #[Ab x, Aa 6, .unset] [.int 5, .ref x] ?_
  refine Ah C S42 hw 67 68 70 70 69 71 19 (Bm l Z a0 hw G1 G3 x _ _ _ _ 5 ((Ad x5).toInt8.toInt32) (Ad x5) h6 n0 f10 f20 f21 f22 f23 f24 O2 O4 P5 rG3 (⟨(by decide), (by decide)⟩) rfl (Ce hx5) (Ai hx5)) 0 f21 [.int 5] [] Be ?_
  rintro T44 h45 v46 L47 S48 ⟨⟨rfl, e43⟩, -⟩
  rw [e43] at S48; clear e43
  refine Ac C S48 [(23, .bipush 61, 2)] 25 #[Ab x, Aa 6, .unset] [.int 61, .int (Ad x5)] ?_
  refine Bg C S48 .ne 9 34 (fun (q49 : ¬ (Ad x5) = (61 : Int32)) => ?_) (fun (hq : (Ad x5) = (61 : Int32)) => False.elim (Do hx5 hq))
  refine Ac C S48 [(34, .aload_n 0, 1)] 35 #[Ab x, Aa 6, .unset] [.ref x] ?_
  refine Ah C S48 hw 57 58 60 60 59 61 19 (At l Z a0 hw G1 G3 x _ _ _ _ h6 n0 f10 f20 f21 f22 f23 f24 O2 O4 P5 rG3) 0 f21 [] [] Al ?_
  rintro T51 h52 v53 L54 S55 ⟨⟨rfl, e50⟩, -⟩
  rw [e50] at S55; clear e50
  refine Ac C S55 [(38, .iload_n 1, 1), (39, .isub, 1), (40, .istore_n 2, 1), (41, .iload_n 2, 1), (42, .iconst 2, 1), (43, .if_icmp .gt 16, 3), (46, .iload_n 2, 1), (47, .ifCond .le 28, 3), (50, .aload_n 0, 1)] 51 #[Ab x, Aa 6, Aa 2] [.ref x] ?_
  refine Ah C S55 hw 57 58 60 60 59 61 19 (At l Z a0 hw G1 G3 x _ _ _ _ h6 n0 f10 f20 f21 f22 f23 f24 O2 O4 P5 rG3) 0 f21 [] [] Al ?_
  rintro T57 h58 v59 L60 S61 ⟨⟨rfl, e56⟩, -⟩
  rw [e56] at S61; clear e56
  refine Ac C S61 [(54, .iconst 4, 1)] 55 #[Ab x, Aa 6, Aa 2] [.int 4, .int 8] ?_
  refine Dj C S61 (by decide +kernel) (by decide) ?_
  refine Ac C S61 [(56, .ifCond .eq 19, 3), (75, .aload_n 0, 1), (76, .iconst 0, 1), (77, .iload_n 1, 1)] 78 #[Ab x, Aa 6, Aa 2] [.int 6, .int 0, .ref x] ?_
  have f62 := (Exa.ext E9 s4)
  refine Ah C S61 hw 89 90 92 92 91 93 19 (own_su86 l Z a0 hw G1 G3 U8 I8 TB DE x _ _ _ _ _ _ _ _ _ _ h6 n0 f10 f20 f21 f22 f23 f24 f62 XS) 0 f21 [.int 0, .int 6] [] Dn ?_
  rintro T73 h74 v75 L76 S77 ⟨⟨a63, a64, k65, rfl, g66, K67, f68, f69, f70, f71, f72⟩, -⟩
  have f78 := (f20.keep K67 all0)
  have f79 := ((TK.ext E9).keep K67 nin0)
  have f80 := ((Exa.ext E9 DEx).keep K67)
  have f81 := ((Fld.ext E9 DEu).keep K67 nin0)
  have f82 := ((Fld.ext E9 DEm).keep K67 nin0)
  have f83 : n0 ≤ h74.size := (Nat.le_trans f10 K67.1)
  have o94 : h6.size ≤ a63 := Nat.le_trans (Nat.le_refl _) g66
  have SW95 := rb19 _ _ _ _ [] [a63] S77 ((Keep.refl _ _).trans K67 all0) all0 (allS ⟨o94, f68.lt⟩ all0)
  refine Br CW SW95 (ow hw 126 rfl) (ow hw 127 rfl) (ow hw 48 rfl) (ow hw 128 rfl) (by decide) (own_du6 l Z a0 hw hEL wS G1 G3 U8 I8 TB TBk DE a63 _ _ x0 x1 x2 x3 x4 x5 h74 n0 f83 f78 f79 f80 f81 f82 f68 f69 f70 f71 f72 XS hx0 hx1 hx2 hx3 hx4 hx5 hs) all0 0 (by decide) (by decide) [(.ref a63)] [] rfl Cb rfl rfl rfl (Ak rfl) (by decide) (by decide) (by decide +kernel) ?_
  rintro T96 h97 v98 SW99 hg100 ⟨a84, k85, rfl, g86, K87, f88⟩
  refine Ck CW SW99 rfl rfl (by decide +kernel) (by decide) (by decide) ?_
  have o102 : h0.size ≤ h74.size := (Nat.le_trans (Nat.le_trans (Nat.le_refl _) E9.1) K67.1)
  have o101 : h0.size ≤ a84 := Nat.le_trans o102 g86
  exact ⟨a84, k85, rfl, o101, ((((Keep.refl _ _).ext E9).trans K67 all0).trans K87 all0), f88⟩
theorem own_cb87 (hw : Aj a0 Z) (b : Addr) (bk : ClassId) (v0 : Int32) (v1 : Int32) (v2 : Int32) (v3 : Int32) (v4 : Int32) (v5 : Int32) (v6 : Int32) (v7 : Int32) (h0 : Heap) (n0 : Nat) (z0 : n0 ≤ h0.size) (b0 : Arv Z h0 b bk .byte (8 : Int32) ([(.int v0), (.int v1), (.int v2), (.int v3), (.int v4), (.int v5), (.int v6), (.int v7)]) (.int 0)) (b1 : Exa Z h0 b "[B") :
    Af l Z (⟨"java/util/Arrays", "copyOfRangeByte", "([BII)[B"⟩ : MethodName) jdk_65_method_133_code 5 (some (.array .byte)) ({ frames := 1, cells := 1, slots := 7, locals := 18 } : Room) n0 #[(.ref b), (.int 0), (.int 7)] h0 (fun v h => ∃ r : Addr, ∃ rk : ClassId, v = some (.ref r) ∧ h0.size ≤ r ∧ Keep h0 h [] ∧ Arv Z h r rk .byte (7 : Int32) ([(.int v0), (.int v1), (.int v2), (.int v3), (.int v4), (.int v5), (.int v6)]) (.int 0) ∧ Exa Z h r "[B") := by
  refine Ar #[.val (.ref b), .val (.int 0), .val (.int 7), .unset, .unset] ?_
  intro p e s m below meth c T0 C S0
  refine Ac C S0 [(0, .iload_n 1, 1), (1, .iload_n 2, 1)] 2 #[Ab b, Aa 0, Aa 7, .unset, .unset] [.int 7, .int 0] ?_
  refine Ae C S0 hw 112 113 107 114 (own_ckl l Z a0 hw 0 7 h0 n0 z0 (by decide)) 0 [.int 0, .int 7] [] Fv ?_
  rintro T2 h3 v4 L5 S6 ⟨⟨rfl, e1⟩, -⟩
  rw [e1] at S6; clear e1
  refine Ac C S6 [(5, .iload_n 2, 1), (6, .iload_n 1, 1), (7, .isub, 1), (8, .istore_n 3, 1), (9, .iload_n 3, 1)] 10 #[Ab b, Aa 0, Aa 7, Aa 7, .unset] [.int 7] ?_
  refine Cp C S6 (aty := .byte) (ad := "[B") (by decide) (ow hw 35 rfl) (by decide +kernel) (by decide) 7 (by decide) (by decide) (by decide) (by decide) ?_
  intro T7 h9 a10 k11 S8 g12 E13 f14 x15
  have f16 : Arv Z h9 a10 k11 .byte (7 : Int32) ([(.int 0), (.int 0), (.int 0), (.int 0), (.int 0), (.int 0), (.int 0)]) (.int 0) := Arv.pad f14 (pad_rep [] (.int 0) 7)
  refine Ac C S8 [(12, .astore 4, 2), (14, .aload_n 0, 1), (15, .iload_n 1, 1), (16, .aload 4, 2), (18, .iconst 0, 1), (19, .aload_n 0, 1)] 20 #[Ab b, Aa 0, Aa 7, Aa 7, Ab a10] [.ref b, .int 0, .ref a10, .int 0, .ref b] ?_
  have f17 := (b0.ext E13)
  refine Au C S8 f17 (by decide +kernel) ?_
  refine Ac C S8 [(21, .iload_n 1, 1), (22, .isub, 1), (23, .iload_n 3, 1)] 24 #[Ab b, Aa 0, Aa 7, Aa 7, Ab a10] [.int 7, .int 8, .int 0, .ref a10, .int 0, .ref b] ?_
  have f18 : n0 ≤ h9.size := (Nat.le_trans z0 E13.1)
  refine Ae C S8 hw 115 116 117 118 (own_min l Z a0 hw (8 : Int32) (7 : Int32) h9 n0 f18) 4 [.int 8, .int 7] [.int 0, .ref a10, .int 0, .ref b] Fx ?_
  rintro T20 h21 v22 L23 S24 ⟨⟨rfl, e19⟩, -⟩
  rw [e19] at S24; clear e19
  rw [show (if (7 : Int32) < 8 then (7 : Int32) else (8 : Int32)) = (7 : Int32) from (by decide)]
  have g25 : n0 ≤ a10 := by rw [g12]; exact z0
  refine Fn C S24 (ow hw 119 rfl) (ow hw 122 rfl) (ow hw 120 rfl) (ow hw 121 rfl) f17 f16 rfl (by decide) (by decide) (by decide) (by decide) (by decide) (by decide) g25 ([(.int v0), (.int v1), (.int v2), (.int v3), (.int v4), (.int v5), (.int v6)]) rfl rfl (by decide +kernel) (by decide) 0 (Ak rfl) (by decide) ?_
  intro T26 h28 S27 K29 f30
  refine Ac C S27 [(30, .aload 4, 2)] 32 #[Ab b, Aa 0, Aa 7, Aa 7, Ab a10] [.ref a10] ?_
  refine Az C S27 rfl rfl (by decide +kernel) (by decide) (by decide) ?_
  have o31 : h0.size ≤ a10 := by rw [g12]; exact (Nat.le_refl _)
  have f32 := (x15.keep K29)
  exact ⟨a10, k11, rfl, o31, (((Keep.refl _ _).ext E13).trans K29 (allS (Or.inr o31) all0)), f30, f32⟩
theorem own_cc87 (hw : Aj a0 Z) (b : Addr) (bk : ClassId) (v0 : Int32) (v1 : Int32) (v2 : Int32) (v3 : Int32) (v4 : Int32) (v5 : Int32) (v6 : Int32) (v7 : Int32) (h0 : Heap) (n0 : Nat) (z0 : n0 ≤ h0.size) (b0 : Arv Z h0 b bk .byte (8 : Int32) ([(.int v0), (.int v1), (.int v2), (.int v3), (.int v4), (.int v5), (.int v6), (.int v7)]) (.int 0)) (b1 : Exa Z h0 b "[B") :
    Af l Z (⟨"java/util/Arrays", "copyOfRange", "([BII)[B"⟩ : MethodName) jdk_65_method_132_code 3 (some (.array .byte)) ({ frames := 2, cells := 1, slots := 7, locals := 34 } : Room) n0 #[(.ref b), (.int 0), (.int 7)] h0 (fun v h => ∃ r : Addr, ∃ rk : ClassId, v = some (.ref r) ∧ h0.size ≤ r ∧ Keep h0 h [] ∧ Arv Z h r rk .byte (7 : Int32) ([(.int v0), (.int v1), (.int v2), (.int v3), (.int v4), (.int v5), (.int v6)]) (.int 0) ∧ Exa Z h r "[B") := by
  refine Ar #[.val (.ref b), .val (.int 0), .val (.int 7)] ?_
  intro p e s m below meth c T0 C S0
  refine Ac C S0 [(0, .iload_n 1, 1), (1, .ifCond .ne 9, 3), (4, .iload_n 2, 1), (5, .aload_n 0, 1)] 6 #[Ab b, Aa 0, Aa 7] [.ref b, .int 7] ?_
  refine Au C S0 b0 (by decide +kernel) ?_
  refine Ac C S0 [(7, .if_icmp .eq 10, 3), (10, .aload_n 0, 1), (11, .iload_n 1, 1), (12, .iload_n 2, 1)] 13 #[Ab b, Aa 0, Aa 7] [.int 7, .int 0, .ref b] ?_
  refine Ae C S0 hw 109 110 107 111 (own_cb87 l Z a0 hw b _ _ _ _ _ _ _ _ _ h0 n0 z0 b0 b1) 0 [.ref b, .int 0, .int 7] [] Dz ?_
  rintro T7 h8 v9 L10 S11 ⟨⟨a1, k2, rfl, g3, K4, f5, f6⟩, -⟩
  refine Az C S11 rfl rfl (by decide +kernel) (by decide) (by decide) ?_
  have o12 : h0.size ≤ a1 := Nat.le_trans (Nat.le_refl _) g3
  exact ⟨a1, k2, rfl, o12, ((Keep.refl _ _).trans K4 all0), f5, f6⟩
theorem own_nw87 (hw : Aj a0 Z) (b : Addr) (bk : ClassId) (v0 : Int32) (v1 : Int32) (v2 : Int32) (v3 : Int32) (v4 : Int32) (v5 : Int32) (v6 : Int32) (v7 : Int32) (h0 : Heap) (n0 : Nat) (z0 : n0 ≤ h0.size) (b0 : Arv Z h0 b bk .byte (8 : Int32) ([(.int v0), (.int v1), (.int v2), (.int v3), (.int v4), (.int v5), (.int v6), (.int v7)]) (.int 0)) (b1 : Exa Z h0 b "[B") :
    Af l Z (⟨"java/lang/StringLatin1", "newString", "([BII)Ljava/lang/String;"⟩ : MethodName) jdk_43_method_47_code 3 (some (.object "java/lang/String")) ({ frames := 3, cells := 2, slots := 11, locals := 50 } : Room) n0 #[(.ref b), (.int 0), (.int 7)] h0 (fun v h => ∃ r : Addr, ∃ rt : Addr, ∃ rtk : ClassId, v = some (.ref r) ∧ h0.size ≤ r ∧ Keep h0 h [] ∧ Exa Z h r "java/lang/String" ∧ Fld Z h r "java/lang/String" "value" "[B" (.ref rt) ∧ Fld Z h r "java/lang/String" "coder" "B" (.int 0) ∧ Arv Z h rt rtk .byte (7 : Int32) ([(.int v0), (.int v1), (.int v2), (.int v3), (.int v4), (.int v5), (.int v6)]) (.int 0) ∧ Exa Z h rt "[B") := by
  refine Ar #[.val (.ref b), .val (.int 0), .val (.int 7)] ?_
  intro p e s m below meth c T0 C S0
  refine Ac C S0 [(0, .iload_n 2, 1), (1, .ifCond .ne 6, 3)] 7 #[Ab b, Aa 0, Aa 7] [] ?_
  refine Dq C S0 (ow hw 104 rfl) (ow hw 18 rfl) (ow hw 19 rfl) (by decide +kernel) (by decide) (by decide) ?_
  intro T1 h3 a4 S2 g5 E6 x7 D8
  have f9 : Fld Z h3 a4 "java/lang/String" "coder" "B" (.int 0) := D8 (ty := .byte) (Or.inr (ow hw 43 rfl)) Cx
  have f10 : Fld Z h3 a4 "java/lang/String" "value" "[B" .null := D8 (ty := (.array .byte)) (Or.inr (ow hw 45 rfl)) Cy
  refine Ac C S2 [(10, .dup, 1), (11, .aload_n 0, 1), (12, .iload_n 1, 1), (13, .iload_n 1, 1), (14, .iload_n 2, 1), (15, .iadd, 1)] 16 #[Ab b, Aa 0, Aa 7] [.int 7, .int 0, .ref b, .ref a4, .ref a4] ?_
  have f11 := (b0.ext E6)
  have f12 := (Exa.ext E6 b1)
  have f13 : n0 ≤ h3.size := (Nat.le_trans z0 E6.1)
  refine Ae C S2 hw 105 106 107 108 (own_cc87 l Z a0 hw b _ _ _ _ _ _ _ _ _ h3 n0 f13 f11 f12) 2 [.ref b, .int 0, .int 7] [.ref a4, .ref a4] Dz ?_
  rintro T20 h21 v22 L23 S24 ⟨⟨a14, k15, rfl, g16, K17, f18, f19⟩, -⟩
  refine Ac C S24 [(19, .iconst 0, 1)] 20 #[Ab b, Aa 0, Aa 7] [.int 0, .ref a14, .ref a4, .ref a4] ?_
  have f25 := (x7.keep K17)
  have f26 := (f10.keep K17 nin0)
  have f27 := (f9.keep K17 nin0)
  have f28 : n0 ≤ h21.size := (Nat.le_trans f13 K17.1)
  have g29 : n0 ≤ a4 := by rw [g5]; exact z0
  refine Cs C S24 rfl (ow hw 123 rfl) (ow hw 124 rfl) (ow hw 125 rfl) (by decide) (Af.pay (own_sib l Z a0 hw a4 a14 h21 n0 f28 g29 f25 f26 f27) C 1 (ow hw 125 rfl) (ow hw 19 rfl) (by decide) (by decide)) (fun _ _ _ q => q.2) [.ref a14, .int 0] [.ref a4] rfl Fy rfl rfl rfl (Ak rfl) (by decide) (by decide) (by decide +kernel) ?_
  rintro T34 h35 v36 L37 S38 ⟨⟨rfl, K30, f31, f32, f33⟩, -⟩
  refine Az C S38 rfl rfl (by decide +kernel) (by decide) (by decide) ?_
  have o39 : h0.size ≤ a4 := by rw [g5]; exact (Nat.le_refl _)
  have n40 : a4 ≠ a14 := Nat.ne_of_lt (Nat.lt_of_lt_of_le x7.lt g16)
  have f41 := (f18.keep K30 (ninS (Ne.symm n40) nin0))
  have f42 := (f19.keep K30)
  exact ⟨a4, a14, k15, rfl, o39, ((((Keep.refl _ _).ext E6).trans K17 all0).trans K30 (allS (Or.inr o39) all0)), f31, f32, f33, f41, f42⟩
theorem own_su87 (hw : Aj a0 Z) (G1 : Int32) (G3 : Value) (U8 : Addr) (I8 : Addr) (TB : Addr) (DE : Addr) (x : Addr) (xt : Addr) (xtk : ClassId) (v0 : Int32) (v1 : Int32) (v2 : Int32) (v3 : Int32) (v4 : Int32) (v5 : Int32) (v6 : Int32) (v7 : Int32) (h0 : Heap) (n0 : Nat) (z0 : n0 ≤ h0.size) (X00 : Old Z n0 h0) (s0 : Exa Z h0 x "java/lang/String") (s1 : Fld Z h0 x "java/lang/String" "value" "[B" (.ref xt)) (s2 : Fld Z h0 x "java/lang/String" "coder" "B" (.int 0)) (s3 : Arv Z h0 xt xtk .byte (8 : Int32) ([(.int v0), (.int v1), (.int v2), (.int v3), (.int v4), (.int v5), (.int v6), (.int v7)]) (.int 0)) (s4 : Exa Z h0 xt "[B") (XS : Ax Z n0 G1 G3 U8 I8 TB DE) :
    Af l Z (⟨"java/lang/String", "substring", "(II)Ljava/lang/String;"⟩ : MethodName) jdk_42_method_92_code 5 (some (.object "java/lang/String")) ({ frames := 4, cells := 2, slots := 11, locals := 64 } : Room) n0 #[(.ref x), (.int 0), (.int 7)] h0 (fun v h => ∃ r : Addr, ∃ rt : Addr, ∃ rtk : ClassId, v = some (.ref r) ∧ h0.size ≤ r ∧ Keep h0 h [] ∧ Exa Z h r "java/lang/String" ∧ Fld Z h r "java/lang/String" "value" "[B" (.ref rt) ∧ Fld Z h r "java/lang/String" "coder" "B" (.int 0) ∧ Arv Z h rt rtk .byte (7 : Int32) ([(.int v0), (.int v1), (.int v2), (.int v3), (.int v4), (.int v5), (.int v6)]) (.int 0) ∧ Exa Z h rt "[B") := by
  refine Ar #[.val (.ref x), .val (.int 0), .val (.int 7), .unset, .unset] ?_
  intro p e s m below meth c T0 C S0
  have XS_ := XS
  obtain ⟨O2, O4, P5, rG3, OU, OI, OT, OD, hUI, TBlt, DElt⟩ := XS_
  refine Ac C S0 [(0, .aload_n 0, 1)] 1 #[Ab x, Aa 0, Aa 7, .unset, .unset] [.ref x] ?_
  refine Ah C S0 hw 94 58 60 60 59 61 19 (At l Z a0 hw G1 G3 x _ _ _ _ h0 n0 z0 X00 s0 s1 s2 s3 O2 O4 P5 rG3) 0 s0 [] [] Al ?_
  rintro T2 h3 v4 L5 S6 ⟨⟨rfl, e1⟩, -⟩
  rw [e1] at S6; clear e1
  refine Ac C S6 [(4, .istore_n 3, 1), (5, .iload_n 1, 1), (6, .iload_n 2, 1), (7, .iload_n 3, 1)] 8 #[Ab x, Aa 0, Aa 7, Aa 8, .unset] [.int 8, .int 7, .int 0] ?_
  refine Ae C S6 hw 95 96 19 97 (Du l Z a0 hw G1 G3 0 7 8 h0 n0 z0 X00 O2 O4 P5 rG3 (by decide) (by decide) (by decide)) 0 [.int 0, .int 7, .int 8] [] Dm ?_
  rintro T8 h9 v10 L11 S12 ⟨⟨rfl, e7⟩, -⟩
  rw [e7] at S12; clear e7
  refine Ac C S12 [(11, .iload_n 1, 1), (12, .ifCond .ne 10, 3), (15, .iload_n 2, 1), (16, .iload_n 3, 1), (17, .if_icmp .ne 5, 3), (22, .iload_n 2, 1), (23, .iload_n 1, 1), (24, .isub, 1), (25, .istore 4, 2), (27, .aload_n 0, 1)] 28 #[Ab x, Aa 0, Aa 7, Aa 8, Aa 7] [.ref x] ?_
  refine Ah C S12 hw 72 73 75 75 74 76 19 (Fu l Z a0 hw G1 G3 x h0 n0 z0 X00 s2 O2 O4 P5 rG3) 0 s0 [] [] Fw ?_
  rintro T14 h15 v16 L17 S18 ⟨⟨rfl, e13⟩, -⟩
  rw [e13] at S18; clear e13
  refine Ac C S18 [(31, .ifCond .eq 16, 3), (34, .aload_n 0, 1)] 35 #[Ab x, Aa 0, Aa 7, Aa 8, Aa 7] [.ref x] ?_
  refine Ch C S18 hw 44 s1 ?_
  intro T19 S20
  refine Ac C S20 [(38, .iload_n 1, 1), (39, .iload 4, 2)] 41 #[Ab x, Aa 0, Aa 7, Aa 8, Aa 7] [.int 7, .int 0, .ref xt] ?_
  refine Ae C S20 hw 101 102 79 103 (own_nw87 l Z a0 hw xt _ _ _ _ _ _ _ _ _ h0 n0 z0 s3 s4) 0 [.ref xt, .int 0, .int 7] [] Fz ?_
  rintro T31 h32 v33 L34 S35 ⟨⟨a21, a22, k23, rfl, g24, K25, f26, f27, f28, f29, f30⟩, -⟩
  refine Ac C S35 [(44, .goto 13, 3)] 57 #[Ab x, Aa 0, Aa 7, Aa 8, Aa 7] [.ref a21] ?_
  refine Az C S35 rfl rfl (by decide +kernel) (by decide) (by decide) ?_
  have o36 : h0.size ≤ a21 := Nat.le_trans (Nat.le_refl _) g24
  exact ⟨a21, a22, k23, rfl, o36, ((Keep.refl _ _).trans K25 all0), f26, f27, f28, f29, f30⟩
theorem own_wp87 (hw : Aj a0 Z) (hEL : EW Z a0 Ca) (wS : ∀ a ∈ Bundle.stringAtoms, a.before a0 Z = true) (G1 : Int32) (G3 : Value) (U8 : Addr) (I8 : Addr) (TB : Addr) (TBk : ClassId) (DE : Addr) (x : Addr) (xt : Addr) (xtk : ClassId) (x0 : Int32) (x1 : Int32) (x2 : Int32) (x3 : Int32) (x4 : Int32) (x5 : Int32) (x6 : Int32) (h0 : Heap) (n0 : Nat) (z0 : n0 ≤ h0.size) (X00 : Old Z n0 h0) (TK : Arv Z h0 TB TBk .int 256 Bs (.int 0)) (DEx : Exa Z h0 DE "java/util/Base64$Decoder") (DEu : Fld Z h0 DE "java/util/Base64$Decoder" "isURL" "Z" (.int 1)) (DEm : Fld Z h0 DE "java/util/Base64$Decoder" "isMIME" "Z" (.int 0)) (s0 : Exa Z h0 x "java/lang/String") (s1 : Fld Z h0 x "java/lang/String" "value" "[B" (.ref xt)) (s2 : Fld Z h0 x "java/lang/String" "coder" "B" (.int 0)) (s3 : Arv Z h0 xt xtk .byte (8 : Int32) ([(.int ((Ad x0).toInt8.toInt32)), (.int ((Ad x1).toInt8.toInt32)), (.int ((Ad x2).toInt8.toInt32)), (.int ((Ad x3).toInt8.toInt32)), (.int ((Ad x4).toInt8.toInt32)), (.int ((Ad x5).toInt8.toInt32)), (.int ((Ad x6).toInt8.toInt32)), (.int ((61 : Int32).toInt8.toInt32))]) (.int 0)) (s4 : Exa Z h0 xt "[B") (XS : Ax Z n0 G1 G3 U8 I8 TB DE) (hx0 : Ag x0) (hx1 : Ag x1) (hx2 : Ag x2) (hx3 : Ag x3) (hx4 : Ag x4) (hx5 : Ag x5) (hx6 : Ag x6) (hs : (x6 &&& (((1 : Int32) <<< ((2 : Int32) &&& 31)) - (1 : Int32))) = (0 : Int32)) :
    Cf l Z Ca (⟨"com/example/torrey/torrey/Base64Url", "decodeWithOptionalPadding", "(Ljava/lang/String;)[B"⟩ : MethodName) prog_1_method_4_code 3 (some (.array .byte)) ({ frames := 7, cells := 8, slots := 64, locals := 103 } : Room) n0 #[(.ref x)] h0 [] (fun v h => ∃ r : Addr, ∃ rk : ClassId, v = some (.ref r) ∧ h0.size ≤ r ∧ Keep h0 h [] ∧ Arv Z h r rk .byte (5 : Int32) ([(.int (Ay (Aq x0 x1 x2 x3))), (.int (Bk (Aq x0 x1 x2 x3))), (.int (Cc (Aq x0 x1 x2 x3))), (.int (Ay (Ci x4 x5 x6))), (.int (Bk (Ci x4 x5 x6)))]) (.int 0)) := by
  refine Cm hEL wS (by decide +kernel) #[.val (.ref x), .unset, .unset] (fun m => by first | (simp [entryFrame, mkF, argsToLocals, Value.category]; done) | rfl) ?_
  intro p e s m below meth c T0 CW SW0
  have XS_ := XS
  obtain ⟨O2, O4, P5, rG3, OU, OI, OT, OD, hUI, TBlt, DElt⟩ := XS_
  refine Av CW SW0 ?_
  intro vm1 C S2 rb3
  refine Ac C S2 [(0, .aload_n 0, 1)] 1 #[Ab x, .unset, .unset] [.ref x] ?_
  have SW4 := rb3 _ _ _ _ [] [] S2 (Keep.refl _ _) all0 all0
  refine Cu CW SW4 (ow hw 50 rfl) (by decide +kernel) 16 (by decide) (by decide) (by decide) (by decide) ?_
  intro T5 h6 a7 SW8 E9
  have f10 : n0 ≤ h6.size := (Nat.le_trans z0 E9.1)
  refine Av CW SW8 ?_
  intro vm17 C S18 rb19
  refine Ae C S18 hw 53 54 55 56 (De l Z a0 hw x a7 h6 n0 f10) 0 [.ref x, .ref a7] [] Cv ?_
  rintro T12 h13 v14 L15 S16 ⟨⟨rfl, e11⟩, -⟩
  rw [e11] at S16; clear e11
  refine Ac C S16 [(6, .pop, 1), (7, .aload_n 0, 1)] 8 #[Ab x, .unset, .unset] [.ref x] ?_
  have f20 := (X00.ext E9)
  have f21 := (Exa.ext E9 s0)
  have f22 := (Fld.ext E9 s1)
  have f23 := (Fld.ext E9 s2)
  have f24 := (s3.ext E9)
  refine Ah C S16 hw 57 58 60 60 59 61 19 (At l Z a0 hw G1 G3 x _ _ _ _ h6 n0 f10 f20 f21 f22 f23 f24 O2 O4 P5 rG3) 0 f21 [] [] Al ?_
  rintro T26 h27 v28 L29 S30 ⟨⟨rfl, e25⟩, -⟩
  rw [e25] at S30; clear e25
  refine Ac C S30 [(11, .istore_n 1, 1), (12, .iload_n 1, 1), (13, .ifCond .le 21, 3), (16, .aload_n 0, 1), (17, .iload_n 1, 1), (18, .iconst 1, 1), (19, .isub, 1)] 20 #[Ab x, Aa 8, .unset] [.int 7, .ref x] ?_
  refine Ah C S30 hw 67 68 70 70 69 71 19 (Bm l Z a0 hw G1 G3 x _ _ _ _ 7 ((61 : Int32).toInt8.toInt32) 61 h6 n0 f10 f20 f21 f22 f23 f24 O2 O4 P5 rG3 (⟨(by decide), (by decide)⟩) rfl (by decide) (by decide)) 0 f21 [.int 7] [] Be ?_
  rintro T32 h33 v34 L35 S36 ⟨⟨rfl, e31⟩, -⟩
  rw [e31] at S36; clear e31
  refine Ac C S36 [(23, .bipush 61, 2), (25, .if_icmp .ne 9, 3), (28, .iinc 1 (-1), 3), (31, .goto (-19), 3), (12, .iload_n 1, 1), (13, .ifCond .le 21, 3), (16, .aload_n 0, 1), (17, .iload_n 1, 1), (18, .iconst 1, 1), (19, .isub, 1)] 20 #[Ab x, Aa 7, .unset] [.int 6, .ref x] ?_
  refine Ah C S36 hw 67 68 70 70 69 71 19 (Bm l Z a0 hw G1 G3 x _ _ _ _ 6 ((Ad x6).toInt8.toInt32) (Ad x6) h6 n0 f10 f20 f21 f22 f23 f24 O2 O4 P5 rG3 (⟨(by decide), (by decide)⟩) rfl (Ce hx6) (Ai hx6)) 0 f21 [.int 6] [] Be ?_
  rintro T38 h39 v40 L41 S42 ⟨⟨rfl, e37⟩, -⟩
  rw [e37] at S42; clear e37
  refine Ac C S42 [(23, .bipush 61, 2)] 25 #[Ab x, Aa 7, .unset] [.int 61, .int (Ad x6)] ?_
  refine Bg C S42 .ne 9 34 (fun (q43 : ¬ (Ad x6) = (61 : Int32)) => ?_) (fun (hq : (Ad x6) = (61 : Int32)) => False.elim (Do hx6 hq))
  refine Ac C S42 [(34, .aload_n 0, 1)] 35 #[Ab x, Aa 7, .unset] [.ref x] ?_
  refine Ah C S42 hw 57 58 60 60 59 61 19 (At l Z a0 hw G1 G3 x _ _ _ _ h6 n0 f10 f20 f21 f22 f23 f24 O2 O4 P5 rG3) 0 f21 [] [] Al ?_
  rintro T45 h46 v47 L48 S49 ⟨⟨rfl, e44⟩, -⟩
  rw [e44] at S49; clear e44
  refine Ac C S49 [(38, .iload_n 1, 1), (39, .isub, 1), (40, .istore_n 2, 1), (41, .iload_n 2, 1), (42, .iconst 2, 1), (43, .if_icmp .gt 16, 3), (46, .iload_n 2, 1), (47, .ifCond .le 28, 3), (50, .aload_n 0, 1)] 51 #[Ab x, Aa 7, Aa 1] [.ref x] ?_
  refine Ah C S49 hw 57 58 60 60 59 61 19 (At l Z a0 hw G1 G3 x _ _ _ _ h6 n0 f10 f20 f21 f22 f23 f24 O2 O4 P5 rG3) 0 f21 [] [] Al ?_
  rintro T51 h52 v53 L54 S55 ⟨⟨rfl, e50⟩, -⟩
  rw [e50] at S55; clear e50
  refine Ac C S55 [(54, .iconst 4, 1)] 55 #[Ab x, Aa 7, Aa 1] [.int 4, .int 8] ?_
  refine Dj C S55 (by decide +kernel) (by decide) ?_
  refine Ac C S55 [(56, .ifCond .eq 19, 3), (75, .aload_n 0, 1), (76, .iconst 0, 1), (77, .iload_n 1, 1)] 78 #[Ab x, Aa 7, Aa 1] [.int 7, .int 0, .ref x] ?_
  have f56 := (Exa.ext E9 s4)
  refine Ah C S55 hw 89 90 92 92 91 93 19 (own_su87 l Z a0 hw G1 G3 U8 I8 TB DE x _ _ _ _ _ _ _ _ _ _ h6 n0 f10 f20 f21 f22 f23 f24 f56 XS) 0 f21 [.int 0, .int 7] [] Dn ?_
  rintro T67 h68 v69 L70 S71 ⟨⟨a57, a58, k59, rfl, g60, K61, f62, f63, f64, f65, f66⟩, -⟩
  have f72 := (f20.keep K61 all0)
  have f73 := ((TK.ext E9).keep K61 nin0)
  have f74 := ((Exa.ext E9 DEx).keep K61)
  have f75 := ((Fld.ext E9 DEu).keep K61 nin0)
  have f76 := ((Fld.ext E9 DEm).keep K61 nin0)
  have f77 : n0 ≤ h68.size := (Nat.le_trans f10 K61.1)
  have o88 : h6.size ≤ a57 := Nat.le_trans (Nat.le_refl _) g60
  have SW89 := rb19 _ _ _ _ [] [a57] S71 ((Keep.refl _ _).trans K61 all0) all0 (allS ⟨o88, f62.lt⟩ all0)
  refine Br CW SW89 (ow hw 126 rfl) (ow hw 127 rfl) (ow hw 48 rfl) (ow hw 128 rfl) (by decide) (own_du7 l Z a0 hw hEL wS G1 G3 U8 I8 TB TBk DE a57 _ _ x0 x1 x2 x3 x4 x5 x6 h68 n0 f77 f72 f73 f74 f75 f76 f62 f63 f64 f65 f66 XS hx0 hx1 hx2 hx3 hx4 hx5 hx6 hs) all0 0 (by decide) (by decide) [(.ref a57)] [] rfl Cb rfl rfl rfl (Ak rfl) (by decide) (by decide) (by decide +kernel) ?_
  rintro T90 h91 v92 SW93 hg94 ⟨a78, k79, rfl, g80, K81, f82⟩
  refine Ck CW SW93 rfl rfl (by decide +kernel) (by decide) (by decide) ?_
  have o96 : h0.size ≤ h68.size := (Nat.le_trans (Nat.le_trans (Nat.le_refl _) E9.1) K61.1)
  have o95 : h0.size ≤ a78 := Nat.le_trans o96 g80
  exact ⟨a78, k79, rfl, o95, ((((Keep.refl _ _).ext E9).trans K61 all0).trans K81 all0), f82⟩
theorem Bu (hw : Aj a0 Z) (o : Addr) (i : Int32) (k : Int32) (a : Int64) (h0 : Heap) (n0 : Nat) (z0 : n0 ≤ h0.size) (hj : ¬ i < k) :
    Af l Z (⟨"com/example/torrey/torrey/Base64UrlDecodeWithOptionalPaddingPinLaw", "same", "([BIIJ)Z"⟩ : MethodName) method_6_code 5 (some .boolean) ({ frames := 0, cells := 0, slots := 0, locals := 0 } : Room) n0 #[(.ref o), (.int i), (.int k), (.long a)] h0 (fun v h => v = some (.int 1) ∧ h = h0) := by
  refine Ar #[.val (.ref o), .val (.int i), .val (.int k), .val (.long a), .second] ?_
  intro p e s m below meth c T0 C S0
  refine Ac C S0 [(0, .iload_n 1, 1), (1, .iload_n 2, 1)] 2 #[Ab o, Aa i, Aa k, .val (.long a), .second] [.int k, .int i] ?_
  refine Bg C S0 .lt 5 7 (fun (hq : i < k) => False.elim (hj hq)) (fun (q1 : ¬ i < k) => ?_)
  refine Ac C S0 [(5, .iconst 1, 1)] 6 #[Ab o, Aa i, Aa k, .val (.long a), .second] [.int 1] ?_
  refine own_retZ C S0 (by decide +kernel) (by decide) (by decide) (by decide) ?_
  exact ⟨rfl, rfl⟩
theorem Bv (hw : Aj a0 Z) (o : Addr) (i : Int32) (k : Int32) (a : Int64) (ok : ClassId) (N : Int32) (vs : List Value) (b : Int32) (h0 : Heap) (n0 : Nat) (z0 : n0 ≤ h0.size) (oK : Arv Z h0 o ok .byte N vs (.int 0)) (hj : i < k) (hi : ¬ i < 0 ∧ i < N) (hv : vs.getD i.toNatClampNeg (.int 0) = .int b) (hb : b = own_sb a i) :
    Af l Z (⟨"com/example/torrey/torrey/Base64UrlDecodeWithOptionalPaddingPinLaw", "same", "([BIIJ)Z"⟩ : MethodName) method_6_code 5 (some .boolean) ({ frames := 0, cells := 0, slots := 0, locals := 0 } : Room) n0 #[(.ref o), (.int i), (.int k), (.long a)] h0 (fun v h => v = some (.int 1) ∧ h = h0) := by
  refine Ar #[.val (.ref o), .val (.int i), .val (.int k), .val (.long a), .second] ?_
  intro p e s m below meth c T0 C S0
  refine Ac C S0 [(0, .iload_n 1, 1), (1, .iload_n 2, 1)] 2 #[Ab o, Aa i, Aa k, .val (.long a), .second] [.int k, .int i] ?_
  refine Bg C S0 .lt 5 7 (fun (q1 : i < k) => ?_) (fun (hq : ¬ i < k) => False.elim (hq hj))
  refine Ac C S0 [(7, .aload_n 0, 1), (8, .iload_n 1, 1)] 9 #[Ab o, Aa i, Aa k, .val (.long a), .second] [.int i, .ref o] ?_
  refine Bb C S0 oK hi (.int b) hv (by decide +kernel) ?_
  refine Ac C S0 [(10, .lload_n 3, 1), (11, .bipush 8, 2), (13, .iload_n 1, 1), (14, .imul, 1), (15, .lushr, 1), (16, .l2i, 1), (17, .i2b, 1)] 18 #[Ab o, Aa i, Aa k, .val (.long a), .second] [.int (((Jvm.Free.XT.ushrL a ((8 : Int32) * i)).toInt32).toInt8.toInt32), .int b] ?_
  refine Bg C S0 .ne 7 25 (fun (hq : ¬ b = (((Jvm.Free.XT.ushrL a ((8 : Int32) * i)).toInt32).toInt8.toInt32)) => False.elim (hq hb)) (fun (q2 : b = (((Jvm.Free.XT.ushrL a ((8 : Int32) * i)).toInt32).toInt8.toInt32)) => ?_)
  refine Ac C S0 [(21, .iconst 1, 1), (22, .goto 4, 3)] 26 #[Ab o, Aa i, Aa k, .val (.long a), .second] [.int 1] ?_
  refine own_retZ C S0 (by decide +kernel) (by decide) (by decide) (by decide) ?_
  exact ⟨rfl, rfl⟩
theorem Ez : parseMethodDescriptor "(JII)I" = some ⟨[.long, .int, .int], (some .int)⟩ := by decide +kernel
theorem Ea : parseMethodDescriptor "([III)C" = some ⟨[(.array .int), .int, .int], (some .char)⟩ := by decide +kernel
theorem Df : parseMethodDescriptor "([CI)Ljava/lang/String;" = some ⟨[(.array .char), .int], (some (.object "java/lang/String"))⟩ := by decide +kernel
theorem An : parseMethodDescriptor "([BIIJ)Z" = some ⟨[(.array .byte), .int, .int, .long], (some .boolean)⟩ := by decide +kernel
theorem own_law (hw : Aj a0 Z) (hEL : EW Z a0 Ca) (wS : ∀ a ∈ Bundle.stringAtoms, a.before a0 Z = true) (G1 : Int32) (G3 : Value) (U8 : Addr) (I8 : Addr) (TB : Addr) (TBk : ClassId) (DE : Addr) (i0 : Int64) (i1 : Int32) (i2 : Int32) (h0 : Heap) (n0 : Nat) (z0 : n0 ≤ h0.size) (X00 : Old Z n0 h0) (TK : Arv Z h0 TB TBk .int 256 Bs (.int 0)) (DEx : Exa Z h0 DE "java/util/Base64$Decoder") (DEu : Fld Z h0 DE "java/util/Base64$Decoder" "isURL" "Z" (.int 1)) (DEm : Fld Z h0 DE "java/util/Base64$Decoder" "isMIME" "Z" (.int 0)) (XS : Ax Z n0 G1 G3 U8 I8 TB DE) :
    Cf l Z Ca x code maxLocals ret room_1 n0 #[(.long i0), (.int i1), (.int i2)] h0 [] (fun v h => v = some (.int 1)) := by
  refine Cm hEL wS (by decide +kernel) #[.val (.long i0), .second, .val (.int i1), .val (.int i2), .unset, .unset, .unset, .unset, .unset, .unset, .unset, .unset, .unset, .unset, .unset, .unset, .unset, .unset] (fun m => by first | (simp [entryFrame, mkF, argsToLocals, Value.category, maxLocals]; done) | rfl) ?_
  intro p e s m below meth c T0 CW SW0
  have XS_ := XS
  obtain ⟨O2, O4, P5, rG3, OU, OI, OT, OD, hUI, TBlt, DElt⟩ := XS_
  refine Av CW SW0 ?_
  intro vm1 C S2 rb3
  refine Ac C S2 [(0, .iload_n 2, 1)] 1 #[.val (.long i0), .second, Aa i1, Aa i2, .unset, .unset, .unset, .unset, .unset, .unset, .unset, .unset, .unset, .unset, .unset, .unset, .unset, .unset] [.int i1] ?_
  refine own_ldc C S2 (ow hw 0 rfl) (by decide +kernel) ?_
  refine Ac C S2 [(3, .iand, 1), (4, .bipush 7, 2)] 6 #[.val (.long i0), .second, Aa i1, Aa i2, .unset, .unset, .unset, .unset, .unset, .unset, .unset, .unset, .unset, .unset, .unset, .unset, .unset, .unset] [.int 7, .int (i1 &&& 2147483647)] ?_
  refine Dj C S2 (by decide +kernel) (by decide) ?_
  obtain ⟨z4, hz4⟩ : ∃ y, y = ((i1 &&& 2147483647) % (7 : Int32)) := ⟨_, rfl⟩
  rw [← hz4]
  have J22 : ∀ (T5 : State) (pd : Int32), Bo p l e room_1 (s.setVm vm1) m #[(.long i0), (.int i1), (.int i2)] below meth c n0 T5 h0 0 0 → As p e below (Em s n0 Z Ca (fun v h => v = some (.int 1)) room_1.cells room_1.slots) T5 (mkF m 22 #[.val (.long i0), .second, Aa i1, Aa i2, Aa z4, Aa pd, .unset, .unset, .unset, .unset, .unset, .unset, .unset, .unset, .unset, .unset, .unset, .unset] []) := by
    intro T5 pd S6
    refine Ac C S6 [(22, .lload_n 0, 1), (23, .iconst 0, 1), (24, .iload 4, 2)] 26 #[.val (.long i0), .second, Aa i1, Aa i2, Aa z4, Aa pd, .unset, .unset, .unset, .unset, .unset, .unset, .unset, .unset, .unset, .unset, .unset, .unset] [.int z4, .int 0, .long i0] ?_
    refine Ae C S6 hw 1 2 3 4 (Fi l Z a0 hw i0 0 z4 h0 n0 z0) 0 [.long i0, .int 0, .int z4] [] Ez ?_
    rintro T8 h9 v10 L11 S12 ⟨⟨rfl, e7⟩, -⟩
    rw [e7] at S12; clear e7
    obtain ⟨u13, hu13⟩ : ∃ y, y = (Et i0 (0 : Int32) z4) := ⟨_, rfl⟩
    rw [← hu13]
    have Uu13 : Cn u13 := by rw [hu13]; exact Ff _ _ _
    refine Ac C S12 [(29, .istore 6, 2), (31, .lload_n 0, 1), (32, .iconst 1, 1), (33, .iload 4, 2)] 35 #[.val (.long i0), .second, Aa i1, Aa i2, Aa z4, Aa pd, Aa u13, .unset, .unset, .unset, .unset, .unset, .unset, .unset, .unset, .unset, .unset, .unset] [.int z4, .int 1, .long i0] ?_
    refine Ae C S12 hw 1 2 3 4 (Fi l Z a0 hw i0 1 z4 h0 n0 z0) 0 [.long i0, .int 1, .int z4] [] Ez ?_
    rintro T15 h16 v17 L18 S19 ⟨⟨rfl, e14⟩, -⟩
    rw [e14] at S19; clear e14
    obtain ⟨u20, hu20⟩ : ∃ y, y = (Et i0 (1 : Int32) z4) := ⟨_, rfl⟩
    rw [← hu20]
    have Uu20 : Cn u20 := by rw [hu20]; exact Ff _ _ _
    refine Ac C S19 [(38, .istore 7, 2), (40, .lload_n 0, 1), (41, .iconst 2, 1), (42, .iload 4, 2)] 44 #[.val (.long i0), .second, Aa i1, Aa i2, Aa z4, Aa pd, Aa u13, Aa u20, .unset, .unset, .unset, .unset, .unset, .unset, .unset, .unset, .unset, .unset] [.int z4, .int 2, .long i0] ?_
    refine Ae C S19 hw 1 2 3 4 (Fi l Z a0 hw i0 2 z4 h0 n0 z0) 0 [.long i0, .int 2, .int z4] [] Ez ?_
    rintro T22 h23 v24 L25 S26 ⟨⟨rfl, e21⟩, -⟩
    rw [e21] at S26; clear e21
    obtain ⟨u27, hu27⟩ : ∃ y, y = (Et i0 (2 : Int32) z4) := ⟨_, rfl⟩
    rw [← hu27]
    have Uu27 : Cn u27 := by rw [hu27]; exact Ff _ _ _
    refine Ac C S26 [(47, .istore 8, 2), (49, .lload_n 0, 1), (50, .iconst 3, 1), (51, .iload 4, 2)] 53 #[.val (.long i0), .second, Aa i1, Aa i2, Aa z4, Aa pd, Aa u13, Aa u20, Aa u27, .unset, .unset, .unset, .unset, .unset, .unset, .unset, .unset, .unset] [.int z4, .int 3, .long i0] ?_
    refine Ae C S26 hw 1 2 3 4 (Fi l Z a0 hw i0 3 z4 h0 n0 z0) 0 [.long i0, .int 3, .int z4] [] Ez ?_
    rintro T29 h30 v31 L32 S33 ⟨⟨rfl, e28⟩, -⟩
    rw [e28] at S33; clear e28
    obtain ⟨u34, hu34⟩ : ∃ y, y = (Et i0 (3 : Int32) z4) := ⟨_, rfl⟩
    rw [← hu34]
    have Uu34 : Cn u34 := by rw [hu34]; exact Ff _ _ _
    refine Ac C S33 [(56, .istore 9, 2), (58, .lload_n 0, 1), (59, .iconst 4, 1), (60, .iload 4, 2)] 62 #[.val (.long i0), .second, Aa i1, Aa i2, Aa z4, Aa pd, Aa u13, Aa u20, Aa u27, Aa u34, .unset, .unset, .unset, .unset, .unset, .unset, .unset, .unset] [.int z4, .int 4, .long i0] ?_
    refine Ae C S33 hw 1 2 3 4 (Fi l Z a0 hw i0 4 z4 h0 n0 z0) 0 [.long i0, .int 4, .int z4] [] Ez ?_
    rintro T36 h37 v38 L39 S40 ⟨⟨rfl, e35⟩, -⟩
    rw [e35] at S40; clear e35
    obtain ⟨u41, hu41⟩ : ∃ y, y = (Et i0 (4 : Int32) z4) := ⟨_, rfl⟩
    rw [← hu41]
    have Uu41 : Cn u41 := by rw [hu41]; exact Ff _ _ _
    refine Ac C S40 [(65, .istore 10, 2), (67, .lload_n 0, 1), (68, .iconst 5, 1), (69, .iload 4, 2)] 71 #[.val (.long i0), .second, Aa i1, Aa i2, Aa z4, Aa pd, Aa u13, Aa u20, Aa u27, Aa u34, Aa u41, .unset, .unset, .unset, .unset, .unset, .unset, .unset] [.int z4, .int 5, .long i0] ?_
    refine Ae C S40 hw 1 2 3 4 (Fi l Z a0 hw i0 5 z4 h0 n0 z0) 0 [.long i0, .int 5, .int z4] [] Ez ?_
    rintro T43 h44 v45 L46 S47 ⟨⟨rfl, e42⟩, -⟩
    rw [e42] at S47; clear e42
    obtain ⟨u48, hu48⟩ : ∃ y, y = (Et i0 (5 : Int32) z4) := ⟨_, rfl⟩
    rw [← hu48]
    have Uu48 : Cn u48 := by rw [hu48]; exact Ff _ _ _
    refine Ac C S47 [(74, .istore 11, 2), (76, .bipush 8, 2)] 78 #[.val (.long i0), .second, Aa i1, Aa i2, Aa z4, Aa pd, Aa u13, Aa u20, Aa u27, Aa u34, Aa u41, Aa u48, .unset, .unset, .unset, .unset, .unset, .unset] [.int 8] ?_
    refine Dr C S47 (aty := .int) (ow hw 6 rfl) (by decide +kernel) (by decide) 8 (by decide) (by decide) (by decide) (by decide) ?_
    intro T49 h51 a52 k53 S50 g54 E55 f56 
    have f57 : Arv Z h51 a52 k53 .int 8 ([(.int 0), (.int 0), (.int 0), (.int 0), (.int 0), (.int 0), (.int 0), (.int 0)]) (.int 0) := Arv.pad f56 (pad_rep [] (.int 0) 8)
    refine Ac C S50 [(80, .astore 12, 2), (82, .aload 12, 2), (84, .iconst 0, 1), (85, .iload 6, 2), (87, .iconst 2, 1), (88, .ishr, 1)] 89 #[.val (.long i0), .second, Aa i1, Aa i2, Aa z4, Aa pd, Aa u13, Aa u20, Aa u27, Aa u34, Aa u41, Aa u48, Ab a52, .unset, .unset, .unset, .unset, .unset] [.int (u13 >>> ((2 : Int32) &&& 31)), .int 0, .ref a52] ?_
    obtain ⟨t58, ht58⟩ : ∃ y, y = (u13 >>> ((2 : Int32) &&& 31)) := ⟨_, rfl⟩
    rw [← ht58]
    have Xt58 : Ag t58 := by rw [ht58]; exact own_xs0 Uu13
    have g59 : n0 ≤ a52 := by rw [g54]; exact z0
    refine Dh C S50 f57 ⟨(by decide), (by decide)⟩ 0 rfl (Ak rfl) g59 (by decide +kernel) ?_
    intro T60 h62 S61 W63 f64
    have f65 : Arv Z h62 a52 k53 .int 8 ([(.int t58), (.int 0), (.int 0), (.int 0), (.int 0), (.int 0), (.int 0), (.int 0)]) (.int 0) := f64
    refine Ac C S61 [(90, .aload 12, 2), (92, .iconst 1, 1), (93, .iload 6, 2), (95, .iconst 3, 1), (96, .iand, 1), (97, .iconst 4, 1), (98, .ishl, 1), (99, .iload 7, 2), (101, .iconst 4, 1), (102, .ishr, 1), (103, .ior, 1)] 104 #[.val (.long i0), .second, Aa i1, Aa i2, Aa z4, Aa pd, Aa u13, Aa u20, Aa u27, Aa u34, Aa u41, Aa u48, Ab a52, .unset, .unset, .unset, .unset, .unset] [.int (((u13 &&& (3 : Int32)) <<< ((4 : Int32) &&& 31)) ||| (u20 >>> ((4 : Int32) &&& 31))), .int 1, .ref a52] ?_
    obtain ⟨t66, ht66⟩ : ∃ y, y = (((u13 &&& (3 : Int32)) <<< ((4 : Int32) &&& 31)) ||| (u20 >>> ((4 : Int32) &&& 31))) := ⟨_, rfl⟩
    rw [← ht66]
    have Xt66 : Ag t66 := by rw [ht66]; exact own_xs1 Uu13 Uu20
    refine Dh C S61 f65 ⟨(by decide), (by decide)⟩ 1 rfl (Ak rfl) g59 (by decide +kernel) ?_
    intro T67 h69 S68 W70 f71
    have f72 : Arv Z h69 a52 k53 .int 8 ([(.int t58), (.int t66), (.int 0), (.int 0), (.int 0), (.int 0), (.int 0), (.int 0)]) (.int 0) := f71
    refine Ac C S68 [(105, .aload 12, 2), (107, .iconst 2, 1), (108, .iload 7, 2), (110, .bipush 15, 2), (112, .iand, 1), (113, .iconst 2, 1), (114, .ishl, 1), (115, .iload 8, 2), (117, .bipush 6, 2), (119, .ishr, 1), (120, .ior, 1)] 121 #[.val (.long i0), .second, Aa i1, Aa i2, Aa z4, Aa pd, Aa u13, Aa u20, Aa u27, Aa u34, Aa u41, Aa u48, Ab a52, .unset, .unset, .unset, .unset, .unset] [.int (((u20 &&& (15 : Int32)) <<< ((2 : Int32) &&& 31)) ||| (u27 >>> ((6 : Int32) &&& 31))), .int 2, .ref a52] ?_
    obtain ⟨t73, ht73⟩ : ∃ y, y = (((u20 &&& (15 : Int32)) <<< ((2 : Int32) &&& 31)) ||| (u27 >>> ((6 : Int32) &&& 31))) := ⟨_, rfl⟩
    rw [← ht73]
    have Xt73 : Ag t73 := by rw [ht73]; exact own_xs2 Uu20 Uu27
    refine Dh C S68 f72 ⟨(by decide), (by decide)⟩ 2 rfl (Ak rfl) g59 (by decide +kernel) ?_
    intro T74 h76 S75 W77 f78
    have f79 : Arv Z h76 a52 k53 .int 8 ([(.int t58), (.int t66), (.int t73), (.int 0), (.int 0), (.int 0), (.int 0), (.int 0)]) (.int 0) := f78
    refine Ac C S75 [(122, .aload 12, 2), (124, .iconst 3, 1), (125, .iload 8, 2), (127, .bipush 63, 2), (129, .iand, 1)] 130 #[.val (.long i0), .second, Aa i1, Aa i2, Aa z4, Aa pd, Aa u13, Aa u20, Aa u27, Aa u34, Aa u41, Aa u48, Ab a52, .unset, .unset, .unset, .unset, .unset] [.int (u27 &&& (63 : Int32)), .int 3, .ref a52] ?_
    obtain ⟨t80, ht80⟩ : ∃ y, y = (u27 &&& (63 : Int32)) := ⟨_, rfl⟩
    rw [← ht80]
    have Xt80 : Ag t80 := by rw [ht80]; exact own_xs3 Uu27
    refine Dh C S75 f79 ⟨(by decide), (by decide)⟩ 3 rfl (Ak rfl) g59 (by decide +kernel) ?_
    intro T81 h83 S82 W84 f85
    have f86 : Arv Z h83 a52 k53 .int 8 ([(.int t58), (.int t66), (.int t73), (.int t80), (.int 0), (.int 0), (.int 0), (.int 0)]) (.int 0) := f85
    refine Ac C S82 [(131, .aload 12, 2), (133, .iconst 4, 1), (134, .iload 9, 2), (136, .iconst 2, 1), (137, .ishr, 1)] 138 #[.val (.long i0), .second, Aa i1, Aa i2, Aa z4, Aa pd, Aa u13, Aa u20, Aa u27, Aa u34, Aa u41, Aa u48, Ab a52, .unset, .unset, .unset, .unset, .unset] [.int (u34 >>> ((2 : Int32) &&& 31)), .int 4, .ref a52] ?_
    obtain ⟨t87, ht87⟩ : ∃ y, y = (u34 >>> ((2 : Int32) &&& 31)) := ⟨_, rfl⟩
    rw [← ht87]
    have Xt87 : Ag t87 := by rw [ht87]; exact own_xs0 Uu34
    refine Dh C S82 f86 ⟨(by decide), (by decide)⟩ 4 rfl (Ak rfl) g59 (by decide +kernel) ?_
    intro T88 h90 S89 W91 f92
    have f93 : Arv Z h90 a52 k53 .int 8 ([(.int t58), (.int t66), (.int t73), (.int t80), (.int t87), (.int 0), (.int 0), (.int 0)]) (.int 0) := f92
    refine Ac C S89 [(139, .aload 12, 2), (141, .iconst 5, 1), (142, .iload 9, 2), (144, .iconst 3, 1), (145, .iand, 1), (146, .iconst 4, 1), (147, .ishl, 1), (148, .iload 10, 2), (150, .iconst 4, 1), (151, .ishr, 1), (152, .ior, 1)] 153 #[.val (.long i0), .second, Aa i1, Aa i2, Aa z4, Aa pd, Aa u13, Aa u20, Aa u27, Aa u34, Aa u41, Aa u48, Ab a52, .unset, .unset, .unset, .unset, .unset] [.int (((u34 &&& (3 : Int32)) <<< ((4 : Int32) &&& 31)) ||| (u41 >>> ((4 : Int32) &&& 31))), .int 5, .ref a52] ?_
    obtain ⟨t94, ht94⟩ : ∃ y, y = (((u34 &&& (3 : Int32)) <<< ((4 : Int32) &&& 31)) ||| (u41 >>> ((4 : Int32) &&& 31))) := ⟨_, rfl⟩
    rw [← ht94]
    have Xt94 : Ag t94 := by rw [ht94]; exact own_xs1 Uu34 Uu41
    refine Dh C S89 f93 ⟨(by decide), (by decide)⟩ 5 rfl (Ak rfl) g59 (by decide +kernel) ?_
    intro T95 h97 S96 W98 f99
    have f100 : Arv Z h97 a52 k53 .int 8 ([(.int t58), (.int t66), (.int t73), (.int t80), (.int t87), (.int t94), (.int 0), (.int 0)]) (.int 0) := f99
    refine Ac C S96 [(154, .aload 12, 2), (156, .bipush 6, 2), (158, .iload 10, 2), (160, .bipush 15, 2), (162, .iand, 1), (163, .iconst 2, 1), (164, .ishl, 1), (165, .iload 11, 2), (167, .bipush 6, 2), (169, .ishr, 1), (170, .ior, 1)] 171 #[.val (.long i0), .second, Aa i1, Aa i2, Aa z4, Aa pd, Aa u13, Aa u20, Aa u27, Aa u34, Aa u41, Aa u48, Ab a52, .unset, .unset, .unset, .unset, .unset] [.int (((u41 &&& (15 : Int32)) <<< ((2 : Int32) &&& 31)) ||| (u48 >>> ((6 : Int32) &&& 31))), .int 6, .ref a52] ?_
    obtain ⟨t101, ht101⟩ : ∃ y, y = (((u41 &&& (15 : Int32)) <<< ((2 : Int32) &&& 31)) ||| (u48 >>> ((6 : Int32) &&& 31))) := ⟨_, rfl⟩
    rw [← ht101]
    have Xt101 : Ag t101 := by rw [ht101]; exact own_xs2 Uu41 Uu48
    refine Dh C S96 f100 ⟨(by decide), (by decide)⟩ 6 rfl (Ak rfl) g59 (by decide +kernel) ?_
    intro T102 h104 S103 W105 f106
    have f107 : Arv Z h104 a52 k53 .int 8 ([(.int t58), (.int t66), (.int t73), (.int t80), (.int t87), (.int t94), (.int t101), (.int 0)]) (.int 0) := f106
    refine Ac C S103 [(172, .aload 12, 2), (174, .bipush 7, 2), (176, .iload 11, 2), (178, .bipush 63, 2), (180, .iand, 1)] 181 #[.val (.long i0), .second, Aa i1, Aa i2, Aa z4, Aa pd, Aa u13, Aa u20, Aa u27, Aa u34, Aa u41, Aa u48, Ab a52, .unset, .unset, .unset, .unset, .unset] [.int (u48 &&& (63 : Int32)), .int 7, .ref a52] ?_
    obtain ⟨t108, ht108⟩ : ∃ y, y = (u48 &&& (63 : Int32)) := ⟨_, rfl⟩
    rw [← ht108]
    have Xt108 : Ag t108 := by rw [ht108]; exact own_xs3 Uu48
    refine Dh C S103 f107 ⟨(by decide), (by decide)⟩ 7 rfl (Ak rfl) g59 (by decide +kernel) ?_
    intro T109 h111 S110 W112 f113
    have f114 : Arv Z h111 a52 k53 .int 8 ([(.int t58), (.int t66), (.int t73), (.int t80), (.int t87), (.int t94), (.int t101), (.int t108)]) (.int 0) := f113
    refine Ac C S110 [(182, .iconst 4, 1), (183, .iload 4, 2), (185, .imul, 1), (186, .iconst 2, 1), (187, .iadd, 1), (188, .iconst 3, 1)] 189 #[.val (.long i0), .second, Aa i1, Aa i2, Aa z4, Aa pd, Aa u13, Aa u20, Aa u27, Aa u34, Aa u41, Aa u48, Ab a52, .unset, .unset, .unset, .unset, .unset] [.int 3, .int (((4 : Int32) * z4) + (2 : Int32))] ?_
    refine Fb C S110 (by decide +kernel) (by decide) ?_
    obtain ⟨w115, hw115⟩ : ∃ y, y = ((((4 : Int32) * z4) + (2 : Int32)) / (3 : Int32)) := ⟨_, rfl⟩
    rw [← hw115]
    have J212 : ∀ (T116 : State) (ln : Int32), Bo p l e room_1 (s.setVm vm1) m #[(.long i0), (.int i1), (.int i2)] below meth c n0 T116 h111 1 8 → ln = (((z4 + (2 : Int32)) / (3 : Int32)) * (4 : Int32)) ∨ ln = w115 → As p e below (Em s n0 Z Ca (fun v h => v = some (.int 1)) room_1.cells room_1.slots) T116 (mkF m 212 #[.val (.long i0), .second, Aa i1, Aa i2, Aa z4, Aa pd, Aa u13, Aa u20, Aa u27, Aa u34, Aa u41, Aa u48, Ab a52, Aa w115, Aa ln, .unset, .unset, .unset] []) := by
      intro T116 ln S117 hln
      refine Ac C S117 [(212, .bipush 8, 2)] 214 #[.val (.long i0), .second, Aa i1, Aa i2, Aa z4, Aa pd, Aa u13, Aa u20, Aa u27, Aa u34, Aa u41, Aa u48, Ab a52, Aa w115, Aa ln, .unset, .unset, .unset] [.int 8] ?_
      refine Dr C S117 (aty := .char) (ow hw 7 rfl) (by decide +kernel) (by decide) 8 (by decide) (by decide) (by decide) (by decide) ?_
      intro T118 h120 a121 k122 S119 g123 E124 f125 
      have f126 : Arv Z h120 a121 k122 .char (8 : Int32) ([(.int 0), (.int 0), (.int 0), (.int 0), (.int 0), (.int 0), (.int 0), (.int 0)]) (.int 0) := Arv.pad f125 (pad_rep [] (.int 0) 8)
      refine Ac C S119 [(216, .astore 15, 2), (218, .aload 15, 2), (220, .iconst 0, 1), (221, .aload 12, 2), (223, .iconst 0, 1), (224, .iload 13, 2)] 226 #[.val (.long i0), .second, Aa i1, Aa i2, Aa z4, Aa pd, Aa u13, Aa u20, Aa u27, Aa u34, Aa u41, Aa u48, Ab a52, Aa w115, Aa ln, Ab a121, .unset, .unset] [.int w115, .int 0, .ref a52, .int 0, .ref a121] ?_
      have f127 := (f114.ext E124)
      have f128 : n0 ≤ h120.size := (Nat.le_trans (by rw [W112.size]; exact (by rw [W105.size]; exact (by rw [W98.size]; exact (by rw [W91.size]; exact (by rw [W84.size]; exact (by rw [W77.size]; exact (by rw [W70.size]; exact (by rw [W63.size]; exact (Nat.le_trans z0 E55.1))))))))) E124.1)
      refine Ae C S119 hw 8 9 3 10 (Es l Z a0 hw a52 _ _ 0 w115 t58 h120 n0 f128 f127 Xt58 (⟨(by decide), (by decide)⟩) rfl) 2 [.ref a52, .int 0, .int w115] [.int 0, .ref a121] Ea ?_
      rintro T130 h131 v132 L133 S134 ⟨⟨rfl, e129⟩, -⟩
      rw [e129] at S134; clear e129
      have f135 : n0 ≤ h111.size := (by rw [W112.size]; exact (by rw [W105.size]; exact (by rw [W98.size]; exact (by rw [W91.size]; exact (by rw [W84.size]; exact (by rw [W77.size]; exact (by rw [W70.size]; exact (by rw [W63.size]; exact (Nat.le_trans z0 E55.1)))))))))
      have g136 : n0 ≤ a121 := by rw [g123]; exact f135
      refine Aw C S134 f126 ⟨(by decide), (by decide)⟩ 0 rfl (Ak rfl) (Am t58 (0 : Int32) w115) (Eo Xt58) g136 (by decide +kernel) ?_
      intro T137 h139 S138 W140 f141
      have f142 : Arv Z h139 a121 k122 .char (8 : Int32) ([(.int (Am t58 (0 : Int32) w115)), (.int 0), (.int 0), (.int 0), (.int 0), (.int 0), (.int 0), (.int 0)]) (.int 0) := f141
      refine Ac C S138 [(230, .aload 15, 2), (232, .iconst 1, 1), (233, .aload 12, 2), (235, .iconst 1, 1), (236, .iload 13, 2)] 238 #[.val (.long i0), .second, Aa i1, Aa i2, Aa z4, Aa pd, Aa u13, Aa u20, Aa u27, Aa u34, Aa u41, Aa u48, Ab a52, Aa w115, Aa ln, Ab a121, .unset, .unset] [.int w115, .int 1, .ref a52, .int 1, .ref a121] ?_
      have f143 : a52 < h111.size := (by rw [W112.size]; exact (by rw [W105.size]; exact (by rw [W98.size]; exact (by rw [W91.size]; exact (by rw [W84.size]; exact (by rw [W77.size]; exact (by rw [W70.size]; exact (by rw [W63.size]; exact f57.lt))))))))
      have n144 : a52 ≠ a121 := by rw [g123]; exact Nat.ne_of_lt f143
      have f145 := (f127.other W140 n144)
      have f146 : n0 ≤ h139.size := (by rw [W140.size]; exact f128)
      refine Ae C S138 hw 8 9 3 10 (Es l Z a0 hw a52 _ _ 1 w115 t66 h139 n0 f146 f145 Xt66 (⟨(by decide), (by decide)⟩) rfl) 2 [.ref a52, .int 1, .int w115] [.int 1, .ref a121] Ea ?_
      rintro T148 h149 v150 L151 S152 ⟨⟨rfl, e147⟩, -⟩
      rw [e147] at S152; clear e147
      refine Aw C S152 f142 ⟨(by decide), (by decide)⟩ 1 rfl (Ak rfl) (Am t66 (1 : Int32) w115) (Eo Xt66) g136 (by decide +kernel) ?_
      intro T153 h155 S154 W156 f157
      have f158 : Arv Z h155 a121 k122 .char (8 : Int32) ([(.int (Am t58 (0 : Int32) w115)), (.int (Am t66 (1 : Int32) w115)), (.int 0), (.int 0), (.int 0), (.int 0), (.int 0), (.int 0)]) (.int 0) := f157
      refine Ac C S154 [(242, .aload 15, 2), (244, .iconst 2, 1), (245, .aload 12, 2), (247, .iconst 2, 1), (248, .iload 13, 2)] 250 #[.val (.long i0), .second, Aa i1, Aa i2, Aa z4, Aa pd, Aa u13, Aa u20, Aa u27, Aa u34, Aa u41, Aa u48, Ab a52, Aa w115, Aa ln, Ab a121, .unset, .unset] [.int w115, .int 2, .ref a52, .int 2, .ref a121] ?_
      have f159 := (f145.other W156 n144)
      have f160 : n0 ≤ h155.size := (by rw [W156.size]; exact f146)
      refine Ae C S154 hw 8 9 3 10 (Es l Z a0 hw a52 _ _ 2 w115 t73 h155 n0 f160 f159 Xt73 (⟨(by decide), (by decide)⟩) rfl) 2 [.ref a52, .int 2, .int w115] [.int 2, .ref a121] Ea ?_
      rintro T162 h163 v164 L165 S166 ⟨⟨rfl, e161⟩, -⟩
      rw [e161] at S166; clear e161
      refine Aw C S166 f158 ⟨(by decide), (by decide)⟩ 2 rfl (Ak rfl) (Am t73 (2 : Int32) w115) (Eo Xt73) g136 (by decide +kernel) ?_
      intro T167 h169 S168 W170 f171
      have f172 : Arv Z h169 a121 k122 .char (8 : Int32) ([(.int (Am t58 (0 : Int32) w115)), (.int (Am t66 (1 : Int32) w115)), (.int (Am t73 (2 : Int32) w115)), (.int 0), (.int 0), (.int 0), (.int 0), (.int 0)]) (.int 0) := f171
      refine Ac C S168 [(254, .aload 15, 2), (256, .iconst 3, 1), (257, .aload 12, 2), (259, .iconst 3, 1), (260, .iload 13, 2)] 262 #[.val (.long i0), .second, Aa i1, Aa i2, Aa z4, Aa pd, Aa u13, Aa u20, Aa u27, Aa u34, Aa u41, Aa u48, Ab a52, Aa w115, Aa ln, Ab a121, .unset, .unset] [.int w115, .int 3, .ref a52, .int 3, .ref a121] ?_
      have f173 := (f159.other W170 n144)
      have f174 : n0 ≤ h169.size := (by rw [W170.size]; exact f160)
      refine Ae C S168 hw 8 9 3 10 (Es l Z a0 hw a52 _ _ 3 w115 t80 h169 n0 f174 f173 Xt80 (⟨(by decide), (by decide)⟩) rfl) 2 [.ref a52, .int 3, .int w115] [.int 3, .ref a121] Ea ?_
      rintro T176 h177 v178 L179 S180 ⟨⟨rfl, e175⟩, -⟩
      rw [e175] at S180; clear e175
      refine Aw C S180 f172 ⟨(by decide), (by decide)⟩ 3 rfl (Ak rfl) (Am t80 (3 : Int32) w115) (Eo Xt80) g136 (by decide +kernel) ?_
      intro T181 h183 S182 W184 f185
      have f186 : Arv Z h183 a121 k122 .char (8 : Int32) ([(.int (Am t58 (0 : Int32) w115)), (.int (Am t66 (1 : Int32) w115)), (.int (Am t73 (2 : Int32) w115)), (.int (Am t80 (3 : Int32) w115)), (.int 0), (.int 0), (.int 0), (.int 0)]) (.int 0) := f185
      refine Ac C S182 [(266, .aload 15, 2), (268, .iconst 4, 1), (269, .aload 12, 2), (271, .iconst 4, 1), (272, .iload 13, 2)] 274 #[.val (.long i0), .second, Aa i1, Aa i2, Aa z4, Aa pd, Aa u13, Aa u20, Aa u27, Aa u34, Aa u41, Aa u48, Ab a52, Aa w115, Aa ln, Ab a121, .unset, .unset] [.int w115, .int 4, .ref a52, .int 4, .ref a121] ?_
      have f187 := (f173.other W184 n144)
      have f188 : n0 ≤ h183.size := (by rw [W184.size]; exact f174)
      refine Ae C S182 hw 8 9 3 10 (Es l Z a0 hw a52 _ _ 4 w115 t87 h183 n0 f188 f187 Xt87 (⟨(by decide), (by decide)⟩) rfl) 2 [.ref a52, .int 4, .int w115] [.int 4, .ref a121] Ea ?_
      rintro T190 h191 v192 L193 S194 ⟨⟨rfl, e189⟩, -⟩
      rw [e189] at S194; clear e189
      refine Aw C S194 f186 ⟨(by decide), (by decide)⟩ 4 rfl (Ak rfl) (Am t87 (4 : Int32) w115) (Eo Xt87) g136 (by decide +kernel) ?_
      intro T195 h197 S196 W198 f199
      have f200 : Arv Z h197 a121 k122 .char (8 : Int32) ([(.int (Am t58 (0 : Int32) w115)), (.int (Am t66 (1 : Int32) w115)), (.int (Am t73 (2 : Int32) w115)), (.int (Am t80 (3 : Int32) w115)), (.int (Am t87 (4 : Int32) w115)), (.int 0), (.int 0), (.int 0)]) (.int 0) := f199
      refine Ac C S196 [(278, .aload 15, 2), (280, .iconst 5, 1), (281, .aload 12, 2), (283, .iconst 5, 1), (284, .iload 13, 2)] 286 #[.val (.long i0), .second, Aa i1, Aa i2, Aa z4, Aa pd, Aa u13, Aa u20, Aa u27, Aa u34, Aa u41, Aa u48, Ab a52, Aa w115, Aa ln, Ab a121, .unset, .unset] [.int w115, .int 5, .ref a52, .int 5, .ref a121] ?_
      have f201 := (f187.other W198 n144)
      have f202 : n0 ≤ h197.size := (by rw [W198.size]; exact f188)
      refine Ae C S196 hw 8 9 3 10 (Es l Z a0 hw a52 _ _ 5 w115 t94 h197 n0 f202 f201 Xt94 (⟨(by decide), (by decide)⟩) rfl) 2 [.ref a52, .int 5, .int w115] [.int 5, .ref a121] Ea ?_
      rintro T204 h205 v206 L207 S208 ⟨⟨rfl, e203⟩, -⟩
      rw [e203] at S208; clear e203
      refine Aw C S208 f200 ⟨(by decide), (by decide)⟩ 5 rfl (Ak rfl) (Am t94 (5 : Int32) w115) (Eo Xt94) g136 (by decide +kernel) ?_
      intro T209 h211 S210 W212 f213
      have f214 : Arv Z h211 a121 k122 .char (8 : Int32) ([(.int (Am t58 (0 : Int32) w115)), (.int (Am t66 (1 : Int32) w115)), (.int (Am t73 (2 : Int32) w115)), (.int (Am t80 (3 : Int32) w115)), (.int (Am t87 (4 : Int32) w115)), (.int (Am t94 (5 : Int32) w115)), (.int 0), (.int 0)]) (.int 0) := f213
      refine Ac C S210 [(290, .aload 15, 2), (292, .bipush 6, 2), (294, .aload 12, 2), (296, .bipush 6, 2), (298, .iload 13, 2)] 300 #[.val (.long i0), .second, Aa i1, Aa i2, Aa z4, Aa pd, Aa u13, Aa u20, Aa u27, Aa u34, Aa u41, Aa u48, Ab a52, Aa w115, Aa ln, Ab a121, .unset, .unset] [.int w115, .int 6, .ref a52, .int 6, .ref a121] ?_
      have f215 := (f201.other W212 n144)
      have f216 : n0 ≤ h211.size := (by rw [W212.size]; exact f202)
      refine Ae C S210 hw 8 9 3 10 (Es l Z a0 hw a52 _ _ 6 w115 t101 h211 n0 f216 f215 Xt101 (⟨(by decide), (by decide)⟩) rfl) 2 [.ref a52, .int 6, .int w115] [.int 6, .ref a121] Ea ?_
      rintro T218 h219 v220 L221 S222 ⟨⟨rfl, e217⟩, -⟩
      rw [e217] at S222; clear e217
      refine Aw C S222 f214 ⟨(by decide), (by decide)⟩ 6 rfl (Ak rfl) (Am t101 (6 : Int32) w115) (Eo Xt101) g136 (by decide +kernel) ?_
      intro T223 h225 S224 W226 f227
      have f228 : Arv Z h225 a121 k122 .char (8 : Int32) ([(.int (Am t58 (0 : Int32) w115)), (.int (Am t66 (1 : Int32) w115)), (.int (Am t73 (2 : Int32) w115)), (.int (Am t80 (3 : Int32) w115)), (.int (Am t87 (4 : Int32) w115)), (.int (Am t94 (5 : Int32) w115)), (.int (Am t101 (6 : Int32) w115)), (.int 0)]) (.int 0) := f227
      refine Ac C S224 [(304, .aload 15, 2), (306, .bipush 7, 2), (308, .aload 12, 2), (310, .bipush 7, 2), (312, .iload 13, 2)] 314 #[.val (.long i0), .second, Aa i1, Aa i2, Aa z4, Aa pd, Aa u13, Aa u20, Aa u27, Aa u34, Aa u41, Aa u48, Ab a52, Aa w115, Aa ln, Ab a121, .unset, .unset] [.int w115, .int 7, .ref a52, .int 7, .ref a121] ?_
      have f229 := (f215.other W226 n144)
      have f230 : n0 ≤ h225.size := (by rw [W226.size]; exact f216)
      refine Ae C S224 hw 8 9 3 10 (Es l Z a0 hw a52 _ _ 7 w115 t108 h225 n0 f230 f229 Xt108 (⟨(by decide), (by decide)⟩) rfl) 2 [.ref a52, .int 7, .int w115] [.int 7, .ref a121] Ea ?_
      rintro T232 h233 v234 L235 S236 ⟨⟨rfl, e231⟩, -⟩
      rw [e231] at S236; clear e231
      refine Aw C S236 f228 ⟨(by decide), (by decide)⟩ 7 rfl (Ak rfl) (Am t108 (7 : Int32) w115) (Eo Xt108) g136 (by decide +kernel) ?_
      intro T237 h239 S238 W240 f241
      have f242 : Arv Z h239 a121 k122 .char (8 : Int32) ([(.int (Am t58 (0 : Int32) w115)), (.int (Am t66 (1 : Int32) w115)), (.int (Am t73 (2 : Int32) w115)), (.int (Am t80 (3 : Int32) w115)), (.int (Am t87 (4 : Int32) w115)), (.int (Am t94 (5 : Int32) w115)), (.int (Am t101 (6 : Int32) w115)), (.int (Am t108 (7 : Int32) w115))]) (.int 0) := f241
      refine Ac C S238 [(318, .aload 15, 2), (320, .iload 14, 2)] 322 #[.val (.long i0), .second, Aa i1, Aa i2, Aa z4, Aa pd, Aa u13, Aa u20, Aa u27, Aa u34, Aa u41, Aa u48, Ab a52, Aa w115, Aa ln, Ab a121, .unset, .unset] [.int ln, .ref a121] ?_
      have f243 := ((((((((((((((((((X00.ext E55).wr W63 g59).wr W70 g59).wr W77 g59).wr W84 g59).wr W91 g59).wr W98 g59).wr W105 g59).wr W112 g59).ext E124).wr W140 g136).wr W156 g136).wr W170 g136).wr W184 g136).wr W198 g136).wr W212 g136).wr W226 g136).wr W240 g136)
      have n244 : TB ≠ a52 := Nat.ne_of_lt (Nat.lt_of_lt_of_le TBlt g59)
      have n245 : TB ≠ a121 := Nat.ne_of_lt (Nat.lt_of_lt_of_le TBlt g136)
      have f246 := ((((((((((((((((((TK.ext E55).other W63 n244).other W70 n244).other W77 n244).other W84 n244).other W91 n244).other W98 n244).other W105 n244).other W112 n244).ext E124).other W140 n245).other W156 n245).other W170 n245).other W184 n245).other W198 n245).other W212 n245).other W226 n245).other W240 n245)
      have f247 := (Exa.wr W240 (Exa.wr W226 (Exa.wr W212 (Exa.wr W198 (Exa.wr W184 (Exa.wr W170 (Exa.wr W156 (Exa.wr W140 (Exa.ext E124 (Exa.wr W112 (Exa.wr W105 (Exa.wr W98 (Exa.wr W91 (Exa.wr W84 (Exa.wr W77 (Exa.wr W70 (Exa.wr W63 (Exa.ext E55 DEx))))))))))))))))))
      have n248 : DE ≠ a52 := Nat.ne_of_lt (Nat.lt_of_lt_of_le DElt g59)
      have n249 : DE ≠ a121 := Nat.ne_of_lt (Nat.lt_of_lt_of_le DElt g136)
      have f250 := (Fld.other W240 (Fld.other W226 (Fld.other W212 (Fld.other W198 (Fld.other W184 (Fld.other W170 (Fld.other W156 (Fld.other W140 (Fld.ext E124 (Fld.other W112 (Fld.other W105 (Fld.other W98 (Fld.other W91 (Fld.other W84 (Fld.other W77 (Fld.other W70 (Fld.other W63 (Fld.ext E55 DEu) (Or.inl n248)) (Or.inl n248)) (Or.inl n248)) (Or.inl n248)) (Or.inl n248)) (Or.inl n248)) (Or.inl n248)) (Or.inl n248))) (Or.inl n249)) (Or.inl n249)) (Or.inl n249)) (Or.inl n249)) (Or.inl n249)) (Or.inl n249)) (Or.inl n249)) (Or.inl n249))
      have f251 := (Fld.other W240 (Fld.other W226 (Fld.other W212 (Fld.other W198 (Fld.other W184 (Fld.other W170 (Fld.other W156 (Fld.other W140 (Fld.ext E124 (Fld.other W112 (Fld.other W105 (Fld.other W98 (Fld.other W91 (Fld.other W84 (Fld.other W77 (Fld.other W70 (Fld.other W63 (Fld.ext E55 DEm) (Or.inl n248)) (Or.inl n248)) (Or.inl n248)) (Or.inl n248)) (Or.inl n248)) (Or.inl n248)) (Or.inl n248)) (Or.inl n248))) (Or.inl n249)) (Or.inl n249)) (Or.inl n249)) (Or.inl n249)) (Or.inl n249)) (Or.inl n249)) (Or.inl n249)) (Or.inl n249))
      have f252 : n0 ≤ h239.size := (by rw [W240.size]; exact f230)
      rcases own_c7 i1 with e7 | e7 | e7 | e7 | e7 | e7 | e7
      · rw [← hz4] at e7
        subst e7
        obtain rfl : w115 = (0 : Int32) := hw115.trans (by decide)
        have f253 : Arv Z h239 a121 k122 .char (8 : Int32) ([(.int 61), (.int 61), (.int 61), (.int 61), (.int 61), (.int 61), (.int 61), (.int 61)]) (.int 0) := by have g := f242; rw [show (Am t58 (0 : Int32) (0 : Int32)) = (61 : Int32) from Bz (by decide), show (Am t66 (1 : Int32) (0 : Int32)) = (61 : Int32) from Bz (by decide), show (Am t73 (2 : Int32) (0 : Int32)) = (61 : Int32) from Bz (by decide), show (Am t80 (3 : Int32) (0 : Int32)) = (61 : Int32) from Bz (by decide), show (Am t87 (4 : Int32) (0 : Int32)) = (61 : Int32) from Bz (by decide), show (Am t94 (5 : Int32) (0 : Int32)) = (61 : Int32) from Bz (by decide), show (Am t101 (6 : Int32) (0 : Int32)) = (61 : Int32) from Bz (by decide), show (Am t108 (7 : Int32) (0 : Int32)) = (61 : Int32) from Bz (by decide)] at g; exact g
        obtain rfl : u13 = 0 := hu13.trans (Cj (by decide))
        obtain rfl : u20 = 0 := hu20.trans (Cj (by decide))
        obtain rfl : u27 = 0 := hu27.trans (Cj (by decide))
        obtain rfl : u34 = 0 := hu34.trans (Cj (by decide))
        obtain rfl : u41 = 0 := hu41.trans (Cj (by decide))
        obtain rfl : u48 = 0 := hu48.trans (Cj (by decide))
        rcases hln with hln | hln
        · obtain rfl : ln = (0 : Int32) := hln.trans (by decide)
          have o269 : h0.size ≤ a52 := by rw [g54]; exact (Nat.le_refl _)
          have o271 : h0.size ≤ h111.size := (by rw [W112.size]; exact (by rw [W105.size]; exact (by rw [W98.size]; exact (by rw [W91.size]; exact (by rw [W84.size]; exact (by rw [W77.size]; exact (by rw [W70.size]; exact (by rw [W63.size]; exact (Nat.le_trans (Nat.le_refl _) E55.1)))))))))
          have o270 : h0.size ≤ a121 := by rw [g123]; exact o271
          have f272 : a121 < h239.size := (by rw [W240.size]; exact (by rw [W226.size]; exact (by rw [W212.size]; exact (by rw [W198.size]; exact (by rw [W184.size]; exact (by rw [W170.size]; exact (by rw [W156.size]; exact (by rw [W140.size]; exact f126.lt))))))))
          have f273 : a52 < h239.size := (by rw [W240.size]; exact (by rw [W226.size]; exact (by rw [W212.size]; exact (by rw [W198.size]; exact (by rw [W184.size]; exact (by rw [W170.size]; exact (by rw [W156.size]; exact (by rw [W140.size]; exact (Nat.lt_of_lt_of_le f143 E124.1)))))))))
          have SW274 := rb3 _ _ _ _ [] [a52, a121] S238 (((((((((((((((((((Keep.refl _ _).ext E55).wr W63 (Or.inr o269)).wr W70 (Or.inr o269)).wr W77 (Or.inr o269)).wr W84 (Or.inr o269)).wr W91 (Or.inr o269)).wr W98 (Or.inr o269)).wr W105 (Or.inr o269)).wr W112 (Or.inr o269)).ext E124).wr W140 (Or.inr o270)).wr W156 (Or.inr o270)).wr W170 (Or.inr o270)).wr W184 (Or.inr o270)).wr W198 (Or.inr o270)).wr W212 (Or.inr o270)).wr W226 (Or.inr o270)).wr W240 (Or.inr o270)) all0 (allS ⟨o269, f273⟩ (allS ⟨o270, f272⟩ all0))
          refine Br CW SW274 (ow hw 14 rfl) (ow hw 15 rfl) (ow hw 3 rfl) (ow hw 16 rfl) (by decide) (own_st0 l Z a0 hw hEL wS G1 G3 U8 I8 TB DE a121 _ _ _ _ _ _ _ _ _ h239 n0 f252 f243 f253 XS) all0 0 (by decide) (by decide) [(.ref a121), (.int 0)] [] rfl Df rfl rfl rfl (Ak rfl) (by decide) (by decide) (by decide +kernel) ?_
          rintro T275 h276 v277 SW278 hg279 ⟨a254, a255, k256, rfl, g257, K258, f259, f260, f261, f262, f263⟩
          refine Av CW SW278 ?_
          intro vm280 C S281 rb282
          refine Ac C S281 [(325, .astore 16, 2), (327, .aload 16, 2)] 329 #[.val (.long i0), .second, Aa i1, Aa i2, Aa 0, Aa pd, Aa 0, Aa 0, Aa 0, Aa 0, Aa 0, Aa 0, Ab a52, Aa 0, Aa 0, Ab a121, Ab a254, .unset] [.ref a254] ?_
          have f283 := (f243.keep K258 all0)
          have f284 := (f246.keep K258 nin0)
          have f285 := (f247.keep K258)
          have f286 := (f250.keep K258 nin0)
          have f287 := (f251.keep K258 nin0)
          have f288 : n0 ≤ h276.size := (Nat.le_trans f252 K258.1)
          have SW299 := rb282 _ _ _ _ [] [] S281 (Keep.refl _ _) all0 all0
          refine Br CW SW299 (ow hw 46 rfl) (ow hw 47 rfl) (ow hw 48 rfl) (ow hw 49 rfl) (by decide) (own_wp00 l Z a0 hw hEL wS G1 G3 U8 I8 TB TBk DE a254 _ _ h276 n0 f288 f283 f284 f285 f286 f287 f259 f260 f261 f262 f263 XS) all0 0 (by decide) (by decide) [(.ref a254)] [] rfl Cb rfl rfl rfl (Ak rfl) (by decide) (by decide) (by decide +kernel) ?_
          rintro T300 h301 v302 SW303 hg304 ⟨a289, k290, rfl, g291, K292, f293⟩
          refine Av CW SW303 ?_
          intro vm305 C S306 rb307
          refine Ac C S306 [(332, .astore 17, 2), (334, .aload 17, 2), (336, .ifnull 11, 3), (339, .aload 17, 2)] 341 #[.val (.long i0), .second, Aa i1, Aa i2, Aa 0, Aa pd, Aa 0, Aa 0, Aa 0, Aa 0, Aa 0, Aa 0, Ab a52, Aa 0, Aa 0, Ab a121, Ab a254, Ab a289] [.ref a289] ?_
          refine Au C S306 f293 (by decide +kernel) ?_
          refine Ac C S306 [(342, .iload 4, 2), (344, .if_icmp .eq 5, 3), (349, .aload 17, 2), (351, .iconst 0, 1), (352, .iload 4, 2), (354, .lload_n 0, 1)] 355 #[.val (.long i0), .second, Aa i1, Aa i2, Aa 0, Aa pd, Aa 0, Aa 0, Aa 0, Aa 0, Aa 0, Aa 0, Ab a52, Aa 0, Aa 0, Ab a121, Ab a254, Ab a289] [.long i0, .int 0, .int 0, .ref a289] ?_
          have f308 : n0 ≤ h301.size := (Nat.le_trans f288 K292.1)
          refine Ae C S306 hw 190 191 3 192 (Bu l Z a0 hw a289 0 0 i0 h301 n0 f308 (by decide)) 0 [.ref a289, .int 0, .int 0, .long i0] [] An ?_
          rintro T310 h311 v312 L313 S314 ⟨⟨rfl, e309⟩, -⟩
          rw [e309] at S314; clear e309
          refine Ac C S314 [(358, .ifCond .eq 67, 3), (361, .aload 17, 2), (363, .iconst 1, 1), (364, .iload 4, 2), (366, .lload_n 0, 1)] 367 #[.val (.long i0), .second, Aa i1, Aa i2, Aa 0, Aa pd, Aa 0, Aa 0, Aa 0, Aa 0, Aa 0, Aa 0, Ab a52, Aa 0, Aa 0, Ab a121, Ab a254, Ab a289] [.long i0, .int 0, .int 1, .ref a289] ?_
          refine Ae C S314 hw 190 191 3 192 (Bu l Z a0 hw a289 1 0 i0 h301 n0 f308 (by decide)) 0 [.ref a289, .int 1, .int 0, .long i0] [] An ?_
          rintro T316 h317 v318 L319 S320 ⟨⟨rfl, e315⟩, -⟩
          rw [e315] at S320; clear e315
          refine Ac C S320 [(370, .ifCond .eq 55, 3), (373, .aload 17, 2), (375, .iconst 2, 1), (376, .iload 4, 2), (378, .lload_n 0, 1)] 379 #[.val (.long i0), .second, Aa i1, Aa i2, Aa 0, Aa pd, Aa 0, Aa 0, Aa 0, Aa 0, Aa 0, Aa 0, Ab a52, Aa 0, Aa 0, Ab a121, Ab a254, Ab a289] [.long i0, .int 0, .int 2, .ref a289] ?_
          refine Ae C S320 hw 190 191 3 192 (Bu l Z a0 hw a289 2 0 i0 h301 n0 f308 (by decide)) 0 [.ref a289, .int 2, .int 0, .long i0] [] An ?_
          rintro T322 h323 v324 L325 S326 ⟨⟨rfl, e321⟩, -⟩
          rw [e321] at S326; clear e321
          refine Ac C S326 [(382, .ifCond .eq 43, 3), (385, .aload 17, 2), (387, .iconst 3, 1), (388, .iload 4, 2), (390, .lload_n 0, 1)] 391 #[.val (.long i0), .second, Aa i1, Aa i2, Aa 0, Aa pd, Aa 0, Aa 0, Aa 0, Aa 0, Aa 0, Aa 0, Ab a52, Aa 0, Aa 0, Ab a121, Ab a254, Ab a289] [.long i0, .int 0, .int 3, .ref a289] ?_
          refine Ae C S326 hw 190 191 3 192 (Bu l Z a0 hw a289 3 0 i0 h301 n0 f308 (by decide)) 0 [.ref a289, .int 3, .int 0, .long i0] [] An ?_
          rintro T328 h329 v330 L331 S332 ⟨⟨rfl, e327⟩, -⟩
          rw [e327] at S332; clear e327
          refine Ac C S332 [(394, .ifCond .eq 31, 3), (397, .aload 17, 2), (399, .iconst 4, 1), (400, .iload 4, 2), (402, .lload_n 0, 1)] 403 #[.val (.long i0), .second, Aa i1, Aa i2, Aa 0, Aa pd, Aa 0, Aa 0, Aa 0, Aa 0, Aa 0, Aa 0, Ab a52, Aa 0, Aa 0, Ab a121, Ab a254, Ab a289] [.long i0, .int 0, .int 4, .ref a289] ?_
          refine Ae C S332 hw 190 191 3 192 (Bu l Z a0 hw a289 4 0 i0 h301 n0 f308 (by decide)) 0 [.ref a289, .int 4, .int 0, .long i0] [] An ?_
          rintro T334 h335 v336 L337 S338 ⟨⟨rfl, e333⟩, -⟩
          rw [e333] at S338; clear e333
          refine Ac C S338 [(406, .ifCond .eq 19, 3), (409, .aload 17, 2), (411, .iconst 5, 1), (412, .iload 4, 2), (414, .lload_n 0, 1)] 415 #[.val (.long i0), .second, Aa i1, Aa i2, Aa 0, Aa pd, Aa 0, Aa 0, Aa 0, Aa 0, Aa 0, Aa 0, Ab a52, Aa 0, Aa 0, Ab a121, Ab a254, Ab a289] [.long i0, .int 0, .int 5, .ref a289] ?_
          refine Ae C S338 hw 190 191 3 192 (Bu l Z a0 hw a289 5 0 i0 h301 n0 f308 (by decide)) 0 [.ref a289, .int 5, .int 0, .long i0] [] An ?_
          rintro T340 h341 v342 L343 S344 ⟨⟨rfl, e339⟩, -⟩
          rw [e339] at S344; clear e339
          refine Ac C S344 [(418, .ifCond .eq 7, 3), (421, .iconst 1, 1), (422, .goto 4, 3)] 426 #[.val (.long i0), .second, Aa i1, Aa i2, Aa 0, Aa pd, Aa 0, Aa 0, Aa 0, Aa 0, Aa 0, Aa 0, Ab a52, Aa 0, Aa 0, Ab a121, Ab a254, Ab a289] [.int 1] ?_
          have SW345 := rb307 _ _ _ _ [] [] S344 (Keep.refl _ _) all0 all0
          refine Da CW SW345 (by decide +kernel) (by decide) (by decide) (by decide) ?_
          rfl
        · obtain rfl : ln = (0 : Int32) := hln.trans (by decide)
          have o361 : h0.size ≤ a52 := by rw [g54]; exact (Nat.le_refl _)
          have o363 : h0.size ≤ h111.size := (by rw [W112.size]; exact (by rw [W105.size]; exact (by rw [W98.size]; exact (by rw [W91.size]; exact (by rw [W84.size]; exact (by rw [W77.size]; exact (by rw [W70.size]; exact (by rw [W63.size]; exact (Nat.le_trans (Nat.le_refl _) E55.1)))))))))
          have o362 : h0.size ≤ a121 := by rw [g123]; exact o363
          have f364 : a121 < h239.size := (by rw [W240.size]; exact (by rw [W226.size]; exact (by rw [W212.size]; exact (by rw [W198.size]; exact (by rw [W184.size]; exact (by rw [W170.size]; exact (by rw [W156.size]; exact (by rw [W140.size]; exact f126.lt))))))))
          have f365 : a52 < h239.size := (by rw [W240.size]; exact (by rw [W226.size]; exact (by rw [W212.size]; exact (by rw [W198.size]; exact (by rw [W184.size]; exact (by rw [W170.size]; exact (by rw [W156.size]; exact (by rw [W140.size]; exact (Nat.lt_of_lt_of_le f143 E124.1)))))))))
          have SW366 := rb3 _ _ _ _ [] [a52, a121] S238 (((((((((((((((((((Keep.refl _ _).ext E55).wr W63 (Or.inr o361)).wr W70 (Or.inr o361)).wr W77 (Or.inr o361)).wr W84 (Or.inr o361)).wr W91 (Or.inr o361)).wr W98 (Or.inr o361)).wr W105 (Or.inr o361)).wr W112 (Or.inr o361)).ext E124).wr W140 (Or.inr o362)).wr W156 (Or.inr o362)).wr W170 (Or.inr o362)).wr W184 (Or.inr o362)).wr W198 (Or.inr o362)).wr W212 (Or.inr o362)).wr W226 (Or.inr o362)).wr W240 (Or.inr o362)) all0 (allS ⟨o361, f365⟩ (allS ⟨o362, f364⟩ all0))
          refine Br CW SW366 (ow hw 14 rfl) (ow hw 15 rfl) (ow hw 3 rfl) (ow hw 16 rfl) (by decide) (own_st0 l Z a0 hw hEL wS G1 G3 U8 I8 TB DE a121 _ _ _ _ _ _ _ _ _ h239 n0 f252 f243 f253 XS) all0 0 (by decide) (by decide) [(.ref a121), (.int 0)] [] rfl Df rfl rfl rfl (Ak rfl) (by decide) (by decide) (by decide +kernel) ?_
          rintro T367 h368 v369 SW370 hg371 ⟨a346, a347, k348, rfl, g349, K350, f351, f352, f353, f354, f355⟩
          refine Av CW SW370 ?_
          intro vm372 C S373 rb374
          refine Ac C S373 [(325, .astore 16, 2), (327, .aload 16, 2)] 329 #[.val (.long i0), .second, Aa i1, Aa i2, Aa 0, Aa pd, Aa 0, Aa 0, Aa 0, Aa 0, Aa 0, Aa 0, Ab a52, Aa 0, Aa 0, Ab a121, Ab a346, .unset] [.ref a346] ?_
          have f375 := (f243.keep K350 all0)
          have f376 := (f246.keep K350 nin0)
          have f377 := (f247.keep K350)
          have f378 := (f250.keep K350 nin0)
          have f379 := (f251.keep K350 nin0)
          have f380 : n0 ≤ h368.size := (Nat.le_trans f252 K350.1)
          have SW391 := rb374 _ _ _ _ [] [] S373 (Keep.refl _ _) all0 all0
          refine Br CW SW391 (ow hw 46 rfl) (ow hw 47 rfl) (ow hw 48 rfl) (ow hw 49 rfl) (by decide) (own_wp00 l Z a0 hw hEL wS G1 G3 U8 I8 TB TBk DE a346 _ _ h368 n0 f380 f375 f376 f377 f378 f379 f351 f352 f353 f354 f355 XS) all0 0 (by decide) (by decide) [(.ref a346)] [] rfl Cb rfl rfl rfl (Ak rfl) (by decide) (by decide) (by decide +kernel) ?_
          rintro T392 h393 v394 SW395 hg396 ⟨a381, k382, rfl, g383, K384, f385⟩
          refine Av CW SW395 ?_
          intro vm397 C S398 rb399
          refine Ac C S398 [(332, .astore 17, 2), (334, .aload 17, 2), (336, .ifnull 11, 3), (339, .aload 17, 2)] 341 #[.val (.long i0), .second, Aa i1, Aa i2, Aa 0, Aa pd, Aa 0, Aa 0, Aa 0, Aa 0, Aa 0, Aa 0, Ab a52, Aa 0, Aa 0, Ab a121, Ab a346, Ab a381] [.ref a381] ?_
          refine Au C S398 f385 (by decide +kernel) ?_
          refine Ac C S398 [(342, .iload 4, 2), (344, .if_icmp .eq 5, 3), (349, .aload 17, 2), (351, .iconst 0, 1), (352, .iload 4, 2), (354, .lload_n 0, 1)] 355 #[.val (.long i0), .second, Aa i1, Aa i2, Aa 0, Aa pd, Aa 0, Aa 0, Aa 0, Aa 0, Aa 0, Aa 0, Ab a52, Aa 0, Aa 0, Ab a121, Ab a346, Ab a381] [.long i0, .int 0, .int 0, .ref a381] ?_
          have f400 : n0 ≤ h393.size := (Nat.le_trans f380 K384.1)
          refine Ae C S398 hw 190 191 3 192 (Bu l Z a0 hw a381 0 0 i0 h393 n0 f400 (by decide)) 0 [.ref a381, .int 0, .int 0, .long i0] [] An ?_
          rintro T402 h403 v404 L405 S406 ⟨⟨rfl, e401⟩, -⟩
          rw [e401] at S406; clear e401
          refine Ac C S406 [(358, .ifCond .eq 67, 3), (361, .aload 17, 2), (363, .iconst 1, 1), (364, .iload 4, 2), (366, .lload_n 0, 1)] 367 #[.val (.long i0), .second, Aa i1, Aa i2, Aa 0, Aa pd, Aa 0, Aa 0, Aa 0, Aa 0, Aa 0, Aa 0, Ab a52, Aa 0, Aa 0, Ab a121, Ab a346, Ab a381] [.long i0, .int 0, .int 1, .ref a381] ?_
          refine Ae C S406 hw 190 191 3 192 (Bu l Z a0 hw a381 1 0 i0 h393 n0 f400 (by decide)) 0 [.ref a381, .int 1, .int 0, .long i0] [] An ?_
          rintro T408 h409 v410 L411 S412 ⟨⟨rfl, e407⟩, -⟩
          rw [e407] at S412; clear e407
          refine Ac C S412 [(370, .ifCond .eq 55, 3), (373, .aload 17, 2), (375, .iconst 2, 1), (376, .iload 4, 2), (378, .lload_n 0, 1)] 379 #[.val (.long i0), .second, Aa i1, Aa i2, Aa 0, Aa pd, Aa 0, Aa 0, Aa 0, Aa 0, Aa 0, Aa 0, Ab a52, Aa 0, Aa 0, Ab a121, Ab a346, Ab a381] [.long i0, .int 0, .int 2, .ref a381] ?_
          refine Ae C S412 hw 190 191 3 192 (Bu l Z a0 hw a381 2 0 i0 h393 n0 f400 (by decide)) 0 [.ref a381, .int 2, .int 0, .long i0] [] An ?_
          rintro T414 h415 v416 L417 S418 ⟨⟨rfl, e413⟩, -⟩
          rw [e413] at S418; clear e413
          refine Ac C S418 [(382, .ifCond .eq 43, 3), (385, .aload 17, 2), (387, .iconst 3, 1), (388, .iload 4, 2), (390, .lload_n 0, 1)] 391 #[.val (.long i0), .second, Aa i1, Aa i2, Aa 0, Aa pd, Aa 0, Aa 0, Aa 0, Aa 0, Aa 0, Aa 0, Ab a52, Aa 0, Aa 0, Ab a121, Ab a346, Ab a381] [.long i0, .int 0, .int 3, .ref a381] ?_
          refine Ae C S418 hw 190 191 3 192 (Bu l Z a0 hw a381 3 0 i0 h393 n0 f400 (by decide)) 0 [.ref a381, .int 3, .int 0, .long i0] [] An ?_
          rintro T420 h421 v422 L423 S424 ⟨⟨rfl, e419⟩, -⟩
          rw [e419] at S424; clear e419
          refine Ac C S424 [(394, .ifCond .eq 31, 3), (397, .aload 17, 2), (399, .iconst 4, 1), (400, .iload 4, 2), (402, .lload_n 0, 1)] 403 #[.val (.long i0), .second, Aa i1, Aa i2, Aa 0, Aa pd, Aa 0, Aa 0, Aa 0, Aa 0, Aa 0, Aa 0, Ab a52, Aa 0, Aa 0, Ab a121, Ab a346, Ab a381] [.long i0, .int 0, .int 4, .ref a381] ?_
          refine Ae C S424 hw 190 191 3 192 (Bu l Z a0 hw a381 4 0 i0 h393 n0 f400 (by decide)) 0 [.ref a381, .int 4, .int 0, .long i0] [] An ?_
          rintro T426 h427 v428 L429 S430 ⟨⟨rfl, e425⟩, -⟩
          rw [e425] at S430; clear e425
          refine Ac C S430 [(406, .ifCond .eq 19, 3), (409, .aload 17, 2), (411, .iconst 5, 1), (412, .iload 4, 2), (414, .lload_n 0, 1)] 415 #[.val (.long i0), .second, Aa i1, Aa i2, Aa 0, Aa pd, Aa 0, Aa 0, Aa 0, Aa 0, Aa 0, Aa 0, Ab a52, Aa 0, Aa 0, Ab a121, Ab a346, Ab a381] [.long i0, .int 0, .int 5, .ref a381] ?_
          refine Ae C S430 hw 190 191 3 192 (Bu l Z a0 hw a381 5 0 i0 h393 n0 f400 (by decide)) 0 [.ref a381, .int 5, .int 0, .long i0] [] An ?_
          rintro T432 h433 v434 L435 S436 ⟨⟨rfl, e431⟩, -⟩
          rw [e431] at S436; clear e431
          refine Ac C S436 [(418, .ifCond .eq 7, 3), (421, .iconst 1, 1), (422, .goto 4, 3)] 426 #[.val (.long i0), .second, Aa i1, Aa i2, Aa 0, Aa pd, Aa 0, Aa 0, Aa 0, Aa 0, Aa 0, Aa 0, Ab a52, Aa 0, Aa 0, Ab a121, Ab a346, Ab a381] [.int 1] ?_
          have SW437 := rb399 _ _ _ _ [] [] S436 (Keep.refl _ _) all0 all0
          refine Da CW SW437 (by decide +kernel) (by decide) (by decide) (by decide) ?_
          rfl
      · rw [← hz4] at e7
        subst e7
        obtain rfl : w115 = (2 : Int32) := hw115.trans (by decide)
        have f438 : Arv Z h239 a121 k122 .char (8 : Int32) ([(.int (Ad t58)), (.int (Ad t66)), (.int 61), (.int 61), (.int 61), (.int 61), (.int 61), (.int 61)]) (.int 0) := by have g := f242; rw [show (Am t58 (0 : Int32) (2 : Int32)) = (Ad t58) from Bp (by decide), show (Am t66 (1 : Int32) (2 : Int32)) = (Ad t66) from Bp (by decide), show (Am t73 (2 : Int32) (2 : Int32)) = (61 : Int32) from Bz (by decide), show (Am t80 (3 : Int32) (2 : Int32)) = (61 : Int32) from Bz (by decide), show (Am t87 (4 : Int32) (2 : Int32)) = (61 : Int32) from Bz (by decide), show (Am t94 (5 : Int32) (2 : Int32)) = (61 : Int32) from Bz (by decide), show (Am t101 (6 : Int32) (2 : Int32)) = (61 : Int32) from Bz (by decide), show (Am t108 (7 : Int32) (2 : Int32)) = (61 : Int32) from Bz (by decide)] at g; exact g
        obtain rfl : u20 = 0 := hu20.trans (Cj (by decide))
        obtain rfl : u27 = 0 := hu27.trans (Cj (by decide))
        obtain rfl : u34 = 0 := hu34.trans (Cj (by decide))
        obtain rfl : u41 = 0 := hu41.trans (Cj (by decide))
        obtain rfl : u48 = 0 := hu48.trans (Cj (by decide))
        rcases hln with hln | hln
        · obtain rfl : ln = (4 : Int32) := hln.trans (by decide)
          refine Ae C S238 hw 14 15 3 16 (own_st4 l Z a0 hw G1 G3 U8 I8 TB DE a121 _ _ _ _ _ _ _ _ _ h239 n0 f252 f243 f438 XS ((Bf Xt58).2) (Ai Xt58) ((Bf Xt66).2) (Ai Xt66) (by decide) (by decide) (by decide) (by decide)) 0 [.ref a121, .int 4] [] Df ?_
          rintro T449 h450 v451 L452 S453 ⟨⟨a439, a440, k441, rfl, g442, K443, f444, f445, f446, f447, f448⟩, -⟩
          refine Ac C S453 [(325, .astore 16, 2), (327, .aload 16, 2)] 329 #[.val (.long i0), .second, Aa i1, Aa i2, Aa 1, Aa pd, Aa u13, Aa 0, Aa 0, Aa 0, Aa 0, Aa 0, Ab a52, Aa 2, Aa 4, Ab a121, Ab a439, .unset] [.ref a439] ?_
          have f454 := (f243.keep K443 all0)
          have f455 := (f246.keep K443 nin0)
          have f456 := (f247.keep K443)
          have f457 := (f250.keep K443 nin0)
          have f458 := (f251.keep K443 nin0)
          have f459 : n0 ≤ h450.size := (Nat.le_trans f252 K443.1)
          have o470 : h0.size ≤ a52 := by rw [g54]; exact (Nat.le_refl _)
          have o472 : h0.size ≤ h111.size := (by rw [W112.size]; exact (by rw [W105.size]; exact (by rw [W98.size]; exact (by rw [W91.size]; exact (by rw [W84.size]; exact (by rw [W77.size]; exact (by rw [W70.size]; exact (by rw [W63.size]; exact (Nat.le_trans (Nat.le_refl _) E55.1)))))))))
          have o471 : h0.size ≤ a121 := by rw [g123]; exact o472
          have o474 : h0.size ≤ h239.size := (by rw [W240.size]; exact (by rw [W226.size]; exact (by rw [W212.size]; exact (by rw [W198.size]; exact (by rw [W184.size]; exact (by rw [W170.size]; exact (by rw [W156.size]; exact (by rw [W140.size]; exact (Nat.le_trans o472 E124.1)))))))))
          have o473 : h0.size ≤ a439 := Nat.le_trans o474 g442
          have f475 : a121 < h450.size := (Nat.lt_of_lt_of_le (by rw [W240.size]; exact (by rw [W226.size]; exact (by rw [W212.size]; exact (by rw [W198.size]; exact (by rw [W184.size]; exact (by rw [W170.size]; exact (by rw [W156.size]; exact (by rw [W140.size]; exact f126.lt)))))))) K443.1)
          have f476 : a52 < h450.size := (Nat.lt_of_lt_of_le (by rw [W240.size]; exact (by rw [W226.size]; exact (by rw [W212.size]; exact (by rw [W198.size]; exact (by rw [W184.size]; exact (by rw [W170.size]; exact (by rw [W156.size]; exact (by rw [W140.size]; exact (Nat.lt_of_lt_of_le f143 E124.1))))))))) K443.1)
          have SW477 := rb3 _ _ _ _ [] [a52, a121, a439] S453 ((((((((((((((((((((Keep.refl _ _).ext E55).wr W63 (Or.inr o470)).wr W70 (Or.inr o470)).wr W77 (Or.inr o470)).wr W84 (Or.inr o470)).wr W91 (Or.inr o470)).wr W98 (Or.inr o470)).wr W105 (Or.inr o470)).wr W112 (Or.inr o470)).ext E124).wr W140 (Or.inr o471)).wr W156 (Or.inr o471)).wr W170 (Or.inr o471)).wr W184 (Or.inr o471)).wr W198 (Or.inr o471)).wr W212 (Or.inr o471)).wr W226 (Or.inr o471)).wr W240 (Or.inr o471)).trans K443 all0) all0 (allS ⟨o470, f476⟩ (allS ⟨o471, f475⟩ (allS ⟨o473, f444.lt⟩ all0)))
          refine Br CW SW477 (ow hw 46 rfl) (ow hw 47 rfl) (ow hw 48 rfl) (ow hw 49 rfl) (by decide) (own_wp42 l Z a0 hw hEL wS G1 G3 U8 I8 TB TBk DE a439 _ _ t58 t66 h450 n0 f459 f454 f455 f456 f457 f458 f444 f445 f446 f447 f448 XS Xt58 Xt66 (by rw [ht66]; exact own_q2 Uu13)) all0 0 (by decide) (by decide) [(.ref a439)] [] rfl Cb rfl rfl rfl (Ak rfl) (by decide) (by decide) (by decide +kernel) ?_
          rintro T478 h479 v480 SW481 hg482 ⟨a460, k461, rfl, g462, K463, f464⟩
          refine Av CW SW481 ?_
          intro vm483 C S484 rb485
          refine Ac C S484 [(332, .astore 17, 2), (334, .aload 17, 2), (336, .ifnull 11, 3), (339, .aload 17, 2)] 341 #[.val (.long i0), .second, Aa i1, Aa i2, Aa 1, Aa pd, Aa u13, Aa 0, Aa 0, Aa 0, Aa 0, Aa 0, Ab a52, Aa 2, Aa 4, Ab a121, Ab a439, Ab a460] [.ref a460] ?_
          refine Au C S484 f464 (by decide +kernel) ?_
          refine Ac C S484 [(342, .iload 4, 2), (344, .if_icmp .eq 5, 3), (349, .aload 17, 2), (351, .iconst 0, 1), (352, .iload 4, 2), (354, .lload_n 0, 1)] 355 #[.val (.long i0), .second, Aa i1, Aa i2, Aa 1, Aa pd, Aa u13, Aa 0, Aa 0, Aa 0, Aa 0, Aa 0, Ab a52, Aa 2, Aa 4, Ab a121, Ab a439, Ab a460] [.long i0, .int 1, .int 0, .ref a460] ?_
          have f486 : n0 ≤ h479.size := (Nat.le_trans f459 K463.1)
          refine Ae C S484 hw 190 191 3 192 (Bv l Z a0 hw a460 0 1 i0 _ _ _ (Ay (Dg t58 t66)) h479 n0 f486 f464 (by decide) (⟨(by decide), (by decide)⟩) rfl (by rw [ht58, ht66, Ft Uu13 (Dl) (Dl), hu13, Bj (a := i0) (i := (0 : Int32)) (k := (1 : Int32)) (by decide)]; exact Bt _ _)) 0 [.ref a460, .int 0, .int 1, .long i0] [] An ?_
          rintro T488 h489 v490 L491 S492 ⟨⟨rfl, e487⟩, -⟩
          rw [e487] at S492; clear e487
          refine Ac C S492 [(358, .ifCond .eq 67, 3), (361, .aload 17, 2), (363, .iconst 1, 1), (364, .iload 4, 2), (366, .lload_n 0, 1)] 367 #[.val (.long i0), .second, Aa i1, Aa i2, Aa 1, Aa pd, Aa u13, Aa 0, Aa 0, Aa 0, Aa 0, Aa 0, Ab a52, Aa 2, Aa 4, Ab a121, Ab a439, Ab a460] [.long i0, .int 1, .int 1, .ref a460] ?_
          refine Ae C S492 hw 190 191 3 192 (Bu l Z a0 hw a460 1 1 i0 h479 n0 f486 (by decide)) 0 [.ref a460, .int 1, .int 1, .long i0] [] An ?_
          rintro T494 h495 v496 L497 S498 ⟨⟨rfl, e493⟩, -⟩
          rw [e493] at S498; clear e493
          refine Ac C S498 [(370, .ifCond .eq 55, 3), (373, .aload 17, 2), (375, .iconst 2, 1), (376, .iload 4, 2), (378, .lload_n 0, 1)] 379 #[.val (.long i0), .second, Aa i1, Aa i2, Aa 1, Aa pd, Aa u13, Aa 0, Aa 0, Aa 0, Aa 0, Aa 0, Ab a52, Aa 2, Aa 4, Ab a121, Ab a439, Ab a460] [.long i0, .int 1, .int 2, .ref a460] ?_
          refine Ae C S498 hw 190 191 3 192 (Bu l Z a0 hw a460 2 1 i0 h479 n0 f486 (by decide)) 0 [.ref a460, .int 2, .int 1, .long i0] [] An ?_
          rintro T500 h501 v502 L503 S504 ⟨⟨rfl, e499⟩, -⟩
          rw [e499] at S504; clear e499
          refine Ac C S504 [(382, .ifCond .eq 43, 3), (385, .aload 17, 2), (387, .iconst 3, 1), (388, .iload 4, 2), (390, .lload_n 0, 1)] 391 #[.val (.long i0), .second, Aa i1, Aa i2, Aa 1, Aa pd, Aa u13, Aa 0, Aa 0, Aa 0, Aa 0, Aa 0, Ab a52, Aa 2, Aa 4, Ab a121, Ab a439, Ab a460] [.long i0, .int 1, .int 3, .ref a460] ?_
          refine Ae C S504 hw 190 191 3 192 (Bu l Z a0 hw a460 3 1 i0 h479 n0 f486 (by decide)) 0 [.ref a460, .int 3, .int 1, .long i0] [] An ?_
          rintro T506 h507 v508 L509 S510 ⟨⟨rfl, e505⟩, -⟩
          rw [e505] at S510; clear e505
          refine Ac C S510 [(394, .ifCond .eq 31, 3), (397, .aload 17, 2), (399, .iconst 4, 1), (400, .iload 4, 2), (402, .lload_n 0, 1)] 403 #[.val (.long i0), .second, Aa i1, Aa i2, Aa 1, Aa pd, Aa u13, Aa 0, Aa 0, Aa 0, Aa 0, Aa 0, Ab a52, Aa 2, Aa 4, Ab a121, Ab a439, Ab a460] [.long i0, .int 1, .int 4, .ref a460] ?_
          refine Ae C S510 hw 190 191 3 192 (Bu l Z a0 hw a460 4 1 i0 h479 n0 f486 (by decide)) 0 [.ref a460, .int 4, .int 1, .long i0] [] An ?_
          rintro T512 h513 v514 L515 S516 ⟨⟨rfl, e511⟩, -⟩
          rw [e511] at S516; clear e511
          refine Ac C S516 [(406, .ifCond .eq 19, 3), (409, .aload 17, 2), (411, .iconst 5, 1), (412, .iload 4, 2), (414, .lload_n 0, 1)] 415 #[.val (.long i0), .second, Aa i1, Aa i2, Aa 1, Aa pd, Aa u13, Aa 0, Aa 0, Aa 0, Aa 0, Aa 0, Ab a52, Aa 2, Aa 4, Ab a121, Ab a439, Ab a460] [.long i0, .int 1, .int 5, .ref a460] ?_
          refine Ae C S516 hw 190 191 3 192 (Bu l Z a0 hw a460 5 1 i0 h479 n0 f486 (by decide)) 0 [.ref a460, .int 5, .int 1, .long i0] [] An ?_
          rintro T518 h519 v520 L521 S522 ⟨⟨rfl, e517⟩, -⟩
          rw [e517] at S522; clear e517
          refine Ac C S522 [(418, .ifCond .eq 7, 3), (421, .iconst 1, 1), (422, .goto 4, 3)] 426 #[.val (.long i0), .second, Aa i1, Aa i2, Aa 1, Aa pd, Aa u13, Aa 0, Aa 0, Aa 0, Aa 0, Aa 0, Ab a52, Aa 2, Aa 4, Ab a121, Ab a439, Ab a460] [.int 1] ?_
          have SW523 := rb485 _ _ _ _ [] [] S522 (Keep.refl _ _) all0 all0
          refine Da CW SW523 (by decide +kernel) (by decide) (by decide) (by decide) ?_
          rfl
        · obtain rfl : ln = (2 : Int32) := hln.trans (by decide)
          refine Ae C S238 hw 14 15 3 16 (own_st2 l Z a0 hw G1 G3 U8 I8 TB DE a121 _ _ _ _ _ _ _ _ _ h239 n0 f252 f243 f438 XS ((Bf Xt58).2) (Ai Xt58) ((Bf Xt66).2) (Ai Xt66)) 0 [.ref a121, .int 2] [] Df ?_
          rintro T534 h535 v536 L537 S538 ⟨⟨a524, a525, k526, rfl, g527, K528, f529, f530, f531, f532, f533⟩, -⟩
          refine Ac C S538 [(325, .astore 16, 2), (327, .aload 16, 2)] 329 #[.val (.long i0), .second, Aa i1, Aa i2, Aa 1, Aa pd, Aa u13, Aa 0, Aa 0, Aa 0, Aa 0, Aa 0, Ab a52, Aa 2, Aa 2, Ab a121, Ab a524, .unset] [.ref a524] ?_
          have f539 := (f243.keep K528 all0)
          have f540 := (f246.keep K528 nin0)
          have f541 := (f247.keep K528)
          have f542 := (f250.keep K528 nin0)
          have f543 := (f251.keep K528 nin0)
          have f544 : n0 ≤ h535.size := (Nat.le_trans f252 K528.1)
          have o555 : h0.size ≤ a52 := by rw [g54]; exact (Nat.le_refl _)
          have o557 : h0.size ≤ h111.size := (by rw [W112.size]; exact (by rw [W105.size]; exact (by rw [W98.size]; exact (by rw [W91.size]; exact (by rw [W84.size]; exact (by rw [W77.size]; exact (by rw [W70.size]; exact (by rw [W63.size]; exact (Nat.le_trans (Nat.le_refl _) E55.1)))))))))
          have o556 : h0.size ≤ a121 := by rw [g123]; exact o557
          have o559 : h0.size ≤ h239.size := (by rw [W240.size]; exact (by rw [W226.size]; exact (by rw [W212.size]; exact (by rw [W198.size]; exact (by rw [W184.size]; exact (by rw [W170.size]; exact (by rw [W156.size]; exact (by rw [W140.size]; exact (Nat.le_trans o557 E124.1)))))))))
          have o558 : h0.size ≤ a524 := Nat.le_trans o559 g527
          have f560 : a121 < h535.size := (Nat.lt_of_lt_of_le (by rw [W240.size]; exact (by rw [W226.size]; exact (by rw [W212.size]; exact (by rw [W198.size]; exact (by rw [W184.size]; exact (by rw [W170.size]; exact (by rw [W156.size]; exact (by rw [W140.size]; exact f126.lt)))))))) K528.1)
          have f561 : a52 < h535.size := (Nat.lt_of_lt_of_le (by rw [W240.size]; exact (by rw [W226.size]; exact (by rw [W212.size]; exact (by rw [W198.size]; exact (by rw [W184.size]; exact (by rw [W170.size]; exact (by rw [W156.size]; exact (by rw [W140.size]; exact (Nat.lt_of_lt_of_le f143 E124.1))))))))) K528.1)
          have SW562 := rb3 _ _ _ _ [] [a52, a121, a524] S538 ((((((((((((((((((((Keep.refl _ _).ext E55).wr W63 (Or.inr o555)).wr W70 (Or.inr o555)).wr W77 (Or.inr o555)).wr W84 (Or.inr o555)).wr W91 (Or.inr o555)).wr W98 (Or.inr o555)).wr W105 (Or.inr o555)).wr W112 (Or.inr o555)).ext E124).wr W140 (Or.inr o556)).wr W156 (Or.inr o556)).wr W170 (Or.inr o556)).wr W184 (Or.inr o556)).wr W198 (Or.inr o556)).wr W212 (Or.inr o556)).wr W226 (Or.inr o556)).wr W240 (Or.inr o556)).trans K528 all0) all0 (allS ⟨o555, f561⟩ (allS ⟨o556, f560⟩ (allS ⟨o558, f529.lt⟩ all0)))
          refine Br CW SW562 (ow hw 46 rfl) (ow hw 47 rfl) (ow hw 48 rfl) (ow hw 49 rfl) (by decide) (own_wp22 l Z a0 hw hEL wS G1 G3 U8 I8 TB TBk DE a524 _ _ t58 t66 h535 n0 f544 f539 f540 f541 f542 f543 f529 f530 f531 f532 f533 XS Xt58 Xt66 (by rw [ht66]; exact own_q2 Uu13)) all0 0 (by decide) (by decide) [(.ref a524)] [] rfl Cb rfl rfl rfl (Ak rfl) (by decide) (by decide) (by decide +kernel) ?_
          rintro T563 h564 v565 SW566 hg567 ⟨a545, k546, rfl, g547, K548, f549⟩
          refine Av CW SW566 ?_
          intro vm568 C S569 rb570
          refine Ac C S569 [(332, .astore 17, 2), (334, .aload 17, 2), (336, .ifnull 11, 3), (339, .aload 17, 2)] 341 #[.val (.long i0), .second, Aa i1, Aa i2, Aa 1, Aa pd, Aa u13, Aa 0, Aa 0, Aa 0, Aa 0, Aa 0, Ab a52, Aa 2, Aa 2, Ab a121, Ab a524, Ab a545] [.ref a545] ?_
          refine Au C S569 f549 (by decide +kernel) ?_
          refine Ac C S569 [(342, .iload 4, 2), (344, .if_icmp .eq 5, 3), (349, .aload 17, 2), (351, .iconst 0, 1), (352, .iload 4, 2), (354, .lload_n 0, 1)] 355 #[.val (.long i0), .second, Aa i1, Aa i2, Aa 1, Aa pd, Aa u13, Aa 0, Aa 0, Aa 0, Aa 0, Aa 0, Ab a52, Aa 2, Aa 2, Ab a121, Ab a524, Ab a545] [.long i0, .int 1, .int 0, .ref a545] ?_
          have f571 : n0 ≤ h564.size := (Nat.le_trans f544 K548.1)
          refine Ae C S569 hw 190 191 3 192 (Bv l Z a0 hw a545 0 1 i0 _ _ _ (Ay (Dg t58 t66)) h564 n0 f571 f549 (by decide) (⟨(by decide), (by decide)⟩) rfl (by rw [ht58, ht66, Ft Uu13 (Dl) (Dl), hu13, Bj (a := i0) (i := (0 : Int32)) (k := (1 : Int32)) (by decide)]; exact Bt _ _)) 0 [.ref a545, .int 0, .int 1, .long i0] [] An ?_
          rintro T573 h574 v575 L576 S577 ⟨⟨rfl, e572⟩, -⟩
          rw [e572] at S577; clear e572
          refine Ac C S577 [(358, .ifCond .eq 67, 3), (361, .aload 17, 2), (363, .iconst 1, 1), (364, .iload 4, 2), (366, .lload_n 0, 1)] 367 #[.val (.long i0), .second, Aa i1, Aa i2, Aa 1, Aa pd, Aa u13, Aa 0, Aa 0, Aa 0, Aa 0, Aa 0, Ab a52, Aa 2, Aa 2, Ab a121, Ab a524, Ab a545] [.long i0, .int 1, .int 1, .ref a545] ?_
          refine Ae C S577 hw 190 191 3 192 (Bu l Z a0 hw a545 1 1 i0 h564 n0 f571 (by decide)) 0 [.ref a545, .int 1, .int 1, .long i0] [] An ?_
          rintro T579 h580 v581 L582 S583 ⟨⟨rfl, e578⟩, -⟩
          rw [e578] at S583; clear e578
          refine Ac C S583 [(370, .ifCond .eq 55, 3), (373, .aload 17, 2), (375, .iconst 2, 1), (376, .iload 4, 2), (378, .lload_n 0, 1)] 379 #[.val (.long i0), .second, Aa i1, Aa i2, Aa 1, Aa pd, Aa u13, Aa 0, Aa 0, Aa 0, Aa 0, Aa 0, Ab a52, Aa 2, Aa 2, Ab a121, Ab a524, Ab a545] [.long i0, .int 1, .int 2, .ref a545] ?_
          refine Ae C S583 hw 190 191 3 192 (Bu l Z a0 hw a545 2 1 i0 h564 n0 f571 (by decide)) 0 [.ref a545, .int 2, .int 1, .long i0] [] An ?_
          rintro T585 h586 v587 L588 S589 ⟨⟨rfl, e584⟩, -⟩
          rw [e584] at S589; clear e584
          refine Ac C S589 [(382, .ifCond .eq 43, 3), (385, .aload 17, 2), (387, .iconst 3, 1), (388, .iload 4, 2), (390, .lload_n 0, 1)] 391 #[.val (.long i0), .second, Aa i1, Aa i2, Aa 1, Aa pd, Aa u13, Aa 0, Aa 0, Aa 0, Aa 0, Aa 0, Ab a52, Aa 2, Aa 2, Ab a121, Ab a524, Ab a545] [.long i0, .int 1, .int 3, .ref a545] ?_
          refine Ae C S589 hw 190 191 3 192 (Bu l Z a0 hw a545 3 1 i0 h564 n0 f571 (by decide)) 0 [.ref a545, .int 3, .int 1, .long i0] [] An ?_
          rintro T591 h592 v593 L594 S595 ⟨⟨rfl, e590⟩, -⟩
          rw [e590] at S595; clear e590
          refine Ac C S595 [(394, .ifCond .eq 31, 3), (397, .aload 17, 2), (399, .iconst 4, 1), (400, .iload 4, 2), (402, .lload_n 0, 1)] 403 #[.val (.long i0), .second, Aa i1, Aa i2, Aa 1, Aa pd, Aa u13, Aa 0, Aa 0, Aa 0, Aa 0, Aa 0, Ab a52, Aa 2, Aa 2, Ab a121, Ab a524, Ab a545] [.long i0, .int 1, .int 4, .ref a545] ?_
          refine Ae C S595 hw 190 191 3 192 (Bu l Z a0 hw a545 4 1 i0 h564 n0 f571 (by decide)) 0 [.ref a545, .int 4, .int 1, .long i0] [] An ?_
          rintro T597 h598 v599 L600 S601 ⟨⟨rfl, e596⟩, -⟩
          rw [e596] at S601; clear e596
          refine Ac C S601 [(406, .ifCond .eq 19, 3), (409, .aload 17, 2), (411, .iconst 5, 1), (412, .iload 4, 2), (414, .lload_n 0, 1)] 415 #[.val (.long i0), .second, Aa i1, Aa i2, Aa 1, Aa pd, Aa u13, Aa 0, Aa 0, Aa 0, Aa 0, Aa 0, Ab a52, Aa 2, Aa 2, Ab a121, Ab a524, Ab a545] [.long i0, .int 1, .int 5, .ref a545] ?_
          refine Ae C S601 hw 190 191 3 192 (Bu l Z a0 hw a545 5 1 i0 h564 n0 f571 (by decide)) 0 [.ref a545, .int 5, .int 1, .long i0] [] An ?_
          rintro T603 h604 v605 L606 S607 ⟨⟨rfl, e602⟩, -⟩
          rw [e602] at S607; clear e602
          refine Ac C S607 [(418, .ifCond .eq 7, 3), (421, .iconst 1, 1), (422, .goto 4, 3)] 426 #[.val (.long i0), .second, Aa i1, Aa i2, Aa 1, Aa pd, Aa u13, Aa 0, Aa 0, Aa 0, Aa 0, Aa 0, Ab a52, Aa 2, Aa 2, Ab a121, Ab a524, Ab a545] [.int 1] ?_
          have SW608 := rb570 _ _ _ _ [] [] S607 (Keep.refl _ _) all0 all0
          refine Da CW SW608 (by decide +kernel) (by decide) (by decide) (by decide) ?_
          rfl
      · rw [← hz4] at e7
        subst e7
        obtain rfl : w115 = (3 : Int32) := hw115.trans (by decide)
        have f609 : Arv Z h239 a121 k122 .char (8 : Int32) ([(.int (Ad t58)), (.int (Ad t66)), (.int (Ad t73)), (.int 61), (.int 61), (.int 61), (.int 61), (.int 61)]) (.int 0) := by have g := f242; rw [show (Am t58 (0 : Int32) (3 : Int32)) = (Ad t58) from Bp (by decide), show (Am t66 (1 : Int32) (3 : Int32)) = (Ad t66) from Bp (by decide), show (Am t73 (2 : Int32) (3 : Int32)) = (Ad t73) from Bp (by decide), show (Am t80 (3 : Int32) (3 : Int32)) = (61 : Int32) from Bz (by decide), show (Am t87 (4 : Int32) (3 : Int32)) = (61 : Int32) from Bz (by decide), show (Am t94 (5 : Int32) (3 : Int32)) = (61 : Int32) from Bz (by decide), show (Am t101 (6 : Int32) (3 : Int32)) = (61 : Int32) from Bz (by decide), show (Am t108 (7 : Int32) (3 : Int32)) = (61 : Int32) from Bz (by decide)] at g; exact g
        obtain rfl : u27 = 0 := hu27.trans (Cj (by decide))
        obtain rfl : u34 = 0 := hu34.trans (Cj (by decide))
        obtain rfl : u41 = 0 := hu41.trans (Cj (by decide))
        obtain rfl : u48 = 0 := hu48.trans (Cj (by decide))
        rcases hln with hln | hln
        · obtain rfl : ln = (4 : Int32) := hln.trans (by decide)
          refine Ae C S238 hw 14 15 3 16 (own_st4 l Z a0 hw G1 G3 U8 I8 TB DE a121 _ _ _ _ _ _ _ _ _ h239 n0 f252 f243 f609 XS ((Bf Xt58).2) (Ai Xt58) ((Bf Xt66).2) (Ai Xt66) ((Bf Xt73).2) (Ai Xt73) (by decide) (by decide)) 0 [.ref a121, .int 4] [] Df ?_
          rintro T620 h621 v622 L623 S624 ⟨⟨a610, a611, k612, rfl, g613, K614, f615, f616, f617, f618, f619⟩, -⟩
          refine Ac C S624 [(325, .astore 16, 2), (327, .aload 16, 2)] 329 #[.val (.long i0), .second, Aa i1, Aa i2, Aa 2, Aa pd, Aa u13, Aa u20, Aa 0, Aa 0, Aa 0, Aa 0, Ab a52, Aa 3, Aa 4, Ab a121, Ab a610, .unset] [.ref a610] ?_
          have f625 := (f243.keep K614 all0)
          have f626 := (f246.keep K614 nin0)
          have f627 := (f247.keep K614)
          have f628 := (f250.keep K614 nin0)
          have f629 := (f251.keep K614 nin0)
          have f630 : n0 ≤ h621.size := (Nat.le_trans f252 K614.1)
          have o641 : h0.size ≤ a52 := by rw [g54]; exact (Nat.le_refl _)
          have o643 : h0.size ≤ h111.size := (by rw [W112.size]; exact (by rw [W105.size]; exact (by rw [W98.size]; exact (by rw [W91.size]; exact (by rw [W84.size]; exact (by rw [W77.size]; exact (by rw [W70.size]; exact (by rw [W63.size]; exact (Nat.le_trans (Nat.le_refl _) E55.1)))))))))
          have o642 : h0.size ≤ a121 := by rw [g123]; exact o643
          have o645 : h0.size ≤ h239.size := (by rw [W240.size]; exact (by rw [W226.size]; exact (by rw [W212.size]; exact (by rw [W198.size]; exact (by rw [W184.size]; exact (by rw [W170.size]; exact (by rw [W156.size]; exact (by rw [W140.size]; exact (Nat.le_trans o643 E124.1)))))))))
          have o644 : h0.size ≤ a610 := Nat.le_trans o645 g613
          have f646 : a121 < h621.size := (Nat.lt_of_lt_of_le (by rw [W240.size]; exact (by rw [W226.size]; exact (by rw [W212.size]; exact (by rw [W198.size]; exact (by rw [W184.size]; exact (by rw [W170.size]; exact (by rw [W156.size]; exact (by rw [W140.size]; exact f126.lt)))))))) K614.1)
          have f647 : a52 < h621.size := (Nat.lt_of_lt_of_le (by rw [W240.size]; exact (by rw [W226.size]; exact (by rw [W212.size]; exact (by rw [W198.size]; exact (by rw [W184.size]; exact (by rw [W170.size]; exact (by rw [W156.size]; exact (by rw [W140.size]; exact (Nat.lt_of_lt_of_le f143 E124.1))))))))) K614.1)
          have SW648 := rb3 _ _ _ _ [] [a52, a121, a610] S624 ((((((((((((((((((((Keep.refl _ _).ext E55).wr W63 (Or.inr o641)).wr W70 (Or.inr o641)).wr W77 (Or.inr o641)).wr W84 (Or.inr o641)).wr W91 (Or.inr o641)).wr W98 (Or.inr o641)).wr W105 (Or.inr o641)).wr W112 (Or.inr o641)).ext E124).wr W140 (Or.inr o642)).wr W156 (Or.inr o642)).wr W170 (Or.inr o642)).wr W184 (Or.inr o642)).wr W198 (Or.inr o642)).wr W212 (Or.inr o642)).wr W226 (Or.inr o642)).wr W240 (Or.inr o642)).trans K614 all0) all0 (allS ⟨o641, f647⟩ (allS ⟨o642, f646⟩ (allS ⟨o644, f615.lt⟩ all0)))
          refine Br CW SW648 (ow hw 46 rfl) (ow hw 47 rfl) (ow hw 48 rfl) (ow hw 49 rfl) (by decide) (own_wp43 l Z a0 hw hEL wS G1 G3 U8 I8 TB TBk DE a610 _ _ t58 t66 t73 h621 n0 f630 f625 f626 f627 f628 f629 f615 f616 f617 f618 f619 XS Xt58 Xt66 Xt73 (by rw [ht73]; exact own_q3 Uu20)) all0 0 (by decide) (by decide) [(.ref a610)] [] rfl Cb rfl rfl rfl (Ak rfl) (by decide) (by decide) (by decide +kernel) ?_
          rintro T649 h650 v651 SW652 hg653 ⟨a631, k632, rfl, g633, K634, f635⟩
          refine Av CW SW652 ?_
          intro vm654 C S655 rb656
          refine Ac C S655 [(332, .astore 17, 2), (334, .aload 17, 2), (336, .ifnull 11, 3), (339, .aload 17, 2)] 341 #[.val (.long i0), .second, Aa i1, Aa i2, Aa 2, Aa pd, Aa u13, Aa u20, Aa 0, Aa 0, Aa 0, Aa 0, Ab a52, Aa 3, Aa 4, Ab a121, Ab a610, Ab a631] [.ref a631] ?_
          refine Au C S655 f635 (by decide +kernel) ?_
          refine Ac C S655 [(342, .iload 4, 2), (344, .if_icmp .eq 5, 3), (349, .aload 17, 2), (351, .iconst 0, 1), (352, .iload 4, 2), (354, .lload_n 0, 1)] 355 #[.val (.long i0), .second, Aa i1, Aa i2, Aa 2, Aa pd, Aa u13, Aa u20, Aa 0, Aa 0, Aa 0, Aa 0, Ab a52, Aa 3, Aa 4, Ab a121, Ab a610, Ab a631] [.long i0, .int 2, .int 0, .ref a631] ?_
          have f657 : n0 ≤ h650.size := (Nat.le_trans f630 K634.1)
          refine Ae C S655 hw 190 191 3 192 (Bv l Z a0 hw a631 0 2 i0 _ _ _ (Ay (Ci t58 t66 t73)) h650 n0 f657 f635 (by decide) (⟨(by decide), (by decide)⟩) rfl (by rw [ht58, ht66, ht73, Fq Uu13 Uu20 (Dl), hu13, Bj (a := i0) (i := (0 : Int32)) (k := (2 : Int32)) (by decide)]; exact Bt _ _)) 0 [.ref a631, .int 0, .int 2, .long i0] [] An ?_
          rintro T659 h660 v661 L662 S663 ⟨⟨rfl, e658⟩, -⟩
          rw [e658] at S663; clear e658
          refine Ac C S663 [(358, .ifCond .eq 67, 3), (361, .aload 17, 2), (363, .iconst 1, 1), (364, .iload 4, 2), (366, .lload_n 0, 1)] 367 #[.val (.long i0), .second, Aa i1, Aa i2, Aa 2, Aa pd, Aa u13, Aa u20, Aa 0, Aa 0, Aa 0, Aa 0, Ab a52, Aa 3, Aa 4, Ab a121, Ab a610, Ab a631] [.long i0, .int 2, .int 1, .ref a631] ?_
          refine Ae C S663 hw 190 191 3 192 (Bv l Z a0 hw a631 1 2 i0 _ _ _ (Bk (Ci t58 t66 t73)) h650 n0 f657 f635 (by decide) (⟨(by decide), (by decide)⟩) rfl (by rw [ht58, ht66, ht73, Fs Uu13 Uu20 (Dl), hu20, Bj (a := i0) (i := (1 : Int32)) (k := (2 : Int32)) (by decide)]; exact Bt _ _)) 0 [.ref a631, .int 1, .int 2, .long i0] [] An ?_
          rintro T665 h666 v667 L668 S669 ⟨⟨rfl, e664⟩, -⟩
          rw [e664] at S669; clear e664
          refine Ac C S669 [(370, .ifCond .eq 55, 3), (373, .aload 17, 2), (375, .iconst 2, 1), (376, .iload 4, 2), (378, .lload_n 0, 1)] 379 #[.val (.long i0), .second, Aa i1, Aa i2, Aa 2, Aa pd, Aa u13, Aa u20, Aa 0, Aa 0, Aa 0, Aa 0, Ab a52, Aa 3, Aa 4, Ab a121, Ab a610, Ab a631] [.long i0, .int 2, .int 2, .ref a631] ?_
          refine Ae C S669 hw 190 191 3 192 (Bu l Z a0 hw a631 2 2 i0 h650 n0 f657 (by decide)) 0 [.ref a631, .int 2, .int 2, .long i0] [] An ?_
          rintro T671 h672 v673 L674 S675 ⟨⟨rfl, e670⟩, -⟩
          rw [e670] at S675; clear e670
          refine Ac C S675 [(382, .ifCond .eq 43, 3), (385, .aload 17, 2), (387, .iconst 3, 1), (388, .iload 4, 2), (390, .lload_n 0, 1)] 391 #[.val (.long i0), .second, Aa i1, Aa i2, Aa 2, Aa pd, Aa u13, Aa u20, Aa 0, Aa 0, Aa 0, Aa 0, Ab a52, Aa 3, Aa 4, Ab a121, Ab a610, Ab a631] [.long i0, .int 2, .int 3, .ref a631] ?_
          refine Ae C S675 hw 190 191 3 192 (Bu l Z a0 hw a631 3 2 i0 h650 n0 f657 (by decide)) 0 [.ref a631, .int 3, .int 2, .long i0] [] An ?_
          rintro T677 h678 v679 L680 S681 ⟨⟨rfl, e676⟩, -⟩
          rw [e676] at S681; clear e676
          refine Ac C S681 [(394, .ifCond .eq 31, 3), (397, .aload 17, 2), (399, .iconst 4, 1), (400, .iload 4, 2), (402, .lload_n 0, 1)] 403 #[.val (.long i0), .second, Aa i1, Aa i2, Aa 2, Aa pd, Aa u13, Aa u20, Aa 0, Aa 0, Aa 0, Aa 0, Ab a52, Aa 3, Aa 4, Ab a121, Ab a610, Ab a631] [.long i0, .int 2, .int 4, .ref a631] ?_
          refine Ae C S681 hw 190 191 3 192 (Bu l Z a0 hw a631 4 2 i0 h650 n0 f657 (by decide)) 0 [.ref a631, .int 4, .int 2, .long i0] [] An ?_
          rintro T683 h684 v685 L686 S687 ⟨⟨rfl, e682⟩, -⟩
          rw [e682] at S687; clear e682
          refine Ac C S687 [(406, .ifCond .eq 19, 3), (409, .aload 17, 2), (411, .iconst 5, 1), (412, .iload 4, 2), (414, .lload_n 0, 1)] 415 #[.val (.long i0), .second, Aa i1, Aa i2, Aa 2, Aa pd, Aa u13, Aa u20, Aa 0, Aa 0, Aa 0, Aa 0, Ab a52, Aa 3, Aa 4, Ab a121, Ab a610, Ab a631] [.long i0, .int 2, .int 5, .ref a631] ?_
          refine Ae C S687 hw 190 191 3 192 (Bu l Z a0 hw a631 5 2 i0 h650 n0 f657 (by decide)) 0 [.ref a631, .int 5, .int 2, .long i0] [] An ?_
          rintro T689 h690 v691 L692 S693 ⟨⟨rfl, e688⟩, -⟩
          rw [e688] at S693; clear e688
          refine Ac C S693 [(418, .ifCond .eq 7, 3), (421, .iconst 1, 1), (422, .goto 4, 3)] 426 #[.val (.long i0), .second, Aa i1, Aa i2, Aa 2, Aa pd, Aa u13, Aa u20, Aa 0, Aa 0, Aa 0, Aa 0, Ab a52, Aa 3, Aa 4, Ab a121, Ab a610, Ab a631] [.int 1] ?_
          have SW694 := rb656 _ _ _ _ [] [] S693 (Keep.refl _ _) all0 all0
          refine Da CW SW694 (by decide +kernel) (by decide) (by decide) (by decide) ?_
          rfl
        · obtain rfl : ln = (3 : Int32) := hln.trans (by decide)
          refine Ae C S238 hw 14 15 3 16 (own_st3 l Z a0 hw G1 G3 U8 I8 TB DE a121 _ _ _ _ _ _ _ _ _ h239 n0 f252 f243 f609 XS ((Bf Xt58).2) (Ai Xt58) ((Bf Xt66).2) (Ai Xt66) ((Bf Xt73).2) (Ai Xt73)) 0 [.ref a121, .int 3] [] Df ?_
          rintro T705 h706 v707 L708 S709 ⟨⟨a695, a696, k697, rfl, g698, K699, f700, f701, f702, f703, f704⟩, -⟩
          refine Ac C S709 [(325, .astore 16, 2), (327, .aload 16, 2)] 329 #[.val (.long i0), .second, Aa i1, Aa i2, Aa 2, Aa pd, Aa u13, Aa u20, Aa 0, Aa 0, Aa 0, Aa 0, Ab a52, Aa 3, Aa 3, Ab a121, Ab a695, .unset] [.ref a695] ?_
          have f710 := (f243.keep K699 all0)
          have f711 := (f246.keep K699 nin0)
          have f712 := (f247.keep K699)
          have f713 := (f250.keep K699 nin0)
          have f714 := (f251.keep K699 nin0)
          have f715 : n0 ≤ h706.size := (Nat.le_trans f252 K699.1)
          have o726 : h0.size ≤ a52 := by rw [g54]; exact (Nat.le_refl _)
          have o728 : h0.size ≤ h111.size := (by rw [W112.size]; exact (by rw [W105.size]; exact (by rw [W98.size]; exact (by rw [W91.size]; exact (by rw [W84.size]; exact (by rw [W77.size]; exact (by rw [W70.size]; exact (by rw [W63.size]; exact (Nat.le_trans (Nat.le_refl _) E55.1)))))))))
          have o727 : h0.size ≤ a121 := by rw [g123]; exact o728
          have o730 : h0.size ≤ h239.size := (by rw [W240.size]; exact (by rw [W226.size]; exact (by rw [W212.size]; exact (by rw [W198.size]; exact (by rw [W184.size]; exact (by rw [W170.size]; exact (by rw [W156.size]; exact (by rw [W140.size]; exact (Nat.le_trans o728 E124.1)))))))))
          have o729 : h0.size ≤ a695 := Nat.le_trans o730 g698
          have f731 : a121 < h706.size := (Nat.lt_of_lt_of_le (by rw [W240.size]; exact (by rw [W226.size]; exact (by rw [W212.size]; exact (by rw [W198.size]; exact (by rw [W184.size]; exact (by rw [W170.size]; exact (by rw [W156.size]; exact (by rw [W140.size]; exact f126.lt)))))))) K699.1)
          have f732 : a52 < h706.size := (Nat.lt_of_lt_of_le (by rw [W240.size]; exact (by rw [W226.size]; exact (by rw [W212.size]; exact (by rw [W198.size]; exact (by rw [W184.size]; exact (by rw [W170.size]; exact (by rw [W156.size]; exact (by rw [W140.size]; exact (Nat.lt_of_lt_of_le f143 E124.1))))))))) K699.1)
          have SW733 := rb3 _ _ _ _ [] [a52, a121, a695] S709 ((((((((((((((((((((Keep.refl _ _).ext E55).wr W63 (Or.inr o726)).wr W70 (Or.inr o726)).wr W77 (Or.inr o726)).wr W84 (Or.inr o726)).wr W91 (Or.inr o726)).wr W98 (Or.inr o726)).wr W105 (Or.inr o726)).wr W112 (Or.inr o726)).ext E124).wr W140 (Or.inr o727)).wr W156 (Or.inr o727)).wr W170 (Or.inr o727)).wr W184 (Or.inr o727)).wr W198 (Or.inr o727)).wr W212 (Or.inr o727)).wr W226 (Or.inr o727)).wr W240 (Or.inr o727)).trans K699 all0) all0 (allS ⟨o726, f732⟩ (allS ⟨o727, f731⟩ (allS ⟨o729, f700.lt⟩ all0)))
          refine Br CW SW733 (ow hw 46 rfl) (ow hw 47 rfl) (ow hw 48 rfl) (ow hw 49 rfl) (by decide) (own_wp33 l Z a0 hw hEL wS G1 G3 U8 I8 TB TBk DE a695 _ _ t58 t66 t73 h706 n0 f715 f710 f711 f712 f713 f714 f700 f701 f702 f703 f704 XS Xt58 Xt66 Xt73 (by rw [ht73]; exact own_q3 Uu20)) all0 0 (by decide) (by decide) [(.ref a695)] [] rfl Cb rfl rfl rfl (Ak rfl) (by decide) (by decide) (by decide +kernel) ?_
          rintro T734 h735 v736 SW737 hg738 ⟨a716, k717, rfl, g718, K719, f720⟩
          refine Av CW SW737 ?_
          intro vm739 C S740 rb741
          refine Ac C S740 [(332, .astore 17, 2), (334, .aload 17, 2), (336, .ifnull 11, 3), (339, .aload 17, 2)] 341 #[.val (.long i0), .second, Aa i1, Aa i2, Aa 2, Aa pd, Aa u13, Aa u20, Aa 0, Aa 0, Aa 0, Aa 0, Ab a52, Aa 3, Aa 3, Ab a121, Ab a695, Ab a716] [.ref a716] ?_
          refine Au C S740 f720 (by decide +kernel) ?_
          refine Ac C S740 [(342, .iload 4, 2), (344, .if_icmp .eq 5, 3), (349, .aload 17, 2), (351, .iconst 0, 1), (352, .iload 4, 2), (354, .lload_n 0, 1)] 355 #[.val (.long i0), .second, Aa i1, Aa i2, Aa 2, Aa pd, Aa u13, Aa u20, Aa 0, Aa 0, Aa 0, Aa 0, Ab a52, Aa 3, Aa 3, Ab a121, Ab a695, Ab a716] [.long i0, .int 2, .int 0, .ref a716] ?_
          have f742 : n0 ≤ h735.size := (Nat.le_trans f715 K719.1)
          refine Ae C S740 hw 190 191 3 192 (Bv l Z a0 hw a716 0 2 i0 _ _ _ (Ay (Ci t58 t66 t73)) h735 n0 f742 f720 (by decide) (⟨(by decide), (by decide)⟩) rfl (by rw [ht58, ht66, ht73, Fq Uu13 Uu20 (Dl), hu13, Bj (a := i0) (i := (0 : Int32)) (k := (2 : Int32)) (by decide)]; exact Bt _ _)) 0 [.ref a716, .int 0, .int 2, .long i0] [] An ?_
          rintro T744 h745 v746 L747 S748 ⟨⟨rfl, e743⟩, -⟩
          rw [e743] at S748; clear e743
          refine Ac C S748 [(358, .ifCond .eq 67, 3), (361, .aload 17, 2), (363, .iconst 1, 1), (364, .iload 4, 2), (366, .lload_n 0, 1)] 367 #[.val (.long i0), .second, Aa i1, Aa i2, Aa 2, Aa pd, Aa u13, Aa u20, Aa 0, Aa 0, Aa 0, Aa 0, Ab a52, Aa 3, Aa 3, Ab a121, Ab a695, Ab a716] [.long i0, .int 2, .int 1, .ref a716] ?_
          refine Ae C S748 hw 190 191 3 192 (Bv l Z a0 hw a716 1 2 i0 _ _ _ (Bk (Ci t58 t66 t73)) h735 n0 f742 f720 (by decide) (⟨(by decide), (by decide)⟩) rfl (by rw [ht58, ht66, ht73, Fs Uu13 Uu20 (Dl), hu20, Bj (a := i0) (i := (1 : Int32)) (k := (2 : Int32)) (by decide)]; exact Bt _ _)) 0 [.ref a716, .int 1, .int 2, .long i0] [] An ?_
          rintro T750 h751 v752 L753 S754 ⟨⟨rfl, e749⟩, -⟩
          rw [e749] at S754; clear e749
          refine Ac C S754 [(370, .ifCond .eq 55, 3), (373, .aload 17, 2), (375, .iconst 2, 1), (376, .iload 4, 2), (378, .lload_n 0, 1)] 379 #[.val (.long i0), .second, Aa i1, Aa i2, Aa 2, Aa pd, Aa u13, Aa u20, Aa 0, Aa 0, Aa 0, Aa 0, Ab a52, Aa 3, Aa 3, Ab a121, Ab a695, Ab a716] [.long i0, .int 2, .int 2, .ref a716] ?_
          refine Ae C S754 hw 190 191 3 192 (Bu l Z a0 hw a716 2 2 i0 h735 n0 f742 (by decide)) 0 [.ref a716, .int 2, .int 2, .long i0] [] An ?_
          rintro T756 h757 v758 L759 S760 ⟨⟨rfl, e755⟩, -⟩
          rw [e755] at S760; clear e755
          refine Ac C S760 [(382, .ifCond .eq 43, 3), (385, .aload 17, 2), (387, .iconst 3, 1), (388, .iload 4, 2), (390, .lload_n 0, 1)] 391 #[.val (.long i0), .second, Aa i1, Aa i2, Aa 2, Aa pd, Aa u13, Aa u20, Aa 0, Aa 0, Aa 0, Aa 0, Ab a52, Aa 3, Aa 3, Ab a121, Ab a695, Ab a716] [.long i0, .int 2, .int 3, .ref a716] ?_
          refine Ae C S760 hw 190 191 3 192 (Bu l Z a0 hw a716 3 2 i0 h735 n0 f742 (by decide)) 0 [.ref a716, .int 3, .int 2, .long i0] [] An ?_
          rintro T762 h763 v764 L765 S766 ⟨⟨rfl, e761⟩, -⟩
          rw [e761] at S766; clear e761
          refine Ac C S766 [(394, .ifCond .eq 31, 3), (397, .aload 17, 2), (399, .iconst 4, 1), (400, .iload 4, 2), (402, .lload_n 0, 1)] 403 #[.val (.long i0), .second, Aa i1, Aa i2, Aa 2, Aa pd, Aa u13, Aa u20, Aa 0, Aa 0, Aa 0, Aa 0, Ab a52, Aa 3, Aa 3, Ab a121, Ab a695, Ab a716] [.long i0, .int 2, .int 4, .ref a716] ?_
          refine Ae C S766 hw 190 191 3 192 (Bu l Z a0 hw a716 4 2 i0 h735 n0 f742 (by decide)) 0 [.ref a716, .int 4, .int 2, .long i0] [] An ?_
          rintro T768 h769 v770 L771 S772 ⟨⟨rfl, e767⟩, -⟩
          rw [e767] at S772; clear e767
          refine Ac C S772 [(406, .ifCond .eq 19, 3), (409, .aload 17, 2), (411, .iconst 5, 1), (412, .iload 4, 2), (414, .lload_n 0, 1)] 415 #[.val (.long i0), .second, Aa i1, Aa i2, Aa 2, Aa pd, Aa u13, Aa u20, Aa 0, Aa 0, Aa 0, Aa 0, Ab a52, Aa 3, Aa 3, Ab a121, Ab a695, Ab a716] [.long i0, .int 2, .int 5, .ref a716] ?_
          refine Ae C S772 hw 190 191 3 192 (Bu l Z a0 hw a716 5 2 i0 h735 n0 f742 (by decide)) 0 [.ref a716, .int 5, .int 2, .long i0] [] An ?_
          rintro T774 h775 v776 L777 S778 ⟨⟨rfl, e773⟩, -⟩
          rw [e773] at S778; clear e773
          refine Ac C S778 [(418, .ifCond .eq 7, 3), (421, .iconst 1, 1), (422, .goto 4, 3)] 426 #[.val (.long i0), .second, Aa i1, Aa i2, Aa 2, Aa pd, Aa u13, Aa u20, Aa 0, Aa 0, Aa 0, Aa 0, Ab a52, Aa 3, Aa 3, Ab a121, Ab a695, Ab a716] [.int 1] ?_
          have SW779 := rb741 _ _ _ _ [] [] S778 (Keep.refl _ _) all0 all0
          refine Da CW SW779 (by decide +kernel) (by decide) (by decide) (by decide) ?_
          rfl
      · rw [← hz4] at e7
        subst e7
        obtain rfl : w115 = (4 : Int32) := hw115.trans (by decide)
        have f780 : Arv Z h239 a121 k122 .char (8 : Int32) ([(.int (Ad t58)), (.int (Ad t66)), (.int (Ad t73)), (.int (Ad t80)), (.int 61), (.int 61), (.int 61), (.int 61)]) (.int 0) := by have g := f242; rw [show (Am t58 (0 : Int32) (4 : Int32)) = (Ad t58) from Bp (by decide), show (Am t66 (1 : Int32) (4 : Int32)) = (Ad t66) from Bp (by decide), show (Am t73 (2 : Int32) (4 : Int32)) = (Ad t73) from Bp (by decide), show (Am t80 (3 : Int32) (4 : Int32)) = (Ad t80) from Bp (by decide), show (Am t87 (4 : Int32) (4 : Int32)) = (61 : Int32) from Bz (by decide), show (Am t94 (5 : Int32) (4 : Int32)) = (61 : Int32) from Bz (by decide), show (Am t101 (6 : Int32) (4 : Int32)) = (61 : Int32) from Bz (by decide), show (Am t108 (7 : Int32) (4 : Int32)) = (61 : Int32) from Bz (by decide)] at g; exact g
        obtain rfl : u34 = 0 := hu34.trans (Cj (by decide))
        obtain rfl : u41 = 0 := hu41.trans (Cj (by decide))
        obtain rfl : u48 = 0 := hu48.trans (Cj (by decide))
        rcases hln with hln | hln
        · obtain rfl : ln = (4 : Int32) := hln.trans (by decide)
          refine Ae C S238 hw 14 15 3 16 (own_st4 l Z a0 hw G1 G3 U8 I8 TB DE a121 _ _ _ _ _ _ _ _ _ h239 n0 f252 f243 f780 XS ((Bf Xt58).2) (Ai Xt58) ((Bf Xt66).2) (Ai Xt66) ((Bf Xt73).2) (Ai Xt73) ((Bf Xt80).2) (Ai Xt80)) 0 [.ref a121, .int 4] [] Df ?_
          rintro T791 h792 v793 L794 S795 ⟨⟨a781, a782, k783, rfl, g784, K785, f786, f787, f788, f789, f790⟩, -⟩
          refine Ac C S795 [(325, .astore 16, 2), (327, .aload 16, 2)] 329 #[.val (.long i0), .second, Aa i1, Aa i2, Aa 3, Aa pd, Aa u13, Aa u20, Aa u27, Aa 0, Aa 0, Aa 0, Ab a52, Aa 4, Aa 4, Ab a121, Ab a781, .unset] [.ref a781] ?_
          have f796 := (f243.keep K785 all0)
          have f797 := (f246.keep K785 nin0)
          have f798 := (f247.keep K785)
          have f799 := (f250.keep K785 nin0)
          have f800 := (f251.keep K785 nin0)
          have f801 : n0 ≤ h792.size := (Nat.le_trans f252 K785.1)
          have o812 : h0.size ≤ a52 := by rw [g54]; exact (Nat.le_refl _)
          have o814 : h0.size ≤ h111.size := (by rw [W112.size]; exact (by rw [W105.size]; exact (by rw [W98.size]; exact (by rw [W91.size]; exact (by rw [W84.size]; exact (by rw [W77.size]; exact (by rw [W70.size]; exact (by rw [W63.size]; exact (Nat.le_trans (Nat.le_refl _) E55.1)))))))))
          have o813 : h0.size ≤ a121 := by rw [g123]; exact o814
          have o816 : h0.size ≤ h239.size := (by rw [W240.size]; exact (by rw [W226.size]; exact (by rw [W212.size]; exact (by rw [W198.size]; exact (by rw [W184.size]; exact (by rw [W170.size]; exact (by rw [W156.size]; exact (by rw [W140.size]; exact (Nat.le_trans o814 E124.1)))))))))
          have o815 : h0.size ≤ a781 := Nat.le_trans o816 g784
          have f817 : a121 < h792.size := (Nat.lt_of_lt_of_le (by rw [W240.size]; exact (by rw [W226.size]; exact (by rw [W212.size]; exact (by rw [W198.size]; exact (by rw [W184.size]; exact (by rw [W170.size]; exact (by rw [W156.size]; exact (by rw [W140.size]; exact f126.lt)))))))) K785.1)
          have f818 : a52 < h792.size := (Nat.lt_of_lt_of_le (by rw [W240.size]; exact (by rw [W226.size]; exact (by rw [W212.size]; exact (by rw [W198.size]; exact (by rw [W184.size]; exact (by rw [W170.size]; exact (by rw [W156.size]; exact (by rw [W140.size]; exact (Nat.lt_of_lt_of_le f143 E124.1))))))))) K785.1)
          have SW819 := rb3 _ _ _ _ [] [a52, a121, a781] S795 ((((((((((((((((((((Keep.refl _ _).ext E55).wr W63 (Or.inr o812)).wr W70 (Or.inr o812)).wr W77 (Or.inr o812)).wr W84 (Or.inr o812)).wr W91 (Or.inr o812)).wr W98 (Or.inr o812)).wr W105 (Or.inr o812)).wr W112 (Or.inr o812)).ext E124).wr W140 (Or.inr o813)).wr W156 (Or.inr o813)).wr W170 (Or.inr o813)).wr W184 (Or.inr o813)).wr W198 (Or.inr o813)).wr W212 (Or.inr o813)).wr W226 (Or.inr o813)).wr W240 (Or.inr o813)).trans K785 all0) all0 (allS ⟨o812, f818⟩ (allS ⟨o813, f817⟩ (allS ⟨o815, f786.lt⟩ all0)))
          refine Br CW SW819 (ow hw 46 rfl) (ow hw 47 rfl) (ow hw 48 rfl) (ow hw 49 rfl) (by decide) (own_wp44 l Z a0 hw hEL wS G1 G3 U8 I8 TB TBk DE a781 _ _ t58 t66 t73 t80 h792 n0 f801 f796 f797 f798 f799 f800 f786 f787 f788 f789 f790 XS Xt58 Xt66 Xt73 Xt80) all0 0 (by decide) (by decide) [(.ref a781)] [] rfl Cb rfl rfl rfl (Ak rfl) (by decide) (by decide) (by decide +kernel) ?_
          rintro T820 h821 v822 SW823 hg824 ⟨a802, k803, rfl, g804, K805, f806⟩
          refine Av CW SW823 ?_
          intro vm825 C S826 rb827
          refine Ac C S826 [(332, .astore 17, 2), (334, .aload 17, 2), (336, .ifnull 11, 3), (339, .aload 17, 2)] 341 #[.val (.long i0), .second, Aa i1, Aa i2, Aa 3, Aa pd, Aa u13, Aa u20, Aa u27, Aa 0, Aa 0, Aa 0, Ab a52, Aa 4, Aa 4, Ab a121, Ab a781, Ab a802] [.ref a802] ?_
          refine Au C S826 f806 (by decide +kernel) ?_
          refine Ac C S826 [(342, .iload 4, 2), (344, .if_icmp .eq 5, 3), (349, .aload 17, 2), (351, .iconst 0, 1), (352, .iload 4, 2), (354, .lload_n 0, 1)] 355 #[.val (.long i0), .second, Aa i1, Aa i2, Aa 3, Aa pd, Aa u13, Aa u20, Aa u27, Aa 0, Aa 0, Aa 0, Ab a52, Aa 4, Aa 4, Ab a121, Ab a781, Ab a802] [.long i0, .int 3, .int 0, .ref a802] ?_
          have f828 : n0 ≤ h821.size := (Nat.le_trans f801 K805.1)
          refine Ae C S826 hw 190 191 3 192 (Bv l Z a0 hw a802 0 3 i0 _ _ _ (Ay (Cz t58 t66 t73 t80)) h821 n0 f828 f806 (by decide) (⟨(by decide), (by decide)⟩) rfl (by rw [ht58, ht66, ht73, ht80, own_S4_0 Uu13 Uu20 Uu27, hu13, Bj (a := i0) (i := (0 : Int32)) (k := (3 : Int32)) (by decide)]; exact Bt _ _)) 0 [.ref a802, .int 0, .int 3, .long i0] [] An ?_
          rintro T830 h831 v832 L833 S834 ⟨⟨rfl, e829⟩, -⟩
          rw [e829] at S834; clear e829
          refine Ac C S834 [(358, .ifCond .eq 67, 3), (361, .aload 17, 2), (363, .iconst 1, 1), (364, .iload 4, 2), (366, .lload_n 0, 1)] 367 #[.val (.long i0), .second, Aa i1, Aa i2, Aa 3, Aa pd, Aa u13, Aa u20, Aa u27, Aa 0, Aa 0, Aa 0, Ab a52, Aa 4, Aa 4, Ab a121, Ab a781, Ab a802] [.long i0, .int 3, .int 1, .ref a802] ?_
          refine Ae C S834 hw 190 191 3 192 (Bv l Z a0 hw a802 1 3 i0 _ _ _ (Bk (Cz t58 t66 t73 t80)) h821 n0 f828 f806 (by decide) (⟨(by decide), (by decide)⟩) rfl (by rw [ht58, ht66, ht73, ht80, own_S4_1 Uu13 Uu20 Uu27, hu20, Bj (a := i0) (i := (1 : Int32)) (k := (3 : Int32)) (by decide)]; exact Bt _ _)) 0 [.ref a802, .int 1, .int 3, .long i0] [] An ?_
          rintro T836 h837 v838 L839 S840 ⟨⟨rfl, e835⟩, -⟩
          rw [e835] at S840; clear e835
          refine Ac C S840 [(370, .ifCond .eq 55, 3), (373, .aload 17, 2), (375, .iconst 2, 1), (376, .iload 4, 2), (378, .lload_n 0, 1)] 379 #[.val (.long i0), .second, Aa i1, Aa i2, Aa 3, Aa pd, Aa u13, Aa u20, Aa u27, Aa 0, Aa 0, Aa 0, Ab a52, Aa 4, Aa 4, Ab a121, Ab a781, Ab a802] [.long i0, .int 3, .int 2, .ref a802] ?_
          refine Ae C S840 hw 190 191 3 192 (Bv l Z a0 hw a802 2 3 i0 _ _ _ (Cc (Cz t58 t66 t73 t80)) h821 n0 f828 f806 (by decide) (⟨(by decide), (by decide)⟩) rfl (by rw [ht58, ht66, ht73, ht80, own_S4_2 Uu13 Uu20 Uu27, hu27, Bj (a := i0) (i := (2 : Int32)) (k := (3 : Int32)) (by decide)]; exact Bt _ _)) 0 [.ref a802, .int 2, .int 3, .long i0] [] An ?_
          rintro T842 h843 v844 L845 S846 ⟨⟨rfl, e841⟩, -⟩
          rw [e841] at S846; clear e841
          refine Ac C S846 [(382, .ifCond .eq 43, 3), (385, .aload 17, 2), (387, .iconst 3, 1), (388, .iload 4, 2), (390, .lload_n 0, 1)] 391 #[.val (.long i0), .second, Aa i1, Aa i2, Aa 3, Aa pd, Aa u13, Aa u20, Aa u27, Aa 0, Aa 0, Aa 0, Ab a52, Aa 4, Aa 4, Ab a121, Ab a781, Ab a802] [.long i0, .int 3, .int 3, .ref a802] ?_
          refine Ae C S846 hw 190 191 3 192 (Bu l Z a0 hw a802 3 3 i0 h821 n0 f828 (by decide)) 0 [.ref a802, .int 3, .int 3, .long i0] [] An ?_
          rintro T848 h849 v850 L851 S852 ⟨⟨rfl, e847⟩, -⟩
          rw [e847] at S852; clear e847
          refine Ac C S852 [(394, .ifCond .eq 31, 3), (397, .aload 17, 2), (399, .iconst 4, 1), (400, .iload 4, 2), (402, .lload_n 0, 1)] 403 #[.val (.long i0), .second, Aa i1, Aa i2, Aa 3, Aa pd, Aa u13, Aa u20, Aa u27, Aa 0, Aa 0, Aa 0, Ab a52, Aa 4, Aa 4, Ab a121, Ab a781, Ab a802] [.long i0, .int 3, .int 4, .ref a802] ?_
          refine Ae C S852 hw 190 191 3 192 (Bu l Z a0 hw a802 4 3 i0 h821 n0 f828 (by decide)) 0 [.ref a802, .int 4, .int 3, .long i0] [] An ?_
          rintro T854 h855 v856 L857 S858 ⟨⟨rfl, e853⟩, -⟩
          rw [e853] at S858; clear e853
          refine Ac C S858 [(406, .ifCond .eq 19, 3), (409, .aload 17, 2), (411, .iconst 5, 1), (412, .iload 4, 2), (414, .lload_n 0, 1)] 415 #[.val (.long i0), .second, Aa i1, Aa i2, Aa 3, Aa pd, Aa u13, Aa u20, Aa u27, Aa 0, Aa 0, Aa 0, Ab a52, Aa 4, Aa 4, Ab a121, Ab a781, Ab a802] [.long i0, .int 3, .int 5, .ref a802] ?_
          refine Ae C S858 hw 190 191 3 192 (Bu l Z a0 hw a802 5 3 i0 h821 n0 f828 (by decide)) 0 [.ref a802, .int 5, .int 3, .long i0] [] An ?_
          rintro T860 h861 v862 L863 S864 ⟨⟨rfl, e859⟩, -⟩
          rw [e859] at S864; clear e859
          refine Ac C S864 [(418, .ifCond .eq 7, 3), (421, .iconst 1, 1), (422, .goto 4, 3)] 426 #[.val (.long i0), .second, Aa i1, Aa i2, Aa 3, Aa pd, Aa u13, Aa u20, Aa u27, Aa 0, Aa 0, Aa 0, Ab a52, Aa 4, Aa 4, Ab a121, Ab a781, Ab a802] [.int 1] ?_
          have SW865 := rb827 _ _ _ _ [] [] S864 (Keep.refl _ _) all0 all0
          refine Da CW SW865 (by decide +kernel) (by decide) (by decide) (by decide) ?_
          rfl
        · obtain rfl : ln = (4 : Int32) := hln.trans (by decide)
          refine Ae C S238 hw 14 15 3 16 (own_st4 l Z a0 hw G1 G3 U8 I8 TB DE a121 _ _ _ _ _ _ _ _ _ h239 n0 f252 f243 f780 XS ((Bf Xt58).2) (Ai Xt58) ((Bf Xt66).2) (Ai Xt66) ((Bf Xt73).2) (Ai Xt73) ((Bf Xt80).2) (Ai Xt80)) 0 [.ref a121, .int 4] [] Df ?_
          rintro T876 h877 v878 L879 S880 ⟨⟨a866, a867, k868, rfl, g869, K870, f871, f872, f873, f874, f875⟩, -⟩
          refine Ac C S880 [(325, .astore 16, 2), (327, .aload 16, 2)] 329 #[.val (.long i0), .second, Aa i1, Aa i2, Aa 3, Aa pd, Aa u13, Aa u20, Aa u27, Aa 0, Aa 0, Aa 0, Ab a52, Aa 4, Aa 4, Ab a121, Ab a866, .unset] [.ref a866] ?_
          have f881 := (f243.keep K870 all0)
          have f882 := (f246.keep K870 nin0)
          have f883 := (f247.keep K870)
          have f884 := (f250.keep K870 nin0)
          have f885 := (f251.keep K870 nin0)
          have f886 : n0 ≤ h877.size := (Nat.le_trans f252 K870.1)
          have o897 : h0.size ≤ a52 := by rw [g54]; exact (Nat.le_refl _)
          have o899 : h0.size ≤ h111.size := (by rw [W112.size]; exact (by rw [W105.size]; exact (by rw [W98.size]; exact (by rw [W91.size]; exact (by rw [W84.size]; exact (by rw [W77.size]; exact (by rw [W70.size]; exact (by rw [W63.size]; exact (Nat.le_trans (Nat.le_refl _) E55.1)))))))))
          have o898 : h0.size ≤ a121 := by rw [g123]; exact o899
          have o901 : h0.size ≤ h239.size := (by rw [W240.size]; exact (by rw [W226.size]; exact (by rw [W212.size]; exact (by rw [W198.size]; exact (by rw [W184.size]; exact (by rw [W170.size]; exact (by rw [W156.size]; exact (by rw [W140.size]; exact (Nat.le_trans o899 E124.1)))))))))
          have o900 : h0.size ≤ a866 := Nat.le_trans o901 g869
          have f902 : a121 < h877.size := (Nat.lt_of_lt_of_le (by rw [W240.size]; exact (by rw [W226.size]; exact (by rw [W212.size]; exact (by rw [W198.size]; exact (by rw [W184.size]; exact (by rw [W170.size]; exact (by rw [W156.size]; exact (by rw [W140.size]; exact f126.lt)))))))) K870.1)
          have f903 : a52 < h877.size := (Nat.lt_of_lt_of_le (by rw [W240.size]; exact (by rw [W226.size]; exact (by rw [W212.size]; exact (by rw [W198.size]; exact (by rw [W184.size]; exact (by rw [W170.size]; exact (by rw [W156.size]; exact (by rw [W140.size]; exact (Nat.lt_of_lt_of_le f143 E124.1))))))))) K870.1)
          have SW904 := rb3 _ _ _ _ [] [a52, a121, a866] S880 ((((((((((((((((((((Keep.refl _ _).ext E55).wr W63 (Or.inr o897)).wr W70 (Or.inr o897)).wr W77 (Or.inr o897)).wr W84 (Or.inr o897)).wr W91 (Or.inr o897)).wr W98 (Or.inr o897)).wr W105 (Or.inr o897)).wr W112 (Or.inr o897)).ext E124).wr W140 (Or.inr o898)).wr W156 (Or.inr o898)).wr W170 (Or.inr o898)).wr W184 (Or.inr o898)).wr W198 (Or.inr o898)).wr W212 (Or.inr o898)).wr W226 (Or.inr o898)).wr W240 (Or.inr o898)).trans K870 all0) all0 (allS ⟨o897, f903⟩ (allS ⟨o898, f902⟩ (allS ⟨o900, f871.lt⟩ all0)))
          refine Br CW SW904 (ow hw 46 rfl) (ow hw 47 rfl) (ow hw 48 rfl) (ow hw 49 rfl) (by decide) (own_wp44 l Z a0 hw hEL wS G1 G3 U8 I8 TB TBk DE a866 _ _ t58 t66 t73 t80 h877 n0 f886 f881 f882 f883 f884 f885 f871 f872 f873 f874 f875 XS Xt58 Xt66 Xt73 Xt80) all0 0 (by decide) (by decide) [(.ref a866)] [] rfl Cb rfl rfl rfl (Ak rfl) (by decide) (by decide) (by decide +kernel) ?_
          rintro T905 h906 v907 SW908 hg909 ⟨a887, k888, rfl, g889, K890, f891⟩
          refine Av CW SW908 ?_
          intro vm910 C S911 rb912
          refine Ac C S911 [(332, .astore 17, 2), (334, .aload 17, 2), (336, .ifnull 11, 3), (339, .aload 17, 2)] 341 #[.val (.long i0), .second, Aa i1, Aa i2, Aa 3, Aa pd, Aa u13, Aa u20, Aa u27, Aa 0, Aa 0, Aa 0, Ab a52, Aa 4, Aa 4, Ab a121, Ab a866, Ab a887] [.ref a887] ?_
          refine Au C S911 f891 (by decide +kernel) ?_
          refine Ac C S911 [(342, .iload 4, 2), (344, .if_icmp .eq 5, 3), (349, .aload 17, 2), (351, .iconst 0, 1), (352, .iload 4, 2), (354, .lload_n 0, 1)] 355 #[.val (.long i0), .second, Aa i1, Aa i2, Aa 3, Aa pd, Aa u13, Aa u20, Aa u27, Aa 0, Aa 0, Aa 0, Ab a52, Aa 4, Aa 4, Ab a121, Ab a866, Ab a887] [.long i0, .int 3, .int 0, .ref a887] ?_
          have f913 : n0 ≤ h906.size := (Nat.le_trans f886 K890.1)
          refine Ae C S911 hw 190 191 3 192 (Bv l Z a0 hw a887 0 3 i0 _ _ _ (Ay (Cz t58 t66 t73 t80)) h906 n0 f913 f891 (by decide) (⟨(by decide), (by decide)⟩) rfl (by rw [ht58, ht66, ht73, ht80, own_S4_0 Uu13 Uu20 Uu27, hu13, Bj (a := i0) (i := (0 : Int32)) (k := (3 : Int32)) (by decide)]; exact Bt _ _)) 0 [.ref a887, .int 0, .int 3, .long i0] [] An ?_
          rintro T915 h916 v917 L918 S919 ⟨⟨rfl, e914⟩, -⟩
          rw [e914] at S919; clear e914
          refine Ac C S919 [(358, .ifCond .eq 67, 3), (361, .aload 17, 2), (363, .iconst 1, 1), (364, .iload 4, 2), (366, .lload_n 0, 1)] 367 #[.val (.long i0), .second, Aa i1, Aa i2, Aa 3, Aa pd, Aa u13, Aa u20, Aa u27, Aa 0, Aa 0, Aa 0, Ab a52, Aa 4, Aa 4, Ab a121, Ab a866, Ab a887] [.long i0, .int 3, .int 1, .ref a887] ?_
          refine Ae C S919 hw 190 191 3 192 (Bv l Z a0 hw a887 1 3 i0 _ _ _ (Bk (Cz t58 t66 t73 t80)) h906 n0 f913 f891 (by decide) (⟨(by decide), (by decide)⟩) rfl (by rw [ht58, ht66, ht73, ht80, own_S4_1 Uu13 Uu20 Uu27, hu20, Bj (a := i0) (i := (1 : Int32)) (k := (3 : Int32)) (by decide)]; exact Bt _ _)) 0 [.ref a887, .int 1, .int 3, .long i0] [] An ?_
          rintro T921 h922 v923 L924 S925 ⟨⟨rfl, e920⟩, -⟩
          rw [e920] at S925; clear e920
          refine Ac C S925 [(370, .ifCond .eq 55, 3), (373, .aload 17, 2), (375, .iconst 2, 1), (376, .iload 4, 2), (378, .lload_n 0, 1)] 379 #[.val (.long i0), .second, Aa i1, Aa i2, Aa 3, Aa pd, Aa u13, Aa u20, Aa u27, Aa 0, Aa 0, Aa 0, Ab a52, Aa 4, Aa 4, Ab a121, Ab a866, Ab a887] [.long i0, .int 3, .int 2, .ref a887] ?_
          refine Ae C S925 hw 190 191 3 192 (Bv l Z a0 hw a887 2 3 i0 _ _ _ (Cc (Cz t58 t66 t73 t80)) h906 n0 f913 f891 (by decide) (⟨(by decide), (by decide)⟩) rfl (by rw [ht58, ht66, ht73, ht80, own_S4_2 Uu13 Uu20 Uu27, hu27, Bj (a := i0) (i := (2 : Int32)) (k := (3 : Int32)) (by decide)]; exact Bt _ _)) 0 [.ref a887, .int 2, .int 3, .long i0] [] An ?_
          rintro T927 h928 v929 L930 S931 ⟨⟨rfl, e926⟩, -⟩
          rw [e926] at S931; clear e926
          refine Ac C S931 [(382, .ifCond .eq 43, 3), (385, .aload 17, 2), (387, .iconst 3, 1), (388, .iload 4, 2), (390, .lload_n 0, 1)] 391 #[.val (.long i0), .second, Aa i1, Aa i2, Aa 3, Aa pd, Aa u13, Aa u20, Aa u27, Aa 0, Aa 0, Aa 0, Ab a52, Aa 4, Aa 4, Ab a121, Ab a866, Ab a887] [.long i0, .int 3, .int 3, .ref a887] ?_
          refine Ae C S931 hw 190 191 3 192 (Bu l Z a0 hw a887 3 3 i0 h906 n0 f913 (by decide)) 0 [.ref a887, .int 3, .int 3, .long i0] [] An ?_
          rintro T933 h934 v935 L936 S937 ⟨⟨rfl, e932⟩, -⟩
          rw [e932] at S937; clear e932
          refine Ac C S937 [(394, .ifCond .eq 31, 3), (397, .aload 17, 2), (399, .iconst 4, 1), (400, .iload 4, 2), (402, .lload_n 0, 1)] 403 #[.val (.long i0), .second, Aa i1, Aa i2, Aa 3, Aa pd, Aa u13, Aa u20, Aa u27, Aa 0, Aa 0, Aa 0, Ab a52, Aa 4, Aa 4, Ab a121, Ab a866, Ab a887] [.long i0, .int 3, .int 4, .ref a887] ?_
          refine Ae C S937 hw 190 191 3 192 (Bu l Z a0 hw a887 4 3 i0 h906 n0 f913 (by decide)) 0 [.ref a887, .int 4, .int 3, .long i0] [] An ?_
          rintro T939 h940 v941 L942 S943 ⟨⟨rfl, e938⟩, -⟩
          rw [e938] at S943; clear e938
          refine Ac C S943 [(406, .ifCond .eq 19, 3), (409, .aload 17, 2), (411, .iconst 5, 1), (412, .iload 4, 2), (414, .lload_n 0, 1)] 415 #[.val (.long i0), .second, Aa i1, Aa i2, Aa 3, Aa pd, Aa u13, Aa u20, Aa u27, Aa 0, Aa 0, Aa 0, Ab a52, Aa 4, Aa 4, Ab a121, Ab a866, Ab a887] [.long i0, .int 3, .int 5, .ref a887] ?_
          refine Ae C S943 hw 190 191 3 192 (Bu l Z a0 hw a887 5 3 i0 h906 n0 f913 (by decide)) 0 [.ref a887, .int 5, .int 3, .long i0] [] An ?_
          rintro T945 h946 v947 L948 S949 ⟨⟨rfl, e944⟩, -⟩
          rw [e944] at S949; clear e944
          refine Ac C S949 [(418, .ifCond .eq 7, 3), (421, .iconst 1, 1), (422, .goto 4, 3)] 426 #[.val (.long i0), .second, Aa i1, Aa i2, Aa 3, Aa pd, Aa u13, Aa u20, Aa u27, Aa 0, Aa 0, Aa 0, Ab a52, Aa 4, Aa 4, Ab a121, Ab a866, Ab a887] [.int 1] ?_
          have SW950 := rb912 _ _ _ _ [] [] S949 (Keep.refl _ _) all0 all0
          refine Da CW SW950 (by decide +kernel) (by decide) (by decide) (by decide) ?_
          rfl
      · rw [← hz4] at e7
        subst e7
        obtain rfl : w115 = (6 : Int32) := hw115.trans (by decide)
        have f951 : Arv Z h239 a121 k122 .char (8 : Int32) ([(.int (Ad t58)), (.int (Ad t66)), (.int (Ad t73)), (.int (Ad t80)), (.int (Ad t87)), (.int (Ad t94)), (.int 61), (.int 61)]) (.int 0) := by have g := f242; rw [show (Am t58 (0 : Int32) (6 : Int32)) = (Ad t58) from Bp (by decide), show (Am t66 (1 : Int32) (6 : Int32)) = (Ad t66) from Bp (by decide), show (Am t73 (2 : Int32) (6 : Int32)) = (Ad t73) from Bp (by decide), show (Am t80 (3 : Int32) (6 : Int32)) = (Ad t80) from Bp (by decide), show (Am t87 (4 : Int32) (6 : Int32)) = (Ad t87) from Bp (by decide), show (Am t94 (5 : Int32) (6 : Int32)) = (Ad t94) from Bp (by decide), show (Am t101 (6 : Int32) (6 : Int32)) = (61 : Int32) from Bz (by decide), show (Am t108 (7 : Int32) (6 : Int32)) = (61 : Int32) from Bz (by decide)] at g; exact g
        obtain rfl : u41 = 0 := hu41.trans (Cj (by decide))
        obtain rfl : u48 = 0 := hu48.trans (Cj (by decide))
        rcases hln with hln | hln
        · obtain rfl : ln = (8 : Int32) := hln.trans (by decide)
          refine Ae C S238 hw 14 15 3 16 (own_st8 l Z a0 hw G1 G3 U8 I8 TB DE a121 _ _ _ _ _ _ _ _ _ h239 n0 f252 f243 f951 XS ((Bf Xt58).2) (Ai Xt58) ((Bf Xt66).2) (Ai Xt66) ((Bf Xt73).2) (Ai Xt73) ((Bf Xt80).2) (Ai Xt80) ((Bf Xt87).2) (Ai Xt87) ((Bf Xt94).2) (Ai Xt94) (by decide) (by decide) (by decide) (by decide)) 0 [.ref a121, .int 8] [] Df ?_
          rintro T962 h963 v964 L965 S966 ⟨⟨a952, a953, k954, rfl, g955, K956, f957, f958, f959, f960, f961⟩, -⟩
          refine Ac C S966 [(325, .astore 16, 2), (327, .aload 16, 2)] 329 #[.val (.long i0), .second, Aa i1, Aa i2, Aa 4, Aa pd, Aa u13, Aa u20, Aa u27, Aa u34, Aa 0, Aa 0, Ab a52, Aa 6, Aa 8, Ab a121, Ab a952, .unset] [.ref a952] ?_
          have f967 := (f243.keep K956 all0)
          have f968 := (f246.keep K956 nin0)
          have f969 := (f247.keep K956)
          have f970 := (f250.keep K956 nin0)
          have f971 := (f251.keep K956 nin0)
          have f972 : n0 ≤ h963.size := (Nat.le_trans f252 K956.1)
          have o983 : h0.size ≤ a52 := by rw [g54]; exact (Nat.le_refl _)
          have o985 : h0.size ≤ h111.size := (by rw [W112.size]; exact (by rw [W105.size]; exact (by rw [W98.size]; exact (by rw [W91.size]; exact (by rw [W84.size]; exact (by rw [W77.size]; exact (by rw [W70.size]; exact (by rw [W63.size]; exact (Nat.le_trans (Nat.le_refl _) E55.1)))))))))
          have o984 : h0.size ≤ a121 := by rw [g123]; exact o985
          have o987 : h0.size ≤ h239.size := (by rw [W240.size]; exact (by rw [W226.size]; exact (by rw [W212.size]; exact (by rw [W198.size]; exact (by rw [W184.size]; exact (by rw [W170.size]; exact (by rw [W156.size]; exact (by rw [W140.size]; exact (Nat.le_trans o985 E124.1)))))))))
          have o986 : h0.size ≤ a952 := Nat.le_trans o987 g955
          have f988 : a121 < h963.size := (Nat.lt_of_lt_of_le (by rw [W240.size]; exact (by rw [W226.size]; exact (by rw [W212.size]; exact (by rw [W198.size]; exact (by rw [W184.size]; exact (by rw [W170.size]; exact (by rw [W156.size]; exact (by rw [W140.size]; exact f126.lt)))))))) K956.1)
          have f989 : a52 < h963.size := (Nat.lt_of_lt_of_le (by rw [W240.size]; exact (by rw [W226.size]; exact (by rw [W212.size]; exact (by rw [W198.size]; exact (by rw [W184.size]; exact (by rw [W170.size]; exact (by rw [W156.size]; exact (by rw [W140.size]; exact (Nat.lt_of_lt_of_le f143 E124.1))))))))) K956.1)
          have SW990 := rb3 _ _ _ _ [] [a52, a121, a952] S966 ((((((((((((((((((((Keep.refl _ _).ext E55).wr W63 (Or.inr o983)).wr W70 (Or.inr o983)).wr W77 (Or.inr o983)).wr W84 (Or.inr o983)).wr W91 (Or.inr o983)).wr W98 (Or.inr o983)).wr W105 (Or.inr o983)).wr W112 (Or.inr o983)).ext E124).wr W140 (Or.inr o984)).wr W156 (Or.inr o984)).wr W170 (Or.inr o984)).wr W184 (Or.inr o984)).wr W198 (Or.inr o984)).wr W212 (Or.inr o984)).wr W226 (Or.inr o984)).wr W240 (Or.inr o984)).trans K956 all0) all0 (allS ⟨o983, f989⟩ (allS ⟨o984, f988⟩ (allS ⟨o986, f957.lt⟩ all0)))
          refine Br CW SW990 (ow hw 46 rfl) (ow hw 47 rfl) (ow hw 48 rfl) (ow hw 49 rfl) (by decide) (own_wp86 l Z a0 hw hEL wS G1 G3 U8 I8 TB TBk DE a952 _ _ t58 t66 t73 t80 t87 t94 h963 n0 f972 f967 f968 f969 f970 f971 f957 f958 f959 f960 f961 XS Xt58 Xt66 Xt73 Xt80 Xt87 Xt94 (by rw [ht94]; exact own_q2 Uu34)) all0 0 (by decide) (by decide) [(.ref a952)] [] rfl Cb rfl rfl rfl (Ak rfl) (by decide) (by decide) (by decide +kernel) ?_
          rintro T991 h992 v993 SW994 hg995 ⟨a973, k974, rfl, g975, K976, f977⟩
          refine Av CW SW994 ?_
          intro vm996 C S997 rb998
          refine Ac C S997 [(332, .astore 17, 2), (334, .aload 17, 2), (336, .ifnull 11, 3), (339, .aload 17, 2)] 341 #[.val (.long i0), .second, Aa i1, Aa i2, Aa 4, Aa pd, Aa u13, Aa u20, Aa u27, Aa u34, Aa 0, Aa 0, Ab a52, Aa 6, Aa 8, Ab a121, Ab a952, Ab a973] [.ref a973] ?_
          refine Au C S997 f977 (by decide +kernel) ?_
          refine Ac C S997 [(342, .iload 4, 2), (344, .if_icmp .eq 5, 3), (349, .aload 17, 2), (351, .iconst 0, 1), (352, .iload 4, 2), (354, .lload_n 0, 1)] 355 #[.val (.long i0), .second, Aa i1, Aa i2, Aa 4, Aa pd, Aa u13, Aa u20, Aa u27, Aa u34, Aa 0, Aa 0, Ab a52, Aa 6, Aa 8, Ab a121, Ab a952, Ab a973] [.long i0, .int 4, .int 0, .ref a973] ?_
          have f999 : n0 ≤ h992.size := (Nat.le_trans f972 K976.1)
          refine Ae C S997 hw 190 191 3 192 (Bv l Z a0 hw a973 0 4 i0 _ _ _ (Ay (Aq t58 t66 t73 t80)) h992 n0 f999 f977 (by decide) (⟨(by decide), (by decide)⟩) rfl (by rw [ht58, ht66, ht73, ht80, Dw Uu13 Uu20 Uu27, hu13, Bj (a := i0) (i := (0 : Int32)) (k := (4 : Int32)) (by decide)]; exact Bt _ _)) 0 [.ref a973, .int 0, .int 4, .long i0] [] An ?_
          rintro T1001 h1002 v1003 L1004 S1005 ⟨⟨rfl, e1000⟩, -⟩
          rw [e1000] at S1005; clear e1000
          refine Ac C S1005 [(358, .ifCond .eq 67, 3), (361, .aload 17, 2), (363, .iconst 1, 1), (364, .iload 4, 2), (366, .lload_n 0, 1)] 367 #[.val (.long i0), .second, Aa i1, Aa i2, Aa 4, Aa pd, Aa u13, Aa u20, Aa u27, Aa u34, Aa 0, Aa 0, Ab a52, Aa 6, Aa 8, Ab a121, Ab a952, Ab a973] [.long i0, .int 4, .int 1, .ref a973] ?_
          refine Ae C S1005 hw 190 191 3 192 (Bv l Z a0 hw a973 1 4 i0 _ _ _ (Bk (Aq t58 t66 t73 t80)) h992 n0 f999 f977 (by decide) (⟨(by decide), (by decide)⟩) rfl (by rw [ht58, ht66, ht73, ht80, Dx Uu13 Uu20 Uu27, hu20, Bj (a := i0) (i := (1 : Int32)) (k := (4 : Int32)) (by decide)]; exact Bt _ _)) 0 [.ref a973, .int 1, .int 4, .long i0] [] An ?_
          rintro T1007 h1008 v1009 L1010 S1011 ⟨⟨rfl, e1006⟩, -⟩
          rw [e1006] at S1011; clear e1006
          refine Ac C S1011 [(370, .ifCond .eq 55, 3), (373, .aload 17, 2), (375, .iconst 2, 1), (376, .iload 4, 2), (378, .lload_n 0, 1)] 379 #[.val (.long i0), .second, Aa i1, Aa i2, Aa 4, Aa pd, Aa u13, Aa u20, Aa u27, Aa u34, Aa 0, Aa 0, Ab a52, Aa 6, Aa 8, Ab a121, Ab a952, Ab a973] [.long i0, .int 4, .int 2, .ref a973] ?_
          refine Ae C S1011 hw 190 191 3 192 (Bv l Z a0 hw a973 2 4 i0 _ _ _ (Cc (Aq t58 t66 t73 t80)) h992 n0 f999 f977 (by decide) (⟨(by decide), (by decide)⟩) rfl (by rw [ht58, ht66, ht73, ht80, Dy Uu13 Uu20 Uu27, hu27, Bj (a := i0) (i := (2 : Int32)) (k := (4 : Int32)) (by decide)]; exact Bt _ _)) 0 [.ref a973, .int 2, .int 4, .long i0] [] An ?_
          rintro T1013 h1014 v1015 L1016 S1017 ⟨⟨rfl, e1012⟩, -⟩
          rw [e1012] at S1017; clear e1012
          refine Ac C S1017 [(382, .ifCond .eq 43, 3), (385, .aload 17, 2), (387, .iconst 3, 1), (388, .iload 4, 2), (390, .lload_n 0, 1)] 391 #[.val (.long i0), .second, Aa i1, Aa i2, Aa 4, Aa pd, Aa u13, Aa u20, Aa u27, Aa u34, Aa 0, Aa 0, Ab a52, Aa 6, Aa 8, Ab a121, Ab a952, Ab a973] [.long i0, .int 4, .int 3, .ref a973] ?_
          refine Ae C S1017 hw 190 191 3 192 (Bv l Z a0 hw a973 3 4 i0 _ _ _ (Ay (Dg t87 t94)) h992 n0 f999 f977 (by decide) (⟨(by decide), (by decide)⟩) rfl (by rw [ht87, ht94, Ft Uu34 (Dl) (Dl), hu34, Bj (a := i0) (i := (3 : Int32)) (k := (4 : Int32)) (by decide)]; exact Bt _ _)) 0 [.ref a973, .int 3, .int 4, .long i0] [] An ?_
          rintro T1019 h1020 v1021 L1022 S1023 ⟨⟨rfl, e1018⟩, -⟩
          rw [e1018] at S1023; clear e1018
          refine Ac C S1023 [(394, .ifCond .eq 31, 3), (397, .aload 17, 2), (399, .iconst 4, 1), (400, .iload 4, 2), (402, .lload_n 0, 1)] 403 #[.val (.long i0), .second, Aa i1, Aa i2, Aa 4, Aa pd, Aa u13, Aa u20, Aa u27, Aa u34, Aa 0, Aa 0, Ab a52, Aa 6, Aa 8, Ab a121, Ab a952, Ab a973] [.long i0, .int 4, .int 4, .ref a973] ?_
          refine Ae C S1023 hw 190 191 3 192 (Bu l Z a0 hw a973 4 4 i0 h992 n0 f999 (by decide)) 0 [.ref a973, .int 4, .int 4, .long i0] [] An ?_
          rintro T1025 h1026 v1027 L1028 S1029 ⟨⟨rfl, e1024⟩, -⟩
          rw [e1024] at S1029; clear e1024
          refine Ac C S1029 [(406, .ifCond .eq 19, 3), (409, .aload 17, 2), (411, .iconst 5, 1), (412, .iload 4, 2), (414, .lload_n 0, 1)] 415 #[.val (.long i0), .second, Aa i1, Aa i2, Aa 4, Aa pd, Aa u13, Aa u20, Aa u27, Aa u34, Aa 0, Aa 0, Ab a52, Aa 6, Aa 8, Ab a121, Ab a952, Ab a973] [.long i0, .int 4, .int 5, .ref a973] ?_
          refine Ae C S1029 hw 190 191 3 192 (Bu l Z a0 hw a973 5 4 i0 h992 n0 f999 (by decide)) 0 [.ref a973, .int 5, .int 4, .long i0] [] An ?_
          rintro T1031 h1032 v1033 L1034 S1035 ⟨⟨rfl, e1030⟩, -⟩
          rw [e1030] at S1035; clear e1030
          refine Ac C S1035 [(418, .ifCond .eq 7, 3), (421, .iconst 1, 1), (422, .goto 4, 3)] 426 #[.val (.long i0), .second, Aa i1, Aa i2, Aa 4, Aa pd, Aa u13, Aa u20, Aa u27, Aa u34, Aa 0, Aa 0, Ab a52, Aa 6, Aa 8, Ab a121, Ab a952, Ab a973] [.int 1] ?_
          have SW1036 := rb998 _ _ _ _ [] [] S1035 (Keep.refl _ _) all0 all0
          refine Da CW SW1036 (by decide +kernel) (by decide) (by decide) (by decide) ?_
          rfl
        · obtain rfl : ln = (6 : Int32) := hln.trans (by decide)
          refine Ae C S238 hw 14 15 3 16 (own_st6 l Z a0 hw G1 G3 U8 I8 TB DE a121 _ _ _ _ _ _ _ _ _ h239 n0 f252 f243 f951 XS ((Bf Xt58).2) (Ai Xt58) ((Bf Xt66).2) (Ai Xt66) ((Bf Xt73).2) (Ai Xt73) ((Bf Xt80).2) (Ai Xt80) ((Bf Xt87).2) (Ai Xt87) ((Bf Xt94).2) (Ai Xt94)) 0 [.ref a121, .int 6] [] Df ?_
          rintro T1047 h1048 v1049 L1050 S1051 ⟨⟨a1037, a1038, k1039, rfl, g1040, K1041, f1042, f1043, f1044, f1045, f1046⟩, -⟩
          refine Ac C S1051 [(325, .astore 16, 2), (327, .aload 16, 2)] 329 #[.val (.long i0), .second, Aa i1, Aa i2, Aa 4, Aa pd, Aa u13, Aa u20, Aa u27, Aa u34, Aa 0, Aa 0, Ab a52, Aa 6, Aa 6, Ab a121, Ab a1037, .unset] [.ref a1037] ?_
          have f1052 := (f243.keep K1041 all0)
          have f1053 := (f246.keep K1041 nin0)
          have f1054 := (f247.keep K1041)
          have f1055 := (f250.keep K1041 nin0)
          have f1056 := (f251.keep K1041 nin0)
          have f1057 : n0 ≤ h1048.size := (Nat.le_trans f252 K1041.1)
          have o1068 : h0.size ≤ a52 := by rw [g54]; exact (Nat.le_refl _)
          have o1070 : h0.size ≤ h111.size := (by rw [W112.size]; exact (by rw [W105.size]; exact (by rw [W98.size]; exact (by rw [W91.size]; exact (by rw [W84.size]; exact (by rw [W77.size]; exact (by rw [W70.size]; exact (by rw [W63.size]; exact (Nat.le_trans (Nat.le_refl _) E55.1)))))))))
          have o1069 : h0.size ≤ a121 := by rw [g123]; exact o1070
          have o1072 : h0.size ≤ h239.size := (by rw [W240.size]; exact (by rw [W226.size]; exact (by rw [W212.size]; exact (by rw [W198.size]; exact (by rw [W184.size]; exact (by rw [W170.size]; exact (by rw [W156.size]; exact (by rw [W140.size]; exact (Nat.le_trans o1070 E124.1)))))))))
          have o1071 : h0.size ≤ a1037 := Nat.le_trans o1072 g1040
          have f1073 : a121 < h1048.size := (Nat.lt_of_lt_of_le (by rw [W240.size]; exact (by rw [W226.size]; exact (by rw [W212.size]; exact (by rw [W198.size]; exact (by rw [W184.size]; exact (by rw [W170.size]; exact (by rw [W156.size]; exact (by rw [W140.size]; exact f126.lt)))))))) K1041.1)
          have f1074 : a52 < h1048.size := (Nat.lt_of_lt_of_le (by rw [W240.size]; exact (by rw [W226.size]; exact (by rw [W212.size]; exact (by rw [W198.size]; exact (by rw [W184.size]; exact (by rw [W170.size]; exact (by rw [W156.size]; exact (by rw [W140.size]; exact (Nat.lt_of_lt_of_le f143 E124.1))))))))) K1041.1)
          have SW1075 := rb3 _ _ _ _ [] [a52, a121, a1037] S1051 ((((((((((((((((((((Keep.refl _ _).ext E55).wr W63 (Or.inr o1068)).wr W70 (Or.inr o1068)).wr W77 (Or.inr o1068)).wr W84 (Or.inr o1068)).wr W91 (Or.inr o1068)).wr W98 (Or.inr o1068)).wr W105 (Or.inr o1068)).wr W112 (Or.inr o1068)).ext E124).wr W140 (Or.inr o1069)).wr W156 (Or.inr o1069)).wr W170 (Or.inr o1069)).wr W184 (Or.inr o1069)).wr W198 (Or.inr o1069)).wr W212 (Or.inr o1069)).wr W226 (Or.inr o1069)).wr W240 (Or.inr o1069)).trans K1041 all0) all0 (allS ⟨o1068, f1074⟩ (allS ⟨o1069, f1073⟩ (allS ⟨o1071, f1042.lt⟩ all0)))
          refine Br CW SW1075 (ow hw 46 rfl) (ow hw 47 rfl) (ow hw 48 rfl) (ow hw 49 rfl) (by decide) (own_wp66 l Z a0 hw hEL wS G1 G3 U8 I8 TB TBk DE a1037 _ _ t58 t66 t73 t80 t87 t94 h1048 n0 f1057 f1052 f1053 f1054 f1055 f1056 f1042 f1043 f1044 f1045 f1046 XS Xt58 Xt66 Xt73 Xt80 Xt87 Xt94 (by rw [ht94]; exact own_q2 Uu34)) all0 0 (by decide) (by decide) [(.ref a1037)] [] rfl Cb rfl rfl rfl (Ak rfl) (by decide) (by decide) (by decide +kernel) ?_
          rintro T1076 h1077 v1078 SW1079 hg1080 ⟨a1058, k1059, rfl, g1060, K1061, f1062⟩
          refine Av CW SW1079 ?_
          intro vm1081 C S1082 rb1083
          refine Ac C S1082 [(332, .astore 17, 2), (334, .aload 17, 2), (336, .ifnull 11, 3), (339, .aload 17, 2)] 341 #[.val (.long i0), .second, Aa i1, Aa i2, Aa 4, Aa pd, Aa u13, Aa u20, Aa u27, Aa u34, Aa 0, Aa 0, Ab a52, Aa 6, Aa 6, Ab a121, Ab a1037, Ab a1058] [.ref a1058] ?_
          refine Au C S1082 f1062 (by decide +kernel) ?_
          refine Ac C S1082 [(342, .iload 4, 2), (344, .if_icmp .eq 5, 3), (349, .aload 17, 2), (351, .iconst 0, 1), (352, .iload 4, 2), (354, .lload_n 0, 1)] 355 #[.val (.long i0), .second, Aa i1, Aa i2, Aa 4, Aa pd, Aa u13, Aa u20, Aa u27, Aa u34, Aa 0, Aa 0, Ab a52, Aa 6, Aa 6, Ab a121, Ab a1037, Ab a1058] [.long i0, .int 4, .int 0, .ref a1058] ?_
          have f1084 : n0 ≤ h1077.size := (Nat.le_trans f1057 K1061.1)
          refine Ae C S1082 hw 190 191 3 192 (Bv l Z a0 hw a1058 0 4 i0 _ _ _ (Ay (Aq t58 t66 t73 t80)) h1077 n0 f1084 f1062 (by decide) (⟨(by decide), (by decide)⟩) rfl (by rw [ht58, ht66, ht73, ht80, Dw Uu13 Uu20 Uu27, hu13, Bj (a := i0) (i := (0 : Int32)) (k := (4 : Int32)) (by decide)]; exact Bt _ _)) 0 [.ref a1058, .int 0, .int 4, .long i0] [] An ?_
          rintro T1086 h1087 v1088 L1089 S1090 ⟨⟨rfl, e1085⟩, -⟩
          rw [e1085] at S1090; clear e1085
          refine Ac C S1090 [(358, .ifCond .eq 67, 3), (361, .aload 17, 2), (363, .iconst 1, 1), (364, .iload 4, 2), (366, .lload_n 0, 1)] 367 #[.val (.long i0), .second, Aa i1, Aa i2, Aa 4, Aa pd, Aa u13, Aa u20, Aa u27, Aa u34, Aa 0, Aa 0, Ab a52, Aa 6, Aa 6, Ab a121, Ab a1037, Ab a1058] [.long i0, .int 4, .int 1, .ref a1058] ?_
          refine Ae C S1090 hw 190 191 3 192 (Bv l Z a0 hw a1058 1 4 i0 _ _ _ (Bk (Aq t58 t66 t73 t80)) h1077 n0 f1084 f1062 (by decide) (⟨(by decide), (by decide)⟩) rfl (by rw [ht58, ht66, ht73, ht80, Dx Uu13 Uu20 Uu27, hu20, Bj (a := i0) (i := (1 : Int32)) (k := (4 : Int32)) (by decide)]; exact Bt _ _)) 0 [.ref a1058, .int 1, .int 4, .long i0] [] An ?_
          rintro T1092 h1093 v1094 L1095 S1096 ⟨⟨rfl, e1091⟩, -⟩
          rw [e1091] at S1096; clear e1091
          refine Ac C S1096 [(370, .ifCond .eq 55, 3), (373, .aload 17, 2), (375, .iconst 2, 1), (376, .iload 4, 2), (378, .lload_n 0, 1)] 379 #[.val (.long i0), .second, Aa i1, Aa i2, Aa 4, Aa pd, Aa u13, Aa u20, Aa u27, Aa u34, Aa 0, Aa 0, Ab a52, Aa 6, Aa 6, Ab a121, Ab a1037, Ab a1058] [.long i0, .int 4, .int 2, .ref a1058] ?_
          refine Ae C S1096 hw 190 191 3 192 (Bv l Z a0 hw a1058 2 4 i0 _ _ _ (Cc (Aq t58 t66 t73 t80)) h1077 n0 f1084 f1062 (by decide) (⟨(by decide), (by decide)⟩) rfl (by rw [ht58, ht66, ht73, ht80, Dy Uu13 Uu20 Uu27, hu27, Bj (a := i0) (i := (2 : Int32)) (k := (4 : Int32)) (by decide)]; exact Bt _ _)) 0 [.ref a1058, .int 2, .int 4, .long i0] [] An ?_
          rintro T1098 h1099 v1100 L1101 S1102 ⟨⟨rfl, e1097⟩, -⟩
          rw [e1097] at S1102; clear e1097
          refine Ac C S1102 [(382, .ifCond .eq 43, 3), (385, .aload 17, 2), (387, .iconst 3, 1), (388, .iload 4, 2), (390, .lload_n 0, 1)] 391 #[.val (.long i0), .second, Aa i1, Aa i2, Aa 4, Aa pd, Aa u13, Aa u20, Aa u27, Aa u34, Aa 0, Aa 0, Ab a52, Aa 6, Aa 6, Ab a121, Ab a1037, Ab a1058] [.long i0, .int 4, .int 3, .ref a1058] ?_
          refine Ae C S1102 hw 190 191 3 192 (Bv l Z a0 hw a1058 3 4 i0 _ _ _ (Ay (Dg t87 t94)) h1077 n0 f1084 f1062 (by decide) (⟨(by decide), (by decide)⟩) rfl (by rw [ht87, ht94, Ft Uu34 (Dl) (Dl), hu34, Bj (a := i0) (i := (3 : Int32)) (k := (4 : Int32)) (by decide)]; exact Bt _ _)) 0 [.ref a1058, .int 3, .int 4, .long i0] [] An ?_
          rintro T1104 h1105 v1106 L1107 S1108 ⟨⟨rfl, e1103⟩, -⟩
          rw [e1103] at S1108; clear e1103
          refine Ac C S1108 [(394, .ifCond .eq 31, 3), (397, .aload 17, 2), (399, .iconst 4, 1), (400, .iload 4, 2), (402, .lload_n 0, 1)] 403 #[.val (.long i0), .second, Aa i1, Aa i2, Aa 4, Aa pd, Aa u13, Aa u20, Aa u27, Aa u34, Aa 0, Aa 0, Ab a52, Aa 6, Aa 6, Ab a121, Ab a1037, Ab a1058] [.long i0, .int 4, .int 4, .ref a1058] ?_
          refine Ae C S1108 hw 190 191 3 192 (Bu l Z a0 hw a1058 4 4 i0 h1077 n0 f1084 (by decide)) 0 [.ref a1058, .int 4, .int 4, .long i0] [] An ?_
          rintro T1110 h1111 v1112 L1113 S1114 ⟨⟨rfl, e1109⟩, -⟩
          rw [e1109] at S1114; clear e1109
          refine Ac C S1114 [(406, .ifCond .eq 19, 3), (409, .aload 17, 2), (411, .iconst 5, 1), (412, .iload 4, 2), (414, .lload_n 0, 1)] 415 #[.val (.long i0), .second, Aa i1, Aa i2, Aa 4, Aa pd, Aa u13, Aa u20, Aa u27, Aa u34, Aa 0, Aa 0, Ab a52, Aa 6, Aa 6, Ab a121, Ab a1037, Ab a1058] [.long i0, .int 4, .int 5, .ref a1058] ?_
          refine Ae C S1114 hw 190 191 3 192 (Bu l Z a0 hw a1058 5 4 i0 h1077 n0 f1084 (by decide)) 0 [.ref a1058, .int 5, .int 4, .long i0] [] An ?_
          rintro T1116 h1117 v1118 L1119 S1120 ⟨⟨rfl, e1115⟩, -⟩
          rw [e1115] at S1120; clear e1115
          refine Ac C S1120 [(418, .ifCond .eq 7, 3), (421, .iconst 1, 1), (422, .goto 4, 3)] 426 #[.val (.long i0), .second, Aa i1, Aa i2, Aa 4, Aa pd, Aa u13, Aa u20, Aa u27, Aa u34, Aa 0, Aa 0, Ab a52, Aa 6, Aa 6, Ab a121, Ab a1037, Ab a1058] [.int 1] ?_
          have SW1121 := rb1083 _ _ _ _ [] [] S1120 (Keep.refl _ _) all0 all0
          refine Da CW SW1121 (by decide +kernel) (by decide) (by decide) (by decide) ?_
          rfl
      · rw [← hz4] at e7
        subst e7
        obtain rfl : w115 = (7 : Int32) := hw115.trans (by decide)
        have f1122 : Arv Z h239 a121 k122 .char (8 : Int32) ([(.int (Ad t58)), (.int (Ad t66)), (.int (Ad t73)), (.int (Ad t80)), (.int (Ad t87)), (.int (Ad t94)), (.int (Ad t101)), (.int 61)]) (.int 0) := by have g := f242; rw [show (Am t58 (0 : Int32) (7 : Int32)) = (Ad t58) from Bp (by decide), show (Am t66 (1 : Int32) (7 : Int32)) = (Ad t66) from Bp (by decide), show (Am t73 (2 : Int32) (7 : Int32)) = (Ad t73) from Bp (by decide), show (Am t80 (3 : Int32) (7 : Int32)) = (Ad t80) from Bp (by decide), show (Am t87 (4 : Int32) (7 : Int32)) = (Ad t87) from Bp (by decide), show (Am t94 (5 : Int32) (7 : Int32)) = (Ad t94) from Bp (by decide), show (Am t101 (6 : Int32) (7 : Int32)) = (Ad t101) from Bp (by decide), show (Am t108 (7 : Int32) (7 : Int32)) = (61 : Int32) from Bz (by decide)] at g; exact g
        obtain rfl : u48 = 0 := hu48.trans (Cj (by decide))
        rcases hln with hln | hln
        · obtain rfl : ln = (8 : Int32) := hln.trans (by decide)
          refine Ae C S238 hw 14 15 3 16 (own_st8 l Z a0 hw G1 G3 U8 I8 TB DE a121 _ _ _ _ _ _ _ _ _ h239 n0 f252 f243 f1122 XS ((Bf Xt58).2) (Ai Xt58) ((Bf Xt66).2) (Ai Xt66) ((Bf Xt73).2) (Ai Xt73) ((Bf Xt80).2) (Ai Xt80) ((Bf Xt87).2) (Ai Xt87) ((Bf Xt94).2) (Ai Xt94) ((Bf Xt101).2) (Ai Xt101) (by decide) (by decide)) 0 [.ref a121, .int 8] [] Df ?_
          rintro T1133 h1134 v1135 L1136 S1137 ⟨⟨a1123, a1124, k1125, rfl, g1126, K1127, f1128, f1129, f1130, f1131, f1132⟩, -⟩
          refine Ac C S1137 [(325, .astore 16, 2), (327, .aload 16, 2)] 329 #[.val (.long i0), .second, Aa i1, Aa i2, Aa 5, Aa pd, Aa u13, Aa u20, Aa u27, Aa u34, Aa u41, Aa 0, Ab a52, Aa 7, Aa 8, Ab a121, Ab a1123, .unset] [.ref a1123] ?_
          have f1138 := (f243.keep K1127 all0)
          have f1139 := (f246.keep K1127 nin0)
          have f1140 := (f247.keep K1127)
          have f1141 := (f250.keep K1127 nin0)
          have f1142 := (f251.keep K1127 nin0)
          have f1143 : n0 ≤ h1134.size := (Nat.le_trans f252 K1127.1)
          have o1154 : h0.size ≤ a52 := by rw [g54]; exact (Nat.le_refl _)
          have o1156 : h0.size ≤ h111.size := (by rw [W112.size]; exact (by rw [W105.size]; exact (by rw [W98.size]; exact (by rw [W91.size]; exact (by rw [W84.size]; exact (by rw [W77.size]; exact (by rw [W70.size]; exact (by rw [W63.size]; exact (Nat.le_trans (Nat.le_refl _) E55.1)))))))))
          have o1155 : h0.size ≤ a121 := by rw [g123]; exact o1156
          have o1158 : h0.size ≤ h239.size := (by rw [W240.size]; exact (by rw [W226.size]; exact (by rw [W212.size]; exact (by rw [W198.size]; exact (by rw [W184.size]; exact (by rw [W170.size]; exact (by rw [W156.size]; exact (by rw [W140.size]; exact (Nat.le_trans o1156 E124.1)))))))))
          have o1157 : h0.size ≤ a1123 := Nat.le_trans o1158 g1126
          have f1159 : a121 < h1134.size := (Nat.lt_of_lt_of_le (by rw [W240.size]; exact (by rw [W226.size]; exact (by rw [W212.size]; exact (by rw [W198.size]; exact (by rw [W184.size]; exact (by rw [W170.size]; exact (by rw [W156.size]; exact (by rw [W140.size]; exact f126.lt)))))))) K1127.1)
          have f1160 : a52 < h1134.size := (Nat.lt_of_lt_of_le (by rw [W240.size]; exact (by rw [W226.size]; exact (by rw [W212.size]; exact (by rw [W198.size]; exact (by rw [W184.size]; exact (by rw [W170.size]; exact (by rw [W156.size]; exact (by rw [W140.size]; exact (Nat.lt_of_lt_of_le f143 E124.1))))))))) K1127.1)
          have SW1161 := rb3 _ _ _ _ [] [a52, a121, a1123] S1137 ((((((((((((((((((((Keep.refl _ _).ext E55).wr W63 (Or.inr o1154)).wr W70 (Or.inr o1154)).wr W77 (Or.inr o1154)).wr W84 (Or.inr o1154)).wr W91 (Or.inr o1154)).wr W98 (Or.inr o1154)).wr W105 (Or.inr o1154)).wr W112 (Or.inr o1154)).ext E124).wr W140 (Or.inr o1155)).wr W156 (Or.inr o1155)).wr W170 (Or.inr o1155)).wr W184 (Or.inr o1155)).wr W198 (Or.inr o1155)).wr W212 (Or.inr o1155)).wr W226 (Or.inr o1155)).wr W240 (Or.inr o1155)).trans K1127 all0) all0 (allS ⟨o1154, f1160⟩ (allS ⟨o1155, f1159⟩ (allS ⟨o1157, f1128.lt⟩ all0)))
          refine Br CW SW1161 (ow hw 46 rfl) (ow hw 47 rfl) (ow hw 48 rfl) (ow hw 49 rfl) (by decide) (own_wp87 l Z a0 hw hEL wS G1 G3 U8 I8 TB TBk DE a1123 _ _ t58 t66 t73 t80 t87 t94 t101 h1134 n0 f1143 f1138 f1139 f1140 f1141 f1142 f1128 f1129 f1130 f1131 f1132 XS Xt58 Xt66 Xt73 Xt80 Xt87 Xt94 Xt101 (by rw [ht101]; exact own_q3 Uu41)) all0 0 (by decide) (by decide) [(.ref a1123)] [] rfl Cb rfl rfl rfl (Ak rfl) (by decide) (by decide) (by decide +kernel) ?_
          rintro T1162 h1163 v1164 SW1165 hg1166 ⟨a1144, k1145, rfl, g1146, K1147, f1148⟩
          refine Av CW SW1165 ?_
          intro vm1167 C S1168 rb1169
          refine Ac C S1168 [(332, .astore 17, 2), (334, .aload 17, 2), (336, .ifnull 11, 3), (339, .aload 17, 2)] 341 #[.val (.long i0), .second, Aa i1, Aa i2, Aa 5, Aa pd, Aa u13, Aa u20, Aa u27, Aa u34, Aa u41, Aa 0, Ab a52, Aa 7, Aa 8, Ab a121, Ab a1123, Ab a1144] [.ref a1144] ?_
          refine Au C S1168 f1148 (by decide +kernel) ?_
          refine Ac C S1168 [(342, .iload 4, 2), (344, .if_icmp .eq 5, 3), (349, .aload 17, 2), (351, .iconst 0, 1), (352, .iload 4, 2), (354, .lload_n 0, 1)] 355 #[.val (.long i0), .second, Aa i1, Aa i2, Aa 5, Aa pd, Aa u13, Aa u20, Aa u27, Aa u34, Aa u41, Aa 0, Ab a52, Aa 7, Aa 8, Ab a121, Ab a1123, Ab a1144] [.long i0, .int 5, .int 0, .ref a1144] ?_
          have f1170 : n0 ≤ h1163.size := (Nat.le_trans f1143 K1147.1)
          refine Ae C S1168 hw 190 191 3 192 (Bv l Z a0 hw a1144 0 5 i0 _ _ _ (Ay (Aq t58 t66 t73 t80)) h1163 n0 f1170 f1148 (by decide) (⟨(by decide), (by decide)⟩) rfl (by rw [ht58, ht66, ht73, ht80, Dw Uu13 Uu20 Uu27, hu13, Bj (a := i0) (i := (0 : Int32)) (k := (5 : Int32)) (by decide)]; exact Bt _ _)) 0 [.ref a1144, .int 0, .int 5, .long i0] [] An ?_
          rintro T1172 h1173 v1174 L1175 S1176 ⟨⟨rfl, e1171⟩, -⟩
          rw [e1171] at S1176; clear e1171
          refine Ac C S1176 [(358, .ifCond .eq 67, 3), (361, .aload 17, 2), (363, .iconst 1, 1), (364, .iload 4, 2), (366, .lload_n 0, 1)] 367 #[.val (.long i0), .second, Aa i1, Aa i2, Aa 5, Aa pd, Aa u13, Aa u20, Aa u27, Aa u34, Aa u41, Aa 0, Ab a52, Aa 7, Aa 8, Ab a121, Ab a1123, Ab a1144] [.long i0, .int 5, .int 1, .ref a1144] ?_
          refine Ae C S1176 hw 190 191 3 192 (Bv l Z a0 hw a1144 1 5 i0 _ _ _ (Bk (Aq t58 t66 t73 t80)) h1163 n0 f1170 f1148 (by decide) (⟨(by decide), (by decide)⟩) rfl (by rw [ht58, ht66, ht73, ht80, Dx Uu13 Uu20 Uu27, hu20, Bj (a := i0) (i := (1 : Int32)) (k := (5 : Int32)) (by decide)]; exact Bt _ _)) 0 [.ref a1144, .int 1, .int 5, .long i0] [] An ?_
          rintro T1178 h1179 v1180 L1181 S1182 ⟨⟨rfl, e1177⟩, -⟩
          rw [e1177] at S1182; clear e1177
          refine Ac C S1182 [(370, .ifCond .eq 55, 3), (373, .aload 17, 2), (375, .iconst 2, 1), (376, .iload 4, 2), (378, .lload_n 0, 1)] 379 #[.val (.long i0), .second, Aa i1, Aa i2, Aa 5, Aa pd, Aa u13, Aa u20, Aa u27, Aa u34, Aa u41, Aa 0, Ab a52, Aa 7, Aa 8, Ab a121, Ab a1123, Ab a1144] [.long i0, .int 5, .int 2, .ref a1144] ?_
          refine Ae C S1182 hw 190 191 3 192 (Bv l Z a0 hw a1144 2 5 i0 _ _ _ (Cc (Aq t58 t66 t73 t80)) h1163 n0 f1170 f1148 (by decide) (⟨(by decide), (by decide)⟩) rfl (by rw [ht58, ht66, ht73, ht80, Dy Uu13 Uu20 Uu27, hu27, Bj (a := i0) (i := (2 : Int32)) (k := (5 : Int32)) (by decide)]; exact Bt _ _)) 0 [.ref a1144, .int 2, .int 5, .long i0] [] An ?_
          rintro T1184 h1185 v1186 L1187 S1188 ⟨⟨rfl, e1183⟩, -⟩
          rw [e1183] at S1188; clear e1183
          refine Ac C S1188 [(382, .ifCond .eq 43, 3), (385, .aload 17, 2), (387, .iconst 3, 1), (388, .iload 4, 2), (390, .lload_n 0, 1)] 391 #[.val (.long i0), .second, Aa i1, Aa i2, Aa 5, Aa pd, Aa u13, Aa u20, Aa u27, Aa u34, Aa u41, Aa 0, Ab a52, Aa 7, Aa 8, Ab a121, Ab a1123, Ab a1144] [.long i0, .int 5, .int 3, .ref a1144] ?_
          refine Ae C S1188 hw 190 191 3 192 (Bv l Z a0 hw a1144 3 5 i0 _ _ _ (Ay (Ci t87 t94 t101)) h1163 n0 f1170 f1148 (by decide) (⟨(by decide), (by decide)⟩) rfl (by rw [ht87, ht94, ht101, Fq Uu34 Uu41 (Dl), hu34, Bj (a := i0) (i := (3 : Int32)) (k := (5 : Int32)) (by decide)]; exact Bt _ _)) 0 [.ref a1144, .int 3, .int 5, .long i0] [] An ?_
          rintro T1190 h1191 v1192 L1193 S1194 ⟨⟨rfl, e1189⟩, -⟩
          rw [e1189] at S1194; clear e1189
          refine Ac C S1194 [(394, .ifCond .eq 31, 3), (397, .aload 17, 2), (399, .iconst 4, 1), (400, .iload 4, 2), (402, .lload_n 0, 1)] 403 #[.val (.long i0), .second, Aa i1, Aa i2, Aa 5, Aa pd, Aa u13, Aa u20, Aa u27, Aa u34, Aa u41, Aa 0, Ab a52, Aa 7, Aa 8, Ab a121, Ab a1123, Ab a1144] [.long i0, .int 5, .int 4, .ref a1144] ?_
          refine Ae C S1194 hw 190 191 3 192 (Bv l Z a0 hw a1144 4 5 i0 _ _ _ (Bk (Ci t87 t94 t101)) h1163 n0 f1170 f1148 (by decide) (⟨(by decide), (by decide)⟩) rfl (by rw [ht87, ht94, ht101, Fs Uu34 Uu41 (Dl), hu41, Bj (a := i0) (i := (4 : Int32)) (k := (5 : Int32)) (by decide)]; exact Bt _ _)) 0 [.ref a1144, .int 4, .int 5, .long i0] [] An ?_
          rintro T1196 h1197 v1198 L1199 S1200 ⟨⟨rfl, e1195⟩, -⟩
          rw [e1195] at S1200; clear e1195
          refine Ac C S1200 [(406, .ifCond .eq 19, 3), (409, .aload 17, 2), (411, .iconst 5, 1), (412, .iload 4, 2), (414, .lload_n 0, 1)] 415 #[.val (.long i0), .second, Aa i1, Aa i2, Aa 5, Aa pd, Aa u13, Aa u20, Aa u27, Aa u34, Aa u41, Aa 0, Ab a52, Aa 7, Aa 8, Ab a121, Ab a1123, Ab a1144] [.long i0, .int 5, .int 5, .ref a1144] ?_
          refine Ae C S1200 hw 190 191 3 192 (Bu l Z a0 hw a1144 5 5 i0 h1163 n0 f1170 (by decide)) 0 [.ref a1144, .int 5, .int 5, .long i0] [] An ?_
          rintro T1202 h1203 v1204 L1205 S1206 ⟨⟨rfl, e1201⟩, -⟩
          rw [e1201] at S1206; clear e1201
          refine Ac C S1206 [(418, .ifCond .eq 7, 3), (421, .iconst 1, 1), (422, .goto 4, 3)] 426 #[.val (.long i0), .second, Aa i1, Aa i2, Aa 5, Aa pd, Aa u13, Aa u20, Aa u27, Aa u34, Aa u41, Aa 0, Ab a52, Aa 7, Aa 8, Ab a121, Ab a1123, Ab a1144] [.int 1] ?_
          have SW1207 := rb1169 _ _ _ _ [] [] S1206 (Keep.refl _ _) all0 all0
          refine Da CW SW1207 (by decide +kernel) (by decide) (by decide) (by decide) ?_
          rfl
        · obtain rfl : ln = (7 : Int32) := hln.trans (by decide)
          refine Ae C S238 hw 14 15 3 16 (own_st7 l Z a0 hw G1 G3 U8 I8 TB DE a121 _ _ _ _ _ _ _ _ _ h239 n0 f252 f243 f1122 XS ((Bf Xt58).2) (Ai Xt58) ((Bf Xt66).2) (Ai Xt66) ((Bf Xt73).2) (Ai Xt73) ((Bf Xt80).2) (Ai Xt80) ((Bf Xt87).2) (Ai Xt87) ((Bf Xt94).2) (Ai Xt94) ((Bf Xt101).2) (Ai Xt101)) 0 [.ref a121, .int 7] [] Df ?_
          rintro T1218 h1219 v1220 L1221 S1222 ⟨⟨a1208, a1209, k1210, rfl, g1211, K1212, f1213, f1214, f1215, f1216, f1217⟩, -⟩
          refine Ac C S1222 [(325, .astore 16, 2), (327, .aload 16, 2)] 329 #[.val (.long i0), .second, Aa i1, Aa i2, Aa 5, Aa pd, Aa u13, Aa u20, Aa u27, Aa u34, Aa u41, Aa 0, Ab a52, Aa 7, Aa 7, Ab a121, Ab a1208, .unset] [.ref a1208] ?_
          have f1223 := (f243.keep K1212 all0)
          have f1224 := (f246.keep K1212 nin0)
          have f1225 := (f247.keep K1212)
          have f1226 := (f250.keep K1212 nin0)
          have f1227 := (f251.keep K1212 nin0)
          have f1228 : n0 ≤ h1219.size := (Nat.le_trans f252 K1212.1)
          have o1239 : h0.size ≤ a52 := by rw [g54]; exact (Nat.le_refl _)
          have o1241 : h0.size ≤ h111.size := (by rw [W112.size]; exact (by rw [W105.size]; exact (by rw [W98.size]; exact (by rw [W91.size]; exact (by rw [W84.size]; exact (by rw [W77.size]; exact (by rw [W70.size]; exact (by rw [W63.size]; exact (Nat.le_trans (Nat.le_refl _) E55.1)))))))))
          have o1240 : h0.size ≤ a121 := by rw [g123]; exact o1241
          have o1243 : h0.size ≤ h239.size := (by rw [W240.size]; exact (by rw [W226.size]; exact (by rw [W212.size]; exact (by rw [W198.size]; exact (by rw [W184.size]; exact (by rw [W170.size]; exact (by rw [W156.size]; exact (by rw [W140.size]; exact (Nat.le_trans o1241 E124.1)))))))))
          have o1242 : h0.size ≤ a1208 := Nat.le_trans o1243 g1211
          have f1244 : a121 < h1219.size := (Nat.lt_of_lt_of_le (by rw [W240.size]; exact (by rw [W226.size]; exact (by rw [W212.size]; exact (by rw [W198.size]; exact (by rw [W184.size]; exact (by rw [W170.size]; exact (by rw [W156.size]; exact (by rw [W140.size]; exact f126.lt)))))))) K1212.1)
          have f1245 : a52 < h1219.size := (Nat.lt_of_lt_of_le (by rw [W240.size]; exact (by rw [W226.size]; exact (by rw [W212.size]; exact (by rw [W198.size]; exact (by rw [W184.size]; exact (by rw [W170.size]; exact (by rw [W156.size]; exact (by rw [W140.size]; exact (Nat.lt_of_lt_of_le f143 E124.1))))))))) K1212.1)
          have SW1246 := rb3 _ _ _ _ [] [a52, a121, a1208] S1222 ((((((((((((((((((((Keep.refl _ _).ext E55).wr W63 (Or.inr o1239)).wr W70 (Or.inr o1239)).wr W77 (Or.inr o1239)).wr W84 (Or.inr o1239)).wr W91 (Or.inr o1239)).wr W98 (Or.inr o1239)).wr W105 (Or.inr o1239)).wr W112 (Or.inr o1239)).ext E124).wr W140 (Or.inr o1240)).wr W156 (Or.inr o1240)).wr W170 (Or.inr o1240)).wr W184 (Or.inr o1240)).wr W198 (Or.inr o1240)).wr W212 (Or.inr o1240)).wr W226 (Or.inr o1240)).wr W240 (Or.inr o1240)).trans K1212 all0) all0 (allS ⟨o1239, f1245⟩ (allS ⟨o1240, f1244⟩ (allS ⟨o1242, f1213.lt⟩ all0)))
          refine Br CW SW1246 (ow hw 46 rfl) (ow hw 47 rfl) (ow hw 48 rfl) (ow hw 49 rfl) (by decide) (own_wp77 l Z a0 hw hEL wS G1 G3 U8 I8 TB TBk DE a1208 _ _ t58 t66 t73 t80 t87 t94 t101 h1219 n0 f1228 f1223 f1224 f1225 f1226 f1227 f1213 f1214 f1215 f1216 f1217 XS Xt58 Xt66 Xt73 Xt80 Xt87 Xt94 Xt101 (by rw [ht101]; exact own_q3 Uu41)) all0 0 (by decide) (by decide) [(.ref a1208)] [] rfl Cb rfl rfl rfl (Ak rfl) (by decide) (by decide) (by decide +kernel) ?_
          rintro T1247 h1248 v1249 SW1250 hg1251 ⟨a1229, k1230, rfl, g1231, K1232, f1233⟩
          refine Av CW SW1250 ?_
          intro vm1252 C S1253 rb1254
          refine Ac C S1253 [(332, .astore 17, 2), (334, .aload 17, 2), (336, .ifnull 11, 3), (339, .aload 17, 2)] 341 #[.val (.long i0), .second, Aa i1, Aa i2, Aa 5, Aa pd, Aa u13, Aa u20, Aa u27, Aa u34, Aa u41, Aa 0, Ab a52, Aa 7, Aa 7, Ab a121, Ab a1208, Ab a1229] [.ref a1229] ?_
          refine Au C S1253 f1233 (by decide +kernel) ?_
          refine Ac C S1253 [(342, .iload 4, 2), (344, .if_icmp .eq 5, 3), (349, .aload 17, 2), (351, .iconst 0, 1), (352, .iload 4, 2), (354, .lload_n 0, 1)] 355 #[.val (.long i0), .second, Aa i1, Aa i2, Aa 5, Aa pd, Aa u13, Aa u20, Aa u27, Aa u34, Aa u41, Aa 0, Ab a52, Aa 7, Aa 7, Ab a121, Ab a1208, Ab a1229] [.long i0, .int 5, .int 0, .ref a1229] ?_
          have f1255 : n0 ≤ h1248.size := (Nat.le_trans f1228 K1232.1)
          refine Ae C S1253 hw 190 191 3 192 (Bv l Z a0 hw a1229 0 5 i0 _ _ _ (Ay (Aq t58 t66 t73 t80)) h1248 n0 f1255 f1233 (by decide) (⟨(by decide), (by decide)⟩) rfl (by rw [ht58, ht66, ht73, ht80, Dw Uu13 Uu20 Uu27, hu13, Bj (a := i0) (i := (0 : Int32)) (k := (5 : Int32)) (by decide)]; exact Bt _ _)) 0 [.ref a1229, .int 0, .int 5, .long i0] [] An ?_
          rintro T1257 h1258 v1259 L1260 S1261 ⟨⟨rfl, e1256⟩, -⟩
          rw [e1256] at S1261; clear e1256
          refine Ac C S1261 [(358, .ifCond .eq 67, 3), (361, .aload 17, 2), (363, .iconst 1, 1), (364, .iload 4, 2), (366, .lload_n 0, 1)] 367 #[.val (.long i0), .second, Aa i1, Aa i2, Aa 5, Aa pd, Aa u13, Aa u20, Aa u27, Aa u34, Aa u41, Aa 0, Ab a52, Aa 7, Aa 7, Ab a121, Ab a1208, Ab a1229] [.long i0, .int 5, .int 1, .ref a1229] ?_
          refine Ae C S1261 hw 190 191 3 192 (Bv l Z a0 hw a1229 1 5 i0 _ _ _ (Bk (Aq t58 t66 t73 t80)) h1248 n0 f1255 f1233 (by decide) (⟨(by decide), (by decide)⟩) rfl (by rw [ht58, ht66, ht73, ht80, Dx Uu13 Uu20 Uu27, hu20, Bj (a := i0) (i := (1 : Int32)) (k := (5 : Int32)) (by decide)]; exact Bt _ _)) 0 [.ref a1229, .int 1, .int 5, .long i0] [] An ?_
          rintro T1263 h1264 v1265 L1266 S1267 ⟨⟨rfl, e1262⟩, -⟩
          rw [e1262] at S1267; clear e1262
          refine Ac C S1267 [(370, .ifCond .eq 55, 3), (373, .aload 17, 2), (375, .iconst 2, 1), (376, .iload 4, 2), (378, .lload_n 0, 1)] 379 #[.val (.long i0), .second, Aa i1, Aa i2, Aa 5, Aa pd, Aa u13, Aa u20, Aa u27, Aa u34, Aa u41, Aa 0, Ab a52, Aa 7, Aa 7, Ab a121, Ab a1208, Ab a1229] [.long i0, .int 5, .int 2, .ref a1229] ?_
          refine Ae C S1267 hw 190 191 3 192 (Bv l Z a0 hw a1229 2 5 i0 _ _ _ (Cc (Aq t58 t66 t73 t80)) h1248 n0 f1255 f1233 (by decide) (⟨(by decide), (by decide)⟩) rfl (by rw [ht58, ht66, ht73, ht80, Dy Uu13 Uu20 Uu27, hu27, Bj (a := i0) (i := (2 : Int32)) (k := (5 : Int32)) (by decide)]; exact Bt _ _)) 0 [.ref a1229, .int 2, .int 5, .long i0] [] An ?_
          rintro T1269 h1270 v1271 L1272 S1273 ⟨⟨rfl, e1268⟩, -⟩
          rw [e1268] at S1273; clear e1268
          refine Ac C S1273 [(382, .ifCond .eq 43, 3), (385, .aload 17, 2), (387, .iconst 3, 1), (388, .iload 4, 2), (390, .lload_n 0, 1)] 391 #[.val (.long i0), .second, Aa i1, Aa i2, Aa 5, Aa pd, Aa u13, Aa u20, Aa u27, Aa u34, Aa u41, Aa 0, Ab a52, Aa 7, Aa 7, Ab a121, Ab a1208, Ab a1229] [.long i0, .int 5, .int 3, .ref a1229] ?_
          refine Ae C S1273 hw 190 191 3 192 (Bv l Z a0 hw a1229 3 5 i0 _ _ _ (Ay (Ci t87 t94 t101)) h1248 n0 f1255 f1233 (by decide) (⟨(by decide), (by decide)⟩) rfl (by rw [ht87, ht94, ht101, Fq Uu34 Uu41 (Dl), hu34, Bj (a := i0) (i := (3 : Int32)) (k := (5 : Int32)) (by decide)]; exact Bt _ _)) 0 [.ref a1229, .int 3, .int 5, .long i0] [] An ?_
          rintro T1275 h1276 v1277 L1278 S1279 ⟨⟨rfl, e1274⟩, -⟩
          rw [e1274] at S1279; clear e1274
          refine Ac C S1279 [(394, .ifCond .eq 31, 3), (397, .aload 17, 2), (399, .iconst 4, 1), (400, .iload 4, 2), (402, .lload_n 0, 1)] 403 #[.val (.long i0), .second, Aa i1, Aa i2, Aa 5, Aa pd, Aa u13, Aa u20, Aa u27, Aa u34, Aa u41, Aa 0, Ab a52, Aa 7, Aa 7, Ab a121, Ab a1208, Ab a1229] [.long i0, .int 5, .int 4, .ref a1229] ?_
          refine Ae C S1279 hw 190 191 3 192 (Bv l Z a0 hw a1229 4 5 i0 _ _ _ (Bk (Ci t87 t94 t101)) h1248 n0 f1255 f1233 (by decide) (⟨(by decide), (by decide)⟩) rfl (by rw [ht87, ht94, ht101, Fs Uu34 Uu41 (Dl), hu41, Bj (a := i0) (i := (4 : Int32)) (k := (5 : Int32)) (by decide)]; exact Bt _ _)) 0 [.ref a1229, .int 4, .int 5, .long i0] [] An ?_
          rintro T1281 h1282 v1283 L1284 S1285 ⟨⟨rfl, e1280⟩, -⟩
          rw [e1280] at S1285; clear e1280
          refine Ac C S1285 [(406, .ifCond .eq 19, 3), (409, .aload 17, 2), (411, .iconst 5, 1), (412, .iload 4, 2), (414, .lload_n 0, 1)] 415 #[.val (.long i0), .second, Aa i1, Aa i2, Aa 5, Aa pd, Aa u13, Aa u20, Aa u27, Aa u34, Aa u41, Aa 0, Ab a52, Aa 7, Aa 7, Ab a121, Ab a1208, Ab a1229] [.long i0, .int 5, .int 5, .ref a1229] ?_
          refine Ae C S1285 hw 190 191 3 192 (Bu l Z a0 hw a1229 5 5 i0 h1248 n0 f1255 (by decide)) 0 [.ref a1229, .int 5, .int 5, .long i0] [] An ?_
          rintro T1287 h1288 v1289 L1290 S1291 ⟨⟨rfl, e1286⟩, -⟩
          rw [e1286] at S1291; clear e1286
          refine Ac C S1291 [(418, .ifCond .eq 7, 3), (421, .iconst 1, 1), (422, .goto 4, 3)] 426 #[.val (.long i0), .second, Aa i1, Aa i2, Aa 5, Aa pd, Aa u13, Aa u20, Aa u27, Aa u34, Aa u41, Aa 0, Ab a52, Aa 7, Aa 7, Ab a121, Ab a1208, Ab a1229] [.int 1] ?_
          have SW1292 := rb1254 _ _ _ _ [] [] S1291 (Keep.refl _ _) all0 all0
          refine Da CW SW1292 (by decide +kernel) (by decide) (by decide) (by decide) ?_
          rfl
      · rw [← hz4] at e7
        subst e7
        obtain rfl : w115 = (8 : Int32) := hw115.trans (by decide)
        have f1293 : Arv Z h239 a121 k122 .char (8 : Int32) ([(.int (Ad t58)), (.int (Ad t66)), (.int (Ad t73)), (.int (Ad t80)), (.int (Ad t87)), (.int (Ad t94)), (.int (Ad t101)), (.int (Ad t108))]) (.int 0) := by have g := f242; rw [show (Am t58 (0 : Int32) (8 : Int32)) = (Ad t58) from Bp (by decide), show (Am t66 (1 : Int32) (8 : Int32)) = (Ad t66) from Bp (by decide), show (Am t73 (2 : Int32) (8 : Int32)) = (Ad t73) from Bp (by decide), show (Am t80 (3 : Int32) (8 : Int32)) = (Ad t80) from Bp (by decide), show (Am t87 (4 : Int32) (8 : Int32)) = (Ad t87) from Bp (by decide), show (Am t94 (5 : Int32) (8 : Int32)) = (Ad t94) from Bp (by decide), show (Am t101 (6 : Int32) (8 : Int32)) = (Ad t101) from Bp (by decide), show (Am t108 (7 : Int32) (8 : Int32)) = (Ad t108) from Bp (by decide)] at g; exact g
        rcases hln with hln | hln
        · obtain rfl : ln = (8 : Int32) := hln.trans (by decide)
          refine Ae C S238 hw 14 15 3 16 (own_st8 l Z a0 hw G1 G3 U8 I8 TB DE a121 _ _ _ _ _ _ _ _ _ h239 n0 f252 f243 f1293 XS ((Bf Xt58).2) (Ai Xt58) ((Bf Xt66).2) (Ai Xt66) ((Bf Xt73).2) (Ai Xt73) ((Bf Xt80).2) (Ai Xt80) ((Bf Xt87).2) (Ai Xt87) ((Bf Xt94).2) (Ai Xt94) ((Bf Xt101).2) (Ai Xt101) ((Bf Xt108).2) (Ai Xt108)) 0 [.ref a121, .int 8] [] Df ?_
          rintro T1304 h1305 v1306 L1307 S1308 ⟨⟨a1294, a1295, k1296, rfl, g1297, K1298, f1299, f1300, f1301, f1302, f1303⟩, -⟩
          refine Ac C S1308 [(325, .astore 16, 2), (327, .aload 16, 2)] 329 #[.val (.long i0), .second, Aa i1, Aa i2, Aa 6, Aa pd, Aa u13, Aa u20, Aa u27, Aa u34, Aa u41, Aa u48, Ab a52, Aa 8, Aa 8, Ab a121, Ab a1294, .unset] [.ref a1294] ?_
          have f1309 := (f243.keep K1298 all0)
          have f1310 := (f246.keep K1298 nin0)
          have f1311 := (f247.keep K1298)
          have f1312 := (f250.keep K1298 nin0)
          have f1313 := (f251.keep K1298 nin0)
          have f1314 : n0 ≤ h1305.size := (Nat.le_trans f252 K1298.1)
          have o1325 : h0.size ≤ a52 := by rw [g54]; exact (Nat.le_refl _)
          have o1327 : h0.size ≤ h111.size := (by rw [W112.size]; exact (by rw [W105.size]; exact (by rw [W98.size]; exact (by rw [W91.size]; exact (by rw [W84.size]; exact (by rw [W77.size]; exact (by rw [W70.size]; exact (by rw [W63.size]; exact (Nat.le_trans (Nat.le_refl _) E55.1)))))))))
          have o1326 : h0.size ≤ a121 := by rw [g123]; exact o1327
          have o1329 : h0.size ≤ h239.size := (by rw [W240.size]; exact (by rw [W226.size]; exact (by rw [W212.size]; exact (by rw [W198.size]; exact (by rw [W184.size]; exact (by rw [W170.size]; exact (by rw [W156.size]; exact (by rw [W140.size]; exact (Nat.le_trans o1327 E124.1)))))))))
          have o1328 : h0.size ≤ a1294 := Nat.le_trans o1329 g1297
          have f1330 : a121 < h1305.size := (Nat.lt_of_lt_of_le (by rw [W240.size]; exact (by rw [W226.size]; exact (by rw [W212.size]; exact (by rw [W198.size]; exact (by rw [W184.size]; exact (by rw [W170.size]; exact (by rw [W156.size]; exact (by rw [W140.size]; exact f126.lt)))))))) K1298.1)
          have f1331 : a52 < h1305.size := (Nat.lt_of_lt_of_le (by rw [W240.size]; exact (by rw [W226.size]; exact (by rw [W212.size]; exact (by rw [W198.size]; exact (by rw [W184.size]; exact (by rw [W170.size]; exact (by rw [W156.size]; exact (by rw [W140.size]; exact (Nat.lt_of_lt_of_le f143 E124.1))))))))) K1298.1)
          have SW1332 := rb3 _ _ _ _ [] [a52, a121, a1294] S1308 ((((((((((((((((((((Keep.refl _ _).ext E55).wr W63 (Or.inr o1325)).wr W70 (Or.inr o1325)).wr W77 (Or.inr o1325)).wr W84 (Or.inr o1325)).wr W91 (Or.inr o1325)).wr W98 (Or.inr o1325)).wr W105 (Or.inr o1325)).wr W112 (Or.inr o1325)).ext E124).wr W140 (Or.inr o1326)).wr W156 (Or.inr o1326)).wr W170 (Or.inr o1326)).wr W184 (Or.inr o1326)).wr W198 (Or.inr o1326)).wr W212 (Or.inr o1326)).wr W226 (Or.inr o1326)).wr W240 (Or.inr o1326)).trans K1298 all0) all0 (allS ⟨o1325, f1331⟩ (allS ⟨o1326, f1330⟩ (allS ⟨o1328, f1299.lt⟩ all0)))
          refine Br CW SW1332 (ow hw 46 rfl) (ow hw 47 rfl) (ow hw 48 rfl) (ow hw 49 rfl) (by decide) (own_wp88 l Z a0 hw hEL wS G1 G3 U8 I8 TB TBk DE a1294 _ _ t58 t66 t73 t80 t87 t94 t101 t108 h1305 n0 f1314 f1309 f1310 f1311 f1312 f1313 f1299 f1300 f1301 f1302 f1303 XS Xt58 Xt66 Xt73 Xt80 Xt87 Xt94 Xt101 Xt108) all0 0 (by decide) (by decide) [(.ref a1294)] [] rfl Cb rfl rfl rfl (Ak rfl) (by decide) (by decide) (by decide +kernel) ?_
          rintro T1333 h1334 v1335 SW1336 hg1337 ⟨a1315, k1316, rfl, g1317, K1318, f1319⟩
          refine Av CW SW1336 ?_
          intro vm1338 C S1339 rb1340
          refine Ac C S1339 [(332, .astore 17, 2), (334, .aload 17, 2), (336, .ifnull 11, 3), (339, .aload 17, 2)] 341 #[.val (.long i0), .second, Aa i1, Aa i2, Aa 6, Aa pd, Aa u13, Aa u20, Aa u27, Aa u34, Aa u41, Aa u48, Ab a52, Aa 8, Aa 8, Ab a121, Ab a1294, Ab a1315] [.ref a1315] ?_
          refine Au C S1339 f1319 (by decide +kernel) ?_
          refine Ac C S1339 [(342, .iload 4, 2), (344, .if_icmp .eq 5, 3), (349, .aload 17, 2), (351, .iconst 0, 1), (352, .iload 4, 2), (354, .lload_n 0, 1)] 355 #[.val (.long i0), .second, Aa i1, Aa i2, Aa 6, Aa pd, Aa u13, Aa u20, Aa u27, Aa u34, Aa u41, Aa u48, Ab a52, Aa 8, Aa 8, Ab a121, Ab a1294, Ab a1315] [.long i0, .int 6, .int 0, .ref a1315] ?_
          have f1341 : n0 ≤ h1334.size := (Nat.le_trans f1314 K1318.1)
          refine Ae C S1339 hw 190 191 3 192 (Bv l Z a0 hw a1315 0 6 i0 _ _ _ (Ay (Aq t58 t66 t73 t80)) h1334 n0 f1341 f1319 (by decide) (⟨(by decide), (by decide)⟩) rfl (by rw [ht58, ht66, ht73, ht80, Dw Uu13 Uu20 Uu27, hu13, Bj (a := i0) (i := (0 : Int32)) (k := (6 : Int32)) (by decide)]; exact Bt _ _)) 0 [.ref a1315, .int 0, .int 6, .long i0] [] An ?_
          rintro T1343 h1344 v1345 L1346 S1347 ⟨⟨rfl, e1342⟩, -⟩
          rw [e1342] at S1347; clear e1342
          refine Ac C S1347 [(358, .ifCond .eq 67, 3), (361, .aload 17, 2), (363, .iconst 1, 1), (364, .iload 4, 2), (366, .lload_n 0, 1)] 367 #[.val (.long i0), .second, Aa i1, Aa i2, Aa 6, Aa pd, Aa u13, Aa u20, Aa u27, Aa u34, Aa u41, Aa u48, Ab a52, Aa 8, Aa 8, Ab a121, Ab a1294, Ab a1315] [.long i0, .int 6, .int 1, .ref a1315] ?_
          refine Ae C S1347 hw 190 191 3 192 (Bv l Z a0 hw a1315 1 6 i0 _ _ _ (Bk (Aq t58 t66 t73 t80)) h1334 n0 f1341 f1319 (by decide) (⟨(by decide), (by decide)⟩) rfl (by rw [ht58, ht66, ht73, ht80, Dx Uu13 Uu20 Uu27, hu20, Bj (a := i0) (i := (1 : Int32)) (k := (6 : Int32)) (by decide)]; exact Bt _ _)) 0 [.ref a1315, .int 1, .int 6, .long i0] [] An ?_
          rintro T1349 h1350 v1351 L1352 S1353 ⟨⟨rfl, e1348⟩, -⟩
          rw [e1348] at S1353; clear e1348
          refine Ac C S1353 [(370, .ifCond .eq 55, 3), (373, .aload 17, 2), (375, .iconst 2, 1), (376, .iload 4, 2), (378, .lload_n 0, 1)] 379 #[.val (.long i0), .second, Aa i1, Aa i2, Aa 6, Aa pd, Aa u13, Aa u20, Aa u27, Aa u34, Aa u41, Aa u48, Ab a52, Aa 8, Aa 8, Ab a121, Ab a1294, Ab a1315] [.long i0, .int 6, .int 2, .ref a1315] ?_
          refine Ae C S1353 hw 190 191 3 192 (Bv l Z a0 hw a1315 2 6 i0 _ _ _ (Cc (Aq t58 t66 t73 t80)) h1334 n0 f1341 f1319 (by decide) (⟨(by decide), (by decide)⟩) rfl (by rw [ht58, ht66, ht73, ht80, Dy Uu13 Uu20 Uu27, hu27, Bj (a := i0) (i := (2 : Int32)) (k := (6 : Int32)) (by decide)]; exact Bt _ _)) 0 [.ref a1315, .int 2, .int 6, .long i0] [] An ?_
          rintro T1355 h1356 v1357 L1358 S1359 ⟨⟨rfl, e1354⟩, -⟩
          rw [e1354] at S1359; clear e1354
          refine Ac C S1359 [(382, .ifCond .eq 43, 3), (385, .aload 17, 2), (387, .iconst 3, 1), (388, .iload 4, 2), (390, .lload_n 0, 1)] 391 #[.val (.long i0), .second, Aa i1, Aa i2, Aa 6, Aa pd, Aa u13, Aa u20, Aa u27, Aa u34, Aa u41, Aa u48, Ab a52, Aa 8, Aa 8, Ab a121, Ab a1294, Ab a1315] [.long i0, .int 6, .int 3, .ref a1315] ?_
          refine Ae C S1359 hw 190 191 3 192 (Bv l Z a0 hw a1315 3 6 i0 _ _ _ (Ay (Aq t87 t94 t101 t108)) h1334 n0 f1341 f1319 (by decide) (⟨(by decide), (by decide)⟩) rfl (by rw [ht87, ht94, ht101, ht108, Dw Uu34 Uu41 Uu48, hu34, Bj (a := i0) (i := (3 : Int32)) (k := (6 : Int32)) (by decide)]; exact Bt _ _)) 0 [.ref a1315, .int 3, .int 6, .long i0] [] An ?_
          rintro T1361 h1362 v1363 L1364 S1365 ⟨⟨rfl, e1360⟩, -⟩
          rw [e1360] at S1365; clear e1360
          refine Ac C S1365 [(394, .ifCond .eq 31, 3), (397, .aload 17, 2), (399, .iconst 4, 1), (400, .iload 4, 2), (402, .lload_n 0, 1)] 403 #[.val (.long i0), .second, Aa i1, Aa i2, Aa 6, Aa pd, Aa u13, Aa u20, Aa u27, Aa u34, Aa u41, Aa u48, Ab a52, Aa 8, Aa 8, Ab a121, Ab a1294, Ab a1315] [.long i0, .int 6, .int 4, .ref a1315] ?_
          refine Ae C S1365 hw 190 191 3 192 (Bv l Z a0 hw a1315 4 6 i0 _ _ _ (Bk (Aq t87 t94 t101 t108)) h1334 n0 f1341 f1319 (by decide) (⟨(by decide), (by decide)⟩) rfl (by rw [ht87, ht94, ht101, ht108, Dx Uu34 Uu41 Uu48, hu41, Bj (a := i0) (i := (4 : Int32)) (k := (6 : Int32)) (by decide)]; exact Bt _ _)) 0 [.ref a1315, .int 4, .int 6, .long i0] [] An ?_
          rintro T1367 h1368 v1369 L1370 S1371 ⟨⟨rfl, e1366⟩, -⟩
          rw [e1366] at S1371; clear e1366
          refine Ac C S1371 [(406, .ifCond .eq 19, 3), (409, .aload 17, 2), (411, .iconst 5, 1), (412, .iload 4, 2), (414, .lload_n 0, 1)] 415 #[.val (.long i0), .second, Aa i1, Aa i2, Aa 6, Aa pd, Aa u13, Aa u20, Aa u27, Aa u34, Aa u41, Aa u48, Ab a52, Aa 8, Aa 8, Ab a121, Ab a1294, Ab a1315] [.long i0, .int 6, .int 5, .ref a1315] ?_
          refine Ae C S1371 hw 190 191 3 192 (Bv l Z a0 hw a1315 5 6 i0 _ _ _ (Cc (Aq t87 t94 t101 t108)) h1334 n0 f1341 f1319 (by decide) (⟨(by decide), (by decide)⟩) rfl (by rw [ht87, ht94, ht101, ht108, Dy Uu34 Uu41 Uu48, hu48, Bj (a := i0) (i := (5 : Int32)) (k := (6 : Int32)) (by decide)]; exact Bt _ _)) 0 [.ref a1315, .int 5, .int 6, .long i0] [] An ?_
          rintro T1373 h1374 v1375 L1376 S1377 ⟨⟨rfl, e1372⟩, -⟩
          rw [e1372] at S1377; clear e1372
          refine Ac C S1377 [(418, .ifCond .eq 7, 3), (421, .iconst 1, 1), (422, .goto 4, 3)] 426 #[.val (.long i0), .second, Aa i1, Aa i2, Aa 6, Aa pd, Aa u13, Aa u20, Aa u27, Aa u34, Aa u41, Aa u48, Ab a52, Aa 8, Aa 8, Ab a121, Ab a1294, Ab a1315] [.int 1] ?_
          have SW1378 := rb1340 _ _ _ _ [] [] S1377 (Keep.refl _ _) all0 all0
          refine Da CW SW1378 (by decide +kernel) (by decide) (by decide) (by decide) ?_
          rfl
        · obtain rfl : ln = (8 : Int32) := hln.trans (by decide)
          refine Ae C S238 hw 14 15 3 16 (own_st8 l Z a0 hw G1 G3 U8 I8 TB DE a121 _ _ _ _ _ _ _ _ _ h239 n0 f252 f243 f1293 XS ((Bf Xt58).2) (Ai Xt58) ((Bf Xt66).2) (Ai Xt66) ((Bf Xt73).2) (Ai Xt73) ((Bf Xt80).2) (Ai Xt80) ((Bf Xt87).2) (Ai Xt87) ((Bf Xt94).2) (Ai Xt94) ((Bf Xt101).2) (Ai Xt101) ((Bf Xt108).2) (Ai Xt108)) 0 [.ref a121, .int 8] [] Df ?_
          rintro T1389 h1390 v1391 L1392 S1393 ⟨⟨a1379, a1380, k1381, rfl, g1382, K1383, f1384, f1385, f1386, f1387, f1388⟩, -⟩
          refine Ac C S1393 [(325, .astore 16, 2), (327, .aload 16, 2)] 329 #[.val (.long i0), .second, Aa i1, Aa i2, Aa 6, Aa pd, Aa u13, Aa u20, Aa u27, Aa u34, Aa u41, Aa u48, Ab a52, Aa 8, Aa 8, Ab a121, Ab a1379, .unset] [.ref a1379] ?_
          have f1394 := (f243.keep K1383 all0)
          have f1395 := (f246.keep K1383 nin0)
          have f1396 := (f247.keep K1383)
          have f1397 := (f250.keep K1383 nin0)
          have f1398 := (f251.keep K1383 nin0)
          have f1399 : n0 ≤ h1390.size := (Nat.le_trans f252 K1383.1)
          have o1410 : h0.size ≤ a52 := by rw [g54]; exact (Nat.le_refl _)
          have o1412 : h0.size ≤ h111.size := (by rw [W112.size]; exact (by rw [W105.size]; exact (by rw [W98.size]; exact (by rw [W91.size]; exact (by rw [W84.size]; exact (by rw [W77.size]; exact (by rw [W70.size]; exact (by rw [W63.size]; exact (Nat.le_trans (Nat.le_refl _) E55.1)))))))))
          have o1411 : h0.size ≤ a121 := by rw [g123]; exact o1412
          have o1414 : h0.size ≤ h239.size := (by rw [W240.size]; exact (by rw [W226.size]; exact (by rw [W212.size]; exact (by rw [W198.size]; exact (by rw [W184.size]; exact (by rw [W170.size]; exact (by rw [W156.size]; exact (by rw [W140.size]; exact (Nat.le_trans o1412 E124.1)))))))))
          have o1413 : h0.size ≤ a1379 := Nat.le_trans o1414 g1382
          have f1415 : a121 < h1390.size := (Nat.lt_of_lt_of_le (by rw [W240.size]; exact (by rw [W226.size]; exact (by rw [W212.size]; exact (by rw [W198.size]; exact (by rw [W184.size]; exact (by rw [W170.size]; exact (by rw [W156.size]; exact (by rw [W140.size]; exact f126.lt)))))))) K1383.1)
          have f1416 : a52 < h1390.size := (Nat.lt_of_lt_of_le (by rw [W240.size]; exact (by rw [W226.size]; exact (by rw [W212.size]; exact (by rw [W198.size]; exact (by rw [W184.size]; exact (by rw [W170.size]; exact (by rw [W156.size]; exact (by rw [W140.size]; exact (Nat.lt_of_lt_of_le f143 E124.1))))))))) K1383.1)
          have SW1417 := rb3 _ _ _ _ [] [a52, a121, a1379] S1393 ((((((((((((((((((((Keep.refl _ _).ext E55).wr W63 (Or.inr o1410)).wr W70 (Or.inr o1410)).wr W77 (Or.inr o1410)).wr W84 (Or.inr o1410)).wr W91 (Or.inr o1410)).wr W98 (Or.inr o1410)).wr W105 (Or.inr o1410)).wr W112 (Or.inr o1410)).ext E124).wr W140 (Or.inr o1411)).wr W156 (Or.inr o1411)).wr W170 (Or.inr o1411)).wr W184 (Or.inr o1411)).wr W198 (Or.inr o1411)).wr W212 (Or.inr o1411)).wr W226 (Or.inr o1411)).wr W240 (Or.inr o1411)).trans K1383 all0) all0 (allS ⟨o1410, f1416⟩ (allS ⟨o1411, f1415⟩ (allS ⟨o1413, f1384.lt⟩ all0)))
          refine Br CW SW1417 (ow hw 46 rfl) (ow hw 47 rfl) (ow hw 48 rfl) (ow hw 49 rfl) (by decide) (own_wp88 l Z a0 hw hEL wS G1 G3 U8 I8 TB TBk DE a1379 _ _ t58 t66 t73 t80 t87 t94 t101 t108 h1390 n0 f1399 f1394 f1395 f1396 f1397 f1398 f1384 f1385 f1386 f1387 f1388 XS Xt58 Xt66 Xt73 Xt80 Xt87 Xt94 Xt101 Xt108) all0 0 (by decide) (by decide) [(.ref a1379)] [] rfl Cb rfl rfl rfl (Ak rfl) (by decide) (by decide) (by decide +kernel) ?_
          rintro T1418 h1419 v1420 SW1421 hg1422 ⟨a1400, k1401, rfl, g1402, K1403, f1404⟩
          refine Av CW SW1421 ?_
          intro vm1423 C S1424 rb1425
          refine Ac C S1424 [(332, .astore 17, 2), (334, .aload 17, 2), (336, .ifnull 11, 3), (339, .aload 17, 2)] 341 #[.val (.long i0), .second, Aa i1, Aa i2, Aa 6, Aa pd, Aa u13, Aa u20, Aa u27, Aa u34, Aa u41, Aa u48, Ab a52, Aa 8, Aa 8, Ab a121, Ab a1379, Ab a1400] [.ref a1400] ?_
          refine Au C S1424 f1404 (by decide +kernel) ?_
          refine Ac C S1424 [(342, .iload 4, 2), (344, .if_icmp .eq 5, 3), (349, .aload 17, 2), (351, .iconst 0, 1), (352, .iload 4, 2), (354, .lload_n 0, 1)] 355 #[.val (.long i0), .second, Aa i1, Aa i2, Aa 6, Aa pd, Aa u13, Aa u20, Aa u27, Aa u34, Aa u41, Aa u48, Ab a52, Aa 8, Aa 8, Ab a121, Ab a1379, Ab a1400] [.long i0, .int 6, .int 0, .ref a1400] ?_
          have f1426 : n0 ≤ h1419.size := (Nat.le_trans f1399 K1403.1)
          refine Ae C S1424 hw 190 191 3 192 (Bv l Z a0 hw a1400 0 6 i0 _ _ _ (Ay (Aq t58 t66 t73 t80)) h1419 n0 f1426 f1404 (by decide) (⟨(by decide), (by decide)⟩) rfl (by rw [ht58, ht66, ht73, ht80, Dw Uu13 Uu20 Uu27, hu13, Bj (a := i0) (i := (0 : Int32)) (k := (6 : Int32)) (by decide)]; exact Bt _ _)) 0 [.ref a1400, .int 0, .int 6, .long i0] [] An ?_
          rintro T1428 h1429 v1430 L1431 S1432 ⟨⟨rfl, e1427⟩, -⟩
          rw [e1427] at S1432; clear e1427
          refine Ac C S1432 [(358, .ifCond .eq 67, 3), (361, .aload 17, 2), (363, .iconst 1, 1), (364, .iload 4, 2), (366, .lload_n 0, 1)] 367 #[.val (.long i0), .second, Aa i1, Aa i2, Aa 6, Aa pd, Aa u13, Aa u20, Aa u27, Aa u34, Aa u41, Aa u48, Ab a52, Aa 8, Aa 8, Ab a121, Ab a1379, Ab a1400] [.long i0, .int 6, .int 1, .ref a1400] ?_
          refine Ae C S1432 hw 190 191 3 192 (Bv l Z a0 hw a1400 1 6 i0 _ _ _ (Bk (Aq t58 t66 t73 t80)) h1419 n0 f1426 f1404 (by decide) (⟨(by decide), (by decide)⟩) rfl (by rw [ht58, ht66, ht73, ht80, Dx Uu13 Uu20 Uu27, hu20, Bj (a := i0) (i := (1 : Int32)) (k := (6 : Int32)) (by decide)]; exact Bt _ _)) 0 [.ref a1400, .int 1, .int 6, .long i0] [] An ?_
          rintro T1434 h1435 v1436 L1437 S1438 ⟨⟨rfl, e1433⟩, -⟩
          rw [e1433] at S1438; clear e1433
          refine Ac C S1438 [(370, .ifCond .eq 55, 3), (373, .aload 17, 2), (375, .iconst 2, 1), (376, .iload 4, 2), (378, .lload_n 0, 1)] 379 #[.val (.long i0), .second, Aa i1, Aa i2, Aa 6, Aa pd, Aa u13, Aa u20, Aa u27, Aa u34, Aa u41, Aa u48, Ab a52, Aa 8, Aa 8, Ab a121, Ab a1379, Ab a1400] [.long i0, .int 6, .int 2, .ref a1400] ?_
          refine Ae C S1438 hw 190 191 3 192 (Bv l Z a0 hw a1400 2 6 i0 _ _ _ (Cc (Aq t58 t66 t73 t80)) h1419 n0 f1426 f1404 (by decide) (⟨(by decide), (by decide)⟩) rfl (by rw [ht58, ht66, ht73, ht80, Dy Uu13 Uu20 Uu27, hu27, Bj (a := i0) (i := (2 : Int32)) (k := (6 : Int32)) (by decide)]; exact Bt _ _)) 0 [.ref a1400, .int 2, .int 6, .long i0] [] An ?_
          rintro T1440 h1441 v1442 L1443 S1444 ⟨⟨rfl, e1439⟩, -⟩
          rw [e1439] at S1444; clear e1439
          refine Ac C S1444 [(382, .ifCond .eq 43, 3), (385, .aload 17, 2), (387, .iconst 3, 1), (388, .iload 4, 2), (390, .lload_n 0, 1)] 391 #[.val (.long i0), .second, Aa i1, Aa i2, Aa 6, Aa pd, Aa u13, Aa u20, Aa u27, Aa u34, Aa u41, Aa u48, Ab a52, Aa 8, Aa 8, Ab a121, Ab a1379, Ab a1400] [.long i0, .int 6, .int 3, .ref a1400] ?_
          refine Ae C S1444 hw 190 191 3 192 (Bv l Z a0 hw a1400 3 6 i0 _ _ _ (Ay (Aq t87 t94 t101 t108)) h1419 n0 f1426 f1404 (by decide) (⟨(by decide), (by decide)⟩) rfl (by rw [ht87, ht94, ht101, ht108, Dw Uu34 Uu41 Uu48, hu34, Bj (a := i0) (i := (3 : Int32)) (k := (6 : Int32)) (by decide)]; exact Bt _ _)) 0 [.ref a1400, .int 3, .int 6, .long i0] [] An ?_
          rintro T1446 h1447 v1448 L1449 S1450 ⟨⟨rfl, e1445⟩, -⟩
          rw [e1445] at S1450; clear e1445
          refine Ac C S1450 [(394, .ifCond .eq 31, 3), (397, .aload 17, 2), (399, .iconst 4, 1), (400, .iload 4, 2), (402, .lload_n 0, 1)] 403 #[.val (.long i0), .second, Aa i1, Aa i2, Aa 6, Aa pd, Aa u13, Aa u20, Aa u27, Aa u34, Aa u41, Aa u48, Ab a52, Aa 8, Aa 8, Ab a121, Ab a1379, Ab a1400] [.long i0, .int 6, .int 4, .ref a1400] ?_
          refine Ae C S1450 hw 190 191 3 192 (Bv l Z a0 hw a1400 4 6 i0 _ _ _ (Bk (Aq t87 t94 t101 t108)) h1419 n0 f1426 f1404 (by decide) (⟨(by decide), (by decide)⟩) rfl (by rw [ht87, ht94, ht101, ht108, Dx Uu34 Uu41 Uu48, hu41, Bj (a := i0) (i := (4 : Int32)) (k := (6 : Int32)) (by decide)]; exact Bt _ _)) 0 [.ref a1400, .int 4, .int 6, .long i0] [] An ?_
          rintro T1452 h1453 v1454 L1455 S1456 ⟨⟨rfl, e1451⟩, -⟩
          rw [e1451] at S1456; clear e1451
          refine Ac C S1456 [(406, .ifCond .eq 19, 3), (409, .aload 17, 2), (411, .iconst 5, 1), (412, .iload 4, 2), (414, .lload_n 0, 1)] 415 #[.val (.long i0), .second, Aa i1, Aa i2, Aa 6, Aa pd, Aa u13, Aa u20, Aa u27, Aa u34, Aa u41, Aa u48, Ab a52, Aa 8, Aa 8, Ab a121, Ab a1379, Ab a1400] [.long i0, .int 6, .int 5, .ref a1400] ?_
          refine Ae C S1456 hw 190 191 3 192 (Bv l Z a0 hw a1400 5 6 i0 _ _ _ (Cc (Aq t87 t94 t101 t108)) h1419 n0 f1426 f1404 (by decide) (⟨(by decide), (by decide)⟩) rfl (by rw [ht87, ht94, ht101, ht108, Dy Uu34 Uu41 Uu48, hu48, Bj (a := i0) (i := (5 : Int32)) (k := (6 : Int32)) (by decide)]; exact Bt _ _)) 0 [.ref a1400, .int 5, .int 6, .long i0] [] An ?_
          rintro T1458 h1459 v1460 L1461 S1462 ⟨⟨rfl, e1457⟩, -⟩
          rw [e1457] at S1462; clear e1457
          refine Ac C S1462 [(418, .ifCond .eq 7, 3), (421, .iconst 1, 1), (422, .goto 4, 3)] 426 #[.val (.long i0), .second, Aa i1, Aa i2, Aa 6, Aa pd, Aa u13, Aa u20, Aa u27, Aa u34, Aa u41, Aa u48, Ab a52, Aa 8, Aa 8, Ab a121, Ab a1379, Ab a1400] [.int 1] ?_
          have SW1463 := rb1425 _ _ _ _ [] [] S1462 (Keep.refl _ _) all0 all0
          refine Da CW SW1463 (by decide +kernel) (by decide) (by decide) (by decide) ?_
          rfl
    refine Ac C S110 [(190, .istore 13, 2), (192, .iload 5, 2)] 194 #[.val (.long i0), .second, Aa i1, Aa i2, Aa z4, Aa pd, Aa u13, Aa u20, Aa u27, Aa u34, Aa u41, Aa u48, Ab a52, Aa w115, .unset, .unset, .unset, .unset] [.int pd] ?_
    refine Bh C S110 .eq 14 208 (fun (q1464 : pd = (0 : Int32)) => ?_) (fun (q1465 : ¬ pd = (0 : Int32)) => ?_)
    · refine Ac C S110 [(208, .iload 13, 2), (210, .istore 14, 2)] 212 #[.val (.long i0), .second, Aa i1, Aa i2, Aa z4, Aa pd, Aa u13, Aa u20, Aa u27, Aa u34, Aa u41, Aa u48, Ab a52, Aa w115, Aa w115, .unset, .unset, .unset] [] ?_
      exact J212 T109 _ S110 (Or.inr rfl)
    · refine Ac C S110 [(197, .iload 4, 2), (199, .iconst 2, 1), (200, .iadd, 1), (201, .iconst 3, 1)] 202 #[.val (.long i0), .second, Aa i1, Aa i2, Aa z4, Aa pd, Aa u13, Aa u20, Aa u27, Aa u34, Aa u41, Aa u48, Ab a52, Aa w115, .unset, .unset, .unset, .unset] [.int 3, .int (z4 + (2 : Int32))] ?_
      refine Fb C S110 (by decide +kernel) (by decide) ?_
      refine Ac C S110 [(203, .iconst 4, 1), (204, .imul, 1), (205, .goto 5, 3), (210, .istore 14, 2)] 212 #[.val (.long i0), .second, Aa i1, Aa i2, Aa z4, Aa pd, Aa u13, Aa u20, Aa u27, Aa u34, Aa u41, Aa u48, Ab a52, Aa w115, Aa (((z4 + (2 : Int32)) / (3 : Int32)) * (4 : Int32)), .unset, .unset, .unset] [] ?_
      exact J212 T109 _ S110 (Or.inl rfl)
  refine Ac C S2 [(7, .istore 4, 2), (9, .iload_n 3, 1), (10, .iconst 1, 1), (11, .iand, 1)] 12 #[.val (.long i0), .second, Aa i1, Aa i2, Aa z4, .unset, .unset, .unset, .unset, .unset, .unset, .unset, .unset, .unset, .unset, .unset, .unset, .unset] [.int (i2 &&& (1 : Int32))] ?_
  refine Bh C S2 .eq 7 19 (fun (q1466 : (i2 &&& (1 : Int32)) = (0 : Int32)) => ?_) (fun (q1467 : ¬ (i2 &&& (1 : Int32)) = (0 : Int32)) => ?_)
  · refine Ac C S2 [(19, .iconst 0, 1), (20, .istore 5, 2)] 22 #[.val (.long i0), .second, Aa i1, Aa i2, Aa z4, Aa 0, .unset, .unset, .unset, .unset, .unset, .unset, .unset, .unset, .unset, .unset, .unset, .unset] [] ?_
    exact J22 T0 _ S2
  · refine Ac C S2 [(15, .iconst 1, 1), (16, .goto 4, 3), (20, .istore 5, 2)] 22 #[.val (.long i0), .second, Aa i1, Aa i2, Aa z4, Aa 1, .unset, .unset, .unset, .unset, .unset, .unset, .unset, .unset, .unset, .unset, .unset, .unset] [] ?_
    exact J22 T0 _ S2
theorem own_jt : ∀ i < 256, jdkStatics_1[20 + i]? = some (Jvm.Cond.eq (Term.elem (Term.static "java/util/Base64$Decoder" "fromBase64URL" "[I") (Term.int (Int32.ofNat i))) (Term.int (own_TUi.getD i 0))) := by decide +kernel
theorem own_tug : ∀ i < 256, Bs.getD i (.int 0) = .int (own_TUi.getD i 0) := by decide +kernel
theorem own_tuf : ∀ i < 256, fits .int (Bs.getD i (.int 0)) = true := by decide +kernel
theorem own_sAt : ∀ a ∈ Bundle.stringAtoms, a ∈ tables_1 := by decide +kernel
set_option maxRecDepth 65536 in
theorem own_ELok {Z : State} {a0 : Array Value} (hw : ∀ d ∈ tables_1, d.before a0 Z = true) : EW Z a0 Ca := (EW.cons (ow hw 50 rfl) (by decide) (EW.cons (ow hw 198 rfl) (by decide) EW.nil))
theorem comes_1 {Post : Tables → Env → Array Value → State → Outcome → State → Prop} (hpost : ∀ tb e args s v u, (limb_1_1.after args s (.returned v) u = true ∧ limb_1_2.after args s (.returned v) u = true ∧ True) → Jvm.D.FramedW s (.returned v) u (Jvm.fieldLocs frame_1_writes args s ++ Jvm.arrayLocs frame_1_arrays args s ++ Jvm.staticLocs frame_1_statics s) 32 2240 → Post tb e args s (.returned v) u) :
    ArmFor flags0 classFile x code maxLocals ret World_1 tables_1 room_1 Calls_1 rest_1 Pre_1 Post := by
  intro l hfl _ _ p e ha hc hk s m args below hf hA hF happ hP
  obtain ⟨hcalls, hrest, hpre⟩ := hP
  obtain ⟨-, -, -, hnamed, -, -, -, hat⟩ := (Spec.applies_iff hf).mp happ
  obtain ⟨hg, hn⟩ := and_e (Cond.before_iff.mp (show (Jvm.Cond.and given_1 narrow_1).before args s = true from hpre))
  obtain ⟨hcount, hk0⟩ := and_e hg
  obtain ⟨ha0, hk1⟩ := and_e hk0
  obtain ⟨ha1, hk2⟩ := and_e hk1
  obtain ⟨w0, w1, w2, rfl⟩ : ∃ w0 w1 w2 : Value, args = #[w0, w1, w2] := by
    have hs : args.size = 3 := by simpa [Cond.value, given_1] using hcount
    obtain ⟨L⟩ := args
    match L, hs with
    | [w0, w1, w2], _ => exact ⟨w0, w1, w2, rfl⟩
  have hw := fun d (hd : d ∈ tables_1) => atoms_spec (ws := Jvm.Cond.code x code maxLocals ret :: tables_1) hat d (List.mem_cons_of_mem _ hd)
  obtain ⟨i0, ei0⟩ := isL_v ha0
  obtain rfl : w0 = (.long i0) := Option.some.inj ei0
  obtain ⟨i1, ei1⟩ := is_v ha1
  obtain rfl : w1 = (.int i1) := Option.some.inj ei1
  obtain ⟨i2, ei2⟩ := is_v hk2
  obtain rfl : w2 = (.int i2) := Option.some.inj ei2
  obtain ⟨hsets, hown0⟩ := atoms_of _ (rest_1_c_eq ▸ (show rest_1_c.before _ s = true from hrest))
  have nz := not_v (Cond.before_iff.mp (hsets _ (Dc 2)))
  obtain ⟨g1, eg1⟩ := is_v (Cond.before_iff.mp (hsets _ (Dc 1)))
  have O2 : Sta s s.heap "java/lang/String" "COMPACT_STRINGS" "Z" (.int g1) := Sta.start eg1 (Or.inl (hsets _ (Dc 0)))
  obtain ⟨g3, eg3, rg3⟩ := isR_v (Cond.before_iff.mp (hsets _ (Dc 8)))
  have O4 : Sta s s.heap "jdk/internal/util/Preconditions" "SIOOBE_FORMATTER" "Ljava/util/function/BiFunction;" g3 := Sta.start eg3 (Or.inl (hsets _ (Dc 7)))
  have P5 : ¬ (g1 = (0 : Int32)) := gotF (Cond.eq_ints eg1 (Term.int_eval (0))) nz
  obtain ⟨U8, eU8⟩ := exa_v (Cond.before_iff.mp (hsets _ (Dc 14)))
  have OU := Sta.start eU8 (Or.inl (hsets _ (Dc 13)))
  obtain ⟨I8, eI8⟩ := exa_v (Cond.before_iff.mp (hsets _ (Dc 11)))
  have OI := Sta.start eI8 (Or.inl (hsets _ (Dc 10)))
  have hUI : I8 ≠ U8 := own_exne (Exa.start eI8 (Cond.before_iff.mp (hsets _ (Dc 11)))) (Exa.start eU8 (Cond.before_iff.mp (hsets _ (Dc 14)))) (by decide)
  obtain ⟨TB, eTB⟩ := arr_v (Cond.before_iff.mp (hsets _ (Dc 17)))
  obtain ⟨TBk, TK⟩ := own_TA (dv := .int 0) (n := 256) Bs (by decide) eTB (Cond.before_iff.mp (hsets _ (Dc 17))) (own_eqT (Cond.before_iff.mp (hsets _ (Dc 19)))) (fun i hi => by rw [own_tug i hi]; exact own_eqT (Cond.before_iff.mp (hsets _ (List.mem_of_getElem? (own_jt i hi))))) own_tuf
  have OT := Sta.start eTB (Or.inl (hsets _ (Dc 16)))
  obtain ⟨c0, d0⟩ := and_e hn
  obtain ⟨c1, c2⟩ := and_e d0
  obtain ⟨DE, eDE⟩ := exa_v c0
  have OD := Sta.start eDE (Or.inr ⟨(ow hw 48 rfl), (ow hw 133 rfl)⟩)
  have DEx := Exa.start eDE c0
  have DEu := own_fT eDE (own_eqT c1)
  have DEm := own_fT eDE (own_eqT c2)
  have hEL : EW s _ Ca := own_ELok hw
  have wS : ∀ a ∈ Bundle.stringAtoms, a.before _ s = true := fun a ha => hw a (own_sAt a ha)
  have hCH : CHv s Ca s.vm s.heap := CHv.start hEL (fun p hp => hcalls.1 p hp) (hsets _ (Dc 2)) (ow hw 35 rfl) (ow hw 18 rfl)
  obtain ⟨n, o, g1, g2, g3, _, L, rfl, ⟨rfl, N⟩, -, hq⟩ := own_law l s _ hw hEL wS  g1 g3 U8 I8 TB TBk DE i0 i1 i2 s.heap s.heap.size (Nat.le_refl _) (Old.start s) TK DEx DEu DEm ⟨O2, O4, P5, rg3, OU, OI, OT, OD, hUI, TK.lt, DEx.lt⟩ tables_1 p e ha hc hk s m _ below hf ((Spec.applies_iff_loose hf).mp happ).1 ⟨rfl, State.Warmed39.refl s, rfl, hCH, all0⟩ trivial
  refine ⟨n, _, g1, g2, g3, hpost _ _ _ _ _ _ ⟨Cond.after_iff.mpr rfl, Cond.after_iff.mpr (eq_i res_at (Term.int_eval (1)) rfl), trivial⟩ ⟨hq.1, hq.2.1, hq.2.2.1, (hq.2.2.2.sift fun y hy => Or.inr (N y hy)).mono (by decide) (by decide)⟩⟩
theorem main_1_1 : Claimed_1_1 := comes_1 fun _ _ _ _ _ _ h hF => ⟨h.1, hF⟩
theorem main_1_2 : Claimed_1_2 := comes_1 fun _ _ _ _ _ _ h hF => ⟨h.2.1, hF⟩
end Jvm.Pilot.@@N@@
namespace Jvm.Pilot.@@N@@
open Jvm Jvm.ClassFile Sem Op Lib Jvm.Free Jvm.Stand Jvm.Pilot.@@N@@.Jvm.D
/-! MADE BY PROGRAM (witnessworld.py) out of the Statement's table words and the real class files: 30 classes; the members and pool entries that the words name. The judged class is class 1, her method 1. -/
namespace start1
open Jvm.ClassFile
def u (s : String) : CpInfo := .utf8 (stringToUtf16 s)
/-- a pool by its gaps: so many unusable entries, then the entry; so many at the end -/
def gap : Nat → List CpInfo → List CpInfo
  | 0, r => r
  | n + 1, r => .unusable :: gap n r
def poolList (es : List (Nat × CpInfo)) (last : Nat) : List CpInfo := es.foldr (fun e r => gap e.1 (e.2 :: r)) (gap last [])
def pool (es : List (Nat × CpInfo)) (last : Nat) : Array CpInfo := ⟨poolList es last⟩
def fileOf (pool : Array CpInfo) (this : Nat) (attrs : Array Attribute := #[]) (ms : Array MethodInfo := #[]) (fl : Nat := 33) (sup : Nat := 0) (ifs : Array Nat := #[]) (fds : Array FieldInfo := #[]) : ClassFile where
  minorVersion := 0
  majorVersion := 65
  constantPool := pool
  accessFlags := fl
  thisClass := this
  superClass := sup
  interfaces := ifs
  fields := fds
  methods := ms
  attributes := attrs
def plain (name : String) (sup : Option ClassId) : Class where
  name := name
  kind := .ordinary
  loader := none
  accessFlags := 33
  super := sup
  interfaces := #[]
  cf := none
  fields := #[]
  methods := #[]
  instanceTypes := #[]
  staticTypes := #[]
  resolved := #[]
  callSites := []
  init := .initialized
  statics := none
  mirror := none

def pool0 : Array CpInfo := pool [(5, u "<init>"), (0, u "()V"), (1, .class_ 10), (1, u "java/lang/Object"), (85, u "clone"), (0, u "()Ljava/lang/Object;")] 26

def k0c0 : Code := { maxStack := 0, maxLocals := 1, code := object_method_1_code, exceptionTable := #[], attributes := #[] }
def k0m0 : Method := { name := "<init>", desc := "()V", sig := { parameters := [], returnType := none }, accessFlags := 1, code := some k0c0 }
def k0m1 : Method := { name := "clone", desc := "()Ljava/lang/Object;", sig := { parameters := [], returnType := some (.object "java/lang/Object") }, accessFlags := 260, code := none }
/-- java/lang/Object -/
def k0 : Class := { plain "java/lang/Object" none with
  accessFlags := 33
  interfaces := #[]
  cf := some (fileOf pool0 8 #[] #[{ accessFlags := 1, nameIndex := 5, descriptorIndex := 6, attributes := #[] }, { accessFlags := 260, nameIndex := 96, descriptorIndex := 97, attributes := #[] }] 33 0 #[] #[])
  fields := #[]
  methods := #[k0m0, k0m1]
  instanceTypes := #[]
  staticTypes := #[]
  resolved := Array.replicate 124 none
  statics := none }

def pool1 : Array CpInfo := pool [(2, .class_ 4), (1, u "java/lang/Object"), (0, u "<init>"), (0, u "()V"), (0, .integer 2147483647), (0, .methodref 9 10), (0, .class_ 11), (0, .nameAndType 12 13), (0, u "com/example/torrey/torrey/Base64UrlDecodeWithOptionalPaddingPinLaw"), (0, u "ub"), (0, u "(JII)I"), (0, .methodref 9 15), (0, .nameAndType 16 17), (0, u "ch"), (0, u "([III)C"), (0, .methodref 9 19), (0, .nameAndType 20 21), (0, u "str"), (0, u "([CI)Ljava/lang/String;"), (0, .methodref 23 24), (0, .class_ 25), (0, .nameAndType 26 27), (0, u "com/example/torrey/torrey/Base64Url"), (0, u "decodeWithOptionalPadding"), (0, u "(Ljava/lang/String;)[B"), (0, .methodref 9 29), (0, .nameAndType 30 31), (0, u "same"), (0, u "([BIIJ)Z"), (0, .long 255), (1, .methodref 9 35), (0, .nameAndType 36 37), (0, u "alpha"), (0, u "(I)C"), (0, .class_ 39), (0, u "java/lang/String"), (0, .methodref 38 41), (0, .nameAndType 5 42), (0, u "([C)V"), (2, u "law"), (0, u "(JII)Z")] 9

def k1m0 : Method := { name := "<init>", desc := "()V", sig := { parameters := [], returnType := none }, accessFlags := 2, code := none }
def k1c1 : Code := { maxStack := 5, maxLocals := 18, code := code, exceptionTable := #[], attributes := #[] }
def k1m1 : Method := { name := "law", desc := "(JII)Z", sig := { parameters := [.long, .int, .int], returnType := some .boolean }, accessFlags := 9, code := some k1c1 }
def k1c2 : Code := { maxStack := 4, maxLocals := 4, code := method_3_code, exceptionTable := #[], attributes := #[] }
def k1m2 : Method := { name := "ub", desc := "(JII)I", sig := { parameters := [.long, .int, .int], returnType := some .int }, accessFlags := 10, code := some k1c2 }
def k1c3 : Code := { maxStack := 3, maxLocals := 1, code := method_4_code, exceptionTable := #[], attributes := #[] }
def k1m3 : Method := { name := "alpha", desc := "(I)C", sig := { parameters := [.int], returnType := some .char }, accessFlags := 10, code := some k1c3 }
def k1c4 : Code := { maxStack := 2, maxLocals := 3, code := method_5_code, exceptionTable := #[], attributes := #[] }
def k1m4 : Method := { name := "ch", desc := "([III)C", sig := { parameters := [(.array .int), .int, .int], returnType := some .char }, accessFlags := 10, code := some k1c4 }
def k1c5 : Code := { maxStack := 5, maxLocals := 5, code := method_6_code, exceptionTable := #[], attributes := #[] }
def k1m5 : Method := { name := "same", desc := "([BIIJ)Z", sig := { parameters := [(.array .byte), .int, .int, .long], returnType := some .boolean }, accessFlags := 10, code := some k1c5 }
def k1c6 : Code := { maxStack := 7, maxLocals := 2, code := method_7_code, exceptionTable := #[], attributes := #[] }
def k1m6 : Method := { name := "str", desc := "([CI)Ljava/lang/String;", sig := { parameters := [(.array .char), .int], returnType := some (.object "java/lang/String") }, accessFlags := 10, code := some k1c6 }
/-- com/example/torrey/torrey/Base64UrlDecodeWithOptionalPaddingPinLaw -/
def k1 : Class := { plain "com/example/torrey/torrey/Base64UrlDecodeWithOptionalPaddingPinLaw" (some 0) with
  accessFlags := 49
  interfaces := #[]
  cf := some (fileOf pool1 9 #[] #[{ accessFlags := 2, nameIndex := 5, descriptorIndex := 6, attributes := #[] }, { accessFlags := 9, nameIndex := 45, descriptorIndex := 46, attributes := #[] }, { accessFlags := 10, nameIndex := 12, descriptorIndex := 13, attributes := #[] }, { accessFlags := 10, nameIndex := 36, descriptorIndex := 37, attributes := #[] }, { accessFlags := 10, nameIndex := 16, descriptorIndex := 17, attributes := #[] }, { accessFlags := 10, nameIndex := 30, descriptorIndex := 31, attributes := #[] }, { accessFlags := 10, nameIndex := 20, descriptorIndex := 21, attributes := #[] }] 49 2 #[] #[])
  fields := #[]
  methods := #[k1m0, k1m1, k1m2, k1m3, k1m4, k1m5, k1m6]
  instanceTypes := #[]
  staticTypes := #[]
  resolved := Array.replicate 56 none
  statics := none }

def pool2 : Array CpInfo := pool [(1, .class_ 2), (0, u "java/io/Serializable"), (0, .class_ 4), (0, u "java/lang/Object")] 2

/-- java/io/Serializable -/
def k2 : Class := { plain "java/io/Serializable" (some 0) with
  accessFlags := 1537
  interfaces := #[]
  cf := some (fileOf pool2 1 #[] #[] 1537 3 #[] #[])
  fields := #[]
  methods := #[]
  instanceTypes := #[]
  staticTypes := #[]
  resolved := Array.replicate 7 none
  statics := none }

def pool3 : Array CpInfo := pool [(1, .class_ 2), (0, u "java/lang/Comparable"), (0, .class_ 4), (0, u "java/lang/Object")] 7

/-- java/lang/Comparable -/
def k3 : Class := { plain "java/lang/Comparable" (some 0) with
  accessFlags := 1537
  interfaces := #[]
  cf := some (fileOf pool3 1 #[] #[] 1537 3 #[] #[])
  fields := #[]
  methods := #[]
  instanceTypes := #[]
  staticTypes := #[]
  resolved := Array.replicate 12 none
  statics := none }

def pool4 : Array CpInfo := pool [(2, .class_ 4), (1, u "java/lang/CharSequence"), (42, .class_ 48), (0, u "java/lang/CharSequence$1CodePointIterator"), (10, .class_ 60), (0, u "java/lang/CharSequence$1CharIterator"), (5, .class_ 67), (0, u "java/lang/Object")] 63

/-- java/lang/CharSequence -/
def k4 : Class := { plain "java/lang/CharSequence" (some 0) with
  accessFlags := 1537
  interfaces := #[]
  cf := some (fileOf pool4 2 #[.nestMembers #[47, 59]] #[] 1537 66 #[] #[])
  fields := #[]
  methods := #[]
  instanceTypes := #[]
  staticTypes := #[]
  resolved := Array.replicate 131 none
  statics := none }

def pool5 : Array CpInfo := pool [(1, .class_ 2), (0, u "java/lang/constant/Constable"), (0, .class_ 4), (0, u "java/lang/Object")] 6

/-- java/lang/constant/Constable -/
def k5 : Class := { plain "java/lang/constant/Constable" (some 0) with
  accessFlags := 1537
  interfaces := #[]
  cf := some (fileOf pool5 1 #[] #[] 1537 3 #[] #[])
  fields := #[]
  methods := #[]
  instanceTypes := #[]
  staticTypes := #[]
  resolved := Array.replicate 11 none
  statics := none }

def pool6 : Array CpInfo := pool [(1, .class_ 2), (0, u "java/lang/constant/ConstantDesc"), (0, .class_ 4), (0, u "java/lang/Object")] 32

/-- java/lang/constant/ConstantDesc -/
def k6 : Class := { plain "java/lang/constant/ConstantDesc" (some 0) with
  accessFlags := 1537
  interfaces := #[]
  cf := some (fileOf pool6 1 #[] #[] 1537 3 #[] #[])
  fields := #[]
  methods := #[]
  instanceTypes := #[]
  staticTypes := #[]
  resolved := Array.replicate 37 none
  statics := none }

def pool7 : Array CpInfo := pool [(1, .methodref 2 3), (0, .class_ 4), (0, .nameAndType 5 6), (0, u "java/lang/Object"), (0, u "<init>"), (0, u "()V"), (0, .string 8), (0, u ""), (0, .fieldref 10 11), (0, .class_ 12), (0, .nameAndType 13 14), (0, u "java/lang/String"), (0, u "value"), (0, u "[B"), (0, .fieldref 10 16), (0, .nameAndType 17 18), (0, u "coder"), (0, u "B"), (2, u "hash"), (0, u "I"), (2, u "hashIsZero"), (0, u "Z"), (0, .methodref 10 28), (0, .nameAndType 5 29), (0, u "([CIILjava/lang/Void;)V"), (8, .fieldref 10 39), (0, .nameAndType 40 26), (0, u "COMPACT_STRINGS"), (1, .class_ 44), (1, u "java/lang/StringUTF16"), (0, u "compress"), (1, .methodref 42 48), (0, .nameAndType 49 50), (0, u "coderFromArrayLen"), (0, u "([BI)B"), (35, .fieldref 87 88), (0, .class_ 89), (0, .nameAndType 90 91), (0, u "sun/nio/cs/UTF_8"), (0, u "INSTANCE"), (0, u "Lsun/nio/cs/UTF_8;"), (15, .class_ 109), (1, u "java/lang/StringLatin1"), (6, .fieldref 117 118), (0, .class_ 119), (0, .nameAndType 90 120), (0, u "sun/nio/cs/ISO_8859_1"), (0, u "Lsun/nio/cs/ISO_8859_1;"), (21, u "()Z"), (34, .methodref 42 178), (0, .nameAndType 45 179), (0, u "([CII)[B"), (31, u "([BB)V"), (43, u "(B[BZ)[B"), (0, .methodref 10 257), (0, .nameAndType 258 259), (0, u "encode8859_1"), (0, u "(B[B)[B"), (19, .methodref 280 281), (0, .class_ 14), (0, .nameAndType 282 283), (0, u "clone"), (0, u "()Ljava/lang/Object;"), (33, u "encode"), (16, u "()I"), (0, .methodref 10 336), (0, .nameAndType 17 337), (0, u "()B"), (13, .methodref 10 352), (0, .nameAndType 258 255), (10, u "([BI)C"), (27, u "(II)V"), (35, u "(I)C"), (64, .methodref 10 493), (0, .nameAndType 494 142), (0, u "isLatin1"), (0, .methodref 107 496), (0, .nameAndType 497 363), (0, u "charAt"), (3, u "checkIndex"), (3, .methodref 10 506), (0, .nameAndType 507 334), (0, u "length"), (5, u "checkFromToIndex"), (7, .methodref 10 522), (0, .nameAndType 523 524), (0, u "checkBoundsBeginEnd"), (0, u "(III)V"), (7, u "getBytes"), (2, .methodref 10 536), (0, .nameAndType 317 537), (0, u "(Ljava/nio/charset/Charset;B[B)[B"), (37, .class_ 576), (0, u "java/lang/CharSequence"), (22, u "CASE_INSENSITIVE_ORDER"), (0, u "Ljava/util/Comparator;"), (82, u "substring"), (0, u "(II)Ljava/lang/String;"), (0, .methodref 107 686), (0, .nameAndType 687 688), (0, u "newString"), (0, u "([BII)Ljava/lang/String;"), (321, u "([C)V"), (42, .fieldref 1054 1055), (0, .class_ 1056), (0, .nameAndType 1057 1058), (0, u "jdk/internal/util/Preconditions"), (0, u "SIOOBE_FORMATTER"), (0, u "Ljava/util/function/BiFunction;"), (0, .methodref 1054 1060), (0, .nameAndType 501 1061), (0, u "(IILjava/util/function/BiFunction;)I"), (0, .methodref 1054 1063), (0, .nameAndType 513 1064), (0, u "(IIILjava/util/function/BiFunction;)I"), (36, u "serialPersistentFields"), (0, u "[Ljava/io/ObjectStreamField;"), (0, .class_ 1104), (0, u "java/lang/String$CaseInsensitiveComparator"), (1, .class_ 1107), (0, u "java/io/Serializable"), (0, .class_ 1109), (0, u "java/lang/Comparable"), (0, .class_ 1111), (0, u "java/lang/constant/Constable"), (0, .class_ 1113), (0, u "java/lang/constant/ConstantDesc"), (2, u "serialVersionUID"), (0, u "J"), (3, u "REPL"), (0, u "C"), (2, u "LATIN1"), (1, u "UTF16"), (117, u "(Ljava/nio/charset/Charset;)[B")] 205

def k7m0 : Method := { name := "<init>", desc := "()V", sig := { parameters := [], returnType := none }, accessFlags := 1, code := none }
def k7c1 : Code := { maxStack := 5, maxLocals := 2, code := jdk_42_method_3_code, exceptionTable := #[], attributes := #[] }
def k7m1 : Method := { name := "<init>", desc := "([C)V", sig := { parameters := [(.array .char)], returnType := none }, accessFlags := 1, code := some k7c1 }
def k7c2 : Code := { maxStack := 4, maxLocals := 3, code := jdk_42_method_18_code, exceptionTable := #[], attributes := #[] }
def k7m2 : Method := { name := "encode", desc := "(Ljava/nio/charset/Charset;B[B)[B", sig := { parameters := [(.object "java/nio/charset/Charset"), .byte, (.array .byte)], returnType := some (.array .byte) }, accessFlags := 10, code := some k7c2 }
def k7c3 : Code := { maxStack := 3, maxLocals := 2, code := jdk_42_method_26_code, exceptionTable := #[], attributes := #[] }
def k7m3 : Method := { name := "encode8859_1", desc := "(B[B)[B", sig := { parameters := [.byte, (.array .byte)], returnType := some (.array .byte) }, accessFlags := 10, code := some k7c3 }
def k7c4 : Code := { maxStack := 5, maxLocals := 10, code := jdk_42_method_27_code, exceptionTable := #[], attributes := #[] }
def k7m4 : Method := { name := "encode8859_1", desc := "(B[BZ)[B", sig := { parameters := [.byte, (.array .byte), .boolean], returnType := some (.array .byte) }, accessFlags := 10, code := some k7c4 }
def k7c5 : Code := { maxStack := 2, maxLocals := 1, code := jdk_42_method_54_code, exceptionTable := #[], attributes := #[] }
def k7m5 : Method := { name := "length", desc := "()I", sig := { parameters := [], returnType := some .int }, accessFlags := 1, code := some k7c5 }
def k7c6 : Code := { maxStack := 2, maxLocals := 2, code := jdk_42_method_56_code, exceptionTable := #[], attributes := #[] }
def k7m6 : Method := { name := "charAt", desc := "(I)C", sig := { parameters := [.int], returnType := some .char }, accessFlags := 1, code := some k7c6 }
def k7c7 : Code := { maxStack := 3, maxLocals := 2, code := jdk_42_method_64_code, exceptionTable := #[], attributes := #[] }
def k7m7 : Method := { name := "getBytes", desc := "(Ljava/nio/charset/Charset;)[B", sig := { parameters := [(.object "java/nio/charset/Charset")], returnType := some (.array .byte) }, accessFlags := 1, code := some k7c7 }
def k7c8 : Code := { maxStack := 3, maxLocals := 5, code := jdk_42_method_92_code, exceptionTable := #[], attributes := #[] }
def k7m8 : Method := { name := "substring", desc := "(II)Ljava/lang/String;", sig := { parameters := [.int, .int], returnType := some (.object "java/lang/String") }, accessFlags := 1, code := some k7c8 }
def k7c9 : Code := { maxStack := 4, maxLocals := 6, code := jdk_42_method_149_code, exceptionTable := #[], attributes := #[] }
def k7m9 : Method := { name := "<init>", desc := "([CIILjava/lang/Void;)V", sig := { parameters := [(.array .char), .int, .int, (.object "java/lang/Void")], returnType := none }, accessFlags := 2, code := some k7c9 }
def k7c10 : Code := { maxStack := 2, maxLocals := 3, code := jdk_42_method_151_code, exceptionTable := #[], attributes := #[] }
def k7m10 : Method := { name := "<init>", desc := "([BB)V", sig := { parameters := [(.array .byte), .byte], returnType := none }, accessFlags := 0, code := some k7c10 }
def k7c11 : Code := { maxStack := 1, maxLocals := 1, code := jdk_42_method_152_code, exceptionTable := #[], attributes := #[] }
def k7m11 : Method := { name := "coder", desc := "()B", sig := { parameters := [], returnType := some .byte }, accessFlags := 0, code := some k7c11 }
def k7c12 : Code := { maxStack := 1, maxLocals := 1, code := jdk_42_method_154_code, exceptionTable := #[], attributes := #[] }
def k7m12 : Method := { name := "isLatin1", desc := "()Z", sig := { parameters := [], returnType := some .boolean }, accessFlags := 0, code := some k7c12 }
def k7c13 : Code := { maxStack := 3, maxLocals := 2, code := jdk_42_method_155_code, exceptionTable := #[], attributes := #[] }
def k7m13 : Method := { name := "checkIndex", desc := "(II)V", sig := { parameters := [.int, .int], returnType := none }, accessFlags := 8, code := some k7c13 }
def k7c14 : Code := { maxStack := 4, maxLocals := 3, code := jdk_42_method_158_code, exceptionTable := #[], attributes := #[] }
def k7m14 : Method := { name := "checkBoundsBeginEnd", desc := "(III)V", sig := { parameters := [.int, .int, .int], returnType := none }, accessFlags := 8, code := some k7c14 }
/-- java/lang/String -/
def k7 : Class := { plain "java/lang/String" (some 0) with
  accessFlags := 49
  interfaces := #[2, 3, 4, 5, 6]
  cf := some (fileOf pool7 10 #[.nestMembers #[1103]] #[{ accessFlags := 1, nameIndex := 5, descriptorIndex := 6, attributes := #[] }, { accessFlags := 1, nameIndex := 5, descriptorIndex := 1010, attributes := #[] }, { accessFlags := 10, nameIndex := 317, descriptorIndex := 537, attributes := #[] }, { accessFlags := 10, nameIndex := 258, descriptorIndex := 259, attributes := #[] }, { accessFlags := 10, nameIndex := 258, descriptorIndex := 255, attributes := #[] }, { accessFlags := 1, nameIndex := 507, descriptorIndex := 334, attributes := #[] }, { accessFlags := 1, nameIndex := 497, descriptorIndex := 427, attributes := #[] }, { accessFlags := 1, nameIndex := 532, descriptorIndex := 1245, attributes := #[] }, { accessFlags := 1, nameIndex := 683, descriptorIndex := 684, attributes := #[] }, { accessFlags := 2, nameIndex := 5, descriptorIndex := 29, attributes := #[] }, { accessFlags := 0, nameIndex := 5, descriptorIndex := 211, attributes := #[] }, { accessFlags := 0, nameIndex := 17, descriptorIndex := 337, attributes := #[] }, { accessFlags := 0, nameIndex := 494, descriptorIndex := 142, attributes := #[] }, { accessFlags := 8, nameIndex := 501, descriptorIndex := 391, attributes := #[] }, { accessFlags := 8, nameIndex := 523, descriptorIndex := 524, attributes := #[] }] 49 2 #[1106, 1108, 575, 1110, 1112] #[{ accessFlags := 18, nameIndex := 13, descriptorIndex := 14, attributes := #[] }, { accessFlags := 18, nameIndex := 17, descriptorIndex := 18, attributes := #[] }, { accessFlags := 2, nameIndex := 21, descriptorIndex := 22, attributes := #[] }, { accessFlags := 2, nameIndex := 25, descriptorIndex := 26, attributes := #[] }, { accessFlags := 26, nameIndex := 1116, descriptorIndex := 1117, attributes := #[] }, { accessFlags := 24, nameIndex := 40, descriptorIndex := 26, attributes := #[] }, { accessFlags := 26, nameIndex := 1101, descriptorIndex := 1102, attributes := #[] }, { accessFlags := 26, nameIndex := 1121, descriptorIndex := 1122, attributes := #[] }, { accessFlags := 25, nameIndex := 599, descriptorIndex := 600, attributes := #[] }, { accessFlags := 24, nameIndex := 1125, descriptorIndex := 18, attributes := #[] }, { accessFlags := 24, nameIndex := 1127, descriptorIndex := 18, attributes := #[] }])
  fields := #[{ name := "value", type := (.array .byte), accessFlags := 18, slot := 0, constantValue := 0 }, { name := "coder", type := .byte, accessFlags := 18, slot := 1, constantValue := 0 }, { name := "hash", type := .int, accessFlags := 2, slot := 2, constantValue := 0 }, { name := "hashIsZero", type := .boolean, accessFlags := 2, slot := 3, constantValue := 0 }, { name := "serialVersionUID", type := .long, accessFlags := 26, slot := 0, constantValue := 0 }, { name := "COMPACT_STRINGS", type := .boolean, accessFlags := 24, slot := 1, constantValue := 0 }, { name := "serialPersistentFields", type := (.array (.object "java/io/ObjectStreamField")), accessFlags := 26, slot := 2, constantValue := 0 }, { name := "REPL", type := .char, accessFlags := 26, slot := 3, constantValue := 0 }, { name := "CASE_INSENSITIVE_ORDER", type := (.object "java/util/Comparator"), accessFlags := 25, slot := 4, constantValue := 0 }, { name := "LATIN1", type := .byte, accessFlags := 24, slot := 5, constantValue := 0 }, { name := "UTF16", type := .byte, accessFlags := 24, slot := 6, constantValue := 0 }]
  methods := #[k7m0, k7m1, k7m2, k7m3, k7m4, k7m5, k7m6, k7m7, k7m8, k7m9, k7m10, k7m11, k7m12, k7m13, k7m14]
  instanceTypes := #[(.array .byte), .byte, .int, .boolean]
  staticTypes := #[.long, .boolean, (.array (.object "java/io/ObjectStreamField")), .char, (.object "java/util/Comparator"), .byte, .byte]
  resolved := Array.replicate 1451 none
  statics := some 0 }

def pool8 : Array CpInfo := pool [(6, .class_ 8), (1, u "java/lang/Object"), (0, u "<init>"), (0, u "()V"), (1, .class_ 14), (1, u "java/lang/StringUTF16"), (31, u "$assertionsDisabled"), (0, u "Z"), (13, u "HI_BYTE_SHIFT"), (0, u "I"), (2, u "LO_BYTE_SHIFT"), (49, .methodref 12 116), (0, .nameAndType 117 118), (0, u "compress"), (0, u "([CI[BII)I"), (3, u "([CII)[B"), (138, u "coderFromArrayLen"), (0, u "([BI)B"), (106, .class_ 371), (1, u "java/lang/StringUTF16$LinesSpliterator"), (58, u "MAX_LENGTH"), (196, .class_ 628), (0, u "java/lang/StringUTF16$CodePointsSpliterator"), (0, .class_ 630), (0, u "java/lang/StringUTF16$CharsSpliterator")] 4

def k8m0 : Method := { name := "<init>", desc := "()V", sig := { parameters := [], returnType := none }, accessFlags := 0, code := none }
def k8c1 : Code := { maxStack := 2, maxLocals := 2, code := jdk_52_method_15_code, exceptionTable := #[], attributes := #[] }
def k8m1 : Method := { name := "coderFromArrayLen", desc := "([BI)B", sig := { parameters := [(.array .byte), .int], returnType := some .byte }, accessFlags := 8, code := some k8c1 }
def k8c2 : Code := { maxStack := 5, maxLocals := 6, code := jdk_52_method_16_code, exceptionTable := #[], attributes := #[] }
def k8m2 : Method := { name := "compress", desc := "([CII)[B", sig := { parameters := [(.array .char), .int, .int], returnType := some (.array .byte) }, accessFlags := 9, code := some k8c2 }
def k8c3 : Code := { maxStack := 3, maxLocals := 7, code := jdk_52_method_21_code, exceptionTable := #[], attributes := #[] }
def k8m3 : Method := { name := "compress", desc := "([CI[BII)I", sig := { parameters := [(.array .char), .int, (.array .byte), .int, .int], returnType := some .int }, accessFlags := 9, code := some k8c3 }
/-- java/lang/StringUTF16 -/
def k8 : Class := { plain "java/lang/StringUTF16" (some 0) with
  accessFlags := 48
  interfaces := #[]
  cf := some (fileOf pool8 12 #[.nestMembers #[627, 629, 369]] #[{ accessFlags := 0, nameIndex := 9, descriptorIndex := 10, attributes := #[] }, { accessFlags := 8, nameIndex := 261, descriptorIndex := 262, attributes := #[] }, { accessFlags := 9, nameIndex := 117, descriptorIndex := 122, attributes := #[] }, { accessFlags := 9, nameIndex := 117, descriptorIndex := 118, attributes := #[] }] 48 6 #[] #[{ accessFlags := 26, nameIndex := 61, descriptorIndex := 62, attributes := #[] }, { accessFlags := 26, nameIndex := 65, descriptorIndex := 62, attributes := #[] }, { accessFlags := 24, nameIndex := 430, descriptorIndex := 62, attributes := #[] }, { accessFlags := 4120, nameIndex := 46, descriptorIndex := 47, attributes := #[] }])
  fields := #[{ name := "HI_BYTE_SHIFT", type := .int, accessFlags := 26, slot := 0, constantValue := 0 }, { name := "LO_BYTE_SHIFT", type := .int, accessFlags := 26, slot := 1, constantValue := 0 }, { name := "MAX_LENGTH", type := .int, accessFlags := 24, slot := 2, constantValue := 0 }, { name := "$assertionsDisabled", type := .boolean, accessFlags := 4120, slot := 3, constantValue := 0 }]
  methods := #[k8m0, k8m1, k8m2, k8m3]
  instanceTypes := #[]
  staticTypes := #[.int, .int, .int, .boolean]
  resolved := Array.replicate 635 none
  statics := none }

def pool9 : Array CpInfo := pool [(2, .class_ 4), (1, u "java/lang/Object"), (0, u "<init>"), (0, u "()V"), (1, .class_ 10), (1, u "com/example/torrey/torrey/Base64Url"), (0, u "ENCODER"), (0, u "Ljava/util/Base64$Encoder;"), (6, .string 20), (0, u "text"), (0, .methodref 22 23), (0, .class_ 24), (0, .nameAndType 25 26), (0, u "java/util/Objects"), (0, u "requireNonNull"), (0, u "(Ljava/lang/Object;Ljava/lang/String;)Ljava/lang/Object;"), (0, .methodref 28 29), (0, .class_ 30), (0, .nameAndType 31 32), (0, u "java/lang/String"), (0, u "length"), (0, u "()I"), (0, .methodref 28 34), (0, .nameAndType 35 36), (0, u "charAt"), (0, u "(I)C"), (0, .methodref 8 38), (0, .nameAndType 39 40), (0, u "sextet"), (0, u "(C)I"), (0, .class_ 42), (0, u "com/example/torrey/torrey/Base64Url$MalformedTextException"), (13, .fieldref 8 57), (0, .nameAndType 58 59), (0, u "DECODER"), (0, u "Ljava/util/Base64$Decoder;"), (0, .methodref 61 62), (0, .class_ 63), (0, .nameAndType 64 65), (0, u "java/util/Base64$Decoder"), (0, u "decode"), (0, u "(Ljava/lang/String;)[B"), (2, .methodref 28 69), (0, .nameAndType 70 71), (0, u "substring"), (0, u "(II)Ljava/lang/String;"), (0, .methodref 8 62), (35, u "decodeWithOptionalPadding")] 24

def k9m0 : Method := { name := "<init>", desc := "()V", sig := { parameters := [], returnType := none }, accessFlags := 2, code := none }
def k9c1 : Code := { maxStack := 5, maxLocals := 3, code := prog_1_method_3_code, exceptionTable := #[], attributes := #[] }
def k9m1 : Method := { name := "decode", desc := "(Ljava/lang/String;)[B", sig := { parameters := [(.object "java/lang/String")], returnType := some (.array .byte) }, accessFlags := 9, code := some k9c1 }
def k9c2 : Code := { maxStack := 5, maxLocals := 3, code := prog_1_method_4_code, exceptionTable := #[], attributes := #[] }
def k9m2 : Method := { name := "decodeWithOptionalPadding", desc := "(Ljava/lang/String;)[B", sig := { parameters := [(.object "java/lang/String")], returnType := some (.array .byte) }, accessFlags := 9, code := some k9c2 }
def k9c3 : Code := { maxStack := 2, maxLocals := 1, code := prog_1_method_5_code, exceptionTable := #[], attributes := #[] }
def k9m3 : Method := { name := "sextet", desc := "(C)I", sig := { parameters := [.char], returnType := some .int }, accessFlags := 10, code := some k9c3 }
/-- com/example/torrey/torrey/Base64Url -/
def k9 : Class := { plain "com/example/torrey/torrey/Base64Url" (some 0) with
  accessFlags := 33
  interfaces := #[]
  cf := some (fileOf pool9 8 #[.nestMembers #[41]] #[{ accessFlags := 2, nameIndex := 5, descriptorIndex := 6, attributes := #[] }, { accessFlags := 9, nameIndex := 64, descriptorIndex := 65, attributes := #[] }, { accessFlags := 9, nameIndex := 108, descriptorIndex := 65, attributes := #[] }, { accessFlags := 10, nameIndex := 39, descriptorIndex := 40, attributes := #[] }] 33 2 #[] #[{ accessFlags := 26, nameIndex := 11, descriptorIndex := 12, attributes := #[] }, { accessFlags := 26, nameIndex := 58, descriptorIndex := 59, attributes := #[] }])
  fields := #[{ name := "ENCODER", type := (.object "java/util/Base64$Encoder"), accessFlags := 26, slot := 0, constantValue := 0 }, { name := "DECODER", type := (.object "java/util/Base64$Decoder"), accessFlags := 26, slot := 1, constantValue := 0 }]
  methods := #[k9m0, k9m1, k9m2, k9m3]
  instanceTypes := #[]
  staticTypes := #[(.object "java/util/Base64$Encoder"), (.object "java/util/Base64$Decoder")]
  resolved := Array.replicate 133 none
  statics := some 1 }

def pool10 : Array CpInfo := pool [(2, .class_ 4), (1, u "java/lang/Object"), (0, u "<init>"), (0, u "()V"), (35, .class_ 44), (1, u "java/util/Objects"), (0, u "requireNonNull"), (48, u "(Ljava/lang/Object;Ljava/lang/String;)Ljava/lang/Object;")] 89

def k10m0 : Method := { name := "<init>", desc := "()V", sig := { parameters := [], returnType := none }, accessFlags := 2, code := none }
def k10c1 : Code := { maxStack := 3, maxLocals := 2, code := jdk_31_method_11_code, exceptionTable := #[], attributes := #[] }
def k10m1 : Method := { name := "requireNonNull", desc := "(Ljava/lang/Object;Ljava/lang/String;)Ljava/lang/Object;", sig := { parameters := [(.object "java/lang/Object"), (.object "java/lang/String")], returnType := some (.object "java/lang/Object") }, accessFlags := 9, code := some k10c1 }
/-- java/util/Objects -/
def k10 : Class := { plain "java/util/Objects" (some 0) with
  accessFlags := 49
  interfaces := #[]
  cf := some (fileOf pool10 42 #[] #[{ accessFlags := 2, nameIndex := 5, descriptorIndex := 6, attributes := #[] }, { accessFlags := 9, nameIndex := 45, descriptorIndex := 94, attributes := #[] }] 49 2 #[] #[])
  fields := #[]
  methods := #[k10m0, k10m1]
  instanceTypes := #[]
  staticTypes := #[]
  resolved := Array.replicate 184 none
  statics := none }

def pool11 : Array CpInfo := pool [(1, .class_ 2), (0, u "java/lang/String"), (1, .class_ 6), (1, u "java/lang/Object"), (0, u "<init>"), (0, u "()V"), (0, .methodref 1 10), (0, .nameAndType 11 12), (0, u "checkIndex"), (0, u "(II)V"), (1, .class_ 16), (1, u "java/lang/StringLatin1"), (36, u "([BI)C"), (58, .methodref 1 113), (0, .nameAndType 7 114), (0, u "([BB)V"), (6, u "$assertionsDisabled"), (0, u "Z"), (8, .class_ 133), (1, u "java/util/Arrays"), (62, u "newString"), (0, u "([BII)Ljava/lang/String;"), (23, .class_ 223), (1, u "java/lang/StringLatin1$LinesSpliterator"), (8, .methodref 131 233), (0, .nameAndType 234 235), (0, u "copyOfRange"), (0, u "([BII)[B"), (16, u "charAt"), (137, .class_ 391), (0, u "java/lang/StringLatin1$CharsSpliterator")] 3

def k11m0 : Method := { name := "<init>", desc := "()V", sig := { parameters := [], returnType := none }, accessFlags := 0, code := none }
def k11c1 : Code := { maxStack := 2, maxLocals := 2, code := jdk_43_method_2_code, exceptionTable := #[], attributes := #[] }
def k11m1 : Method := { name := "charAt", desc := "([BI)C", sig := { parameters := [(.array .byte), .int], returnType := some .char }, accessFlags := 9, code := some k11c1 }
def k11c2 : Code := { maxStack := 6, maxLocals := 3, code := jdk_43_method_47_code, exceptionTable := #[], attributes := #[] }
def k11m2 : Method := { name := "newString", desc := "([BII)Ljava/lang/String;", sig := { parameters := [(.array .byte), .int, .int], returnType := some (.object "java/lang/String") }, accessFlags := 9, code := some k11c2 }
/-- java/lang/StringLatin1 -/
def k11 : Class := { plain "java/lang/StringLatin1" (some 0) with
  accessFlags := 48
  interfaces := #[]
  cf := some (fileOf pool11 14 #[.nestMembers #[390, 221]] #[{ accessFlags := 0, nameIndex := 7, descriptorIndex := 8, attributes := #[] }, { accessFlags := 9, nameIndex := 252, descriptorIndex := 53, attributes := #[] }, { accessFlags := 9, nameIndex := 196, descriptorIndex := 197, attributes := #[] }] 48 4 #[] #[{ accessFlags := 4120, nameIndex := 121, descriptorIndex := 122, attributes := #[] }])
  fields := #[{ name := "$assertionsDisabled", type := .boolean, accessFlags := 4120, slot := 0, constantValue := 0 }]
  methods := #[k11m0, k11m1, k11m2]
  instanceTypes := #[]
  staticTypes := #[.boolean]
  resolved := Array.replicate 395 none
  statics := none }

def pool12 : Array CpInfo := pool [(2, .class_ 4), (1, u "java/lang/Object"), (0, u "<init>"), (0, u "()V"), (17, .class_ 26), (1, u "jdk/internal/util/Preconditions"), (6, u "checkIndex"), (13, u "checkFromToIndex"), (7, .class_ 56), (0, u "jdk/internal/util/Preconditions$4"), (57, .class_ 115), (0, u "jdk/internal/util/Preconditions$1"), (7, u "SIOOBE_FORMATTER"), (0, u "Ljava/util/function/BiFunction;"), (0, .class_ 126), (0, u "jdk/internal/util/Preconditions$2"), (3, u "AIOOBE_FORMATTER"), (0, .class_ 132), (0, u "jdk/internal/util/Preconditions$3"), (3, u "IOOBE_FORMATTER"), (41, u "(IILjava/util/function/BiFunction;)I"), (4, u "(IIILjava/util/function/BiFunction;)I")] 10

def k12m0 : Method := { name := "<init>", desc := "()V", sig := { parameters := [], returnType := none }, accessFlags := 1, code := none }
def k12c1 : Code := { maxStack := 3, maxLocals := 3, code := jdk_41_method_11_code, exceptionTable := #[], attributes := #[] }
def k12m1 : Method := { name := "checkIndex", desc := "(IILjava/util/function/BiFunction;)I", sig := { parameters := [.int, .int, (.object "java/util/function/BiFunction")], returnType := some .int }, accessFlags := 9, code := some k12c1 }
def k12c2 : Code := { maxStack := 4, maxLocals := 4, code := jdk_41_method_12_code, exceptionTable := #[], attributes := #[] }
def k12m2 : Method := { name := "checkFromToIndex", desc := "(IIILjava/util/function/BiFunction;)I", sig := { parameters := [.int, .int, .int, (.object "java/util/function/BiFunction")], returnType := some .int }, accessFlags := 9, code := some k12c2 }
/-- jdk/internal/util/Preconditions -/
def k12 : Class := { plain "jdk/internal/util/Preconditions" (some 0) with
  accessFlags := 33
  interfaces := #[]
  cf := some (fileOf pool12 24 #[.nestMembers #[55, 131, 125, 114]] #[{ accessFlags := 1, nameIndex := 5, descriptorIndex := 6, attributes := #[] }, { accessFlags := 9, nameIndex := 33, descriptorIndex := 178, attributes := #[] }, { accessFlags := 9, nameIndex := 47, descriptorIndex := 183, attributes := #[] }] 33 2 #[] #[{ accessFlags := 25, nameIndex := 123, descriptorIndex := 124, attributes := #[] }, { accessFlags := 25, nameIndex := 130, descriptorIndex := 124, attributes := #[] }, { accessFlags := 25, nameIndex := 136, descriptorIndex := 124, attributes := #[] }])
  fields := #[{ name := "SIOOBE_FORMATTER", type := (.object "java/util/function/BiFunction"), accessFlags := 25, slot := 0, constantValue := 0 }, { name := "AIOOBE_FORMATTER", type := (.object "java/util/function/BiFunction"), accessFlags := 25, slot := 1, constantValue := 0 }, { name := "IOOBE_FORMATTER", type := (.object "java/util/function/BiFunction"), accessFlags := 25, slot := 2, constantValue := 0 }]
  methods := #[k12m0, k12m1, k12m2]
  instanceTypes := #[]
  staticTypes := #[(.object "java/util/function/BiFunction"), (.object "java/util/function/BiFunction"), (.object "java/util/function/BiFunction")]
  resolved := Array.replicate 194 none
  statics := some 2 }

def pool13 : Array CpInfo := pool [(2, .class_ 4), (1, u "java/lang/Object"), (0, u "<init>"), (0, u "()V"), (7, .class_ 16), (1, u "java/util/Arrays"), (57, .class_ 76), (1, u "java/util/Arrays$NaturalOrder"), (36, .class_ 115), (1, u "java/util/Arrays$LegacyMergeSort"), (1, u "Z"), (21, u "copyOfRange"), (10, .methodref 151 152), (0, .class_ 153), (0, .nameAndType 154 155), (0, u "java/lang/System"), (0, u "arraycopy"), (0, u "(Ljava/lang/Object;ILjava/lang/Object;II)V"), (148, .methodref 305 306), (0, .class_ 307), (0, .nameAndType 308 309), (0, u "java/lang/Math"), (0, u "min"), (0, u "(II)I"), (29, .methodref 14 340), (0, .nameAndType 341 342), (0, u "copyOfRangeByte"), (0, u "([BII)[B"), (0, .methodref 14 344), (0, .nameAndType 345 346), (0, u "checkLength"), (0, u "(II)V"), (28, .class_ 376), (0, u "java/util/Arrays$ArrayList"), (68, u "$assertionsDisabled"), (269, u "MIN_ARRAY_SORT_GRAN"), (0, u "I"), (2, u "INSERTIONSORT_THRESHOLD"), (255, .class_ 976), (0, u "java/util/Arrays$ArrayItr")] 52

def k13m0 : Method := { name := "<init>", desc := "()V", sig := { parameters := [], returnType := none }, accessFlags := 2, code := none }
def k13c1 : Code := { maxStack := 4, maxLocals := 2, code := jdk_65_method_131_code, exceptionTable := #[], attributes := #[] }
def k13m1 : Method := { name := "checkLength", desc := "(II)V", sig := { parameters := [.int, .int], returnType := none }, accessFlags := 10, code := some k13c1 }
def k13c2 : Code := { maxStack := 3, maxLocals := 3, code := jdk_65_method_132_code, exceptionTable := #[], attributes := #[] }
def k13m2 : Method := { name := "copyOfRange", desc := "([BII)[B", sig := { parameters := [(.array .byte), .int, .int], returnType := some (.array .byte) }, accessFlags := 9, code := some k13c2 }
def k13c3 : Code := { maxStack := 6, maxLocals := 5, code := jdk_65_method_133_code, exceptionTable := #[], attributes := #[] }
def k13m3 : Method := { name := "copyOfRangeByte", desc := "([BII)[B", sig := { parameters := [(.array .byte), .int, .int], returnType := some (.array .byte) }, accessFlags := 10, code := some k13c3 }
/-- java/util/Arrays -/
def k13 : Class := { plain "java/util/Arrays" (some 0) with
  accessFlags := 49
  interfaces := #[]
  cf := some (fileOf pool13 14 #[.nestMembers #[975, 375, 113, 74]] #[{ accessFlags := 2, nameIndex := 5, descriptorIndex := 6, attributes := #[] }, { accessFlags := 10, nameIndex := 345, descriptorIndex := 346, attributes := #[] }, { accessFlags := 9, nameIndex := 139, descriptorIndex := 342, attributes := #[] }, { accessFlags := 10, nameIndex := 341, descriptorIndex := 342, attributes := #[] }] 49 2 #[] #[{ accessFlags := 26, nameIndex := 715, descriptorIndex := 716, attributes := #[] }, { accessFlags := 26, nameIndex := 719, descriptorIndex := 716, attributes := #[] }, { accessFlags := 4120, nameIndex := 445, descriptorIndex := 117, attributes := #[] }])
  fields := #[{ name := "MIN_ARRAY_SORT_GRAN", type := .int, accessFlags := 26, slot := 0, constantValue := 0 }, { name := "INSERTIONSORT_THRESHOLD", type := .int, accessFlags := 26, slot := 1, constantValue := 0 }, { name := "$assertionsDisabled", type := .boolean, accessFlags := 4120, slot := 2, constantValue := 0 }]
  methods := #[k13m0, k13m1, k13m2, k13m3]
  instanceTypes := #[]
  staticTypes := #[.int, .int, .boolean]
  resolved := Array.replicate 1029 none
  statics := none }

def pool14 : Array CpInfo := pool [(1, .class_ 2), (0, u "java/lang/Math"), (1, .class_ 6), (1, u "java/lang/Object"), (0, u "<init>"), (0, u "()V"), (89, .class_ 100), (1, u "java/lang/Math$RandomNumberGeneratorHolder"), (71, u "negativeZeroFloatBits"), (0, u "J"), (2, u "negativeZeroDoubleBits"), (24, u "min"), (43, u "$assertionsDisabled"), (0, u "Z"), (88, u "(II)I"), (2, u "twoToTheDoubleScaleDown"), (0, u "D"), (4, u "twoToTheDoubleScaleUp"), (9, u "E"), (3, u "PI"), (2, u "TAU"), (2, u "DEGREES_TO_RADIANS"), (0, u "RADIANS_TO_DEGREES")] 94

def k14m0 : Method := { name := "<init>", desc := "()V", sig := { parameters := [], returnType := none }, accessFlags := 2, code := none }
def k14c1 : Code := { maxStack := 2, maxLocals := 2, code := jdk_29_method_69_code, exceptionTable := #[], attributes := #[] }
def k14m1 : Method := { name := "min", desc := "(II)I", sig := { parameters := [.int, .int], returnType := some .int }, accessFlags := 9, code := some k14c1 }
/-- java/lang/Math -/
def k14 : Class := { plain "java/lang/Math" (some 0) with
  accessFlags := 49
  interfaces := #[]
  cf := some (fileOf pool14 1 #[.nestMembers #[98]] #[{ accessFlags := 2, nameIndex := 7, descriptorIndex := 8, attributes := #[] }, { accessFlags := 9, nameIndex := 201, descriptorIndex := 335, attributes := #[] }] 49 4 #[] #[{ accessFlags := 25, nameIndex := 354, descriptorIndex := 339, attributes := #[] }, { accessFlags := 25, nameIndex := 358, descriptorIndex := 339, attributes := #[] }, { accessFlags := 25, nameIndex := 361, descriptorIndex := 339, attributes := #[] }, { accessFlags := 26, nameIndex := 364, descriptorIndex := 339, attributes := #[] }, { accessFlags := 26, nameIndex := 365, descriptorIndex := 339, attributes := #[] }, { accessFlags := 26, nameIndex := 172, descriptorIndex := 173, attributes := #[] }, { accessFlags := 26, nameIndex := 176, descriptorIndex := 173, attributes := #[] }, { accessFlags := 8, nameIndex := 344, descriptorIndex := 339, attributes := #[] }, { accessFlags := 8, nameIndex := 338, descriptorIndex := 339, attributes := #[] }, { accessFlags := 4120, nameIndex := 245, descriptorIndex := 246, attributes := #[] }])
  fields := #[{ name := "E", type := .double, accessFlags := 25, slot := 0, constantValue := 0 }, { name := "PI", type := .double, accessFlags := 25, slot := 1, constantValue := 0 }, { name := "TAU", type := .double, accessFlags := 25, slot := 2, constantValue := 0 }, { name := "DEGREES_TO_RADIANS", type := .double, accessFlags := 26, slot := 3, constantValue := 0 }, { name := "RADIANS_TO_DEGREES", type := .double, accessFlags := 26, slot := 4, constantValue := 0 }, { name := "negativeZeroFloatBits", type := .long, accessFlags := 26, slot := 5, constantValue := 0 }, { name := "negativeZeroDoubleBits", type := .long, accessFlags := 26, slot := 6, constantValue := 0 }, { name := "twoToTheDoubleScaleUp", type := .double, accessFlags := 8, slot := 7, constantValue := 0 }, { name := "twoToTheDoubleScaleDown", type := .double, accessFlags := 8, slot := 8, constantValue := 0 }, { name := "$assertionsDisabled", type := .boolean, accessFlags := 4120, slot := 9, constantValue := 0 }]
  methods := #[k14m0, k14m1]
  instanceTypes := #[]
  staticTypes := #[.double, .double, .double, .double, .double, .long, .long, .double, .double, .boolean]
  resolved := Array.replicate 460 none
  statics := none }

def pool15 : Array CpInfo := pool [(2, .class_ 4), (1, u "java/lang/Object"), (0, u "<init>"), (0, u "()V"), (1, .class_ 10), (1, u "java/lang/System"), (0, u "allowSecurityManager"), (0, u "I"), (16, u "cons"), (0, u "Ljava/io/Console;"), (77, .class_ 110), (1, u "java/lang/System$CallersHolder"), (43, u "initialErrStream"), (0, u "Ljava/io/PrintStream;"), (19, u "security"), (0, u "Ljava/lang/SecurityManager;"), (31, .class_ 209), (0, u "java/lang/System$1"), (7, u "props"), (0, u "Ljava/util/Properties;"), (2, u "lineSeparator"), (0, u "Ljava/lang/String;"), (96, .class_ 321), (1, u "java/lang/System$LoggerFinder"), (5, .class_ 328), (0, u "java/lang/System$Logger"), (67, u "err"), (2, u "out"), (91, u "notSupportedJnuEncoding"), (15, u "in"), (17, u "initialIn"), (0, u "Ljava/io/InputStream;"), (35, u "bootLayer"), (0, u "Ljava/lang/ModuleLayer;"), (99, .class_ 664), (0, u "java/lang/System$2"), (9, u "NEVER"), (2, u "MAYBE"), (49, u "arraycopy"), (0, u "(Ljava/lang/Object;ILjava/lang/Object;II)V"), (72, .class_ 802), (0, u "java/lang/System$Logger$Level")] 31

def k15m0 : Method := { name := "<init>", desc := "()V", sig := { parameters := [], returnType := none }, accessFlags := 2, code := none }
def k15m1 : Method := { name := "arraycopy", desc := "(Ljava/lang/Object;ILjava/lang/Object;II)V", sig := { parameters := [(.object "java/lang/Object"), .int, (.object "java/lang/Object"), .int, .int], returnType := none }, accessFlags := 265, code := none }
/-- java/lang/System -/
def k15 : Class := { plain "java/lang/System" (some 0) with
  accessFlags := 49
  interfaces := #[]
  cf := some (fileOf pool15 8 #[.nestMembers #[319, 327, 801, 108, 663, 208]] #[{ accessFlags := 2, nameIndex := 5, descriptorIndex := 6, attributes := #[] }, { accessFlags := 265, nameIndex := 727, descriptorIndex := 728, attributes := #[] }] 49 2 #[] #[{ accessFlags := 25, nameIndex := 507, descriptorIndex := 526, attributes := #[] }, { accessFlags := 25, nameIndex := 399, descriptorIndex := 155, attributes := #[] }, { accessFlags := 25, nameIndex := 396, descriptorIndex := 155, attributes := #[] }, { accessFlags := 10, nameIndex := 525, descriptorIndex := 526, attributes := #[] }, { accessFlags := 26, nameIndex := 674, descriptorIndex := 12, attributes := #[] }, { accessFlags := 26, nameIndex := 677, descriptorIndex := 12, attributes := #[] }, { accessFlags := 10, nameIndex := 11, descriptorIndex := 12, attributes := #[] }, { accessFlags := 74, nameIndex := 175, descriptorIndex := 176, attributes := #[] }, { accessFlags := 10, nameIndex := 491, descriptorIndex := 222, attributes := #[] }, { accessFlags := 74, nameIndex := 29, descriptorIndex := 30, attributes := #[] }, { accessFlags := 74, nameIndex := 154, descriptorIndex := 155, attributes := #[] }, { accessFlags := 10, nameIndex := 217, descriptorIndex := 218, attributes := #[] }, { accessFlags := 10, nameIndex := 221, descriptorIndex := 222, attributes := #[] }, { accessFlags := 8, nameIndex := 562, descriptorIndex := 563, attributes := #[] }])
  fields := #[{ name := "in", type := (.object "java/io/InputStream"), accessFlags := 25, slot := 0, constantValue := 0 }, { name := "out", type := (.object "java/io/PrintStream"), accessFlags := 25, slot := 1, constantValue := 0 }, { name := "err", type := (.object "java/io/PrintStream"), accessFlags := 25, slot := 2, constantValue := 0 }, { name := "initialIn", type := (.object "java/io/InputStream"), accessFlags := 10, slot := 3, constantValue := 0 }, { name := "NEVER", type := .int, accessFlags := 26, slot := 4, constantValue := 0 }, { name := "MAYBE", type := .int, accessFlags := 26, slot := 5, constantValue := 0 }, { name := "allowSecurityManager", type := .int, accessFlags := 10, slot := 6, constantValue := 0 }, { name := "security", type := (.object "java/lang/SecurityManager"), accessFlags := 74, slot := 7, constantValue := 0 }, { name := "notSupportedJnuEncoding", type := (.object "java/lang/String"), accessFlags := 10, slot := 8, constantValue := 0 }, { name := "cons", type := (.object "java/io/Console"), accessFlags := 74, slot := 9, constantValue := 0 }, { name := "initialErrStream", type := (.object "java/io/PrintStream"), accessFlags := 74, slot := 10, constantValue := 0 }, { name := "props", type := (.object "java/util/Properties"), accessFlags := 10, slot := 11, constantValue := 0 }, { name := "lineSeparator", type := (.object "java/lang/String"), accessFlags := 10, slot := 12, constantValue := 0 }, { name := "bootLayer", type := (.object "java/lang/ModuleLayer"), accessFlags := 8, slot := 13, constantValue := 0 }]
  methods := #[k15m0, k15m1]
  instanceTypes := #[]
  staticTypes := #[(.object "java/io/InputStream"), (.object "java/io/PrintStream"), (.object "java/io/PrintStream"), (.object "java/io/InputStream"), .int, .int, .int, (.object "java/lang/SecurityManager"), (.object "java/lang/String"), (.object "java/io/Console"), (.object "java/io/PrintStream"), (.object "java/util/Properties"), (.object "java/lang/String"), (.object "java/lang/ModuleLayer")]
  resolved := Array.replicate 834 none
  statics := none }

def pool16 : Array CpInfo := pool [(2, .class_ 4), (1, u "java/lang/Object"), (2, .fieldref 8 9), (0, .class_ 10), (0, .nameAndType 11 12), (0, u "java/util/Base64$Decoder"), (0, u "isURL"), (0, u "Z"), (0, .fieldref 8 14), (0, .nameAndType 15 12), (0, u "isMIME"), (0, .methodref 8 17), (0, .nameAndType 18 19), (0, u "decodedOutLength"), (0, u "([BII)I"), (0, .methodref 8 21), (0, .nameAndType 22 23), (0, u "decode0"), (0, u "([BII[B)I"), (6, .fieldref 31 32), (0, .class_ 33), (0, .nameAndType 34 35), (0, u "sun/nio/cs/ISO_8859_1"), (0, u "INSTANCE"), (0, u "Lsun/nio/cs/ISO_8859_1;"), (0, .methodref 37 38), (0, .class_ 39), (0, .nameAndType 40 41), (0, u "java/lang/String"), (0, u "getBytes"), (0, u "(Ljava/nio/charset/Charset;)[B"), (0, .methodref 8 43), (0, .nameAndType 44 45), (0, u "decode"), (0, u "([B)[B"), (49, .fieldref 8 96), (0, .nameAndType 97 98), (0, u "fromBase64URL"), (0, u "[I"), (2, u "fromBase64"), (5, .long 3), (1, .long 4), (1, .methodref 8 112), (0, .nameAndType 113 114), (0, u "decodeBlock"), (0, u "([BII[BIZZ)I"), (45, u "RFC4648"), (0, u "Ljava/util/Base64$Decoder;"), (2, u "RFC4648_URLSAFE"), (2, u "RFC2045"), (11, u "(Ljava/lang/String;)[B"), (40, .class_ 221), (0, u "java/util/Base64")] 4

def k16c0 : Code := { maxStack := 5, maxLocals := 4, code := jdk_2450_method_2_code, exceptionTable := #[], attributes := #[] }
def k16m0 : Method := { name := "decode", desc := "([B)[B", sig := { parameters := [(.array .byte)], returnType := some (.array .byte) }, accessFlags := 1, code := some k16c0 }
def k16c1 : Code := { maxStack := 3, maxLocals := 2, code := jdk_2450_method_3_code, exceptionTable := #[], attributes := #[] }
def k16m1 : Method := { name := "decode", desc := "(Ljava/lang/String;)[B", sig := { parameters := [(.object "java/lang/String")], returnType := some (.array .byte) }, accessFlags := 1, code := some k16c1 }
def k16c2 : Code := { maxStack := 5, maxLocals := 9, code := jdk_2450_method_7_code, exceptionTable := #[], attributes := #[] }
def k16m2 : Method := { name := "decodedOutLength", desc := "([BII)I", sig := { parameters := [(.array .byte), .int, .int], returnType := some .int }, accessFlags := 2, code := some k16c2 }
def k16c3 : Code := { maxStack := 4, maxLocals := 16, code := jdk_2450_method_8_code, exceptionTable := #[], attributes := #[] }
def k16m3 : Method := { name := "decodeBlock", desc := "([BII[BIZZ)I", sig := { parameters := [(.array .byte), .int, .int, (.array .byte), .int, .boolean, .boolean], returnType := some .int }, accessFlags := 2, code := some k16c3 }
def k16c4 : Code := { maxStack := 8, maxLocals := 11, code := jdk_2450_method_9_code, exceptionTable := #[], attributes := #[] }
def k16m4 : Method := { name := "decode0", desc := "([BII[B)I", sig := { parameters := [(.array .byte), .int, .int, (.array .byte)], returnType := some .int }, accessFlags := 2, code := some k16c4 }
/-- java/util/Base64$Decoder -/
def k16 : Class := { plain "java/util/Base64$Decoder" (some 0) with
  accessFlags := 33
  interfaces := #[]
  cf := some (fileOf pool16 8 #[.nestHost 220] #[{ accessFlags := 1, nameIndex := 44, descriptorIndex := 45, attributes := #[] }, { accessFlags := 1, nameIndex := 44, descriptorIndex := 179, attributes := #[] }, { accessFlags := 2, nameIndex := 18, descriptorIndex := 19, attributes := #[] }, { accessFlags := 2, nameIndex := 113, descriptorIndex := 114, attributes := #[] }, { accessFlags := 2, nameIndex := 22, descriptorIndex := 23, attributes := #[] }] 33 2 #[] #[{ accessFlags := 18, nameIndex := 11, descriptorIndex := 12, attributes := #[] }, { accessFlags := 18, nameIndex := 15, descriptorIndex := 12, attributes := #[] }, { accessFlags := 26, nameIndex := 101, descriptorIndex := 98, attributes := #[] }, { accessFlags := 26, nameIndex := 97, descriptorIndex := 98, attributes := #[] }, { accessFlags := 24, nameIndex := 160, descriptorIndex := 161, attributes := #[] }, { accessFlags := 24, nameIndex := 164, descriptorIndex := 161, attributes := #[] }, { accessFlags := 24, nameIndex := 167, descriptorIndex := 161, attributes := #[] }])
  fields := #[{ name := "isURL", type := .boolean, accessFlags := 18, slot := 0, constantValue := 0 }, { name := "isMIME", type := .boolean, accessFlags := 18, slot := 1, constantValue := 0 }, { name := "fromBase64", type := (.array .int), accessFlags := 26, slot := 0, constantValue := 0 }, { name := "fromBase64URL", type := (.array .int), accessFlags := 26, slot := 1, constantValue := 0 }, { name := "RFC4648", type := (.object "java/util/Base64$Decoder"), accessFlags := 24, slot := 2, constantValue := 0 }, { name := "RFC4648_URLSAFE", type := (.object "java/util/Base64$Decoder"), accessFlags := 24, slot := 3, constantValue := 0 }, { name := "RFC2045", type := (.object "java/util/Base64$Decoder"), accessFlags := 24, slot := 4, constantValue := 0 }]
  methods := #[k16m0, k16m1, k16m2, k16m3, k16m4]
  instanceTypes := #[.boolean, .boolean]
  staticTypes := #[(.array .int), (.array .int), (.object "java/util/Base64$Decoder"), (.object "java/util/Base64$Decoder"), (.object "java/util/Base64$Decoder")]
  resolved := Array.replicate 226 none
  statics := some 3 }

def pool17 : Array CpInfo := pool [(18, .class_ 20), (1, u "java/nio/charset/Charset"), (0, u "cache1"), (0, u "[Ljava/lang/Object;"), (2, u "cache2"), (0, .class_ 27), (0, u "java/lang/Object"), (0, .class_ 29), (0, u "java/nio/charset/Charset$1"), (4, .class_ 36), (1, u "java/nio/charset/Charset$ThreadTrackHolder"), (21, .class_ 59), (0, u "java/nio/charset/Charset$2"), (11, .class_ 73), (1, u "java/nio/charset/Charset$ExtendedProviderHolder"), (22, u "standardProvider"), (0, u "Ljava/nio/charset/spi/CharsetProvider;"), (29, u "name"), (7, .class_ 136), (0, u "java/nio/charset/Charset$3"), (5, u "defaultCharset"), (0, u "Ljava/nio/charset/Charset;"), (14, u "zeroAliases"), (0, u "[Ljava/lang/String;"), (29, u "Ljava/lang/String;"), (2, u "aliases"), (2, u "aliasSet"), (0, u "Ljava/util/Set;"), (82, .class_ 280), (0, u "java/lang/Comparable"), (84, .class_ 366), (0, u "java/nio/charset/Charset$ExtendedProviderHolder$1")] 3

/-- java/nio/charset/Charset -/
def k17 : Class := { plain "java/nio/charset/Charset" (some 0) with
  accessFlags := 1057
  interfaces := #[3]
  cf := some (fileOf pool17 18 #[.nestMembers #[71, 365, 34, 135, 58, 28]] #[] 1057 26 #[279] #[{ accessFlags := 26, nameIndex := 96, descriptorIndex := 97, attributes := #[] }, { accessFlags := 26, nameIndex := 158, descriptorIndex := 159, attributes := #[] }, { accessFlags := 74, nameIndex := 21, descriptorIndex := 22, attributes := #[] }, { accessFlags := 74, nameIndex := 25, descriptorIndex := 22, attributes := #[] }, { accessFlags := 10, nameIndex := 142, descriptorIndex := 143, attributes := #[] }, { accessFlags := 18, nameIndex := 127, descriptorIndex := 189, attributes := #[] }, { accessFlags := 18, nameIndex := 192, descriptorIndex := 159, attributes := #[] }, { accessFlags := 2, nameIndex := 195, descriptorIndex := 196, attributes := #[] }])
  fields := #[{ name := "standardProvider", type := (.object "java/nio/charset/spi/CharsetProvider"), accessFlags := 26, slot := 0, constantValue := 0 }, { name := "zeroAliases", type := (.array (.object "java/lang/String")), accessFlags := 26, slot := 1, constantValue := 0 }, { name := "cache1", type := (.array (.object "java/lang/Object")), accessFlags := 74, slot := 2, constantValue := 0 }, { name := "cache2", type := (.array (.object "java/lang/Object")), accessFlags := 74, slot := 3, constantValue := 0 }, { name := "defaultCharset", type := (.object "java/nio/charset/Charset"), accessFlags := 10, slot := 4, constantValue := 0 }, { name := "name", type := (.object "java/lang/String"), accessFlags := 18, slot := 0, constantValue := 0 }, { name := "aliases", type := (.array (.object "java/lang/String")), accessFlags := 18, slot := 1, constantValue := 0 }, { name := "aliasSet", type := (.object "java/util/Set"), accessFlags := 2, slot := 2, constantValue := 0 }]
  methods := #[]
  instanceTypes := #[(.object "java/lang/String"), (.array (.object "java/lang/String")), (.object "java/util/Set")]
  staticTypes := #[(.object "java/nio/charset/spi/CharsetProvider"), (.array (.object "java/lang/String")), (.array (.object "java/lang/Object")), (.array (.object "java/lang/Object")), (.object "java/nio/charset/Charset")]
  resolved := Array.replicate 370 none
  statics := none }

def pool18 : Array CpInfo := pool [(1, .class_ 2), (0, u "sun/nio/cs/HistoricallyNamedCharset"), (0, .class_ 4), (0, u "java/lang/Object")] 4

/-- sun/nio/cs/HistoricallyNamedCharset -/
def k18 : Class := { plain "sun/nio/cs/HistoricallyNamedCharset" (some 0) with
  accessFlags := 1537
  interfaces := #[]
  cf := some (fileOf pool18 1 #[] #[] 1537 3 #[] #[])
  fields := #[]
  methods := #[]
  instanceTypes := #[]
  staticTypes := #[]
  resolved := Array.replicate 9 none
  statics := none }

def pool19 : Array CpInfo := pool [(10, .class_ 12), (1, u "java/nio/charset/Charset"), (0, u "<init>"), (5, .class_ 20), (0, u "sun/nio/cs/ISO_8859_1"), (0, .class_ 22), (0, u "sun/nio/cs/ISO_8859_1$Decoder"), (3, .class_ 27), (0, u "sun/nio/cs/ISO_8859_1$Encoder"), (3, u "()V"), (2, u "INSTANCE"), (0, u "Lsun/nio/cs/ISO_8859_1;"), (0, .class_ 37), (0, u "sun/nio/cs/HistoricallyNamedCharset")] 22

def k19m0 : Method := { name := "<init>", desc := "()V", sig := { parameters := [], returnType := none }, accessFlags := 1, code := none }
/-- sun/nio/cs/ISO_8859_1 -/
def k19 : Class := { plain "sun/nio/cs/ISO_8859_1" (some 17) with
  accessFlags := 33
  interfaces := #[18]
  cf := some (fileOf pool19 19 #[.nestMembers #[26, 21]] #[{ accessFlags := 1, nameIndex := 13, descriptorIndex := 31, attributes := #[] }] 33 10 #[36] #[{ accessFlags := 25, nameIndex := 34, descriptorIndex := 35, attributes := #[] }])
  fields := #[{ name := "INSTANCE", type := (.object "sun/nio/cs/ISO_8859_1"), accessFlags := 25, slot := 0, constantValue := 0 }]
  methods := #[k19m0]
  instanceTypes := #[(.object "java/lang/String"), (.array (.object "java/lang/String")), (.object "java/util/Set")]
  staticTypes := #[(.object "sun/nio/cs/ISO_8859_1")]
  resolved := Array.replicate 60 none
  statics := some 4 }

def pool20 : Array CpInfo := pool [(2, .class_ 4), (1, u "java/nio/charset/Charset"), (130, .class_ 136), (0, u "sun/nio/cs/Unicode"), (0, .class_ 138), (0, u "sun/nio/cs/HistoricallyNamedCharset")] 15

/-- sun/nio/cs/Unicode -/
def k20 : Class := { plain "sun/nio/cs/Unicode" (some 17) with
  accessFlags := 1056
  interfaces := #[18]
  cf := some (fileOf pool20 135 #[] #[] 1056 2 #[137] #[])
  fields := #[]
  methods := #[]
  instanceTypes := #[(.object "java/lang/String"), (.array (.object "java/lang/String")), (.object "java/util/Set")]
  staticTypes := #[]
  resolved := Array.replicate 154 none
  statics := none }

def pool21 : Array CpInfo := pool [(10, .class_ 12), (1, u "sun/nio/cs/Unicode"), (0, u "<init>"), (3, .class_ 18), (0, u "sun/nio/cs/UTF_8$Decoder"), (3, .class_ 23), (0, u "sun/nio/cs/UTF_8$Encoder"), (15, .class_ 40), (0, u "sun/nio/cs/UTF_8"), (2, u "()V"), (2, u "INSTANCE"), (0, u "Lsun/nio/cs/UTF_8;"), (8, u "JLA"), (0, u "Ljdk/internal/access/JavaLangAccess;")] 26

def k21m0 : Method := { name := "<init>", desc := "()V", sig := { parameters := [], returnType := none }, accessFlags := 1, code := none }
/-- sun/nio/cs/UTF_8 -/
def k21 : Class := { plain "sun/nio/cs/UTF_8" (some 20) with
  accessFlags := 49
  interfaces := #[]
  cf := some (fileOf pool21 39 #[.nestMembers #[22, 17]] #[{ accessFlags := 1, nameIndex := 13, descriptorIndex := 43, attributes := #[] }] 49 10 #[] #[{ accessFlags := 25, nameIndex := 46, descriptorIndex := 47, attributes := #[] }, { accessFlags := 26, nameIndex := 56, descriptorIndex := 57, attributes := #[] }])
  fields := #[{ name := "INSTANCE", type := (.object "sun/nio/cs/UTF_8"), accessFlags := 25, slot := 0, constantValue := 0 }, { name := "JLA", type := (.object "jdk/internal/access/JavaLangAccess"), accessFlags := 26, slot := 1, constantValue := 0 }]
  methods := #[k21m0]
  instanceTypes := #[(.object "java/lang/String"), (.array (.object "java/lang/String")), (.object "java/util/Set")]
  staticTypes := #[(.object "sun/nio/cs/UTF_8"), (.object "jdk/internal/access/JavaLangAccess")]
  resolved := Array.replicate 84 none
  statics := some 5 }

def pool22 : Array CpInfo := pool [(1, .class_ 2), (0, u "java/lang/Cloneable"), (0, .class_ 4), (0, u "java/lang/Object")] 2

/-- java/lang/Cloneable -/
def k22 : Class := { plain "java/lang/Cloneable" (some 0) with
  accessFlags := 1537
  interfaces := #[]
  cf := some (fileOf pool22 1 #[] #[] 1537 3 #[] #[])
  fields := #[]
  methods := #[]
  instanceTypes := #[]
  staticTypes := #[]
  resolved := Array.replicate 7 none
  statics := none }

def pool23 : Array CpInfo := pool [(9, u "<init>"), (6, .class_ 18), (1, u "java/lang/Object"), (0, u "()V"), (1, .class_ 23), (1, u "jdk/internal/util/ArraysSupport"), (0, u "LOG2_ARRAY_LONG_INDEX_SCALE"), (0, u "I"), (2, u "U"), (0, u "Ljdk/internal/misc/Unsafe;"), (8, u "BIG_ENDIAN"), (0, u "Z"), (8, u "LOG2_BYTE_BIT_SIZE"), (4, u "LOG2_ARRAY_INT_INDEX_SCALE"), (54, u "JLA"), (0, u "Ljdk/internal/access/JavaLangAccess;"), (11, u "LOG2_ARRAY_BOOLEAN_INDEX_SCALE"), (9, u "LOG2_ARRAY_BYTE_INDEX_SCALE"), (5, u "LOG2_ARRAY_CHAR_INDEX_SCALE"), (5, u "LOG2_ARRAY_SHORT_INDEX_SCALE"), (18, u "LOG2_ARRAY_FLOAT_INDEX_SCALE"), (24, u "LOG2_ARRAY_DOUBLE_INDEX_SCALE"), (89, u "T_BOOLEAN"), (2, u "T_CHAR"), (1, u "T_FLOAT"), (1, u "T_DOUBLE"), (1, u "T_BYTE"), (1, u "T_SHORT"), (1, u "T_INT"), (1, u "T_LONG"), (1, u "SOFT_MAX_ARRAY_LENGTH")] 83

def k23m0 : Method := { name := "<init>", desc := "()V", sig := { parameters := [], returnType := none }, accessFlags := 2, code := none }
/-- jdk/internal/util/ArraysSupport -/
def k23 : Class := { plain "jdk/internal/util/ArraysSupport" (some 0) with
  accessFlags := 33
  interfaces := #[]
  cf := some (fileOf pool23 21 #[] #[{ accessFlags := 2, nameIndex := 9, descriptorIndex := 19, attributes := #[] }] 33 16 #[] #[{ accessFlags := 24, nameIndex := 28, descriptorIndex := 29, attributes := #[] }, { accessFlags := 26, nameIndex := 38, descriptorIndex := 39, attributes := #[] }, { accessFlags := 25, nameIndex := 121, descriptorIndex := 25, attributes := #[] }, { accessFlags := 25, nameIndex := 131, descriptorIndex := 25, attributes := #[] }, { accessFlags := 25, nameIndex := 137, descriptorIndex := 25, attributes := #[] }, { accessFlags := 25, nameIndex := 143, descriptorIndex := 25, attributes := #[] }, { accessFlags := 25, nameIndex := 53, descriptorIndex := 25, attributes := #[] }, { accessFlags := 25, nameIndex := 24, descriptorIndex := 25, attributes := #[] }, { accessFlags := 25, nameIndex := 162, descriptorIndex := 25, attributes := #[] }, { accessFlags := 25, nameIndex := 187, descriptorIndex := 25, attributes := #[] }, { accessFlags := 26, nameIndex := 48, descriptorIndex := 25, attributes := #[] }, { accessFlags := 25, nameIndex := 277, descriptorIndex := 25, attributes := #[] }, { accessFlags := 25, nameIndex := 280, descriptorIndex := 25, attributes := #[] }, { accessFlags := 25, nameIndex := 282, descriptorIndex := 25, attributes := #[] }, { accessFlags := 25, nameIndex := 284, descriptorIndex := 25, attributes := #[] }, { accessFlags := 25, nameIndex := 286, descriptorIndex := 25, attributes := #[] }, { accessFlags := 25, nameIndex := 288, descriptorIndex := 25, attributes := #[] }, { accessFlags := 25, nameIndex := 290, descriptorIndex := 25, attributes := #[] }, { accessFlags := 25, nameIndex := 292, descriptorIndex := 25, attributes := #[] }, { accessFlags := 26, nameIndex := 108, descriptorIndex := 109, attributes := #[] }, { accessFlags := 25, nameIndex := 294, descriptorIndex := 25, attributes := #[] }])
  fields := #[{ name := "U", type := (.object "jdk/internal/misc/Unsafe"), accessFlags := 24, slot := 0, constantValue := 0 }, { name := "BIG_ENDIAN", type := .boolean, accessFlags := 26, slot := 1, constantValue := 0 }, { name := "LOG2_ARRAY_BOOLEAN_INDEX_SCALE", type := .int, accessFlags := 25, slot := 2, constantValue := 0 }, { name := "LOG2_ARRAY_BYTE_INDEX_SCALE", type := .int, accessFlags := 25, slot := 3, constantValue := 0 }, { name := "LOG2_ARRAY_CHAR_INDEX_SCALE", type := .int, accessFlags := 25, slot := 4, constantValue := 0 }, { name := "LOG2_ARRAY_SHORT_INDEX_SCALE", type := .int, accessFlags := 25, slot := 5, constantValue := 0 }, { name := "LOG2_ARRAY_INT_INDEX_SCALE", type := .int, accessFlags := 25, slot := 6, constantValue := 0 }, { name := "LOG2_ARRAY_LONG_INDEX_SCALE", type := .int, accessFlags := 25, slot := 7, constantValue := 0 }, { name := "LOG2_ARRAY_FLOAT_INDEX_SCALE", type := .int, accessFlags := 25, slot := 8, constantValue := 0 }, { name := "LOG2_ARRAY_DOUBLE_INDEX_SCALE", type := .int, accessFlags := 25, slot := 9, constantValue := 0 }, { name := "LOG2_BYTE_BIT_SIZE", type := .int, accessFlags := 26, slot := 10, constantValue := 0 }, { name := "T_BOOLEAN", type := .int, accessFlags := 25, slot := 11, constantValue := 0 }, { name := "T_CHAR", type := .int, accessFlags := 25, slot := 12, constantValue := 0 }, { name := "T_FLOAT", type := .int, accessFlags := 25, slot := 13, constantValue := 0 }, { name := "T_DOUBLE", type := .int, accessFlags := 25, slot := 14, constantValue := 0 }, { name := "T_BYTE", type := .int, accessFlags := 25, slot := 15, constantValue := 0 }, { name := "T_SHORT", type := .int, accessFlags := 25, slot := 16, constantValue := 0 }, { name := "T_INT", type := .int, accessFlags := 25, slot := 17, constantValue := 0 }, { name := "T_LONG", type := .int, accessFlags := 25, slot := 18, constantValue := 0 }, { name := "JLA", type := (.object "jdk/internal/access/JavaLangAccess"), accessFlags := 26, slot := 19, constantValue := 0 }, { name := "SOFT_MAX_ARRAY_LENGTH", type := .int, accessFlags := 25, slot := 20, constantValue := 0 }]
  methods := #[k23m0]
  instanceTypes := #[]
  staticTypes := #[(.object "jdk/internal/misc/Unsafe"), .boolean, .int, .int, .int, .int, .int, .int, .int, .int, .int, .int, .int, .int, .int, .int, .int, .int, .int, (.object "jdk/internal/access/JavaLangAccess"), .int]
  resolved := Array.replicate 378 none
  statics := some 6 }

/-- the primitive byte -/
def k24 : Class := { plain "byte" none with kind := .primitive 'B', accessFlags := 0x411 }
/-- [B -/
def k25 : Class := { plain "[B" (some 0) with kind := .array 24 .byte, interfaces := #[22, 2], accessFlags := 1041 }

/-- the primitive char -/
def k26 : Class := { plain "char" none with kind := .primitive 'C', accessFlags := 0x411 }
/-- [C -/
def k27 : Class := { plain "[C" (some 0) with kind := .array 26 .char, interfaces := #[22, 2], accessFlags := 1041 }

/-- the primitive int -/
def k28 : Class := { plain "int" none with kind := .primitive 'I', accessFlags := 0x411 }
/-- [I -/
def k29 : Class := { plain "[I" (some 0) with kind := .array 28 .int, interfaces := #[22, 2], accessFlags := 1041 }

def heap : Heap := #[{ cls := 7, slots := #[.long 0, .int 1, .null, .int 0, .null, .int 0, .int 0], vm := .statics 7 },
  { cls := 9, slots := #[.null, .ref 7], vm := .statics 9 },
  { cls := 12, slots := #[.null, .null, .null], vm := .statics 12 },
  { cls := 16, slots := #[.null, .ref 10, .null, .null, .null], vm := .statics 16 },
  { cls := 19, slots := #[.ref 8], vm := .statics 19 },
  { cls := 21, slots := #[.ref 9, .null], vm := .statics 21 },
  { cls := 23, slots := #[.null, .int 0, .int 0, .int 0, .int 0, .int 0, .int 0, .int 0, .int 0, .int 0, .int 0, .int 0, .int 0, .int 0, .int 0, .int 0, .int 0, .int 0, .int 0, .null, .int 0], vm := .statics 23 },
  { cls := 16, slots := #[.int 1, .int 0], vm := .none },
  { cls := 19, slots := #[.null, .null, .null], vm := .none },
  { cls := 21, slots := #[.null, .null, .null], vm := .none },
  { cls := 29, slots := #[.int (-1), .int (-1), .int (-1), .int (-1), .int (-1), .int (-1), .int (-1), .int (-1), .int (-1), .int (-1), .int (-1), .int (-1), .int (-1), .int (-1), .int (-1), .int (-1), .int (-1), .int (-1), .int (-1), .int (-1), .int (-1), .int (-1), .int (-1), .int (-1), .int (-1), .int (-1), .int (-1), .int (-1), .int (-1), .int (-1), .int (-1), .int (-1), .int (-1), .int (-1), .int (-1), .int (-1), .int (-1), .int (-1), .int (-1), .int (-1), .int (-1), .int (-1), .int (-1), .int (-1), .int (-1), .int 62, .int (-1), .int (-1), .int 52, .int 53, .int 54, .int 55, .int 56, .int 57, .int 58, .int 59, .int 60, .int 61, .int (-1), .int (-1), .int (-1), .int (-2), .int (-1), .int (-1), .int (-1), .int 0, .int 1, .int 2, .int 3, .int 4, .int 5, .int 6, .int 7, .int 8, .int 9, .int 10, .int 11, .int 12, .int 13, .int 14, .int 15, .int 16, .int 17, .int 18, .int 19, .int 20, .int 21, .int 22, .int 23, .int 24, .int 25, .int (-1), .int (-1), .int (-1), .int (-1), .int 63, .int (-1), .int 26, .int 27, .int 28, .int 29, .int 30, .int 31, .int 32, .int 33, .int 34, .int 35, .int 36, .int 37, .int 38, .int 39, .int 40, .int 41, .int 42, .int 43, .int 44, .int 45, .int 46, .int 47, .int 48, .int 49, .int 50, .int 51, .int (-1), .int (-1), .int (-1), .int (-1), .int (-1), .int (-1), .int (-1), .int (-1), .int (-1), .int (-1), .int (-1), .int (-1), .int (-1), .int (-1), .int (-1), .int (-1), .int (-1), .int (-1), .int (-1), .int (-1), .int (-1), .int (-1), .int (-1), .int (-1), .int (-1), .int (-1), .int (-1), .int (-1), .int (-1), .int (-1), .int (-1), .int (-1), .int (-1), .int (-1), .int (-1), .int (-1), .int (-1), .int (-1), .int (-1), .int (-1), .int (-1), .int (-1), .int (-1), .int (-1), .int (-1), .int (-1), .int (-1), .int (-1), .int (-1), .int (-1), .int (-1), .int (-1), .int (-1), .int (-1), .int (-1), .int (-1), .int (-1), .int (-1), .int (-1), .int (-1), .int (-1), .int (-1), .int (-1), .int (-1), .int (-1), .int (-1), .int (-1), .int (-1), .int (-1), .int (-1), .int (-1), .int (-1), .int (-1), .int (-1), .int (-1), .int (-1), .int (-1), .int (-1), .int (-1), .int (-1), .int (-1), .int (-1), .int (-1), .int (-1), .int (-1), .int (-1), .int (-1), .int (-1), .int (-1), .int (-1), .int (-1), .int (-1), .int (-1), .int (-1), .int (-1), .int (-1), .int (-1), .int (-1), .int (-1), .int (-1), .int (-1), .int (-1), .int (-1), .int (-1), .int (-1), .int (-1), .int (-1), .int (-1), .int (-1), .int (-1), .int (-1), .int (-1), .int (-1), .int (-1), .int (-1), .int (-1), .int (-1), .int (-1), .int (-1), .int (-1), .int (-1), .int (-1), .int (-1), .int (-1), .int (-1), .int (-1), .int (-1), .int (-1), .int (-1), .int (-1), .int (-1), .int (-1), .int (-1)], vm := .none }]
def classes : Array Class := #[k0, k1, k2, k3, k4, k5, k6, k7, k8, k9, k10, k11, k12, k13, k14, k15, k16, k17, k18, k19, k20, k21, k22, k23, k24, k25, k26, k27, k28, k29]
def interned : List (Array UInt16 × Addr) := []
def slotsUsed : Nat := 305
def theMethod : MethodId := ⟨1, 1⟩
def args0 : Array Value := #[.long 0, .int 0, .int 0]
def aboutOver (below : List Frame) : State where
  vm := { classes := classes, interned := interned.toArray }
  heap := heap
  slotsUsed := slotsUsed
  threads := #[{ frames := .invoking theMethod args0 :: below }]
def below0 : List Frame := [.native { method := ⟨0, 0⟩, args := #[] }]
def about1 : State := aboutOver below0
def p0 : Program := .bare "" "" ""
def e0 : Env := launch0.env 0 0 0
theorem w_frames : about1.frames = Frame.invoking theMethod args0 :: below0 := rfl
set_option maxRecDepth 65536 in
theorem w_args : argsFit about1.vm theMethod args0 = true := by decide +kernel
set_option maxRecDepth 65536 in
theorem w_heap : heapFits about1 = true := by decide +kernel
set_option maxRecDepth 65536 in
theorem w_runnable : about1.curStatus? = some .runnable := by decide +kernel
set_option maxRecDepth 65536 in
theorem w_alone : about1.alone = true := by decide +kernel
set_option maxRecDepth 65536 in
theorem w_named : about1.methodNamed? x = some theMethod := by decide +kernel
set_option maxRecDepth 65536 in
theorem w_hears : about1.hears theMethod below0 = true := by decide +kernel
set_option maxRecDepth 65536 in
theorem w_ripe : about1.ripe theMethod args0 below0 = true := by decide +kernel
theorem w_running : about1.status = .running := rfl
set_option maxRecDepth 65536 in
theorem w_room : about1.hasRoom e0.platform room_1 = true :=
  launch0.hasRoom_least _ room_1 (by decide +kernel) (by decide +kernel) (by decide +kernel) (by decide +kernel) (by decide +kernel) (by decide +kernel)
theorem allAtoms_all (ts : List Jvm.Cond) (a : Array Jvm.Value) (st : Jvm.State) : (allAtoms ts).before a st = ts.all (fun c => c.before a st) := by
  induction ts with
  | nil => rfl
  | cons c t ih =>
    show (Jvm.Cond.and c (allAtoms t)).before a st = _
    rw [Jvm.Cond.before_and, ih, List.all_cons]
def words1 : List Jvm.Cond := Jvm.Cond.code x code maxLocals ret :: tables_1
/-- a 'code' word, met by the world's own term for the bytes: nothing is compared byte by byte -/
theorem code_word {y : MethodName} {bytes : ByteArray} {mx : Nat} {rt : Option FieldType} {a : Array Value} {s : State} {m : MethodId} {meth : Method} {c : Code} (h1 : s.methodNamed? y = some m) (h2 : s.vm.method? m = some meth) (h3 : meth.code = some c) (h4 : c.code = bytes)
    (h5 : (c.maxLocals == mx && c.exceptionTable.isEmpty && decide (c.maxStack ≤ mostOperands) && decide (meth.sig.returnType = rt) && !meth.locks && decide (parseMethodDescriptor y.desc = some meth.sig)) = true) : (Jvm.Cond.code y bytes mx rt).before a s = true := by
  simp only [Bool.and_eq_true, beq_iff_eq, Bool.not_eq_true', decide_eq_true_eq] at h5
  obtain ⟨⟨⟨⟨⟨g1, g2⟩, g3⟩, g4⟩, g5⟩, g6⟩ := h5
  simp [Cond.before, Cond.holds, Cond.value, h1, h2, h3, h4, g1, g2, g3, g4, g5, g6]
def isCode : Jvm.Cond → Bool
  | .code _ _ _ _ => true
  | _ => false
theorem all_split {L : List Jvm.Cond} {P : Jvm.Cond → Bool} (h1 : L.all (fun c => isCode c || P c) = true) (h2 : ∀ c ∈ L.filter isCode, P c = true) : L.all P = true := by
  refine List.all_eq_true.mpr fun c hc => ?_
  have h := List.all_eq_true.mp h1 c hc
  rcases Bool.eq_false_or_eq_true (isCode c) with hi | hi
  · exact h2 c (List.mem_filter.mpr ⟨hc, hi⟩)
  · simpa [hi] using h
set_option maxRecDepth 65536 in
theorem w_c0 : (Jvm.Cond.code x code maxLocals ret).before args0 about1 = true := code_word (m := ⟨1, 1⟩) (meth := k1m1) (c := k1c1) (by decide +kernel) rfl rfl rfl (by decide +kernel)
set_option maxRecDepth 65536 in
theorem w_c1 : (Jvm.Cond.code ({ cls := "com/example/torrey/torrey/Base64UrlDecodeWithOptionalPaddingPinLaw", name := "ub", desc := "(JII)I" } : Jvm.MethodName) method_3_code (4 : Nat) (Option.some Jvm.ClassFile.FieldType.int)).before args0 about1 = true := code_word (m := ⟨1, 2⟩) (meth := k1m2) (c := k1c2) (by decide +kernel) rfl rfl rfl (by decide +kernel)
set_option maxRecDepth 65536 in
theorem w_c2 : (Jvm.Cond.code ({ cls := "com/example/torrey/torrey/Base64UrlDecodeWithOptionalPaddingPinLaw", name := "ch", desc := "([III)C" } : Jvm.MethodName) method_5_code (3 : Nat) (Option.some Jvm.ClassFile.FieldType.char)).before args0 about1 = true := code_word (m := ⟨1, 4⟩) (meth := k1m4) (c := k1c4) (by decide +kernel) rfl rfl rfl (by decide +kernel)
set_option maxRecDepth 65536 in
theorem w_c3 : (Jvm.Cond.code ({ cls := "com/example/torrey/torrey/Base64UrlDecodeWithOptionalPaddingPinLaw", name := "alpha", desc := "(I)C" } : Jvm.MethodName) method_4_code (1 : Nat) (Option.some Jvm.ClassFile.FieldType.char)).before args0 about1 = true := code_word (m := ⟨1, 3⟩) (meth := k1m3) (c := k1c3) (by decide +kernel) rfl rfl rfl (by decide +kernel)
set_option maxRecDepth 65536 in
theorem w_c4 : (Jvm.Cond.code ({ cls := "com/example/torrey/torrey/Base64UrlDecodeWithOptionalPaddingPinLaw", name := "str", desc := "([CI)Ljava/lang/String;" } : Jvm.MethodName) method_7_code (2 : Nat) (Option.some (Jvm.ClassFile.FieldType.object "java/lang/String"))).before args0 about1 = true := code_word (m := ⟨1, 6⟩) (meth := k1m6) (c := k1c6) (by decide +kernel) rfl rfl rfl (by decide +kernel)
set_option maxRecDepth 65536 in
theorem w_c5 : (Jvm.Cond.code ({ cls := "java/lang/String", name := "<init>", desc := "([C)V" } : Jvm.MethodName) jdk_42_method_3_code (2 : Nat) (Option.none : Option Jvm.ClassFile.FieldType)).before args0 about1 = true := code_word (m := ⟨7, 1⟩) (meth := k7m1) (c := k7c1) (by decide +kernel) rfl rfl rfl (by decide +kernel)
set_option maxRecDepth 65536 in
theorem w_c6 : (Jvm.Cond.code ({ cls := "java/lang/String", name := "<init>", desc := "([CIILjava/lang/Void;)V" } : Jvm.MethodName) jdk_42_method_149_code (6 : Nat) (Option.none : Option Jvm.ClassFile.FieldType)).before args0 about1 = true := code_word (m := ⟨7, 9⟩) (meth := k7m9) (c := k7c9) (by decide +kernel) rfl rfl rfl (by decide +kernel)
set_option maxRecDepth 65536 in
theorem w_c7 : (Jvm.Cond.code ({ cls := "java/lang/Object", name := "<init>", desc := "()V" } : Jvm.MethodName) object_method_1_code (1 : Nat) (Option.none : Option Jvm.ClassFile.FieldType)).before args0 about1 = true := code_word (m := ⟨0, 0⟩) (meth := k0m0) (c := k0c0) (by decide +kernel) rfl rfl rfl (by decide +kernel)
set_option maxRecDepth 65536 in
theorem w_c8 : (Jvm.Cond.code ({ cls := "java/lang/StringUTF16", name := "compress", desc := "([CII)[B" } : Jvm.MethodName) jdk_52_method_16_code (6 : Nat) (Option.some (Jvm.ClassFile.FieldType.array Jvm.ClassFile.FieldType.byte))).before args0 about1 = true := code_word (m := ⟨8, 2⟩) (meth := k8m2) (c := k8c2) (by decide +kernel) rfl rfl rfl (by decide +kernel)
set_option maxRecDepth 65536 in
theorem w_c9 : (Jvm.Cond.code ({ cls := "java/lang/StringUTF16", name := "compress", desc := "([CI[BII)I" } : Jvm.MethodName) jdk_52_method_21_code (7 : Nat) (Option.some Jvm.ClassFile.FieldType.int)).before args0 about1 = true := code_word (m := ⟨8, 3⟩) (meth := k8m3) (c := k8c3) (by decide +kernel) rfl rfl rfl (by decide +kernel)
set_option maxRecDepth 65536 in
theorem w_c10 : (Jvm.Cond.code ({ cls := "java/lang/StringUTF16", name := "coderFromArrayLen", desc := "([BI)B" } : Jvm.MethodName) jdk_52_method_15_code (2 : Nat) (Option.some Jvm.ClassFile.FieldType.byte)).before args0 about1 = true := code_word (m := ⟨8, 1⟩) (meth := k8m1) (c := k8c1) (by decide +kernel) rfl rfl rfl (by decide +kernel)
set_option maxRecDepth 65536 in
theorem w_c11 : (Jvm.Cond.code ({ cls := "com/example/torrey/torrey/Base64Url", name := "decodeWithOptionalPadding", desc := "(Ljava/lang/String;)[B" } : Jvm.MethodName) prog_1_method_4_code (3 : Nat) (Option.some (Jvm.ClassFile.FieldType.array Jvm.ClassFile.FieldType.byte))).before args0 about1 = true := code_word (m := ⟨9, 2⟩) (meth := k9m2) (c := k9c2) (by decide +kernel) rfl rfl rfl (by decide +kernel)
set_option maxRecDepth 65536 in
theorem w_c12 : (Jvm.Cond.code ({ cls := "java/util/Objects", name := "requireNonNull", desc := "(Ljava/lang/Object;Ljava/lang/String;)Ljava/lang/Object;" } : Jvm.MethodName) jdk_31_method_11_code (2 : Nat) (Option.some (Jvm.ClassFile.FieldType.object "java/lang/Object"))).before args0 about1 = true := code_word (m := ⟨10, 1⟩) (meth := k10m1) (c := k10c1) (by decide +kernel) rfl rfl rfl (by decide +kernel)
set_option maxRecDepth 65536 in
theorem w_c13 : (Jvm.Cond.code ({ cls := "java/lang/String", name := "length", desc := "()I" } : Jvm.MethodName) jdk_42_method_54_code (1 : Nat) (Option.some Jvm.ClassFile.FieldType.int)).before args0 about1 = true := code_word (m := ⟨7, 5⟩) (meth := k7m5) (c := k7c5) (by decide +kernel) rfl rfl rfl (by decide +kernel)
set_option maxRecDepth 65536 in
theorem w_c14 : (Jvm.Cond.code ({ cls := "java/lang/String", name := "coder", desc := "()B" } : Jvm.MethodName) jdk_42_method_152_code (1 : Nat) (Option.some Jvm.ClassFile.FieldType.byte)).before args0 about1 = true := code_word (m := ⟨7, 11⟩) (meth := k7m11) (c := k7c11) (by decide +kernel) rfl rfl rfl (by decide +kernel)
set_option maxRecDepth 65536 in
theorem w_c15 : (Jvm.Cond.code ({ cls := "java/lang/String", name := "charAt", desc := "(I)C" } : Jvm.MethodName) jdk_42_method_56_code (2 : Nat) (Option.some Jvm.ClassFile.FieldType.char)).before args0 about1 = true := code_word (m := ⟨7, 6⟩) (meth := k7m6) (c := k7c6) (by decide +kernel) rfl rfl rfl (by decide +kernel)
set_option maxRecDepth 65536 in
theorem w_c16 : (Jvm.Cond.code ({ cls := "java/lang/String", name := "isLatin1", desc := "()Z" } : Jvm.MethodName) jdk_42_method_154_code (1 : Nat) (Option.some Jvm.ClassFile.FieldType.boolean)).before args0 about1 = true := code_word (m := ⟨7, 12⟩) (meth := k7m12) (c := k7c12) (by decide +kernel) rfl rfl rfl (by decide +kernel)
set_option maxRecDepth 65536 in
theorem w_c17 : (Jvm.Cond.code ({ cls := "java/lang/StringLatin1", name := "charAt", desc := "([BI)C" } : Jvm.MethodName) jdk_43_method_2_code (2 : Nat) (Option.some Jvm.ClassFile.FieldType.char)).before args0 about1 = true := code_word (m := ⟨11, 1⟩) (meth := k11m1) (c := k11c1) (by decide +kernel) rfl rfl rfl (by decide +kernel)
set_option maxRecDepth 65536 in
theorem w_c18 : (Jvm.Cond.code ({ cls := "java/lang/String", name := "checkIndex", desc := "(II)V" } : Jvm.MethodName) jdk_42_method_155_code (2 : Nat) (Option.none : Option Jvm.ClassFile.FieldType)).before args0 about1 = true := code_word (m := ⟨7, 13⟩) (meth := k7m13) (c := k7c13) (by decide +kernel) rfl rfl rfl (by decide +kernel)
set_option maxRecDepth 65536 in
theorem w_c19 : (Jvm.Cond.code ({ cls := "jdk/internal/util/Preconditions", name := "checkIndex", desc := "(IILjava/util/function/BiFunction;)I" } : Jvm.MethodName) jdk_41_method_11_code (3 : Nat) (Option.some Jvm.ClassFile.FieldType.int)).before args0 about1 = true := code_word (m := ⟨12, 1⟩) (meth := k12m1) (c := k12c1) (by decide +kernel) rfl rfl rfl (by decide +kernel)
set_option maxRecDepth 65536 in
theorem w_c20 : (Jvm.Cond.code ({ cls := "java/lang/String", name := "substring", desc := "(II)Ljava/lang/String;" } : Jvm.MethodName) jdk_42_method_92_code (5 : Nat) (Option.some (Jvm.ClassFile.FieldType.object "java/lang/String"))).before args0 about1 = true := code_word (m := ⟨7, 8⟩) (meth := k7m8) (c := k7c8) (by decide +kernel) rfl rfl rfl (by decide +kernel)
set_option maxRecDepth 65536 in
theorem w_c21 : (Jvm.Cond.code ({ cls := "java/lang/String", name := "checkBoundsBeginEnd", desc := "(III)V" } : Jvm.MethodName) jdk_42_method_158_code (3 : Nat) (Option.none : Option Jvm.ClassFile.FieldType)).before args0 about1 = true := code_word (m := ⟨7, 14⟩) (meth := k7m14) (c := k7c14) (by decide +kernel) rfl rfl rfl (by decide +kernel)
set_option maxRecDepth 65536 in
theorem w_c22 : (Jvm.Cond.code ({ cls := "jdk/internal/util/Preconditions", name := "checkFromToIndex", desc := "(IIILjava/util/function/BiFunction;)I" } : Jvm.MethodName) jdk_41_method_12_code (4 : Nat) (Option.some Jvm.ClassFile.FieldType.int)).before args0 about1 = true := code_word (m := ⟨12, 2⟩) (meth := k12m2) (c := k12c2) (by decide +kernel) rfl rfl rfl (by decide +kernel)
set_option maxRecDepth 65536 in
theorem w_c23 : (Jvm.Cond.code ({ cls := "java/lang/StringLatin1", name := "newString", desc := "([BII)Ljava/lang/String;" } : Jvm.MethodName) jdk_43_method_47_code (3 : Nat) (Option.some (Jvm.ClassFile.FieldType.object "java/lang/String"))).before args0 about1 = true := code_word (m := ⟨11, 2⟩) (meth := k11m2) (c := k11c2) (by decide +kernel) rfl rfl rfl (by decide +kernel)
set_option maxRecDepth 65536 in
theorem w_c24 : (Jvm.Cond.code ({ cls := "java/util/Arrays", name := "copyOfRange", desc := "([BII)[B" } : Jvm.MethodName) jdk_65_method_132_code (3 : Nat) (Option.some (Jvm.ClassFile.FieldType.array Jvm.ClassFile.FieldType.byte))).before args0 about1 = true := code_word (m := ⟨13, 2⟩) (meth := k13m2) (c := k13c2) (by decide +kernel) rfl rfl rfl (by decide +kernel)
set_option maxRecDepth 65536 in
theorem w_c25 : (Jvm.Cond.code ({ cls := "java/util/Arrays", name := "copyOfRangeByte", desc := "([BII)[B" } : Jvm.MethodName) jdk_65_method_133_code (5 : Nat) (Option.some (Jvm.ClassFile.FieldType.array Jvm.ClassFile.FieldType.byte))).before args0 about1 = true := code_word (m := ⟨13, 3⟩) (meth := k13m3) (c := k13c3) (by decide +kernel) rfl rfl rfl (by decide +kernel)
set_option maxRecDepth 65536 in
theorem w_c26 : (Jvm.Cond.code ({ cls := "java/util/Arrays", name := "checkLength", desc := "(II)V" } : Jvm.MethodName) jdk_65_method_131_code (2 : Nat) (Option.none : Option Jvm.ClassFile.FieldType)).before args0 about1 = true := code_word (m := ⟨13, 1⟩) (meth := k13m1) (c := k13c1) (by decide +kernel) rfl rfl rfl (by decide +kernel)
set_option maxRecDepth 65536 in
theorem w_c27 : (Jvm.Cond.code ({ cls := "java/lang/Math", name := "min", desc := "(II)I" } : Jvm.MethodName) jdk_29_method_69_code (2 : Nat) (Option.some Jvm.ClassFile.FieldType.int)).before args0 about1 = true := code_word (m := ⟨14, 1⟩) (meth := k14m1) (c := k14c1) (by decide +kernel) rfl rfl rfl (by decide +kernel)
set_option maxRecDepth 65536 in
theorem w_c28 : (Jvm.Cond.code ({ cls := "java/lang/String", name := "<init>", desc := "([BB)V" } : Jvm.MethodName) jdk_42_method_151_code (3 : Nat) (Option.none : Option Jvm.ClassFile.FieldType)).before args0 about1 = true := code_word (m := ⟨7, 10⟩) (meth := k7m10) (c := k7c10) (by decide +kernel) rfl rfl rfl (by decide +kernel)
set_option maxRecDepth 65536 in
theorem w_c29 : (Jvm.Cond.code ({ cls := "com/example/torrey/torrey/Base64Url", name := "decode", desc := "(Ljava/lang/String;)[B" } : Jvm.MethodName) prog_1_method_3_code (3 : Nat) (Option.some (Jvm.ClassFile.FieldType.array Jvm.ClassFile.FieldType.byte))).before args0 about1 = true := code_word (m := ⟨9, 1⟩) (meth := k9m1) (c := k9c1) (by decide +kernel) rfl rfl rfl (by decide +kernel)
set_option maxRecDepth 65536 in
theorem w_c30 : (Jvm.Cond.code ({ cls := "com/example/torrey/torrey/Base64Url", name := "sextet", desc := "(C)I" } : Jvm.MethodName) prog_1_method_5_code (1 : Nat) (Option.some Jvm.ClassFile.FieldType.int)).before args0 about1 = true := code_word (m := ⟨9, 3⟩) (meth := k9m3) (c := k9c3) (by decide +kernel) rfl rfl rfl (by decide +kernel)
set_option maxRecDepth 65536 in
theorem w_c31 : (Jvm.Cond.code ({ cls := "java/util/Base64$Decoder", name := "decode", desc := "(Ljava/lang/String;)[B" } : Jvm.MethodName) jdk_2450_method_3_code (2 : Nat) (Option.some (Jvm.ClassFile.FieldType.array Jvm.ClassFile.FieldType.byte))).before args0 about1 = true := code_word (m := ⟨16, 1⟩) (meth := k16m1) (c := k16c1) (by decide +kernel) rfl rfl rfl (by decide +kernel)
set_option maxRecDepth 65536 in
theorem w_c32 : (Jvm.Cond.code ({ cls := "java/lang/String", name := "getBytes", desc := "(Ljava/nio/charset/Charset;)[B" } : Jvm.MethodName) jdk_42_method_64_code (2 : Nat) (Option.some (Jvm.ClassFile.FieldType.array Jvm.ClassFile.FieldType.byte))).before args0 about1 = true := code_word (m := ⟨7, 7⟩) (meth := k7m7) (c := k7c7) (by decide +kernel) rfl rfl rfl (by decide +kernel)
set_option maxRecDepth 65536 in
theorem w_c33 : (Jvm.Cond.code ({ cls := "java/lang/String", name := "encode", desc := "(Ljava/nio/charset/Charset;B[B)[B" } : Jvm.MethodName) jdk_42_method_18_code (3 : Nat) (Option.some (Jvm.ClassFile.FieldType.array Jvm.ClassFile.FieldType.byte))).before args0 about1 = true := code_word (m := ⟨7, 2⟩) (meth := k7m2) (c := k7c2) (by decide +kernel) rfl rfl rfl (by decide +kernel)
set_option maxRecDepth 65536 in
theorem w_c34 : (Jvm.Cond.code ({ cls := "java/lang/String", name := "encode8859_1", desc := "(B[B)[B" } : Jvm.MethodName) jdk_42_method_26_code (2 : Nat) (Option.some (Jvm.ClassFile.FieldType.array Jvm.ClassFile.FieldType.byte))).before args0 about1 = true := code_word (m := ⟨7, 3⟩) (meth := k7m3) (c := k7c3) (by decide +kernel) rfl rfl rfl (by decide +kernel)
set_option maxRecDepth 65536 in
theorem w_c35 : (Jvm.Cond.code ({ cls := "java/lang/String", name := "encode8859_1", desc := "(B[BZ)[B" } : Jvm.MethodName) jdk_42_method_27_code (10 : Nat) (Option.some (Jvm.ClassFile.FieldType.array Jvm.ClassFile.FieldType.byte))).before args0 about1 = true := code_word (m := ⟨7, 4⟩) (meth := k7m4) (c := k7c4) (by decide +kernel) rfl rfl rfl (by decide +kernel)
set_option maxRecDepth 65536 in
theorem w_c36 : (Jvm.Cond.code ({ cls := "java/util/Base64$Decoder", name := "decode", desc := "([B)[B" } : Jvm.MethodName) jdk_2450_method_2_code (4 : Nat) (Option.some (Jvm.ClassFile.FieldType.array Jvm.ClassFile.FieldType.byte))).before args0 about1 = true := code_word (m := ⟨16, 0⟩) (meth := k16m0) (c := k16c0) (by decide +kernel) rfl rfl rfl (by decide +kernel)
set_option maxRecDepth 65536 in
theorem w_c37 : (Jvm.Cond.code ({ cls := "java/util/Base64$Decoder", name := "decodedOutLength", desc := "([BII)I" } : Jvm.MethodName) jdk_2450_method_7_code (9 : Nat) (Option.some Jvm.ClassFile.FieldType.int)).before args0 about1 = true := code_word (m := ⟨16, 2⟩) (meth := k16m2) (c := k16c2) (by decide +kernel) rfl rfl rfl (by decide +kernel)
set_option maxRecDepth 65536 in
theorem w_c38 : (Jvm.Cond.code ({ cls := "java/util/Base64$Decoder", name := "decode0", desc := "([BII[B)I" } : Jvm.MethodName) jdk_2450_method_9_code (11 : Nat) (Option.some Jvm.ClassFile.FieldType.int)).before args0 about1 = true := code_word (m := ⟨16, 4⟩) (meth := k16m4) (c := k16c4) (by decide +kernel) rfl rfl rfl (by decide +kernel)
set_option maxRecDepth 65536 in
theorem w_c39 : (Jvm.Cond.code ({ cls := "com/example/torrey/torrey/Base64UrlDecodeWithOptionalPaddingPinLaw", name := "same", desc := "([BIIJ)Z" } : Jvm.MethodName) method_6_code (5 : Nat) (Option.some Jvm.ClassFile.FieldType.boolean)).before args0 about1 = true := code_word (m := ⟨1, 5⟩) (meth := k1m5) (c := k1c5) (by decide +kernel) rfl rfl rfl (by decide +kernel)
set_option maxRecDepth 65536 in
theorem w_c40 : (Jvm.Cond.code ({ cls := "java/util/Base64$Decoder", name := "decodeBlock", desc := "([BII[BIZZ)I" } : Jvm.MethodName) jdk_2450_method_8_code (16 : Nat) (Option.some Jvm.ClassFile.FieldType.int)).before args0 about1 = true := code_word (m := ⟨16, 3⟩) (meth := k16m3) (c := k16c3) (by decide +kernel) rfl rfl rfl (by decide +kernel)
def codes1 : List Jvm.Cond := [Jvm.Cond.code x code maxLocals ret, Jvm.Cond.code ({ cls := "com/example/torrey/torrey/Base64UrlDecodeWithOptionalPaddingPinLaw", name := "ub", desc := "(JII)I" } : Jvm.MethodName) method_3_code (4 : Nat) (Option.some Jvm.ClassFile.FieldType.int), Jvm.Cond.code ({ cls := "com/example/torrey/torrey/Base64UrlDecodeWithOptionalPaddingPinLaw", name := "ch", desc := "([III)C" } : Jvm.MethodName) method_5_code (3 : Nat) (Option.some Jvm.ClassFile.FieldType.char), Jvm.Cond.code ({ cls := "com/example/torrey/torrey/Base64UrlDecodeWithOptionalPaddingPinLaw", name := "alpha", desc := "(I)C" } : Jvm.MethodName) method_4_code (1 : Nat) (Option.some Jvm.ClassFile.FieldType.char), Jvm.Cond.code ({ cls := "com/example/torrey/torrey/Base64UrlDecodeWithOptionalPaddingPinLaw", name := "str", desc := "([CI)Ljava/lang/String;" } : Jvm.MethodName) method_7_code (2 : Nat) (Option.some (Jvm.ClassFile.FieldType.object "java/lang/String")), Jvm.Cond.code ({ cls := "java/lang/String", name := "<init>", desc := "([C)V" } : Jvm.MethodName) jdk_42_method_3_code (2 : Nat) (Option.none : Option Jvm.ClassFile.FieldType), Jvm.Cond.code ({ cls := "java/lang/String", name := "<init>", desc := "([CIILjava/lang/Void;)V" } : Jvm.MethodName) jdk_42_method_149_code (6 : Nat) (Option.none : Option Jvm.ClassFile.FieldType), Jvm.Cond.code ({ cls := "java/lang/Object", name := "<init>", desc := "()V" } : Jvm.MethodName) object_method_1_code (1 : Nat) (Option.none : Option Jvm.ClassFile.FieldType), Jvm.Cond.code ({ cls := "java/lang/StringUTF16", name := "compress", desc := "([CII)[B" } : Jvm.MethodName) jdk_52_method_16_code (6 : Nat) (Option.some (Jvm.ClassFile.FieldType.array Jvm.ClassFile.FieldType.byte)), Jvm.Cond.code ({ cls := "java/lang/StringUTF16", name := "compress", desc := "([CI[BII)I" } : Jvm.MethodName) jdk_52_method_21_code (7 : Nat) (Option.some Jvm.ClassFile.FieldType.int), Jvm.Cond.code ({ cls := "java/lang/StringUTF16", name := "coderFromArrayLen", desc := "([BI)B" } : Jvm.MethodName) jdk_52_method_15_code (2 : Nat) (Option.some Jvm.ClassFile.FieldType.byte), Jvm.Cond.code ({ cls := "com/example/torrey/torrey/Base64Url", name := "decodeWithOptionalPadding", desc := "(Ljava/lang/String;)[B" } : Jvm.MethodName) prog_1_method_4_code (3 : Nat) (Option.some (Jvm.ClassFile.FieldType.array Jvm.ClassFile.FieldType.byte)), Jvm.Cond.code ({ cls := "java/util/Objects", name := "requireNonNull", desc := "(Ljava/lang/Object;Ljava/lang/String;)Ljava/lang/Object;" } : Jvm.MethodName) jdk_31_method_11_code (2 : Nat) (Option.some (Jvm.ClassFile.FieldType.object "java/lang/Object")), Jvm.Cond.code ({ cls := "java/lang/String", name := "length", desc := "()I" } : Jvm.MethodName) jdk_42_method_54_code (1 : Nat) (Option.some Jvm.ClassFile.FieldType.int), Jvm.Cond.code ({ cls := "java/lang/String", name := "coder", desc := "()B" } : Jvm.MethodName) jdk_42_method_152_code (1 : Nat) (Option.some Jvm.ClassFile.FieldType.byte), Jvm.Cond.code ({ cls := "java/lang/String", name := "charAt", desc := "(I)C" } : Jvm.MethodName) jdk_42_method_56_code (2 : Nat) (Option.some Jvm.ClassFile.FieldType.char), Jvm.Cond.code ({ cls := "java/lang/String", name := "isLatin1", desc := "()Z" } : Jvm.MethodName) jdk_42_method_154_code (1 : Nat) (Option.some Jvm.ClassFile.FieldType.boolean), Jvm.Cond.code ({ cls := "java/lang/StringLatin1", name := "charAt", desc := "([BI)C" } : Jvm.MethodName) jdk_43_method_2_code (2 : Nat) (Option.some Jvm.ClassFile.FieldType.char), Jvm.Cond.code ({ cls := "java/lang/String", name := "checkIndex", desc := "(II)V" } : Jvm.MethodName) jdk_42_method_155_code (2 : Nat) (Option.none : Option Jvm.ClassFile.FieldType), Jvm.Cond.code ({ cls := "jdk/internal/util/Preconditions", name := "checkIndex", desc := "(IILjava/util/function/BiFunction;)I" } : Jvm.MethodName) jdk_41_method_11_code (3 : Nat) (Option.some Jvm.ClassFile.FieldType.int), Jvm.Cond.code ({ cls := "java/lang/String", name := "substring", desc := "(II)Ljava/lang/String;" } : Jvm.MethodName) jdk_42_method_92_code (5 : Nat) (Option.some (Jvm.ClassFile.FieldType.object "java/lang/String")), Jvm.Cond.code ({ cls := "java/lang/String", name := "checkBoundsBeginEnd", desc := "(III)V" } : Jvm.MethodName) jdk_42_method_158_code (3 : Nat) (Option.none : Option Jvm.ClassFile.FieldType), Jvm.Cond.code ({ cls := "jdk/internal/util/Preconditions", name := "checkFromToIndex", desc := "(IIILjava/util/function/BiFunction;)I" } : Jvm.MethodName) jdk_41_method_12_code (4 : Nat) (Option.some Jvm.ClassFile.FieldType.int), Jvm.Cond.code ({ cls := "java/lang/StringLatin1", name := "newString", desc := "([BII)Ljava/lang/String;" } : Jvm.MethodName) jdk_43_method_47_code (3 : Nat) (Option.some (Jvm.ClassFile.FieldType.object "java/lang/String")), Jvm.Cond.code ({ cls := "java/util/Arrays", name := "copyOfRange", desc := "([BII)[B" } : Jvm.MethodName) jdk_65_method_132_code (3 : Nat) (Option.some (Jvm.ClassFile.FieldType.array Jvm.ClassFile.FieldType.byte)), Jvm.Cond.code ({ cls := "java/util/Arrays", name := "copyOfRangeByte", desc := "([BII)[B" } : Jvm.MethodName) jdk_65_method_133_code (5 : Nat) (Option.some (Jvm.ClassFile.FieldType.array Jvm.ClassFile.FieldType.byte)), Jvm.Cond.code ({ cls := "java/util/Arrays", name := "checkLength", desc := "(II)V" } : Jvm.MethodName) jdk_65_method_131_code (2 : Nat) (Option.none : Option Jvm.ClassFile.FieldType), Jvm.Cond.code ({ cls := "java/lang/Math", name := "min", desc := "(II)I" } : Jvm.MethodName) jdk_29_method_69_code (2 : Nat) (Option.some Jvm.ClassFile.FieldType.int), Jvm.Cond.code ({ cls := "java/lang/String", name := "<init>", desc := "([BB)V" } : Jvm.MethodName) jdk_42_method_151_code (3 : Nat) (Option.none : Option Jvm.ClassFile.FieldType), Jvm.Cond.code ({ cls := "com/example/torrey/torrey/Base64Url", name := "decode", desc := "(Ljava/lang/String;)[B" } : Jvm.MethodName) prog_1_method_3_code (3 : Nat) (Option.some (Jvm.ClassFile.FieldType.array Jvm.ClassFile.FieldType.byte)), Jvm.Cond.code ({ cls := "com/example/torrey/torrey/Base64Url", name := "sextet", desc := "(C)I" } : Jvm.MethodName) prog_1_method_5_code (1 : Nat) (Option.some Jvm.ClassFile.FieldType.int), Jvm.Cond.code ({ cls := "java/util/Base64$Decoder", name := "decode", desc := "(Ljava/lang/String;)[B" } : Jvm.MethodName) jdk_2450_method_3_code (2 : Nat) (Option.some (Jvm.ClassFile.FieldType.array Jvm.ClassFile.FieldType.byte)), Jvm.Cond.code ({ cls := "java/lang/String", name := "getBytes", desc := "(Ljava/nio/charset/Charset;)[B" } : Jvm.MethodName) jdk_42_method_64_code (2 : Nat) (Option.some (Jvm.ClassFile.FieldType.array Jvm.ClassFile.FieldType.byte)), Jvm.Cond.code ({ cls := "java/lang/String", name := "encode", desc := "(Ljava/nio/charset/Charset;B[B)[B" } : Jvm.MethodName) jdk_42_method_18_code (3 : Nat) (Option.some (Jvm.ClassFile.FieldType.array Jvm.ClassFile.FieldType.byte)), Jvm.Cond.code ({ cls := "java/lang/String", name := "encode8859_1", desc := "(B[B)[B" } : Jvm.MethodName) jdk_42_method_26_code (2 : Nat) (Option.some (Jvm.ClassFile.FieldType.array Jvm.ClassFile.FieldType.byte)), Jvm.Cond.code ({ cls := "java/lang/String", name := "encode8859_1", desc := "(B[BZ)[B" } : Jvm.MethodName) jdk_42_method_27_code (10 : Nat) (Option.some (Jvm.ClassFile.FieldType.array Jvm.ClassFile.FieldType.byte)), Jvm.Cond.code ({ cls := "java/util/Base64$Decoder", name := "decode", desc := "([B)[B" } : Jvm.MethodName) jdk_2450_method_2_code (4 : Nat) (Option.some (Jvm.ClassFile.FieldType.array Jvm.ClassFile.FieldType.byte)), Jvm.Cond.code ({ cls := "java/util/Base64$Decoder", name := "decodedOutLength", desc := "([BII)I" } : Jvm.MethodName) jdk_2450_method_7_code (9 : Nat) (Option.some Jvm.ClassFile.FieldType.int), Jvm.Cond.code ({ cls := "java/util/Base64$Decoder", name := "decode0", desc := "([BII[B)I" } : Jvm.MethodName) jdk_2450_method_9_code (11 : Nat) (Option.some Jvm.ClassFile.FieldType.int), Jvm.Cond.code ({ cls := "com/example/torrey/torrey/Base64UrlDecodeWithOptionalPaddingPinLaw", name := "same", desc := "([BIIJ)Z" } : Jvm.MethodName) method_6_code (5 : Nat) (Option.some Jvm.ClassFile.FieldType.boolean), Jvm.Cond.code ({ cls := "java/util/Base64$Decoder", name := "decodeBlock", desc := "([BII[BIZZ)I" } : Jvm.MethodName) jdk_2450_method_8_code (16 : Nat) (Option.some Jvm.ClassFile.FieldType.int)]
set_option maxRecDepth 65536 in
theorem codes_eq : words1.filter isCode = codes1 := rfl
theorem w_codes : ∀ c ∈ words1.filter isCode, c.before args0 about1 = true := by
  rw [codes_eq]
  intro c hc
  simp only [codes1, List.mem_cons, List.not_mem_nil, or_false] at hc
  rcases hc with rfl | rfl | rfl | rfl | rfl | rfl | rfl | rfl | rfl | rfl | rfl | rfl | rfl | rfl | rfl | rfl | rfl | rfl | rfl | rfl | rfl | rfl | rfl | rfl | rfl | rfl | rfl | rfl | rfl | rfl | rfl | rfl | rfl | rfl | rfl | rfl | rfl | rfl | rfl | rfl | rfl
  · exact w_c0
  · exact w_c1
  · exact w_c2
  · exact w_c3
  · exact w_c4
  · exact w_c5
  · exact w_c6
  · exact w_c7
  · exact w_c8
  · exact w_c9
  · exact w_c10
  · exact w_c11
  · exact w_c12
  · exact w_c13
  · exact w_c14
  · exact w_c15
  · exact w_c16
  · exact w_c17
  · exact w_c18
  · exact w_c19
  · exact w_c20
  · exact w_c21
  · exact w_c22
  · exact w_c23
  · exact w_c24
  · exact w_c25
  · exact w_c26
  · exact w_c27
  · exact w_c28
  · exact w_c29
  · exact w_c30
  · exact w_c31
  · exact w_c32
  · exact w_c33
  · exact w_c34
  · exact w_c35
  · exact w_c36
  · exact w_c37
  · exact w_c38
  · exact w_c39
  · exact w_c40
set_option maxRecDepth 65536 in
theorem w_t1 : (words1.take 24).all (fun c => isCode c || c.before args0 about1) = true := by decide +kernel
set_option maxRecDepth 65536 in
theorem w_t2 : ((words1.drop 24).take 24).all (fun c => isCode c || c.before args0 about1) = true := by decide +kernel
set_option maxRecDepth 65536 in
theorem w_t3 : (((words1.drop 24).drop 24).take 24).all (fun c => isCode c || c.before args0 about1) = true := by decide +kernel
set_option maxRecDepth 65536 in
theorem w_t4 : ((((words1.drop 24).drop 24).drop 24).take 24).all (fun c => isCode c || c.before args0 about1) = true := by decide +kernel
set_option maxRecDepth 65536 in
theorem w_t5 : (((((words1.drop 24).drop 24).drop 24).drop 24).take 24).all (fun c => isCode c || c.before args0 about1) = true := by decide +kernel
set_option maxRecDepth 65536 in
theorem w_t6 : ((((((words1.drop 24).drop 24).drop 24).drop 24).drop 24).take 24).all (fun c => isCode c || c.before args0 about1) = true := by decide +kernel
set_option maxRecDepth 65536 in
theorem w_t7 : (((((((words1.drop 24).drop 24).drop 24).drop 24).drop 24).drop 24).take 24).all (fun c => isCode c || c.before args0 about1) = true := by decide +kernel
set_option maxRecDepth 65536 in
theorem w_t8 : ((((((((words1.drop 24).drop 24).drop 24).drop 24).drop 24).drop 24).drop 24).take 24).all (fun c => isCode c || c.before args0 about1) = true := by decide +kernel
set_option maxRecDepth 65536 in
theorem w_t9 : ((((((((words1.drop 24).drop 24).drop 24).drop 24).drop 24).drop 24).drop 24).drop 24).all (fun c => isCode c || c.before args0 about1) = true := by decide +kernel
theorem w_tables : (allAtoms (Jvm.Cond.code x code maxLocals ret :: tables_1)).before args0 about1 = true := by
  rw [allAtoms_all]
  show words1.all (fun c => c.before args0 about1) = true
  refine all_split ?_ w_codes
  rw [← List.take_append_drop 24 words1, List.all_append, w_t1, ← List.take_append_drop 24 (words1.drop 24), List.all_append, w_t2, ← List.take_append_drop 24 ((words1.drop 24).drop 24), List.all_append, w_t3, ← List.take_append_drop 24 (((words1.drop 24).drop 24).drop 24), List.all_append, w_t4, ← List.take_append_drop 24 ((((words1.drop 24).drop 24).drop 24).drop 24), List.all_append, w_t5, ← List.take_append_drop 24 (((((words1.drop 24).drop 24).drop 24).drop 24).drop 24), List.all_append, w_t6, ← List.take_append_drop 24 ((((((words1.drop 24).drop 24).drop 24).drop 24).drop 24).drop 24), List.all_append, w_t7, ← List.take_append_drop 24 (((((((words1.drop 24).drop 24).drop 24).drop 24).drop 24).drop 24).drop 24), List.all_append, w_t8, w_t9]
  rfl
set_option maxRecDepth 65536 in
theorem w_rest : rest_1_c.before args0 about1 = true := by decide +kernel
set_option maxRecDepth 65536 in
theorem w_case : (Jvm.Cond.and given_1 narrow_1).before args0 about1 = true := by decide +kernel
set_option maxRecDepth 65536 in
theorem w_consts : constsHeld consts_1 about1 := Jvm.Lit.constsHeldB_iff.mp (by decide +kernel)
theorem w_applies : (headSpec (Jvm.Cond.code x code maxLocals ret :: tables_1) room_1).applies x e0.platform about1 = true :=
  (Spec.applies_iff w_frames).mpr ⟨w_running, w_runnable, w_alone, w_named, w_hears, w_ripe, w_room, w_tables⟩
theorem atStart : AtStart classFile x code maxLocals ret World_1 tables_1 room_1 Calls_1 rest_1 Pre_1 launch0 p0 e0 about1 theMethod args0 below0 :=
  ⟨lists_1, trivial, launch0.admits_env _ _ _, launch0.least_env, fairChoices_fair.cas, fairChoices_fair.clock, w_frames, w_args, w_heap, w_applies, ⟨w_consts, trivial⟩, w_rest, w_case⟩
end start1
theorem witness_1 : WitnessClaimed_1 := ⟨start1.p0, start1.e0, start1.about1, start1.theMethod, start1.args0, start1.below0, start1.atStart⟩
end Jvm.Pilot.@@N@@
