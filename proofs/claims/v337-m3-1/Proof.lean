import JvmDerived
import JvmDerived.Pilot.@@N@@Statement
import JvmDerived.Pilot.@@N@@Code
set_option linter.unusedVariables false
set_option linter.unusedSimpArgs false
namespace Jvm.Pilot.@@N@@
open Jvm Jvm.ClassFile Sem Op Lib Jvm.Free Jvm.Stand Jvm.LawKit Jvm.RoadKit Bundle Jvm.Pilot.@@N@@.Jvm.D
set_option maxRecDepth 65536
set_option maxHeartbeats 40000000
section OwnKit
variable {p : Program} {l : Launch} {e : Env} {R : Room} {s : State} {m : MethodId} {args : Array Value} {below : List Frame} {meth : Method} {c : Code} {T : State} {locs : List Loc} {cells slots : Nat} {Z : State} {a0 : Array Value} {h : Heap} {own : String} {cd : ByteArray} {maxL : Nat} {ret : Option FieldType} {nm : String} {n0 : Nat} {F : Option Value → Heap → Prop} {kc ks : Nat} {En : Outcome → State → Prop} {pc : Nat} {ls : Array Slot} {st : List Value}
/-- from the frame g over T the method runs to its end, returns v, leaves a heap, F holds of both; only new cells are written -/
def own_Go (p : Program) (e : Env) (below : List Frame) (En : Outcome → State → Prop) (T : State) (g : JFrame) : Prop :=
  ∃ s₂ o, Steps p.tables e below (T.setTop g) s₂ ∧ s₂.status = .running ∧ Ended s₂ below o ∧ En o s₂
def own_En (s : State) (n0 : Nat) (F : Option Value → Heap → Prop) (kc ks : Nat) (o : Outcome) (s₂ : State) : Prop := ∃ v L, o = .returned v ∧ (F v s₂.heap ∧ Fr n0 L) ∧ FrameEnd s o s₂ L kc ks
theorem own_step {T' : State} {g g' : JFrame} (st : ∀ t, Steps p.tables e below (T'.setTop g') t → Steps p.tables e below (T.setTop g) t) (k : own_Go p e below En T' g') : own_Go p e below En T g := by
  obtain ⟨s₂, o, h1, h2⟩ := k
  exact ⟨s₂, o, st _ h1, h2⟩
/-- what stays the same in one body -/
def own_Cx (p : Program) (s : State) (m : MethodId) (meth : Method) (c : Code) (Z : State) (own : String) (cd : ByteArray) (maxL : Nat) (ret : Option FieldType) (nm : String) : Prop :=
  p.tables.exec = Jvm.exec ∧ c.code = cd ∧ c.maxLocals = maxL ∧ s.vm.findClass own = some m.cls ∧ meth.name = nm ∧ meth.sig.returnType = ret ∧ meth.locks = false ∧ Z.Warmed39 s.vm
/-- where the walk stands: the heap is h, at most so many cells and slots have been made, nothing old was written -/
def own_S (p : Program) (l : Launch) (e : Env) (R : Room) (s : State) (m : MethodId) (args : Array Value) (below : List Frame) (meth : Method) (c : Code) (n0 : Nat) (T : State) (h : Heap) (cells slots : Nat) : Prop :=
  ∃ locs k n, Stand p l e R s m args below meth c T locs k n ∧ T.heap = h ∧ Fr n0 locs ∧ k ≤ cells ∧ n ≤ slots
theorem own_S.mono {c' s' : Nat} (S : own_S p l e R s m args below meth c n0 T h cells slots) (h1 : cells ≤ c') (h2 : slots ≤ s') : own_S p l e R s m args below meth c n0 T h c' s' := by
  obtain ⟨locs, k, n, X, e1, N, q1, q2⟩ := S
  exact ⟨locs, k, n, X, e1, N, Nat.le_trans q1 h1, Nat.le_trans q2 h2⟩
theorem own_hd (C : own_Cx p s m meth c Z own cd maxL ret nm) {i : Instr} {len : Nat} (hd : decode cd pc = .ok (i, len)) : decode c.code pc = .ok (i, len) := by rw [C.2.1]; exact hd
theorem own_hsz (C : own_Cx p s m meth c Z own cd maxL ret nm) (hsz : ls.size = maxL) : ls.size = c.maxLocals := by rw [C.2.2.1]; exact hsz
/-- the k-th table word -/
theorem own_wd {L : List Jvm.Cond} (hw : ∀ d ∈ L, d.before a0 Z = true) (i : Nat) {d : Jvm.Cond} (hi : L[i]? = some d) : d.before a0 Z = true := hw d (List.mem_of_getElem? hi)
/-- one plain instruction -/
def own_st (i : Instr) (len pc : Nat) (ls : Array Slot) (st : List Value) : Option (Nat × Array Slot × List Value) :=
  match i with
  | .iload_n k => match len, ls[k.val]? with | 1, some (.val (.int v)) => some (pc + 1, ls, .int v :: st) | _, _ => none
  | .iload k => match len, ls[k]? with | 2, some (.val (.int v)) => some (pc + 2, ls, .int v :: st) | _, _ => none
  | .lload_n k => match len, ls[k.val]? with | 1, some (.val (.long v)) => some (pc + 1, ls, .long v :: st) | _, _ => none
  | .lload k => match len, ls[k]? with | 2, some (.val (.long v)) => some (pc + 2, ls, .long v :: st) | _, _ => none
  | .dload_n k => match len, ls[k.val]? with | 1, some (.val (.double v)) => some (pc + 1, ls, .double v :: st) | _, _ => none
  | .dload k => match len, ls[k]? with | 2, some (.val (.double v)) => some (pc + 2, ls, .double v :: st) | _, _ => none
  | .aload_n k => match len, ls[k.val]? with | 1, some (.val (.ref v)) => some (pc + 1, ls, .ref v :: st) | 1, some (.val .null) => some (pc + 1, ls, .null :: st) | _, _ => none
  | .aload k => match len, ls[k]? with | 2, some (.val (.ref v)) => some (pc + 2, ls, .ref v :: st) | 2, some (.val .null) => some (pc + 2, ls, .null :: st) | _, _ => none
  | .istore_n k => match len, st with | 1, .int x :: r => (match storeLocals ls k.val (.int x) with | some l' => some (pc + 1, l', r) | none => none) | _, _ => none
  | .istore k => match len, st with | 2, .int x :: r => (match storeLocals ls k (.int x) with | some l' => some (pc + 2, l', r) | none => none) | _, _ => none
  | .lstore_n k => match len, st with | 1, .long x :: r => (match storeLocals ls k.val (.long x) with | some l' => some (pc + 1, l', r) | none => none) | _, _ => none
  | .lstore k => match len, st with | 2, .long x :: r => (match storeLocals ls k (.long x) with | some l' => some (pc + 2, l', r) | none => none) | _, _ => none
  | .dstore_n k => match len, st with | 1, .double x :: r => (match storeLocals ls k.val (.double x) with | some l' => some (pc + 1, l', r) | none => none) | _, _ => none
  | .dstore k => match len, st with | 2, .double x :: r => (match storeLocals ls k (.double x) with | some l' => some (pc + 2, l', r) | none => none) | _, _ => none
  | .astore_n k => match len, st with
    | 1, .ref x :: r => (match storeLocals ls k.val (.ref x) with | some l' => some (pc + 1, l', r) | none => none)
    | 1, .null :: r => (match storeLocals ls k.val .null with | some l' => some (pc + 1, l', r) | none => none)
    | _, _ => none
  | .astore k => match len, st with
    | 2, .ref x :: r => (match storeLocals ls k (.ref x) with | some l' => some (pc + 2, l', r) | none => none)
    | 2, .null :: r => (match storeLocals ls k .null with | some l' => some (pc + 2, l', r) | none => none)
    | _, _ => none
  | .iinc k d => match len, ls[k]? with | 3, some (.val (.int x)) => (match storeLocals ls k (.int (x + Int32.ofInt d)) with | some l' => some (pc + 3, l', st) | none => none) | _, _ => none
  | .iconst i => match len with | 1 => some (pc + 1, ls, .int (Int32.ofInt i) :: st) | _ => none
  | .bipush i => match len with | 2 => some (pc + 2, ls, .int (Int8.ofInt i).toInt32 :: st) | _ => none
  | .sipush i => match len with | 3 => some (pc + 3, ls, .int (Int16.ofInt i).toInt32 :: st) | _ => none
  | .lconst k => match len with | 1 => some (pc + 1, ls, .long (Int64.ofNat k) :: st) | _ => none
  | .aconst_null => match len with | 1 => some (pc + 1, ls, .null :: st) | _ => none
  | .iadd => match len, st with | 1, .int y :: .int x :: r => some (pc + 1, ls, .int (x + y) :: r) | _, _ => none
  | .isub => match len, st with | 1, .int y :: .int x :: r => some (pc + 1, ls, .int (x - y) :: r) | _, _ => none
  | .imul => match len, st with | 1, .int y :: .int x :: r => some (pc + 1, ls, .int (x * y) :: r) | _, _ => none
  | .iand => match len, st with | 1, .int y :: .int x :: r => some (pc + 1, ls, .int (x &&& y) :: r) | _, _ => none
  | .ior => match len, st with | 1, .int y :: .int x :: r => some (pc + 1, ls, .int (x ||| y) :: r) | _, _ => none
  | .ixor => match len, st with | 1, .int y :: .int x :: r => some (pc + 1, ls, .int (x ^^^ y) :: r) | _, _ => none
  | .ishl => match len, st with | 1, .int y :: .int x :: r => some (pc + 1, ls, .int (x <<< (y &&& 31)) :: r) | _, _ => none
  | .ishr => match len, st with | 1, .int y :: .int x :: r => some (pc + 1, ls, .int (x >>> (y &&& 31)) :: r) | _, _ => none
  | .iushr => match len, st with | 1, .int y :: .int x :: r => some (pc + 1, ls, .int (Jvm.Free.XT.ushr x y) :: r) | _, _ => none
  | .ineg => match len, st with | 1, .int x :: r => some (pc + 1, ls, .int (-x) :: r) | _, _ => none
  | .ladd => match len, st with | 1, .long y :: .long x :: r => some (pc + 1, ls, .long (x + y) :: r) | _, _ => none
  | .lsub => match len, st with | 1, .long y :: .long x :: r => some (pc + 1, ls, .long (x - y) :: r) | _, _ => none
  | .lmul => match len, st with | 1, .long y :: .long x :: r => some (pc + 1, ls, .long (x * y) :: r) | _, _ => none
  | .land => match len, st with | 1, .long y :: .long x :: r => some (pc + 1, ls, .long (x &&& y) :: r) | _, _ => none
  | .lor => match len, st with | 1, .long y :: .long x :: r => some (pc + 1, ls, .long (x ||| y) :: r) | _, _ => none
  | .lshl => match len, st with | 1, .int y :: .long x :: r => some (pc + 1, ls, .long (x <<< (y.toInt64 &&& 63)) :: r) | _, _ => none
  | .lshr => match len, st with | 1, .int y :: .long x :: r => some (pc + 1, ls, .long (x >>> (y.toInt64 &&& 63)) :: r) | _, _ => none
  | .lushr => match len, st with | 1, .int y :: .long x :: r => some (pc + 1, ls, .long (Jvm.Free.XT.ushrL x y) :: r) | _, _ => none
  | .lcmp => match len, st with | 1, .long y :: .long x :: r => some (pc + 1, ls, .int (Jvm.Free.XT.cmpL x y) :: r) | _, _ => none
  | .i2l => match len, st with | 1, .int x :: r => some (pc + 1, ls, .long x.toInt64 :: r) | _, _ => none
  | .l2i => match len, st with | 1, .long x :: r => some (pc + 1, ls, .int x.toInt32 :: r) | _, _ => none
  | .i2b => match len, st with | 1, .int x :: r => some (pc + 1, ls, .int x.toInt8.toInt32 :: r) | _, _ => none
  | .i2c => match len, st with | 1, .int x :: r => some (pc + 1, ls, .int x.toUInt32.toUInt16.toUInt32.toInt32 :: r) | _, _ => none
  | .i2s => match len, st with | 1, .int x :: r => some (pc + 1, ls, .int x.toInt16.toInt32 :: r) | _, _ => none
  | .i2d => match len, st with | 1, .int x :: r => some (pc + 1, ls, .double (FP.i2d x) :: r) | _, _ => none
  | .dup => match len, st with | 1, .int x :: r => some (pc + 1, ls, .int x :: .int x :: r) | 1, .ref x :: r => some (pc + 1, ls, .ref x :: .ref x :: r) | 1, .null :: r => some (pc + 1, ls, .null :: .null :: r) | _, _ => none
  | .pop => match len, st with | 1, .int x :: r => some (pc + 1, ls, r) | 1, .ref x :: r => some (pc + 1, ls, r) | 1, .null :: r => some (pc + 1, ls, r) | _, _ => none
  | .dup_x1 => match len, st with | 1, .int x :: .ref y :: r => some (pc + 1, ls, .int x :: .ref y :: .int x :: r) | 1, .int x :: .int y :: r => some (pc + 1, ls, .int x :: .int y :: .int x :: r) | 1, .ref x :: .ref y :: r => some (pc + 1, ls, .ref x :: .ref y :: .ref x :: r) | _, _ => none
  | .dup2 => match len, st with | 1, .int x :: .ref y :: r => some (pc + 1, ls, .int x :: .ref y :: .int x :: .ref y :: r) | 1, .int x :: .int y :: r => some (pc + 1, ls, .int x :: .int y :: .int x :: .int y :: r) | 1, .long x :: r => some (pc + 1, ls, .long x :: .long x :: r) | _, _ => none
  | .goto o => match len, decide (0 ≤ (pc : Int) + o) with | 3, true => some (((pc : Int) + o).toNat, ls, st) | _, _ => none
  | .ifnull o => match len, st, decide (0 ≤ (pc : Int) + o) with | 3, .null :: r, true => some (((pc : Int) + o).toNat, ls, r) | 3, .ref _ :: r, _ => some (pc + 3, ls, r) | _, _, _ => none
  | .ifnonnull o => match len, st, decide (0 ≤ (pc : Int) + o) with | 3, .ref _ :: r, true => some (((pc : Int) + o).toNat, ls, r) | 3, .null :: r, _ => some (pc + 3, ls, r) | _, _, _ => none
  | .ifCond q o => match len, st, decide (0 ≤ (pc : Int) + o) with
    | 3, .int x :: r, true => (match if_icmp.holds q x 0 with | true => some (((pc : Int) + o).toNat, ls, r) | false => some (pc + 3, ls, r))
    | _, _, _ => none
  | .if_icmp q o => match len, st, decide (0 ≤ (pc : Int) + o) with
    | 3, .int y :: .int x :: r, true => (match if_icmp.holds q x y with | true => some (((pc : Int) + o).toNat, ls, r) | false => some (pc + 3, ls, r))
    | _, _, _ => none
  | _ => none
theorem own_st_ok (X : Stand p l e R s m args below meth c T locs cells slots) (hx : p.tables.exec = Jvm.exec) {i : Instr} {len pc' : Nat} {ls' : Array Slot} {st' : List Value} (hd : decode c.code pc = .ok (i, len)) (hs : own_st i len pc ls st = some (pc', ls', st')) (t : State)
    (k : Steps p.tables e below (T.setTop (mkF m pc' ls' st')) t) : Steps p.tables e below (T.setTop (mkF m pc ls st)) t := by
  unfold own_st at hs
  split at hs
  · split at hs <;> first | cases hs | skip
    rename_i q; exact XS.iloadN X.here hx rfl hd q k
  · split at hs <;> first | cases hs | skip
    rename_i q; exact XS.iload X.here hx rfl hd q k
  · split at hs <;> first | cases hs | skip
    rename_i q; exact Jvm.Free.XT.lloadN X.here hx rfl hd q k
  · split at hs <;> first | cases hs | skip
    rename_i q; exact Jvm.Free.XT.lload X.here hx rfl hd q k
  · split at hs <;> first | cases hs | skip
    rename_i q; exact XS.dloadN X.here hx rfl hd q k
  · split at hs <;> first | cases hs | skip
    rename_i q; exact XS.dload X.here hx rfl hd q k
  · split at hs <;> first | cases hs | skip
    · rename_i q; exact XS.aloadN X.here hx rfl hd q rfl k
    · rename_i q; exact XS.aloadN X.here hx rfl hd q rfl k
  · split at hs <;> first | cases hs | skip
    · rename_i q; exact XS.aload X.here hx rfl hd q rfl k
    · rename_i q; exact XS.aload X.here hx rfl hd q rfl k
  · split at hs <;> first | cases hs | skip
    split at hs <;> first | cases hs | skip
    rename_i q; exact XS.istoreN X.here hx rfl hd rfl q k
  · split at hs <;> first | cases hs | skip
    split at hs <;> first | cases hs | skip
    rename_i q; exact XS.istore X.here hx rfl hd rfl q k
  · split at hs <;> first | cases hs | skip
    split at hs <;> first | cases hs | skip
    rename_i q; exact Jvm.Free.XT.lstoreN X.here hx rfl hd rfl q k
  · split at hs <;> first | cases hs | skip
    split at hs <;> first | cases hs | skip
    rename_i q; exact Jvm.Free.XT.lstore X.here hx rfl hd rfl q k
  · split at hs <;> first | cases hs | skip
    split at hs <;> first | cases hs | skip
    rename_i q; exact XS.dstoreN X.here hx rfl hd rfl q k
  · split at hs <;> first | cases hs | skip
    split at hs <;> first | cases hs | skip
    rename_i q; exact XS.dstore X.here hx rfl hd rfl q k
  · split at hs <;> first | cases hs | skip
    all_goals
      split at hs <;> first | cases hs | skip
      rename_i q; exact XS.astoreN X.here hx rfl hd rfl rfl q k
  · split at hs <;> first | cases hs | skip
    all_goals
      split at hs <;> first | cases hs | skip
      rename_i q; exact XS.astore X.here hx rfl hd rfl rfl q k
  · split at hs <;> first | cases hs | skip
    rename_i q0
    split at hs <;> first | cases hs | skip
    rename_i q; exact XS.iinc X.here hx rfl hd q0 q k
  · split at hs <;> first | cases hs | skip
    exact XS.iconst X.here hx rfl hd k
  · split at hs <;> first | cases hs | skip
    exact XS.bipush X.here hx rfl hd k
  · split at hs <;> first | cases hs | skip
    exact XS.sipush X.here hx rfl hd k
  · split at hs <;> first | cases hs | skip
    exact Jvm.Free.XT.lconst X.here hx rfl hd k
  · split at hs <;> first | cases hs | skip
    exact XS.aconstNull X.here hx rfl hd k
  · split at hs <;> first | cases hs | skip
    exact XS.iadd X.here hx rfl hd rfl k
  · split at hs <;> first | cases hs | skip
    exact XS.isub X.here hx rfl hd rfl k
  · split at hs <;> first | cases hs | skip
    exact XS.imul X.here hx rfl hd rfl k
  · split at hs <;> first | cases hs | skip
    exact XS.iand X.here hx rfl hd rfl k
  · split at hs <;> first | cases hs | skip
    exact Jvm.Free.XT.ior X.here hx rfl hd rfl k
  · split at hs <;> first | cases hs | skip
    exact Jvm.Free.XT.ixor X.here hx rfl hd rfl k
  · split at hs <;> first | cases hs | skip
    exact Jvm.Free.XT.ishl X.here hx rfl hd rfl k
  · split at hs <;> first | cases hs | skip
    exact Jvm.Free.XT.ishr X.here hx rfl hd rfl k
  · split at hs <;> first | cases hs | skip
    exact Jvm.Free.XT.iushr X.here hx rfl hd rfl k
  · split at hs <;> first | cases hs | skip
    exact XS.ineg X.here hx rfl hd rfl k
  · split at hs <;> first | cases hs | skip
    exact Jvm.Free.XT.ladd X.here hx rfl hd rfl k
  · split at hs <;> first | cases hs | skip
    exact Jvm.Free.XT.lsub X.here hx rfl hd rfl k
  · split at hs <;> first | cases hs | skip
    exact Jvm.Free.XT.lmul X.here hx rfl hd rfl k
  · split at hs <;> first | cases hs | skip
    exact Jvm.Free.XT.land X.here hx rfl hd rfl k
  · split at hs <;> first | cases hs | skip
    exact Jvm.Free.XT.lor X.here hx rfl hd rfl k
  · split at hs <;> first | cases hs | skip
    exact Jvm.Free.XT.lshl X.here hx rfl hd rfl k
  · split at hs <;> first | cases hs | skip
    exact Jvm.Free.XT.lshr X.here hx rfl hd rfl k
  · split at hs <;> first | cases hs | skip
    exact Jvm.Free.XT.lushr X.here hx rfl hd rfl k
  · split at hs <;> first | cases hs | skip
    exact Jvm.Free.XT.lcmp X.here hx rfl hd rfl k
  · split at hs <;> first | cases hs | skip
    exact Jvm.Free.XT.i2l X.here hx rfl hd rfl k
  · split at hs <;> first | cases hs | skip
    exact Jvm.Free.XT.l2i X.here hx rfl hd rfl k
  · split at hs <;> first | cases hs | skip
    exact Jvm.Free.XT.i2b X.here hx rfl hd rfl k
  · split at hs <;> first | cases hs | skip
    exact Jvm.Free.XT.i2c X.here hx rfl hd rfl k
  · split at hs <;> first | cases hs | skip
    exact Jvm.Free.XT.i2s X.here hx rfl hd rfl k
  · split at hs <;> first | cases hs | skip
    exact XS.i2dS X.here hx rfl hd rfl rfl k
  · split at hs <;> first | cases hs | skip
    all_goals exact XS.dup X.here hx rfl hd rfl rfl k
  · split at hs <;> first | cases hs | skip
    all_goals exact Jvm.Free.XT.pop X.here hx rfl hd rfl rfl k
  · split at hs <;> first | cases hs | skip
    all_goals exact Jvm.Free.XT.dupX1 X.here hx rfl hd rfl rfl rfl k
  · split at hs <;> first | cases hs | skip
    · exact Jvm.Free.XT.dup2 X.here hx rfl hd rfl rfl rfl k
    · exact Jvm.Free.XT.dup2 X.here hx rfl hd rfl rfl rfl k
    · exact Jvm.Free.XT.dup2L X.here hx rfl hd rfl k
  · split at hs <;> first | cases hs | skip
    rename_i q; exact XS.goto X.here hx rfl rfl hd (of_decide_eq_true q) rfl k
  · split at hs <;> first | cases hs | skip
    · rename_i q; exact XS.ifnullYes X.here hx rfl rfl hd rfl (of_decide_eq_true q) rfl k
    · exact XS.ifnullNo X.here hx rfl hd rfl k
  · split at hs <;> first | cases hs | skip
    · rename_i q; exact Jvm.Free.XT.ifnonnullYes X.here hx rfl rfl hd rfl (of_decide_eq_true q) rfl k
    · exact Jvm.Free.XT.ifnonnullNo X.here hx rfl hd rfl k
  · split at hs <;> first | cases hs | skip
    rename_i q1
    split at hs <;> (rename_i hc; rw [← if0] at hc; simp only [Option.some.injEq, Prod.mk.injEq] at hs; obtain ⟨rfl, rfl, rfl⟩ := hs)
    · exact XS.ifYes X.here hx rfl rfl hd rfl hc (of_decide_eq_true q1) rfl k
    · exact XS.ifNo X.here hx rfl hd rfl hc k
  · split at hs <;> first | cases hs | skip
    rename_i q1
    split at hs <;> (rename_i hc; simp only [Option.some.injEq, Prod.mk.injEq] at hs; obtain ⟨rfl, rfl, rfl⟩ := hs)
    · exact XS.icmpYes X.here hx rfl rfl hd rfl hc (of_decide_eq_true q1) rfl k
    · exact XS.icmpNo X.here hx rfl hd rfl hc k
  · cases hs
/-- a row of plain instructions -/
def own_run : List (Nat × Instr × Nat) → Nat → Array Slot → List Value → Option (Nat × Array Slot × List Value)
  | [], pc, ls, st => some (pc, ls, st)
  | x :: seg, pc, ls, st => match decide (pc = x.1) with
    | true => (match own_st x.2.1 x.2.2 x.1 ls st with | some (pc', ls', st') => own_run seg pc' ls' st' | none => none)
    | false => none
def own_dec (cd : ByteArray) (seg : List (Nat × Instr × Nat)) : Bool := seg.all fun x => decide (decode cd x.1 = .ok x.2)
theorem own_run_ok (X : Stand p l e R s m args below meth c T locs cells slots) (hx : p.tables.exec = Jvm.exec) (hby : c.code = cd) : ∀ (seg : List (Nat × Instr × Nat)) {pc pc' : Nat} {ls ls' : Array Slot} {st st' : List Value}, own_dec cd seg = true → own_run seg pc ls st = some (pc', ls', st') → ∀ t,
    Steps p.tables e below (T.setTop (mkF m pc' ls' st')) t → Steps p.tables e below (T.setTop (mkF m pc ls st)) t := by
  intro seg
  induction seg with
  | nil =>
    intro pc pc' ls ls' st st' _ hr t k
    simp only [own_run, Option.some.injEq, Prod.mk.injEq] at hr
    obtain ⟨rfl, rfl, rfl⟩ := hr
    exact k
  | cons x seg ih =>
    intro pc pc' ls ls' st st' hd hr t k
    simp only [own_dec, List.all_cons, Bool.and_eq_true, decide_eq_true_eq] at hd
    simp only [own_run] at hr
    split at hr
    · rename_i q
      have q' : pc = x.1 := of_decide_eq_true q
      subst q'
      split at hr
      · rename_i a1 b1 c1 q2
        exact own_st_ok X hx (by rw [hby]; exact hd.1) q2 t (ih hd.2 hr t k)
      · cases hr
    · cases hr
theorem own_seg (C : own_Cx p s m meth c Z own cd maxL ret nm) (S : own_S p l e R s m args below meth c n0 T h cells slots) (seg : List (Nat × Instr × Nat)) (hd : own_dec cd seg = true) (pc' : Nat) (ls' : Array Slot) (st' : List Value)
    (hr : own_run seg pc ls st = some (pc', ls', st')) (k : own_Go p e below En T (mkF m pc' ls' st')) : own_Go p e below En T (mkF m pc ls st) := by
  obtain ⟨locs, kk, n, X, -⟩ := S
  exact own_step (own_run_ok X C.1 C.2.1 seg hd hr) k
def own_P : ClassFile.Cond → Int32 → Int32 → Prop
  | .eq, x, y => x = y | .ne, x, y => ¬ x = y | .lt, x, y => x < y | .ge, x, y => ¬ x < y | .gt, x, y => y < x | .le, x, y => ¬ y < x
def own_N : ClassFile.Cond → Int32 → Int32 → Prop
  | .eq, x, y => ¬ x = y | .ne, x, y => x = y | .lt, x, y => ¬ x < y | .ge, x, y => x < y | .gt, x, y => ¬ y < x | .le, x, y => y < x
theorem own_holds (q : ClassFile.Cond) (x y : Int32) : (own_P q x y ∧ if_icmp.holds q x y = true) ∨ (own_N q x y ∧ if_icmp.holds q x y = false) := by
  cases q
  · by_cases g : x = y
    · exact Or.inl ⟨g, (teq g).1⟩
    · exact Or.inr ⟨g, (feq g).1⟩
  · by_cases g : x = y
    · exact Or.inr ⟨g, (teq g).2⟩
    · exact Or.inl ⟨g, (feq g).2⟩
  · by_cases g : x < y
    · exact Or.inl ⟨g, (tlt g).1⟩
    · exact Or.inr ⟨g, (flt g).1⟩
  · by_cases g : x < y
    · exact Or.inr ⟨g, (tlt g).2.1⟩
    · exact Or.inl ⟨g, (flt g).2.1⟩
  · by_cases g : y < x
    · exact Or.inl ⟨g, (tlt g).2.2.1⟩
    · exact Or.inr ⟨g, (flt g).2.2.1⟩
  · by_cases g : y < x
    · exact Or.inr ⟨g, (tlt g).2.2.2⟩
    · exact Or.inl ⟨g, (flt g).2.2.2⟩
theorem own_icmp (C : own_Cx p s m meth c Z own cd maxL ret nm) (S : own_S p l e R s m args below meth c n0 T h cells slots) {q : ClassFile.Cond} {o : Int} {x y : Int32} (hd : decode cd pc = .ok (.if_icmp q o, 3)) (pc' : Nat) (ho : 0 ≤ (pc : Int) + o) (hp : ((pc : Int) + o).toNat = pc')
    (k1 : own_P q x y → own_Go p e below En T (mkF m pc' ls st)) (k2 : own_N q x y → own_Go p e below En T (mkF m (pc + 3) ls st)) : own_Go p e below En T (mkF m pc ls (.int y :: .int x :: st)) := by
  obtain ⟨locs, kk, n, X, -⟩ := S
  rcases own_holds q x y with ⟨g, hc⟩ | ⟨g, hc⟩
  · exact own_step (fun t k => XS.icmpYes X.here C.1 rfl rfl (own_hd C hd) rfl hc ho hp k) (k1 g)
  · exact own_step (fun t k => XS.icmpNo X.here C.1 rfl (own_hd C hd) rfl hc k) (k2 g)
theorem own_if (C : own_Cx p s m meth c Z own cd maxL ret nm) (S : own_S p l e R s m args below meth c n0 T h cells slots) {q : ClassFile.Cond} {o : Int} {x : Int32} (hd : decode cd pc = .ok (.ifCond q o, 3)) (pc' : Nat) (ho : 0 ≤ (pc : Int) + o) (hp : ((pc : Int) + o).toNat = pc')
    (k1 : own_P q x 0 → own_Go p e below En T (mkF m pc' ls st)) (k2 : own_N q x 0 → own_Go p e below En T (mkF m (pc + 3) ls st)) : own_Go p e below En T (mkF m pc ls (.int x :: st)) := by
  obtain ⟨locs, kk, n, X, -⟩ := S
  rcases own_holds q x 0 with ⟨g, hc⟩ | ⟨g, hc⟩ <;> rw [← if0] at hc
  · exact own_step (fun t k => XS.ifYes X.here C.1 rfl rfl (own_hd C hd) rfl hc ho hp k) (k1 g)
  · exact own_step (fun t k => XS.ifNo X.here C.1 rfl (own_hd C hd) rfl hc k) (k2 g)
theorem own_irem (C : own_Cx p s m meth c Z own cd maxL ret nm) (S : own_S p l e R s m args below meth c n0 T h cells slots) {x y : Int32} (hd : decode cd pc = .ok (.irem, 1)) (hy : y ≠ 0) (k : own_Go p e below En T (mkF m (pc + 1) ls (.int (x % y) :: st))) : own_Go p e below En T (mkF m pc ls (.int y :: .int x :: st)) := by
  obtain ⟨locs, kk, n, X, -⟩ := S
  exact own_step (fun t k => iremM X C.1 rfl (own_hd C hd) rfl hy k) k
theorem own_dcmp (C : own_Cx p s m meth c Z own cd maxL ret nm) (S : own_S p l e R s m args below meth c n0 T h cells slots) {o : CmpOp} {x y : UInt64} (v : Int32) (hd : decode cd pc = .ok (.dcmp o, 1)) (hv : cmpValue (FP.dcmp x y) o = v) (k : own_Go p e below En T (mkF m (pc + 1) ls (.int v :: st))) : own_Go p e below En T (mkF m pc ls (.double y :: .double x :: st)) := by
  obtain ⟨locs, kk, n, X, -⟩ := S
  exact own_step (fun t k => XS.dcmpS X.here C.1 rfl (own_hd C hd) rfl hv k) k
theorem own_dmul (C : own_Cx p s m meth c Z own cd maxL ret nm) (S : own_S p l e R s m args below meth c n0 T h cells slots) {x y : UInt64} (v : UInt64) (hd : decode cd pc = .ok (.dmul, 1)) (hn : Jvm.Free.Fl.NoNaN64 (FP.dmul x y)) (hv : FP.dmul x y = v) (k : own_Go p e below En T (mkF m (pc + 1) ls (.double v :: st))) : own_Go p e below En T (mkF m pc ls (.double y :: .double x :: st)) := by
  obtain ⟨locs, kk, n, X, -⟩ := S
  exact own_step (fun t k => XS.dmulS X.here C.1 rfl (own_hd C hd) rfl hn hv k) k
theorem own_dconst0 (C : own_Cx p s m meth c Z own cd maxL ret nm) (S : own_S p l e R s m args below meth c n0 T h cells slots) (hd : decode cd pc = .ok (.dconst 0, 1)) (k : own_Go p e below En T (mkF m (pc + 1) ls (.double 0 :: st))) : own_Go p e below En T (mkF m pc ls st) := by
  obtain ⟨locs, kk, n, X, -⟩ := S
  exact own_step (fun t k => XS.dconst0 X.here C.1 rfl (own_hd C hd) rfl k) k
theorem own_ldc (C : own_Cx p s m meth c Z own cd maxL ret nm) (S : own_S p l e R s m args below meth c n0 T h cells slots) {index : Nat} {v : Int32} (w : (Jvm.Cond.constant own index v).before a0 Z = true) (hd : decode cd pc = .ok (.ldc index, 2)) (k : own_Go p e below En T (mkF m (pc + 2) ls (.int v :: st))) : own_Go p e below En T (mkF m pc ls st) := by
  obtain ⟨locs, kk, n, X, -⟩ := S
  exact own_step (fun t k => X.ldcInt C.1 C.2.2.2.1 (mv C.2.2.2.2.2.2.2 w) (g := mkF m pc ls st) rfl (own_hd C hd) t k) k
theorem own_ldc2D (C : own_Cx p s m meth c Z own cd maxL ret nm) (S : own_S p l e R s m args below meth c n0 T h cells slots) {index : Nat} {v : UInt64} (w : (Jvm.Cond.constantDouble own index v).before a0 Z = true) (hd : decode cd pc = .ok (.ldc2_w index, 3)) (k : own_Go p e below En T (mkF m (pc + 3) ls (.double v :: st))) : own_Go p e below En T (mkF m pc ls st) := by
  obtain ⟨locs, kk, n, X, -⟩ := S
  exact own_step (fun t k => X.ldc2DoubleC C.1 C.2.2.2.1 (mv C.2.2.2.2.2.2.2 w) (g := mkF m pc ls st) rfl (own_hd C hd) t k) k
theorem own_getF (C : own_Cx p s m meth c Z own cd maxL ret nm) (S : own_S p l e R s m args below meth c n0 T h cells slots) {index : Nat} {R0 O n d host : String} {a : Addr} {v : Value} (w : (Jvm.Cond.fieldLink own index R0 n d).before a0 Z = true ∨ (Jvm.Cond.fieldLinkNest own index R0 n d host).before a0 Z = true) (via : Via Z R0 O n d) (FF : Fld Z h a O n d v) (hd : decode cd pc = .ok (.getfield index, 3))
    (k : ∀ T', own_S p l e R s m args below meth c n0 T' h cells slots → own_Go p e below En T' (mkF m (pc + 3) ls (v :: st))) : own_Go p e below En T (mkF m pc ls (.ref a :: st)) := by
  obtain ⟨locs, kk, nn, X, eT, N, q1, q2⟩ := S
  obtain ⟨T', X', e', stp⟩ := getF X C.1 C.2.2.2.2.2.2.2 C.2.2.2.1 w via eT FF (g := mkF m pc ls (.ref a :: st)) rfl rfl (own_hd C hd)
  exact own_step stp (k T' ⟨_, _, _, X', e', N, q1, q2⟩)
theorem own_putF (C : own_Cx p s m meth c Z own cd maxL ret nm) (S : own_S p l e R s m args below meth c n0 T h cells slots) {index ki : Nat} {R0 O n d host Cl : String} {a : Addr} {v old : Value} {ty : FieldType} (w : (Jvm.Cond.fieldLink own index R0 n d).before a0 Z = true ∨ (Jvm.Cond.fieldLinkNest own index R0 n d host).before a0 Z = true) (via : Via Z R0 O n d) (FF : Fld Z h a O n d old) (E : Exa Z h a Cl)
    (L : (Jvm.Cond.lays Cl O n d).before a0 Z = true ∨ ((Jvm.Cond.laysFinal Cl O n d).before a0 Z = true ∧ own = O ∧ nm = "<init>")) (wi : (Jvm.Cond.instantiable Cl ki).before a0 Z = true) (hty : parseFieldDescriptor d = some ty) (hn : narrow ty v = v) (hf : fits ty v = true) (hge : n0 ≤ a) (hd : decode cd pc = .ok (.putfield index, 3))
    (k : ∀ T' h', own_S p l e R s m args below meth c n0 T' h' cells slots → Wr h h' a (Jvm.RoadKit.slotOf Z O n d) v → own_Go p e below En T' (mkF m (pc + 3) ls st)) : own_Go p e below En T (mkF m pc ls (v :: .ref a :: st)) := by
  obtain ⟨locs, kk, nn, X, eT, N, q1, q2⟩ := S
  obtain ⟨T', h', X', e', W, stp⟩ := putF X C.1 C.2.2.2.2.2.2.2 C.2.2.2.1 w via eT FF E (L.imp id (fun q => ⟨q.1, q.2.1, C.2.2.2.2.1.trans q.2.2⟩)) wi hty hn hf (g := mkF m pc ls (v :: .ref a :: st)) rfl rfl (own_hd C hd)
  exact own_step stp (k T' h' ⟨_, _, _, X', e', Fr.snoc X' N hge, q1, q2⟩ W)
theorem own_new (C : own_Cx p s m meth c Z own cd maxL ret nm) (S : own_S p l e R s m args below meth c n0 T h cells slots) {index ki : Nat} {Cl : String} (w : (Jvm.Cond.classLink own index Cl).before a0 Z = true) (wi : (Jvm.Cond.instantiable Cl ki).before a0 Z = true) (wz : (Jvm.Cond.initialized Cl).before a0 Z = true) (hd : decode cd pc = .ok (.new index, 3)) (hc : cells + 1 ≤ R.cells) (hl : slots + ki ≤ R.slots)
    (k : ∀ T' h' a, own_S p l e R s m args below meth c n0 T' h' (cells + 1) (slots + ki) → a = h.size → Ext h h' → Exa Z h' a Cl → (∀ {O nm d : String} {ty : FieldType}, Laid Z a0 Cl O nm d → parseFieldDescriptor d = some ty → Fld Z h' a O nm d (defaultValue ty)) → own_Go p e below En T' (mkF m (pc + 3) ls (.ref a :: st))) : own_Go p e below En T (mkF m pc ls st) := by
  obtain ⟨locs, kk, nn, X, eT, N, q1, q2⟩ := S
  obtain ⟨T', h', X', e', E, A, D, -, stp⟩ := newO X C.1 C.2.2.2.2.2.2.2 C.2.2.2.1 w wi wz eT (g := mkF m pc ls st) rfl (own_hd C hd) (by omega) (by omega)
  exact own_step stp (k T' h' _ ⟨_, _, _, X', e', N, by omega, by omega⟩ rfl E A D)
theorem own_initO (C : own_Cx p s m meth c Z own cd maxL ret nm) (S : own_S p l e R s m args below meth c n0 T h cells slots) {index : Nat} (w1 : (Jvm.Cond.methodLink own index Lib.objectInit).before a0 Z = true) (w2 : (Jvm.Cond.instanceMethod Lib.objectInit).before a0 Z = true) (w3 : (Jvm.Cond.code Lib.objectInit ⟨#[0xb1]⟩ 1 none).before a0 Z = true) {a : Addr} (hsz : ls.size = maxL) (hd : decode cd pc = .ok (.invokespecial index, 3)) (hf : 1 ≤ R.frames) (W : Nat) (hW : (st.map fun v => v.category).sum ≤ W) (hl : W + 12 ≤ R.locals)
    (k : ∀ T', own_S p l e R s m args below meth c n0 T' h cells slots → own_Go p e below En T' (mkF m (pc + 3) ls st)) : own_Go p e below En T (mkF m pc ls (.ref a :: st)) := by
  obtain ⟨locs, kk, nn, X, eT, N, q1, q2⟩ := S
  obtain ⟨T', X', e', stp⟩ := initO X C.1 C.2.2.2.2.2.2.2 C.2.2.2.1 w1 w2 w3 eT (g := mkF m pc ls (.ref a :: st)) rfl (own_hsz C hsz) rfl (own_hd C hd) hf (W := W) (by show 2 * 0 + _ ≤ W; omega) hl
  exact own_step stp (k T' ⟨_, _, _, X', e', N, q1, q2⟩)
theorem own_newP (C : own_Cx p s m meth c Z own cd maxL ret nm) (S : own_S p l e R s m args below meth c n0 T h cells slots) {aty : ArrayType} (w : (Jvm.Cond.arrayClass (newarray.typeOf aty)).before a0 Z = true) (hd : decode cd pc = .ok (.newarray aty, 2)) {n : Int32} (hn : ¬ n < 0) (cap : Nat) (hcap : n.toNatClampNeg ≤ cap) (hb : cap * 8 ≤ 536870912) (hc : cells + 1 ≤ R.cells) (hl : slots + cap ≤ R.slots)
    (k : ∀ T' h' a cA, own_S p l e R s m args below meth c n0 T' h' (cells + 1) (slots + cap) → a = h.size → Ext h h' → Arv Z h' a cA (newarray.typeOf aty) n [] (defaultValue (newarray.typeOf aty)) → own_Go p e below En T' (mkF m (pc + 2) ls (.ref a :: st))) : own_Go p e below En T (mkF m pc ls (.int n :: st)) := by
  obtain ⟨locs, kk, nn, X, eT, N, q1, q2⟩ := S
  obtain ⟨T', h', cA, X', e', E, A, stp⟩ := newP X C.1 C.2.2.2.2.2.2.2 w eT (g := mkF m pc ls (.int n :: st)) rfl (own_hd C hd) rfl hn hcap hb (by omega) (by omega)
  exact own_step stp (k T' h' _ cA ⟨_, _, _, X', e', N, by omega, by omega⟩ rfl E (Arv.new A hn))
theorem own_alen (C : own_Cx p s m meth c Z own cd maxL ret nm) (S : own_S p l e R s m args below meth c n0 T h cells slots) {a : Addr} {ka : ClassId} {ty : FieldType} {N : Int32} {vs : List Value} {dv : Value} (FF : Arv Z h a ka ty N vs dv) (hd : decode cd pc = .ok (.arraylength, 1)) (k : own_Go p e below En T (mkF m (pc + 1) ls (.int N :: st))) : own_Go p e below En T (mkF m pc ls (.ref a :: st)) := by
  obtain ⟨locs, kk, nn, X, eT, -⟩ := S
  obtain ⟨cl, A, -, sz, hN, -⟩ := FF
  rw [← len_of sz hN] at k
  exact own_step (fun t k => X.arraylength C.1 (by rw [eT]; exact A.1) (State.isArrayOf_alike C.2.2.2.2.2.2.2.alike A.2.1) (g := mkF m pc ls (.ref a :: st)) rfl rfl (own_hd C hd) t k) k
theorem own_daload (C : own_Cx p s m meth c Z own cd maxL ret nm) (S : own_S p l e R s m args below meth c n0 T h cells slots) {a : Addr} {ka : ClassId} {N j : Int32} {vs : List Value} {dv : Value} (FF : Arv Z h a ka .double N vs dv) (hin : ¬ j < 0 ∧ j < N) (v : Value) (hv : vs.getD j.toNatClampNeg dv = v) (hd : decode cd pc = .ok (.daload, 1)) (k : own_Go p e below En T (mkF m (pc + 1) ls (v :: st))) : own_Go p e below En T (mkF m pc ls (.int j :: .ref a :: st)) := by
  obtain ⟨locs, kk, nn, X, eT, -⟩ := S
  obtain ⟨cl, A, -, sz, hN, H, -⟩ := FF
  exact own_step (fun t k => X.daload C.1 (by rw [eT]; exact A.1) (State.isArrayOf_alike C.2.2.2.2.2.2.2.alike A.2.1) A.2.2 (inb_of sz hin) (Has.at H (inb_of sz hin) hv) (g := mkF m pc ls (.int j :: .ref a :: st)) rfl rfl (own_hd C hd) t k) k
theorem own_dastore (C : own_Cx p s m meth c Z own cd maxL ret nm) (S : own_S p l e R s m args below meth c n0 T h cells slots) {a : Addr} {ka : ClassId} {N j : Int32} {x : UInt64} {vs : List Value} {dv : Value} (FF : Arv Z h a ka .double N vs dv) (hin : ¬ j < 0 ∧ j < N) (i : Nat) (hj : j.toNatClampNeg = i) (hi : i < vs.length) (hge : n0 ≤ a) (hd : decode cd pc = .ok (.dastore, 1))
    (k : ∀ T' h', own_S p l e R s m args below meth c n0 T' h' cells slots → Wr h h' a j.toNatClampNeg (.double x) → Arv Z h' a ka .double N (vs.set i (.double x)) dv → own_Go p e below En T' (mkF m (pc + 1) ls st)) : own_Go p e below En T (mkF m pc ls (.double x :: .int j :: .ref a :: st)) := by
  obtain ⟨locs, kk, nn, X, eT, N, q1, q2⟩ := S
  obtain ⟨cl, A, ck, sz, hN, H, G⟩ := FF
  obtain ⟨T', h', X', e', W, stp⟩ := stD X C.1 C.2.2.2.2.2.2.2 eT A (inb_of sz hin) (g := mkF m pc ls (.double x :: .int j :: .ref a :: st)) rfl rfl (own_hd C hd)
  exact own_step stp (k T' h' ⟨_, _, _, X', e', Fr.snoc X' N hge, q1, q2⟩ W (Arv.set A ck sz hN H G rfl W i hj hi))
theorem own_ret {t : FieldType} (C : own_Cx p s m meth c Z own cd maxL (some t) nm) (S : own_S p l e R s m args below meth c n0 T h cells slots) {i : Instr} {w : Value} (hd : decode cd pc = .ok (i, 1)) (hn : narrow t w = w)
    (hi : (i = .ireturn ∧ (t = .int ∨ t = .boolean ∨ t = .byte ∨ t = .char ∨ t = .short) ∧ ∃ z, w = .int z) ∨ (i = .lreturn ∧ t = .long ∧ ∃ z, w = .long z) ∨ (i = .dreturn ∧ t = .double ∧ ∃ z, w = .double z) ∨ (i = .freturn ∧ t = .float ∧ ∃ z, w = .float z) ∨ (i = .areturn ∧ t.isReference = true ∧ w.isRef = true))
    (hc : cells ≤ kc) (hs : slots ≤ ks) (hF : F (some w) h) : own_Go p e below (own_En s n0 F kc ks) T (mkF m pc ls (w :: st)) := by
  obtain ⟨locs, kk, nn, X, eT, N, q1, q2⟩ := S
  obtain ⟨fs, hr, hrun, hended, hW, hsame⟩ := X.leave (v := some w) (fun q => by rw [C.2.2.2.2.2.1] at q; cases q) C.2.2.2.2.2.2.1
  refine ⟨_, _, retOut X C.1 C.2.2.2.2.2.1 hn hi (own_hd C hd) hr, hrun, hended, _, _, rfl, ⟨?_, N⟩, ⟨_, rfl⟩, hW, hsame.mono (Nat.le_trans q1 hc) (Nat.le_trans q2 hs)⟩
  show F (some w) T.heap
  rw [eT]; exact hF
theorem own_retI (C : own_Cx p s m meth c Z own cd maxL (some .int) nm) (S : own_S p l e R s m args below meth c n0 T h cells slots) {z : Int32} (hd : decode cd pc = .ok (.ireturn, 1)) (hc : cells ≤ kc) (hs : slots ≤ ks) (hF : F (some (.int z)) h) : own_Go p e below (own_En s n0 F kc ks) T (mkF m pc ls (.int z :: st)) :=
  own_ret C S hd rfl (Or.inl ⟨rfl, Or.inl rfl, z, rfl⟩) hc hs hF
theorem own_retZ (C : own_Cx p s m meth c Z own cd maxL (some .boolean) nm) (S : own_S p l e R s m args below meth c n0 T h cells slots) {z : Int32} (hd : decode cd pc = .ok (.ireturn, 1)) (hz : z &&& 1 = z) (hc : cells ≤ kc) (hs : slots ≤ ks) (hF : F (some (.int z)) h) : own_Go p e below (own_En s n0 F kc ks) T (mkF m pc ls (.int z :: st)) :=
  own_ret C S hd (by show Value.int (z &&& 1) = _; rw [hz]) (Or.inl ⟨rfl, Or.inr (Or.inl rfl), z, rfl⟩) hc hs hF
theorem own_retA {t : FieldType} (C : own_Cx p s m meth c Z own cd maxL (some t) nm) (S : own_S p l e R s m args below meth c n0 T h cells slots) {w : Value} (ht : t.isReference = true) (hr : w.isRef = true) (hd : decode cd pc = .ok (.areturn, 1)) (hc : cells ≤ kc) (hs : slots ≤ ks) (hF : F (some w) h) : own_Go p e below (own_En s n0 F kc ks) T (mkF m pc ls (w :: st)) :=
  own_ret C S hd (by cases w <;> simp [Value.isRef] at hr <;> cases t <;> first | rfl | (simp [FieldType.isReference] at ht)) (by simp [ht, hr]) hc hs hF
theorem own_retD (C : own_Cx p s m meth c Z own cd maxL (some .double) nm) (S : own_S p l e R s m args below meth c n0 T h cells slots) {z : UInt64} (hd : decode cd pc = .ok (.dreturn, 1)) (hc : cells ≤ kc) (hs : slots ≤ ks) (hF : F (some (.double z)) h) : own_Go p e below (own_En s n0 F kc ks) T (mkF m pc ls (.double z :: st)) :=
  own_ret C S hd rfl (by simp) hc hs hF
theorem own_retV (C : own_Cx p s m meth c Z own cd maxL none nm) (S : own_S p l e R s m args below meth c n0 T h cells slots) (hd : decode cd pc = .ok (.return_, 1)) (hc : cells ≤ kc) (hs : slots ≤ ks) (hF : F none h) : own_Go p e below (own_En s n0 F kc ks) T (mkF m pc ls []) := by
  obtain ⟨locs, kk, nn, X, eT, N, q1, q2⟩ := S
  obtain ⟨fs, hr, hrun, hended, hW, hsame⟩ := X.leave (v := none) (fun _ => rfl) C.2.2.2.2.2.2.1
  refine ⟨_, _, X.returnOut C.1 C.2.2.2.2.2.1 (own_hd C hd) hr, hrun, hended, _, _, rfl, ⟨?_, N⟩, ⟨_, rfl⟩, hW, hsame.mono (Nat.le_trans q1 hc) (Nat.le_trans q2 hs)⟩
  show F none T.heap
  rw [eT]; exact hF
def own_Met (l : Launch) (Z : State) (y : MethodName) (cd : ByteArray) (maxL : Nat) (ret : Option FieldType) (rm : Room) (n0 : Nat) (as' : Array Value) (h0 : Heap) (Q : Option Value → Heap → Prop) : Prop :=
  ∀ ws, MetFree l y (head1 (Jvm.Cond.code y cd maxL ret :: ws) rm) (fun a U => a = as' ∧ Z.Warmed39 U.vm ∧ U.heap = h0) (fun _ _ _ _ _ => True) (fun _ U o U' => ∃ v L, o = .returned v ∧ (Q v U'.heap ∧ Fr n0 L) ∧ FrameEnd U o U' L rm.cells rm.slots)
theorem own_met {y : MethodName} {rm : Room} {as' : Array Value} {h0 : Heap} {Q : Option Value → Heap → Prop} (hp : plainFor y = true) (ls : Array Slot) (hef : ∀ m, entryFrame m as' maxL = mkF m 0 ls [])
    (H : ∀ (p : Program) (e : Env) (s : State) (m : MethodId) (below : List Frame) (meth : Method) (c : Code) (T : State), own_Cx p s m meth c Z y.cls cd maxL ret y.name → own_S p l e rm s m as' below meth c n0 T h0 0 0 → own_Go p e below (own_En s n0 Q rm.cells rm.slots) T (mkF m 0 ls [])) : own_Met l Z y cd maxL ret rm n0 as' h0 Q := by
  intro ws
  refine MetFree.of_bodySF hp hisR ?_
  intro p e s m args below meth c s₁ Bd hml hP hK
  obtain ⟨rfl, hZ, hh⟩ := hP
  have e0 : s₁.heap = h0 := by rw [← hh, Bd.state]; rfl
  have G := H p e s m below meth c s₁ ⟨Bd.exec, Bd.bytes, hml, findClass_of_methodNamed Bd.named, (name_of_methodNamed Bd.named Bd.method).1, Bd.returns, BodyLoose.notSynchronized Bd, hZ⟩ ⟨_, _, _, Stand.of_body Bd, e0, Fr.nil n0, Nat.le_refl _, Nat.le_refl _⟩
  rw [← hef m] at G
  exact G
/-- who pays a call -/
abbrev own_Pay (l : Launch) (R : Room) (p : Program) (e : Env) (below : List Frame) (s : State) (args : Array Value) (y : MethodName) (len W : Nat) (as' : Array Value) (h : Heap) (k1 k2 : Nat) (Q : Option Value → Heap → List Loc → Prop) : Prop :=
  Back l R p e below s args y len W (fun P a => a = as' ∧ P.U.heap = h ∧ P.cells + k1 ≤ R.cells ∧ P.slots + k2 ≤ R.slots) (fun P _ v B => ∃ L, Q v B.U.heap L ∧ B.locs = P.locs ++ L ∧ B.cells = P.cells + k1 ∧ B.slots = P.slots + k2)
theorem own_Met.pay {y : MethodName} {cdy : ByteArray} {maxy : Nat} {rety : Option FieldType} {rm : Room} {as' : Array Value} {Q : Option Value → Heap → Prop} (M : own_Met l Z y cdy maxy rety rm n0 as' h Q) (C : own_Cx p s m meth c Z own cd maxL ret nm) {len : Nat} (W : Nat) (wc : (Jvm.Cond.code y cdy maxy rety).before a0 Z = true) (wz : (Jvm.Cond.initialized y.cls).before a0 Z = true) (hf : rm.frames + 1 ≤ R.frames) (hl : W + (maxy + 11) + rm.locals ≤ R.locals) :
    own_Pay l R p e below s args y len W as' h rm.cells rm.slots (fun v h' L => Q v h' ∧ Fr n0 L) := backOf (Q := fun v h' L => Q v h' ∧ Fr n0 L) (M []) C.2.2.2.2.2.2.2 wc wz hf hl
theorem own_callS (C : own_Cx p s m meth c Z own cd maxL ret nm) (S : own_S p l e R s m args below meth c n0 T h cells slots) {y : MethodName} {index : Nat} {cdy : ByteArray} {maxy : Nat} {rety : Option FieldType} {W k1 k2 : Nat} {as' : Array Value} {Q : Option Value → Heap → List Loc → Prop}
    (w1 : (Jvm.Cond.methodLink own index y).before a0 Z = true) (w2 : (Jvm.Cond.static y).before a0 Z = true) (w3 : (Jvm.Cond.initialized y.cls).before a0 Z = true) (w4 : (Jvm.Cond.code y cdy maxy rety).before a0 Z = true) (hy : y.cls ≠ "java/lang/invoke/MethodHandle" ∧ y.cls ≠ "java/lang/invoke/VarHandle")
    (hK : own_Pay l R p e below s args y 3 W as' h k1 k2 Q) (hfr : ∀ v h' L, Q v h' L → Fr n0 L) (argsL rest : List Value) {ps : List FieldType} {rr : Option FieldType} (has : argsL.toArray = as') (hpd : parseMethodDescriptor y.desc = some ⟨ps, rr⟩) (hlen : argsL.length = ps.length) (hstk : st = argsL.reverse ++ rest) (hsz : ls.size = maxL) (hW : (rest.map fun v => v.category).sum ≤ W)
    (hc : cells + k1 ≤ R.cells) (hs : slots + k2 ≤ R.slots) (hd : decode cd pc = .ok (.invokestatic index, 3))
    (k : ∀ T' h' v L, own_S p l e R s m args below meth c n0 T' h' (cells + k1) (slots + k2) → Q v h' L → own_Go p e below En T' (mkF m (pc + 3) ls (v.toList ++ rest))) : own_Go p e below En T (mkF m pc ls st) := by
  obtain ⟨locs, kk, nn, X, eT, N, q1, q2⟩ := S
  have hZ := C.2.2.2.2.2.2.2
  obtain ⟨v, vm1, B, -, X', ⟨L, hQ, l1, l2, l3⟩, stp⟩ := Jvm.LawKit.callS X C.1 C.2.2.2.1 (mvT hZ w1) (mvT hZ w2) (mvT hZ w3) (mvT hZ w4) hy hK (g := mkF m pc ls st) rfl (own_hsz C hsz) (argsL := argsL) (rest := rest) (lenOf hpd hlen) hstk (by show 2 * 0 + _ ≤ W; omega) (own_hd C hd) (fun _ _ => ⟨has, eT, by show kk + k1 ≤ _; omega, by show nn + k2 ≤ _; omega⟩)
  refine own_step stp (k B.U _ v L ⟨B.locs, B.cells, B.slots, X', rfl, ?_, ?_, ?_⟩ hQ)
  · rw [l1]; exact Fr.app N (hfr _ _ _ hQ)
  · rw [l2]; show kk + k1 ≤ _; omega
  · rw [l3]; show nn + k2 ≤ _; omega
theorem own_callI (C : own_Cx p s m meth c Z own cd maxL ret nm) (S : own_S p l e R s m args below meth c n0 T h cells slots) {y : MethodName} {index : Nat} {cdy : ByteArray} {maxy : Nat} {W k1 k2 : Nat} {as' : Array Value} {Q : Option Value → Heap → List Loc → Prop}
    (hy1 : y.name = "<init>") (w1 : (Jvm.Cond.methodLink own index y).before a0 Z = true) (w2 : (Jvm.Cond.instanceMethod y).before a0 Z = true) (w4 : (Jvm.Cond.code y cdy maxy none).before a0 Z = true) (hy : y.cls ≠ "java/lang/invoke/MethodHandle" ∧ y.cls ≠ "java/lang/invoke/VarHandle")
    (hK : own_Pay l R p e below s args y 3 W as' h k1 k2 Q) (hfr : ∀ v h' L, Q v h' L → Fr n0 L) {a : Addr} (argsL rest : List Value) {ps : List FieldType} {rr : Option FieldType} (has : (.ref a :: argsL).toArray = as') (hpd : parseMethodDescriptor y.desc = some ⟨ps, rr⟩) (hlen : argsL.length = ps.length) (hstk : st = argsL.reverse ++ .ref a :: rest) (hsz : ls.size = maxL) (hW : (rest.map fun v => v.category).sum ≤ W)
    (hc : cells + k1 ≤ R.cells) (hs : slots + k2 ≤ R.slots) (hd : decode cd pc = .ok (.invokespecial index, 3))
    (k : ∀ T' h' v L, own_S p l e R s m args below meth c n0 T' h' (cells + k1) (slots + k2) → Q v h' L → own_Go p e below En T' (mkF m (pc + 3) ls (v.toList ++ rest))) : own_Go p e below En T (mkF m pc ls st) := by
  obtain ⟨locs, kk, nn, X, eT, N, q1, q2⟩ := S
  have hZ := C.2.2.2.2.2.2.2
  obtain ⟨v, vm1, B, -, X', ⟨L, hQ, l1, l2, l3⟩, stp⟩ := X.specialBack C.1 hy1 C.2.2.2.1 (mvT hZ w1) (mvT hZ w2) (mvT hZ w4) hy hK (g := mkF m pc ls st) rfl (own_hsz C hsz) (Steps.refl _) (a := a) (argsL := argsL) (rest := rest) (lenOf hpd hlen) hstk (by show 2 * 0 + _ ≤ W; omega) (own_hd C hd) (fun _ _ => ⟨has, eT, by show kk + k1 ≤ _; omega, by show nn + k2 ≤ _; omega⟩)
  refine own_step (fun t k => stp.trans k) (k B.U _ v L ⟨B.locs, B.cells, B.slots, X', rfl, ?_, ?_, ?_⟩ hQ)
  · rw [l1]; exact Fr.app N (hfr _ _ _ hQ)
  · rw [l2]; show kk + k1 ≤ _; omega
  · rw [l3]; show nn + k2 ≤ _; omega
theorem own_nf {args : Array Value} {s : State} {C : String} {y y' : MethodName} (hyc : y'.cls = y.cls) (hsel : (Jvm.Cond.selects C y' y').before args s = true) : NotFace s y := fun r0 h0 => by
  obtain ⟨c2, r2, m2, q1, q2, q3, q4, kP, hkP, hkPi⟩ := Cond.selects_spec hsel
  have e1 := findClass_of_methodNamed h0
  have e2 := findClass_of_methodNamed q3
  rw [hyc, e1] at e2
  rw [Option.some.inj e2]
  exact ⟨kP, hkP, hkPi⟩
theorem own_callV (C : own_Cx p s m meth c Z own cd maxL ret nm) (S : own_S p l e R s m args below meth c n0 T h cells slots) {y z : MethodName} {Cl : String} {index : Nat} {W k1 k2 : Nat} {as' : Array Value} {Q : Option Value → Heap → List Loc → Prop}
    (w1 : (Jvm.Cond.methodLink own index y).before a0 Z = true) (w2 : (Jvm.Cond.declares y).before a0 Z = true) (w3 : (Jvm.Cond.selects Cl y z).before a0 Z = true) {Cl' : String} {y' : MethodName} (w3' : (Jvm.Cond.selects Cl' y' y').before a0 Z = true) (hyc : y'.cls = y.cls) (w4 : (Jvm.Cond.instanceMethod z).before a0 Z = true) (hy : y.cls ≠ "java/lang/invoke/MethodHandle" ∧ y.cls ≠ "java/lang/invoke/VarHandle")
    (hK : own_Pay l R p e below s args z 3 W as' h k1 k2 Q) (hfr : ∀ v h' L, Q v h' L → Fr n0 L) {a : Addr} (E : Exa Z h a Cl) (argsL rest : List Value) {ps : List FieldType} {rr : Option FieldType} (has : (.ref a :: argsL).toArray = as') (hpd : parseMethodDescriptor y.desc = some ⟨ps, rr⟩) (hlen : argsL.length = ps.length) (hstk : st = argsL.reverse ++ .ref a :: rest) (hsz : ls.size = maxL) (hW : (rest.map fun v => v.category).sum ≤ W)
    (hc : cells + k1 ≤ R.cells) (hs : slots + k2 ≤ R.slots) (hd : decode cd pc = .ok (.invokevirtual index, 3))
    (k : ∀ T' h' v L, own_S p l e R s m args below meth c n0 T' h' (cells + k1) (slots + k2) → Q v h' L → own_Go p e below En T' (mkF m (pc + 3) ls (v.toList ++ rest))) : own_Go p e below En T (mkF m pc ls st) := by
  obtain ⟨locs, kk, nn, X, eT, N, q1, q2⟩ := S
  have hZ := C.2.2.2.2.2.2.2
  obtain ⟨cq, kq, qa, qb, qc⟩ := isOf (T := T) hZ eT E
  obtain ⟨v, vm1, B, -, X', ⟨L, hQ, l1, l2, l3⟩, stp⟩ := X.virtualBack C.1 C.2.2.2.1 (mvT hZ w1) (mvT hZ w2) (own_nf (args := #[]) hyc (mvT hZ w3')) (mvT hZ w3) (mvT hZ w4) hy hK qa qc (g := mkF m pc ls st) rfl (own_hsz C hsz) (Steps.refl _) (argsL := argsL) (rest := rest) (lenOf hpd hlen) hstk (by show 2 * 0 + _ ≤ W; omega) (own_hd C hd) (fun _ _ => ⟨has, eT, by show kk + k1 ≤ _; omega, by show nn + k2 ≤ _; omega⟩)
  refine own_step (fun t k => stp.trans k) (k B.U _ v L ⟨B.locs, B.cells, B.slots, X', rfl, ?_, ?_, ?_⟩ hQ)
  · rw [l1]; exact Fr.app N (hfr _ _ _ hQ)
  · rw [l2]; show kk + k1 ≤ _; omega
  · rw [l3]; show nn + k2 ≤ _; omega
end OwnKit

section OwnKitW
open Jvm.Free.SB Jvm.Free.SBG
variable {p : Program} {l : Launch} {e : Env} {R : Room} {s : State} {m : MethodId} {args : Array Value} {below : List Frame} {meth : Method} {c : Code} {T : State} {locs : List Loc} {cells slots : Nat} {Z : State} {a0 : Array Value} {h : Heap} {own : String} {cd : ByteArray} {maxL : Nat} {ret : Option FieldType} {nm : String} {n0 : Nat} {F : Option Value → Heap → Prop} {kc ks : Nat} {En : Outcome → State → Prop} {pc : Nat} {ls : Array Slot} {st : List Value} {EL : List (String × Nat)} {G : List Addr}
end OwnKitW

theorem own_b53 (x : Int32) : B53 x.toInt64 := by
  have h1 := x.le_toInt
  have h2 := x.toInt_lt
  constructor <;> rw [Int32.toInt_toInt64] <;> omega
theorem own_dc (x y : Int32) : FP.dcmp (FP.i2d x) (FP.i2d y) = some (if x.toInt < y.toInt then .lt else if x.toInt = y.toInt then .eq else .gt) := by
  rw [i2d_w, i2d_w, dcmp_ws (own_b53 x) (own_b53 y), Int32.toInt_toInt64, Int32.toInt_toInt64]
theorem own_pk (g : Bool) (a b : UInt64) : Jvm.Native.java_lang_Math.nans.pick64 g a b = (match FP.dcmp a b with | some .lt => if g then b else a | some .gt => if g then a else b | _ => if (a >>> 63 == 1) == g then b else a) := rfl
theorem own_pl {g : Bool} {a b : UInt64} (h : FP.dcmp a b = some .lt) : Jvm.Native.java_lang_Math.nans.pick64 g a b = if g then b else a := by rw [own_pk, h]
theorem own_pg {g : Bool} {a b : UInt64} (h : FP.dcmp a b = some .gt) : Jvm.Native.java_lang_Math.nans.pick64 g a b = if g then a else b := by rw [own_pk, h]
theorem own_ps (g : Bool) (a : UInt64) : Jvm.Native.java_lang_Math.nans.pick64 g a a = a := by
  rw [own_pk]
  split <;> split <;> rfl
theorem own_gt {x : UInt64} (h : Jvm.Free.Fl.Fin64 x) : FP.dcmp 9218868437227405312 x = some .gt := by
  have q := dcmp_pinf' h .l
  cases e : FP.dcmp 9218868437227405312 x with
  | none => rw [e] at q; exact absurd q (by decide)
  | some o =>
    rw [e] at q
    cases o
    · exact absurd q (by decide)
    · exact absurd q (by decide)
    · rfl
theorem own_lt {x : UInt64} (h : Jvm.Free.Fl.Fin64 x) : FP.dcmp 18442240474082181120 x = some .lt := by
  have q := dcmp_ninf' h .g
  cases e : FP.dcmp 18442240474082181120 x with
  | none => rw [e] at q; exact absurd q (by decide)
  | some o =>
    rw [e] at q
    cases o
    · rfl
    · exact absurd q (by decide)
    · exact absurd q (by decide)
theorem own_pn0 (x : Int32) : Jvm.Native.java_lang_Math.nans.pick64 false 9218868437227405312 (FP.i2d x) = FP.i2d x := by rw [own_pg (own_gt (Jvm.Free.Fl.i2d_fin x))]; rfl
theorem own_px0 (x : Int32) : Jvm.Native.java_lang_Math.nans.pick64 true 18442240474082181120 (FP.i2d x) = FP.i2d x := by rw [own_pl (own_lt (Jvm.Free.Fl.i2d_fin x))]; rfl
theorem own_pn (a b : Int32) : Jvm.Native.java_lang_Math.nans.pick64 false (FP.i2d a) (FP.i2d b) = FP.i2d (if b < a then b else a) := by
  by_cases h1 : a.toInt < b.toInt
  · have h3 : ¬ b < a := by rw [Int32.lt_iff_toInt_lt]; omega
    rw [own_pl (by rw [own_dc, if_pos h1]), if_neg h3]; rfl
  · by_cases h2 : a.toInt = b.toInt
    · obtain rfl := Int32.toInt_inj.mp h2
      rw [own_ps, if_neg (Int32.lt_irrefl)]
    · have h3 : b < a := by rw [Int32.lt_iff_toInt_lt]; omega
      rw [own_pg (by rw [own_dc, if_neg h1, if_neg h2]), if_pos h3]; rfl
theorem own_px (a b : Int32) : Jvm.Native.java_lang_Math.nans.pick64 true (FP.i2d a) (FP.i2d b) = FP.i2d (if a < b then b else a) := by
  by_cases h1 : a.toInt < b.toInt
  · have h3 : a < b := by rw [Int32.lt_iff_toInt_lt]; omega
    rw [own_pl (by rw [own_dc, if_pos h1]), if_pos h3]; rfl
  · by_cases h2 : a.toInt = b.toInt
    · obtain rfl := Int32.toInt_inj.mp h2
      rw [own_ps, if_neg (Int32.lt_irrefl)]
    · have h3 : ¬ a < b := by rw [Int32.lt_iff_toInt_lt]; omega
      rw [own_pg (by rw [own_dc, if_neg h1, if_neg h2]), if_neg h3]; rfl
theorem own_nnp : Jvm.Free.Fl.NoNaN64 9218868437227405312 := by unfold Jvm.Free.Fl.NoNaN64; decide
theorem own_nnn : Jvm.Free.Fl.NoNaN64 18442240474082181120 := by unfold Jvm.Free.Fl.NoNaN64; decide
theorem own_minP {Z s : State} {a0 : Array Value} {p : Program} {m : MethodId} {meth : Method} {c : Code} {own : String} {cd : ByteArray} {maxL : Nat} {ret : Option FieldType} {nm : String} {l : Launch} {R : Room} {e : Env} {below : List Frame} {args : Array Value} {h : Heap} (C : own_Cx p s m meth c Z own cd maxL ret nm) {len : Nat} (W : Nat) (a b : UInt64) (wc : (Jvm.Cond.code ⟨"java/lang/Math", "min", "(DD)D"⟩ jdk_29_method_72_code 4 (some .double)).before a0 Z = true) (ha : Jvm.Free.Fl.NoNaN64 a) (hb : Jvm.Free.Fl.NoNaN64 b) (hf : 1 ≤ R.frames) (hl : W + 15 ≤ R.locals) :
    own_Pay l R p e below s args ⟨"java/lang/Math", "min", "(DD)D"⟩ len W #[.double a, .double b] h 0 0 (fun v h' L => v = some (.double (Jvm.Native.java_lang_Math.nans.pick64 false a b)) ∧ L = [] ∧ h' = h) := by
  intro m' meth' c' A g ig mk a' X hg hsize hdg hW hnamed ⟨h1, h2, h3, h4⟩
  obtain ⟨v, B, X', ⟨e1, e2⟩, st⟩ := Jvm.Free.Fl.Abs.minD_pays a b (mvT C.2.2.2.2.2.2.2 wc) hf hl m' meth' c' A g ig mk a' X hg hsize hdg hW hnamed ⟨h3, h4, h1, ha, hb⟩
  subst e2
  exact ⟨v, _, X', ⟨[], ⟨e1, rfl, h2⟩, (List.append_nil _).symm, rfl, rfl⟩, st⟩
theorem own_maxP {Z s : State} {a0 : Array Value} {p : Program} {m : MethodId} {meth : Method} {c : Code} {own : String} {cd : ByteArray} {maxL : Nat} {ret : Option FieldType} {nm : String} {l : Launch} {R : Room} {e : Env} {below : List Frame} {args : Array Value} {h : Heap} (C : own_Cx p s m meth c Z own cd maxL ret nm) {len : Nat} (W : Nat) (a b : UInt64) (wc : (Jvm.Cond.code ⟨"java/lang/Math", "max", "(DD)D"⟩ jdk_29_method_68_code 4 (some .double)).before a0 Z = true) (ha : Jvm.Free.Fl.NoNaN64 a) (hb : Jvm.Free.Fl.NoNaN64 b) (hf : 1 ≤ R.frames) (hl : W + 15 ≤ R.locals) :
    own_Pay l R p e below s args ⟨"java/lang/Math", "max", "(DD)D"⟩ len W #[.double a, .double b] h 0 0 (fun v h' L => v = some (.double (Jvm.Native.java_lang_Math.nans.pick64 true a b)) ∧ L = [] ∧ h' = h) := by
  intro m' meth' c' A g ig mk a' X hg hsize hdg hW hnamed ⟨h1, h2, h3, h4⟩
  obtain ⟨v, B, X', ⟨e1, e2⟩, st⟩ := Jvm.Free.Fl.Abs.maxD_pays a b (mvT C.2.2.2.2.2.2.2 wc) hf hl m' meth' c' A g ig mk a' X hg hsize hdg hW hnamed ⟨h3, h4, h1, ha, hb⟩
  subst e2
  exact ⟨v, _, X', ⟨[], ⟨e1, rfl, h2⟩, (List.append_nil _).symm, rfl, rfl⟩, st⟩
theorem own_c5 (x : Int32) : (x &&& 2147483647) % (5 : Int32) = (0 : Int32) ∨ (x &&& 2147483647) % (5 : Int32) = (1 : Int32) ∨ (x &&& 2147483647) % (5 : Int32) = (2 : Int32) ∨ (x &&& 2147483647) % (5 : Int32) = (3 : Int32) ∨ (x &&& 2147483647) % (5 : Int32) = (4 : Int32) := by
  have h := c_and x (2147483647 : Int32) (by decide)
  have e1 : (5 : Int32).toInt = 5 := rfl
  have e2 : ((x &&& 2147483647) % (5 : Int32)).toInt = (x &&& (2147483647 : Int32)).toInt % 5 := by
    rw [Int32.toInt_mod, e1, Int.tmod_eq_emod_of_nonneg h.1]
  generalize (x &&& 2147483647) % (5 : Int32) = z at e2
  have e3 : z.toInt = 0 ∨ z.toInt = 1 ∨ z.toInt = 2 ∨ z.toInt = 3 ∨ z.toInt = 4 := by omega
  simp only [← Int32.toInt_inj]
  exact e3

theorem own_min (l : Launch) (Z : State) (a0 : Array Value) (hw : ∀ d ∈ tables_1, d.before a0 Z = true) (x1 : Int32) (x2 : Int32) (h0 : Heap) (n0 : Nat) (z0 : n0 ≤ h0.size) :
    own_Met l Z (⟨"java/lang/Math", "min", "(II)I"⟩ : MethodName) jdk_29_method_69_code 2 (some .int) ({ frames := 0, cells := 0, slots := 0, locals := 0 } : Room) n0 #[(.int x1), (.int x2)] h0 (fun v h => v = some (.int (if x2 < x1 then x2 else x1)) ∧ h = h0) := by
  refine own_met (by decide +kernel) #[.val (.int x1), .val (.int x2)] (fun m => by first | (simp [entryFrame, mkF, argsToLocals, Value.category]; done) | rfl) ?_
  intro p e s m below meth c T0 C S0
  refine own_seg C S0 [(0, .iload_n 0, 1), (1, .iload_n 1, 1)] (by decide +kernel) 2 #[.val (.int x1), .val (.int x2)] [(.int x2), (.int x1)] rfl ?_
  refine own_icmp C S0 (q := .gt) (o := 7) (by decide +kernel) 9 (by decide) (by decide) (fun (q1 : x2 < x1) => ?_) (fun (q2 : ¬ x2 < x1) => ?_)
  · refine own_seg C S0 [(9, .iload_n 1, 1)] (by decide +kernel) 10 #[.val (.int x1), .val (.int x2)] [(.int x2)] rfl ?_
    refine own_retI C S0 (by decide +kernel) (by decide) (by decide) ?_
    exact ⟨by rw [if_pos q1], rfl⟩
  · refine own_seg C S0 [(5, .iload_n 0, 1), (6, .goto 4, 3)] (by decide +kernel) 10 #[.val (.int x1), .val (.int x2)] [(.int x1)] rfl ?_
    refine own_retI C S0 (by decide +kernel) (by decide) (by decide) ?_
    exact ⟨by rw [if_neg q2], rfl⟩
theorem own_max (l : Launch) (Z : State) (a0 : Array Value) (hw : ∀ d ∈ tables_1, d.before a0 Z = true) (x1 : Int32) (x2 : Int32) (h0 : Heap) (n0 : Nat) (z0 : n0 ≤ h0.size) :
    own_Met l Z (⟨"java/lang/Math", "max", "(II)I"⟩ : MethodName) jdk_29_method_65_code 2 (some .int) ({ frames := 0, cells := 0, slots := 0, locals := 0 } : Room) n0 #[(.int x1), (.int x2)] h0 (fun v h => v = some (.int (if x1 < x2 then x2 else x1)) ∧ h = h0) := by
  refine own_met (by decide +kernel) #[.val (.int x1), .val (.int x2)] (fun m => by first | (simp [entryFrame, mkF, argsToLocals, Value.category]; done) | rfl) ?_
  intro p e s m below meth c T0 C S0
  refine own_seg C S0 [(0, .iload_n 0, 1), (1, .iload_n 1, 1)] (by decide +kernel) 2 #[.val (.int x1), .val (.int x2)] [(.int x2), (.int x1)] rfl ?_
  refine own_icmp C S0 (q := .lt) (o := 7) (by decide +kernel) 9 (by decide) (by decide) (fun (q3 : x1 < x2) => ?_) (fun (q4 : ¬ x1 < x2) => ?_)
  · refine own_seg C S0 [(9, .iload_n 1, 1)] (by decide +kernel) 10 #[.val (.int x1), .val (.int x2)] [(.int x2)] rfl ?_
    refine own_retI C S0 (by decide +kernel) (by decide) (by decide) ?_
    exact ⟨by rw [if_pos q3], rfl⟩
  · refine own_seg C S0 [(5, .iload_n 0, 1), (6, .goto 4, 3)] (by decide +kernel) 10 #[.val (.int x1), .val (.int x2)] [(.int x1)] rfl ?_
    refine own_retI C S0 (by decide +kernel) (by decide) (by decide) ?_
    exact ⟨by rw [if_neg q4], rfl⟩
theorem own_nan (l : Launch) (Z : State) (a0 : Array Value) (hw : ∀ d ∈ tables_1, d.before a0 Z = true) (x : UInt64) (h0 : Heap) (n0 : Nat) (z0 : n0 ≤ h0.size) (hn : Jvm.Free.Fl.NoNaN64 x) :
    own_Met l Z (⟨"java/lang/Double", "isNaN", "(D)Z"⟩ : MethodName) jdk_117_method_6_code 2 (some .boolean) ({ frames := 0, cells := 0, slots := 0, locals := 0 } : Room) n0 #[(.double x)] h0 (fun v h => v = some (.int 0) ∧ h = h0) := by
  refine own_met (by decide +kernel) #[.val (.double x), .second] (fun m => by first | (simp [entryFrame, mkF, argsToLocals, Value.category]; done) | rfl) ?_
  intro p e s m below meth c T0 C S0
  refine own_seg C S0 [(0, .dload_n 0, 1), (1, .dload_n 0, 1)] (by decide +kernel) 2 #[.val (.double x), .second] [(.double x), (.double x)] rfl ?_
  refine own_dcmp C S0 (o := .l) (0 : Int32) (by decide +kernel) (dcmpV_self hn _) ?_
  refine own_if C S0 (q := .eq) (o := 7) (by decide +kernel) 10 (by decide) (by decide) (fun (q5 : (0 : Int32) = (0 : Int32)) => ?_) (fun (hq : ¬ (0 : Int32) = (0 : Int32)) => False.elim (by revert hq; decide))
  refine own_seg C S0 [(10, .iconst 0, 1)] (by decide +kernel) 11 #[.val (.double x), .second] [(.int 0)] rfl ?_
  refine own_retZ C S0 (by decide +kernel) (by decide) (by decide) (by decide) ?_
  exact ⟨rfl, rfl⟩
theorem own_fd0 : parseFieldDescriptor "D" = some .double := by decide +kernel
theorem own_sn0 {Z : State} {a0 : Array Value} (hw : ∀ d ∈ tables_1, d.before a0 Z = true) : Jvm.RoadKit.slotOf Z "com/example/persephone/persephone/ValueBounds" "highest" "D" ≠ Jvm.RoadKit.slotOf Z "com/example/persephone/persephone/ValueBounds" "lowest" "D" := slot_ne (Or.inr (own_wd hw 19 rfl)) (Or.inr (own_wd hw 17 rfl)) (by decide) own_fd0 own_fd0
theorem own_fd1 : parseFieldDescriptor "Z" = some .boolean := by decide +kernel
theorem own_sn1 {Z : State} {a0 : Array Value} (hw : ∀ d ∈ tables_1, d.before a0 Z = true) : Jvm.RoadKit.slotOf Z "com/example/persephone/persephone/ValueBounds" "mayBeMissing" "Z" ≠ Jvm.RoadKit.slotOf Z "com/example/persephone/persephone/ValueBounds" "lowest" "D" := slot_ne (Or.inr (own_wd hw 21 rfl)) (Or.inr (own_wd hw 17 rfl)) (by decide) own_fd1 own_fd0
theorem own_sn2 {Z : State} {a0 : Array Value} (hw : ∀ d ∈ tables_1, d.before a0 Z = true) : Jvm.RoadKit.slotOf Z "com/example/persephone/persephone/ValueBounds" "mayBeMissing" "Z" ≠ Jvm.RoadKit.slotOf Z "com/example/persephone/persephone/ValueBounds" "highest" "D" := slot_ne (Or.inr (own_wd hw 21 rfl)) (Or.inr (own_wd hw 19 rfl)) (by decide) own_fd1 own_fd0
theorem own_sn3 {Z : State} {a0 : Array Value} (hw : ∀ d ∈ tables_1, d.before a0 Z = true) : Jvm.RoadKit.slotOf Z "com/example/persephone/persephone/ValueBounds" "lowest" "D" ≠ Jvm.RoadKit.slotOf Z "com/example/persephone/persephone/ValueBounds" "highest" "D" := slot_ne (Or.inr (own_wd hw 17 rfl)) (Or.inr (own_wd hw 19 rfl)) (by decide) own_fd0 own_fd0
theorem own_sn4 {Z : State} {a0 : Array Value} (hw : ∀ d ∈ tables_1, d.before a0 Z = true) : Jvm.RoadKit.slotOf Z "com/example/persephone/persephone/ValueBounds" "lowest" "D" ≠ Jvm.RoadKit.slotOf Z "com/example/persephone/persephone/ValueBounds" "mayBeMissing" "Z" := slot_ne (Or.inr (own_wd hw 17 rfl)) (Or.inr (own_wd hw 21 rfl)) (by decide) own_fd0 own_fd1
theorem own_sn5 {Z : State} {a0 : Array Value} (hw : ∀ d ∈ tables_1, d.before a0 Z = true) : Jvm.RoadKit.slotOf Z "com/example/persephone/persephone/ValueBounds" "highest" "D" ≠ Jvm.RoadKit.slotOf Z "com/example/persephone/persephone/ValueBounds" "mayBeMissing" "Z" := slot_ne (Or.inr (own_wd hw 19 rfl)) (Or.inr (own_wd hw 21 rfl)) (by decide) own_fd0 own_fd1
theorem own_vi (l : Launch) (Z : State) (a0 : Array Value) (hw : ∀ d ∈ tables_1, d.before a0 Z = true) (a : Addr) (x1 : UInt64) (x2 : UInt64) (h0 : Heap) (n0 : Nat) (z0 : n0 ≤ h0.size) (ge_a : n0 ≤ a) (p0 : Exa Z h0 a "com/example/persephone/persephone/ValueBounds") (p1 : Fld Z h0 a "com/example/persephone/persephone/ValueBounds" "lowest" "D" (.double 0)) (p2 : Fld Z h0 a "com/example/persephone/persephone/ValueBounds" "highest" "D" (.double 0)) (p3 : Fld Z h0 a "com/example/persephone/persephone/ValueBounds" "mayBeMissing" "Z" (.int 0)) :
    own_Met l Z (⟨"com/example/persephone/persephone/ValueBounds", "<init>", "(DDZ)V"⟩ : MethodName) prog_14_method_1_code 6 none ({ frames := 1, cells := 0, slots := 0, locals := 12 } : Room) n0 #[(.ref a), (.double x1), (.double x2), (.int 0)] h0 (fun v h => v = none ∧ Keep h0 h [a] ∧ Exa Z h a "com/example/persephone/persephone/ValueBounds" ∧ Fld Z h a "com/example/persephone/persephone/ValueBounds" "lowest" "D" (.double x1) ∧ Fld Z h a "com/example/persephone/persephone/ValueBounds" "highest" "D" (.double x2) ∧ Fld Z h a "com/example/persephone/persephone/ValueBounds" "mayBeMissing" "Z" (.int 0)) := by
  refine own_met (by decide +kernel) #[.val (.ref a), .val (.double x1), .second, .val (.double x2), .second, .val (.int 0)] (fun m => by first | (simp [entryFrame, mkF, argsToLocals, Value.category]; done) | rfl) ?_
  intro p e s m below meth c T0 C S0
  refine own_seg C S0 [(0, .aload_n 0, 1)] (by decide +kernel) 1 #[.val (.ref a), .val (.double x1), .second, .val (.double x2), .second, .val (.int 0)] [(.ref a)] rfl ?_
  refine own_initO C S0 (own_wd hw 13 rfl) (own_wd hw 14 rfl) (own_wd hw 15 rfl) rfl (by decide +kernel) (by decide) 0 (Nat.le_of_ble_eq_true rfl) (by decide) ?_
  intro T6 S7
  refine own_seg C S7 [(4, .aload_n 0, 1), (5, .dload_n 1, 1)] (by decide +kernel) 6 #[.val (.ref a), .val (.double x1), .second, .val (.double x2), .second, .val (.int 0)] [(.double x1), (.ref a)] rfl ?_
  refine own_putF C S7 (ty := .double) (host := "") (Or.inl (own_wd hw 16 rfl)) Via.refl p1 p0 (Or.inr ⟨(own_wd hw 17 rfl), rfl, rfl⟩) (own_wd hw 9 rfl) own_fd0 rfl rfl ge_a (by decide +kernel) ?_
  intro T8 h10 S9 W11
  have f12 : Fld Z h10 a "com/example/persephone/persephone/ValueBounds" "lowest" "D" (.double x1) := Fld.same W11 p1
  refine own_seg C S9 [(9, .aload_n 0, 1), (10, .dload_n 3, 1)] (by decide +kernel) 11 #[.val (.ref a), .val (.double x1), .second, .val (.double x2), .second, .val (.int 0)] [(.double x2), (.ref a)] rfl ?_
  have f13 := (Fld.other W11 p2 (Or.inr (own_sn0 hw)))
  have f14 := (Exa.wr W11 p0)
  refine own_putF C S9 (ty := .double) (host := "") (Or.inl (own_wd hw 18 rfl)) Via.refl f13 f14 (Or.inr ⟨(own_wd hw 19 rfl), rfl, rfl⟩) (own_wd hw 9 rfl) own_fd0 rfl rfl ge_a (by decide +kernel) ?_
  intro T15 h17 S16 W18
  have f19 : Fld Z h17 a "com/example/persephone/persephone/ValueBounds" "highest" "D" (.double x2) := Fld.same W18 f13
  refine own_seg C S16 [(14, .aload_n 0, 1), (15, .iload 5, 2)] (by decide +kernel) 17 #[.val (.ref a), .val (.double x1), .second, .val (.double x2), .second, .val (.int 0)] [(.int 0), (.ref a)] rfl ?_
  have f20 := (Fld.other W18 (Fld.other W11 p3 (Or.inr (own_sn1 hw))) (Or.inr (own_sn2 hw)))
  have f21 := (Exa.wr W18 f14)
  refine own_putF C S16 (ty := .boolean) (host := "") (Or.inl (own_wd hw 20 rfl)) Via.refl f20 f21 (Or.inr ⟨(own_wd hw 21 rfl), rfl, rfl⟩) (own_wd hw 9 rfl) own_fd1 rfl rfl ge_a (by decide +kernel) ?_
  intro T22 h24 S23 W25
  have f26 : Fld Z h24 a "com/example/persephone/persephone/ValueBounds" "mayBeMissing" "Z" (.int 0) := Fld.same W25 f20
  refine own_retV C S23 (by decide +kernel) (by decide) (by decide) ?_
  have f27 := (Exa.wr W25 f21)
  have f28 := (Fld.other W25 (Fld.other W18 f12 (Or.inr (own_sn3 hw))) (Or.inr (own_sn4 hw)))
  have f29 := (Fld.other W25 f19 (Or.inr (own_sn5 hw)))
  exact ⟨rfl, ((((Keep.refl _ _).wr W11 (Or.inl (List.mem_of_getElem? (i := 0) rfl))).wr W18 (Or.inl (List.mem_of_getElem? (i := 0) rfl))).wr W25 (Or.inl (List.mem_of_getElem? (i := 0) rfl))), f27, f28, f29, f26⟩
theorem own_gl (l : Launch) (Z : State) (a0 : Array Value) (hw : ∀ d ∈ tables_1, d.before a0 Z = true) (a : Addr) (y : UInt64) (h0 : Heap) (n0 : Nat) (z0 : n0 ≤ h0.size) (pF : Fld Z h0 a "com/example/persephone/persephone/ValueBounds" "lowest" "D" (.double y)) :
    own_Met l Z (⟨"com/example/persephone/persephone/ValueBounds", "getLowest", "()D"⟩ : MethodName) prog_14_method_4_code 1 (some .double) ({ frames := 0, cells := 0, slots := 0, locals := 0 } : Room) n0 #[(.ref a)] h0 (fun v h => v = some (.double y) ∧ h = h0) := by
  refine own_met (by decide +kernel) #[.val (.ref a)] (fun m => by first | (simp [entryFrame, mkF, argsToLocals, Value.category]; done) | rfl) ?_
  intro p e s m below meth c T0 C S0
  refine own_seg C S0 [(0, .aload_n 0, 1)] (by decide +kernel) 1 #[.val (.ref a)] [(.ref a)] rfl ?_
  refine own_getF C S0 (host := "") (Or.inl (own_wd hw 16 rfl)) Via.refl pF (by decide +kernel) ?_
  intro T30 S31
  refine own_retD C S31 (by decide +kernel) (by decide) (by decide) ?_
  exact ⟨rfl, rfl⟩
theorem own_gh (l : Launch) (Z : State) (a0 : Array Value) (hw : ∀ d ∈ tables_1, d.before a0 Z = true) (a : Addr) (y : UInt64) (h0 : Heap) (n0 : Nat) (z0 : n0 ≤ h0.size) (pF : Fld Z h0 a "com/example/persephone/persephone/ValueBounds" "highest" "D" (.double y)) :
    own_Met l Z (⟨"com/example/persephone/persephone/ValueBounds", "getHighest", "()D"⟩ : MethodName) prog_14_method_5_code 1 (some .double) ({ frames := 0, cells := 0, slots := 0, locals := 0 } : Room) n0 #[(.ref a)] h0 (fun v h => v = some (.double y) ∧ h = h0) := by
  refine own_met (by decide +kernel) #[.val (.ref a)] (fun m => by first | (simp [entryFrame, mkF, argsToLocals, Value.category]; done) | rfl) ?_
  intro p e s m below meth c T0 C S0
  refine own_seg C S0 [(0, .aload_n 0, 1)] (by decide +kernel) 1 #[.val (.ref a)] [(.ref a)] rfl ?_
  refine own_getF C S0 (host := "") (Or.inl (own_wd hw 18 rfl)) Via.refl pF (by decide +kernel) ?_
  intro T32 S33
  refine own_retD C S33 (by decide +kernel) (by decide) (by decide) ?_
  exact ⟨rfl, rfl⟩
theorem own_mb (l : Launch) (Z : State) (a0 : Array Value) (hw : ∀ d ∈ tables_1, d.before a0 Z = true) (a : Addr) (h0 : Heap) (n0 : Nat) (z0 : n0 ≤ h0.size) (p0 : Fld Z h0 a "com/example/persephone/persephone/ValueBounds" "mayBeMissing" "Z" (.int 0)) :
    own_Met l Z (⟨"com/example/persephone/persephone/ValueBounds", "mayBeMissing", "()Z"⟩ : MethodName) prog_14_method_6_code 1 (some .boolean) ({ frames := 0, cells := 0, slots := 0, locals := 0 } : Room) n0 #[(.ref a)] h0 (fun v h => v = some (.int 0) ∧ h = h0) := by
  refine own_met (by decide +kernel) #[.val (.ref a)] (fun m => by first | (simp [entryFrame, mkF, argsToLocals, Value.category]; done) | rfl) ?_
  intro p e s m below meth c T0 C S0
  refine own_seg C S0 [(0, .aload_n 0, 1)] (by decide +kernel) 1 #[.val (.ref a)] [(.ref a)] rfl ?_
  refine own_getF C S0 (host := "") (Or.inl (own_wd hw 20 rfl)) Via.refl p0 (by decide +kernel) ?_
  intro T34 S35
  refine own_retZ C S35 (by decide +kernel) (by decide) (by decide) (by decide) ?_
  exact ⟨rfl, rfl⟩
theorem own_pd0 : parseMethodDescriptor "(DDZ)V" = some ⟨[.double, .double, .boolean], none⟩ := by decide +kernel
theorem own_sp0 (l : Launch) (Z : State) (a0 : Array Value) (hw : ∀ d ∈ tables_1, d.before a0 Z = true) (b : Addr) (bk : ClassId) (h0 : Heap) (n0 : Nat) (z0 : n0 ≤ h0.size) (bK : Arv Z h0 b bk .double (0 : Int32) ([]) (.double 0)) :
    own_Met l Z (⟨"com/example/persephone/persephone/ValueBounds", "span", "([D)Lcom/example/persephone/persephone/ValueBounds;"⟩ : MethodName) prog_14_method_21_code 10 (some (.object "com/example/persephone/persephone/ValueBounds")) ({ frames := 2, cells := 1, slots := 3, locals := 30 } : Room) n0 #[(.ref b)] h0 (fun v h => ∃ r : Addr, v = some (.ref r) ∧ h0.size ≤ r ∧ Keep h0 h [] ∧ Exa Z h r "com/example/persephone/persephone/ValueBounds" ∧ Fld Z h r "com/example/persephone/persephone/ValueBounds" "lowest" "D" (.double 9218868437227405312) ∧ Fld Z h r "com/example/persephone/persephone/ValueBounds" "highest" "D" (.double 18442240474082181120) ∧ Fld Z h r "com/example/persephone/persephone/ValueBounds" "mayBeMissing" "Z" (.int 0)) := by
  refine own_met (by decide +kernel) #[.val (.ref b), .unset, .unset, .unset, .unset, .unset, .unset, .unset, .unset, .unset] (fun m => by first | (simp [entryFrame, mkF, argsToLocals, Value.category]; done) | rfl) ?_
  intro p e s m below meth c T0 C S0
  refine own_ldc2D C S0 (own_wd hw 6 rfl) (by decide +kernel) ?_
  refine own_seg C S0 [(3, .dstore_n 1, 1)] (by decide +kernel) 4 #[.val (.ref b), .val (.double (9218868437227405312 : UInt64)), .second, .unset, .unset, .unset, .unset, .unset, .unset, .unset] [] rfl ?_
  refine own_ldc2D C S0 (own_wd hw 7 rfl) (by decide +kernel) ?_
  refine own_seg C S0 [(7, .dstore_n 3, 1), (8, .aload_n 0, 1), (9, .astore 5, 2), (11, .aload 5, 2)] (by decide +kernel) 13 #[.val (.ref b), .val (.double (9218868437227405312 : UInt64)), .second, .val (.double (18442240474082181120 : UInt64)), .second, .val (.ref b), .unset, .unset, .unset, .unset] [(.ref b)] rfl ?_
  refine own_alen C S0 bK (by decide +kernel) ?_
  refine own_seg C S0 [(14, .istore 6, 2), (16, .iconst 0, 1), (17, .istore 7, 2), (19, .iload 7, 2), (21, .iload 6, 2)] (by decide +kernel) 23 #[.val (.ref b), .val (.double (9218868437227405312 : UInt64)), .second, .val (.double (18442240474082181120 : UInt64)), .second, .val (.ref b), .val (.int 0), .val (.int 0), .unset, .unset] [(.int 0), (.int 0)] rfl ?_
  refine own_icmp C S0 (q := .ge) (o := 45) (by decide +kernel) 68 (by decide) (by decide) (fun (q36 : ¬ (0 : Int32) < (0 : Int32)) => ?_) (fun (hq : (0 : Int32) < (0 : Int32)) => False.elim (by revert hq; decide))
  refine own_new C S0 (own_wd hw 8 rfl) (own_wd hw 9 rfl) (own_wd hw 4 rfl) (by decide +kernel) (by decide) (by decide) ?_
  intro T37 h39 a40 S38 g41 E42 x43 D44
  have f45 : Fld Z h39 a40 "com/example/persephone/persephone/ValueBounds" "lowest" "D" (.double 0) := D44 (ty := .double) (Or.inr (own_wd hw 17 rfl)) own_fd0
  have f46 : Fld Z h39 a40 "com/example/persephone/persephone/ValueBounds" "highest" "D" (.double 0) := D44 (ty := .double) (Or.inr (own_wd hw 19 rfl)) own_fd0
  have f47 : Fld Z h39 a40 "com/example/persephone/persephone/ValueBounds" "mayBeMissing" "Z" (.int 0) := D44 (ty := .boolean) (Or.inr (own_wd hw 21 rfl)) own_fd1
  refine own_seg C S38 [(71, .dup, 1), (72, .dload_n 1, 1), (73, .dload_n 3, 1), (74, .iconst 0, 1)] (by decide +kernel) 75 #[.val (.ref b), .val (.double (9218868437227405312 : UInt64)), .second, .val (.double (18442240474082181120 : UInt64)), .second, .val (.ref b), .val (.int 0), .val (.int 0), .unset, .unset] [(.int 0), (.double (18442240474082181120 : UInt64)), (.double (9218868437227405312 : UInt64)), (.ref a40), (.ref a40)] rfl ?_
  have f48 : n0 ≤ h39.size := (Nat.le_trans z0 E42.1)
  have g49 : n0 ≤ a40 := by rw [g41]; exact z0
  refine own_callI C S38 rfl (own_wd hw 10 rfl) (own_wd hw 11 rfl) (own_wd hw 12 rfl) (by decide) (own_Met.pay (own_vi l Z a0 hw a40 (9218868437227405312 : UInt64) (18442240474082181120 : UInt64) h39 n0 f48 g49 x43 f45 f46 f47) C 1 (own_wd hw 12 rfl) (own_wd hw 4 rfl) (by decide) (by decide)) (fun _ _ _ q => q.2) [(.double (9218868437227405312 : UInt64)), (.double (18442240474082181120 : UInt64)), (.int 0)] [(.ref a40)] rfl own_pd0 rfl rfl rfl (Nat.le_of_ble_eq_true rfl) (by decide) (by decide) (by decide +kernel) ?_
  rintro T55 h56 v57 L58 S59 ⟨⟨rfl, K50, f51, f52, f53, f54⟩, -⟩
  show own_Go p e below _ T55 (mkF m 78 #[.val (.ref b), .val (.double (9218868437227405312 : UInt64)), .second, .val (.double (18442240474082181120 : UInt64)), .second, .val (.ref b), .val (.int 0), .val (.int 0), .unset, .unset] [(.ref a40)])
  refine own_retA C S59 rfl rfl (by decide +kernel) (by decide) (by decide) ?_
  have o60 : h0.size ≤ a40 := by rw [g41]; exact (Nat.le_refl _)
  exact ⟨a40, rfl, o60, (((Keep.refl _ _).ext E42).trans K50 (allS (Or.inr o60) all0)), f51, f52, f53, f54⟩
theorem own_pd1 : parseMethodDescriptor "(D)Z" = some ⟨[.double], (some .boolean)⟩ := by decide +kernel
theorem own_pd2 : parseMethodDescriptor "(DD)D" = some ⟨[.double, .double], (some .double)⟩ := by decide +kernel
theorem own_sp1 (l : Launch) (Z : State) (a0 : Array Value) (hw : ∀ d ∈ tables_1, d.before a0 Z = true) (b : Addr) (bk : ClassId) (y0 : Int32) (h0 : Heap) (n0 : Nat) (z0 : n0 ≤ h0.size) (bK : Arv Z h0 b bk .double (1 : Int32) ([(.double (FP.i2d y0))]) (.double 0)) :
    own_Met l Z (⟨"com/example/persephone/persephone/ValueBounds", "span", "([D)Lcom/example/persephone/persephone/ValueBounds;"⟩ : MethodName) prog_14_method_21_code 10 (some (.object "com/example/persephone/persephone/ValueBounds")) ({ frames := 2, cells := 1, slots := 3, locals := 30 } : Room) n0 #[(.ref b)] h0 (fun v h => ∃ r : Addr, v = some (.ref r) ∧ h0.size ≤ r ∧ Keep h0 h [] ∧ Exa Z h r "com/example/persephone/persephone/ValueBounds" ∧ Fld Z h r "com/example/persephone/persephone/ValueBounds" "lowest" "D" (.double (FP.i2d y0)) ∧ Fld Z h r "com/example/persephone/persephone/ValueBounds" "highest" "D" (.double (FP.i2d y0)) ∧ Fld Z h r "com/example/persephone/persephone/ValueBounds" "mayBeMissing" "Z" (.int 0)) := by
  refine own_met (by decide +kernel) #[.val (.ref b), .unset, .unset, .unset, .unset, .unset, .unset, .unset, .unset, .unset] (fun m => by first | (simp [entryFrame, mkF, argsToLocals, Value.category]; done) | rfl) ?_
  intro p e s m below meth c T0 C S0
  refine own_ldc2D C S0 (own_wd hw 6 rfl) (by decide +kernel) ?_
  refine own_seg C S0 [(3, .dstore_n 1, 1)] (by decide +kernel) 4 #[.val (.ref b), .val (.double (9218868437227405312 : UInt64)), .second, .unset, .unset, .unset, .unset, .unset, .unset, .unset] [] rfl ?_
  refine own_ldc2D C S0 (own_wd hw 7 rfl) (by decide +kernel) ?_
  refine own_seg C S0 [(7, .dstore_n 3, 1), (8, .aload_n 0, 1), (9, .astore 5, 2), (11, .aload 5, 2)] (by decide +kernel) 13 #[.val (.ref b), .val (.double (9218868437227405312 : UInt64)), .second, .val (.double (18442240474082181120 : UInt64)), .second, .val (.ref b), .unset, .unset, .unset, .unset] [(.ref b)] rfl ?_
  refine own_alen C S0 bK (by decide +kernel) ?_
  refine own_seg C S0 [(14, .istore 6, 2), (16, .iconst 0, 1), (17, .istore 7, 2), (19, .iload 7, 2), (21, .iload 6, 2)] (by decide +kernel) 23 #[.val (.ref b), .val (.double (9218868437227405312 : UInt64)), .second, .val (.double (18442240474082181120 : UInt64)), .second, .val (.ref b), .val (.int 1), .val (.int 0), .unset, .unset] [(.int 1), (.int 0)] rfl ?_
  refine own_icmp C S0 (q := .ge) (o := 45) (by decide +kernel) 68 (by decide) (by decide) (fun (hq : ¬ (0 : Int32) < (1 : Int32)) => False.elim (by revert hq; decide)) (fun (q61 : (0 : Int32) < (1 : Int32)) => ?_)
  refine own_seg C S0 [(26, .aload 5, 2), (28, .iload 7, 2)] (by decide +kernel) 30 #[.val (.ref b), .val (.double (9218868437227405312 : UInt64)), .second, .val (.double (18442240474082181120 : UInt64)), .second, .val (.ref b), .val (.int 1), .val (.int 0), .unset, .unset] [(.int 0), (.ref b)] rfl ?_
  refine own_daload C S0 bK ⟨(by decide), (by decide)⟩ (.double (FP.i2d y0)) rfl (by decide +kernel) ?_
  refine own_seg C S0 [(31, .dstore 8, 2), (33, .dload 8, 2)] (by decide +kernel) 35 #[.val (.ref b), .val (.double (9218868437227405312 : UInt64)), .second, .val (.double (18442240474082181120 : UInt64)), .second, .val (.ref b), .val (.int 1), .val (.int 0), .val (.double (FP.i2d y0)), .second] [(.double (FP.i2d y0))] rfl ?_
  refine own_callS C S0 (own_wd hw 45 rfl) (own_wd hw 46 rfl) (own_wd hw 47 rfl) (own_wd hw 48 rfl) (by decide) (own_Met.pay (own_nan l Z a0 hw (FP.i2d y0) h0 n0 z0 ((Jvm.Free.Fl.i2d_fin _).noNaN)) C 0 (own_wd hw 48 rfl) (own_wd hw 47 rfl) (by decide) (by decide)) (fun _ _ _ q => q.2) [(.double (FP.i2d y0))] [] rfl own_pd1 rfl rfl rfl (Nat.le_of_ble_eq_true rfl) (by decide) (by decide) (by decide +kernel) ?_
  rintro T63 h64 v65 L66 S67 ⟨⟨rfl, e62⟩, -⟩
  rw [e62] at S67; clear e62
  show own_Go p e below _ T63 (mkF m 38 #[.val (.ref b), .val (.double (9218868437227405312 : UInt64)), .second, .val (.double (18442240474082181120 : UInt64)), .second, .val (.ref b), .val (.int 1), .val (.int 0), .val (.double (FP.i2d y0)), .second] [(.int 0)])
  refine own_if C S67 (q := .eq) (o := 10) (by decide +kernel) 48 (by decide) (by decide) (fun (q68 : (0 : Int32) = (0 : Int32)) => ?_) (fun (hq : ¬ (0 : Int32) = (0 : Int32)) => False.elim (by revert hq; decide))
  refine own_seg C S67 [(48, .dload_n 1, 1), (49, .dload 8, 2)] (by decide +kernel) 51 #[.val (.ref b), .val (.double (9218868437227405312 : UInt64)), .second, .val (.double (18442240474082181120 : UInt64)), .second, .val (.ref b), .val (.int 1), .val (.int 0), .val (.double (FP.i2d y0)), .second] [(.double (FP.i2d y0)), (.double (9218868437227405312 : UInt64))] rfl ?_
  refine own_callS C S67 (own_wd hw 49 rfl) (own_wd hw 50 rfl) (own_wd hw 51 rfl) (own_wd hw 52 rfl) (by decide) (Q := (fun v h' L => v = some (.double (Jvm.Native.java_lang_Math.nans.pick64 false (9218868437227405312 : UInt64) (FP.i2d y0))) ∧ L = [] ∧ h' = h0)) (own_minP C 0 (9218868437227405312 : UInt64) (FP.i2d y0) (own_wd hw 52 rfl) own_nnp (Jvm.Free.Fl.i2d_fin _).noNaN (by decide) (by decide)) (fun _ _ L q => by rw [q.2.1]; exact Fr.nil _) [(.double (9218868437227405312 : UInt64)), (.double (FP.i2d y0))] [] rfl own_pd2 rfl rfl rfl (Nat.le_of_ble_eq_true rfl) (by decide) (by decide) (by decide +kernel) ?_
  rintro T70 h71 v72 L73 S74 ⟨rfl, -, e69⟩
  rw [e69] at S74; clear e69
  show own_Go p e below _ T70 (mkF m 54 #[.val (.ref b), .val (.double (9218868437227405312 : UInt64)), .second, .val (.double (18442240474082181120 : UInt64)), .second, .val (.ref b), .val (.int 1), .val (.int 0), .val (.double (FP.i2d y0)), .second] [(.double (Jvm.Native.java_lang_Math.nans.pick64 false (9218868437227405312 : UInt64) (FP.i2d y0)))])
  rw [show (Jvm.Native.java_lang_Math.nans.pick64 false (9218868437227405312 : UInt64) (FP.i2d y0)) = (FP.i2d y0) from own_pn0 y0]
  refine own_seg C S74 [(54, .dstore_n 1, 1), (55, .dload_n 3, 1), (56, .dload 8, 2)] (by decide +kernel) 58 #[.val (.ref b), .val (.double (FP.i2d y0)), .second, .val (.double (18442240474082181120 : UInt64)), .second, .val (.ref b), .val (.int 1), .val (.int 0), .val (.double (FP.i2d y0)), .second] [(.double (FP.i2d y0)), (.double (18442240474082181120 : UInt64))] rfl ?_
  refine own_callS C S74 (own_wd hw 53 rfl) (own_wd hw 54 rfl) (own_wd hw 51 rfl) (own_wd hw 55 rfl) (by decide) (Q := (fun v h' L => v = some (.double (Jvm.Native.java_lang_Math.nans.pick64 true (18442240474082181120 : UInt64) (FP.i2d y0))) ∧ L = [] ∧ h' = h0)) (own_maxP C 0 (18442240474082181120 : UInt64) (FP.i2d y0) (own_wd hw 55 rfl) own_nnn (Jvm.Free.Fl.i2d_fin _).noNaN (by decide) (by decide)) (fun _ _ L q => by rw [q.2.1]; exact Fr.nil _) [(.double (18442240474082181120 : UInt64)), (.double (FP.i2d y0))] [] rfl own_pd2 rfl rfl rfl (Nat.le_of_ble_eq_true rfl) (by decide) (by decide) (by decide +kernel) ?_
  rintro T76 h77 v78 L79 S80 ⟨rfl, -, e75⟩
  rw [e75] at S80; clear e75
  show own_Go p e below _ T76 (mkF m 61 #[.val (.ref b), .val (.double (FP.i2d y0)), .second, .val (.double (18442240474082181120 : UInt64)), .second, .val (.ref b), .val (.int 1), .val (.int 0), .val (.double (FP.i2d y0)), .second] [(.double (Jvm.Native.java_lang_Math.nans.pick64 true (18442240474082181120 : UInt64) (FP.i2d y0)))])
  rw [show (Jvm.Native.java_lang_Math.nans.pick64 true (18442240474082181120 : UInt64) (FP.i2d y0)) = (FP.i2d y0) from own_px0 y0]
  refine own_seg C S80 [(61, .dstore_n 3, 1), (62, .iinc 7 1, 3), (65, .goto (-46), 3), (19, .iload 7, 2), (21, .iload 6, 2)] (by decide +kernel) 23 #[.val (.ref b), .val (.double (FP.i2d y0)), .second, .val (.double (FP.i2d y0)), .second, .val (.ref b), .val (.int 1), .val (.int ((0 : Int32) + (1 : Int32))), .val (.double (FP.i2d y0)), .second] [(.int 1), (.int ((0 : Int32) + (1 : Int32)))] rfl ?_
  show own_Go p e below _ T76 (mkF m 23 #[.val (.ref b), .val (.double (FP.i2d y0)), .second, .val (.double (FP.i2d y0)), .second, .val (.ref b), .val (.int 1), .val (.int 1), .val (.double (FP.i2d y0)), .second] [(.int 1), (.int 1)])
  refine own_icmp C S80 (q := .ge) (o := 45) (by decide +kernel) 68 (by decide) (by decide) (fun (q81 : ¬ (1 : Int32) < (1 : Int32)) => ?_) (fun (hq : (1 : Int32) < (1 : Int32)) => False.elim (by revert hq; decide))
  refine own_new C S80 (own_wd hw 8 rfl) (own_wd hw 9 rfl) (own_wd hw 4 rfl) (by decide +kernel) (by decide) (by decide) ?_
  intro T82 h84 a85 S83 g86 E87 x88 D89
  have f90 : Fld Z h84 a85 "com/example/persephone/persephone/ValueBounds" "lowest" "D" (.double 0) := D89 (ty := .double) (Or.inr (own_wd hw 17 rfl)) own_fd0
  have f91 : Fld Z h84 a85 "com/example/persephone/persephone/ValueBounds" "highest" "D" (.double 0) := D89 (ty := .double) (Or.inr (own_wd hw 19 rfl)) own_fd0
  have f92 : Fld Z h84 a85 "com/example/persephone/persephone/ValueBounds" "mayBeMissing" "Z" (.int 0) := D89 (ty := .boolean) (Or.inr (own_wd hw 21 rfl)) own_fd1
  refine own_seg C S83 [(71, .dup, 1), (72, .dload_n 1, 1), (73, .dload_n 3, 1), (74, .iconst 0, 1)] (by decide +kernel) 75 #[.val (.ref b), .val (.double (FP.i2d y0)), .second, .val (.double (FP.i2d y0)), .second, .val (.ref b), .val (.int 1), .val (.int 1), .val (.double (FP.i2d y0)), .second] [(.int 0), (.double (FP.i2d y0)), (.double (FP.i2d y0)), (.ref a85), (.ref a85)] rfl ?_
  have f93 : n0 ≤ h84.size := (Nat.le_trans z0 E87.1)
  have g94 : n0 ≤ a85 := by rw [g86]; exact z0
  refine own_callI C S83 rfl (own_wd hw 10 rfl) (own_wd hw 11 rfl) (own_wd hw 12 rfl) (by decide) (own_Met.pay (own_vi l Z a0 hw a85 (FP.i2d y0) (FP.i2d y0) h84 n0 f93 g94 x88 f90 f91 f92) C 1 (own_wd hw 12 rfl) (own_wd hw 4 rfl) (by decide) (by decide)) (fun _ _ _ q => q.2) [(.double (FP.i2d y0)), (.double (FP.i2d y0)), (.int 0)] [(.ref a85)] rfl own_pd0 rfl rfl rfl (Nat.le_of_ble_eq_true rfl) (by decide) (by decide) (by decide +kernel) ?_
  rintro T100 h101 v102 L103 S104 ⟨⟨rfl, K95, f96, f97, f98, f99⟩, -⟩
  show own_Go p e below _ T100 (mkF m 78 #[.val (.ref b), .val (.double (FP.i2d y0)), .second, .val (.double (FP.i2d y0)), .second, .val (.ref b), .val (.int 1), .val (.int 1), .val (.double (FP.i2d y0)), .second] [(.ref a85)])
  refine own_retA C S104 rfl rfl (by decide +kernel) (by decide) (by decide) ?_
  have o105 : h0.size ≤ a85 := by rw [g86]; exact (Nat.le_refl _)
  exact ⟨a85, rfl, o105, (((Keep.refl _ _).ext E87).trans K95 (allS (Or.inr o105) all0)), f96, f97, f98, f99⟩
theorem own_sp2 (l : Launch) (Z : State) (a0 : Array Value) (hw : ∀ d ∈ tables_1, d.before a0 Z = true) (b : Addr) (bk : ClassId) (y0 : Int32) (y1 : Int32) (h0 : Heap) (n0 : Nat) (z0 : n0 ≤ h0.size) (bK : Arv Z h0 b bk .double (2 : Int32) ([(.double (FP.i2d y0)), (.double (FP.i2d y1))]) (.double 0)) :
    own_Met l Z (⟨"com/example/persephone/persephone/ValueBounds", "span", "([D)Lcom/example/persephone/persephone/ValueBounds;"⟩ : MethodName) prog_14_method_21_code 10 (some (.object "com/example/persephone/persephone/ValueBounds")) ({ frames := 2, cells := 1, slots := 3, locals := 30 } : Room) n0 #[(.ref b)] h0 (fun v h => ∃ r : Addr, v = some (.ref r) ∧ h0.size ≤ r ∧ Keep h0 h [] ∧ Exa Z h r "com/example/persephone/persephone/ValueBounds" ∧ Fld Z h r "com/example/persephone/persephone/ValueBounds" "lowest" "D" (.double (FP.i2d (if y1 < y0 then y1 else y0))) ∧ Fld Z h r "com/example/persephone/persephone/ValueBounds" "highest" "D" (.double (FP.i2d (if y0 < y1 then y1 else y0))) ∧ Fld Z h r "com/example/persephone/persephone/ValueBounds" "mayBeMissing" "Z" (.int 0)) := by
  refine own_met (by decide +kernel) #[.val (.ref b), .unset, .unset, .unset, .unset, .unset, .unset, .unset, .unset, .unset] (fun m => by first | (simp [entryFrame, mkF, argsToLocals, Value.category]; done) | rfl) ?_
  intro p e s m below meth c T0 C S0
  refine own_ldc2D C S0 (own_wd hw 6 rfl) (by decide +kernel) ?_
  refine own_seg C S0 [(3, .dstore_n 1, 1)] (by decide +kernel) 4 #[.val (.ref b), .val (.double (9218868437227405312 : UInt64)), .second, .unset, .unset, .unset, .unset, .unset, .unset, .unset] [] rfl ?_
  refine own_ldc2D C S0 (own_wd hw 7 rfl) (by decide +kernel) ?_
  refine own_seg C S0 [(7, .dstore_n 3, 1), (8, .aload_n 0, 1), (9, .astore 5, 2), (11, .aload 5, 2)] (by decide +kernel) 13 #[.val (.ref b), .val (.double (9218868437227405312 : UInt64)), .second, .val (.double (18442240474082181120 : UInt64)), .second, .val (.ref b), .unset, .unset, .unset, .unset] [(.ref b)] rfl ?_
  refine own_alen C S0 bK (by decide +kernel) ?_
  refine own_seg C S0 [(14, .istore 6, 2), (16, .iconst 0, 1), (17, .istore 7, 2), (19, .iload 7, 2), (21, .iload 6, 2)] (by decide +kernel) 23 #[.val (.ref b), .val (.double (9218868437227405312 : UInt64)), .second, .val (.double (18442240474082181120 : UInt64)), .second, .val (.ref b), .val (.int 2), .val (.int 0), .unset, .unset] [(.int 2), (.int 0)] rfl ?_
  refine own_icmp C S0 (q := .ge) (o := 45) (by decide +kernel) 68 (by decide) (by decide) (fun (hq : ¬ (0 : Int32) < (2 : Int32)) => False.elim (by revert hq; decide)) (fun (q106 : (0 : Int32) < (2 : Int32)) => ?_)
  refine own_seg C S0 [(26, .aload 5, 2), (28, .iload 7, 2)] (by decide +kernel) 30 #[.val (.ref b), .val (.double (9218868437227405312 : UInt64)), .second, .val (.double (18442240474082181120 : UInt64)), .second, .val (.ref b), .val (.int 2), .val (.int 0), .unset, .unset] [(.int 0), (.ref b)] rfl ?_
  refine own_daload C S0 bK ⟨(by decide), (by decide)⟩ (.double (FP.i2d y0)) rfl (by decide +kernel) ?_
  refine own_seg C S0 [(31, .dstore 8, 2), (33, .dload 8, 2)] (by decide +kernel) 35 #[.val (.ref b), .val (.double (9218868437227405312 : UInt64)), .second, .val (.double (18442240474082181120 : UInt64)), .second, .val (.ref b), .val (.int 2), .val (.int 0), .val (.double (FP.i2d y0)), .second] [(.double (FP.i2d y0))] rfl ?_
  refine own_callS C S0 (own_wd hw 45 rfl) (own_wd hw 46 rfl) (own_wd hw 47 rfl) (own_wd hw 48 rfl) (by decide) (own_Met.pay (own_nan l Z a0 hw (FP.i2d y0) h0 n0 z0 ((Jvm.Free.Fl.i2d_fin _).noNaN)) C 0 (own_wd hw 48 rfl) (own_wd hw 47 rfl) (by decide) (by decide)) (fun _ _ _ q => q.2) [(.double (FP.i2d y0))] [] rfl own_pd1 rfl rfl rfl (Nat.le_of_ble_eq_true rfl) (by decide) (by decide) (by decide +kernel) ?_
  rintro T108 h109 v110 L111 S112 ⟨⟨rfl, e107⟩, -⟩
  rw [e107] at S112; clear e107
  show own_Go p e below _ T108 (mkF m 38 #[.val (.ref b), .val (.double (9218868437227405312 : UInt64)), .second, .val (.double (18442240474082181120 : UInt64)), .second, .val (.ref b), .val (.int 2), .val (.int 0), .val (.double (FP.i2d y0)), .second] [(.int 0)])
  refine own_if C S112 (q := .eq) (o := 10) (by decide +kernel) 48 (by decide) (by decide) (fun (q113 : (0 : Int32) = (0 : Int32)) => ?_) (fun (hq : ¬ (0 : Int32) = (0 : Int32)) => False.elim (by revert hq; decide))
  refine own_seg C S112 [(48, .dload_n 1, 1), (49, .dload 8, 2)] (by decide +kernel) 51 #[.val (.ref b), .val (.double (9218868437227405312 : UInt64)), .second, .val (.double (18442240474082181120 : UInt64)), .second, .val (.ref b), .val (.int 2), .val (.int 0), .val (.double (FP.i2d y0)), .second] [(.double (FP.i2d y0)), (.double (9218868437227405312 : UInt64))] rfl ?_
  refine own_callS C S112 (own_wd hw 49 rfl) (own_wd hw 50 rfl) (own_wd hw 51 rfl) (own_wd hw 52 rfl) (by decide) (Q := (fun v h' L => v = some (.double (Jvm.Native.java_lang_Math.nans.pick64 false (9218868437227405312 : UInt64) (FP.i2d y0))) ∧ L = [] ∧ h' = h0)) (own_minP C 0 (9218868437227405312 : UInt64) (FP.i2d y0) (own_wd hw 52 rfl) own_nnp (Jvm.Free.Fl.i2d_fin _).noNaN (by decide) (by decide)) (fun _ _ L q => by rw [q.2.1]; exact Fr.nil _) [(.double (9218868437227405312 : UInt64)), (.double (FP.i2d y0))] [] rfl own_pd2 rfl rfl rfl (Nat.le_of_ble_eq_true rfl) (by decide) (by decide) (by decide +kernel) ?_
  rintro T115 h116 v117 L118 S119 ⟨rfl, -, e114⟩
  rw [e114] at S119; clear e114
  show own_Go p e below _ T115 (mkF m 54 #[.val (.ref b), .val (.double (9218868437227405312 : UInt64)), .second, .val (.double (18442240474082181120 : UInt64)), .second, .val (.ref b), .val (.int 2), .val (.int 0), .val (.double (FP.i2d y0)), .second] [(.double (Jvm.Native.java_lang_Math.nans.pick64 false (9218868437227405312 : UInt64) (FP.i2d y0)))])
  rw [show (Jvm.Native.java_lang_Math.nans.pick64 false (9218868437227405312 : UInt64) (FP.i2d y0)) = (FP.i2d y0) from own_pn0 y0]
  refine own_seg C S119 [(54, .dstore_n 1, 1), (55, .dload_n 3, 1), (56, .dload 8, 2)] (by decide +kernel) 58 #[.val (.ref b), .val (.double (FP.i2d y0)), .second, .val (.double (18442240474082181120 : UInt64)), .second, .val (.ref b), .val (.int 2), .val (.int 0), .val (.double (FP.i2d y0)), .second] [(.double (FP.i2d y0)), (.double (18442240474082181120 : UInt64))] rfl ?_
  refine own_callS C S119 (own_wd hw 53 rfl) (own_wd hw 54 rfl) (own_wd hw 51 rfl) (own_wd hw 55 rfl) (by decide) (Q := (fun v h' L => v = some (.double (Jvm.Native.java_lang_Math.nans.pick64 true (18442240474082181120 : UInt64) (FP.i2d y0))) ∧ L = [] ∧ h' = h0)) (own_maxP C 0 (18442240474082181120 : UInt64) (FP.i2d y0) (own_wd hw 55 rfl) own_nnn (Jvm.Free.Fl.i2d_fin _).noNaN (by decide) (by decide)) (fun _ _ L q => by rw [q.2.1]; exact Fr.nil _) [(.double (18442240474082181120 : UInt64)), (.double (FP.i2d y0))] [] rfl own_pd2 rfl rfl rfl (Nat.le_of_ble_eq_true rfl) (by decide) (by decide) (by decide +kernel) ?_
  rintro T121 h122 v123 L124 S125 ⟨rfl, -, e120⟩
  rw [e120] at S125; clear e120
  show own_Go p e below _ T121 (mkF m 61 #[.val (.ref b), .val (.double (FP.i2d y0)), .second, .val (.double (18442240474082181120 : UInt64)), .second, .val (.ref b), .val (.int 2), .val (.int 0), .val (.double (FP.i2d y0)), .second] [(.double (Jvm.Native.java_lang_Math.nans.pick64 true (18442240474082181120 : UInt64) (FP.i2d y0)))])
  rw [show (Jvm.Native.java_lang_Math.nans.pick64 true (18442240474082181120 : UInt64) (FP.i2d y0)) = (FP.i2d y0) from own_px0 y0]
  refine own_seg C S125 [(61, .dstore_n 3, 1), (62, .iinc 7 1, 3), (65, .goto (-46), 3), (19, .iload 7, 2), (21, .iload 6, 2)] (by decide +kernel) 23 #[.val (.ref b), .val (.double (FP.i2d y0)), .second, .val (.double (FP.i2d y0)), .second, .val (.ref b), .val (.int 2), .val (.int ((0 : Int32) + (1 : Int32))), .val (.double (FP.i2d y0)), .second] [(.int 2), (.int ((0 : Int32) + (1 : Int32)))] rfl ?_
  show own_Go p e below _ T121 (mkF m 23 #[.val (.ref b), .val (.double (FP.i2d y0)), .second, .val (.double (FP.i2d y0)), .second, .val (.ref b), .val (.int 2), .val (.int 1), .val (.double (FP.i2d y0)), .second] [(.int 2), (.int 1)])
  refine own_icmp C S125 (q := .ge) (o := 45) (by decide +kernel) 68 (by decide) (by decide) (fun (hq : ¬ (1 : Int32) < (2 : Int32)) => False.elim (by revert hq; decide)) (fun (q126 : (1 : Int32) < (2 : Int32)) => ?_)
  refine own_seg C S125 [(26, .aload 5, 2), (28, .iload 7, 2)] (by decide +kernel) 30 #[.val (.ref b), .val (.double (FP.i2d y0)), .second, .val (.double (FP.i2d y0)), .second, .val (.ref b), .val (.int 2), .val (.int 1), .val (.double (FP.i2d y0)), .second] [(.int 1), (.ref b)] rfl ?_
  refine own_daload C S125 bK ⟨(by decide), (by decide)⟩ (.double (FP.i2d y1)) rfl (by decide +kernel) ?_
  refine own_seg C S125 [(31, .dstore 8, 2), (33, .dload 8, 2)] (by decide +kernel) 35 #[.val (.ref b), .val (.double (FP.i2d y0)), .second, .val (.double (FP.i2d y0)), .second, .val (.ref b), .val (.int 2), .val (.int 1), .val (.double (FP.i2d y1)), .second] [(.double (FP.i2d y1))] rfl ?_
  refine own_callS C S125 (own_wd hw 45 rfl) (own_wd hw 46 rfl) (own_wd hw 47 rfl) (own_wd hw 48 rfl) (by decide) (own_Met.pay (own_nan l Z a0 hw (FP.i2d y1) h0 n0 z0 ((Jvm.Free.Fl.i2d_fin _).noNaN)) C 0 (own_wd hw 48 rfl) (own_wd hw 47 rfl) (by decide) (by decide)) (fun _ _ _ q => q.2) [(.double (FP.i2d y1))] [] rfl own_pd1 rfl rfl rfl (Nat.le_of_ble_eq_true rfl) (by decide) (by decide) (by decide +kernel) ?_
  rintro T128 h129 v130 L131 S132 ⟨⟨rfl, e127⟩, -⟩
  rw [e127] at S132; clear e127
  show own_Go p e below _ T128 (mkF m 38 #[.val (.ref b), .val (.double (FP.i2d y0)), .second, .val (.double (FP.i2d y0)), .second, .val (.ref b), .val (.int 2), .val (.int 1), .val (.double (FP.i2d y1)), .second] [(.int 0)])
  refine own_if C S132 (q := .eq) (o := 10) (by decide +kernel) 48 (by decide) (by decide) (fun (q133 : (0 : Int32) = (0 : Int32)) => ?_) (fun (hq : ¬ (0 : Int32) = (0 : Int32)) => False.elim (by revert hq; decide))
  refine own_seg C S132 [(48, .dload_n 1, 1), (49, .dload 8, 2)] (by decide +kernel) 51 #[.val (.ref b), .val (.double (FP.i2d y0)), .second, .val (.double (FP.i2d y0)), .second, .val (.ref b), .val (.int 2), .val (.int 1), .val (.double (FP.i2d y1)), .second] [(.double (FP.i2d y1)), (.double (FP.i2d y0))] rfl ?_
  refine own_callS C S132 (own_wd hw 49 rfl) (own_wd hw 50 rfl) (own_wd hw 51 rfl) (own_wd hw 52 rfl) (by decide) (Q := (fun v h' L => v = some (.double (Jvm.Native.java_lang_Math.nans.pick64 false (FP.i2d y0) (FP.i2d y1))) ∧ L = [] ∧ h' = h0)) (own_minP C 0 (FP.i2d y0) (FP.i2d y1) (own_wd hw 52 rfl) (Jvm.Free.Fl.i2d_fin _).noNaN (Jvm.Free.Fl.i2d_fin _).noNaN (by decide) (by decide)) (fun _ _ L q => by rw [q.2.1]; exact Fr.nil _) [(.double (FP.i2d y0)), (.double (FP.i2d y1))] [] rfl own_pd2 rfl rfl rfl (Nat.le_of_ble_eq_true rfl) (by decide) (by decide) (by decide +kernel) ?_
  rintro T135 h136 v137 L138 S139 ⟨rfl, -, e134⟩
  rw [e134] at S139; clear e134
  show own_Go p e below _ T135 (mkF m 54 #[.val (.ref b), .val (.double (FP.i2d y0)), .second, .val (.double (FP.i2d y0)), .second, .val (.ref b), .val (.int 2), .val (.int 1), .val (.double (FP.i2d y1)), .second] [(.double (Jvm.Native.java_lang_Math.nans.pick64 false (FP.i2d y0) (FP.i2d y1)))])
  rw [show (Jvm.Native.java_lang_Math.nans.pick64 false (FP.i2d y0) (FP.i2d y1)) = (FP.i2d (if y1 < y0 then y1 else y0)) from own_pn y0 y1]
  refine own_seg C S139 [(54, .dstore_n 1, 1), (55, .dload_n 3, 1), (56, .dload 8, 2)] (by decide +kernel) 58 #[.val (.ref b), .val (.double (FP.i2d (if y1 < y0 then y1 else y0))), .second, .val (.double (FP.i2d y0)), .second, .val (.ref b), .val (.int 2), .val (.int 1), .val (.double (FP.i2d y1)), .second] [(.double (FP.i2d y1)), (.double (FP.i2d y0))] rfl ?_
  refine own_callS C S139 (own_wd hw 53 rfl) (own_wd hw 54 rfl) (own_wd hw 51 rfl) (own_wd hw 55 rfl) (by decide) (Q := (fun v h' L => v = some (.double (Jvm.Native.java_lang_Math.nans.pick64 true (FP.i2d y0) (FP.i2d y1))) ∧ L = [] ∧ h' = h0)) (own_maxP C 0 (FP.i2d y0) (FP.i2d y1) (own_wd hw 55 rfl) (Jvm.Free.Fl.i2d_fin _).noNaN (Jvm.Free.Fl.i2d_fin _).noNaN (by decide) (by decide)) (fun _ _ L q => by rw [q.2.1]; exact Fr.nil _) [(.double (FP.i2d y0)), (.double (FP.i2d y1))] [] rfl own_pd2 rfl rfl rfl (Nat.le_of_ble_eq_true rfl) (by decide) (by decide) (by decide +kernel) ?_
  rintro T141 h142 v143 L144 S145 ⟨rfl, -, e140⟩
  rw [e140] at S145; clear e140
  show own_Go p e below _ T141 (mkF m 61 #[.val (.ref b), .val (.double (FP.i2d (if y1 < y0 then y1 else y0))), .second, .val (.double (FP.i2d y0)), .second, .val (.ref b), .val (.int 2), .val (.int 1), .val (.double (FP.i2d y1)), .second] [(.double (Jvm.Native.java_lang_Math.nans.pick64 true (FP.i2d y0) (FP.i2d y1)))])
  rw [show (Jvm.Native.java_lang_Math.nans.pick64 true (FP.i2d y0) (FP.i2d y1)) = (FP.i2d (if y0 < y1 then y1 else y0)) from own_px y0 y1]
  refine own_seg C S145 [(61, .dstore_n 3, 1), (62, .iinc 7 1, 3), (65, .goto (-46), 3), (19, .iload 7, 2), (21, .iload 6, 2)] (by decide +kernel) 23 #[.val (.ref b), .val (.double (FP.i2d (if y1 < y0 then y1 else y0))), .second, .val (.double (FP.i2d (if y0 < y1 then y1 else y0))), .second, .val (.ref b), .val (.int 2), .val (.int ((1 : Int32) + (1 : Int32))), .val (.double (FP.i2d y1)), .second] [(.int 2), (.int ((1 : Int32) + (1 : Int32)))] rfl ?_
  show own_Go p e below _ T141 (mkF m 23 #[.val (.ref b), .val (.double (FP.i2d (if y1 < y0 then y1 else y0))), .second, .val (.double (FP.i2d (if y0 < y1 then y1 else y0))), .second, .val (.ref b), .val (.int 2), .val (.int 2), .val (.double (FP.i2d y1)), .second] [(.int 2), (.int 2)])
  refine own_icmp C S145 (q := .ge) (o := 45) (by decide +kernel) 68 (by decide) (by decide) (fun (q146 : ¬ (2 : Int32) < (2 : Int32)) => ?_) (fun (hq : (2 : Int32) < (2 : Int32)) => False.elim (by revert hq; decide))
  refine own_new C S145 (own_wd hw 8 rfl) (own_wd hw 9 rfl) (own_wd hw 4 rfl) (by decide +kernel) (by decide) (by decide) ?_
  intro T147 h149 a150 S148 g151 E152 x153 D154
  have f155 : Fld Z h149 a150 "com/example/persephone/persephone/ValueBounds" "lowest" "D" (.double 0) := D154 (ty := .double) (Or.inr (own_wd hw 17 rfl)) own_fd0
  have f156 : Fld Z h149 a150 "com/example/persephone/persephone/ValueBounds" "highest" "D" (.double 0) := D154 (ty := .double) (Or.inr (own_wd hw 19 rfl)) own_fd0
  have f157 : Fld Z h149 a150 "com/example/persephone/persephone/ValueBounds" "mayBeMissing" "Z" (.int 0) := D154 (ty := .boolean) (Or.inr (own_wd hw 21 rfl)) own_fd1
  refine own_seg C S148 [(71, .dup, 1), (72, .dload_n 1, 1), (73, .dload_n 3, 1), (74, .iconst 0, 1)] (by decide +kernel) 75 #[.val (.ref b), .val (.double (FP.i2d (if y1 < y0 then y1 else y0))), .second, .val (.double (FP.i2d (if y0 < y1 then y1 else y0))), .second, .val (.ref b), .val (.int 2), .val (.int 2), .val (.double (FP.i2d y1)), .second] [(.int 0), (.double (FP.i2d (if y0 < y1 then y1 else y0))), (.double (FP.i2d (if y1 < y0 then y1 else y0))), (.ref a150), (.ref a150)] rfl ?_
  have f158 : n0 ≤ h149.size := (Nat.le_trans z0 E152.1)
  have g159 : n0 ≤ a150 := by rw [g151]; exact z0
  refine own_callI C S148 rfl (own_wd hw 10 rfl) (own_wd hw 11 rfl) (own_wd hw 12 rfl) (by decide) (own_Met.pay (own_vi l Z a0 hw a150 (FP.i2d (if y1 < y0 then y1 else y0)) (FP.i2d (if y0 < y1 then y1 else y0)) h149 n0 f158 g159 x153 f155 f156 f157) C 1 (own_wd hw 12 rfl) (own_wd hw 4 rfl) (by decide) (by decide)) (fun _ _ _ q => q.2) [(.double (FP.i2d (if y1 < y0 then y1 else y0))), (.double (FP.i2d (if y0 < y1 then y1 else y0))), (.int 0)] [(.ref a150)] rfl own_pd0 rfl rfl rfl (Nat.le_of_ble_eq_true rfl) (by decide) (by decide) (by decide +kernel) ?_
  rintro T165 h166 v167 L168 S169 ⟨⟨rfl, K160, f161, f162, f163, f164⟩, -⟩
  show own_Go p e below _ T165 (mkF m 78 #[.val (.ref b), .val (.double (FP.i2d (if y1 < y0 then y1 else y0))), .second, .val (.double (FP.i2d (if y0 < y1 then y1 else y0))), .second, .val (.ref b), .val (.int 2), .val (.int 2), .val (.double (FP.i2d y1)), .second] [(.ref a150)])
  refine own_retA C S169 rfl rfl (by decide +kernel) (by decide) (by decide) ?_
  have o170 : h0.size ≤ a150 := by rw [g151]; exact (Nat.le_refl _)
  exact ⟨a150, rfl, o170, (((Keep.refl _ _).ext E152).trans K160 (allS (Or.inr o170) all0)), f161, f162, f163, f164⟩
theorem own_sp3 (l : Launch) (Z : State) (a0 : Array Value) (hw : ∀ d ∈ tables_1, d.before a0 Z = true) (b : Addr) (bk : ClassId) (y0 : Int32) (y1 : Int32) (y2 : Int32) (h0 : Heap) (n0 : Nat) (z0 : n0 ≤ h0.size) (bK : Arv Z h0 b bk .double (3 : Int32) ([(.double (FP.i2d y0)), (.double (FP.i2d y1)), (.double (FP.i2d y2))]) (.double 0)) :
    own_Met l Z (⟨"com/example/persephone/persephone/ValueBounds", "span", "([D)Lcom/example/persephone/persephone/ValueBounds;"⟩ : MethodName) prog_14_method_21_code 10 (some (.object "com/example/persephone/persephone/ValueBounds")) ({ frames := 2, cells := 1, slots := 3, locals := 30 } : Room) n0 #[(.ref b)] h0 (fun v h => ∃ r : Addr, v = some (.ref r) ∧ h0.size ≤ r ∧ Keep h0 h [] ∧ Exa Z h r "com/example/persephone/persephone/ValueBounds" ∧ Fld Z h r "com/example/persephone/persephone/ValueBounds" "lowest" "D" (.double (FP.i2d (if y2 < (if y1 < y0 then y1 else y0) then y2 else (if y1 < y0 then y1 else y0)))) ∧ Fld Z h r "com/example/persephone/persephone/ValueBounds" "highest" "D" (.double (FP.i2d (if (if y0 < y1 then y1 else y0) < y2 then y2 else (if y0 < y1 then y1 else y0)))) ∧ Fld Z h r "com/example/persephone/persephone/ValueBounds" "mayBeMissing" "Z" (.int 0)) := by
  refine own_met (by decide +kernel) #[.val (.ref b), .unset, .unset, .unset, .unset, .unset, .unset, .unset, .unset, .unset] (fun m => by first | (simp [entryFrame, mkF, argsToLocals, Value.category]; done) | rfl) ?_
  intro p e s m below meth c T0 C S0
  refine own_ldc2D C S0 (own_wd hw 6 rfl) (by decide +kernel) ?_
  refine own_seg C S0 [(3, .dstore_n 1, 1)] (by decide +kernel) 4 #[.val (.ref b), .val (.double (9218868437227405312 : UInt64)), .second, .unset, .unset, .unset, .unset, .unset, .unset, .unset] [] rfl ?_
  refine own_ldc2D C S0 (own_wd hw 7 rfl) (by decide +kernel) ?_
  refine own_seg C S0 [(7, .dstore_n 3, 1), (8, .aload_n 0, 1), (9, .astore 5, 2), (11, .aload 5, 2)] (by decide +kernel) 13 #[.val (.ref b), .val (.double (9218868437227405312 : UInt64)), .second, .val (.double (18442240474082181120 : UInt64)), .second, .val (.ref b), .unset, .unset, .unset, .unset] [(.ref b)] rfl ?_
  refine own_alen C S0 bK (by decide +kernel) ?_
  refine own_seg C S0 [(14, .istore 6, 2), (16, .iconst 0, 1), (17, .istore 7, 2), (19, .iload 7, 2), (21, .iload 6, 2)] (by decide +kernel) 23 #[.val (.ref b), .val (.double (9218868437227405312 : UInt64)), .second, .val (.double (18442240474082181120 : UInt64)), .second, .val (.ref b), .val (.int 3), .val (.int 0), .unset, .unset] [(.int 3), (.int 0)] rfl ?_
  refine own_icmp C S0 (q := .ge) (o := 45) (by decide +kernel) 68 (by decide) (by decide) (fun (hq : ¬ (0 : Int32) < (3 : Int32)) => False.elim (by revert hq; decide)) (fun (q171 : (0 : Int32) < (3 : Int32)) => ?_)
  refine own_seg C S0 [(26, .aload 5, 2), (28, .iload 7, 2)] (by decide +kernel) 30 #[.val (.ref b), .val (.double (9218868437227405312 : UInt64)), .second, .val (.double (18442240474082181120 : UInt64)), .second, .val (.ref b), .val (.int 3), .val (.int 0), .unset, .unset] [(.int 0), (.ref b)] rfl ?_
  refine own_daload C S0 bK ⟨(by decide), (by decide)⟩ (.double (FP.i2d y0)) rfl (by decide +kernel) ?_
  refine own_seg C S0 [(31, .dstore 8, 2), (33, .dload 8, 2)] (by decide +kernel) 35 #[.val (.ref b), .val (.double (9218868437227405312 : UInt64)), .second, .val (.double (18442240474082181120 : UInt64)), .second, .val (.ref b), .val (.int 3), .val (.int 0), .val (.double (FP.i2d y0)), .second] [(.double (FP.i2d y0))] rfl ?_
  refine own_callS C S0 (own_wd hw 45 rfl) (own_wd hw 46 rfl) (own_wd hw 47 rfl) (own_wd hw 48 rfl) (by decide) (own_Met.pay (own_nan l Z a0 hw (FP.i2d y0) h0 n0 z0 ((Jvm.Free.Fl.i2d_fin _).noNaN)) C 0 (own_wd hw 48 rfl) (own_wd hw 47 rfl) (by decide) (by decide)) (fun _ _ _ q => q.2) [(.double (FP.i2d y0))] [] rfl own_pd1 rfl rfl rfl (Nat.le_of_ble_eq_true rfl) (by decide) (by decide) (by decide +kernel) ?_
  rintro T173 h174 v175 L176 S177 ⟨⟨rfl, e172⟩, -⟩
  rw [e172] at S177; clear e172
  show own_Go p e below _ T173 (mkF m 38 #[.val (.ref b), .val (.double (9218868437227405312 : UInt64)), .second, .val (.double (18442240474082181120 : UInt64)), .second, .val (.ref b), .val (.int 3), .val (.int 0), .val (.double (FP.i2d y0)), .second] [(.int 0)])
  refine own_if C S177 (q := .eq) (o := 10) (by decide +kernel) 48 (by decide) (by decide) (fun (q178 : (0 : Int32) = (0 : Int32)) => ?_) (fun (hq : ¬ (0 : Int32) = (0 : Int32)) => False.elim (by revert hq; decide))
  refine own_seg C S177 [(48, .dload_n 1, 1), (49, .dload 8, 2)] (by decide +kernel) 51 #[.val (.ref b), .val (.double (9218868437227405312 : UInt64)), .second, .val (.double (18442240474082181120 : UInt64)), .second, .val (.ref b), .val (.int 3), .val (.int 0), .val (.double (FP.i2d y0)), .second] [(.double (FP.i2d y0)), (.double (9218868437227405312 : UInt64))] rfl ?_
  refine own_callS C S177 (own_wd hw 49 rfl) (own_wd hw 50 rfl) (own_wd hw 51 rfl) (own_wd hw 52 rfl) (by decide) (Q := (fun v h' L => v = some (.double (Jvm.Native.java_lang_Math.nans.pick64 false (9218868437227405312 : UInt64) (FP.i2d y0))) ∧ L = [] ∧ h' = h0)) (own_minP C 0 (9218868437227405312 : UInt64) (FP.i2d y0) (own_wd hw 52 rfl) own_nnp (Jvm.Free.Fl.i2d_fin _).noNaN (by decide) (by decide)) (fun _ _ L q => by rw [q.2.1]; exact Fr.nil _) [(.double (9218868437227405312 : UInt64)), (.double (FP.i2d y0))] [] rfl own_pd2 rfl rfl rfl (Nat.le_of_ble_eq_true rfl) (by decide) (by decide) (by decide +kernel) ?_
  rintro T180 h181 v182 L183 S184 ⟨rfl, -, e179⟩
  rw [e179] at S184; clear e179
  show own_Go p e below _ T180 (mkF m 54 #[.val (.ref b), .val (.double (9218868437227405312 : UInt64)), .second, .val (.double (18442240474082181120 : UInt64)), .second, .val (.ref b), .val (.int 3), .val (.int 0), .val (.double (FP.i2d y0)), .second] [(.double (Jvm.Native.java_lang_Math.nans.pick64 false (9218868437227405312 : UInt64) (FP.i2d y0)))])
  rw [show (Jvm.Native.java_lang_Math.nans.pick64 false (9218868437227405312 : UInt64) (FP.i2d y0)) = (FP.i2d y0) from own_pn0 y0]
  refine own_seg C S184 [(54, .dstore_n 1, 1), (55, .dload_n 3, 1), (56, .dload 8, 2)] (by decide +kernel) 58 #[.val (.ref b), .val (.double (FP.i2d y0)), .second, .val (.double (18442240474082181120 : UInt64)), .second, .val (.ref b), .val (.int 3), .val (.int 0), .val (.double (FP.i2d y0)), .second] [(.double (FP.i2d y0)), (.double (18442240474082181120 : UInt64))] rfl ?_
  refine own_callS C S184 (own_wd hw 53 rfl) (own_wd hw 54 rfl) (own_wd hw 51 rfl) (own_wd hw 55 rfl) (by decide) (Q := (fun v h' L => v = some (.double (Jvm.Native.java_lang_Math.nans.pick64 true (18442240474082181120 : UInt64) (FP.i2d y0))) ∧ L = [] ∧ h' = h0)) (own_maxP C 0 (18442240474082181120 : UInt64) (FP.i2d y0) (own_wd hw 55 rfl) own_nnn (Jvm.Free.Fl.i2d_fin _).noNaN (by decide) (by decide)) (fun _ _ L q => by rw [q.2.1]; exact Fr.nil _) [(.double (18442240474082181120 : UInt64)), (.double (FP.i2d y0))] [] rfl own_pd2 rfl rfl rfl (Nat.le_of_ble_eq_true rfl) (by decide) (by decide) (by decide +kernel) ?_
  rintro T186 h187 v188 L189 S190 ⟨rfl, -, e185⟩
  rw [e185] at S190; clear e185
  show own_Go p e below _ T186 (mkF m 61 #[.val (.ref b), .val (.double (FP.i2d y0)), .second, .val (.double (18442240474082181120 : UInt64)), .second, .val (.ref b), .val (.int 3), .val (.int 0), .val (.double (FP.i2d y0)), .second] [(.double (Jvm.Native.java_lang_Math.nans.pick64 true (18442240474082181120 : UInt64) (FP.i2d y0)))])
  rw [show (Jvm.Native.java_lang_Math.nans.pick64 true (18442240474082181120 : UInt64) (FP.i2d y0)) = (FP.i2d y0) from own_px0 y0]
  refine own_seg C S190 [(61, .dstore_n 3, 1), (62, .iinc 7 1, 3), (65, .goto (-46), 3), (19, .iload 7, 2), (21, .iload 6, 2)] (by decide +kernel) 23 #[.val (.ref b), .val (.double (FP.i2d y0)), .second, .val (.double (FP.i2d y0)), .second, .val (.ref b), .val (.int 3), .val (.int ((0 : Int32) + (1 : Int32))), .val (.double (FP.i2d y0)), .second] [(.int 3), (.int ((0 : Int32) + (1 : Int32)))] rfl ?_
  show own_Go p e below _ T186 (mkF m 23 #[.val (.ref b), .val (.double (FP.i2d y0)), .second, .val (.double (FP.i2d y0)), .second, .val (.ref b), .val (.int 3), .val (.int 1), .val (.double (FP.i2d y0)), .second] [(.int 3), (.int 1)])
  refine own_icmp C S190 (q := .ge) (o := 45) (by decide +kernel) 68 (by decide) (by decide) (fun (hq : ¬ (1 : Int32) < (3 : Int32)) => False.elim (by revert hq; decide)) (fun (q191 : (1 : Int32) < (3 : Int32)) => ?_)
  refine own_seg C S190 [(26, .aload 5, 2), (28, .iload 7, 2)] (by decide +kernel) 30 #[.val (.ref b), .val (.double (FP.i2d y0)), .second, .val (.double (FP.i2d y0)), .second, .val (.ref b), .val (.int 3), .val (.int 1), .val (.double (FP.i2d y0)), .second] [(.int 1), (.ref b)] rfl ?_
  refine own_daload C S190 bK ⟨(by decide), (by decide)⟩ (.double (FP.i2d y1)) rfl (by decide +kernel) ?_
  refine own_seg C S190 [(31, .dstore 8, 2), (33, .dload 8, 2)] (by decide +kernel) 35 #[.val (.ref b), .val (.double (FP.i2d y0)), .second, .val (.double (FP.i2d y0)), .second, .val (.ref b), .val (.int 3), .val (.int 1), .val (.double (FP.i2d y1)), .second] [(.double (FP.i2d y1))] rfl ?_
  refine own_callS C S190 (own_wd hw 45 rfl) (own_wd hw 46 rfl) (own_wd hw 47 rfl) (own_wd hw 48 rfl) (by decide) (own_Met.pay (own_nan l Z a0 hw (FP.i2d y1) h0 n0 z0 ((Jvm.Free.Fl.i2d_fin _).noNaN)) C 0 (own_wd hw 48 rfl) (own_wd hw 47 rfl) (by decide) (by decide)) (fun _ _ _ q => q.2) [(.double (FP.i2d y1))] [] rfl own_pd1 rfl rfl rfl (Nat.le_of_ble_eq_true rfl) (by decide) (by decide) (by decide +kernel) ?_
  rintro T193 h194 v195 L196 S197 ⟨⟨rfl, e192⟩, -⟩
  rw [e192] at S197; clear e192
  show own_Go p e below _ T193 (mkF m 38 #[.val (.ref b), .val (.double (FP.i2d y0)), .second, .val (.double (FP.i2d y0)), .second, .val (.ref b), .val (.int 3), .val (.int 1), .val (.double (FP.i2d y1)), .second] [(.int 0)])
  refine own_if C S197 (q := .eq) (o := 10) (by decide +kernel) 48 (by decide) (by decide) (fun (q198 : (0 : Int32) = (0 : Int32)) => ?_) (fun (hq : ¬ (0 : Int32) = (0 : Int32)) => False.elim (by revert hq; decide))
  refine own_seg C S197 [(48, .dload_n 1, 1), (49, .dload 8, 2)] (by decide +kernel) 51 #[.val (.ref b), .val (.double (FP.i2d y0)), .second, .val (.double (FP.i2d y0)), .second, .val (.ref b), .val (.int 3), .val (.int 1), .val (.double (FP.i2d y1)), .second] [(.double (FP.i2d y1)), (.double (FP.i2d y0))] rfl ?_
  refine own_callS C S197 (own_wd hw 49 rfl) (own_wd hw 50 rfl) (own_wd hw 51 rfl) (own_wd hw 52 rfl) (by decide) (Q := (fun v h' L => v = some (.double (Jvm.Native.java_lang_Math.nans.pick64 false (FP.i2d y0) (FP.i2d y1))) ∧ L = [] ∧ h' = h0)) (own_minP C 0 (FP.i2d y0) (FP.i2d y1) (own_wd hw 52 rfl) (Jvm.Free.Fl.i2d_fin _).noNaN (Jvm.Free.Fl.i2d_fin _).noNaN (by decide) (by decide)) (fun _ _ L q => by rw [q.2.1]; exact Fr.nil _) [(.double (FP.i2d y0)), (.double (FP.i2d y1))] [] rfl own_pd2 rfl rfl rfl (Nat.le_of_ble_eq_true rfl) (by decide) (by decide) (by decide +kernel) ?_
  rintro T200 h201 v202 L203 S204 ⟨rfl, -, e199⟩
  rw [e199] at S204; clear e199
  show own_Go p e below _ T200 (mkF m 54 #[.val (.ref b), .val (.double (FP.i2d y0)), .second, .val (.double (FP.i2d y0)), .second, .val (.ref b), .val (.int 3), .val (.int 1), .val (.double (FP.i2d y1)), .second] [(.double (Jvm.Native.java_lang_Math.nans.pick64 false (FP.i2d y0) (FP.i2d y1)))])
  rw [show (Jvm.Native.java_lang_Math.nans.pick64 false (FP.i2d y0) (FP.i2d y1)) = (FP.i2d (if y1 < y0 then y1 else y0)) from own_pn y0 y1]
  refine own_seg C S204 [(54, .dstore_n 1, 1), (55, .dload_n 3, 1), (56, .dload 8, 2)] (by decide +kernel) 58 #[.val (.ref b), .val (.double (FP.i2d (if y1 < y0 then y1 else y0))), .second, .val (.double (FP.i2d y0)), .second, .val (.ref b), .val (.int 3), .val (.int 1), .val (.double (FP.i2d y1)), .second] [(.double (FP.i2d y1)), (.double (FP.i2d y0))] rfl ?_
  refine own_callS C S204 (own_wd hw 53 rfl) (own_wd hw 54 rfl) (own_wd hw 51 rfl) (own_wd hw 55 rfl) (by decide) (Q := (fun v h' L => v = some (.double (Jvm.Native.java_lang_Math.nans.pick64 true (FP.i2d y0) (FP.i2d y1))) ∧ L = [] ∧ h' = h0)) (own_maxP C 0 (FP.i2d y0) (FP.i2d y1) (own_wd hw 55 rfl) (Jvm.Free.Fl.i2d_fin _).noNaN (Jvm.Free.Fl.i2d_fin _).noNaN (by decide) (by decide)) (fun _ _ L q => by rw [q.2.1]; exact Fr.nil _) [(.double (FP.i2d y0)), (.double (FP.i2d y1))] [] rfl own_pd2 rfl rfl rfl (Nat.le_of_ble_eq_true rfl) (by decide) (by decide) (by decide +kernel) ?_
  rintro T206 h207 v208 L209 S210 ⟨rfl, -, e205⟩
  rw [e205] at S210; clear e205
  show own_Go p e below _ T206 (mkF m 61 #[.val (.ref b), .val (.double (FP.i2d (if y1 < y0 then y1 else y0))), .second, .val (.double (FP.i2d y0)), .second, .val (.ref b), .val (.int 3), .val (.int 1), .val (.double (FP.i2d y1)), .second] [(.double (Jvm.Native.java_lang_Math.nans.pick64 true (FP.i2d y0) (FP.i2d y1)))])
  rw [show (Jvm.Native.java_lang_Math.nans.pick64 true (FP.i2d y0) (FP.i2d y1)) = (FP.i2d (if y0 < y1 then y1 else y0)) from own_px y0 y1]
  refine own_seg C S210 [(61, .dstore_n 3, 1), (62, .iinc 7 1, 3), (65, .goto (-46), 3), (19, .iload 7, 2), (21, .iload 6, 2)] (by decide +kernel) 23 #[.val (.ref b), .val (.double (FP.i2d (if y1 < y0 then y1 else y0))), .second, .val (.double (FP.i2d (if y0 < y1 then y1 else y0))), .second, .val (.ref b), .val (.int 3), .val (.int ((1 : Int32) + (1 : Int32))), .val (.double (FP.i2d y1)), .second] [(.int 3), (.int ((1 : Int32) + (1 : Int32)))] rfl ?_
  show own_Go p e below _ T206 (mkF m 23 #[.val (.ref b), .val (.double (FP.i2d (if y1 < y0 then y1 else y0))), .second, .val (.double (FP.i2d (if y0 < y1 then y1 else y0))), .second, .val (.ref b), .val (.int 3), .val (.int 2), .val (.double (FP.i2d y1)), .second] [(.int 3), (.int 2)])
  refine own_icmp C S210 (q := .ge) (o := 45) (by decide +kernel) 68 (by decide) (by decide) (fun (hq : ¬ (2 : Int32) < (3 : Int32)) => False.elim (by revert hq; decide)) (fun (q211 : (2 : Int32) < (3 : Int32)) => ?_)
  refine own_seg C S210 [(26, .aload 5, 2), (28, .iload 7, 2)] (by decide +kernel) 30 #[.val (.ref b), .val (.double (FP.i2d (if y1 < y0 then y1 else y0))), .second, .val (.double (FP.i2d (if y0 < y1 then y1 else y0))), .second, .val (.ref b), .val (.int 3), .val (.int 2), .val (.double (FP.i2d y1)), .second] [(.int 2), (.ref b)] rfl ?_
  refine own_daload C S210 bK ⟨(by decide), (by decide)⟩ (.double (FP.i2d y2)) rfl (by decide +kernel) ?_
  refine own_seg C S210 [(31, .dstore 8, 2), (33, .dload 8, 2)] (by decide +kernel) 35 #[.val (.ref b), .val (.double (FP.i2d (if y1 < y0 then y1 else y0))), .second, .val (.double (FP.i2d (if y0 < y1 then y1 else y0))), .second, .val (.ref b), .val (.int 3), .val (.int 2), .val (.double (FP.i2d y2)), .second] [(.double (FP.i2d y2))] rfl ?_
  refine own_callS C S210 (own_wd hw 45 rfl) (own_wd hw 46 rfl) (own_wd hw 47 rfl) (own_wd hw 48 rfl) (by decide) (own_Met.pay (own_nan l Z a0 hw (FP.i2d y2) h0 n0 z0 ((Jvm.Free.Fl.i2d_fin _).noNaN)) C 0 (own_wd hw 48 rfl) (own_wd hw 47 rfl) (by decide) (by decide)) (fun _ _ _ q => q.2) [(.double (FP.i2d y2))] [] rfl own_pd1 rfl rfl rfl (Nat.le_of_ble_eq_true rfl) (by decide) (by decide) (by decide +kernel) ?_
  rintro T213 h214 v215 L216 S217 ⟨⟨rfl, e212⟩, -⟩
  rw [e212] at S217; clear e212
  show own_Go p e below _ T213 (mkF m 38 #[.val (.ref b), .val (.double (FP.i2d (if y1 < y0 then y1 else y0))), .second, .val (.double (FP.i2d (if y0 < y1 then y1 else y0))), .second, .val (.ref b), .val (.int 3), .val (.int 2), .val (.double (FP.i2d y2)), .second] [(.int 0)])
  refine own_if C S217 (q := .eq) (o := 10) (by decide +kernel) 48 (by decide) (by decide) (fun (q218 : (0 : Int32) = (0 : Int32)) => ?_) (fun (hq : ¬ (0 : Int32) = (0 : Int32)) => False.elim (by revert hq; decide))
  refine own_seg C S217 [(48, .dload_n 1, 1), (49, .dload 8, 2)] (by decide +kernel) 51 #[.val (.ref b), .val (.double (FP.i2d (if y1 < y0 then y1 else y0))), .second, .val (.double (FP.i2d (if y0 < y1 then y1 else y0))), .second, .val (.ref b), .val (.int 3), .val (.int 2), .val (.double (FP.i2d y2)), .second] [(.double (FP.i2d y2)), (.double (FP.i2d (if y1 < y0 then y1 else y0)))] rfl ?_
  refine own_callS C S217 (own_wd hw 49 rfl) (own_wd hw 50 rfl) (own_wd hw 51 rfl) (own_wd hw 52 rfl) (by decide) (Q := (fun v h' L => v = some (.double (Jvm.Native.java_lang_Math.nans.pick64 false (FP.i2d (if y1 < y0 then y1 else y0)) (FP.i2d y2))) ∧ L = [] ∧ h' = h0)) (own_minP C 0 (FP.i2d (if y1 < y0 then y1 else y0)) (FP.i2d y2) (own_wd hw 52 rfl) (Jvm.Free.Fl.i2d_fin _).noNaN (Jvm.Free.Fl.i2d_fin _).noNaN (by decide) (by decide)) (fun _ _ L q => by rw [q.2.1]; exact Fr.nil _) [(.double (FP.i2d (if y1 < y0 then y1 else y0))), (.double (FP.i2d y2))] [] rfl own_pd2 rfl rfl rfl (Nat.le_of_ble_eq_true rfl) (by decide) (by decide) (by decide +kernel) ?_
  rintro T220 h221 v222 L223 S224 ⟨rfl, -, e219⟩
  rw [e219] at S224; clear e219
  show own_Go p e below _ T220 (mkF m 54 #[.val (.ref b), .val (.double (FP.i2d (if y1 < y0 then y1 else y0))), .second, .val (.double (FP.i2d (if y0 < y1 then y1 else y0))), .second, .val (.ref b), .val (.int 3), .val (.int 2), .val (.double (FP.i2d y2)), .second] [(.double (Jvm.Native.java_lang_Math.nans.pick64 false (FP.i2d (if y1 < y0 then y1 else y0)) (FP.i2d y2)))])
  rw [show (Jvm.Native.java_lang_Math.nans.pick64 false (FP.i2d (if y1 < y0 then y1 else y0)) (FP.i2d y2)) = (FP.i2d (if y2 < (if y1 < y0 then y1 else y0) then y2 else (if y1 < y0 then y1 else y0))) from own_pn (if y1 < y0 then y1 else y0) y2]
  refine own_seg C S224 [(54, .dstore_n 1, 1), (55, .dload_n 3, 1), (56, .dload 8, 2)] (by decide +kernel) 58 #[.val (.ref b), .val (.double (FP.i2d (if y2 < (if y1 < y0 then y1 else y0) then y2 else (if y1 < y0 then y1 else y0)))), .second, .val (.double (FP.i2d (if y0 < y1 then y1 else y0))), .second, .val (.ref b), .val (.int 3), .val (.int 2), .val (.double (FP.i2d y2)), .second] [(.double (FP.i2d y2)), (.double (FP.i2d (if y0 < y1 then y1 else y0)))] rfl ?_
  refine own_callS C S224 (own_wd hw 53 rfl) (own_wd hw 54 rfl) (own_wd hw 51 rfl) (own_wd hw 55 rfl) (by decide) (Q := (fun v h' L => v = some (.double (Jvm.Native.java_lang_Math.nans.pick64 true (FP.i2d (if y0 < y1 then y1 else y0)) (FP.i2d y2))) ∧ L = [] ∧ h' = h0)) (own_maxP C 0 (FP.i2d (if y0 < y1 then y1 else y0)) (FP.i2d y2) (own_wd hw 55 rfl) (Jvm.Free.Fl.i2d_fin _).noNaN (Jvm.Free.Fl.i2d_fin _).noNaN (by decide) (by decide)) (fun _ _ L q => by rw [q.2.1]; exact Fr.nil _) [(.double (FP.i2d (if y0 < y1 then y1 else y0))), (.double (FP.i2d y2))] [] rfl own_pd2 rfl rfl rfl (Nat.le_of_ble_eq_true rfl) (by decide) (by decide) (by decide +kernel) ?_
  rintro T226 h227 v228 L229 S230 ⟨rfl, -, e225⟩
  rw [e225] at S230; clear e225
  show own_Go p e below _ T226 (mkF m 61 #[.val (.ref b), .val (.double (FP.i2d (if y2 < (if y1 < y0 then y1 else y0) then y2 else (if y1 < y0 then y1 else y0)))), .second, .val (.double (FP.i2d (if y0 < y1 then y1 else y0))), .second, .val (.ref b), .val (.int 3), .val (.int 2), .val (.double (FP.i2d y2)), .second] [(.double (Jvm.Native.java_lang_Math.nans.pick64 true (FP.i2d (if y0 < y1 then y1 else y0)) (FP.i2d y2)))])
  rw [show (Jvm.Native.java_lang_Math.nans.pick64 true (FP.i2d (if y0 < y1 then y1 else y0)) (FP.i2d y2)) = (FP.i2d (if (if y0 < y1 then y1 else y0) < y2 then y2 else (if y0 < y1 then y1 else y0))) from own_px (if y0 < y1 then y1 else y0) y2]
  refine own_seg C S230 [(61, .dstore_n 3, 1), (62, .iinc 7 1, 3), (65, .goto (-46), 3), (19, .iload 7, 2), (21, .iload 6, 2)] (by decide +kernel) 23 #[.val (.ref b), .val (.double (FP.i2d (if y2 < (if y1 < y0 then y1 else y0) then y2 else (if y1 < y0 then y1 else y0)))), .second, .val (.double (FP.i2d (if (if y0 < y1 then y1 else y0) < y2 then y2 else (if y0 < y1 then y1 else y0)))), .second, .val (.ref b), .val (.int 3), .val (.int ((2 : Int32) + (1 : Int32))), .val (.double (FP.i2d y2)), .second] [(.int 3), (.int ((2 : Int32) + (1 : Int32)))] rfl ?_
  show own_Go p e below _ T226 (mkF m 23 #[.val (.ref b), .val (.double (FP.i2d (if y2 < (if y1 < y0 then y1 else y0) then y2 else (if y1 < y0 then y1 else y0)))), .second, .val (.double (FP.i2d (if (if y0 < y1 then y1 else y0) < y2 then y2 else (if y0 < y1 then y1 else y0)))), .second, .val (.ref b), .val (.int 3), .val (.int 3), .val (.double (FP.i2d y2)), .second] [(.int 3), (.int 3)])
  refine own_icmp C S230 (q := .ge) (o := 45) (by decide +kernel) 68 (by decide) (by decide) (fun (q231 : ¬ (3 : Int32) < (3 : Int32)) => ?_) (fun (hq : (3 : Int32) < (3 : Int32)) => False.elim (by revert hq; decide))
  refine own_new C S230 (own_wd hw 8 rfl) (own_wd hw 9 rfl) (own_wd hw 4 rfl) (by decide +kernel) (by decide) (by decide) ?_
  intro T232 h234 a235 S233 g236 E237 x238 D239
  have f240 : Fld Z h234 a235 "com/example/persephone/persephone/ValueBounds" "lowest" "D" (.double 0) := D239 (ty := .double) (Or.inr (own_wd hw 17 rfl)) own_fd0
  have f241 : Fld Z h234 a235 "com/example/persephone/persephone/ValueBounds" "highest" "D" (.double 0) := D239 (ty := .double) (Or.inr (own_wd hw 19 rfl)) own_fd0
  have f242 : Fld Z h234 a235 "com/example/persephone/persephone/ValueBounds" "mayBeMissing" "Z" (.int 0) := D239 (ty := .boolean) (Or.inr (own_wd hw 21 rfl)) own_fd1
  refine own_seg C S233 [(71, .dup, 1), (72, .dload_n 1, 1), (73, .dload_n 3, 1), (74, .iconst 0, 1)] (by decide +kernel) 75 #[.val (.ref b), .val (.double (FP.i2d (if y2 < (if y1 < y0 then y1 else y0) then y2 else (if y1 < y0 then y1 else y0)))), .second, .val (.double (FP.i2d (if (if y0 < y1 then y1 else y0) < y2 then y2 else (if y0 < y1 then y1 else y0)))), .second, .val (.ref b), .val (.int 3), .val (.int 3), .val (.double (FP.i2d y2)), .second] [(.int 0), (.double (FP.i2d (if (if y0 < y1 then y1 else y0) < y2 then y2 else (if y0 < y1 then y1 else y0)))), (.double (FP.i2d (if y2 < (if y1 < y0 then y1 else y0) then y2 else (if y1 < y0 then y1 else y0)))), (.ref a235), (.ref a235)] rfl ?_
  have f243 : n0 ≤ h234.size := (Nat.le_trans z0 E237.1)
  have g244 : n0 ≤ a235 := by rw [g236]; exact z0
  refine own_callI C S233 rfl (own_wd hw 10 rfl) (own_wd hw 11 rfl) (own_wd hw 12 rfl) (by decide) (own_Met.pay (own_vi l Z a0 hw a235 (FP.i2d (if y2 < (if y1 < y0 then y1 else y0) then y2 else (if y1 < y0 then y1 else y0))) (FP.i2d (if (if y0 < y1 then y1 else y0) < y2 then y2 else (if y0 < y1 then y1 else y0))) h234 n0 f243 g244 x238 f240 f241 f242) C 1 (own_wd hw 12 rfl) (own_wd hw 4 rfl) (by decide) (by decide)) (fun _ _ _ q => q.2) [(.double (FP.i2d (if y2 < (if y1 < y0 then y1 else y0) then y2 else (if y1 < y0 then y1 else y0)))), (.double (FP.i2d (if (if y0 < y1 then y1 else y0) < y2 then y2 else (if y0 < y1 then y1 else y0)))), (.int 0)] [(.ref a235)] rfl own_pd0 rfl rfl rfl (Nat.le_of_ble_eq_true rfl) (by decide) (by decide) (by decide +kernel) ?_
  rintro T250 h251 v252 L253 S254 ⟨⟨rfl, K245, f246, f247, f248, f249⟩, -⟩
  show own_Go p e below _ T250 (mkF m 78 #[.val (.ref b), .val (.double (FP.i2d (if y2 < (if y1 < y0 then y1 else y0) then y2 else (if y1 < y0 then y1 else y0)))), .second, .val (.double (FP.i2d (if (if y0 < y1 then y1 else y0) < y2 then y2 else (if y0 < y1 then y1 else y0)))), .second, .val (.ref b), .val (.int 3), .val (.int 3), .val (.double (FP.i2d y2)), .second] [(.ref a235)])
  refine own_retA C S254 rfl rfl (by decide +kernel) (by decide) (by decide) ?_
  have o255 : h0.size ≤ a235 := by rw [g236]; exact (Nat.le_refl _)
  exact ⟨a235, rfl, o255, (((Keep.refl _ _).ext E237).trans K245 (allS (Or.inr o255) all0)), f246, f247, f248, f249⟩
theorem own_sp4 (l : Launch) (Z : State) (a0 : Array Value) (hw : ∀ d ∈ tables_1, d.before a0 Z = true) (b : Addr) (bk : ClassId) (y0 : Int32) (y1 : Int32) (y2 : Int32) (y3 : Int32) (h0 : Heap) (n0 : Nat) (z0 : n0 ≤ h0.size) (bK : Arv Z h0 b bk .double (4 : Int32) ([(.double (FP.i2d y0)), (.double (FP.i2d y1)), (.double (FP.i2d y2)), (.double (FP.i2d y3))]) (.double 0)) :
    own_Met l Z (⟨"com/example/persephone/persephone/ValueBounds", "span", "([D)Lcom/example/persephone/persephone/ValueBounds;"⟩ : MethodName) prog_14_method_21_code 10 (some (.object "com/example/persephone/persephone/ValueBounds")) ({ frames := 2, cells := 1, slots := 3, locals := 30 } : Room) n0 #[(.ref b)] h0 (fun v h => ∃ r : Addr, v = some (.ref r) ∧ h0.size ≤ r ∧ Keep h0 h [] ∧ Exa Z h r "com/example/persephone/persephone/ValueBounds" ∧ Fld Z h r "com/example/persephone/persephone/ValueBounds" "lowest" "D" (.double (FP.i2d (if y3 < (if y2 < (if y1 < y0 then y1 else y0) then y2 else (if y1 < y0 then y1 else y0)) then y3 else (if y2 < (if y1 < y0 then y1 else y0) then y2 else (if y1 < y0 then y1 else y0))))) ∧ Fld Z h r "com/example/persephone/persephone/ValueBounds" "highest" "D" (.double (FP.i2d (if (if (if y0 < y1 then y1 else y0) < y2 then y2 else (if y0 < y1 then y1 else y0)) < y3 then y3 else (if (if y0 < y1 then y1 else y0) < y2 then y2 else (if y0 < y1 then y1 else y0))))) ∧ Fld Z h r "com/example/persephone/persephone/ValueBounds" "mayBeMissing" "Z" (.int 0)) := by
  refine own_met (by decide +kernel) #[.val (.ref b), .unset, .unset, .unset, .unset, .unset, .unset, .unset, .unset, .unset] (fun m => by first | (simp [entryFrame, mkF, argsToLocals, Value.category]; done) | rfl) ?_
  intro p e s m below meth c T0 C S0
  refine own_ldc2D C S0 (own_wd hw 6 rfl) (by decide +kernel) ?_
  refine own_seg C S0 [(3, .dstore_n 1, 1)] (by decide +kernel) 4 #[.val (.ref b), .val (.double (9218868437227405312 : UInt64)), .second, .unset, .unset, .unset, .unset, .unset, .unset, .unset] [] rfl ?_
  refine own_ldc2D C S0 (own_wd hw 7 rfl) (by decide +kernel) ?_
  refine own_seg C S0 [(7, .dstore_n 3, 1), (8, .aload_n 0, 1), (9, .astore 5, 2), (11, .aload 5, 2)] (by decide +kernel) 13 #[.val (.ref b), .val (.double (9218868437227405312 : UInt64)), .second, .val (.double (18442240474082181120 : UInt64)), .second, .val (.ref b), .unset, .unset, .unset, .unset] [(.ref b)] rfl ?_
  refine own_alen C S0 bK (by decide +kernel) ?_
  refine own_seg C S0 [(14, .istore 6, 2), (16, .iconst 0, 1), (17, .istore 7, 2), (19, .iload 7, 2), (21, .iload 6, 2)] (by decide +kernel) 23 #[.val (.ref b), .val (.double (9218868437227405312 : UInt64)), .second, .val (.double (18442240474082181120 : UInt64)), .second, .val (.ref b), .val (.int 4), .val (.int 0), .unset, .unset] [(.int 4), (.int 0)] rfl ?_
  refine own_icmp C S0 (q := .ge) (o := 45) (by decide +kernel) 68 (by decide) (by decide) (fun (hq : ¬ (0 : Int32) < (4 : Int32)) => False.elim (by revert hq; decide)) (fun (q256 : (0 : Int32) < (4 : Int32)) => ?_)
  refine own_seg C S0 [(26, .aload 5, 2), (28, .iload 7, 2)] (by decide +kernel) 30 #[.val (.ref b), .val (.double (9218868437227405312 : UInt64)), .second, .val (.double (18442240474082181120 : UInt64)), .second, .val (.ref b), .val (.int 4), .val (.int 0), .unset, .unset] [(.int 0), (.ref b)] rfl ?_
  refine own_daload C S0 bK ⟨(by decide), (by decide)⟩ (.double (FP.i2d y0)) rfl (by decide +kernel) ?_
  refine own_seg C S0 [(31, .dstore 8, 2), (33, .dload 8, 2)] (by decide +kernel) 35 #[.val (.ref b), .val (.double (9218868437227405312 : UInt64)), .second, .val (.double (18442240474082181120 : UInt64)), .second, .val (.ref b), .val (.int 4), .val (.int 0), .val (.double (FP.i2d y0)), .second] [(.double (FP.i2d y0))] rfl ?_
  refine own_callS C S0 (own_wd hw 45 rfl) (own_wd hw 46 rfl) (own_wd hw 47 rfl) (own_wd hw 48 rfl) (by decide) (own_Met.pay (own_nan l Z a0 hw (FP.i2d y0) h0 n0 z0 ((Jvm.Free.Fl.i2d_fin _).noNaN)) C 0 (own_wd hw 48 rfl) (own_wd hw 47 rfl) (by decide) (by decide)) (fun _ _ _ q => q.2) [(.double (FP.i2d y0))] [] rfl own_pd1 rfl rfl rfl (Nat.le_of_ble_eq_true rfl) (by decide) (by decide) (by decide +kernel) ?_
  rintro T258 h259 v260 L261 S262 ⟨⟨rfl, e257⟩, -⟩
  rw [e257] at S262; clear e257
  show own_Go p e below _ T258 (mkF m 38 #[.val (.ref b), .val (.double (9218868437227405312 : UInt64)), .second, .val (.double (18442240474082181120 : UInt64)), .second, .val (.ref b), .val (.int 4), .val (.int 0), .val (.double (FP.i2d y0)), .second] [(.int 0)])
  refine own_if C S262 (q := .eq) (o := 10) (by decide +kernel) 48 (by decide) (by decide) (fun (q263 : (0 : Int32) = (0 : Int32)) => ?_) (fun (hq : ¬ (0 : Int32) = (0 : Int32)) => False.elim (by revert hq; decide))
  refine own_seg C S262 [(48, .dload_n 1, 1), (49, .dload 8, 2)] (by decide +kernel) 51 #[.val (.ref b), .val (.double (9218868437227405312 : UInt64)), .second, .val (.double (18442240474082181120 : UInt64)), .second, .val (.ref b), .val (.int 4), .val (.int 0), .val (.double (FP.i2d y0)), .second] [(.double (FP.i2d y0)), (.double (9218868437227405312 : UInt64))] rfl ?_
  refine own_callS C S262 (own_wd hw 49 rfl) (own_wd hw 50 rfl) (own_wd hw 51 rfl) (own_wd hw 52 rfl) (by decide) (Q := (fun v h' L => v = some (.double (Jvm.Native.java_lang_Math.nans.pick64 false (9218868437227405312 : UInt64) (FP.i2d y0))) ∧ L = [] ∧ h' = h0)) (own_minP C 0 (9218868437227405312 : UInt64) (FP.i2d y0) (own_wd hw 52 rfl) own_nnp (Jvm.Free.Fl.i2d_fin _).noNaN (by decide) (by decide)) (fun _ _ L q => by rw [q.2.1]; exact Fr.nil _) [(.double (9218868437227405312 : UInt64)), (.double (FP.i2d y0))] [] rfl own_pd2 rfl rfl rfl (Nat.le_of_ble_eq_true rfl) (by decide) (by decide) (by decide +kernel) ?_
  rintro T265 h266 v267 L268 S269 ⟨rfl, -, e264⟩
  rw [e264] at S269; clear e264
  show own_Go p e below _ T265 (mkF m 54 #[.val (.ref b), .val (.double (9218868437227405312 : UInt64)), .second, .val (.double (18442240474082181120 : UInt64)), .second, .val (.ref b), .val (.int 4), .val (.int 0), .val (.double (FP.i2d y0)), .second] [(.double (Jvm.Native.java_lang_Math.nans.pick64 false (9218868437227405312 : UInt64) (FP.i2d y0)))])
  rw [show (Jvm.Native.java_lang_Math.nans.pick64 false (9218868437227405312 : UInt64) (FP.i2d y0)) = (FP.i2d y0) from own_pn0 y0]
  refine own_seg C S269 [(54, .dstore_n 1, 1), (55, .dload_n 3, 1), (56, .dload 8, 2)] (by decide +kernel) 58 #[.val (.ref b), .val (.double (FP.i2d y0)), .second, .val (.double (18442240474082181120 : UInt64)), .second, .val (.ref b), .val (.int 4), .val (.int 0), .val (.double (FP.i2d y0)), .second] [(.double (FP.i2d y0)), (.double (18442240474082181120 : UInt64))] rfl ?_
  refine own_callS C S269 (own_wd hw 53 rfl) (own_wd hw 54 rfl) (own_wd hw 51 rfl) (own_wd hw 55 rfl) (by decide) (Q := (fun v h' L => v = some (.double (Jvm.Native.java_lang_Math.nans.pick64 true (18442240474082181120 : UInt64) (FP.i2d y0))) ∧ L = [] ∧ h' = h0)) (own_maxP C 0 (18442240474082181120 : UInt64) (FP.i2d y0) (own_wd hw 55 rfl) own_nnn (Jvm.Free.Fl.i2d_fin _).noNaN (by decide) (by decide)) (fun _ _ L q => by rw [q.2.1]; exact Fr.nil _) [(.double (18442240474082181120 : UInt64)), (.double (FP.i2d y0))] [] rfl own_pd2 rfl rfl rfl (Nat.le_of_ble_eq_true rfl) (by decide) (by decide) (by decide +kernel) ?_
  rintro T271 h272 v273 L274 S275 ⟨rfl, -, e270⟩
  rw [e270] at S275; clear e270
  show own_Go p e below _ T271 (mkF m 61 #[.val (.ref b), .val (.double (FP.i2d y0)), .second, .val (.double (18442240474082181120 : UInt64)), .second, .val (.ref b), .val (.int 4), .val (.int 0), .val (.double (FP.i2d y0)), .second] [(.double (Jvm.Native.java_lang_Math.nans.pick64 true (18442240474082181120 : UInt64) (FP.i2d y0)))])
  rw [show (Jvm.Native.java_lang_Math.nans.pick64 true (18442240474082181120 : UInt64) (FP.i2d y0)) = (FP.i2d y0) from own_px0 y0]
  refine own_seg C S275 [(61, .dstore_n 3, 1), (62, .iinc 7 1, 3), (65, .goto (-46), 3), (19, .iload 7, 2), (21, .iload 6, 2)] (by decide +kernel) 23 #[.val (.ref b), .val (.double (FP.i2d y0)), .second, .val (.double (FP.i2d y0)), .second, .val (.ref b), .val (.int 4), .val (.int ((0 : Int32) + (1 : Int32))), .val (.double (FP.i2d y0)), .second] [(.int 4), (.int ((0 : Int32) + (1 : Int32)))] rfl ?_
  show own_Go p e below _ T271 (mkF m 23 #[.val (.ref b), .val (.double (FP.i2d y0)), .second, .val (.double (FP.i2d y0)), .second, .val (.ref b), .val (.int 4), .val (.int 1), .val (.double (FP.i2d y0)), .second] [(.int 4), (.int 1)])
  refine own_icmp C S275 (q := .ge) (o := 45) (by decide +kernel) 68 (by decide) (by decide) (fun (hq : ¬ (1 : Int32) < (4 : Int32)) => False.elim (by revert hq; decide)) (fun (q276 : (1 : Int32) < (4 : Int32)) => ?_)
  refine own_seg C S275 [(26, .aload 5, 2), (28, .iload 7, 2)] (by decide +kernel) 30 #[.val (.ref b), .val (.double (FP.i2d y0)), .second, .val (.double (FP.i2d y0)), .second, .val (.ref b), .val (.int 4), .val (.int 1), .val (.double (FP.i2d y0)), .second] [(.int 1), (.ref b)] rfl ?_
  refine own_daload C S275 bK ⟨(by decide), (by decide)⟩ (.double (FP.i2d y1)) rfl (by decide +kernel) ?_
  refine own_seg C S275 [(31, .dstore 8, 2), (33, .dload 8, 2)] (by decide +kernel) 35 #[.val (.ref b), .val (.double (FP.i2d y0)), .second, .val (.double (FP.i2d y0)), .second, .val (.ref b), .val (.int 4), .val (.int 1), .val (.double (FP.i2d y1)), .second] [(.double (FP.i2d y1))] rfl ?_
  refine own_callS C S275 (own_wd hw 45 rfl) (own_wd hw 46 rfl) (own_wd hw 47 rfl) (own_wd hw 48 rfl) (by decide) (own_Met.pay (own_nan l Z a0 hw (FP.i2d y1) h0 n0 z0 ((Jvm.Free.Fl.i2d_fin _).noNaN)) C 0 (own_wd hw 48 rfl) (own_wd hw 47 rfl) (by decide) (by decide)) (fun _ _ _ q => q.2) [(.double (FP.i2d y1))] [] rfl own_pd1 rfl rfl rfl (Nat.le_of_ble_eq_true rfl) (by decide) (by decide) (by decide +kernel) ?_
  rintro T278 h279 v280 L281 S282 ⟨⟨rfl, e277⟩, -⟩
  rw [e277] at S282; clear e277
  show own_Go p e below _ T278 (mkF m 38 #[.val (.ref b), .val (.double (FP.i2d y0)), .second, .val (.double (FP.i2d y0)), .second, .val (.ref b), .val (.int 4), .val (.int 1), .val (.double (FP.i2d y1)), .second] [(.int 0)])
  refine own_if C S282 (q := .eq) (o := 10) (by decide +kernel) 48 (by decide) (by decide) (fun (q283 : (0 : Int32) = (0 : Int32)) => ?_) (fun (hq : ¬ (0 : Int32) = (0 : Int32)) => False.elim (by revert hq; decide))
  refine own_seg C S282 [(48, .dload_n 1, 1), (49, .dload 8, 2)] (by decide +kernel) 51 #[.val (.ref b), .val (.double (FP.i2d y0)), .second, .val (.double (FP.i2d y0)), .second, .val (.ref b), .val (.int 4), .val (.int 1), .val (.double (FP.i2d y1)), .second] [(.double (FP.i2d y1)), (.double (FP.i2d y0))] rfl ?_
  refine own_callS C S282 (own_wd hw 49 rfl) (own_wd hw 50 rfl) (own_wd hw 51 rfl) (own_wd hw 52 rfl) (by decide) (Q := (fun v h' L => v = some (.double (Jvm.Native.java_lang_Math.nans.pick64 false (FP.i2d y0) (FP.i2d y1))) ∧ L = [] ∧ h' = h0)) (own_minP C 0 (FP.i2d y0) (FP.i2d y1) (own_wd hw 52 rfl) (Jvm.Free.Fl.i2d_fin _).noNaN (Jvm.Free.Fl.i2d_fin _).noNaN (by decide) (by decide)) (fun _ _ L q => by rw [q.2.1]; exact Fr.nil _) [(.double (FP.i2d y0)), (.double (FP.i2d y1))] [] rfl own_pd2 rfl rfl rfl (Nat.le_of_ble_eq_true rfl) (by decide) (by decide) (by decide +kernel) ?_
  rintro T285 h286 v287 L288 S289 ⟨rfl, -, e284⟩
  rw [e284] at S289; clear e284
  show own_Go p e below _ T285 (mkF m 54 #[.val (.ref b), .val (.double (FP.i2d y0)), .second, .val (.double (FP.i2d y0)), .second, .val (.ref b), .val (.int 4), .val (.int 1), .val (.double (FP.i2d y1)), .second] [(.double (Jvm.Native.java_lang_Math.nans.pick64 false (FP.i2d y0) (FP.i2d y1)))])
  rw [show (Jvm.Native.java_lang_Math.nans.pick64 false (FP.i2d y0) (FP.i2d y1)) = (FP.i2d (if y1 < y0 then y1 else y0)) from own_pn y0 y1]
  refine own_seg C S289 [(54, .dstore_n 1, 1), (55, .dload_n 3, 1), (56, .dload 8, 2)] (by decide +kernel) 58 #[.val (.ref b), .val (.double (FP.i2d (if y1 < y0 then y1 else y0))), .second, .val (.double (FP.i2d y0)), .second, .val (.ref b), .val (.int 4), .val (.int 1), .val (.double (FP.i2d y1)), .second] [(.double (FP.i2d y1)), (.double (FP.i2d y0))] rfl ?_
  refine own_callS C S289 (own_wd hw 53 rfl) (own_wd hw 54 rfl) (own_wd hw 51 rfl) (own_wd hw 55 rfl) (by decide) (Q := (fun v h' L => v = some (.double (Jvm.Native.java_lang_Math.nans.pick64 true (FP.i2d y0) (FP.i2d y1))) ∧ L = [] ∧ h' = h0)) (own_maxP C 0 (FP.i2d y0) (FP.i2d y1) (own_wd hw 55 rfl) (Jvm.Free.Fl.i2d_fin _).noNaN (Jvm.Free.Fl.i2d_fin _).noNaN (by decide) (by decide)) (fun _ _ L q => by rw [q.2.1]; exact Fr.nil _) [(.double (FP.i2d y0)), (.double (FP.i2d y1))] [] rfl own_pd2 rfl rfl rfl (Nat.le_of_ble_eq_true rfl) (by decide) (by decide) (by decide +kernel) ?_
  rintro T291 h292 v293 L294 S295 ⟨rfl, -, e290⟩
  rw [e290] at S295; clear e290
  show own_Go p e below _ T291 (mkF m 61 #[.val (.ref b), .val (.double (FP.i2d (if y1 < y0 then y1 else y0))), .second, .val (.double (FP.i2d y0)), .second, .val (.ref b), .val (.int 4), .val (.int 1), .val (.double (FP.i2d y1)), .second] [(.double (Jvm.Native.java_lang_Math.nans.pick64 true (FP.i2d y0) (FP.i2d y1)))])
  rw [show (Jvm.Native.java_lang_Math.nans.pick64 true (FP.i2d y0) (FP.i2d y1)) = (FP.i2d (if y0 < y1 then y1 else y0)) from own_px y0 y1]
  refine own_seg C S295 [(61, .dstore_n 3, 1), (62, .iinc 7 1, 3), (65, .goto (-46), 3), (19, .iload 7, 2), (21, .iload 6, 2)] (by decide +kernel) 23 #[.val (.ref b), .val (.double (FP.i2d (if y1 < y0 then y1 else y0))), .second, .val (.double (FP.i2d (if y0 < y1 then y1 else y0))), .second, .val (.ref b), .val (.int 4), .val (.int ((1 : Int32) + (1 : Int32))), .val (.double (FP.i2d y1)), .second] [(.int 4), (.int ((1 : Int32) + (1 : Int32)))] rfl ?_
  show own_Go p e below _ T291 (mkF m 23 #[.val (.ref b), .val (.double (FP.i2d (if y1 < y0 then y1 else y0))), .second, .val (.double (FP.i2d (if y0 < y1 then y1 else y0))), .second, .val (.ref b), .val (.int 4), .val (.int 2), .val (.double (FP.i2d y1)), .second] [(.int 4), (.int 2)])
  refine own_icmp C S295 (q := .ge) (o := 45) (by decide +kernel) 68 (by decide) (by decide) (fun (hq : ¬ (2 : Int32) < (4 : Int32)) => False.elim (by revert hq; decide)) (fun (q296 : (2 : Int32) < (4 : Int32)) => ?_)
  refine own_seg C S295 [(26, .aload 5, 2), (28, .iload 7, 2)] (by decide +kernel) 30 #[.val (.ref b), .val (.double (FP.i2d (if y1 < y0 then y1 else y0))), .second, .val (.double (FP.i2d (if y0 < y1 then y1 else y0))), .second, .val (.ref b), .val (.int 4), .val (.int 2), .val (.double (FP.i2d y1)), .second] [(.int 2), (.ref b)] rfl ?_
  refine own_daload C S295 bK ⟨(by decide), (by decide)⟩ (.double (FP.i2d y2)) rfl (by decide +kernel) ?_
  refine own_seg C S295 [(31, .dstore 8, 2), (33, .dload 8, 2)] (by decide +kernel) 35 #[.val (.ref b), .val (.double (FP.i2d (if y1 < y0 then y1 else y0))), .second, .val (.double (FP.i2d (if y0 < y1 then y1 else y0))), .second, .val (.ref b), .val (.int 4), .val (.int 2), .val (.double (FP.i2d y2)), .second] [(.double (FP.i2d y2))] rfl ?_
  refine own_callS C S295 (own_wd hw 45 rfl) (own_wd hw 46 rfl) (own_wd hw 47 rfl) (own_wd hw 48 rfl) (by decide) (own_Met.pay (own_nan l Z a0 hw (FP.i2d y2) h0 n0 z0 ((Jvm.Free.Fl.i2d_fin _).noNaN)) C 0 (own_wd hw 48 rfl) (own_wd hw 47 rfl) (by decide) (by decide)) (fun _ _ _ q => q.2) [(.double (FP.i2d y2))] [] rfl own_pd1 rfl rfl rfl (Nat.le_of_ble_eq_true rfl) (by decide) (by decide) (by decide +kernel) ?_
  rintro T298 h299 v300 L301 S302 ⟨⟨rfl, e297⟩, -⟩
  rw [e297] at S302; clear e297
  show own_Go p e below _ T298 (mkF m 38 #[.val (.ref b), .val (.double (FP.i2d (if y1 < y0 then y1 else y0))), .second, .val (.double (FP.i2d (if y0 < y1 then y1 else y0))), .second, .val (.ref b), .val (.int 4), .val (.int 2), .val (.double (FP.i2d y2)), .second] [(.int 0)])
  refine own_if C S302 (q := .eq) (o := 10) (by decide +kernel) 48 (by decide) (by decide) (fun (q303 : (0 : Int32) = (0 : Int32)) => ?_) (fun (hq : ¬ (0 : Int32) = (0 : Int32)) => False.elim (by revert hq; decide))
  refine own_seg C S302 [(48, .dload_n 1, 1), (49, .dload 8, 2)] (by decide +kernel) 51 #[.val (.ref b), .val (.double (FP.i2d (if y1 < y0 then y1 else y0))), .second, .val (.double (FP.i2d (if y0 < y1 then y1 else y0))), .second, .val (.ref b), .val (.int 4), .val (.int 2), .val (.double (FP.i2d y2)), .second] [(.double (FP.i2d y2)), (.double (FP.i2d (if y1 < y0 then y1 else y0)))] rfl ?_
  refine own_callS C S302 (own_wd hw 49 rfl) (own_wd hw 50 rfl) (own_wd hw 51 rfl) (own_wd hw 52 rfl) (by decide) (Q := (fun v h' L => v = some (.double (Jvm.Native.java_lang_Math.nans.pick64 false (FP.i2d (if y1 < y0 then y1 else y0)) (FP.i2d y2))) ∧ L = [] ∧ h' = h0)) (own_minP C 0 (FP.i2d (if y1 < y0 then y1 else y0)) (FP.i2d y2) (own_wd hw 52 rfl) (Jvm.Free.Fl.i2d_fin _).noNaN (Jvm.Free.Fl.i2d_fin _).noNaN (by decide) (by decide)) (fun _ _ L q => by rw [q.2.1]; exact Fr.nil _) [(.double (FP.i2d (if y1 < y0 then y1 else y0))), (.double (FP.i2d y2))] [] rfl own_pd2 rfl rfl rfl (Nat.le_of_ble_eq_true rfl) (by decide) (by decide) (by decide +kernel) ?_
  rintro T305 h306 v307 L308 S309 ⟨rfl, -, e304⟩
  rw [e304] at S309; clear e304
  show own_Go p e below _ T305 (mkF m 54 #[.val (.ref b), .val (.double (FP.i2d (if y1 < y0 then y1 else y0))), .second, .val (.double (FP.i2d (if y0 < y1 then y1 else y0))), .second, .val (.ref b), .val (.int 4), .val (.int 2), .val (.double (FP.i2d y2)), .second] [(.double (Jvm.Native.java_lang_Math.nans.pick64 false (FP.i2d (if y1 < y0 then y1 else y0)) (FP.i2d y2)))])
  rw [show (Jvm.Native.java_lang_Math.nans.pick64 false (FP.i2d (if y1 < y0 then y1 else y0)) (FP.i2d y2)) = (FP.i2d (if y2 < (if y1 < y0 then y1 else y0) then y2 else (if y1 < y0 then y1 else y0))) from own_pn (if y1 < y0 then y1 else y0) y2]
  refine own_seg C S309 [(54, .dstore_n 1, 1), (55, .dload_n 3, 1), (56, .dload 8, 2)] (by decide +kernel) 58 #[.val (.ref b), .val (.double (FP.i2d (if y2 < (if y1 < y0 then y1 else y0) then y2 else (if y1 < y0 then y1 else y0)))), .second, .val (.double (FP.i2d (if y0 < y1 then y1 else y0))), .second, .val (.ref b), .val (.int 4), .val (.int 2), .val (.double (FP.i2d y2)), .second] [(.double (FP.i2d y2)), (.double (FP.i2d (if y0 < y1 then y1 else y0)))] rfl ?_
  refine own_callS C S309 (own_wd hw 53 rfl) (own_wd hw 54 rfl) (own_wd hw 51 rfl) (own_wd hw 55 rfl) (by decide) (Q := (fun v h' L => v = some (.double (Jvm.Native.java_lang_Math.nans.pick64 true (FP.i2d (if y0 < y1 then y1 else y0)) (FP.i2d y2))) ∧ L = [] ∧ h' = h0)) (own_maxP C 0 (FP.i2d (if y0 < y1 then y1 else y0)) (FP.i2d y2) (own_wd hw 55 rfl) (Jvm.Free.Fl.i2d_fin _).noNaN (Jvm.Free.Fl.i2d_fin _).noNaN (by decide) (by decide)) (fun _ _ L q => by rw [q.2.1]; exact Fr.nil _) [(.double (FP.i2d (if y0 < y1 then y1 else y0))), (.double (FP.i2d y2))] [] rfl own_pd2 rfl rfl rfl (Nat.le_of_ble_eq_true rfl) (by decide) (by decide) (by decide +kernel) ?_
  rintro T311 h312 v313 L314 S315 ⟨rfl, -, e310⟩
  rw [e310] at S315; clear e310
  show own_Go p e below _ T311 (mkF m 61 #[.val (.ref b), .val (.double (FP.i2d (if y2 < (if y1 < y0 then y1 else y0) then y2 else (if y1 < y0 then y1 else y0)))), .second, .val (.double (FP.i2d (if y0 < y1 then y1 else y0))), .second, .val (.ref b), .val (.int 4), .val (.int 2), .val (.double (FP.i2d y2)), .second] [(.double (Jvm.Native.java_lang_Math.nans.pick64 true (FP.i2d (if y0 < y1 then y1 else y0)) (FP.i2d y2)))])
  rw [show (Jvm.Native.java_lang_Math.nans.pick64 true (FP.i2d (if y0 < y1 then y1 else y0)) (FP.i2d y2)) = (FP.i2d (if (if y0 < y1 then y1 else y0) < y2 then y2 else (if y0 < y1 then y1 else y0))) from own_px (if y0 < y1 then y1 else y0) y2]
  refine own_seg C S315 [(61, .dstore_n 3, 1), (62, .iinc 7 1, 3), (65, .goto (-46), 3), (19, .iload 7, 2), (21, .iload 6, 2)] (by decide +kernel) 23 #[.val (.ref b), .val (.double (FP.i2d (if y2 < (if y1 < y0 then y1 else y0) then y2 else (if y1 < y0 then y1 else y0)))), .second, .val (.double (FP.i2d (if (if y0 < y1 then y1 else y0) < y2 then y2 else (if y0 < y1 then y1 else y0)))), .second, .val (.ref b), .val (.int 4), .val (.int ((2 : Int32) + (1 : Int32))), .val (.double (FP.i2d y2)), .second] [(.int 4), (.int ((2 : Int32) + (1 : Int32)))] rfl ?_
  show own_Go p e below _ T311 (mkF m 23 #[.val (.ref b), .val (.double (FP.i2d (if y2 < (if y1 < y0 then y1 else y0) then y2 else (if y1 < y0 then y1 else y0)))), .second, .val (.double (FP.i2d (if (if y0 < y1 then y1 else y0) < y2 then y2 else (if y0 < y1 then y1 else y0)))), .second, .val (.ref b), .val (.int 4), .val (.int 3), .val (.double (FP.i2d y2)), .second] [(.int 4), (.int 3)])
  refine own_icmp C S315 (q := .ge) (o := 45) (by decide +kernel) 68 (by decide) (by decide) (fun (hq : ¬ (3 : Int32) < (4 : Int32)) => False.elim (by revert hq; decide)) (fun (q316 : (3 : Int32) < (4 : Int32)) => ?_)
  refine own_seg C S315 [(26, .aload 5, 2), (28, .iload 7, 2)] (by decide +kernel) 30 #[.val (.ref b), .val (.double (FP.i2d (if y2 < (if y1 < y0 then y1 else y0) then y2 else (if y1 < y0 then y1 else y0)))), .second, .val (.double (FP.i2d (if (if y0 < y1 then y1 else y0) < y2 then y2 else (if y0 < y1 then y1 else y0)))), .second, .val (.ref b), .val (.int 4), .val (.int 3), .val (.double (FP.i2d y2)), .second] [(.int 3), (.ref b)] rfl ?_
  refine own_daload C S315 bK ⟨(by decide), (by decide)⟩ (.double (FP.i2d y3)) rfl (by decide +kernel) ?_
  refine own_seg C S315 [(31, .dstore 8, 2), (33, .dload 8, 2)] (by decide +kernel) 35 #[.val (.ref b), .val (.double (FP.i2d (if y2 < (if y1 < y0 then y1 else y0) then y2 else (if y1 < y0 then y1 else y0)))), .second, .val (.double (FP.i2d (if (if y0 < y1 then y1 else y0) < y2 then y2 else (if y0 < y1 then y1 else y0)))), .second, .val (.ref b), .val (.int 4), .val (.int 3), .val (.double (FP.i2d y3)), .second] [(.double (FP.i2d y3))] rfl ?_
  refine own_callS C S315 (own_wd hw 45 rfl) (own_wd hw 46 rfl) (own_wd hw 47 rfl) (own_wd hw 48 rfl) (by decide) (own_Met.pay (own_nan l Z a0 hw (FP.i2d y3) h0 n0 z0 ((Jvm.Free.Fl.i2d_fin _).noNaN)) C 0 (own_wd hw 48 rfl) (own_wd hw 47 rfl) (by decide) (by decide)) (fun _ _ _ q => q.2) [(.double (FP.i2d y3))] [] rfl own_pd1 rfl rfl rfl (Nat.le_of_ble_eq_true rfl) (by decide) (by decide) (by decide +kernel) ?_
  rintro T318 h319 v320 L321 S322 ⟨⟨rfl, e317⟩, -⟩
  rw [e317] at S322; clear e317
  show own_Go p e below _ T318 (mkF m 38 #[.val (.ref b), .val (.double (FP.i2d (if y2 < (if y1 < y0 then y1 else y0) then y2 else (if y1 < y0 then y1 else y0)))), .second, .val (.double (FP.i2d (if (if y0 < y1 then y1 else y0) < y2 then y2 else (if y0 < y1 then y1 else y0)))), .second, .val (.ref b), .val (.int 4), .val (.int 3), .val (.double (FP.i2d y3)), .second] [(.int 0)])
  refine own_if C S322 (q := .eq) (o := 10) (by decide +kernel) 48 (by decide) (by decide) (fun (q323 : (0 : Int32) = (0 : Int32)) => ?_) (fun (hq : ¬ (0 : Int32) = (0 : Int32)) => False.elim (by revert hq; decide))
  refine own_seg C S322 [(48, .dload_n 1, 1), (49, .dload 8, 2)] (by decide +kernel) 51 #[.val (.ref b), .val (.double (FP.i2d (if y2 < (if y1 < y0 then y1 else y0) then y2 else (if y1 < y0 then y1 else y0)))), .second, .val (.double (FP.i2d (if (if y0 < y1 then y1 else y0) < y2 then y2 else (if y0 < y1 then y1 else y0)))), .second, .val (.ref b), .val (.int 4), .val (.int 3), .val (.double (FP.i2d y3)), .second] [(.double (FP.i2d y3)), (.double (FP.i2d (if y2 < (if y1 < y0 then y1 else y0) then y2 else (if y1 < y0 then y1 else y0))))] rfl ?_
  refine own_callS C S322 (own_wd hw 49 rfl) (own_wd hw 50 rfl) (own_wd hw 51 rfl) (own_wd hw 52 rfl) (by decide) (Q := (fun v h' L => v = some (.double (Jvm.Native.java_lang_Math.nans.pick64 false (FP.i2d (if y2 < (if y1 < y0 then y1 else y0) then y2 else (if y1 < y0 then y1 else y0))) (FP.i2d y3))) ∧ L = [] ∧ h' = h0)) (own_minP C 0 (FP.i2d (if y2 < (if y1 < y0 then y1 else y0) then y2 else (if y1 < y0 then y1 else y0))) (FP.i2d y3) (own_wd hw 52 rfl) (Jvm.Free.Fl.i2d_fin _).noNaN (Jvm.Free.Fl.i2d_fin _).noNaN (by decide) (by decide)) (fun _ _ L q => by rw [q.2.1]; exact Fr.nil _) [(.double (FP.i2d (if y2 < (if y1 < y0 then y1 else y0) then y2 else (if y1 < y0 then y1 else y0)))), (.double (FP.i2d y3))] [] rfl own_pd2 rfl rfl rfl (Nat.le_of_ble_eq_true rfl) (by decide) (by decide) (by decide +kernel) ?_
  rintro T325 h326 v327 L328 S329 ⟨rfl, -, e324⟩
  rw [e324] at S329; clear e324
  show own_Go p e below _ T325 (mkF m 54 #[.val (.ref b), .val (.double (FP.i2d (if y2 < (if y1 < y0 then y1 else y0) then y2 else (if y1 < y0 then y1 else y0)))), .second, .val (.double (FP.i2d (if (if y0 < y1 then y1 else y0) < y2 then y2 else (if y0 < y1 then y1 else y0)))), .second, .val (.ref b), .val (.int 4), .val (.int 3), .val (.double (FP.i2d y3)), .second] [(.double (Jvm.Native.java_lang_Math.nans.pick64 false (FP.i2d (if y2 < (if y1 < y0 then y1 else y0) then y2 else (if y1 < y0 then y1 else y0))) (FP.i2d y3)))])
  rw [show (Jvm.Native.java_lang_Math.nans.pick64 false (FP.i2d (if y2 < (if y1 < y0 then y1 else y0) then y2 else (if y1 < y0 then y1 else y0))) (FP.i2d y3)) = (FP.i2d (if y3 < (if y2 < (if y1 < y0 then y1 else y0) then y2 else (if y1 < y0 then y1 else y0)) then y3 else (if y2 < (if y1 < y0 then y1 else y0) then y2 else (if y1 < y0 then y1 else y0)))) from own_pn (if y2 < (if y1 < y0 then y1 else y0) then y2 else (if y1 < y0 then y1 else y0)) y3]
  refine own_seg C S329 [(54, .dstore_n 1, 1), (55, .dload_n 3, 1), (56, .dload 8, 2)] (by decide +kernel) 58 #[.val (.ref b), .val (.double (FP.i2d (if y3 < (if y2 < (if y1 < y0 then y1 else y0) then y2 else (if y1 < y0 then y1 else y0)) then y3 else (if y2 < (if y1 < y0 then y1 else y0) then y2 else (if y1 < y0 then y1 else y0))))), .second, .val (.double (FP.i2d (if (if y0 < y1 then y1 else y0) < y2 then y2 else (if y0 < y1 then y1 else y0)))), .second, .val (.ref b), .val (.int 4), .val (.int 3), .val (.double (FP.i2d y3)), .second] [(.double (FP.i2d y3)), (.double (FP.i2d (if (if y0 < y1 then y1 else y0) < y2 then y2 else (if y0 < y1 then y1 else y0))))] rfl ?_
  refine own_callS C S329 (own_wd hw 53 rfl) (own_wd hw 54 rfl) (own_wd hw 51 rfl) (own_wd hw 55 rfl) (by decide) (Q := (fun v h' L => v = some (.double (Jvm.Native.java_lang_Math.nans.pick64 true (FP.i2d (if (if y0 < y1 then y1 else y0) < y2 then y2 else (if y0 < y1 then y1 else y0))) (FP.i2d y3))) ∧ L = [] ∧ h' = h0)) (own_maxP C 0 (FP.i2d (if (if y0 < y1 then y1 else y0) < y2 then y2 else (if y0 < y1 then y1 else y0))) (FP.i2d y3) (own_wd hw 55 rfl) (Jvm.Free.Fl.i2d_fin _).noNaN (Jvm.Free.Fl.i2d_fin _).noNaN (by decide) (by decide)) (fun _ _ L q => by rw [q.2.1]; exact Fr.nil _) [(.double (FP.i2d (if (if y0 < y1 then y1 else y0) < y2 then y2 else (if y0 < y1 then y1 else y0)))), (.double (FP.i2d y3))] [] rfl own_pd2 rfl rfl rfl (Nat.le_of_ble_eq_true rfl) (by decide) (by decide) (by decide +kernel) ?_
  rintro T331 h332 v333 L334 S335 ⟨rfl, -, e330⟩
  rw [e330] at S335; clear e330
  show own_Go p e below _ T331 (mkF m 61 #[.val (.ref b), .val (.double (FP.i2d (if y3 < (if y2 < (if y1 < y0 then y1 else y0) then y2 else (if y1 < y0 then y1 else y0)) then y3 else (if y2 < (if y1 < y0 then y1 else y0) then y2 else (if y1 < y0 then y1 else y0))))), .second, .val (.double (FP.i2d (if (if y0 < y1 then y1 else y0) < y2 then y2 else (if y0 < y1 then y1 else y0)))), .second, .val (.ref b), .val (.int 4), .val (.int 3), .val (.double (FP.i2d y3)), .second] [(.double (Jvm.Native.java_lang_Math.nans.pick64 true (FP.i2d (if (if y0 < y1 then y1 else y0) < y2 then y2 else (if y0 < y1 then y1 else y0))) (FP.i2d y3)))])
  rw [show (Jvm.Native.java_lang_Math.nans.pick64 true (FP.i2d (if (if y0 < y1 then y1 else y0) < y2 then y2 else (if y0 < y1 then y1 else y0))) (FP.i2d y3)) = (FP.i2d (if (if (if y0 < y1 then y1 else y0) < y2 then y2 else (if y0 < y1 then y1 else y0)) < y3 then y3 else (if (if y0 < y1 then y1 else y0) < y2 then y2 else (if y0 < y1 then y1 else y0)))) from own_px (if (if y0 < y1 then y1 else y0) < y2 then y2 else (if y0 < y1 then y1 else y0)) y3]
  refine own_seg C S335 [(61, .dstore_n 3, 1), (62, .iinc 7 1, 3), (65, .goto (-46), 3), (19, .iload 7, 2), (21, .iload 6, 2)] (by decide +kernel) 23 #[.val (.ref b), .val (.double (FP.i2d (if y3 < (if y2 < (if y1 < y0 then y1 else y0) then y2 else (if y1 < y0 then y1 else y0)) then y3 else (if y2 < (if y1 < y0 then y1 else y0) then y2 else (if y1 < y0 then y1 else y0))))), .second, .val (.double (FP.i2d (if (if (if y0 < y1 then y1 else y0) < y2 then y2 else (if y0 < y1 then y1 else y0)) < y3 then y3 else (if (if y0 < y1 then y1 else y0) < y2 then y2 else (if y0 < y1 then y1 else y0))))), .second, .val (.ref b), .val (.int 4), .val (.int ((3 : Int32) + (1 : Int32))), .val (.double (FP.i2d y3)), .second] [(.int 4), (.int ((3 : Int32) + (1 : Int32)))] rfl ?_
  show own_Go p e below _ T331 (mkF m 23 #[.val (.ref b), .val (.double (FP.i2d (if y3 < (if y2 < (if y1 < y0 then y1 else y0) then y2 else (if y1 < y0 then y1 else y0)) then y3 else (if y2 < (if y1 < y0 then y1 else y0) then y2 else (if y1 < y0 then y1 else y0))))), .second, .val (.double (FP.i2d (if (if (if y0 < y1 then y1 else y0) < y2 then y2 else (if y0 < y1 then y1 else y0)) < y3 then y3 else (if (if y0 < y1 then y1 else y0) < y2 then y2 else (if y0 < y1 then y1 else y0))))), .second, .val (.ref b), .val (.int 4), .val (.int 4), .val (.double (FP.i2d y3)), .second] [(.int 4), (.int 4)])
  refine own_icmp C S335 (q := .ge) (o := 45) (by decide +kernel) 68 (by decide) (by decide) (fun (q336 : ¬ (4 : Int32) < (4 : Int32)) => ?_) (fun (hq : (4 : Int32) < (4 : Int32)) => False.elim (by revert hq; decide))
  refine own_new C S335 (own_wd hw 8 rfl) (own_wd hw 9 rfl) (own_wd hw 4 rfl) (by decide +kernel) (by decide) (by decide) ?_
  intro T337 h339 a340 S338 g341 E342 x343 D344
  have f345 : Fld Z h339 a340 "com/example/persephone/persephone/ValueBounds" "lowest" "D" (.double 0) := D344 (ty := .double) (Or.inr (own_wd hw 17 rfl)) own_fd0
  have f346 : Fld Z h339 a340 "com/example/persephone/persephone/ValueBounds" "highest" "D" (.double 0) := D344 (ty := .double) (Or.inr (own_wd hw 19 rfl)) own_fd0
  have f347 : Fld Z h339 a340 "com/example/persephone/persephone/ValueBounds" "mayBeMissing" "Z" (.int 0) := D344 (ty := .boolean) (Or.inr (own_wd hw 21 rfl)) own_fd1
  refine own_seg C S338 [(71, .dup, 1), (72, .dload_n 1, 1), (73, .dload_n 3, 1), (74, .iconst 0, 1)] (by decide +kernel) 75 #[.val (.ref b), .val (.double (FP.i2d (if y3 < (if y2 < (if y1 < y0 then y1 else y0) then y2 else (if y1 < y0 then y1 else y0)) then y3 else (if y2 < (if y1 < y0 then y1 else y0) then y2 else (if y1 < y0 then y1 else y0))))), .second, .val (.double (FP.i2d (if (if (if y0 < y1 then y1 else y0) < y2 then y2 else (if y0 < y1 then y1 else y0)) < y3 then y3 else (if (if y0 < y1 then y1 else y0) < y2 then y2 else (if y0 < y1 then y1 else y0))))), .second, .val (.ref b), .val (.int 4), .val (.int 4), .val (.double (FP.i2d y3)), .second] [(.int 0), (.double (FP.i2d (if (if (if y0 < y1 then y1 else y0) < y2 then y2 else (if y0 < y1 then y1 else y0)) < y3 then y3 else (if (if y0 < y1 then y1 else y0) < y2 then y2 else (if y0 < y1 then y1 else y0))))), (.double (FP.i2d (if y3 < (if y2 < (if y1 < y0 then y1 else y0) then y2 else (if y1 < y0 then y1 else y0)) then y3 else (if y2 < (if y1 < y0 then y1 else y0) then y2 else (if y1 < y0 then y1 else y0))))), (.ref a340), (.ref a340)] rfl ?_
  have f348 : n0 ≤ h339.size := (Nat.le_trans z0 E342.1)
  have g349 : n0 ≤ a340 := by rw [g341]; exact z0
  refine own_callI C S338 rfl (own_wd hw 10 rfl) (own_wd hw 11 rfl) (own_wd hw 12 rfl) (by decide) (own_Met.pay (own_vi l Z a0 hw a340 (FP.i2d (if y3 < (if y2 < (if y1 < y0 then y1 else y0) then y2 else (if y1 < y0 then y1 else y0)) then y3 else (if y2 < (if y1 < y0 then y1 else y0) then y2 else (if y1 < y0 then y1 else y0)))) (FP.i2d (if (if (if y0 < y1 then y1 else y0) < y2 then y2 else (if y0 < y1 then y1 else y0)) < y3 then y3 else (if (if y0 < y1 then y1 else y0) < y2 then y2 else (if y0 < y1 then y1 else y0)))) h339 n0 f348 g349 x343 f345 f346 f347) C 1 (own_wd hw 12 rfl) (own_wd hw 4 rfl) (by decide) (by decide)) (fun _ _ _ q => q.2) [(.double (FP.i2d (if y3 < (if y2 < (if y1 < y0 then y1 else y0) then y2 else (if y1 < y0 then y1 else y0)) then y3 else (if y2 < (if y1 < y0 then y1 else y0) then y2 else (if y1 < y0 then y1 else y0))))), (.double (FP.i2d (if (if (if y0 < y1 then y1 else y0) < y2 then y2 else (if y0 < y1 then y1 else y0)) < y3 then y3 else (if (if y0 < y1 then y1 else y0) < y2 then y2 else (if y0 < y1 then y1 else y0))))), (.int 0)] [(.ref a340)] rfl own_pd0 rfl rfl rfl (Nat.le_of_ble_eq_true rfl) (by decide) (by decide) (by decide +kernel) ?_
  rintro T355 h356 v357 L358 S359 ⟨⟨rfl, K350, f351, f352, f353, f354⟩, -⟩
  show own_Go p e below _ T355 (mkF m 78 #[.val (.ref b), .val (.double (FP.i2d (if y3 < (if y2 < (if y1 < y0 then y1 else y0) then y2 else (if y1 < y0 then y1 else y0)) then y3 else (if y2 < (if y1 < y0 then y1 else y0) then y2 else (if y1 < y0 then y1 else y0))))), .second, .val (.double (FP.i2d (if (if (if y0 < y1 then y1 else y0) < y2 then y2 else (if y0 < y1 then y1 else y0)) < y3 then y3 else (if (if y0 < y1 then y1 else y0) < y2 then y2 else (if y0 < y1 then y1 else y0))))), .second, .val (.ref b), .val (.int 4), .val (.int 4), .val (.double (FP.i2d y3)), .second] [(.ref a340)])
  refine own_retA C S359 rfl rfl (by decide +kernel) (by decide) (by decide) ?_
  have o360 : h0.size ≤ a340 := by rw [g341]; exact (Nat.le_refl _)
  exact ⟨a340, rfl, o360, (((Keep.refl _ _).ext E342).trans K350 (allS (Or.inr o360) all0)), f351, f352, f353, f354⟩
theorem own_ip (l : Launch) (Z : State) (a0 : Array Value) (hw : ∀ d ∈ tables_1, d.before a0 Z = true) (h0 : Heap) (n0 : Nat) (z0 : n0 ≤ h0.size) :
    own_Met l Z (⟨"com/example/persephone/persephone/ValueBoundsSpanPinLaw", "isPosInf", "(D)Z"⟩ : MethodName) method_2_code 2 (some .boolean) ({ frames := 0, cells := 0, slots := 0, locals := 0 } : Room) n0 #[(.double 9218868437227405312)] h0 (fun v h => v = some (.int 1) ∧ h = h0) := by
  refine own_met (by decide +kernel) #[.val (.double 9218868437227405312), .second] (fun m => by first | (simp [entryFrame, mkF, argsToLocals, Value.category]; done) | rfl) ?_
  intro p e s m below meth c T0 C S0
  refine own_seg C S0 [(0, .dload_n 0, 1)] (by decide +kernel) 1 #[.val (.double 9218868437227405312), .second] [(.double 9218868437227405312)] rfl ?_
  refine own_dconst0 C S0 (by decide +kernel) ?_
  refine own_dcmp C S0 (o := .l) (1 : Int32) (by decide +kernel) (by decide +kernel) ?_
  refine own_if C S0 (q := .le) (o := 17) (by decide +kernel) 20 (by decide) (by decide) (fun (hq : ¬ (0 : Int32) < (1 : Int32)) => False.elim (by revert hq; decide)) (fun (q361 : (0 : Int32) < (1 : Int32)) => ?_)
  refine own_seg C S0 [(6, .dload_n 0, 1)] (by decide +kernel) 7 #[.val (.double 9218868437227405312), .second] [(.double 9218868437227405312)] rfl ?_
  refine own_ldc2D C S0 (own_wd hw 41 rfl) (by decide +kernel) ?_
  refine own_dmul C S0 9218868437227405312 (by decide +kernel) (by unfold Jvm.Free.Fl.NoNaN64; decide +kernel) (by decide +kernel) ?_
  refine own_seg C S0 [(11, .dload_n 0, 1)] (by decide +kernel) 12 #[.val (.double 9218868437227405312), .second] [(.double 9218868437227405312), (.double 9218868437227405312)] rfl ?_
  refine own_dcmp C S0 (o := .l) (0 : Int32) (by decide +kernel) (dcmpV_self own_nnp _) ?_
  refine own_if C S0 (q := .ne) (o := 7) (by decide +kernel) 20 (by decide) (by decide) (fun (hq : ¬ (0 : Int32) = (0 : Int32)) => False.elim (by revert hq; decide)) (fun (q362 : (0 : Int32) = (0 : Int32)) => ?_)
  refine own_seg C S0 [(16, .iconst 1, 1), (17, .goto 4, 3)] (by decide +kernel) 21 #[.val (.double 9218868437227405312), .second] [(.int 1)] rfl ?_
  refine own_retZ C S0 (by decide +kernel) (by decide) (by decide) (by decide) ?_
  exact ⟨rfl, rfl⟩
theorem own_in (l : Launch) (Z : State) (a0 : Array Value) (hw : ∀ d ∈ tables_1, d.before a0 Z = true) (h0 : Heap) (n0 : Nat) (z0 : n0 ≤ h0.size) :
    own_Met l Z (⟨"com/example/persephone/persephone/ValueBoundsSpanPinLaw", "isNegInf", "(D)Z"⟩ : MethodName) method_3_code 2 (some .boolean) ({ frames := 0, cells := 0, slots := 0, locals := 0 } : Room) n0 #[(.double 18442240474082181120)] h0 (fun v h => v = some (.int 1) ∧ h = h0) := by
  refine own_met (by decide +kernel) #[.val (.double 18442240474082181120), .second] (fun m => by first | (simp [entryFrame, mkF, argsToLocals, Value.category]; done) | rfl) ?_
  intro p e s m below meth c T0 C S0
  refine own_seg C S0 [(0, .dload_n 0, 1)] (by decide +kernel) 1 #[.val (.double 18442240474082181120), .second] [(.double 18442240474082181120)] rfl ?_
  refine own_dconst0 C S0 (by decide +kernel) ?_
  refine own_dcmp C S0 (o := .g) (-1 : Int32) (by decide +kernel) (by decide +kernel) ?_
  refine own_if C S0 (q := .ge) (o := 17) (by decide +kernel) 20 (by decide) (by decide) (fun (hq : ¬ (-1 : Int32) < (0 : Int32)) => False.elim (by revert hq; decide)) (fun (q363 : (-1 : Int32) < (0 : Int32)) => ?_)
  refine own_seg C S0 [(6, .dload_n 0, 1)] (by decide +kernel) 7 #[.val (.double 18442240474082181120), .second] [(.double 18442240474082181120)] rfl ?_
  refine own_ldc2D C S0 (own_wd hw 41 rfl) (by decide +kernel) ?_
  refine own_dmul C S0 18442240474082181120 (by decide +kernel) (by unfold Jvm.Free.Fl.NoNaN64; decide +kernel) (by decide +kernel) ?_
  refine own_seg C S0 [(11, .dload_n 0, 1)] (by decide +kernel) 12 #[.val (.double 18442240474082181120), .second] [(.double 18442240474082181120), (.double 18442240474082181120)] rfl ?_
  refine own_dcmp C S0 (o := .l) (0 : Int32) (by decide +kernel) (dcmpV_self own_nnn _) ?_
  refine own_if C S0 (q := .ne) (o := 7) (by decide +kernel) 20 (by decide) (by decide) (fun (hq : ¬ (0 : Int32) = (0 : Int32)) => False.elim (by revert hq; decide)) (fun (q364 : (0 : Int32) = (0 : Int32)) => ?_)
  refine own_seg C S0 [(16, .iconst 1, 1), (17, .goto 4, 3)] (by decide +kernel) 21 #[.val (.double 18442240474082181120), .second] [(.int 1)] rfl ?_
  refine own_retZ C S0 (by decide +kernel) (by decide) (by decide) (by decide) ?_
  exact ⟨rfl, rfl⟩
theorem own_pd3 : parseMethodDescriptor "([D)Lcom/example/persephone/persephone/ValueBounds;" = some ⟨[(.array .double)], (some (.object "com/example/persephone/persephone/ValueBounds"))⟩ := by decide +kernel
theorem own_pd4 : parseMethodDescriptor "()Z" = some ⟨[], (some .boolean)⟩ := by decide +kernel
theorem own_pd5 : parseMethodDescriptor "()D" = some ⟨[], (some .double)⟩ := by decide +kernel
theorem own_pd6 : parseMethodDescriptor "(II)I" = some ⟨[.int, .int], (some .int)⟩ := by decide +kernel
theorem own_law (l : Launch) (Z : State) (a0 : Array Value) (hw : ∀ d ∈ tables_1, d.before a0 Z = true) (i0 : Int32) (i1 : Int32) (i2 : Int32) (i3 : Int32) (i4 : Int32) (h0 : Heap) (n0 : Nat) (z0 : n0 ≤ h0.size) :
    own_Met l Z x code maxLocals ret room_1 n0 #[(.int i0), (.int i1), (.int i2), (.int i3), (.int i4)] h0 (fun v h => v = some (.int 1)) := by
  refine own_met (by decide +kernel) #[.val (.int i0), .val (.int i1), .val (.int i2), .val (.int i3), .val (.int i4), .unset, .unset, .unset, .unset, .unset, .unset, .unset, .unset, .unset] (fun m => by first | (simp [entryFrame, mkF, argsToLocals, Value.category, maxLocals]; done) | rfl) ?_
  intro p e s m below meth c T0 C S0
  refine own_seg C S0 [(0, .iload_n 0, 1)] (by decide +kernel) 1 #[.val (.int i0), .val (.int i1), .val (.int i2), .val (.int i3), .val (.int i4), .unset, .unset, .unset, .unset, .unset, .unset, .unset, .unset, .unset] [(.int i0)] rfl ?_
  refine own_ldc C S0 (own_wd hw 0 rfl) (by decide +kernel) ?_
  refine own_seg C S0 [(3, .iand, 1), (4, .iconst 5, 1)] (by decide +kernel) 5 #[.val (.int i0), .val (.int i1), .val (.int i2), .val (.int i3), .val (.int i4), .unset, .unset, .unset, .unset, .unset, .unset, .unset, .unset, .unset] [(.int 5), (.int (i0 &&& 2147483647))] rfl ?_
  refine own_irem C S0 (by decide +kernel) (by decide) ?_
  rcases own_c5 i0 with e5 | e5 | e5 | e5 | e5
  · rw [show ((i0 &&& 2147483647) % (5 : Int32)) = (0 : Int32) from e5]
    refine own_seg C S0 [(6, .istore 5, 2), (8, .iload 5, 2)] (by decide +kernel) 10 #[.val (.int i0), .val (.int i1), .val (.int i2), .val (.int i3), .val (.int i4), .val (.int 0), .unset, .unset, .unset, .unset, .unset, .unset, .unset, .unset] [(.int 0)] rfl ?_
    refine own_if C S0 (q := .ne) (o := 11) (by decide +kernel) 21 (by decide) (by decide) (fun (hq : ¬ (0 : Int32) = (0 : Int32)) => False.elim (by revert hq; decide)) (fun (q365 : (0 : Int32) = (0 : Int32)) => ?_)
    refine own_seg C S0 [(13, .iconst 0, 1)] (by decide +kernel) 14 #[.val (.int i0), .val (.int i1), .val (.int i2), .val (.int i3), .val (.int i4), .val (.int 0), .unset, .unset, .unset, .unset, .unset, .unset, .unset, .unset] [(.int 0)] rfl ?_
    refine own_newP C S0 (aty := .double) (own_wd hw 1 rfl) (by decide +kernel) (by decide) 0 (by decide) (by decide) (by decide) (by decide) ?_
    intro T366 h368 a369 k370 S367 g371 E372 f373 
    have f374 : Arv Z h368 a369 k370 .double (0 : Int32) ([]) (.double 0) := Arv.pad f373 (pad_rep [] (.double 0) 0)
    refine own_seg C S367 [(16, .astore 6, 2), (18, .goto 101, 3), (119, .aload 6, 2)] (by decide +kernel) 121 #[.val (.int i0), .val (.int i1), .val (.int i2), .val (.int i3), .val (.int i4), .val (.int 0), .val (.ref a369), .unset, .unset, .unset, .unset, .unset, .unset, .unset] [(.ref a369)] rfl ?_
    have f375 : n0 ≤ h368.size := (Nat.le_trans z0 E372.1)
    refine own_callS C S367 (own_wd hw 2 rfl) (own_wd hw 3 rfl) (own_wd hw 4 rfl) (own_wd hw 5 rfl) (by decide) (own_Met.pay (own_sp0 l Z a0 hw a369 _ h368 n0 f375 f374) C 0 (own_wd hw 5 rfl) (own_wd hw 4 rfl) (by decide) (by decide)) (fun _ _ _ q => q.2) [(.ref a369)] [] rfl own_pd3 rfl rfl rfl (Nat.le_of_ble_eq_true rfl) (by decide) (by decide) (by decide +kernel) ?_
    rintro T383 h384 v385 L386 S387 ⟨⟨a376, rfl, g377, K378, f379, f380, f381, f382⟩, -⟩
    show own_Go p e below _ T383 (mkF m 124 #[.val (.int i0), .val (.int i1), .val (.int i2), .val (.int i3), .val (.int i4), .val (.int 0), .val (.ref a369), .unset, .unset, .unset, .unset, .unset, .unset, .unset] [(.ref a376)])
    refine own_seg C S387 [(124, .astore 7, 2), (126, .aload 7, 2)] (by decide +kernel) 128 #[.val (.int i0), .val (.int i1), .val (.int i2), .val (.int i3), .val (.int i4), .val (.int 0), .val (.ref a369), .val (.ref a376), .unset, .unset, .unset, .unset, .unset, .unset] [(.ref a376)] rfl ?_
    have f388 : n0 ≤ h384.size := (Nat.le_trans f375 K378.1)
    refine own_callV C S387 (own_wd hw 22 rfl) (own_wd hw 23 rfl) (own_wd hw 25 rfl) (own_wd hw 25 rfl) rfl (own_wd hw 24 rfl) (by decide) (own_Met.pay (own_mb l Z a0 hw a376 h384 n0 f388 f382) C 0 (own_wd hw 26 rfl) (own_wd hw 4 rfl) (by decide) (by decide)) (fun _ _ _ q => q.2) f379 [] [] rfl own_pd4 rfl rfl rfl (Nat.le_of_ble_eq_true rfl) (by decide) (by decide) (by decide +kernel) ?_
    rintro T390 h391 v392 L393 S394 ⟨⟨rfl, e389⟩, -⟩
    rw [e389] at S394; clear e389
    show own_Go p e below _ T390 (mkF m 131 #[.val (.int i0), .val (.int i1), .val (.int i2), .val (.int i3), .val (.int i4), .val (.int 0), .val (.ref a369), .val (.ref a376), .unset, .unset, .unset, .unset, .unset, .unset] [(.int 0)])
    refine own_if C S394 (q := .eq) (o := 5) (by decide +kernel) 136 (by decide) (by decide) (fun (q395 : (0 : Int32) = (0 : Int32)) => ?_) (fun (hq : ¬ (0 : Int32) = (0 : Int32)) => False.elim (by revert hq; decide))
    refine own_seg C S394 [(136, .aload 7, 2)] (by decide +kernel) 138 #[.val (.int i0), .val (.int i1), .val (.int i2), .val (.int i3), .val (.int i4), .val (.int 0), .val (.ref a369), .val (.ref a376), .unset, .unset, .unset, .unset, .unset, .unset] [(.ref a376)] rfl ?_
    refine own_callV C S394 (own_wd hw 27 rfl) (own_wd hw 28 rfl) (own_wd hw 30 rfl) (own_wd hw 30 rfl) rfl (own_wd hw 29 rfl) (by decide) (own_Met.pay (own_gl l Z a0 hw a376 9218868437227405312 h384 n0 f388 f380) C 0 (own_wd hw 31 rfl) (own_wd hw 4 rfl) (by decide) (by decide)) (fun _ _ _ q => q.2) f379 [] [] rfl own_pd5 rfl rfl rfl (Nat.le_of_ble_eq_true rfl) (by decide) (by decide) (by decide +kernel) ?_
    rintro T397 h398 v399 L400 S401 ⟨⟨rfl, e396⟩, -⟩
    rw [e396] at S401; clear e396
    show own_Go p e below _ T397 (mkF m 141 #[.val (.int i0), .val (.int i1), .val (.int i2), .val (.int i3), .val (.int i4), .val (.int 0), .val (.ref a369), .val (.ref a376), .unset, .unset, .unset, .unset, .unset, .unset] [(.double 9218868437227405312)])
    refine own_seg C S401 [(141, .dstore 8, 2), (143, .aload 7, 2)] (by decide +kernel) 145 #[.val (.int i0), .val (.int i1), .val (.int i2), .val (.int i3), .val (.int i4), .val (.int 0), .val (.ref a369), .val (.ref a376), .val (.double 9218868437227405312), .second, .unset, .unset, .unset, .unset] [(.ref a376)] rfl ?_
    refine own_callV C S401 (own_wd hw 32 rfl) (own_wd hw 33 rfl) (own_wd hw 35 rfl) (own_wd hw 35 rfl) rfl (own_wd hw 34 rfl) (by decide) (own_Met.pay (own_gh l Z a0 hw a376 18442240474082181120 h384 n0 f388 f381) C 0 (own_wd hw 36 rfl) (own_wd hw 4 rfl) (by decide) (by decide)) (fun _ _ _ q => q.2) f379 [] [] rfl own_pd5 rfl rfl rfl (Nat.le_of_ble_eq_true rfl) (by decide) (by decide) (by decide +kernel) ?_
    rintro T403 h404 v405 L406 S407 ⟨⟨rfl, e402⟩, -⟩
    rw [e402] at S407; clear e402
    show own_Go p e below _ T403 (mkF m 148 #[.val (.int i0), .val (.int i1), .val (.int i2), .val (.int i3), .val (.int i4), .val (.int 0), .val (.ref a369), .val (.ref a376), .val (.double 9218868437227405312), .second, .unset, .unset, .unset, .unset] [(.double 18442240474082181120)])
    refine own_seg C S407 [(148, .dstore 10, 2), (150, .iload 5, 2)] (by decide +kernel) 152 #[.val (.int i0), .val (.int i1), .val (.int i2), .val (.int i3), .val (.int i4), .val (.int 0), .val (.ref a369), .val (.ref a376), .val (.double 9218868437227405312), .second, .val (.double 18442240474082181120), .second, .unset, .unset] [(.int 0)] rfl ?_
    refine own_if C S407 (q := .ne) (o := 25) (by decide +kernel) 177 (by decide) (by decide) (fun (hq : ¬ (0 : Int32) = (0 : Int32)) => False.elim (by revert hq; decide)) (fun (q408 : (0 : Int32) = (0 : Int32)) => ?_)
    refine own_seg C S407 [(155, .dload 8, 2)] (by decide +kernel) 157 #[.val (.int i0), .val (.int i1), .val (.int i2), .val (.int i3), .val (.int i4), .val (.int 0), .val (.ref a369), .val (.ref a376), .val (.double 9218868437227405312), .second, .val (.double 18442240474082181120), .second, .unset, .unset] [(.double 9218868437227405312)] rfl ?_
    refine own_callS C S407 (own_wd hw 37 rfl) (own_wd hw 38 rfl) (own_wd hw 39 rfl) (own_wd hw 40 rfl) (by decide) (own_Met.pay (own_ip l Z a0 hw  h384 n0 f388) C 0 (own_wd hw 40 rfl) (own_wd hw 39 rfl) (by decide) (by decide)) (fun _ _ _ q => q.2) [(.double 9218868437227405312)] [] rfl own_pd1 rfl rfl rfl (Nat.le_of_ble_eq_true rfl) (by decide) (by decide) (by decide +kernel) ?_
    rintro T410 h411 v412 L413 S414 ⟨⟨rfl, e409⟩, -⟩
    rw [e409] at S414; clear e409
    show own_Go p e below _ T410 (mkF m 160 #[.val (.int i0), .val (.int i1), .val (.int i2), .val (.int i3), .val (.int i4), .val (.int 0), .val (.ref a369), .val (.ref a376), .val (.double 9218868437227405312), .second, .val (.double 18442240474082181120), .second, .unset, .unset] [(.int 1)])
    refine own_if C S414 (q := .eq) (o := 15) (by decide +kernel) 175 (by decide) (by decide) (fun (hq : (1 : Int32) = (0 : Int32)) => False.elim (by revert hq; decide)) (fun (q415 : ¬ (1 : Int32) = (0 : Int32)) => ?_)
    refine own_seg C S414 [(163, .dload 10, 2)] (by decide +kernel) 165 #[.val (.int i0), .val (.int i1), .val (.int i2), .val (.int i3), .val (.int i4), .val (.int 0), .val (.ref a369), .val (.ref a376), .val (.double 9218868437227405312), .second, .val (.double 18442240474082181120), .second, .unset, .unset] [(.double 18442240474082181120)] rfl ?_
    refine own_callS C S414 (own_wd hw 42 rfl) (own_wd hw 43 rfl) (own_wd hw 39 rfl) (own_wd hw 44 rfl) (by decide) (own_Met.pay (own_in l Z a0 hw  h384 n0 f388) C 0 (own_wd hw 44 rfl) (own_wd hw 39 rfl) (by decide) (by decide)) (fun _ _ _ q => q.2) [(.double 18442240474082181120)] [] rfl own_pd1 rfl rfl rfl (Nat.le_of_ble_eq_true rfl) (by decide) (by decide) (by decide +kernel) ?_
    rintro T417 h418 v419 L420 S421 ⟨⟨rfl, e416⟩, -⟩
    rw [e416] at S421; clear e416
    show own_Go p e below _ T417 (mkF m 168 #[.val (.int i0), .val (.int i1), .val (.int i2), .val (.int i3), .val (.int i4), .val (.int 0), .val (.ref a369), .val (.ref a376), .val (.double 9218868437227405312), .second, .val (.double 18442240474082181120), .second, .unset, .unset] [(.int 1)])
    refine own_if C S421 (q := .eq) (o := 7) (by decide +kernel) 175 (by decide) (by decide) (fun (hq : (1 : Int32) = (0 : Int32)) => False.elim (by revert hq; decide)) (fun (q422 : ¬ (1 : Int32) = (0 : Int32)) => ?_)
    refine own_seg C S421 [(171, .iconst 1, 1), (172, .goto 4, 3)] (by decide +kernel) 176 #[.val (.int i0), .val (.int i1), .val (.int i2), .val (.int i3), .val (.int i4), .val (.int 0), .val (.ref a369), .val (.ref a376), .val (.double 9218868437227405312), .second, .val (.double 18442240474082181120), .second, .unset, .unset] [(.int 1)] rfl ?_
    refine own_retZ C S421 (by decide +kernel) (by decide) (by decide) (by decide) ?_
    rfl
  · rw [show ((i0 &&& 2147483647) % (5 : Int32)) = (1 : Int32) from e5]
    refine own_seg C S0 [(6, .istore 5, 2), (8, .iload 5, 2)] (by decide +kernel) 10 #[.val (.int i0), .val (.int i1), .val (.int i2), .val (.int i3), .val (.int i4), .val (.int 1), .unset, .unset, .unset, .unset, .unset, .unset, .unset, .unset] [(.int 1)] rfl ?_
    refine own_if C S0 (q := .ne) (o := 11) (by decide +kernel) 21 (by decide) (by decide) (fun (q423 : ¬ (1 : Int32) = (0 : Int32)) => ?_) (fun (hq : (1 : Int32) = (0 : Int32)) => False.elim (by revert hq; decide))
    refine own_seg C S0 [(21, .iload 5, 2), (23, .iconst 1, 1)] (by decide +kernel) 24 #[.val (.int i0), .val (.int i1), .val (.int i2), .val (.int i3), .val (.int i4), .val (.int 1), .unset, .unset, .unset, .unset, .unset, .unset, .unset, .unset] [(.int 1), (.int 1)] rfl ?_
    refine own_icmp C S0 (q := .ne) (o := 16) (by decide +kernel) 40 (by decide) (by decide) (fun (hq : ¬ (1 : Int32) = (1 : Int32)) => False.elim (by revert hq; decide)) (fun (q424 : (1 : Int32) = (1 : Int32)) => ?_)
    refine own_seg C S0 [(27, .iconst 1, 1)] (by decide +kernel) 28 #[.val (.int i0), .val (.int i1), .val (.int i2), .val (.int i3), .val (.int i4), .val (.int 1), .unset, .unset, .unset, .unset, .unset, .unset, .unset, .unset] [(.int 1)] rfl ?_
    refine own_newP C S0 (aty := .double) (own_wd hw 1 rfl) (by decide +kernel) (by decide) 1 (by decide) (by decide) (by decide) (by decide) ?_
    intro T425 h427 a428 k429 S426 g430 E431 f432 
    have f433 : Arv Z h427 a428 k429 .double (1 : Int32) ([(.double 0)]) (.double 0) := Arv.pad f432 (pad_rep [] (.double 0) 1)
    refine own_seg C S426 [(30, .dup, 1), (31, .iconst 0, 1), (32, .iload_n 1, 1), (33, .i2d, 1)] (by decide +kernel) 34 #[.val (.int i0), .val (.int i1), .val (.int i2), .val (.int i3), .val (.int i4), .val (.int 1), .unset, .unset, .unset, .unset, .unset, .unset, .unset, .unset] [(.double (FP.i2d i1)), (.int 0), (.ref a428), (.ref a428)] rfl ?_
    have g434 : n0 ≤ a428 := by rw [g430]; exact z0
    refine own_dastore C S426 f433 ⟨(by decide), (by decide)⟩ 0 rfl (Nat.le_of_ble_eq_true rfl) g434 (by decide +kernel) ?_
    intro T435 h437 S436 W438 f439
    have f440 : Arv Z h437 a428 k429 .double (1 : Int32) ([(.double (FP.i2d i1))]) (.double 0) := f439
    refine own_seg C S436 [(35, .astore 6, 2), (37, .goto 82, 3), (119, .aload 6, 2)] (by decide +kernel) 121 #[.val (.int i0), .val (.int i1), .val (.int i2), .val (.int i3), .val (.int i4), .val (.int 1), .val (.ref a428), .unset, .unset, .unset, .unset, .unset, .unset, .unset] [(.ref a428)] rfl ?_
    have f441 : n0 ≤ h437.size := (by rw [W438.size]; exact (Nat.le_trans z0 E431.1))
    refine own_callS C S436 (own_wd hw 2 rfl) (own_wd hw 3 rfl) (own_wd hw 4 rfl) (own_wd hw 5 rfl) (by decide) (own_Met.pay (own_sp1 l Z a0 hw a428 _ i1 h437 n0 f441 f440) C 0 (own_wd hw 5 rfl) (own_wd hw 4 rfl) (by decide) (by decide)) (fun _ _ _ q => q.2) [(.ref a428)] [] rfl own_pd3 rfl rfl rfl (Nat.le_of_ble_eq_true rfl) (by decide) (by decide) (by decide +kernel) ?_
    rintro T449 h450 v451 L452 S453 ⟨⟨a442, rfl, g443, K444, f445, f446, f447, f448⟩, -⟩
    show own_Go p e below _ T449 (mkF m 124 #[.val (.int i0), .val (.int i1), .val (.int i2), .val (.int i3), .val (.int i4), .val (.int 1), .val (.ref a428), .unset, .unset, .unset, .unset, .unset, .unset, .unset] [(.ref a442)])
    refine own_seg C S453 [(124, .astore 7, 2), (126, .aload 7, 2)] (by decide +kernel) 128 #[.val (.int i0), .val (.int i1), .val (.int i2), .val (.int i3), .val (.int i4), .val (.int 1), .val (.ref a428), .val (.ref a442), .unset, .unset, .unset, .unset, .unset, .unset] [(.ref a442)] rfl ?_
    have f454 : n0 ≤ h450.size := (Nat.le_trans f441 K444.1)
    refine own_callV C S453 (own_wd hw 22 rfl) (own_wd hw 23 rfl) (own_wd hw 25 rfl) (own_wd hw 25 rfl) rfl (own_wd hw 24 rfl) (by decide) (own_Met.pay (own_mb l Z a0 hw a442 h450 n0 f454 f448) C 0 (own_wd hw 26 rfl) (own_wd hw 4 rfl) (by decide) (by decide)) (fun _ _ _ q => q.2) f445 [] [] rfl own_pd4 rfl rfl rfl (Nat.le_of_ble_eq_true rfl) (by decide) (by decide) (by decide +kernel) ?_
    rintro T456 h457 v458 L459 S460 ⟨⟨rfl, e455⟩, -⟩
    rw [e455] at S460; clear e455
    show own_Go p e below _ T456 (mkF m 131 #[.val (.int i0), .val (.int i1), .val (.int i2), .val (.int i3), .val (.int i4), .val (.int 1), .val (.ref a428), .val (.ref a442), .unset, .unset, .unset, .unset, .unset, .unset] [(.int 0)])
    refine own_if C S460 (q := .eq) (o := 5) (by decide +kernel) 136 (by decide) (by decide) (fun (q461 : (0 : Int32) = (0 : Int32)) => ?_) (fun (hq : ¬ (0 : Int32) = (0 : Int32)) => False.elim (by revert hq; decide))
    refine own_seg C S460 [(136, .aload 7, 2)] (by decide +kernel) 138 #[.val (.int i0), .val (.int i1), .val (.int i2), .val (.int i3), .val (.int i4), .val (.int 1), .val (.ref a428), .val (.ref a442), .unset, .unset, .unset, .unset, .unset, .unset] [(.ref a442)] rfl ?_
    refine own_callV C S460 (own_wd hw 27 rfl) (own_wd hw 28 rfl) (own_wd hw 30 rfl) (own_wd hw 30 rfl) rfl (own_wd hw 29 rfl) (by decide) (own_Met.pay (own_gl l Z a0 hw a442 (FP.i2d i1) h450 n0 f454 f446) C 0 (own_wd hw 31 rfl) (own_wd hw 4 rfl) (by decide) (by decide)) (fun _ _ _ q => q.2) f445 [] [] rfl own_pd5 rfl rfl rfl (Nat.le_of_ble_eq_true rfl) (by decide) (by decide) (by decide +kernel) ?_
    rintro T463 h464 v465 L466 S467 ⟨⟨rfl, e462⟩, -⟩
    rw [e462] at S467; clear e462
    show own_Go p e below _ T463 (mkF m 141 #[.val (.int i0), .val (.int i1), .val (.int i2), .val (.int i3), .val (.int i4), .val (.int 1), .val (.ref a428), .val (.ref a442), .unset, .unset, .unset, .unset, .unset, .unset] [(.double (FP.i2d i1))])
    refine own_seg C S467 [(141, .dstore 8, 2), (143, .aload 7, 2)] (by decide +kernel) 145 #[.val (.int i0), .val (.int i1), .val (.int i2), .val (.int i3), .val (.int i4), .val (.int 1), .val (.ref a428), .val (.ref a442), .val (.double (FP.i2d i1)), .second, .unset, .unset, .unset, .unset] [(.ref a442)] rfl ?_
    refine own_callV C S467 (own_wd hw 32 rfl) (own_wd hw 33 rfl) (own_wd hw 35 rfl) (own_wd hw 35 rfl) rfl (own_wd hw 34 rfl) (by decide) (own_Met.pay (own_gh l Z a0 hw a442 (FP.i2d i1) h450 n0 f454 f447) C 0 (own_wd hw 36 rfl) (own_wd hw 4 rfl) (by decide) (by decide)) (fun _ _ _ q => q.2) f445 [] [] rfl own_pd5 rfl rfl rfl (Nat.le_of_ble_eq_true rfl) (by decide) (by decide) (by decide +kernel) ?_
    rintro T469 h470 v471 L472 S473 ⟨⟨rfl, e468⟩, -⟩
    rw [e468] at S473; clear e468
    show own_Go p e below _ T469 (mkF m 148 #[.val (.int i0), .val (.int i1), .val (.int i2), .val (.int i3), .val (.int i4), .val (.int 1), .val (.ref a428), .val (.ref a442), .val (.double (FP.i2d i1)), .second, .unset, .unset, .unset, .unset] [(.double (FP.i2d i1))])
    refine own_seg C S473 [(148, .dstore 10, 2), (150, .iload 5, 2)] (by decide +kernel) 152 #[.val (.int i0), .val (.int i1), .val (.int i2), .val (.int i3), .val (.int i4), .val (.int 1), .val (.ref a428), .val (.ref a442), .val (.double (FP.i2d i1)), .second, .val (.double (FP.i2d i1)), .second, .unset, .unset] [(.int 1)] rfl ?_
    refine own_if C S473 (q := .ne) (o := 25) (by decide +kernel) 177 (by decide) (by decide) (fun (q474 : ¬ (1 : Int32) = (0 : Int32)) => ?_) (fun (hq : (1 : Int32) = (0 : Int32)) => False.elim (by revert hq; decide))
    refine own_seg C S473 [(177, .iload_n 1, 1), (178, .istore 12, 2), (180, .iload_n 1, 1), (181, .istore 13, 2), (183, .iload 5, 2), (185, .iconst 2, 1)] (by decide +kernel) 186 #[.val (.int i0), .val (.int i1), .val (.int i2), .val (.int i3), .val (.int i4), .val (.int 1), .val (.ref a428), .val (.ref a442), .val (.double (FP.i2d i1)), .second, .val (.double (FP.i2d i1)), .second, .val (.int i1), .val (.int i1)] [(.int 2), (.int 1)] rfl ?_
    refine own_icmp C S473 (q := .lt) (o := 19) (by decide +kernel) 205 (by decide) (by decide) (fun (q475 : (1 : Int32) < (2 : Int32)) => ?_) (fun (hq : ¬ (1 : Int32) < (2 : Int32)) => False.elim (by revert hq; decide))
    refine own_seg C S473 [(205, .iload 5, 2), (207, .iconst 3, 1)] (by decide +kernel) 208 #[.val (.int i0), .val (.int i1), .val (.int i2), .val (.int i3), .val (.int i4), .val (.int 1), .val (.ref a428), .val (.ref a442), .val (.double (FP.i2d i1)), .second, .val (.double (FP.i2d i1)), .second, .val (.int i1), .val (.int i1)] [(.int 3), (.int 1)] rfl ?_
    refine own_icmp C S473 (q := .lt) (o := 19) (by decide +kernel) 227 (by decide) (by decide) (fun (q476 : (1 : Int32) < (3 : Int32)) => ?_) (fun (hq : ¬ (1 : Int32) < (3 : Int32)) => False.elim (by revert hq; decide))
    refine own_seg C S473 [(227, .iload 5, 2), (229, .iconst 4, 1)] (by decide +kernel) 230 #[.val (.int i0), .val (.int i1), .val (.int i2), .val (.int i3), .val (.int i4), .val (.int 1), .val (.ref a428), .val (.ref a442), .val (.double (FP.i2d i1)), .second, .val (.double (FP.i2d i1)), .second, .val (.int i1), .val (.int i1)] [(.int 4), (.int 1)] rfl ?_
    refine own_icmp C S473 (q := .lt) (o := 21) (by decide +kernel) 251 (by decide) (by decide) (fun (q477 : (1 : Int32) < (4 : Int32)) => ?_) (fun (hq : ¬ (1 : Int32) < (4 : Int32)) => False.elim (by revert hq; decide))
    refine own_seg C S473 [(251, .dload 8, 2), (253, .iload 12, 2), (255, .i2d, 1)] (by decide +kernel) 256 #[.val (.int i0), .val (.int i1), .val (.int i2), .val (.int i3), .val (.int i4), .val (.int 1), .val (.ref a428), .val (.ref a442), .val (.double (FP.i2d i1)), .second, .val (.double (FP.i2d i1)), .second, .val (.int i1), .val (.int i1)] [(.double (FP.i2d i1)), (.double (FP.i2d i1))] rfl ?_
    refine own_dcmp C S473 (o := .l) (0 : Int32) (by decide +kernel) (dcmpV_self (Jvm.Free.Fl.i2d_fin _).noNaN _) ?_
    refine own_if C S473 (q := .ne) (o := 16) (by decide +kernel) 273 (by decide) (by decide) (fun (hq : ¬ (0 : Int32) = (0 : Int32)) => False.elim (by revert hq; decide)) (fun (q478 : (0 : Int32) = (0 : Int32)) => ?_)
    refine own_seg C S473 [(260, .dload 10, 2), (262, .iload 13, 2), (264, .i2d, 1)] (by decide +kernel) 265 #[.val (.int i0), .val (.int i1), .val (.int i2), .val (.int i3), .val (.int i4), .val (.int 1), .val (.ref a428), .val (.ref a442), .val (.double (FP.i2d i1)), .second, .val (.double (FP.i2d i1)), .second, .val (.int i1), .val (.int i1)] [(.double (FP.i2d i1)), (.double (FP.i2d i1))] rfl ?_
    refine own_dcmp C S473 (o := .l) (0 : Int32) (by decide +kernel) (dcmpV_self (Jvm.Free.Fl.i2d_fin _).noNaN _) ?_
    refine own_if C S473 (q := .ne) (o := 7) (by decide +kernel) 273 (by decide) (by decide) (fun (hq : ¬ (0 : Int32) = (0 : Int32)) => False.elim (by revert hq; decide)) (fun (q479 : (0 : Int32) = (0 : Int32)) => ?_)
    refine own_seg C S473 [(269, .iconst 1, 1), (270, .goto 4, 3)] (by decide +kernel) 274 #[.val (.int i0), .val (.int i1), .val (.int i2), .val (.int i3), .val (.int i4), .val (.int 1), .val (.ref a428), .val (.ref a442), .val (.double (FP.i2d i1)), .second, .val (.double (FP.i2d i1)), .second, .val (.int i1), .val (.int i1)] [(.int 1)] rfl ?_
    refine own_retZ C S473 (by decide +kernel) (by decide) (by decide) (by decide) ?_
    rfl
  · rw [show ((i0 &&& 2147483647) % (5 : Int32)) = (2 : Int32) from e5]
    refine own_seg C S0 [(6, .istore 5, 2), (8, .iload 5, 2)] (by decide +kernel) 10 #[.val (.int i0), .val (.int i1), .val (.int i2), .val (.int i3), .val (.int i4), .val (.int 2), .unset, .unset, .unset, .unset, .unset, .unset, .unset, .unset] [(.int 2)] rfl ?_
    refine own_if C S0 (q := .ne) (o := 11) (by decide +kernel) 21 (by decide) (by decide) (fun (q480 : ¬ (2 : Int32) = (0 : Int32)) => ?_) (fun (hq : (2 : Int32) = (0 : Int32)) => False.elim (by revert hq; decide))
    refine own_seg C S0 [(21, .iload 5, 2), (23, .iconst 1, 1)] (by decide +kernel) 24 #[.val (.int i0), .val (.int i1), .val (.int i2), .val (.int i3), .val (.int i4), .val (.int 2), .unset, .unset, .unset, .unset, .unset, .unset, .unset, .unset] [(.int 1), (.int 2)] rfl ?_
    refine own_icmp C S0 (q := .ne) (o := 16) (by decide +kernel) 40 (by decide) (by decide) (fun (q481 : ¬ (2 : Int32) = (1 : Int32)) => ?_) (fun (hq : (2 : Int32) = (1 : Int32)) => False.elim (by revert hq; decide))
    refine own_seg C S0 [(40, .iload 5, 2), (42, .iconst 2, 1)] (by decide +kernel) 43 #[.val (.int i0), .val (.int i1), .val (.int i2), .val (.int i3), .val (.int i4), .val (.int 2), .unset, .unset, .unset, .unset, .unset, .unset, .unset, .unset] [(.int 2), (.int 2)] rfl ?_
    refine own_icmp C S0 (q := .ne) (o := 21) (by decide +kernel) 64 (by decide) (by decide) (fun (hq : ¬ (2 : Int32) = (2 : Int32)) => False.elim (by revert hq; decide)) (fun (q482 : (2 : Int32) = (2 : Int32)) => ?_)
    refine own_seg C S0 [(46, .iconst 2, 1)] (by decide +kernel) 47 #[.val (.int i0), .val (.int i1), .val (.int i2), .val (.int i3), .val (.int i4), .val (.int 2), .unset, .unset, .unset, .unset, .unset, .unset, .unset, .unset] [(.int 2)] rfl ?_
    refine own_newP C S0 (aty := .double) (own_wd hw 1 rfl) (by decide +kernel) (by decide) 2 (by decide) (by decide) (by decide) (by decide) ?_
    intro T483 h485 a486 k487 S484 g488 E489 f490 
    have f491 : Arv Z h485 a486 k487 .double (2 : Int32) ([(.double 0), (.double 0)]) (.double 0) := Arv.pad f490 (pad_rep [] (.double 0) 2)
    refine own_seg C S484 [(49, .dup, 1), (50, .iconst 0, 1), (51, .iload_n 1, 1), (52, .i2d, 1)] (by decide +kernel) 53 #[.val (.int i0), .val (.int i1), .val (.int i2), .val (.int i3), .val (.int i4), .val (.int 2), .unset, .unset, .unset, .unset, .unset, .unset, .unset, .unset] [(.double (FP.i2d i1)), (.int 0), (.ref a486), (.ref a486)] rfl ?_
    have g492 : n0 ≤ a486 := by rw [g488]; exact z0
    refine own_dastore C S484 f491 ⟨(by decide), (by decide)⟩ 0 rfl (Nat.le_of_ble_eq_true rfl) g492 (by decide +kernel) ?_
    intro T493 h495 S494 W496 f497
    have f498 : Arv Z h495 a486 k487 .double (2 : Int32) ([(.double (FP.i2d i1)), (.double 0)]) (.double 0) := f497
    refine own_seg C S494 [(54, .dup, 1), (55, .iconst 1, 1), (56, .iload_n 2, 1), (57, .i2d, 1)] (by decide +kernel) 58 #[.val (.int i0), .val (.int i1), .val (.int i2), .val (.int i3), .val (.int i4), .val (.int 2), .unset, .unset, .unset, .unset, .unset, .unset, .unset, .unset] [(.double (FP.i2d i2)), (.int 1), (.ref a486), (.ref a486)] rfl ?_
    refine own_dastore C S494 f498 ⟨(by decide), (by decide)⟩ 1 rfl (Nat.le_of_ble_eq_true rfl) g492 (by decide +kernel) ?_
    intro T499 h501 S500 W502 f503
    have f504 : Arv Z h501 a486 k487 .double (2 : Int32) ([(.double (FP.i2d i1)), (.double (FP.i2d i2))]) (.double 0) := f503
    refine own_seg C S500 [(59, .astore 6, 2), (61, .goto 58, 3), (119, .aload 6, 2)] (by decide +kernel) 121 #[.val (.int i0), .val (.int i1), .val (.int i2), .val (.int i3), .val (.int i4), .val (.int 2), .val (.ref a486), .unset, .unset, .unset, .unset, .unset, .unset, .unset] [(.ref a486)] rfl ?_
    have f505 : n0 ≤ h501.size := (by rw [W502.size]; exact (by rw [W496.size]; exact (Nat.le_trans z0 E489.1)))
    refine own_callS C S500 (own_wd hw 2 rfl) (own_wd hw 3 rfl) (own_wd hw 4 rfl) (own_wd hw 5 rfl) (by decide) (own_Met.pay (own_sp2 l Z a0 hw a486 _ i1 i2 h501 n0 f505 f504) C 0 (own_wd hw 5 rfl) (own_wd hw 4 rfl) (by decide) (by decide)) (fun _ _ _ q => q.2) [(.ref a486)] [] rfl own_pd3 rfl rfl rfl (Nat.le_of_ble_eq_true rfl) (by decide) (by decide) (by decide +kernel) ?_
    rintro T513 h514 v515 L516 S517 ⟨⟨a506, rfl, g507, K508, f509, f510, f511, f512⟩, -⟩
    show own_Go p e below _ T513 (mkF m 124 #[.val (.int i0), .val (.int i1), .val (.int i2), .val (.int i3), .val (.int i4), .val (.int 2), .val (.ref a486), .unset, .unset, .unset, .unset, .unset, .unset, .unset] [(.ref a506)])
    refine own_seg C S517 [(124, .astore 7, 2), (126, .aload 7, 2)] (by decide +kernel) 128 #[.val (.int i0), .val (.int i1), .val (.int i2), .val (.int i3), .val (.int i4), .val (.int 2), .val (.ref a486), .val (.ref a506), .unset, .unset, .unset, .unset, .unset, .unset] [(.ref a506)] rfl ?_
    have f518 : n0 ≤ h514.size := (Nat.le_trans f505 K508.1)
    refine own_callV C S517 (own_wd hw 22 rfl) (own_wd hw 23 rfl) (own_wd hw 25 rfl) (own_wd hw 25 rfl) rfl (own_wd hw 24 rfl) (by decide) (own_Met.pay (own_mb l Z a0 hw a506 h514 n0 f518 f512) C 0 (own_wd hw 26 rfl) (own_wd hw 4 rfl) (by decide) (by decide)) (fun _ _ _ q => q.2) f509 [] [] rfl own_pd4 rfl rfl rfl (Nat.le_of_ble_eq_true rfl) (by decide) (by decide) (by decide +kernel) ?_
    rintro T520 h521 v522 L523 S524 ⟨⟨rfl, e519⟩, -⟩
    rw [e519] at S524; clear e519
    show own_Go p e below _ T520 (mkF m 131 #[.val (.int i0), .val (.int i1), .val (.int i2), .val (.int i3), .val (.int i4), .val (.int 2), .val (.ref a486), .val (.ref a506), .unset, .unset, .unset, .unset, .unset, .unset] [(.int 0)])
    refine own_if C S524 (q := .eq) (o := 5) (by decide +kernel) 136 (by decide) (by decide) (fun (q525 : (0 : Int32) = (0 : Int32)) => ?_) (fun (hq : ¬ (0 : Int32) = (0 : Int32)) => False.elim (by revert hq; decide))
    refine own_seg C S524 [(136, .aload 7, 2)] (by decide +kernel) 138 #[.val (.int i0), .val (.int i1), .val (.int i2), .val (.int i3), .val (.int i4), .val (.int 2), .val (.ref a486), .val (.ref a506), .unset, .unset, .unset, .unset, .unset, .unset] [(.ref a506)] rfl ?_
    refine own_callV C S524 (own_wd hw 27 rfl) (own_wd hw 28 rfl) (own_wd hw 30 rfl) (own_wd hw 30 rfl) rfl (own_wd hw 29 rfl) (by decide) (own_Met.pay (own_gl l Z a0 hw a506 (FP.i2d (if i2 < i1 then i2 else i1)) h514 n0 f518 f510) C 0 (own_wd hw 31 rfl) (own_wd hw 4 rfl) (by decide) (by decide)) (fun _ _ _ q => q.2) f509 [] [] rfl own_pd5 rfl rfl rfl (Nat.le_of_ble_eq_true rfl) (by decide) (by decide) (by decide +kernel) ?_
    rintro T527 h528 v529 L530 S531 ⟨⟨rfl, e526⟩, -⟩
    rw [e526] at S531; clear e526
    show own_Go p e below _ T527 (mkF m 141 #[.val (.int i0), .val (.int i1), .val (.int i2), .val (.int i3), .val (.int i4), .val (.int 2), .val (.ref a486), .val (.ref a506), .unset, .unset, .unset, .unset, .unset, .unset] [(.double (FP.i2d (if i2 < i1 then i2 else i1)))])
    refine own_seg C S531 [(141, .dstore 8, 2), (143, .aload 7, 2)] (by decide +kernel) 145 #[.val (.int i0), .val (.int i1), .val (.int i2), .val (.int i3), .val (.int i4), .val (.int 2), .val (.ref a486), .val (.ref a506), .val (.double (FP.i2d (if i2 < i1 then i2 else i1))), .second, .unset, .unset, .unset, .unset] [(.ref a506)] rfl ?_
    refine own_callV C S531 (own_wd hw 32 rfl) (own_wd hw 33 rfl) (own_wd hw 35 rfl) (own_wd hw 35 rfl) rfl (own_wd hw 34 rfl) (by decide) (own_Met.pay (own_gh l Z a0 hw a506 (FP.i2d (if i1 < i2 then i2 else i1)) h514 n0 f518 f511) C 0 (own_wd hw 36 rfl) (own_wd hw 4 rfl) (by decide) (by decide)) (fun _ _ _ q => q.2) f509 [] [] rfl own_pd5 rfl rfl rfl (Nat.le_of_ble_eq_true rfl) (by decide) (by decide) (by decide +kernel) ?_
    rintro T533 h534 v535 L536 S537 ⟨⟨rfl, e532⟩, -⟩
    rw [e532] at S537; clear e532
    show own_Go p e below _ T533 (mkF m 148 #[.val (.int i0), .val (.int i1), .val (.int i2), .val (.int i3), .val (.int i4), .val (.int 2), .val (.ref a486), .val (.ref a506), .val (.double (FP.i2d (if i2 < i1 then i2 else i1))), .second, .unset, .unset, .unset, .unset] [(.double (FP.i2d (if i1 < i2 then i2 else i1)))])
    refine own_seg C S537 [(148, .dstore 10, 2), (150, .iload 5, 2)] (by decide +kernel) 152 #[.val (.int i0), .val (.int i1), .val (.int i2), .val (.int i3), .val (.int i4), .val (.int 2), .val (.ref a486), .val (.ref a506), .val (.double (FP.i2d (if i2 < i1 then i2 else i1))), .second, .val (.double (FP.i2d (if i1 < i2 then i2 else i1))), .second, .unset, .unset] [(.int 2)] rfl ?_
    refine own_if C S537 (q := .ne) (o := 25) (by decide +kernel) 177 (by decide) (by decide) (fun (q538 : ¬ (2 : Int32) = (0 : Int32)) => ?_) (fun (hq : (2 : Int32) = (0 : Int32)) => False.elim (by revert hq; decide))
    refine own_seg C S537 [(177, .iload_n 1, 1), (178, .istore 12, 2), (180, .iload_n 1, 1), (181, .istore 13, 2), (183, .iload 5, 2), (185, .iconst 2, 1)] (by decide +kernel) 186 #[.val (.int i0), .val (.int i1), .val (.int i2), .val (.int i3), .val (.int i4), .val (.int 2), .val (.ref a486), .val (.ref a506), .val (.double (FP.i2d (if i2 < i1 then i2 else i1))), .second, .val (.double (FP.i2d (if i1 < i2 then i2 else i1))), .second, .val (.int i1), .val (.int i1)] [(.int 2), (.int 2)] rfl ?_
    refine own_icmp C S537 (q := .lt) (o := 19) (by decide +kernel) 205 (by decide) (by decide) (fun (hq : (2 : Int32) < (2 : Int32)) => False.elim (by revert hq; decide)) (fun (q539 : ¬ (2 : Int32) < (2 : Int32)) => ?_)
    refine own_seg C S537 [(189, .iload 12, 2), (191, .iload_n 2, 1)] (by decide +kernel) 192 #[.val (.int i0), .val (.int i1), .val (.int i2), .val (.int i3), .val (.int i4), .val (.int 2), .val (.ref a486), .val (.ref a506), .val (.double (FP.i2d (if i2 < i1 then i2 else i1))), .second, .val (.double (FP.i2d (if i1 < i2 then i2 else i1))), .second, .val (.int i1), .val (.int i1)] [(.int i2), (.int i1)] rfl ?_
    refine own_callS C S537 (own_wd hw 56 rfl) (own_wd hw 57 rfl) (own_wd hw 51 rfl) (own_wd hw 58 rfl) (by decide) (own_Met.pay (own_min l Z a0 hw i1 i2 h514 n0 f518) C 0 (own_wd hw 58 rfl) (own_wd hw 51 rfl) (by decide) (by decide)) (fun _ _ _ q => q.2) [(.int i1), (.int i2)] [] rfl own_pd6 rfl rfl rfl (Nat.le_of_ble_eq_true rfl) (by decide) (by decide) (by decide +kernel) ?_
    rintro T541 h542 v543 L544 S545 ⟨⟨rfl, e540⟩, -⟩
    rw [e540] at S545; clear e540
    show own_Go p e below _ T541 (mkF m 195 #[.val (.int i0), .val (.int i1), .val (.int i2), .val (.int i3), .val (.int i4), .val (.int 2), .val (.ref a486), .val (.ref a506), .val (.double (FP.i2d (if i2 < i1 then i2 else i1))), .second, .val (.double (FP.i2d (if i1 < i2 then i2 else i1))), .second, .val (.int i1), .val (.int i1)] [(.int (if i2 < i1 then i2 else i1))])
    refine own_seg C S545 [(195, .istore 12, 2), (197, .iload 13, 2), (199, .iload_n 2, 1)] (by decide +kernel) 200 #[.val (.int i0), .val (.int i1), .val (.int i2), .val (.int i3), .val (.int i4), .val (.int 2), .val (.ref a486), .val (.ref a506), .val (.double (FP.i2d (if i2 < i1 then i2 else i1))), .second, .val (.double (FP.i2d (if i1 < i2 then i2 else i1))), .second, .val (.int (if i2 < i1 then i2 else i1)), .val (.int i1)] [(.int i2), (.int i1)] rfl ?_
    refine own_callS C S545 (own_wd hw 59 rfl) (own_wd hw 60 rfl) (own_wd hw 51 rfl) (own_wd hw 61 rfl) (by decide) (own_Met.pay (own_max l Z a0 hw i1 i2 h514 n0 f518) C 0 (own_wd hw 61 rfl) (own_wd hw 51 rfl) (by decide) (by decide)) (fun _ _ _ q => q.2) [(.int i1), (.int i2)] [] rfl own_pd6 rfl rfl rfl (Nat.le_of_ble_eq_true rfl) (by decide) (by decide) (by decide +kernel) ?_
    rintro T547 h548 v549 L550 S551 ⟨⟨rfl, e546⟩, -⟩
    rw [e546] at S551; clear e546
    show own_Go p e below _ T547 (mkF m 203 #[.val (.int i0), .val (.int i1), .val (.int i2), .val (.int i3), .val (.int i4), .val (.int 2), .val (.ref a486), .val (.ref a506), .val (.double (FP.i2d (if i2 < i1 then i2 else i1))), .second, .val (.double (FP.i2d (if i1 < i2 then i2 else i1))), .second, .val (.int (if i2 < i1 then i2 else i1)), .val (.int i1)] [(.int (if i1 < i2 then i2 else i1))])
    refine own_seg C S551 [(203, .istore 13, 2), (205, .iload 5, 2), (207, .iconst 3, 1)] (by decide +kernel) 208 #[.val (.int i0), .val (.int i1), .val (.int i2), .val (.int i3), .val (.int i4), .val (.int 2), .val (.ref a486), .val (.ref a506), .val (.double (FP.i2d (if i2 < i1 then i2 else i1))), .second, .val (.double (FP.i2d (if i1 < i2 then i2 else i1))), .second, .val (.int (if i2 < i1 then i2 else i1)), .val (.int (if i1 < i2 then i2 else i1))] [(.int 3), (.int 2)] rfl ?_
    refine own_icmp C S551 (q := .lt) (o := 19) (by decide +kernel) 227 (by decide) (by decide) (fun (q552 : (2 : Int32) < (3 : Int32)) => ?_) (fun (hq : ¬ (2 : Int32) < (3 : Int32)) => False.elim (by revert hq; decide))
    refine own_seg C S551 [(227, .iload 5, 2), (229, .iconst 4, 1)] (by decide +kernel) 230 #[.val (.int i0), .val (.int i1), .val (.int i2), .val (.int i3), .val (.int i4), .val (.int 2), .val (.ref a486), .val (.ref a506), .val (.double (FP.i2d (if i2 < i1 then i2 else i1))), .second, .val (.double (FP.i2d (if i1 < i2 then i2 else i1))), .second, .val (.int (if i2 < i1 then i2 else i1)), .val (.int (if i1 < i2 then i2 else i1))] [(.int 4), (.int 2)] rfl ?_
    refine own_icmp C S551 (q := .lt) (o := 21) (by decide +kernel) 251 (by decide) (by decide) (fun (q553 : (2 : Int32) < (4 : Int32)) => ?_) (fun (hq : ¬ (2 : Int32) < (4 : Int32)) => False.elim (by revert hq; decide))
    refine own_seg C S551 [(251, .dload 8, 2), (253, .iload 12, 2), (255, .i2d, 1)] (by decide +kernel) 256 #[.val (.int i0), .val (.int i1), .val (.int i2), .val (.int i3), .val (.int i4), .val (.int 2), .val (.ref a486), .val (.ref a506), .val (.double (FP.i2d (if i2 < i1 then i2 else i1))), .second, .val (.double (FP.i2d (if i1 < i2 then i2 else i1))), .second, .val (.int (if i2 < i1 then i2 else i1)), .val (.int (if i1 < i2 then i2 else i1))] [(.double (FP.i2d (if i2 < i1 then i2 else i1))), (.double (FP.i2d (if i2 < i1 then i2 else i1)))] rfl ?_
    refine own_dcmp C S551 (o := .l) (0 : Int32) (by decide +kernel) (dcmpV_self (Jvm.Free.Fl.i2d_fin _).noNaN _) ?_
    refine own_if C S551 (q := .ne) (o := 16) (by decide +kernel) 273 (by decide) (by decide) (fun (hq : ¬ (0 : Int32) = (0 : Int32)) => False.elim (by revert hq; decide)) (fun (q554 : (0 : Int32) = (0 : Int32)) => ?_)
    refine own_seg C S551 [(260, .dload 10, 2), (262, .iload 13, 2), (264, .i2d, 1)] (by decide +kernel) 265 #[.val (.int i0), .val (.int i1), .val (.int i2), .val (.int i3), .val (.int i4), .val (.int 2), .val (.ref a486), .val (.ref a506), .val (.double (FP.i2d (if i2 < i1 then i2 else i1))), .second, .val (.double (FP.i2d (if i1 < i2 then i2 else i1))), .second, .val (.int (if i2 < i1 then i2 else i1)), .val (.int (if i1 < i2 then i2 else i1))] [(.double (FP.i2d (if i1 < i2 then i2 else i1))), (.double (FP.i2d (if i1 < i2 then i2 else i1)))] rfl ?_
    refine own_dcmp C S551 (o := .l) (0 : Int32) (by decide +kernel) (dcmpV_self (Jvm.Free.Fl.i2d_fin _).noNaN _) ?_
    refine own_if C S551 (q := .ne) (o := 7) (by decide +kernel) 273 (by decide) (by decide) (fun (hq : ¬ (0 : Int32) = (0 : Int32)) => False.elim (by revert hq; decide)) (fun (q555 : (0 : Int32) = (0 : Int32)) => ?_)
    refine own_seg C S551 [(269, .iconst 1, 1), (270, .goto 4, 3)] (by decide +kernel) 274 #[.val (.int i0), .val (.int i1), .val (.int i2), .val (.int i3), .val (.int i4), .val (.int 2), .val (.ref a486), .val (.ref a506), .val (.double (FP.i2d (if i2 < i1 then i2 else i1))), .second, .val (.double (FP.i2d (if i1 < i2 then i2 else i1))), .second, .val (.int (if i2 < i1 then i2 else i1)), .val (.int (if i1 < i2 then i2 else i1))] [(.int 1)] rfl ?_
    refine own_retZ C S551 (by decide +kernel) (by decide) (by decide) (by decide) ?_
    rfl
  · rw [show ((i0 &&& 2147483647) % (5 : Int32)) = (3 : Int32) from e5]
    refine own_seg C S0 [(6, .istore 5, 2), (8, .iload 5, 2)] (by decide +kernel) 10 #[.val (.int i0), .val (.int i1), .val (.int i2), .val (.int i3), .val (.int i4), .val (.int 3), .unset, .unset, .unset, .unset, .unset, .unset, .unset, .unset] [(.int 3)] rfl ?_
    refine own_if C S0 (q := .ne) (o := 11) (by decide +kernel) 21 (by decide) (by decide) (fun (q556 : ¬ (3 : Int32) = (0 : Int32)) => ?_) (fun (hq : (3 : Int32) = (0 : Int32)) => False.elim (by revert hq; decide))
    refine own_seg C S0 [(21, .iload 5, 2), (23, .iconst 1, 1)] (by decide +kernel) 24 #[.val (.int i0), .val (.int i1), .val (.int i2), .val (.int i3), .val (.int i4), .val (.int 3), .unset, .unset, .unset, .unset, .unset, .unset, .unset, .unset] [(.int 1), (.int 3)] rfl ?_
    refine own_icmp C S0 (q := .ne) (o := 16) (by decide +kernel) 40 (by decide) (by decide) (fun (q557 : ¬ (3 : Int32) = (1 : Int32)) => ?_) (fun (hq : (3 : Int32) = (1 : Int32)) => False.elim (by revert hq; decide))
    refine own_seg C S0 [(40, .iload 5, 2), (42, .iconst 2, 1)] (by decide +kernel) 43 #[.val (.int i0), .val (.int i1), .val (.int i2), .val (.int i3), .val (.int i4), .val (.int 3), .unset, .unset, .unset, .unset, .unset, .unset, .unset, .unset] [(.int 2), (.int 3)] rfl ?_
    refine own_icmp C S0 (q := .ne) (o := 21) (by decide +kernel) 64 (by decide) (by decide) (fun (q558 : ¬ (3 : Int32) = (2 : Int32)) => ?_) (fun (hq : (3 : Int32) = (2 : Int32)) => False.elim (by revert hq; decide))
    refine own_seg C S0 [(64, .iload 5, 2), (66, .iconst 3, 1)] (by decide +kernel) 67 #[.val (.int i0), .val (.int i1), .val (.int i2), .val (.int i3), .val (.int i4), .val (.int 3), .unset, .unset, .unset, .unset, .unset, .unset, .unset, .unset] [(.int 3), (.int 3)] rfl ?_
    refine own_icmp C S0 (q := .ne) (o := 26) (by decide +kernel) 93 (by decide) (by decide) (fun (hq : ¬ (3 : Int32) = (3 : Int32)) => False.elim (by revert hq; decide)) (fun (q559 : (3 : Int32) = (3 : Int32)) => ?_)
    refine own_seg C S0 [(70, .iconst 3, 1)] (by decide +kernel) 71 #[.val (.int i0), .val (.int i1), .val (.int i2), .val (.int i3), .val (.int i4), .val (.int 3), .unset, .unset, .unset, .unset, .unset, .unset, .unset, .unset] [(.int 3)] rfl ?_
    refine own_newP C S0 (aty := .double) (own_wd hw 1 rfl) (by decide +kernel) (by decide) 3 (by decide) (by decide) (by decide) (by decide) ?_
    intro T560 h562 a563 k564 S561 g565 E566 f567 
    have f568 : Arv Z h562 a563 k564 .double (3 : Int32) ([(.double 0), (.double 0), (.double 0)]) (.double 0) := Arv.pad f567 (pad_rep [] (.double 0) 3)
    refine own_seg C S561 [(73, .dup, 1), (74, .iconst 0, 1), (75, .iload_n 1, 1), (76, .i2d, 1)] (by decide +kernel) 77 #[.val (.int i0), .val (.int i1), .val (.int i2), .val (.int i3), .val (.int i4), .val (.int 3), .unset, .unset, .unset, .unset, .unset, .unset, .unset, .unset] [(.double (FP.i2d i1)), (.int 0), (.ref a563), (.ref a563)] rfl ?_
    have g569 : n0 ≤ a563 := by rw [g565]; exact z0
    refine own_dastore C S561 f568 ⟨(by decide), (by decide)⟩ 0 rfl (Nat.le_of_ble_eq_true rfl) g569 (by decide +kernel) ?_
    intro T570 h572 S571 W573 f574
    have f575 : Arv Z h572 a563 k564 .double (3 : Int32) ([(.double (FP.i2d i1)), (.double 0), (.double 0)]) (.double 0) := f574
    refine own_seg C S571 [(78, .dup, 1), (79, .iconst 1, 1), (80, .iload_n 2, 1), (81, .i2d, 1)] (by decide +kernel) 82 #[.val (.int i0), .val (.int i1), .val (.int i2), .val (.int i3), .val (.int i4), .val (.int 3), .unset, .unset, .unset, .unset, .unset, .unset, .unset, .unset] [(.double (FP.i2d i2)), (.int 1), (.ref a563), (.ref a563)] rfl ?_
    refine own_dastore C S571 f575 ⟨(by decide), (by decide)⟩ 1 rfl (Nat.le_of_ble_eq_true rfl) g569 (by decide +kernel) ?_
    intro T576 h578 S577 W579 f580
    have f581 : Arv Z h578 a563 k564 .double (3 : Int32) ([(.double (FP.i2d i1)), (.double (FP.i2d i2)), (.double 0)]) (.double 0) := f580
    refine own_seg C S577 [(83, .dup, 1), (84, .iconst 2, 1), (85, .iload_n 3, 1), (86, .i2d, 1)] (by decide +kernel) 87 #[.val (.int i0), .val (.int i1), .val (.int i2), .val (.int i3), .val (.int i4), .val (.int 3), .unset, .unset, .unset, .unset, .unset, .unset, .unset, .unset] [(.double (FP.i2d i3)), (.int 2), (.ref a563), (.ref a563)] rfl ?_
    refine own_dastore C S577 f581 ⟨(by decide), (by decide)⟩ 2 rfl (Nat.le_of_ble_eq_true rfl) g569 (by decide +kernel) ?_
    intro T582 h584 S583 W585 f586
    have f587 : Arv Z h584 a563 k564 .double (3 : Int32) ([(.double (FP.i2d i1)), (.double (FP.i2d i2)), (.double (FP.i2d i3))]) (.double 0) := f586
    refine own_seg C S583 [(88, .astore 6, 2), (90, .goto 29, 3), (119, .aload 6, 2)] (by decide +kernel) 121 #[.val (.int i0), .val (.int i1), .val (.int i2), .val (.int i3), .val (.int i4), .val (.int 3), .val (.ref a563), .unset, .unset, .unset, .unset, .unset, .unset, .unset] [(.ref a563)] rfl ?_
    have f588 : n0 ≤ h584.size := (by rw [W585.size]; exact (by rw [W579.size]; exact (by rw [W573.size]; exact (Nat.le_trans z0 E566.1))))
    refine own_callS C S583 (own_wd hw 2 rfl) (own_wd hw 3 rfl) (own_wd hw 4 rfl) (own_wd hw 5 rfl) (by decide) (own_Met.pay (own_sp3 l Z a0 hw a563 _ i1 i2 i3 h584 n0 f588 f587) C 0 (own_wd hw 5 rfl) (own_wd hw 4 rfl) (by decide) (by decide)) (fun _ _ _ q => q.2) [(.ref a563)] [] rfl own_pd3 rfl rfl rfl (Nat.le_of_ble_eq_true rfl) (by decide) (by decide) (by decide +kernel) ?_
    rintro T596 h597 v598 L599 S600 ⟨⟨a589, rfl, g590, K591, f592, f593, f594, f595⟩, -⟩
    show own_Go p e below _ T596 (mkF m 124 #[.val (.int i0), .val (.int i1), .val (.int i2), .val (.int i3), .val (.int i4), .val (.int 3), .val (.ref a563), .unset, .unset, .unset, .unset, .unset, .unset, .unset] [(.ref a589)])
    refine own_seg C S600 [(124, .astore 7, 2), (126, .aload 7, 2)] (by decide +kernel) 128 #[.val (.int i0), .val (.int i1), .val (.int i2), .val (.int i3), .val (.int i4), .val (.int 3), .val (.ref a563), .val (.ref a589), .unset, .unset, .unset, .unset, .unset, .unset] [(.ref a589)] rfl ?_
    have f601 : n0 ≤ h597.size := (Nat.le_trans f588 K591.1)
    refine own_callV C S600 (own_wd hw 22 rfl) (own_wd hw 23 rfl) (own_wd hw 25 rfl) (own_wd hw 25 rfl) rfl (own_wd hw 24 rfl) (by decide) (own_Met.pay (own_mb l Z a0 hw a589 h597 n0 f601 f595) C 0 (own_wd hw 26 rfl) (own_wd hw 4 rfl) (by decide) (by decide)) (fun _ _ _ q => q.2) f592 [] [] rfl own_pd4 rfl rfl rfl (Nat.le_of_ble_eq_true rfl) (by decide) (by decide) (by decide +kernel) ?_
    rintro T603 h604 v605 L606 S607 ⟨⟨rfl, e602⟩, -⟩
    rw [e602] at S607; clear e602
    show own_Go p e below _ T603 (mkF m 131 #[.val (.int i0), .val (.int i1), .val (.int i2), .val (.int i3), .val (.int i4), .val (.int 3), .val (.ref a563), .val (.ref a589), .unset, .unset, .unset, .unset, .unset, .unset] [(.int 0)])
    refine own_if C S607 (q := .eq) (o := 5) (by decide +kernel) 136 (by decide) (by decide) (fun (q608 : (0 : Int32) = (0 : Int32)) => ?_) (fun (hq : ¬ (0 : Int32) = (0 : Int32)) => False.elim (by revert hq; decide))
    refine own_seg C S607 [(136, .aload 7, 2)] (by decide +kernel) 138 #[.val (.int i0), .val (.int i1), .val (.int i2), .val (.int i3), .val (.int i4), .val (.int 3), .val (.ref a563), .val (.ref a589), .unset, .unset, .unset, .unset, .unset, .unset] [(.ref a589)] rfl ?_
    refine own_callV C S607 (own_wd hw 27 rfl) (own_wd hw 28 rfl) (own_wd hw 30 rfl) (own_wd hw 30 rfl) rfl (own_wd hw 29 rfl) (by decide) (own_Met.pay (own_gl l Z a0 hw a589 (FP.i2d (if i3 < (if i2 < i1 then i2 else i1) then i3 else (if i2 < i1 then i2 else i1))) h597 n0 f601 f593) C 0 (own_wd hw 31 rfl) (own_wd hw 4 rfl) (by decide) (by decide)) (fun _ _ _ q => q.2) f592 [] [] rfl own_pd5 rfl rfl rfl (Nat.le_of_ble_eq_true rfl) (by decide) (by decide) (by decide +kernel) ?_
    rintro T610 h611 v612 L613 S614 ⟨⟨rfl, e609⟩, -⟩
    rw [e609] at S614; clear e609
    show own_Go p e below _ T610 (mkF m 141 #[.val (.int i0), .val (.int i1), .val (.int i2), .val (.int i3), .val (.int i4), .val (.int 3), .val (.ref a563), .val (.ref a589), .unset, .unset, .unset, .unset, .unset, .unset] [(.double (FP.i2d (if i3 < (if i2 < i1 then i2 else i1) then i3 else (if i2 < i1 then i2 else i1))))])
    refine own_seg C S614 [(141, .dstore 8, 2), (143, .aload 7, 2)] (by decide +kernel) 145 #[.val (.int i0), .val (.int i1), .val (.int i2), .val (.int i3), .val (.int i4), .val (.int 3), .val (.ref a563), .val (.ref a589), .val (.double (FP.i2d (if i3 < (if i2 < i1 then i2 else i1) then i3 else (if i2 < i1 then i2 else i1)))), .second, .unset, .unset, .unset, .unset] [(.ref a589)] rfl ?_
    refine own_callV C S614 (own_wd hw 32 rfl) (own_wd hw 33 rfl) (own_wd hw 35 rfl) (own_wd hw 35 rfl) rfl (own_wd hw 34 rfl) (by decide) (own_Met.pay (own_gh l Z a0 hw a589 (FP.i2d (if (if i1 < i2 then i2 else i1) < i3 then i3 else (if i1 < i2 then i2 else i1))) h597 n0 f601 f594) C 0 (own_wd hw 36 rfl) (own_wd hw 4 rfl) (by decide) (by decide)) (fun _ _ _ q => q.2) f592 [] [] rfl own_pd5 rfl rfl rfl (Nat.le_of_ble_eq_true rfl) (by decide) (by decide) (by decide +kernel) ?_
    rintro T616 h617 v618 L619 S620 ⟨⟨rfl, e615⟩, -⟩
    rw [e615] at S620; clear e615
    show own_Go p e below _ T616 (mkF m 148 #[.val (.int i0), .val (.int i1), .val (.int i2), .val (.int i3), .val (.int i4), .val (.int 3), .val (.ref a563), .val (.ref a589), .val (.double (FP.i2d (if i3 < (if i2 < i1 then i2 else i1) then i3 else (if i2 < i1 then i2 else i1)))), .second, .unset, .unset, .unset, .unset] [(.double (FP.i2d (if (if i1 < i2 then i2 else i1) < i3 then i3 else (if i1 < i2 then i2 else i1))))])
    refine own_seg C S620 [(148, .dstore 10, 2), (150, .iload 5, 2)] (by decide +kernel) 152 #[.val (.int i0), .val (.int i1), .val (.int i2), .val (.int i3), .val (.int i4), .val (.int 3), .val (.ref a563), .val (.ref a589), .val (.double (FP.i2d (if i3 < (if i2 < i1 then i2 else i1) then i3 else (if i2 < i1 then i2 else i1)))), .second, .val (.double (FP.i2d (if (if i1 < i2 then i2 else i1) < i3 then i3 else (if i1 < i2 then i2 else i1)))), .second, .unset, .unset] [(.int 3)] rfl ?_
    refine own_if C S620 (q := .ne) (o := 25) (by decide +kernel) 177 (by decide) (by decide) (fun (q621 : ¬ (3 : Int32) = (0 : Int32)) => ?_) (fun (hq : (3 : Int32) = (0 : Int32)) => False.elim (by revert hq; decide))
    refine own_seg C S620 [(177, .iload_n 1, 1), (178, .istore 12, 2), (180, .iload_n 1, 1), (181, .istore 13, 2), (183, .iload 5, 2), (185, .iconst 2, 1)] (by decide +kernel) 186 #[.val (.int i0), .val (.int i1), .val (.int i2), .val (.int i3), .val (.int i4), .val (.int 3), .val (.ref a563), .val (.ref a589), .val (.double (FP.i2d (if i3 < (if i2 < i1 then i2 else i1) then i3 else (if i2 < i1 then i2 else i1)))), .second, .val (.double (FP.i2d (if (if i1 < i2 then i2 else i1) < i3 then i3 else (if i1 < i2 then i2 else i1)))), .second, .val (.int i1), .val (.int i1)] [(.int 2), (.int 3)] rfl ?_
    refine own_icmp C S620 (q := .lt) (o := 19) (by decide +kernel) 205 (by decide) (by decide) (fun (hq : (3 : Int32) < (2 : Int32)) => False.elim (by revert hq; decide)) (fun (q622 : ¬ (3 : Int32) < (2 : Int32)) => ?_)
    refine own_seg C S620 [(189, .iload 12, 2), (191, .iload_n 2, 1)] (by decide +kernel) 192 #[.val (.int i0), .val (.int i1), .val (.int i2), .val (.int i3), .val (.int i4), .val (.int 3), .val (.ref a563), .val (.ref a589), .val (.double (FP.i2d (if i3 < (if i2 < i1 then i2 else i1) then i3 else (if i2 < i1 then i2 else i1)))), .second, .val (.double (FP.i2d (if (if i1 < i2 then i2 else i1) < i3 then i3 else (if i1 < i2 then i2 else i1)))), .second, .val (.int i1), .val (.int i1)] [(.int i2), (.int i1)] rfl ?_
    refine own_callS C S620 (own_wd hw 56 rfl) (own_wd hw 57 rfl) (own_wd hw 51 rfl) (own_wd hw 58 rfl) (by decide) (own_Met.pay (own_min l Z a0 hw i1 i2 h597 n0 f601) C 0 (own_wd hw 58 rfl) (own_wd hw 51 rfl) (by decide) (by decide)) (fun _ _ _ q => q.2) [(.int i1), (.int i2)] [] rfl own_pd6 rfl rfl rfl (Nat.le_of_ble_eq_true rfl) (by decide) (by decide) (by decide +kernel) ?_
    rintro T624 h625 v626 L627 S628 ⟨⟨rfl, e623⟩, -⟩
    rw [e623] at S628; clear e623
    show own_Go p e below _ T624 (mkF m 195 #[.val (.int i0), .val (.int i1), .val (.int i2), .val (.int i3), .val (.int i4), .val (.int 3), .val (.ref a563), .val (.ref a589), .val (.double (FP.i2d (if i3 < (if i2 < i1 then i2 else i1) then i3 else (if i2 < i1 then i2 else i1)))), .second, .val (.double (FP.i2d (if (if i1 < i2 then i2 else i1) < i3 then i3 else (if i1 < i2 then i2 else i1)))), .second, .val (.int i1), .val (.int i1)] [(.int (if i2 < i1 then i2 else i1))])
    refine own_seg C S628 [(195, .istore 12, 2), (197, .iload 13, 2), (199, .iload_n 2, 1)] (by decide +kernel) 200 #[.val (.int i0), .val (.int i1), .val (.int i2), .val (.int i3), .val (.int i4), .val (.int 3), .val (.ref a563), .val (.ref a589), .val (.double (FP.i2d (if i3 < (if i2 < i1 then i2 else i1) then i3 else (if i2 < i1 then i2 else i1)))), .second, .val (.double (FP.i2d (if (if i1 < i2 then i2 else i1) < i3 then i3 else (if i1 < i2 then i2 else i1)))), .second, .val (.int (if i2 < i1 then i2 else i1)), .val (.int i1)] [(.int i2), (.int i1)] rfl ?_
    refine own_callS C S628 (own_wd hw 59 rfl) (own_wd hw 60 rfl) (own_wd hw 51 rfl) (own_wd hw 61 rfl) (by decide) (own_Met.pay (own_max l Z a0 hw i1 i2 h597 n0 f601) C 0 (own_wd hw 61 rfl) (own_wd hw 51 rfl) (by decide) (by decide)) (fun _ _ _ q => q.2) [(.int i1), (.int i2)] [] rfl own_pd6 rfl rfl rfl (Nat.le_of_ble_eq_true rfl) (by decide) (by decide) (by decide +kernel) ?_
    rintro T630 h631 v632 L633 S634 ⟨⟨rfl, e629⟩, -⟩
    rw [e629] at S634; clear e629
    show own_Go p e below _ T630 (mkF m 203 #[.val (.int i0), .val (.int i1), .val (.int i2), .val (.int i3), .val (.int i4), .val (.int 3), .val (.ref a563), .val (.ref a589), .val (.double (FP.i2d (if i3 < (if i2 < i1 then i2 else i1) then i3 else (if i2 < i1 then i2 else i1)))), .second, .val (.double (FP.i2d (if (if i1 < i2 then i2 else i1) < i3 then i3 else (if i1 < i2 then i2 else i1)))), .second, .val (.int (if i2 < i1 then i2 else i1)), .val (.int i1)] [(.int (if i1 < i2 then i2 else i1))])
    refine own_seg C S634 [(203, .istore 13, 2), (205, .iload 5, 2), (207, .iconst 3, 1)] (by decide +kernel) 208 #[.val (.int i0), .val (.int i1), .val (.int i2), .val (.int i3), .val (.int i4), .val (.int 3), .val (.ref a563), .val (.ref a589), .val (.double (FP.i2d (if i3 < (if i2 < i1 then i2 else i1) then i3 else (if i2 < i1 then i2 else i1)))), .second, .val (.double (FP.i2d (if (if i1 < i2 then i2 else i1) < i3 then i3 else (if i1 < i2 then i2 else i1)))), .second, .val (.int (if i2 < i1 then i2 else i1)), .val (.int (if i1 < i2 then i2 else i1))] [(.int 3), (.int 3)] rfl ?_
    refine own_icmp C S634 (q := .lt) (o := 19) (by decide +kernel) 227 (by decide) (by decide) (fun (hq : (3 : Int32) < (3 : Int32)) => False.elim (by revert hq; decide)) (fun (q635 : ¬ (3 : Int32) < (3 : Int32)) => ?_)
    refine own_seg C S634 [(211, .iload 12, 2), (213, .iload_n 3, 1)] (by decide +kernel) 214 #[.val (.int i0), .val (.int i1), .val (.int i2), .val (.int i3), .val (.int i4), .val (.int 3), .val (.ref a563), .val (.ref a589), .val (.double (FP.i2d (if i3 < (if i2 < i1 then i2 else i1) then i3 else (if i2 < i1 then i2 else i1)))), .second, .val (.double (FP.i2d (if (if i1 < i2 then i2 else i1) < i3 then i3 else (if i1 < i2 then i2 else i1)))), .second, .val (.int (if i2 < i1 then i2 else i1)), .val (.int (if i1 < i2 then i2 else i1))] [(.int i3), (.int (if i2 < i1 then i2 else i1))] rfl ?_
    refine own_callS C S634 (own_wd hw 56 rfl) (own_wd hw 57 rfl) (own_wd hw 51 rfl) (own_wd hw 58 rfl) (by decide) (own_Met.pay (own_min l Z a0 hw (if i2 < i1 then i2 else i1) i3 h597 n0 f601) C 0 (own_wd hw 58 rfl) (own_wd hw 51 rfl) (by decide) (by decide)) (fun _ _ _ q => q.2) [(.int (if i2 < i1 then i2 else i1)), (.int i3)] [] rfl own_pd6 rfl rfl rfl (Nat.le_of_ble_eq_true rfl) (by decide) (by decide) (by decide +kernel) ?_
    rintro T637 h638 v639 L640 S641 ⟨⟨rfl, e636⟩, -⟩
    rw [e636] at S641; clear e636
    show own_Go p e below _ T637 (mkF m 217 #[.val (.int i0), .val (.int i1), .val (.int i2), .val (.int i3), .val (.int i4), .val (.int 3), .val (.ref a563), .val (.ref a589), .val (.double (FP.i2d (if i3 < (if i2 < i1 then i2 else i1) then i3 else (if i2 < i1 then i2 else i1)))), .second, .val (.double (FP.i2d (if (if i1 < i2 then i2 else i1) < i3 then i3 else (if i1 < i2 then i2 else i1)))), .second, .val (.int (if i2 < i1 then i2 else i1)), .val (.int (if i1 < i2 then i2 else i1))] [(.int (if i3 < (if i2 < i1 then i2 else i1) then i3 else (if i2 < i1 then i2 else i1)))])
    refine own_seg C S641 [(217, .istore 12, 2), (219, .iload 13, 2), (221, .iload_n 3, 1)] (by decide +kernel) 222 #[.val (.int i0), .val (.int i1), .val (.int i2), .val (.int i3), .val (.int i4), .val (.int 3), .val (.ref a563), .val (.ref a589), .val (.double (FP.i2d (if i3 < (if i2 < i1 then i2 else i1) then i3 else (if i2 < i1 then i2 else i1)))), .second, .val (.double (FP.i2d (if (if i1 < i2 then i2 else i1) < i3 then i3 else (if i1 < i2 then i2 else i1)))), .second, .val (.int (if i3 < (if i2 < i1 then i2 else i1) then i3 else (if i2 < i1 then i2 else i1))), .val (.int (if i1 < i2 then i2 else i1))] [(.int i3), (.int (if i1 < i2 then i2 else i1))] rfl ?_
    refine own_callS C S641 (own_wd hw 59 rfl) (own_wd hw 60 rfl) (own_wd hw 51 rfl) (own_wd hw 61 rfl) (by decide) (own_Met.pay (own_max l Z a0 hw (if i1 < i2 then i2 else i1) i3 h597 n0 f601) C 0 (own_wd hw 61 rfl) (own_wd hw 51 rfl) (by decide) (by decide)) (fun _ _ _ q => q.2) [(.int (if i1 < i2 then i2 else i1)), (.int i3)] [] rfl own_pd6 rfl rfl rfl (Nat.le_of_ble_eq_true rfl) (by decide) (by decide) (by decide +kernel) ?_
    rintro T643 h644 v645 L646 S647 ⟨⟨rfl, e642⟩, -⟩
    rw [e642] at S647; clear e642
    show own_Go p e below _ T643 (mkF m 225 #[.val (.int i0), .val (.int i1), .val (.int i2), .val (.int i3), .val (.int i4), .val (.int 3), .val (.ref a563), .val (.ref a589), .val (.double (FP.i2d (if i3 < (if i2 < i1 then i2 else i1) then i3 else (if i2 < i1 then i2 else i1)))), .second, .val (.double (FP.i2d (if (if i1 < i2 then i2 else i1) < i3 then i3 else (if i1 < i2 then i2 else i1)))), .second, .val (.int (if i3 < (if i2 < i1 then i2 else i1) then i3 else (if i2 < i1 then i2 else i1))), .val (.int (if i1 < i2 then i2 else i1))] [(.int (if (if i1 < i2 then i2 else i1) < i3 then i3 else (if i1 < i2 then i2 else i1)))])
    refine own_seg C S647 [(225, .istore 13, 2), (227, .iload 5, 2), (229, .iconst 4, 1)] (by decide +kernel) 230 #[.val (.int i0), .val (.int i1), .val (.int i2), .val (.int i3), .val (.int i4), .val (.int 3), .val (.ref a563), .val (.ref a589), .val (.double (FP.i2d (if i3 < (if i2 < i1 then i2 else i1) then i3 else (if i2 < i1 then i2 else i1)))), .second, .val (.double (FP.i2d (if (if i1 < i2 then i2 else i1) < i3 then i3 else (if i1 < i2 then i2 else i1)))), .second, .val (.int (if i3 < (if i2 < i1 then i2 else i1) then i3 else (if i2 < i1 then i2 else i1))), .val (.int (if (if i1 < i2 then i2 else i1) < i3 then i3 else (if i1 < i2 then i2 else i1)))] [(.int 4), (.int 3)] rfl ?_
    refine own_icmp C S647 (q := .lt) (o := 21) (by decide +kernel) 251 (by decide) (by decide) (fun (q648 : (3 : Int32) < (4 : Int32)) => ?_) (fun (hq : ¬ (3 : Int32) < (4 : Int32)) => False.elim (by revert hq; decide))
    refine own_seg C S647 [(251, .dload 8, 2), (253, .iload 12, 2), (255, .i2d, 1)] (by decide +kernel) 256 #[.val (.int i0), .val (.int i1), .val (.int i2), .val (.int i3), .val (.int i4), .val (.int 3), .val (.ref a563), .val (.ref a589), .val (.double (FP.i2d (if i3 < (if i2 < i1 then i2 else i1) then i3 else (if i2 < i1 then i2 else i1)))), .second, .val (.double (FP.i2d (if (if i1 < i2 then i2 else i1) < i3 then i3 else (if i1 < i2 then i2 else i1)))), .second, .val (.int (if i3 < (if i2 < i1 then i2 else i1) then i3 else (if i2 < i1 then i2 else i1))), .val (.int (if (if i1 < i2 then i2 else i1) < i3 then i3 else (if i1 < i2 then i2 else i1)))] [(.double (FP.i2d (if i3 < (if i2 < i1 then i2 else i1) then i3 else (if i2 < i1 then i2 else i1)))), (.double (FP.i2d (if i3 < (if i2 < i1 then i2 else i1) then i3 else (if i2 < i1 then i2 else i1))))] rfl ?_
    refine own_dcmp C S647 (o := .l) (0 : Int32) (by decide +kernel) (dcmpV_self (Jvm.Free.Fl.i2d_fin _).noNaN _) ?_
    refine own_if C S647 (q := .ne) (o := 16) (by decide +kernel) 273 (by decide) (by decide) (fun (hq : ¬ (0 : Int32) = (0 : Int32)) => False.elim (by revert hq; decide)) (fun (q649 : (0 : Int32) = (0 : Int32)) => ?_)
    refine own_seg C S647 [(260, .dload 10, 2), (262, .iload 13, 2), (264, .i2d, 1)] (by decide +kernel) 265 #[.val (.int i0), .val (.int i1), .val (.int i2), .val (.int i3), .val (.int i4), .val (.int 3), .val (.ref a563), .val (.ref a589), .val (.double (FP.i2d (if i3 < (if i2 < i1 then i2 else i1) then i3 else (if i2 < i1 then i2 else i1)))), .second, .val (.double (FP.i2d (if (if i1 < i2 then i2 else i1) < i3 then i3 else (if i1 < i2 then i2 else i1)))), .second, .val (.int (if i3 < (if i2 < i1 then i2 else i1) then i3 else (if i2 < i1 then i2 else i1))), .val (.int (if (if i1 < i2 then i2 else i1) < i3 then i3 else (if i1 < i2 then i2 else i1)))] [(.double (FP.i2d (if (if i1 < i2 then i2 else i1) < i3 then i3 else (if i1 < i2 then i2 else i1)))), (.double (FP.i2d (if (if i1 < i2 then i2 else i1) < i3 then i3 else (if i1 < i2 then i2 else i1))))] rfl ?_
    refine own_dcmp C S647 (o := .l) (0 : Int32) (by decide +kernel) (dcmpV_self (Jvm.Free.Fl.i2d_fin _).noNaN _) ?_
    refine own_if C S647 (q := .ne) (o := 7) (by decide +kernel) 273 (by decide) (by decide) (fun (hq : ¬ (0 : Int32) = (0 : Int32)) => False.elim (by revert hq; decide)) (fun (q650 : (0 : Int32) = (0 : Int32)) => ?_)
    refine own_seg C S647 [(269, .iconst 1, 1), (270, .goto 4, 3)] (by decide +kernel) 274 #[.val (.int i0), .val (.int i1), .val (.int i2), .val (.int i3), .val (.int i4), .val (.int 3), .val (.ref a563), .val (.ref a589), .val (.double (FP.i2d (if i3 < (if i2 < i1 then i2 else i1) then i3 else (if i2 < i1 then i2 else i1)))), .second, .val (.double (FP.i2d (if (if i1 < i2 then i2 else i1) < i3 then i3 else (if i1 < i2 then i2 else i1)))), .second, .val (.int (if i3 < (if i2 < i1 then i2 else i1) then i3 else (if i2 < i1 then i2 else i1))), .val (.int (if (if i1 < i2 then i2 else i1) < i3 then i3 else (if i1 < i2 then i2 else i1)))] [(.int 1)] rfl ?_
    refine own_retZ C S647 (by decide +kernel) (by decide) (by decide) (by decide) ?_
    rfl
  · rw [show ((i0 &&& 2147483647) % (5 : Int32)) = (4 : Int32) from e5]
    refine own_seg C S0 [(6, .istore 5, 2), (8, .iload 5, 2)] (by decide +kernel) 10 #[.val (.int i0), .val (.int i1), .val (.int i2), .val (.int i3), .val (.int i4), .val (.int 4), .unset, .unset, .unset, .unset, .unset, .unset, .unset, .unset] [(.int 4)] rfl ?_
    refine own_if C S0 (q := .ne) (o := 11) (by decide +kernel) 21 (by decide) (by decide) (fun (q651 : ¬ (4 : Int32) = (0 : Int32)) => ?_) (fun (hq : (4 : Int32) = (0 : Int32)) => False.elim (by revert hq; decide))
    refine own_seg C S0 [(21, .iload 5, 2), (23, .iconst 1, 1)] (by decide +kernel) 24 #[.val (.int i0), .val (.int i1), .val (.int i2), .val (.int i3), .val (.int i4), .val (.int 4), .unset, .unset, .unset, .unset, .unset, .unset, .unset, .unset] [(.int 1), (.int 4)] rfl ?_
    refine own_icmp C S0 (q := .ne) (o := 16) (by decide +kernel) 40 (by decide) (by decide) (fun (q652 : ¬ (4 : Int32) = (1 : Int32)) => ?_) (fun (hq : (4 : Int32) = (1 : Int32)) => False.elim (by revert hq; decide))
    refine own_seg C S0 [(40, .iload 5, 2), (42, .iconst 2, 1)] (by decide +kernel) 43 #[.val (.int i0), .val (.int i1), .val (.int i2), .val (.int i3), .val (.int i4), .val (.int 4), .unset, .unset, .unset, .unset, .unset, .unset, .unset, .unset] [(.int 2), (.int 4)] rfl ?_
    refine own_icmp C S0 (q := .ne) (o := 21) (by decide +kernel) 64 (by decide) (by decide) (fun (q653 : ¬ (4 : Int32) = (2 : Int32)) => ?_) (fun (hq : (4 : Int32) = (2 : Int32)) => False.elim (by revert hq; decide))
    refine own_seg C S0 [(64, .iload 5, 2), (66, .iconst 3, 1)] (by decide +kernel) 67 #[.val (.int i0), .val (.int i1), .val (.int i2), .val (.int i3), .val (.int i4), .val (.int 4), .unset, .unset, .unset, .unset, .unset, .unset, .unset, .unset] [(.int 3), (.int 4)] rfl ?_
    refine own_icmp C S0 (q := .ne) (o := 26) (by decide +kernel) 93 (by decide) (by decide) (fun (q654 : ¬ (4 : Int32) = (3 : Int32)) => ?_) (fun (hq : (4 : Int32) = (3 : Int32)) => False.elim (by revert hq; decide))
    refine own_seg C S0 [(93, .iconst 4, 1)] (by decide +kernel) 94 #[.val (.int i0), .val (.int i1), .val (.int i2), .val (.int i3), .val (.int i4), .val (.int 4), .unset, .unset, .unset, .unset, .unset, .unset, .unset, .unset] [(.int 4)] rfl ?_
    refine own_newP C S0 (aty := .double) (own_wd hw 1 rfl) (by decide +kernel) (by decide) 4 (by decide) (by decide) (by decide) (by decide) ?_
    intro T655 h657 a658 k659 S656 g660 E661 f662 
    have f663 : Arv Z h657 a658 k659 .double (4 : Int32) ([(.double 0), (.double 0), (.double 0), (.double 0)]) (.double 0) := Arv.pad f662 (pad_rep [] (.double 0) 4)
    refine own_seg C S656 [(96, .dup, 1), (97, .iconst 0, 1), (98, .iload_n 1, 1), (99, .i2d, 1)] (by decide +kernel) 100 #[.val (.int i0), .val (.int i1), .val (.int i2), .val (.int i3), .val (.int i4), .val (.int 4), .unset, .unset, .unset, .unset, .unset, .unset, .unset, .unset] [(.double (FP.i2d i1)), (.int 0), (.ref a658), (.ref a658)] rfl ?_
    have g664 : n0 ≤ a658 := by rw [g660]; exact z0
    refine own_dastore C S656 f663 ⟨(by decide), (by decide)⟩ 0 rfl (Nat.le_of_ble_eq_true rfl) g664 (by decide +kernel) ?_
    intro T665 h667 S666 W668 f669
    have f670 : Arv Z h667 a658 k659 .double (4 : Int32) ([(.double (FP.i2d i1)), (.double 0), (.double 0), (.double 0)]) (.double 0) := f669
    refine own_seg C S666 [(101, .dup, 1), (102, .iconst 1, 1), (103, .iload_n 2, 1), (104, .i2d, 1)] (by decide +kernel) 105 #[.val (.int i0), .val (.int i1), .val (.int i2), .val (.int i3), .val (.int i4), .val (.int 4), .unset, .unset, .unset, .unset, .unset, .unset, .unset, .unset] [(.double (FP.i2d i2)), (.int 1), (.ref a658), (.ref a658)] rfl ?_
    refine own_dastore C S666 f670 ⟨(by decide), (by decide)⟩ 1 rfl (Nat.le_of_ble_eq_true rfl) g664 (by decide +kernel) ?_
    intro T671 h673 S672 W674 f675
    have f676 : Arv Z h673 a658 k659 .double (4 : Int32) ([(.double (FP.i2d i1)), (.double (FP.i2d i2)), (.double 0), (.double 0)]) (.double 0) := f675
    refine own_seg C S672 [(106, .dup, 1), (107, .iconst 2, 1), (108, .iload_n 3, 1), (109, .i2d, 1)] (by decide +kernel) 110 #[.val (.int i0), .val (.int i1), .val (.int i2), .val (.int i3), .val (.int i4), .val (.int 4), .unset, .unset, .unset, .unset, .unset, .unset, .unset, .unset] [(.double (FP.i2d i3)), (.int 2), (.ref a658), (.ref a658)] rfl ?_
    refine own_dastore C S672 f676 ⟨(by decide), (by decide)⟩ 2 rfl (Nat.le_of_ble_eq_true rfl) g664 (by decide +kernel) ?_
    intro T677 h679 S678 W680 f681
    have f682 : Arv Z h679 a658 k659 .double (4 : Int32) ([(.double (FP.i2d i1)), (.double (FP.i2d i2)), (.double (FP.i2d i3)), (.double 0)]) (.double 0) := f681
    refine own_seg C S678 [(111, .dup, 1), (112, .iconst 3, 1), (113, .iload 4, 2), (115, .i2d, 1)] (by decide +kernel) 116 #[.val (.int i0), .val (.int i1), .val (.int i2), .val (.int i3), .val (.int i4), .val (.int 4), .unset, .unset, .unset, .unset, .unset, .unset, .unset, .unset] [(.double (FP.i2d i4)), (.int 3), (.ref a658), (.ref a658)] rfl ?_
    refine own_dastore C S678 f682 ⟨(by decide), (by decide)⟩ 3 rfl (Nat.le_of_ble_eq_true rfl) g664 (by decide +kernel) ?_
    intro T683 h685 S684 W686 f687
    have f688 : Arv Z h685 a658 k659 .double (4 : Int32) ([(.double (FP.i2d i1)), (.double (FP.i2d i2)), (.double (FP.i2d i3)), (.double (FP.i2d i4))]) (.double 0) := f687
    refine own_seg C S684 [(117, .astore 6, 2), (119, .aload 6, 2)] (by decide +kernel) 121 #[.val (.int i0), .val (.int i1), .val (.int i2), .val (.int i3), .val (.int i4), .val (.int 4), .val (.ref a658), .unset, .unset, .unset, .unset, .unset, .unset, .unset] [(.ref a658)] rfl ?_
    have f689 : n0 ≤ h685.size := (by rw [W686.size]; exact (by rw [W680.size]; exact (by rw [W674.size]; exact (by rw [W668.size]; exact (Nat.le_trans z0 E661.1)))))
    refine own_callS C S684 (own_wd hw 2 rfl) (own_wd hw 3 rfl) (own_wd hw 4 rfl) (own_wd hw 5 rfl) (by decide) (own_Met.pay (own_sp4 l Z a0 hw a658 _ i1 i2 i3 i4 h685 n0 f689 f688) C 0 (own_wd hw 5 rfl) (own_wd hw 4 rfl) (by decide) (by decide)) (fun _ _ _ q => q.2) [(.ref a658)] [] rfl own_pd3 rfl rfl rfl (Nat.le_of_ble_eq_true rfl) (by decide) (by decide) (by decide +kernel) ?_
    rintro T697 h698 v699 L700 S701 ⟨⟨a690, rfl, g691, K692, f693, f694, f695, f696⟩, -⟩
    show own_Go p e below _ T697 (mkF m 124 #[.val (.int i0), .val (.int i1), .val (.int i2), .val (.int i3), .val (.int i4), .val (.int 4), .val (.ref a658), .unset, .unset, .unset, .unset, .unset, .unset, .unset] [(.ref a690)])
    refine own_seg C S701 [(124, .astore 7, 2), (126, .aload 7, 2)] (by decide +kernel) 128 #[.val (.int i0), .val (.int i1), .val (.int i2), .val (.int i3), .val (.int i4), .val (.int 4), .val (.ref a658), .val (.ref a690), .unset, .unset, .unset, .unset, .unset, .unset] [(.ref a690)] rfl ?_
    have f702 : n0 ≤ h698.size := (Nat.le_trans f689 K692.1)
    refine own_callV C S701 (own_wd hw 22 rfl) (own_wd hw 23 rfl) (own_wd hw 25 rfl) (own_wd hw 25 rfl) rfl (own_wd hw 24 rfl) (by decide) (own_Met.pay (own_mb l Z a0 hw a690 h698 n0 f702 f696) C 0 (own_wd hw 26 rfl) (own_wd hw 4 rfl) (by decide) (by decide)) (fun _ _ _ q => q.2) f693 [] [] rfl own_pd4 rfl rfl rfl (Nat.le_of_ble_eq_true rfl) (by decide) (by decide) (by decide +kernel) ?_
    rintro T704 h705 v706 L707 S708 ⟨⟨rfl, e703⟩, -⟩
    rw [e703] at S708; clear e703
    show own_Go p e below _ T704 (mkF m 131 #[.val (.int i0), .val (.int i1), .val (.int i2), .val (.int i3), .val (.int i4), .val (.int 4), .val (.ref a658), .val (.ref a690), .unset, .unset, .unset, .unset, .unset, .unset] [(.int 0)])
    refine own_if C S708 (q := .eq) (o := 5) (by decide +kernel) 136 (by decide) (by decide) (fun (q709 : (0 : Int32) = (0 : Int32)) => ?_) (fun (hq : ¬ (0 : Int32) = (0 : Int32)) => False.elim (by revert hq; decide))
    refine own_seg C S708 [(136, .aload 7, 2)] (by decide +kernel) 138 #[.val (.int i0), .val (.int i1), .val (.int i2), .val (.int i3), .val (.int i4), .val (.int 4), .val (.ref a658), .val (.ref a690), .unset, .unset, .unset, .unset, .unset, .unset] [(.ref a690)] rfl ?_
    refine own_callV C S708 (own_wd hw 27 rfl) (own_wd hw 28 rfl) (own_wd hw 30 rfl) (own_wd hw 30 rfl) rfl (own_wd hw 29 rfl) (by decide) (own_Met.pay (own_gl l Z a0 hw a690 (FP.i2d (if i4 < (if i3 < (if i2 < i1 then i2 else i1) then i3 else (if i2 < i1 then i2 else i1)) then i4 else (if i3 < (if i2 < i1 then i2 else i1) then i3 else (if i2 < i1 then i2 else i1)))) h698 n0 f702 f694) C 0 (own_wd hw 31 rfl) (own_wd hw 4 rfl) (by decide) (by decide)) (fun _ _ _ q => q.2) f693 [] [] rfl own_pd5 rfl rfl rfl (Nat.le_of_ble_eq_true rfl) (by decide) (by decide) (by decide +kernel) ?_
    rintro T711 h712 v713 L714 S715 ⟨⟨rfl, e710⟩, -⟩
    rw [e710] at S715; clear e710
    show own_Go p e below _ T711 (mkF m 141 #[.val (.int i0), .val (.int i1), .val (.int i2), .val (.int i3), .val (.int i4), .val (.int 4), .val (.ref a658), .val (.ref a690), .unset, .unset, .unset, .unset, .unset, .unset] [(.double (FP.i2d (if i4 < (if i3 < (if i2 < i1 then i2 else i1) then i3 else (if i2 < i1 then i2 else i1)) then i4 else (if i3 < (if i2 < i1 then i2 else i1) then i3 else (if i2 < i1 then i2 else i1)))))])
    refine own_seg C S715 [(141, .dstore 8, 2), (143, .aload 7, 2)] (by decide +kernel) 145 #[.val (.int i0), .val (.int i1), .val (.int i2), .val (.int i3), .val (.int i4), .val (.int 4), .val (.ref a658), .val (.ref a690), .val (.double (FP.i2d (if i4 < (if i3 < (if i2 < i1 then i2 else i1) then i3 else (if i2 < i1 then i2 else i1)) then i4 else (if i3 < (if i2 < i1 then i2 else i1) then i3 else (if i2 < i1 then i2 else i1))))), .second, .unset, .unset, .unset, .unset] [(.ref a690)] rfl ?_
    refine own_callV C S715 (own_wd hw 32 rfl) (own_wd hw 33 rfl) (own_wd hw 35 rfl) (own_wd hw 35 rfl) rfl (own_wd hw 34 rfl) (by decide) (own_Met.pay (own_gh l Z a0 hw a690 (FP.i2d (if (if (if i1 < i2 then i2 else i1) < i3 then i3 else (if i1 < i2 then i2 else i1)) < i4 then i4 else (if (if i1 < i2 then i2 else i1) < i3 then i3 else (if i1 < i2 then i2 else i1)))) h698 n0 f702 f695) C 0 (own_wd hw 36 rfl) (own_wd hw 4 rfl) (by decide) (by decide)) (fun _ _ _ q => q.2) f693 [] [] rfl own_pd5 rfl rfl rfl (Nat.le_of_ble_eq_true rfl) (by decide) (by decide) (by decide +kernel) ?_
    rintro T717 h718 v719 L720 S721 ⟨⟨rfl, e716⟩, -⟩
    rw [e716] at S721; clear e716
    show own_Go p e below _ T717 (mkF m 148 #[.val (.int i0), .val (.int i1), .val (.int i2), .val (.int i3), .val (.int i4), .val (.int 4), .val (.ref a658), .val (.ref a690), .val (.double (FP.i2d (if i4 < (if i3 < (if i2 < i1 then i2 else i1) then i3 else (if i2 < i1 then i2 else i1)) then i4 else (if i3 < (if i2 < i1 then i2 else i1) then i3 else (if i2 < i1 then i2 else i1))))), .second, .unset, .unset, .unset, .unset] [(.double (FP.i2d (if (if (if i1 < i2 then i2 else i1) < i3 then i3 else (if i1 < i2 then i2 else i1)) < i4 then i4 else (if (if i1 < i2 then i2 else i1) < i3 then i3 else (if i1 < i2 then i2 else i1)))))])
    refine own_seg C S721 [(148, .dstore 10, 2), (150, .iload 5, 2)] (by decide +kernel) 152 #[.val (.int i0), .val (.int i1), .val (.int i2), .val (.int i3), .val (.int i4), .val (.int 4), .val (.ref a658), .val (.ref a690), .val (.double (FP.i2d (if i4 < (if i3 < (if i2 < i1 then i2 else i1) then i3 else (if i2 < i1 then i2 else i1)) then i4 else (if i3 < (if i2 < i1 then i2 else i1) then i3 else (if i2 < i1 then i2 else i1))))), .second, .val (.double (FP.i2d (if (if (if i1 < i2 then i2 else i1) < i3 then i3 else (if i1 < i2 then i2 else i1)) < i4 then i4 else (if (if i1 < i2 then i2 else i1) < i3 then i3 else (if i1 < i2 then i2 else i1))))), .second, .unset, .unset] [(.int 4)] rfl ?_
    refine own_if C S721 (q := .ne) (o := 25) (by decide +kernel) 177 (by decide) (by decide) (fun (q722 : ¬ (4 : Int32) = (0 : Int32)) => ?_) (fun (hq : (4 : Int32) = (0 : Int32)) => False.elim (by revert hq; decide))
    refine own_seg C S721 [(177, .iload_n 1, 1), (178, .istore 12, 2), (180, .iload_n 1, 1), (181, .istore 13, 2), (183, .iload 5, 2), (185, .iconst 2, 1)] (by decide +kernel) 186 #[.val (.int i0), .val (.int i1), .val (.int i2), .val (.int i3), .val (.int i4), .val (.int 4), .val (.ref a658), .val (.ref a690), .val (.double (FP.i2d (if i4 < (if i3 < (if i2 < i1 then i2 else i1) then i3 else (if i2 < i1 then i2 else i1)) then i4 else (if i3 < (if i2 < i1 then i2 else i1) then i3 else (if i2 < i1 then i2 else i1))))), .second, .val (.double (FP.i2d (if (if (if i1 < i2 then i2 else i1) < i3 then i3 else (if i1 < i2 then i2 else i1)) < i4 then i4 else (if (if i1 < i2 then i2 else i1) < i3 then i3 else (if i1 < i2 then i2 else i1))))), .second, .val (.int i1), .val (.int i1)] [(.int 2), (.int 4)] rfl ?_
    refine own_icmp C S721 (q := .lt) (o := 19) (by decide +kernel) 205 (by decide) (by decide) (fun (hq : (4 : Int32) < (2 : Int32)) => False.elim (by revert hq; decide)) (fun (q723 : ¬ (4 : Int32) < (2 : Int32)) => ?_)
    refine own_seg C S721 [(189, .iload 12, 2), (191, .iload_n 2, 1)] (by decide +kernel) 192 #[.val (.int i0), .val (.int i1), .val (.int i2), .val (.int i3), .val (.int i4), .val (.int 4), .val (.ref a658), .val (.ref a690), .val (.double (FP.i2d (if i4 < (if i3 < (if i2 < i1 then i2 else i1) then i3 else (if i2 < i1 then i2 else i1)) then i4 else (if i3 < (if i2 < i1 then i2 else i1) then i3 else (if i2 < i1 then i2 else i1))))), .second, .val (.double (FP.i2d (if (if (if i1 < i2 then i2 else i1) < i3 then i3 else (if i1 < i2 then i2 else i1)) < i4 then i4 else (if (if i1 < i2 then i2 else i1) < i3 then i3 else (if i1 < i2 then i2 else i1))))), .second, .val (.int i1), .val (.int i1)] [(.int i2), (.int i1)] rfl ?_
    refine own_callS C S721 (own_wd hw 56 rfl) (own_wd hw 57 rfl) (own_wd hw 51 rfl) (own_wd hw 58 rfl) (by decide) (own_Met.pay (own_min l Z a0 hw i1 i2 h698 n0 f702) C 0 (own_wd hw 58 rfl) (own_wd hw 51 rfl) (by decide) (by decide)) (fun _ _ _ q => q.2) [(.int i1), (.int i2)] [] rfl own_pd6 rfl rfl rfl (Nat.le_of_ble_eq_true rfl) (by decide) (by decide) (by decide +kernel) ?_
    rintro T725 h726 v727 L728 S729 ⟨⟨rfl, e724⟩, -⟩
    rw [e724] at S729; clear e724
    show own_Go p e below _ T725 (mkF m 195 #[.val (.int i0), .val (.int i1), .val (.int i2), .val (.int i3), .val (.int i4), .val (.int 4), .val (.ref a658), .val (.ref a690), .val (.double (FP.i2d (if i4 < (if i3 < (if i2 < i1 then i2 else i1) then i3 else (if i2 < i1 then i2 else i1)) then i4 else (if i3 < (if i2 < i1 then i2 else i1) then i3 else (if i2 < i1 then i2 else i1))))), .second, .val (.double (FP.i2d (if (if (if i1 < i2 then i2 else i1) < i3 then i3 else (if i1 < i2 then i2 else i1)) < i4 then i4 else (if (if i1 < i2 then i2 else i1) < i3 then i3 else (if i1 < i2 then i2 else i1))))), .second, .val (.int i1), .val (.int i1)] [(.int (if i2 < i1 then i2 else i1))])
    refine own_seg C S729 [(195, .istore 12, 2), (197, .iload 13, 2), (199, .iload_n 2, 1)] (by decide +kernel) 200 #[.val (.int i0), .val (.int i1), .val (.int i2), .val (.int i3), .val (.int i4), .val (.int 4), .val (.ref a658), .val (.ref a690), .val (.double (FP.i2d (if i4 < (if i3 < (if i2 < i1 then i2 else i1) then i3 else (if i2 < i1 then i2 else i1)) then i4 else (if i3 < (if i2 < i1 then i2 else i1) then i3 else (if i2 < i1 then i2 else i1))))), .second, .val (.double (FP.i2d (if (if (if i1 < i2 then i2 else i1) < i3 then i3 else (if i1 < i2 then i2 else i1)) < i4 then i4 else (if (if i1 < i2 then i2 else i1) < i3 then i3 else (if i1 < i2 then i2 else i1))))), .second, .val (.int (if i2 < i1 then i2 else i1)), .val (.int i1)] [(.int i2), (.int i1)] rfl ?_
    refine own_callS C S729 (own_wd hw 59 rfl) (own_wd hw 60 rfl) (own_wd hw 51 rfl) (own_wd hw 61 rfl) (by decide) (own_Met.pay (own_max l Z a0 hw i1 i2 h698 n0 f702) C 0 (own_wd hw 61 rfl) (own_wd hw 51 rfl) (by decide) (by decide)) (fun _ _ _ q => q.2) [(.int i1), (.int i2)] [] rfl own_pd6 rfl rfl rfl (Nat.le_of_ble_eq_true rfl) (by decide) (by decide) (by decide +kernel) ?_
    rintro T731 h732 v733 L734 S735 ⟨⟨rfl, e730⟩, -⟩
    rw [e730] at S735; clear e730
    show own_Go p e below _ T731 (mkF m 203 #[.val (.int i0), .val (.int i1), .val (.int i2), .val (.int i3), .val (.int i4), .val (.int 4), .val (.ref a658), .val (.ref a690), .val (.double (FP.i2d (if i4 < (if i3 < (if i2 < i1 then i2 else i1) then i3 else (if i2 < i1 then i2 else i1)) then i4 else (if i3 < (if i2 < i1 then i2 else i1) then i3 else (if i2 < i1 then i2 else i1))))), .second, .val (.double (FP.i2d (if (if (if i1 < i2 then i2 else i1) < i3 then i3 else (if i1 < i2 then i2 else i1)) < i4 then i4 else (if (if i1 < i2 then i2 else i1) < i3 then i3 else (if i1 < i2 then i2 else i1))))), .second, .val (.int (if i2 < i1 then i2 else i1)), .val (.int i1)] [(.int (if i1 < i2 then i2 else i1))])
    refine own_seg C S735 [(203, .istore 13, 2), (205, .iload 5, 2), (207, .iconst 3, 1)] (by decide +kernel) 208 #[.val (.int i0), .val (.int i1), .val (.int i2), .val (.int i3), .val (.int i4), .val (.int 4), .val (.ref a658), .val (.ref a690), .val (.double (FP.i2d (if i4 < (if i3 < (if i2 < i1 then i2 else i1) then i3 else (if i2 < i1 then i2 else i1)) then i4 else (if i3 < (if i2 < i1 then i2 else i1) then i3 else (if i2 < i1 then i2 else i1))))), .second, .val (.double (FP.i2d (if (if (if i1 < i2 then i2 else i1) < i3 then i3 else (if i1 < i2 then i2 else i1)) < i4 then i4 else (if (if i1 < i2 then i2 else i1) < i3 then i3 else (if i1 < i2 then i2 else i1))))), .second, .val (.int (if i2 < i1 then i2 else i1)), .val (.int (if i1 < i2 then i2 else i1))] [(.int 3), (.int 4)] rfl ?_
    refine own_icmp C S735 (q := .lt) (o := 19) (by decide +kernel) 227 (by decide) (by decide) (fun (hq : (4 : Int32) < (3 : Int32)) => False.elim (by revert hq; decide)) (fun (q736 : ¬ (4 : Int32) < (3 : Int32)) => ?_)
    refine own_seg C S735 [(211, .iload 12, 2), (213, .iload_n 3, 1)] (by decide +kernel) 214 #[.val (.int i0), .val (.int i1), .val (.int i2), .val (.int i3), .val (.int i4), .val (.int 4), .val (.ref a658), .val (.ref a690), .val (.double (FP.i2d (if i4 < (if i3 < (if i2 < i1 then i2 else i1) then i3 else (if i2 < i1 then i2 else i1)) then i4 else (if i3 < (if i2 < i1 then i2 else i1) then i3 else (if i2 < i1 then i2 else i1))))), .second, .val (.double (FP.i2d (if (if (if i1 < i2 then i2 else i1) < i3 then i3 else (if i1 < i2 then i2 else i1)) < i4 then i4 else (if (if i1 < i2 then i2 else i1) < i3 then i3 else (if i1 < i2 then i2 else i1))))), .second, .val (.int (if i2 < i1 then i2 else i1)), .val (.int (if i1 < i2 then i2 else i1))] [(.int i3), (.int (if i2 < i1 then i2 else i1))] rfl ?_
    refine own_callS C S735 (own_wd hw 56 rfl) (own_wd hw 57 rfl) (own_wd hw 51 rfl) (own_wd hw 58 rfl) (by decide) (own_Met.pay (own_min l Z a0 hw (if i2 < i1 then i2 else i1) i3 h698 n0 f702) C 0 (own_wd hw 58 rfl) (own_wd hw 51 rfl) (by decide) (by decide)) (fun _ _ _ q => q.2) [(.int (if i2 < i1 then i2 else i1)), (.int i3)] [] rfl own_pd6 rfl rfl rfl (Nat.le_of_ble_eq_true rfl) (by decide) (by decide) (by decide +kernel) ?_
    rintro T738 h739 v740 L741 S742 ⟨⟨rfl, e737⟩, -⟩
    rw [e737] at S742; clear e737
    show own_Go p e below _ T738 (mkF m 217 #[.val (.int i0), .val (.int i1), .val (.int i2), .val (.int i3), .val (.int i4), .val (.int 4), .val (.ref a658), .val (.ref a690), .val (.double (FP.i2d (if i4 < (if i3 < (if i2 < i1 then i2 else i1) then i3 else (if i2 < i1 then i2 else i1)) then i4 else (if i3 < (if i2 < i1 then i2 else i1) then i3 else (if i2 < i1 then i2 else i1))))), .second, .val (.double (FP.i2d (if (if (if i1 < i2 then i2 else i1) < i3 then i3 else (if i1 < i2 then i2 else i1)) < i4 then i4 else (if (if i1 < i2 then i2 else i1) < i3 then i3 else (if i1 < i2 then i2 else i1))))), .second, .val (.int (if i2 < i1 then i2 else i1)), .val (.int (if i1 < i2 then i2 else i1))] [(.int (if i3 < (if i2 < i1 then i2 else i1) then i3 else (if i2 < i1 then i2 else i1)))])
    refine own_seg C S742 [(217, .istore 12, 2), (219, .iload 13, 2), (221, .iload_n 3, 1)] (by decide +kernel) 222 #[.val (.int i0), .val (.int i1), .val (.int i2), .val (.int i3), .val (.int i4), .val (.int 4), .val (.ref a658), .val (.ref a690), .val (.double (FP.i2d (if i4 < (if i3 < (if i2 < i1 then i2 else i1) then i3 else (if i2 < i1 then i2 else i1)) then i4 else (if i3 < (if i2 < i1 then i2 else i1) then i3 else (if i2 < i1 then i2 else i1))))), .second, .val (.double (FP.i2d (if (if (if i1 < i2 then i2 else i1) < i3 then i3 else (if i1 < i2 then i2 else i1)) < i4 then i4 else (if (if i1 < i2 then i2 else i1) < i3 then i3 else (if i1 < i2 then i2 else i1))))), .second, .val (.int (if i3 < (if i2 < i1 then i2 else i1) then i3 else (if i2 < i1 then i2 else i1))), .val (.int (if i1 < i2 then i2 else i1))] [(.int i3), (.int (if i1 < i2 then i2 else i1))] rfl ?_
    refine own_callS C S742 (own_wd hw 59 rfl) (own_wd hw 60 rfl) (own_wd hw 51 rfl) (own_wd hw 61 rfl) (by decide) (own_Met.pay (own_max l Z a0 hw (if i1 < i2 then i2 else i1) i3 h698 n0 f702) C 0 (own_wd hw 61 rfl) (own_wd hw 51 rfl) (by decide) (by decide)) (fun _ _ _ q => q.2) [(.int (if i1 < i2 then i2 else i1)), (.int i3)] [] rfl own_pd6 rfl rfl rfl (Nat.le_of_ble_eq_true rfl) (by decide) (by decide) (by decide +kernel) ?_
    rintro T744 h745 v746 L747 S748 ⟨⟨rfl, e743⟩, -⟩
    rw [e743] at S748; clear e743
    show own_Go p e below _ T744 (mkF m 225 #[.val (.int i0), .val (.int i1), .val (.int i2), .val (.int i3), .val (.int i4), .val (.int 4), .val (.ref a658), .val (.ref a690), .val (.double (FP.i2d (if i4 < (if i3 < (if i2 < i1 then i2 else i1) then i3 else (if i2 < i1 then i2 else i1)) then i4 else (if i3 < (if i2 < i1 then i2 else i1) then i3 else (if i2 < i1 then i2 else i1))))), .second, .val (.double (FP.i2d (if (if (if i1 < i2 then i2 else i1) < i3 then i3 else (if i1 < i2 then i2 else i1)) < i4 then i4 else (if (if i1 < i2 then i2 else i1) < i3 then i3 else (if i1 < i2 then i2 else i1))))), .second, .val (.int (if i3 < (if i2 < i1 then i2 else i1) then i3 else (if i2 < i1 then i2 else i1))), .val (.int (if i1 < i2 then i2 else i1))] [(.int (if (if i1 < i2 then i2 else i1) < i3 then i3 else (if i1 < i2 then i2 else i1)))])
    refine own_seg C S748 [(225, .istore 13, 2), (227, .iload 5, 2), (229, .iconst 4, 1)] (by decide +kernel) 230 #[.val (.int i0), .val (.int i1), .val (.int i2), .val (.int i3), .val (.int i4), .val (.int 4), .val (.ref a658), .val (.ref a690), .val (.double (FP.i2d (if i4 < (if i3 < (if i2 < i1 then i2 else i1) then i3 else (if i2 < i1 then i2 else i1)) then i4 else (if i3 < (if i2 < i1 then i2 else i1) then i3 else (if i2 < i1 then i2 else i1))))), .second, .val (.double (FP.i2d (if (if (if i1 < i2 then i2 else i1) < i3 then i3 else (if i1 < i2 then i2 else i1)) < i4 then i4 else (if (if i1 < i2 then i2 else i1) < i3 then i3 else (if i1 < i2 then i2 else i1))))), .second, .val (.int (if i3 < (if i2 < i1 then i2 else i1) then i3 else (if i2 < i1 then i2 else i1))), .val (.int (if (if i1 < i2 then i2 else i1) < i3 then i3 else (if i1 < i2 then i2 else i1)))] [(.int 4), (.int 4)] rfl ?_
    refine own_icmp C S748 (q := .lt) (o := 21) (by decide +kernel) 251 (by decide) (by decide) (fun (hq : (4 : Int32) < (4 : Int32)) => False.elim (by revert hq; decide)) (fun (q749 : ¬ (4 : Int32) < (4 : Int32)) => ?_)
    refine own_seg C S748 [(233, .iload 12, 2), (235, .iload 4, 2)] (by decide +kernel) 237 #[.val (.int i0), .val (.int i1), .val (.int i2), .val (.int i3), .val (.int i4), .val (.int 4), .val (.ref a658), .val (.ref a690), .val (.double (FP.i2d (if i4 < (if i3 < (if i2 < i1 then i2 else i1) then i3 else (if i2 < i1 then i2 else i1)) then i4 else (if i3 < (if i2 < i1 then i2 else i1) then i3 else (if i2 < i1 then i2 else i1))))), .second, .val (.double (FP.i2d (if (if (if i1 < i2 then i2 else i1) < i3 then i3 else (if i1 < i2 then i2 else i1)) < i4 then i4 else (if (if i1 < i2 then i2 else i1) < i3 then i3 else (if i1 < i2 then i2 else i1))))), .second, .val (.int (if i3 < (if i2 < i1 then i2 else i1) then i3 else (if i2 < i1 then i2 else i1))), .val (.int (if (if i1 < i2 then i2 else i1) < i3 then i3 else (if i1 < i2 then i2 else i1)))] [(.int i4), (.int (if i3 < (if i2 < i1 then i2 else i1) then i3 else (if i2 < i1 then i2 else i1)))] rfl ?_
    refine own_callS C S748 (own_wd hw 56 rfl) (own_wd hw 57 rfl) (own_wd hw 51 rfl) (own_wd hw 58 rfl) (by decide) (own_Met.pay (own_min l Z a0 hw (if i3 < (if i2 < i1 then i2 else i1) then i3 else (if i2 < i1 then i2 else i1)) i4 h698 n0 f702) C 0 (own_wd hw 58 rfl) (own_wd hw 51 rfl) (by decide) (by decide)) (fun _ _ _ q => q.2) [(.int (if i3 < (if i2 < i1 then i2 else i1) then i3 else (if i2 < i1 then i2 else i1))), (.int i4)] [] rfl own_pd6 rfl rfl rfl (Nat.le_of_ble_eq_true rfl) (by decide) (by decide) (by decide +kernel) ?_
    rintro T751 h752 v753 L754 S755 ⟨⟨rfl, e750⟩, -⟩
    rw [e750] at S755; clear e750
    show own_Go p e below _ T751 (mkF m 240 #[.val (.int i0), .val (.int i1), .val (.int i2), .val (.int i3), .val (.int i4), .val (.int 4), .val (.ref a658), .val (.ref a690), .val (.double (FP.i2d (if i4 < (if i3 < (if i2 < i1 then i2 else i1) then i3 else (if i2 < i1 then i2 else i1)) then i4 else (if i3 < (if i2 < i1 then i2 else i1) then i3 else (if i2 < i1 then i2 else i1))))), .second, .val (.double (FP.i2d (if (if (if i1 < i2 then i2 else i1) < i3 then i3 else (if i1 < i2 then i2 else i1)) < i4 then i4 else (if (if i1 < i2 then i2 else i1) < i3 then i3 else (if i1 < i2 then i2 else i1))))), .second, .val (.int (if i3 < (if i2 < i1 then i2 else i1) then i3 else (if i2 < i1 then i2 else i1))), .val (.int (if (if i1 < i2 then i2 else i1) < i3 then i3 else (if i1 < i2 then i2 else i1)))] [(.int (if i4 < (if i3 < (if i2 < i1 then i2 else i1) then i3 else (if i2 < i1 then i2 else i1)) then i4 else (if i3 < (if i2 < i1 then i2 else i1) then i3 else (if i2 < i1 then i2 else i1))))])
    refine own_seg C S755 [(240, .istore 12, 2), (242, .iload 13, 2), (244, .iload 4, 2)] (by decide +kernel) 246 #[.val (.int i0), .val (.int i1), .val (.int i2), .val (.int i3), .val (.int i4), .val (.int 4), .val (.ref a658), .val (.ref a690), .val (.double (FP.i2d (if i4 < (if i3 < (if i2 < i1 then i2 else i1) then i3 else (if i2 < i1 then i2 else i1)) then i4 else (if i3 < (if i2 < i1 then i2 else i1) then i3 else (if i2 < i1 then i2 else i1))))), .second, .val (.double (FP.i2d (if (if (if i1 < i2 then i2 else i1) < i3 then i3 else (if i1 < i2 then i2 else i1)) < i4 then i4 else (if (if i1 < i2 then i2 else i1) < i3 then i3 else (if i1 < i2 then i2 else i1))))), .second, .val (.int (if i4 < (if i3 < (if i2 < i1 then i2 else i1) then i3 else (if i2 < i1 then i2 else i1)) then i4 else (if i3 < (if i2 < i1 then i2 else i1) then i3 else (if i2 < i1 then i2 else i1)))), .val (.int (if (if i1 < i2 then i2 else i1) < i3 then i3 else (if i1 < i2 then i2 else i1)))] [(.int i4), (.int (if (if i1 < i2 then i2 else i1) < i3 then i3 else (if i1 < i2 then i2 else i1)))] rfl ?_
    refine own_callS C S755 (own_wd hw 59 rfl) (own_wd hw 60 rfl) (own_wd hw 51 rfl) (own_wd hw 61 rfl) (by decide) (own_Met.pay (own_max l Z a0 hw (if (if i1 < i2 then i2 else i1) < i3 then i3 else (if i1 < i2 then i2 else i1)) i4 h698 n0 f702) C 0 (own_wd hw 61 rfl) (own_wd hw 51 rfl) (by decide) (by decide)) (fun _ _ _ q => q.2) [(.int (if (if i1 < i2 then i2 else i1) < i3 then i3 else (if i1 < i2 then i2 else i1))), (.int i4)] [] rfl own_pd6 rfl rfl rfl (Nat.le_of_ble_eq_true rfl) (by decide) (by decide) (by decide +kernel) ?_
    rintro T757 h758 v759 L760 S761 ⟨⟨rfl, e756⟩, -⟩
    rw [e756] at S761; clear e756
    show own_Go p e below _ T757 (mkF m 249 #[.val (.int i0), .val (.int i1), .val (.int i2), .val (.int i3), .val (.int i4), .val (.int 4), .val (.ref a658), .val (.ref a690), .val (.double (FP.i2d (if i4 < (if i3 < (if i2 < i1 then i2 else i1) then i3 else (if i2 < i1 then i2 else i1)) then i4 else (if i3 < (if i2 < i1 then i2 else i1) then i3 else (if i2 < i1 then i2 else i1))))), .second, .val (.double (FP.i2d (if (if (if i1 < i2 then i2 else i1) < i3 then i3 else (if i1 < i2 then i2 else i1)) < i4 then i4 else (if (if i1 < i2 then i2 else i1) < i3 then i3 else (if i1 < i2 then i2 else i1))))), .second, .val (.int (if i4 < (if i3 < (if i2 < i1 then i2 else i1) then i3 else (if i2 < i1 then i2 else i1)) then i4 else (if i3 < (if i2 < i1 then i2 else i1) then i3 else (if i2 < i1 then i2 else i1)))), .val (.int (if (if i1 < i2 then i2 else i1) < i3 then i3 else (if i1 < i2 then i2 else i1)))] [(.int (if (if (if i1 < i2 then i2 else i1) < i3 then i3 else (if i1 < i2 then i2 else i1)) < i4 then i4 else (if (if i1 < i2 then i2 else i1) < i3 then i3 else (if i1 < i2 then i2 else i1))))])
    refine own_seg C S761 [(249, .istore 13, 2), (251, .dload 8, 2), (253, .iload 12, 2), (255, .i2d, 1)] (by decide +kernel) 256 #[.val (.int i0), .val (.int i1), .val (.int i2), .val (.int i3), .val (.int i4), .val (.int 4), .val (.ref a658), .val (.ref a690), .val (.double (FP.i2d (if i4 < (if i3 < (if i2 < i1 then i2 else i1) then i3 else (if i2 < i1 then i2 else i1)) then i4 else (if i3 < (if i2 < i1 then i2 else i1) then i3 else (if i2 < i1 then i2 else i1))))), .second, .val (.double (FP.i2d (if (if (if i1 < i2 then i2 else i1) < i3 then i3 else (if i1 < i2 then i2 else i1)) < i4 then i4 else (if (if i1 < i2 then i2 else i1) < i3 then i3 else (if i1 < i2 then i2 else i1))))), .second, .val (.int (if i4 < (if i3 < (if i2 < i1 then i2 else i1) then i3 else (if i2 < i1 then i2 else i1)) then i4 else (if i3 < (if i2 < i1 then i2 else i1) then i3 else (if i2 < i1 then i2 else i1)))), .val (.int (if (if (if i1 < i2 then i2 else i1) < i3 then i3 else (if i1 < i2 then i2 else i1)) < i4 then i4 else (if (if i1 < i2 then i2 else i1) < i3 then i3 else (if i1 < i2 then i2 else i1))))] [(.double (FP.i2d (if i4 < (if i3 < (if i2 < i1 then i2 else i1) then i3 else (if i2 < i1 then i2 else i1)) then i4 else (if i3 < (if i2 < i1 then i2 else i1) then i3 else (if i2 < i1 then i2 else i1))))), (.double (FP.i2d (if i4 < (if i3 < (if i2 < i1 then i2 else i1) then i3 else (if i2 < i1 then i2 else i1)) then i4 else (if i3 < (if i2 < i1 then i2 else i1) then i3 else (if i2 < i1 then i2 else i1)))))] rfl ?_
    refine own_dcmp C S761 (o := .l) (0 : Int32) (by decide +kernel) (dcmpV_self (Jvm.Free.Fl.i2d_fin _).noNaN _) ?_
    refine own_if C S761 (q := .ne) (o := 16) (by decide +kernel) 273 (by decide) (by decide) (fun (hq : ¬ (0 : Int32) = (0 : Int32)) => False.elim (by revert hq; decide)) (fun (q762 : (0 : Int32) = (0 : Int32)) => ?_)
    refine own_seg C S761 [(260, .dload 10, 2), (262, .iload 13, 2), (264, .i2d, 1)] (by decide +kernel) 265 #[.val (.int i0), .val (.int i1), .val (.int i2), .val (.int i3), .val (.int i4), .val (.int 4), .val (.ref a658), .val (.ref a690), .val (.double (FP.i2d (if i4 < (if i3 < (if i2 < i1 then i2 else i1) then i3 else (if i2 < i1 then i2 else i1)) then i4 else (if i3 < (if i2 < i1 then i2 else i1) then i3 else (if i2 < i1 then i2 else i1))))), .second, .val (.double (FP.i2d (if (if (if i1 < i2 then i2 else i1) < i3 then i3 else (if i1 < i2 then i2 else i1)) < i4 then i4 else (if (if i1 < i2 then i2 else i1) < i3 then i3 else (if i1 < i2 then i2 else i1))))), .second, .val (.int (if i4 < (if i3 < (if i2 < i1 then i2 else i1) then i3 else (if i2 < i1 then i2 else i1)) then i4 else (if i3 < (if i2 < i1 then i2 else i1) then i3 else (if i2 < i1 then i2 else i1)))), .val (.int (if (if (if i1 < i2 then i2 else i1) < i3 then i3 else (if i1 < i2 then i2 else i1)) < i4 then i4 else (if (if i1 < i2 then i2 else i1) < i3 then i3 else (if i1 < i2 then i2 else i1))))] [(.double (FP.i2d (if (if (if i1 < i2 then i2 else i1) < i3 then i3 else (if i1 < i2 then i2 else i1)) < i4 then i4 else (if (if i1 < i2 then i2 else i1) < i3 then i3 else (if i1 < i2 then i2 else i1))))), (.double (FP.i2d (if (if (if i1 < i2 then i2 else i1) < i3 then i3 else (if i1 < i2 then i2 else i1)) < i4 then i4 else (if (if i1 < i2 then i2 else i1) < i3 then i3 else (if i1 < i2 then i2 else i1)))))] rfl ?_
    refine own_dcmp C S761 (o := .l) (0 : Int32) (by decide +kernel) (dcmpV_self (Jvm.Free.Fl.i2d_fin _).noNaN _) ?_
    refine own_if C S761 (q := .ne) (o := 7) (by decide +kernel) 273 (by decide) (by decide) (fun (hq : ¬ (0 : Int32) = (0 : Int32)) => False.elim (by revert hq; decide)) (fun (q763 : (0 : Int32) = (0 : Int32)) => ?_)
    refine own_seg C S761 [(269, .iconst 1, 1), (270, .goto 4, 3)] (by decide +kernel) 274 #[.val (.int i0), .val (.int i1), .val (.int i2), .val (.int i3), .val (.int i4), .val (.int 4), .val (.ref a658), .val (.ref a690), .val (.double (FP.i2d (if i4 < (if i3 < (if i2 < i1 then i2 else i1) then i3 else (if i2 < i1 then i2 else i1)) then i4 else (if i3 < (if i2 < i1 then i2 else i1) then i3 else (if i2 < i1 then i2 else i1))))), .second, .val (.double (FP.i2d (if (if (if i1 < i2 then i2 else i1) < i3 then i3 else (if i1 < i2 then i2 else i1)) < i4 then i4 else (if (if i1 < i2 then i2 else i1) < i3 then i3 else (if i1 < i2 then i2 else i1))))), .second, .val (.int (if i4 < (if i3 < (if i2 < i1 then i2 else i1) then i3 else (if i2 < i1 then i2 else i1)) then i4 else (if i3 < (if i2 < i1 then i2 else i1) then i3 else (if i2 < i1 then i2 else i1)))), .val (.int (if (if (if i1 < i2 then i2 else i1) < i3 then i3 else (if i1 < i2 then i2 else i1)) < i4 then i4 else (if (if i1 < i2 then i2 else i1) < i3 then i3 else (if i1 < i2 then i2 else i1))))] [(.int 1)] rfl ?_
    refine own_retZ C S761 (by decide +kernel) (by decide) (by decide) (by decide) ?_
    rfl
theorem comes_1 {Post : Tables → Env → Array Value → State → Outcome → State → Prop} (hpost : ∀ tb e args s v u, (limb_1_1.after args s (.returned v) u = true ∧ limb_1_2.after args s (.returned v) u = true ∧ True) → FrameEnd s (.returned v) u (Jvm.fieldLocs frame_1_writes args s ++ Jvm.arrayLocs frame_1_arrays args s ++ Jvm.staticLocs frame_1_statics s) 16 128 → Post tb e args s (.returned v) u) :
    ArmFor flags0 classFile x code maxLocals ret World_1 tables_1 room_1 Calls_1 rest_1 Pre_1 Post := by
  intro l hfl _ _ p e ha hc hk s m args below hf hA hF happ hP
  obtain ⟨hcalls, hrest, hpre⟩ := hP
  obtain ⟨-, -, -, hnamed, -, -, -, hat⟩ := (Spec.applies_iff hf).mp happ
  obtain ⟨hg, hn⟩ := and_e (Cond.before_iff.mp (show (Jvm.Cond.and given_1 narrow_1).before args s = true from hpre))
  obtain ⟨hcount, hk0⟩ := and_e hg
  obtain ⟨ha0, hk1⟩ := and_e hk0
  obtain ⟨ha1, hk2⟩ := and_e hk1
  obtain ⟨ha2, hk3⟩ := and_e hk2
  obtain ⟨ha3, hk4⟩ := and_e hk3
  obtain ⟨w0, w1, w2, w3, w4, rfl⟩ : ∃ w0 w1 w2 w3 w4 : Value, args = #[w0, w1, w2, w3, w4] := by
    have hs : args.size = 5 := by simpa [Cond.value, given_1] using hcount
    obtain ⟨L⟩ := args
    match L, hs with
    | [w0, w1, w2, w3, w4], _ => exact ⟨w0, w1, w2, w3, w4, rfl⟩
  have hw := fun d (hd : d ∈ tables_1) => atoms_spec (ws := Jvm.Cond.code x code maxLocals ret :: tables_1) hat d (List.mem_cons_of_mem _ hd)
  obtain ⟨i0, ei0⟩ := is_v ha0
  obtain rfl : w0 = (.int i0) := Option.some.inj ei0
  obtain ⟨i1, ei1⟩ := is_v ha1
  obtain rfl : w1 = (.int i1) := Option.some.inj ei1
  obtain ⟨i2, ei2⟩ := is_v ha2
  obtain rfl : w2 = (.int i2) := Option.some.inj ei2
  obtain ⟨i3, ei3⟩ := is_v ha3
  obtain rfl : w3 = (.int i3) := Option.some.inj ei3
  obtain ⟨i4, ei4⟩ := is_v hk4
  obtain rfl : w4 = (.int i4) := Option.some.inj ei4
  obtain ⟨n, o, g1, g2, g3, _, L, rfl, ⟨rfl, N⟩, hq⟩ := own_law l s _ hw i0 i1 i2 i3 i4 s.heap s.heap.size (Nat.le_refl _)  tables_1 p e ha hc hk s m _ below hf ((Spec.applies_iff_loose hf).mp happ).1 ⟨rfl, State.Warmed39.refl s, rfl⟩ trivial
  refine ⟨n, _, g1, g2, g3, hpost _ _ _ _ _ _ ⟨Cond.after_iff.mpr rfl, Cond.after_iff.mpr (eq_i res_at (Term.int_eval (1)) rfl), trivial⟩ ⟨hq.1, hq.2.1, (hq.2.2.sift fun y hy => Or.inr (N y hy)).mono (by decide) (by decide)⟩⟩
theorem main_1_1 : Claimed_1_1 := comes_1 fun _ _ _ _ _ _ h hF => ⟨h.1, hF⟩
theorem main_1_2 : Claimed_1_2 := comes_1 fun _ _ _ _ _ _ h hF => ⟨h.2.1, hF⟩
end Jvm.Pilot.@@N@@
namespace Jvm.Pilot.@@N@@
open Jvm Jvm.ClassFile Sem Op Lib Jvm.Free Jvm.Stand Jvm.Pilot.@@N@@.Jvm.D
/-! MADE BY PROGRAM (witnessworld.py) out of the Statement's table words and the real class files: 17 classes; the members and pool entries that the words name. The judged class is class 1, her method 3. -/
namespace start1
open Jvm.ClassFile
def u (s : String) : CpInfo := .utf8 (stringToUtf16 s)
/-- a pool by its gaps: so many unusable entries, then the entry; so many at the end -/
def gap : Nat → List CpInfo → List CpInfo
  | 0, r => r
  | n + 1, r => .unusable :: gap n r
def poolList (es : List (Nat × CpInfo)) (last : Nat) : List CpInfo := es.foldr (fun e r => gap e.1 (e.2 :: r)) (gap last [])
def pool (es : List (Nat × CpInfo)) (last : Nat) : Array CpInfo := ⟨poolList es last⟩
def fileOf (pool : Array CpInfo) (this : Nat) (attrs : Array Attribute := #[]) (ms : Array MethodInfo := #[]) (fl : Nat := 33) (sup : Nat := 0) (ifs : Array Nat := #[]) (fds : Array FieldInfo := #[]) : ClassFile where
  minorVersion := 0
  majorVersion := 65
  constantPool := pool
  accessFlags := fl
  thisClass := this
  superClass := sup
  interfaces := ifs
  fields := fds
  methods := ms
  attributes := attrs
def plain (name : String) (sup : Option ClassId) : Class where
  name := name
  kind := .ordinary
  loader := none
  accessFlags := 33
  super := sup
  interfaces := #[]
  cf := none
  fields := #[]
  methods := #[]
  instanceTypes := #[]
  staticTypes := #[]
  resolved := #[]
  callSites := []
  init := .initialized
  statics := none
  mirror := none

def pool0 : Array CpInfo := pool [(5, u "<init>"), (0, u "()V"), (1, .class_ 10), (1, u "java/lang/Object")] 113

def k0c0 : Code := { maxStack := 0, maxLocals := 1, code := object_method_1_code, exceptionTable := #[], attributes := #[] }
def k0m0 : Method := { name := "<init>", desc := "()V", sig := { parameters := [], returnType := none }, accessFlags := 1, code := some k0c0 }
/-- java/lang/Object -/
def k0 : Class := { plain "java/lang/Object" none with
  accessFlags := 33
  interfaces := #[]
  cf := some (fileOf pool0 8 #[] #[{ accessFlags := 1, nameIndex := 5, descriptorIndex := 6, attributes := #[] }] 33 0 #[] #[])
  fields := #[]
  methods := #[k0m0]
  instanceTypes := #[]
  staticTypes := #[]
  resolved := Array.replicate 124 none
  statics := none }

def pool1 : Array CpInfo := pool [(2, .class_ 4), (1, u "java/lang/Object"), (0, u "<init>"), (0, u "()V"), (0, .double 4611686018427387904), (1, .integer 2147483647), (0, .methodref 11 12), (0, .class_ 13), (0, .nameAndType 14 15), (0, u "com/example/persephone/persephone/ValueBounds"), (0, u "span"), (0, u "([D)Lcom/example/persephone/persephone/ValueBounds;"), (0, .methodref 11 17), (0, .nameAndType 18 19), (0, u "mayBeMissing"), (0, u "()Z"), (0, .methodref 11 21), (0, .nameAndType 22 23), (0, u "getLowest"), (0, u "()D"), (0, .methodref 11 25), (0, .nameAndType 26 23), (0, u "getHighest"), (0, .methodref 28 29), (0, .class_ 30), (0, .nameAndType 31 32), (0, u "com/example/persephone/persephone/ValueBoundsSpanPinLaw"), (0, u "isPosInf"), (0, u "(D)Z"), (0, .methodref 28 34), (0, .nameAndType 35 32), (0, u "isNegInf"), (0, .methodref 37 38), (0, .class_ 39), (0, .nameAndType 40 41), (0, u "java/lang/Math"), (0, u "min"), (0, u "(II)I"), (0, .methodref 37 43), (0, .nameAndType 44 41), (0, u "max"), (3, u "law"), (0, u "(IIIII)Z")] 4

def k1m0 : Method := { name := "<init>", desc := "()V", sig := { parameters := [], returnType := none }, accessFlags := 2, code := none }
def k1c1 : Code := { maxStack := 4, maxLocals := 2, code := method_2_code, exceptionTable := #[], attributes := #[] }
def k1m1 : Method := { name := "isPosInf", desc := "(D)Z", sig := { parameters := [.double], returnType := some .boolean }, accessFlags := 10, code := some k1c1 }
def k1c2 : Code := { maxStack := 4, maxLocals := 2, code := method_3_code, exceptionTable := #[], attributes := #[] }
def k1m2 : Method := { name := "isNegInf", desc := "(D)Z", sig := { parameters := [.double], returnType := some .boolean }, accessFlags := 10, code := some k1c2 }
def k1c3 : Code := { maxStack := 5, maxLocals := 14, code := code, exceptionTable := #[], attributes := #[] }
def k1m3 : Method := { name := "law", desc := "(IIIII)Z", sig := { parameters := [.int, .int, .int, .int, .int], returnType := some .boolean }, accessFlags := 9, code := some k1c3 }
/-- com/example/persephone/persephone/ValueBoundsSpanPinLaw -/
def k1 : Class := { plain "com/example/persephone/persephone/ValueBoundsSpanPinLaw" (some 0) with
  accessFlags := 49
  interfaces := #[]
  cf := some (fileOf pool1 28 #[] #[{ accessFlags := 2, nameIndex := 5, descriptorIndex := 6, attributes := #[] }, { accessFlags := 10, nameIndex := 31, descriptorIndex := 32, attributes := #[] }, { accessFlags := 10, nameIndex := 35, descriptorIndex := 32, attributes := #[] }, { accessFlags := 9, nameIndex := 48, descriptorIndex := 49, attributes := #[] }] 49 2 #[] #[])
  fields := #[]
  methods := #[k1m0, k1m1, k1m2, k1m3]
  instanceTypes := #[]
  staticTypes := #[]
  resolved := Array.replicate 54 none
  statics := none }

def pool2 : Array CpInfo := pool [(1, .methodref 2 3), (0, .class_ 4), (0, .nameAndType 5 6), (0, u "java/lang/Object"), (0, u "<init>"), (0, u "()V"), (0, .fieldref 8 9), (0, .class_ 10), (0, .nameAndType 11 12), (0, u "com/example/persephone/persephone/ValueBounds"), (0, u "lowest"), (0, u "D"), (0, .fieldref 8 14), (0, .nameAndType 15 12), (0, u "highest"), (0, .fieldref 8 17), (0, .nameAndType 18 19), (0, u "mayBeMissing"), (0, u "Z"), (0, .class_ 21), (0, u "java/lang/Double"), (0, .double 9218868437227405312), (1, .double 18442240474082181120), (10, .methodref 8 36), (0, .nameAndType 5 37), (0, u "(DDZ)V"), (0, .methodref 39 40), (0, .class_ 41), (0, .nameAndType 42 43), (0, u "java/lang/Math"), (0, u "min"), (0, u "(DD)D"), (0, .methodref 39 45), (0, .nameAndType 46 43), (0, u "max"), (2, u "MISSING"), (0, u "Lcom/example/persephone/persephone/ValueBounds;"), (3, u "(D)Z"), (6, u "span"), (0, u "([D)Lcom/example/persephone/persephone/ValueBounds;"), (2, u "UNBOUNDED"), (9, .methodref 20 76), (0, .nameAndType 77 54), (0, u "isNaN"), (18, u "()Z"), (6, u "TRUTH"), (7, u "getLowest"), (0, u "()D"), (0, u "getHighest")] 42

def k2c0 : Code := { maxStack := 3, maxLocals := 6, code := prog_14_method_1_code, exceptionTable := #[], attributes := #[] }
def k2m0 : Method := { name := "<init>", desc := "(DDZ)V", sig := { parameters := [.double, .double, .boolean], returnType := none }, accessFlags := 2, code := some k2c0 }
def k2c1 : Code := { maxStack := 2, maxLocals := 1, code := prog_14_method_4_code, exceptionTable := #[], attributes := #[] }
def k2m1 : Method := { name := "getLowest", desc := "()D", sig := { parameters := [], returnType := some .double }, accessFlags := 1, code := some k2c1 }
def k2c2 : Code := { maxStack := 2, maxLocals := 1, code := prog_14_method_5_code, exceptionTable := #[], attributes := #[] }
def k2m2 : Method := { name := "getHighest", desc := "()D", sig := { parameters := [], returnType := some .double }, accessFlags := 1, code := some k2c2 }
def k2c3 : Code := { maxStack := 1, maxLocals := 1, code := prog_14_method_6_code, exceptionTable := #[], attributes := #[] }
def k2m3 : Method := { name := "mayBeMissing", desc := "()Z", sig := { parameters := [], returnType := some .boolean }, accessFlags := 1, code := some k2c3 }
def k2c4 : Code := { maxStack := 7, maxLocals := 10, code := prog_14_method_21_code, exceptionTable := #[], attributes := #[] }
def k2m4 : Method := { name := "span", desc := "([D)Lcom/example/persephone/persephone/ValueBounds;", sig := { parameters := [(.array .double)], returnType := some (.object "com/example/persephone/persephone/ValueBounds") }, accessFlags := 136, code := some k2c4 }
/-- com/example/persephone/persephone/ValueBounds -/
def k2 : Class := { plain "com/example/persephone/persephone/ValueBounds" (some 0) with
  accessFlags := 49
  interfaces := #[]
  cf := some (fileOf pool2 8 #[] #[{ accessFlags := 2, nameIndex := 5, descriptorIndex := 37, attributes := #[] }, { accessFlags := 1, nameIndex := 111, descriptorIndex := 112, attributes := #[] }, { accessFlags := 1, nameIndex := 113, descriptorIndex := 112, attributes := #[] }, { accessFlags := 1, nameIndex := 18, descriptorIndex := 96, attributes := #[] }, { accessFlags := 136, nameIndex := 61, descriptorIndex := 62, attributes := #[] }] 49 2 #[] #[{ accessFlags := 25, nameIndex := 65, descriptorIndex := 50, attributes := #[] }, { accessFlags := 25, nameIndex := 49, descriptorIndex := 50, attributes := #[] }, { accessFlags := 24, nameIndex := 103, descriptorIndex := 50, attributes := #[] }, { accessFlags := 18, nameIndex := 11, descriptorIndex := 12, attributes := #[] }, { accessFlags := 18, nameIndex := 15, descriptorIndex := 12, attributes := #[] }, { accessFlags := 18, nameIndex := 18, descriptorIndex := 19, attributes := #[] }])
  fields := #[{ name := "UNBOUNDED", type := (.object "com/example/persephone/persephone/ValueBounds"), accessFlags := 25, slot := 0, constantValue := 0 }, { name := "MISSING", type := (.object "com/example/persephone/persephone/ValueBounds"), accessFlags := 25, slot := 1, constantValue := 0 }, { name := "TRUTH", type := (.object "com/example/persephone/persephone/ValueBounds"), accessFlags := 24, slot := 2, constantValue := 0 }, { name := "lowest", type := .double, accessFlags := 18, slot := 0, constantValue := 0 }, { name := "highest", type := .double, accessFlags := 18, slot := 1, constantValue := 0 }, { name := "mayBeMissing", type := .boolean, accessFlags := 18, slot := 2, constantValue := 0 }]
  methods := #[k2m0, k2m1, k2m2, k2m3, k2m4]
  instanceTypes := #[.double, .double, .boolean]
  staticTypes := #[(.object "com/example/persephone/persephone/ValueBounds"), (.object "com/example/persephone/persephone/ValueBounds"), (.object "com/example/persephone/persephone/ValueBounds")]
  resolved := Array.replicate 156 none
  statics := none }

def pool3 : Array CpInfo := pool [(1, .class_ 2), (0, u "java/io/Serializable"), (0, .class_ 4), (0, u "java/lang/Object")] 2

/-- java/io/Serializable -/
def k3 : Class := { plain "java/io/Serializable" (some 0) with
  accessFlags := 1537
  interfaces := #[]
  cf := some (fileOf pool3 1 #[] #[] 1537 3 #[] #[])
  fields := #[]
  methods := #[]
  instanceTypes := #[]
  staticTypes := #[]
  resolved := Array.replicate 7 none
  statics := none }

def pool4 : Array CpInfo := pool [(2, .class_ 4), (1, u "java/lang/Object"), (0, u "<init>"), (0, u "()V"), (1, .class_ 10), (1, u "java/lang/Number"), (2, .class_ 14), (0, u "java/io/Serializable"), (0, u "serialVersionUID"), (0, u "J")] 20

def k4m0 : Method := { name := "<init>", desc := "()V", sig := { parameters := [], returnType := none }, accessFlags := 1, code := none }
/-- java/lang/Number -/
def k4 : Class := { plain "java/lang/Number" (some 0) with
  accessFlags := 1057
  interfaces := #[3]
  cf := some (fileOf pool4 8 #[] #[{ accessFlags := 1, nameIndex := 5, descriptorIndex := 6, attributes := #[] }] 1057 2 #[13] #[{ accessFlags := 26, nameIndex := 15, descriptorIndex := 16, attributes := #[] }])
  fields := #[{ name := "serialVersionUID", type := .long, accessFlags := 26, slot := 0, constantValue := 0 }]
  methods := #[k4m0]
  instanceTypes := #[]
  staticTypes := #[.long]
  resolved := Array.replicate 37 none
  statics := none }

def pool5 : Array CpInfo := pool [(1, .class_ 2), (0, u "java/lang/Comparable"), (0, .class_ 4), (0, u "java/lang/Object")] 7

/-- java/lang/Comparable -/
def k5 : Class := { plain "java/lang/Comparable" (some 0) with
  accessFlags := 1537
  interfaces := #[]
  cf := some (fileOf pool5 1 #[] #[] 1537 3 #[] #[])
  fields := #[]
  methods := #[]
  instanceTypes := #[]
  staticTypes := #[]
  resolved := Array.replicate 12 none
  statics := none }

def pool6 : Array CpInfo := pool [(1, .class_ 2), (0, u "java/lang/constant/Constable"), (0, .class_ 4), (0, u "java/lang/Object")] 6

/-- java/lang/constant/Constable -/
def k6 : Class := { plain "java/lang/constant/Constable" (some 0) with
  accessFlags := 1537
  interfaces := #[]
  cf := some (fileOf pool6 1 #[] #[] 1537 3 #[] #[])
  fields := #[]
  methods := #[]
  instanceTypes := #[]
  staticTypes := #[]
  resolved := Array.replicate 11 none
  statics := none }

def pool7 : Array CpInfo := pool [(1, .class_ 2), (0, u "java/lang/constant/ConstantDesc"), (0, .class_ 4), (0, u "java/lang/Object")] 32

/-- java/lang/constant/ConstantDesc -/
def k7 : Class := { plain "java/lang/constant/ConstantDesc" (some 0) with
  accessFlags := 1537
  interfaces := #[]
  cf := some (fileOf pool7 1 #[] #[] 1537 3 #[] #[])
  fields := #[]
  methods := #[]
  instanceTypes := #[]
  staticTypes := #[]
  resolved := Array.replicate 37 none
  statics := none }

def pool8 : Array CpInfo := pool [(1, .class_ 2), (0, u "java/lang/Double"), (11, u "(D)Z"), (99, .class_ 116), (1, u "java/lang/Number"), (3, u "value"), (0, u "D"), (2, u "isNaN"), (48, u "TYPE"), (0, u "Ljava/lang/Class;"), (0, .class_ 176), (0, u "java/lang/Comparable"), (0, .class_ 178), (0, u "java/lang/constant/Constable"), (0, .class_ 180), (0, u "java/lang/constant/ConstantDesc"), (0, u "POSITIVE_INFINITY"), (3, u "NEGATIVE_INFINITY"), (2, u "NaN"), (2, u "MAX_VALUE"), (0, u "MIN_NORMAL"), (0, u "MIN_VALUE"), (2, u "SIZE"), (0, u "I"), (1, u "PRECISION"), (1, u "MAX_EXPONENT"), (1, u "MIN_EXPONENT"), (1, u "BYTES"), (3, u "serialVersionUID"), (0, u "J")] 79

def k8c0 : Code := { maxStack := 4, maxLocals := 2, code := jdk_117_method_6_code, exceptionTable := #[], attributes := #[] }
def k8m0 : Method := { name := "isNaN", desc := "(D)Z", sig := { parameters := [.double], returnType := some .boolean }, accessFlags := 9, code := some k8c0 }
/-- java/lang/Double -/
def k8 : Class := { plain "java/lang/Double" (some 4) with
  accessFlags := 49
  interfaces := #[5, 6, 7]
  cf := some (fileOf pool8 1 #[] #[{ accessFlags := 9, nameIndex := 124, descriptorIndex := 14, attributes := #[] }] 49 114 #[175, 177, 179] #[{ accessFlags := 25, nameIndex := 181, descriptorIndex := 121, attributes := #[] }, { accessFlags := 25, nameIndex := 185, descriptorIndex := 121, attributes := #[] }, { accessFlags := 25, nameIndex := 188, descriptorIndex := 121, attributes := #[] }, { accessFlags := 25, nameIndex := 191, descriptorIndex := 121, attributes := #[] }, { accessFlags := 25, nameIndex := 192, descriptorIndex := 121, attributes := #[] }, { accessFlags := 25, nameIndex := 193, descriptorIndex := 121, attributes := #[] }, { accessFlags := 25, nameIndex := 196, descriptorIndex := 197, attributes := #[] }, { accessFlags := 25, nameIndex := 199, descriptorIndex := 197, attributes := #[] }, { accessFlags := 25, nameIndex := 201, descriptorIndex := 197, attributes := #[] }, { accessFlags := 25, nameIndex := 203, descriptorIndex := 197, attributes := #[] }, { accessFlags := 25, nameIndex := 205, descriptorIndex := 197, attributes := #[] }, { accessFlags := 25, nameIndex := 173, descriptorIndex := 174, attributes := #[] }, { accessFlags := 18, nameIndex := 120, descriptorIndex := 121, attributes := #[] }, { accessFlags := 26, nameIndex := 209, descriptorIndex := 210, attributes := #[] }])
  fields := #[{ name := "POSITIVE_INFINITY", type := .double, accessFlags := 25, slot := 0, constantValue := 0 }, { name := "NEGATIVE_INFINITY", type := .double, accessFlags := 25, slot := 1, constantValue := 0 }, { name := "NaN", type := .double, accessFlags := 25, slot := 2, constantValue := 0 }, { name := "MAX_VALUE", type := .double, accessFlags := 25, slot := 3, constantValue := 0 }, { name := "MIN_NORMAL", type := .double, accessFlags := 25, slot := 4, constantValue := 0 }, { name := "MIN_VALUE", type := .double, accessFlags := 25, slot := 5, constantValue := 0 }, { name := "SIZE", type := .int, accessFlags := 25, slot := 6, constantValue := 0 }, { name := "PRECISION", type := .int, accessFlags := 25, slot := 7, constantValue := 0 }, { name := "MAX_EXPONENT", type := .int, accessFlags := 25, slot := 8, constantValue := 0 }, { name := "MIN_EXPONENT", type := .int, accessFlags := 25, slot := 9, constantValue := 0 }, { name := "BYTES", type := .int, accessFlags := 25, slot := 10, constantValue := 0 }, { name := "TYPE", type := (.object "java/lang/Class"), accessFlags := 25, slot := 11, constantValue := 0 }, { name := "value", type := .double, accessFlags := 18, slot := 0, constantValue := 0 }, { name := "serialVersionUID", type := .long, accessFlags := 26, slot := 12, constantValue := 0 }]
  methods := #[k8m0]
  instanceTypes := #[.double]
  staticTypes := #[.double, .double, .double, .double, .double, .double, .int, .int, .int, .int, .int, (.object "java/lang/Class"), .long]
  resolved := Array.replicate 290 none
  statics := none }

def pool9 : Array CpInfo := pool [(1, .class_ 2), (0, u "java/lang/Math"), (1, .class_ 6), (1, u "java/lang/Object"), (0, u "<init>"), (0, u "()V"), (43, u "(DD)D"), (45, .class_ 100), (1, u "java/lang/Math$RandomNumberGeneratorHolder"), (71, u "negativeZeroFloatBits"), (0, u "J"), (2, u "negativeZeroDoubleBits"), (21, u "max"), (2, u "min"), (43, u "$assertionsDisabled"), (0, u "Z"), (88, u "(II)I"), (2, u "twoToTheDoubleScaleDown"), (0, u "D"), (4, u "twoToTheDoubleScaleUp"), (9, u "E"), (3, u "PI"), (2, u "TAU"), (2, u "DEGREES_TO_RADIANS"), (0, u "RADIANS_TO_DEGREES")] 94

def k9m0 : Method := { name := "<init>", desc := "()V", sig := { parameters := [], returnType := none }, accessFlags := 2, code := none }
def k9c1 : Code := { maxStack := 2, maxLocals := 2, code := jdk_29_method_65_code, exceptionTable := #[], attributes := #[] }
def k9m1 : Method := { name := "max", desc := "(II)I", sig := { parameters := [.int, .int], returnType := some .int }, accessFlags := 9, code := some k9c1 }
def k9c2 : Code := { maxStack := 4, maxLocals := 4, code := jdk_29_method_68_code, exceptionTable := #[], attributes := #[] }
def k9m2 : Method := { name := "max", desc := "(DD)D", sig := { parameters := [.double, .double], returnType := some .double }, accessFlags := 9, code := some k9c2 }
def k9c3 : Code := { maxStack := 2, maxLocals := 2, code := jdk_29_method_69_code, exceptionTable := #[], attributes := #[] }
def k9m3 : Method := { name := "min", desc := "(II)I", sig := { parameters := [.int, .int], returnType := some .int }, accessFlags := 9, code := some k9c3 }
def k9c4 : Code := { maxStack := 4, maxLocals := 4, code := jdk_29_method_72_code, exceptionTable := #[], attributes := #[] }
def k9m4 : Method := { name := "min", desc := "(DD)D", sig := { parameters := [.double, .double], returnType := some .double }, accessFlags := 9, code := some k9c4 }
/-- java/lang/Math -/
def k9 : Class := { plain "java/lang/Math" (some 0) with
  accessFlags := 49
  interfaces := #[]
  cf := some (fileOf pool9 1 #[.nestMembers #[98]] #[{ accessFlags := 2, nameIndex := 7, descriptorIndex := 8, attributes := #[] }, { accessFlags := 9, nameIndex := 198, descriptorIndex := 335, attributes := #[] }, { accessFlags := 9, nameIndex := 198, descriptorIndex := 52, attributes := #[] }, { accessFlags := 9, nameIndex := 201, descriptorIndex := 335, attributes := #[] }, { accessFlags := 9, nameIndex := 201, descriptorIndex := 52, attributes := #[] }] 49 4 #[] #[{ accessFlags := 25, nameIndex := 354, descriptorIndex := 339, attributes := #[] }, { accessFlags := 25, nameIndex := 358, descriptorIndex := 339, attributes := #[] }, { accessFlags := 25, nameIndex := 361, descriptorIndex := 339, attributes := #[] }, { accessFlags := 26, nameIndex := 364, descriptorIndex := 339, attributes := #[] }, { accessFlags := 26, nameIndex := 365, descriptorIndex := 339, attributes := #[] }, { accessFlags := 26, nameIndex := 172, descriptorIndex := 173, attributes := #[] }, { accessFlags := 26, nameIndex := 176, descriptorIndex := 173, attributes := #[] }, { accessFlags := 8, nameIndex := 344, descriptorIndex := 339, attributes := #[] }, { accessFlags := 8, nameIndex := 338, descriptorIndex := 339, attributes := #[] }, { accessFlags := 4120, nameIndex := 245, descriptorIndex := 246, attributes := #[] }])
  fields := #[{ name := "E", type := .double, accessFlags := 25, slot := 0, constantValue := 0 }, { name := "PI", type := .double, accessFlags := 25, slot := 1, constantValue := 0 }, { name := "TAU", type := .double, accessFlags := 25, slot := 2, constantValue := 0 }, { name := "DEGREES_TO_RADIANS", type := .double, accessFlags := 26, slot := 3, constantValue := 0 }, { name := "RADIANS_TO_DEGREES", type := .double, accessFlags := 26, slot := 4, constantValue := 0 }, { name := "negativeZeroFloatBits", type := .long, accessFlags := 26, slot := 5, constantValue := 0 }, { name := "negativeZeroDoubleBits", type := .long, accessFlags := 26, slot := 6, constantValue := 0 }, { name := "twoToTheDoubleScaleUp", type := .double, accessFlags := 8, slot := 7, constantValue := 0 }, { name := "twoToTheDoubleScaleDown", type := .double, accessFlags := 8, slot := 8, constantValue := 0 }, { name := "$assertionsDisabled", type := .boolean, accessFlags := 4120, slot := 9, constantValue := 0 }]
  methods := #[k9m0, k9m1, k9m2, k9m3, k9m4]
  instanceTypes := #[]
  staticTypes := #[.double, .double, .double, .double, .double, .long, .long, .double, .double, .boolean]
  resolved := Array.replicate 460 none
  statics := none }

def pool10 : Array CpInfo := pool [(1, u "java/lang/Cloneable"), (0, .class_ 1), (0, u "java/lang/Object"), (0, .class_ 3)] 3

/-- java/lang/Cloneable -/
def k10 : Class := { plain "java/lang/Cloneable" (some 0) with
  accessFlags := 1537
  interfaces := #[]
  cf := some (fileOf pool10 2 #[] #[] 1537 4 #[] #[])
  fields := #[]
  methods := #[]
  instanceTypes := #[]
  staticTypes := #[]
  resolved := Array.replicate 8 none
  statics := none }

/-- the primitive byte -/
def k11 : Class := { plain "byte" none with kind := .primitive 'B', accessFlags := 0x411 }
/-- [B -/
def k12 : Class := { plain "[B" (some 0) with kind := .array 11 .byte, interfaces := #[10, 3], accessFlags := 1041 }

/-- the primitive double -/
def k13 : Class := { plain "double" none with kind := .primitive 'D', accessFlags := 0x411 }
/-- [D -/
def k14 : Class := { plain "[D" (some 0) with kind := .array 13 .double, interfaces := #[10, 3], accessFlags := 1041 }

/-- the primitive int -/
def k15 : Class := { plain "int" none with kind := .primitive 'I', accessFlags := 0x411 }
/-- [I -/
def k16 : Class := { plain "[I" (some 0) with kind := .array 15 .int, interfaces := #[10, 3], accessFlags := 1041 }

def heap : Heap := #[]
def classes : Array Class := #[k0, k1, k2, k3, k4, k5, k6, k7, k8, k9, k10, k11, k12, k13, k14, k15, k16]
def interned : List (Array UInt16 × Addr) := []
def slotsUsed : Nat := 0
def theMethod : MethodId := ⟨1, 3⟩
def args0 : Array Value := #[.int 2, .int 5, .int 3, .int 0, .int 0]
def aboutOver (below : List Frame) : State where
  vm := { classes := classes, interned := interned.toArray }
  heap := heap
  slotsUsed := slotsUsed
  threads := #[{ frames := .invoking theMethod args0 :: below }]
def below0 : List Frame := [.native { method := ⟨0, 0⟩, args := #[] }]
def about1 : State := aboutOver below0
def p0 : Program := .bare "" "" ""
def e0 : Env := launch0.env 0 0 0
theorem w_frames : about1.frames = Frame.invoking theMethod args0 :: below0 := rfl
set_option maxRecDepth 65536 in
theorem w_args : argsFit about1.vm theMethod args0 = true := by decide +kernel
set_option maxRecDepth 65536 in
theorem w_heap : heapFits about1 = true := by decide +kernel
set_option maxRecDepth 65536 in
theorem w_runnable : about1.curStatus? = some .runnable := by decide +kernel
set_option maxRecDepth 65536 in
theorem w_alone : about1.alone = true := by decide +kernel
set_option maxRecDepth 65536 in
theorem w_named : about1.methodNamed? x = some theMethod := by decide +kernel
set_option maxRecDepth 65536 in
theorem w_hears : about1.hears theMethod below0 = true := by decide +kernel
set_option maxRecDepth 65536 in
theorem w_ripe : about1.ripe theMethod args0 below0 = true := by decide +kernel
theorem w_running : about1.status = .running := rfl
set_option maxRecDepth 65536 in
theorem w_room : about1.hasRoom e0.platform room_1 = true :=
  launch0.hasRoom_least _ room_1 (by decide +kernel) (by decide +kernel) (by decide +kernel) (by decide +kernel) (by decide +kernel) (by decide +kernel)
theorem allAtoms_all (ts : List Jvm.Cond) (a : Array Jvm.Value) (st : Jvm.State) : (allAtoms ts).before a st = ts.all (fun c => c.before a st) := by
  induction ts with
  | nil => rfl
  | cons c t ih =>
    show (Jvm.Cond.and c (allAtoms t)).before a st = _
    rw [Jvm.Cond.before_and, ih, List.all_cons]
def words1 : List Jvm.Cond := Jvm.Cond.code x code maxLocals ret :: tables_1
/-- a 'code' word, met by the world's own term for the bytes: nothing is compared byte by byte -/
theorem code_word {y : MethodName} {bytes : ByteArray} {mx : Nat} {rt : Option FieldType} {a : Array Value} {s : State} {m : MethodId} {meth : Method} {c : Code} (h1 : s.methodNamed? y = some m) (h2 : s.vm.method? m = some meth) (h3 : meth.code = some c) (h4 : c.code = bytes)
    (h5 : (c.maxLocals == mx && c.exceptionTable.isEmpty && decide (c.maxStack ≤ mostOperands) && decide (meth.sig.returnType = rt) && !meth.locks && decide (parseMethodDescriptor y.desc = some meth.sig)) = true) : (Jvm.Cond.code y bytes mx rt).before a s = true := by
  simp only [Bool.and_eq_true, beq_iff_eq, Bool.not_eq_true', decide_eq_true_eq] at h5
  obtain ⟨⟨⟨⟨⟨g1, g2⟩, g3⟩, g4⟩, g5⟩, g6⟩ := h5
  simp [Cond.before, Cond.holds, Cond.value, h1, h2, h3, h4, g1, g2, g3, g4, g5, g6]
def isCode : Jvm.Cond → Bool
  | .code _ _ _ _ => true
  | _ => false
theorem all_split {L : List Jvm.Cond} {P : Jvm.Cond → Bool} (h1 : L.all (fun c => isCode c || P c) = true) (h2 : ∀ c ∈ L.filter isCode, P c = true) : L.all P = true := by
  refine List.all_eq_true.mpr fun c hc => ?_
  have h := List.all_eq_true.mp h1 c hc
  rcases Bool.eq_false_or_eq_true (isCode c) with hi | hi
  · exact h2 c (List.mem_filter.mpr ⟨hc, hi⟩)
  · simpa [hi] using h
set_option maxRecDepth 65536 in
theorem w_c0 : (Jvm.Cond.code x code maxLocals ret).before args0 about1 = true := code_word (m := ⟨1, 3⟩) (meth := k1m3) (c := k1c3) (by decide +kernel) rfl rfl rfl (by decide +kernel)
set_option maxRecDepth 65536 in
theorem w_c1 : (Jvm.Cond.code ({ cls := "com/example/persephone/persephone/ValueBounds", name := "span", desc := "([D)Lcom/example/persephone/persephone/ValueBounds;" } : Jvm.MethodName) prog_14_method_21_code (10 : Nat) (Option.some (Jvm.ClassFile.FieldType.object "com/example/persephone/persephone/ValueBounds"))).before args0 about1 = true := code_word (m := ⟨2, 4⟩) (meth := k2m4) (c := k2c4) (by decide +kernel) rfl rfl rfl (by decide +kernel)
set_option maxRecDepth 65536 in
theorem w_c2 : (Jvm.Cond.code ({ cls := "com/example/persephone/persephone/ValueBounds", name := "<init>", desc := "(DDZ)V" } : Jvm.MethodName) prog_14_method_1_code (6 : Nat) (Option.none : Option Jvm.ClassFile.FieldType)).before args0 about1 = true := code_word (m := ⟨2, 0⟩) (meth := k2m0) (c := k2c0) (by decide +kernel) rfl rfl rfl (by decide +kernel)
set_option maxRecDepth 65536 in
theorem w_c3 : (Jvm.Cond.code ({ cls := "java/lang/Object", name := "<init>", desc := "()V" } : Jvm.MethodName) object_method_1_code (1 : Nat) (Option.none : Option Jvm.ClassFile.FieldType)).before args0 about1 = true := code_word (m := ⟨0, 0⟩) (meth := k0m0) (c := k0c0) (by decide +kernel) rfl rfl rfl (by decide +kernel)
set_option maxRecDepth 65536 in
theorem w_c4 : (Jvm.Cond.code ({ cls := "com/example/persephone/persephone/ValueBounds", name := "mayBeMissing", desc := "()Z" } : Jvm.MethodName) prog_14_method_6_code (1 : Nat) (Option.some Jvm.ClassFile.FieldType.boolean)).before args0 about1 = true := code_word (m := ⟨2, 3⟩) (meth := k2m3) (c := k2c3) (by decide +kernel) rfl rfl rfl (by decide +kernel)
set_option maxRecDepth 65536 in
theorem w_c5 : (Jvm.Cond.code ({ cls := "com/example/persephone/persephone/ValueBounds", name := "getLowest", desc := "()D" } : Jvm.MethodName) prog_14_method_4_code (1 : Nat) (Option.some Jvm.ClassFile.FieldType.double)).before args0 about1 = true := code_word (m := ⟨2, 1⟩) (meth := k2m1) (c := k2c1) (by decide +kernel) rfl rfl rfl (by decide +kernel)
set_option maxRecDepth 65536 in
theorem w_c6 : (Jvm.Cond.code ({ cls := "com/example/persephone/persephone/ValueBounds", name := "getHighest", desc := "()D" } : Jvm.MethodName) prog_14_method_5_code (1 : Nat) (Option.some Jvm.ClassFile.FieldType.double)).before args0 about1 = true := code_word (m := ⟨2, 2⟩) (meth := k2m2) (c := k2c2) (by decide +kernel) rfl rfl rfl (by decide +kernel)
set_option maxRecDepth 65536 in
theorem w_c7 : (Jvm.Cond.code ({ cls := "com/example/persephone/persephone/ValueBoundsSpanPinLaw", name := "isPosInf", desc := "(D)Z" } : Jvm.MethodName) method_2_code (2 : Nat) (Option.some Jvm.ClassFile.FieldType.boolean)).before args0 about1 = true := code_word (m := ⟨1, 1⟩) (meth := k1m1) (c := k1c1) (by decide +kernel) rfl rfl rfl (by decide +kernel)
set_option maxRecDepth 65536 in
theorem w_c8 : (Jvm.Cond.code ({ cls := "com/example/persephone/persephone/ValueBoundsSpanPinLaw", name := "isNegInf", desc := "(D)Z" } : Jvm.MethodName) method_3_code (2 : Nat) (Option.some Jvm.ClassFile.FieldType.boolean)).before args0 about1 = true := code_word (m := ⟨1, 2⟩) (meth := k1m2) (c := k1c2) (by decide +kernel) rfl rfl rfl (by decide +kernel)
set_option maxRecDepth 65536 in
theorem w_c9 : (Jvm.Cond.code ({ cls := "java/lang/Double", name := "isNaN", desc := "(D)Z" } : Jvm.MethodName) jdk_117_method_6_code (2 : Nat) (Option.some Jvm.ClassFile.FieldType.boolean)).before args0 about1 = true := code_word (m := ⟨8, 0⟩) (meth := k8m0) (c := k8c0) (by decide +kernel) rfl rfl rfl (by decide +kernel)
set_option maxRecDepth 65536 in
theorem w_c10 : (Jvm.Cond.code ({ cls := "java/lang/Math", name := "min", desc := "(DD)D" } : Jvm.MethodName) jdk_29_method_72_code (4 : Nat) (Option.some Jvm.ClassFile.FieldType.double)).before args0 about1 = true := code_word (m := ⟨9, 4⟩) (meth := k9m4) (c := k9c4) (by decide +kernel) rfl rfl rfl (by decide +kernel)
set_option maxRecDepth 65536 in
theorem w_c11 : (Jvm.Cond.code ({ cls := "java/lang/Math", name := "max", desc := "(DD)D" } : Jvm.MethodName) jdk_29_method_68_code (4 : Nat) (Option.some Jvm.ClassFile.FieldType.double)).before args0 about1 = true := code_word (m := ⟨9, 2⟩) (meth := k9m2) (c := k9c2) (by decide +kernel) rfl rfl rfl (by decide +kernel)
set_option maxRecDepth 65536 in
theorem w_c12 : (Jvm.Cond.code ({ cls := "java/lang/Math", name := "min", desc := "(II)I" } : Jvm.MethodName) jdk_29_method_69_code (2 : Nat) (Option.some Jvm.ClassFile.FieldType.int)).before args0 about1 = true := code_word (m := ⟨9, 3⟩) (meth := k9m3) (c := k9c3) (by decide +kernel) rfl rfl rfl (by decide +kernel)
set_option maxRecDepth 65536 in
theorem w_c13 : (Jvm.Cond.code ({ cls := "java/lang/Math", name := "max", desc := "(II)I" } : Jvm.MethodName) jdk_29_method_65_code (2 : Nat) (Option.some Jvm.ClassFile.FieldType.int)).before args0 about1 = true := code_word (m := ⟨9, 1⟩) (meth := k9m1) (c := k9c1) (by decide +kernel) rfl rfl rfl (by decide +kernel)
def codes1 : List Jvm.Cond := [Jvm.Cond.code x code maxLocals ret, Jvm.Cond.code ({ cls := "com/example/persephone/persephone/ValueBounds", name := "span", desc := "([D)Lcom/example/persephone/persephone/ValueBounds;" } : Jvm.MethodName) prog_14_method_21_code (10 : Nat) (Option.some (Jvm.ClassFile.FieldType.object "com/example/persephone/persephone/ValueBounds")), Jvm.Cond.code ({ cls := "com/example/persephone/persephone/ValueBounds", name := "<init>", desc := "(DDZ)V" } : Jvm.MethodName) prog_14_method_1_code (6 : Nat) (Option.none : Option Jvm.ClassFile.FieldType), Jvm.Cond.code ({ cls := "java/lang/Object", name := "<init>", desc := "()V" } : Jvm.MethodName) object_method_1_code (1 : Nat) (Option.none : Option Jvm.ClassFile.FieldType), Jvm.Cond.code ({ cls := "com/example/persephone/persephone/ValueBounds", name := "mayBeMissing", desc := "()Z" } : Jvm.MethodName) prog_14_method_6_code (1 : Nat) (Option.some Jvm.ClassFile.FieldType.boolean), Jvm.Cond.code ({ cls := "com/example/persephone/persephone/ValueBounds", name := "getLowest", desc := "()D" } : Jvm.MethodName) prog_14_method_4_code (1 : Nat) (Option.some Jvm.ClassFile.FieldType.double), Jvm.Cond.code ({ cls := "com/example/persephone/persephone/ValueBounds", name := "getHighest", desc := "()D" } : Jvm.MethodName) prog_14_method_5_code (1 : Nat) (Option.some Jvm.ClassFile.FieldType.double), Jvm.Cond.code ({ cls := "com/example/persephone/persephone/ValueBoundsSpanPinLaw", name := "isPosInf", desc := "(D)Z" } : Jvm.MethodName) method_2_code (2 : Nat) (Option.some Jvm.ClassFile.FieldType.boolean), Jvm.Cond.code ({ cls := "com/example/persephone/persephone/ValueBoundsSpanPinLaw", name := "isNegInf", desc := "(D)Z" } : Jvm.MethodName) method_3_code (2 : Nat) (Option.some Jvm.ClassFile.FieldType.boolean), Jvm.Cond.code ({ cls := "java/lang/Double", name := "isNaN", desc := "(D)Z" } : Jvm.MethodName) jdk_117_method_6_code (2 : Nat) (Option.some Jvm.ClassFile.FieldType.boolean), Jvm.Cond.code ({ cls := "java/lang/Math", name := "min", desc := "(DD)D" } : Jvm.MethodName) jdk_29_method_72_code (4 : Nat) (Option.some Jvm.ClassFile.FieldType.double), Jvm.Cond.code ({ cls := "java/lang/Math", name := "max", desc := "(DD)D" } : Jvm.MethodName) jdk_29_method_68_code (4 : Nat) (Option.some Jvm.ClassFile.FieldType.double), Jvm.Cond.code ({ cls := "java/lang/Math", name := "min", desc := "(II)I" } : Jvm.MethodName) jdk_29_method_69_code (2 : Nat) (Option.some Jvm.ClassFile.FieldType.int), Jvm.Cond.code ({ cls := "java/lang/Math", name := "max", desc := "(II)I" } : Jvm.MethodName) jdk_29_method_65_code (2 : Nat) (Option.some Jvm.ClassFile.FieldType.int)]
set_option maxRecDepth 65536 in
theorem codes_eq : words1.filter isCode = codes1 := rfl
theorem w_codes : ∀ c ∈ words1.filter isCode, c.before args0 about1 = true := by
  rw [codes_eq]
  intro c hc
  simp only [codes1, List.mem_cons, List.not_mem_nil, or_false] at hc
  rcases hc with rfl | rfl | rfl | rfl | rfl | rfl | rfl | rfl | rfl | rfl | rfl | rfl | rfl | rfl
  · exact w_c0
  · exact w_c1
  · exact w_c2
  · exact w_c3
  · exact w_c4
  · exact w_c5
  · exact w_c6
  · exact w_c7
  · exact w_c8
  · exact w_c9
  · exact w_c10
  · exact w_c11
  · exact w_c12
  · exact w_c13
set_option maxRecDepth 65536 in
theorem w_t1 : (words1.take 24).all (fun c => isCode c || c.before args0 about1) = true := by decide +kernel
set_option maxRecDepth 65536 in
theorem w_t2 : ((words1.drop 24).take 24).all (fun c => isCode c || c.before args0 about1) = true := by decide +kernel
set_option maxRecDepth 65536 in
theorem w_t3 : ((words1.drop 24).drop 24).all (fun c => isCode c || c.before args0 about1) = true := by decide +kernel
theorem w_tables : (allAtoms (Jvm.Cond.code x code maxLocals ret :: tables_1)).before args0 about1 = true := by
  rw [allAtoms_all]
  show words1.all (fun c => c.before args0 about1) = true
  refine all_split ?_ w_codes
  rw [← List.take_append_drop 24 words1, List.all_append, w_t1, ← List.take_append_drop 24 (words1.drop 24), List.all_append, w_t2, w_t3]
  rfl
set_option maxRecDepth 65536 in
theorem w_case : (Jvm.Cond.and given_1 narrow_1).before args0 about1 = true := by decide +kernel
theorem w_applies : (headSpec (Jvm.Cond.code x code maxLocals ret :: tables_1) room_1).applies x e0.platform about1 = true :=
  (Spec.applies_iff w_frames).mpr ⟨w_running, w_runnable, w_alone, w_named, w_hears, w_ripe, w_room, w_tables⟩
theorem atStart : AtStart classFile x code maxLocals ret World_1 tables_1 room_1 Calls_1 rest_1 Pre_1 launch0 p0 e0 about1 theMethod args0 below0 :=
  ⟨lists_1, trivial, launch0.admits_env _ _ _, launch0.least_env, fairChoices_fair.cas, fairChoices_fair.clock, w_frames, w_args, w_heap, w_applies, trivial, trivial, w_case⟩
end start1
theorem witness_1 : WitnessClaimed_1 := ⟨start1.p0, start1.e0, start1.about1, start1.theMethod, start1.args0, start1.below0, start1.atStart⟩
end Jvm.Pilot.@@N@@
