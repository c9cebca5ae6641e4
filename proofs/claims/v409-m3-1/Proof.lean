import JvmDerived
import JvmDerived.Pilot.@@N@@Statement
import JvmDerived.Pilot.@@N@@Code
set_option linter.unusedVariables false
set_option linter.unusedSimpArgs false
namespace Jvm.Pilot.@@N@@
open Jvm Jvm.ClassFile Sem Op Lib Jvm.Free Jvm.Stand Jvm.LawKit Jvm.RoadKit Bundle Jvm.Pilot.@@N@@.Jvm.D
set_option maxRecDepth 65536
theorem Bw {n m : Nat} (h : Nat.ble n m = true) : n ≤ m := Nat.le_of_ble_eq_true h
set_option maxHeartbeats 40000000
section OwnKit
variable {p : Program} {l : Launch} {e : Env} {R : Room} {s : State} {m : MethodId} {args : Array Value} {below : List Frame} {meth : Method} {c : Code} {T : State} {locs : List Loc} {cells slots : Nat} {Z : State} {a0 : Array Value} {h : Heap} {own : String} {cd : ByteArray} {maxL : Nat} {ret : Option FieldType} {nm : String} {n0 : Nat} {F : Option Value → Heap → Prop} {kc ks : Nat} {En : Outcome → State → Prop} {pc : Nat} {ls : Array Slot} {st : List Value}
/-- from the frame g over T the method runs to its end, returns v, leaves a heap, F holds of both; only new cells are written -/
def Aj (p : Program) (e : Env) (below : List Frame) (En : Outcome → State → Prop) (T : State) (g : JFrame) : Prop :=
  ∃ s₂ o, Steps p.tables e below (T.setTop g) s₂ ∧ s₂.status = .running ∧ Ended s₂ below o ∧ En o s₂
def Cq (s : State) (n0 : Nat) (F : Option Value → Heap → Prop) (kc ks : Nat) (o : Outcome) (s₂ : State) : Prop := ∃ v L, o = .returned v ∧ (F v s₂.heap ∧ Fr n0 L) ∧ FrameEnd s o s₂ L kc ks
theorem Bm {T' : State} {g g' : JFrame} (st : ∀ t, Steps p.tables e below (T'.setTop g') t → Steps p.tables e below (T.setTop g) t) (k : Aj p e below En T' g') : Aj p e below En T g := by
  obtain ⟨s₂, o, h1, h2⟩ := k
  exact ⟨s₂, o, st _ h1, h2⟩
/-- what stays the same in one body -/
def Bp (p : Program) (s : State) (m : MethodId) (meth : Method) (c : Code) (Z : State) (own : String) (cd : ByteArray) (maxL : Nat) (ret : Option FieldType) (nm : String) : Prop :=
  p.tables.exec = Jvm.exec ∧ c.code = cd ∧ c.maxLocals = maxL ∧ s.vm.findClass own = some m.cls ∧ meth.name = nm ∧ meth.sig.returnType = ret ∧ meth.locks = false ∧ Z.Warmed39 s.vm
/-- where the walk stands: the heap is h, at most so many cells and slots have been made, nothing old was written -/
def Az (p : Program) (l : Launch) (e : Env) (R : Room) (s : State) (m : MethodId) (args : Array Value) (below : List Frame) (meth : Method) (c : Code) (n0 : Nat) (T : State) (h : Heap) (cells slots : Nat) : Prop :=
  ∃ locs k n, Stand p l e R s m args below meth c T locs k n ∧ T.heap = h ∧ Fr n0 locs ∧ k ≤ cells ∧ n ≤ slots
theorem Az.mono {c' s' : Nat} (S : Az p l e R s m args below meth c n0 T h cells slots) (h1 : cells ≤ c') (h2 : slots ≤ s') : Az p l e R s m args below meth c n0 T h c' s' := by
  obtain ⟨locs, k, n, X, e1, N, q1, q2⟩ := S
  exact ⟨locs, k, n, X, e1, N, Nat.le_trans q1 h1, Nat.le_trans q2 h2⟩
theorem Cn (C : Bp p s m meth c Z own cd maxL ret nm) {i : Instr} {len : Nat} (hd : decode cd pc = .ok (i, len)) : decode c.code pc = .ok (i, len) := by rw [C.2.1]; exact hd
theorem Ge (C : Bp p s m meth c Z own cd maxL ret nm) (hsz : ls.size = maxL) : ls.size = c.maxLocals := by rw [C.2.2.1]; exact hsz
/-- the k-th table word -/
theorem ow {L : List Jvm.Cond} (hw : ∀ d ∈ L, d.before a0 Z = true) (i : Nat) {d : Jvm.Cond} (hi : L[i]? = some d) : d.before a0 Z = true := hw d (List.mem_of_getElem? hi)
/-- one plain instruction -/
def own_st (i : Instr) (len pc : Nat) (ls : Array Slot) (st : List Value) : Option (Nat × Array Slot × List Value) :=
  match i with
  | .iload_n k => match len, ls[k.val]? with | 1, some (.val (.int v)) => some (pc + 1, ls, .int v :: st) | _, _ => none
  | .iload k => match len, ls[k]? with | 2, some (.val (.int v)) => some (pc + 2, ls, .int v :: st) | _, _ => none
  | .lload_n k => match len, ls[k.val]? with | 1, some (.val (.long v)) => some (pc + 1, ls, .long v :: st) | _, _ => none
  | .lload k => match len, ls[k]? with | 2, some (.val (.long v)) => some (pc + 2, ls, .long v :: st) | _, _ => none
  | .dload_n k => match len, ls[k.val]? with | 1, some (.val (.double v)) => some (pc + 1, ls, .double v :: st) | _, _ => none
  | .dload k => match len, ls[k]? with | 2, some (.val (.double v)) => some (pc + 2, ls, .double v :: st) | _, _ => none
  | .aload_n k => match len, ls[k.val]? with | 1, some (.val (.ref v)) => some (pc + 1, ls, .ref v :: st) | 1, some (.val .null) => some (pc + 1, ls, .null :: st) | _, _ => none
  | .aload k => match len, ls[k]? with | 2, some (.val (.ref v)) => some (pc + 2, ls, .ref v :: st) | 2, some (.val .null) => some (pc + 2, ls, .null :: st) | _, _ => none
  | .istore_n k => match len, st with | 1, .int x :: r => (match storeLocals ls k.val (.int x) with | some l' => some (pc + 1, l', r) | none => none) | _, _ => none
  | .istore k => match len, st with | 2, .int x :: r => (match storeLocals ls k (.int x) with | some l' => some (pc + 2, l', r) | none => none) | _, _ => none
  | .lstore_n k => match len, st with | 1, .long x :: r => (match storeLocals ls k.val (.long x) with | some l' => some (pc + 1, l', r) | none => none) | _, _ => none
  | .lstore k => match len, st with | 2, .long x :: r => (match storeLocals ls k (.long x) with | some l' => some (pc + 2, l', r) | none => none) | _, _ => none
  | .dstore_n k => match len, st with | 1, .double x :: r => (match storeLocals ls k.val (.double x) with | some l' => some (pc + 1, l', r) | none => none) | _, _ => none
  | .dstore k => match len, st with | 2, .double x :: r => (match storeLocals ls k (.double x) with | some l' => some (pc + 2, l', r) | none => none) | _, _ => none
  | .astore_n k => match len, st with
    | 1, .ref x :: r => (match storeLocals ls k.val (.ref x) with | some l' => some (pc + 1, l', r) | none => none)
    | 1, .null :: r => (match storeLocals ls k.val .null with | some l' => some (pc + 1, l', r) | none => none)
    | _, _ => none
  | .astore k => match len, st with
    | 2, .ref x :: r => (match storeLocals ls k (.ref x) with | some l' => some (pc + 2, l', r) | none => none)
    | 2, .null :: r => (match storeLocals ls k .null with | some l' => some (pc + 2, l', r) | none => none)
    | _, _ => none
  | .iinc k d => match len, ls[k]? with | 3, some (.val (.int x)) => (match storeLocals ls k (.int (x + Int32.ofInt d)) with | some l' => some (pc + 3, l', st) | none => none) | _, _ => none
  | .iconst i => match len with | 1 => some (pc + 1, ls, .int (Int32.ofInt i) :: st) | _ => none
  | .bipush i => match len with | 2 => some (pc + 2, ls, .int (Int8.ofInt i).toInt32 :: st) | _ => none
  | .sipush i => match len with | 3 => some (pc + 3, ls, .int (Int16.ofInt i).toInt32 :: st) | _ => none
  | .lconst k => match len with | 1 => some (pc + 1, ls, .long (Int64.ofNat k) :: st) | _ => none
  | .aconst_null => match len with | 1 => some (pc + 1, ls, .null :: st) | _ => none
  | .iadd => match len, st with | 1, .int y :: .int x :: r => some (pc + 1, ls, .int (x + y) :: r) | _, _ => none
  | .isub => match len, st with | 1, .int y :: .int x :: r => some (pc + 1, ls, .int (x - y) :: r) | _, _ => none
  | .imul => match len, st with | 1, .int y :: .int x :: r => some (pc + 1, ls, .int (x * y) :: r) | _, _ => none
  | .iand => match len, st with | 1, .int y :: .int x :: r => some (pc + 1, ls, .int (x &&& y) :: r) | _, _ => none
  | .ior => match len, st with | 1, .int y :: .int x :: r => some (pc + 1, ls, .int (x ||| y) :: r) | _, _ => none
  | .ixor => match len, st with | 1, .int y :: .int x :: r => some (pc + 1, ls, .int (x ^^^ y) :: r) | _, _ => none
  | .ishl => match len, st with | 1, .int y :: .int x :: r => some (pc + 1, ls, .int (x <<< (y &&& 31)) :: r) | _, _ => none
  | .ishr => match len, st with | 1, .int y :: .int x :: r => some (pc + 1, ls, .int (x >>> (y &&& 31)) :: r) | _, _ => none
  | .iushr => match len, st with | 1, .int y :: .int x :: r => some (pc + 1, ls, .int (Jvm.Free.XT.ushr x y) :: r) | _, _ => none
  | .ineg => match len, st with | 1, .int x :: r => some (pc + 1, ls, .int (-x) :: r) | _, _ => none
  | .ladd => match len, st with | 1, .long y :: .long x :: r => some (pc + 1, ls, .long (x + y) :: r) | _, _ => none
  | .lsub => match len, st with | 1, .long y :: .long x :: r => some (pc + 1, ls, .long (x - y) :: r) | _, _ => none
  | .lmul => match len, st with | 1, .long y :: .long x :: r => some (pc + 1, ls, .long (x * y) :: r) | _, _ => none
  | .land => match len, st with | 1, .long y :: .long x :: r => some (pc + 1, ls, .long (x &&& y) :: r) | _, _ => none
  | .lor => match len, st with | 1, .long y :: .long x :: r => some (pc + 1, ls, .long (x ||| y) :: r) | _, _ => none
  | .lshl => match len, st with | 1, .int y :: .long x :: r => some (pc + 1, ls, .long (x <<< (y.toInt64 &&& 63)) :: r) | _, _ => none
  | .lshr => match len, st with | 1, .int y :: .long x :: r => some (pc + 1, ls, .long (x >>> (y.toInt64 &&& 63)) :: r) | _, _ => none
  | .lushr => match len, st with | 1, .int y :: .long x :: r => some (pc + 1, ls, .long (Jvm.Free.XT.ushrL x y) :: r) | _, _ => none
  | .lcmp => match len, st with | 1, .long y :: .long x :: r => some (pc + 1, ls, .int (Jvm.Free.XT.cmpL x y) :: r) | _, _ => none
  | .i2l => match len, st with | 1, .int x :: r => some (pc + 1, ls, .long x.toInt64 :: r) | _, _ => none
  | .l2i => match len, st with | 1, .long x :: r => some (pc + 1, ls, .int x.toInt32 :: r) | _, _ => none
  | .i2b => match len, st with | 1, .int x :: r => some (pc + 1, ls, .int x.toInt8.toInt32 :: r) | _, _ => none
  | .i2c => match len, st with | 1, .int x :: r => some (pc + 1, ls, .int x.toUInt32.toUInt16.toUInt32.toInt32 :: r) | _, _ => none
  | .i2s => match len, st with | 1, .int x :: r => some (pc + 1, ls, .int x.toInt16.toInt32 :: r) | _, _ => none
  | .i2d => match len, st with | 1, .int x :: r => some (pc + 1, ls, .double (FP.i2d x) :: r) | _, _ => none
  | .dup => match len, st with | 1, .int x :: r => some (pc + 1, ls, .int x :: .int x :: r) | 1, .ref x :: r => some (pc + 1, ls, .ref x :: .ref x :: r) | 1, .null :: r => some (pc + 1, ls, .null :: .null :: r) | _, _ => none
  | .pop => match len, st with | 1, .int x :: r => some (pc + 1, ls, r) | 1, .ref x :: r => some (pc + 1, ls, r) | 1, .null :: r => some (pc + 1, ls, r) | _, _ => none
  | .dup_x1 => match len, st with | 1, .int x :: .ref y :: r => some (pc + 1, ls, .int x :: .ref y :: .int x :: r) | 1, .int x :: .int y :: r => some (pc + 1, ls, .int x :: .int y :: .int x :: r) | 1, .ref x :: .ref y :: r => some (pc + 1, ls, .ref x :: .ref y :: .ref x :: r) | _, _ => none
  | .dup2 => match len, st with | 1, .int x :: .ref y :: r => some (pc + 1, ls, .int x :: .ref y :: .int x :: .ref y :: r) | 1, .int x :: .int y :: r => some (pc + 1, ls, .int x :: .int y :: .int x :: .int y :: r) | 1, .long x :: r => some (pc + 1, ls, .long x :: .long x :: r) | _, _ => none
  | .goto o => match len, decide (0 ≤ (pc : Int) + o) with | 3, true => some (((pc : Int) + o).toNat, ls, st) | _, _ => none
  | .ifnull o => match len, st, decide (0 ≤ (pc : Int) + o) with | 3, .null :: r, true => some (((pc : Int) + o).toNat, ls, r) | 3, .ref _ :: r, _ => some (pc + 3, ls, r) | _, _, _ => none
  | .ifnonnull o => match len, st, decide (0 ≤ (pc : Int) + o) with | 3, .ref _ :: r, true => some (((pc : Int) + o).toNat, ls, r) | 3, .null :: r, _ => some (pc + 3, ls, r) | _, _, _ => none
  | .ifCond q o => match len, st, decide (0 ≤ (pc : Int) + o) with
    | 3, .int x :: r, true => (match if_icmp.holds q x 0 with | true => some (((pc : Int) + o).toNat, ls, r) | false => some (pc + 3, ls, r))
    | _, _, _ => none
  | .if_icmp q o => match len, st, decide (0 ≤ (pc : Int) + o) with
    | 3, .int y :: .int x :: r, true => (match if_icmp.holds q x y with | true => some (((pc : Int) + o).toNat, ls, r) | false => some (pc + 3, ls, r))
    | _, _, _ => none
  | _ => none
theorem own_st_ok (X : Stand p l e R s m args below meth c T locs cells slots) (hx : p.tables.exec = Jvm.exec) {i : Instr} {len pc' : Nat} {ls' : Array Slot} {st' : List Value} (hd : decode c.code pc = .ok (i, len)) (hs : own_st i len pc ls st = some (pc', ls', st')) (t : State)
    (k : Steps p.tables e below (T.setTop (mkF m pc' ls' st')) t) : Steps p.tables e below (T.setTop (mkF m pc ls st)) t := by
  unfold own_st at hs
  split at hs
  · split at hs <;> first | cases hs | skip
    rename_i q; exact XS.iloadN X.here hx rfl hd q k
  · split at hs <;> first | cases hs | skip
    rename_i q; exact XS.iload X.here hx rfl hd q k
  · split at hs <;> first | cases hs | skip
    rename_i q; exact Jvm.Free.XT.lloadN X.here hx rfl hd q k
  · split at hs <;> first | cases hs | skip
    rename_i q; exact Jvm.Free.XT.lload X.here hx rfl hd q k
  · split at hs <;> first | cases hs | skip
    rename_i q; exact XS.dloadN X.here hx rfl hd q k
  · split at hs <;> first | cases hs | skip
    rename_i q; exact XS.dload X.here hx rfl hd q k
  · split at hs <;> first | cases hs | skip
    · rename_i q; exact XS.aloadN X.here hx rfl hd q rfl k
    · rename_i q; exact XS.aloadN X.here hx rfl hd q rfl k
  · split at hs <;> first | cases hs | skip
    · rename_i q; exact XS.aload X.here hx rfl hd q rfl k
    · rename_i q; exact XS.aload X.here hx rfl hd q rfl k
  · split at hs <;> first | cases hs | skip
    split at hs <;> first | cases hs | skip
    rename_i q; exact XS.istoreN X.here hx rfl hd rfl q k
  · split at hs <;> first | cases hs | skip
    split at hs <;> first | cases hs | skip
    rename_i q; exact XS.istore X.here hx rfl hd rfl q k
  · split at hs <;> first | cases hs | skip
    split at hs <;> first | cases hs | skip
    rename_i q; exact Jvm.Free.XT.lstoreN X.here hx rfl hd rfl q k
  · split at hs <;> first | cases hs | skip
    split at hs <;> first | cases hs | skip
    rename_i q; exact Jvm.Free.XT.lstore X.here hx rfl hd rfl q k
  · split at hs <;> first | cases hs | skip
    split at hs <;> first | cases hs | skip
    rename_i q; exact XS.dstoreN X.here hx rfl hd rfl q k
  · split at hs <;> first | cases hs | skip
    split at hs <;> first | cases hs | skip
    rename_i q; exact XS.dstore X.here hx rfl hd rfl q k
  · split at hs <;> first | cases hs | skip
    all_goals
      split at hs <;> first | cases hs | skip
      rename_i q; exact XS.astoreN X.here hx rfl hd rfl rfl q k
  · split at hs <;> first | cases hs | skip
    all_goals
      split at hs <;> first | cases hs | skip
      rename_i q; exact XS.astore X.here hx rfl hd rfl rfl q k
  · split at hs <;> first | cases hs | skip
    rename_i q0
    split at hs <;> first | cases hs | skip
    rename_i q; exact XS.iinc X.here hx rfl hd q0 q k
  · split at hs <;> first | cases hs | skip
    exact XS.iconst X.here hx rfl hd k
  · split at hs <;> first | cases hs | skip
    exact XS.bipush X.here hx rfl hd k
  · split at hs <;> first | cases hs | skip
    exact XS.sipush X.here hx rfl hd k
  · split at hs <;> first | cases hs | skip
    exact Jvm.Free.XT.lconst X.here hx rfl hd k
  · split at hs <;> first | cases hs | skip
    exact XS.aconstNull X.here hx rfl hd k
  · split at hs <;> first | cases hs | skip
    exact XS.iadd X.here hx rfl hd rfl k
  · split at hs <;> first | cases hs | skip
    exact XS.isub X.here hx rfl hd rfl k
  · split at hs <;> first | cases hs | skip
    exact XS.imul X.here hx rfl hd rfl k
  · split at hs <;> first | cases hs | skip
    exact XS.iand X.here hx rfl hd rfl k
  · split at hs <;> first | cases hs | skip
    exact Jvm.Free.XT.ior X.here hx rfl hd rfl k
  · split at hs <;> first | cases hs | skip
    exact Jvm.Free.XT.ixor X.here hx rfl hd rfl k
  · split at hs <;> first | cases hs | skip
    exact Jvm.Free.XT.ishl X.here hx rfl hd rfl k
  · split at hs <;> first | cases hs | skip
    exact Jvm.Free.XT.ishr X.here hx rfl hd rfl k
  · split at hs <;> first | cases hs | skip
    exact Jvm.Free.XT.iushr X.here hx rfl hd rfl k
  · split at hs <;> first | cases hs | skip
    exact XS.ineg X.here hx rfl hd rfl k
  · split at hs <;> first | cases hs | skip
    exact Jvm.Free.XT.ladd X.here hx rfl hd rfl k
  · split at hs <;> first | cases hs | skip
    exact Jvm.Free.XT.lsub X.here hx rfl hd rfl k
  · split at hs <;> first | cases hs | skip
    exact Jvm.Free.XT.lmul X.here hx rfl hd rfl k
  · split at hs <;> first | cases hs | skip
    exact Jvm.Free.XT.land X.here hx rfl hd rfl k
  · split at hs <;> first | cases hs | skip
    exact Jvm.Free.XT.lor X.here hx rfl hd rfl k
  · split at hs <;> first | cases hs | skip
    exact Jvm.Free.XT.lshl X.here hx rfl hd rfl k
  · split at hs <;> first | cases hs | skip
    exact Jvm.Free.XT.lshr X.here hx rfl hd rfl k
  · split at hs <;> first | cases hs | skip
    exact Jvm.Free.XT.lushr X.here hx rfl hd rfl k
  · split at hs <;> first | cases hs | skip
    exact Jvm.Free.XT.lcmp X.here hx rfl hd rfl k
  · split at hs <;> first | cases hs | skip
    exact Jvm.Free.XT.i2l X.here hx rfl hd rfl k
  · split at hs <;> first | cases hs | skip
    exact Jvm.Free.XT.l2i X.here hx rfl hd rfl k
  · split at hs <;> first | cases hs | skip
    exact Jvm.Free.XT.i2b X.here hx rfl hd rfl k
  · split at hs <;> first | cases hs | skip
    exact Jvm.Free.XT.i2c X.here hx rfl hd rfl k
  · split at hs <;> first | cases hs | skip
    exact Jvm.Free.XT.i2s X.here hx rfl hd rfl k
  · split at hs <;> first | cases hs | skip
    exact XS.i2dS X.here hx rfl hd rfl rfl k
  · split at hs <;> first | cases hs | skip
    all_goals exact XS.dup X.here hx rfl hd rfl rfl k
  · split at hs <;> first | cases hs | skip
    all_goals exact Jvm.Free.XT.pop X.here hx rfl hd rfl rfl k
  · split at hs <;> first | cases hs | skip
    all_goals exact Jvm.Free.XT.dupX1 X.here hx rfl hd rfl rfl rfl k
  · split at hs <;> first | cases hs | skip
    · exact Jvm.Free.XT.dup2 X.here hx rfl hd rfl rfl rfl k
    · exact Jvm.Free.XT.dup2 X.here hx rfl hd rfl rfl rfl k
    · exact Jvm.Free.XT.dup2L X.here hx rfl hd rfl k
  · split at hs <;> first | cases hs | skip
    rename_i q; exact XS.goto X.here hx rfl rfl hd (of_decide_eq_true q) rfl k
  · split at hs <;> first | cases hs | skip
    · rename_i q; exact XS.ifnullYes X.here hx rfl rfl hd rfl (of_decide_eq_true q) rfl k
    · exact XS.ifnullNo X.here hx rfl hd rfl k
  · split at hs <;> first | cases hs | skip
    · rename_i q; exact Jvm.Free.XT.ifnonnullYes X.here hx rfl rfl hd rfl (of_decide_eq_true q) rfl k
    · exact Jvm.Free.XT.ifnonnullNo X.here hx rfl hd rfl k
  · split at hs <;> first | cases hs | skip
    rename_i q1
    split at hs <;> (rename_i hc; rw [← if0] at hc; simp only [Option.some.injEq, Prod.mk.injEq] at hs; obtain ⟨rfl, rfl, rfl⟩ := hs)
    · exact XS.ifYes X.here hx rfl rfl hd rfl hc (of_decide_eq_true q1) rfl k
    · exact XS.ifNo X.here hx rfl hd rfl hc k
  · split at hs <;> first | cases hs | skip
    rename_i q1
    split at hs <;> (rename_i hc; simp only [Option.some.injEq, Prod.mk.injEq] at hs; obtain ⟨rfl, rfl, rfl⟩ := hs)
    · exact XS.icmpYes X.here hx rfl rfl hd rfl hc (of_decide_eq_true q1) rfl k
    · exact XS.icmpNo X.here hx rfl hd rfl hc k
  · cases hs
/-- a row of plain instructions -/
def Ej : List (Nat × Instr × Nat) → Nat → Array Slot → List Value → Option (Nat × Array Slot × List Value)
  | [], pc, ls, st => some (pc, ls, st)
  | x :: seg, pc, ls, st => match decide (pc = x.1) with
    | true => (match own_st x.2.1 x.2.2 x.1 ls st with | some (pc', ls', st') => Ej seg pc' ls' st' | none => none)
    | false => none
def Gf (cd : ByteArray) (seg : List (Nat × Instr × Nat)) : Bool := seg.all fun x => decide (decode cd x.1 = .ok x.2)
theorem own_run_ok (X : Stand p l e R s m args below meth c T locs cells slots) (hx : p.tables.exec = Jvm.exec) (hby : c.code = cd) : ∀ (seg : List (Nat × Instr × Nat)) {pc pc' : Nat} {ls ls' : Array Slot} {st st' : List Value}, Gf cd seg = true → Ej seg pc ls st = some (pc', ls', st') → ∀ t,
    Steps p.tables e below (T.setTop (mkF m pc' ls' st')) t → Steps p.tables e below (T.setTop (mkF m pc ls st)) t := by
  intro seg
  induction seg with
  | nil =>
    intro pc pc' ls ls' st st' _ hr t k
    simp only [Ej, Option.some.injEq, Prod.mk.injEq] at hr
    obtain ⟨rfl, rfl, rfl⟩ := hr
    exact k
  | cons x seg ih =>
    intro pc pc' ls ls' st st' hd hr t k
    simp only [Gf, List.all_cons, Bool.and_eq_true, decide_eq_true_eq] at hd
    simp only [Ej] at hr
    split at hr
    · rename_i q
      have q' : pc = x.1 := of_decide_eq_true q
      subst q'
      split at hr
      · rename_i a1 b1 c1 q2
        exact own_st_ok X hx (by rw [hby]; exact hd.1) q2 t (ih hd.2 hr t k)
      · cases hr
    · cases hr
theorem own_seg (C : Bp p s m meth c Z own cd maxL ret nm) (S : Az p l e R s m args below meth c n0 T h cells slots) (seg : List (Nat × Instr × Nat)) (hd : Gf cd seg = true) (pc' : Nat) (ls' : Array Slot) (st' : List Value)
    (hr : Ej seg pc ls st = some (pc', ls', st')) (k : Aj p e below En T (mkF m pc' ls' st')) : Aj p e below En T (mkF m pc ls st) := by
  obtain ⟨locs, kk, n, X, -⟩ := S
  exact Bm (own_run_ok X C.1 C.2.1 seg hd hr) k
def own_P : ClassFile.Cond → Int32 → Int32 → Prop
  | .eq, x, y => x = y | .ne, x, y => ¬ x = y | .lt, x, y => x < y | .ge, x, y => ¬ x < y | .gt, x, y => y < x | .le, x, y => ¬ y < x
def own_N : ClassFile.Cond → Int32 → Int32 → Prop
  | .eq, x, y => ¬ x = y | .ne, x, y => x = y | .lt, x, y => ¬ x < y | .ge, x, y => x < y | .gt, x, y => ¬ y < x | .le, x, y => y < x
theorem own_holds (q : ClassFile.Cond) (x y : Int32) : (own_P q x y ∧ if_icmp.holds q x y = true) ∨ (own_N q x y ∧ if_icmp.holds q x y = false) := by
  cases q
  · by_cases g : x = y
    · exact Or.inl ⟨g, (teq g).1⟩
    · exact Or.inr ⟨g, (feq g).1⟩
  · by_cases g : x = y
    · exact Or.inr ⟨g, (teq g).2⟩
    · exact Or.inl ⟨g, (feq g).2⟩
  · by_cases g : x < y
    · exact Or.inl ⟨g, (tlt g).1⟩
    · exact Or.inr ⟨g, (flt g).1⟩
  · by_cases g : x < y
    · exact Or.inr ⟨g, (tlt g).2.1⟩
    · exact Or.inl ⟨g, (flt g).2.1⟩
  · by_cases g : y < x
    · exact Or.inl ⟨g, (tlt g).2.2.1⟩
    · exact Or.inr ⟨g, (flt g).2.2.1⟩
  · by_cases g : y < x
    · exact Or.inr ⟨g, (tlt g).2.2.2⟩
    · exact Or.inl ⟨g, (flt g).2.2.2⟩
theorem own_icmp (C : Bp p s m meth c Z own cd maxL ret nm) (S : Az p l e R s m args below meth c n0 T h cells slots) {q : ClassFile.Cond} {o : Int} {x y : Int32} (hd : decode cd pc = .ok (.if_icmp q o, 3)) (pc' : Nat) (ho : 0 ≤ (pc : Int) + o) (hp : ((pc : Int) + o).toNat = pc')
    (k1 : own_P q x y → Aj p e below En T (mkF m pc' ls st)) (k2 : own_N q x y → Aj p e below En T (mkF m (pc + 3) ls st)) : Aj p e below En T (mkF m pc ls (.int y :: .int x :: st)) := by
  obtain ⟨locs, kk, n, X, -⟩ := S
  rcases own_holds q x y with ⟨g, hc⟩ | ⟨g, hc⟩
  · exact Bm (fun t k => XS.icmpYes X.here C.1 rfl rfl (Cn C hd) rfl hc ho hp k) (k1 g)
  · exact Bm (fun t k => XS.icmpNo X.here C.1 rfl (Cn C hd) rfl hc k) (k2 g)
theorem own_if (C : Bp p s m meth c Z own cd maxL ret nm) (S : Az p l e R s m args below meth c n0 T h cells slots) {q : ClassFile.Cond} {o : Int} {x : Int32} (hd : decode cd pc = .ok (.ifCond q o, 3)) (pc' : Nat) (ho : 0 ≤ (pc : Int) + o) (hp : ((pc : Int) + o).toNat = pc')
    (k1 : own_P q x 0 → Aj p e below En T (mkF m pc' ls st)) (k2 : own_N q x 0 → Aj p e below En T (mkF m (pc + 3) ls st)) : Aj p e below En T (mkF m pc ls (.int x :: st)) := by
  obtain ⟨locs, kk, n, X, -⟩ := S
  rcases own_holds q x 0 with ⟨g, hc⟩ | ⟨g, hc⟩ <;> rw [← if0] at hc
  · exact Bm (fun t k => XS.ifYes X.here C.1 rfl rfl (Cn C hd) rfl hc ho hp k) (k1 g)
  · exact Bm (fun t k => XS.ifNo X.here C.1 rfl (Cn C hd) rfl hc k) (k2 g)
theorem Dg (C : Bp p s m meth c Z own cd maxL ret nm) (S : Az p l e R s m args below meth c n0 T h cells slots) {index : Nat} {v : Int32} (w : (Jvm.Cond.constant own index v).before a0 Z = true) (hd : decode cd pc = .ok (.ldc index, 2)) (k : Aj p e below En T (mkF m (pc + 2) ls (.int v :: st))) : Aj p e below En T (mkF m pc ls st) := by
  obtain ⟨locs, kk, n, X, -⟩ := S
  exact Bm (fun t k => X.ldcInt C.1 C.2.2.2.1 (mv C.2.2.2.2.2.2.2 w) (g := mkF m pc ls st) rfl (Cn C hd) t k) k
theorem Do (C : Bp p s m meth c Z own cd maxL ret nm) (S : Az p l e R s m args below meth c n0 T h cells slots) {index : Nat} {v : Int64} (w : (Jvm.Cond.constantLong own index v).before a0 Z = true) (hd : decode cd pc = .ok (.ldc2_w index, 3)) (k : Aj p e below En T (mkF m (pc + 3) ls (.long v :: st))) : Aj p e below En T (mkF m pc ls st) := by
  obtain ⟨locs, kk, n, X, -⟩ := S
  exact Bm (fun t k => X.ldc2Long C.1 C.2.2.2.1 (mv C.2.2.2.2.2.2.2 w) (g := mkF m pc ls st) rfl (Cn C hd) t k) k
theorem own_getF (C : Bp p s m meth c Z own cd maxL ret nm) (S : Az p l e R s m args below meth c n0 T h cells slots) {index : Nat} {R0 O n d host : String} {a : Addr} {v : Value} (w : (Jvm.Cond.fieldLink own index R0 n d).before a0 Z = true ∨ (Jvm.Cond.fieldLinkNest own index R0 n d host).before a0 Z = true) (via : Via Z R0 O n d) (FF : Fld Z h a O n d v) (hd : decode cd pc = .ok (.getfield index, 3))
    (k : ∀ T', Az p l e R s m args below meth c n0 T' h cells slots → Aj p e below En T' (mkF m (pc + 3) ls (v :: st))) : Aj p e below En T (mkF m pc ls (.ref a :: st)) := by
  obtain ⟨locs, kk, nn, X, eT, N, q1, q2⟩ := S
  obtain ⟨T', X', e', stp⟩ := getF X C.1 C.2.2.2.2.2.2.2 C.2.2.2.1 w via eT FF (g := mkF m pc ls (.ref a :: st)) rfl rfl (Cn C hd)
  exact Bm stp (k T' ⟨_, _, _, X', e', N, q1, q2⟩)
theorem Dc (C : Bp p s m meth c Z own cd maxL ret nm) (S : Az p l e R s m args below meth c n0 T h cells slots) {index : Nat} {R0 O n d : String} {v : Value} (w : (Jvm.Cond.fieldLink own index R0 n d).before a0 Z = true) (via : Via Z R0 O n d) (FF : Sta Z h O n d v) (hd : decode cd pc = .ok (.getstatic index, 3))
    (k : ∀ T', Az p l e R s m args below meth c n0 T' h cells slots → Aj p e below En T' (mkF m (pc + 3) ls (v :: st))) : Aj p e below En T (mkF m pc ls st) := by
  obtain ⟨locs, kk, nn, X, eT, N, q1, q2⟩ := S
  obtain ⟨T', X', e', stp⟩ := getS X C.1 C.2.2.2.2.2.2.2 (host := "") C.2.2.2.1 w via eT FF (g := mkF m pc ls st) rfl (Cn C hd)
  exact Bm stp (k T' ⟨_, _, _, X', e', N, q1, q2⟩)
theorem Eu (C : Bp p s m meth c Z own cd maxL ret nm) (S : Az p l e R s m args below meth c n0 T h cells slots) {index ki : Nat} {R0 O n d host Cl : String} {a : Addr} {v old : Value} {ty : FieldType} (w : (Jvm.Cond.fieldLink own index R0 n d).before a0 Z = true ∨ (Jvm.Cond.fieldLinkNest own index R0 n d host).before a0 Z = true) (via : Via Z R0 O n d) (FF : Fld Z h a O n d old) (E : Exa Z h a Cl)
    (L : (Jvm.Cond.lays Cl O n d).before a0 Z = true ∨ ((Jvm.Cond.laysFinal Cl O n d).before a0 Z = true ∧ own = O ∧ nm = "<init>")) (wi : (Jvm.Cond.instantiable Cl ki).before a0 Z = true) (hty : parseFieldDescriptor d = some ty) (hn : narrow ty v = v) (hf : fits ty v = true) (hge : n0 ≤ a) (hd : decode cd pc = .ok (.putfield index, 3))
    (k : ∀ T' h', Az p l e R s m args below meth c n0 T' h' cells slots → Wr h h' a (Jvm.RoadKit.slotOf Z O n d) v → Aj p e below En T' (mkF m (pc + 3) ls st)) : Aj p e below En T (mkF m pc ls (v :: .ref a :: st)) := by
  obtain ⟨locs, kk, nn, X, eT, N, q1, q2⟩ := S
  obtain ⟨T', h', X', e', W, stp⟩ := putF X C.1 C.2.2.2.2.2.2.2 C.2.2.2.1 w via eT FF E (L.imp id (fun q => ⟨q.1, q.2.1, C.2.2.2.2.1.trans q.2.2⟩)) wi hty hn hf (g := mkF m pc ls (v :: .ref a :: st)) rfl rfl (Cn C hd)
  exact Bm stp (k T' h' ⟨_, _, _, X', e', Fr.snoc X' N hge, q1, q2⟩ W)
theorem own_new (C : Bp p s m meth c Z own cd maxL ret nm) (S : Az p l e R s m args below meth c n0 T h cells slots) {index ki : Nat} {Cl : String} (w : (Jvm.Cond.classLink own index Cl).before a0 Z = true) (wi : (Jvm.Cond.instantiable Cl ki).before a0 Z = true) (wz : (Jvm.Cond.initialized Cl).before a0 Z = true) (hd : decode cd pc = .ok (.new index, 3)) (hc : cells + 1 ≤ R.cells) (hl : slots + ki ≤ R.slots)
    (k : ∀ T' h' a, Az p l e R s m args below meth c n0 T' h' (cells + 1) (slots + ki) → a = h.size → Ext h h' → Exa Z h' a Cl → (∀ {O nm d : String} {ty : FieldType}, Laid Z a0 Cl O nm d → parseFieldDescriptor d = some ty → Fld Z h' a O nm d (defaultValue ty)) → Aj p e below En T' (mkF m (pc + 3) ls (.ref a :: st))) : Aj p e below En T (mkF m pc ls st) := by
  obtain ⟨locs, kk, nn, X, eT, N, q1, q2⟩ := S
  obtain ⟨T', h', X', e', E, A, D, -, stp⟩ := newO X C.1 C.2.2.2.2.2.2.2 C.2.2.2.1 w wi wz eT (g := mkF m pc ls st) rfl (Cn C hd) (by omega) (by omega)
  exact Bm stp (k T' h' _ ⟨_, _, _, X', e', N, by omega, by omega⟩ rfl E A D)
theorem own_initO (C : Bp p s m meth c Z own cd maxL ret nm) (S : Az p l e R s m args below meth c n0 T h cells slots) {index : Nat} (w1 : (Jvm.Cond.methodLink own index Lib.objectInit).before a0 Z = true) (w2 : (Jvm.Cond.instanceMethod Lib.objectInit).before a0 Z = true) (w3 : (Jvm.Cond.code Lib.objectInit ⟨#[0xb1]⟩ 1 none).before a0 Z = true) {a : Addr} (hsz : ls.size = maxL) (hd : decode cd pc = .ok (.invokespecial index, 3)) (hf : 1 ≤ R.frames) (W : Nat) (hW : (st.map fun v => v.category).sum ≤ W) (hl : W + 12 ≤ R.locals)
    (k : ∀ T', Az p l e R s m args below meth c n0 T' h cells slots → Aj p e below En T' (mkF m (pc + 3) ls st)) : Aj p e below En T (mkF m pc ls (.ref a :: st)) := by
  obtain ⟨locs, kk, nn, X, eT, N, q1, q2⟩ := S
  obtain ⟨T', X', e', stp⟩ := initO X C.1 C.2.2.2.2.2.2.2 C.2.2.2.1 w1 w2 w3 eT (g := mkF m pc ls (.ref a :: st)) rfl (Ge C hsz) rfl (Cn C hd) hf (W := W) (by show 2 * 0 + _ ≤ W; omega) hl
  exact Bm stp (k T' ⟨_, _, _, X', e', N, q1, q2⟩)
theorem Gg (C : Bp p s m meth c Z own cd maxL ret nm) (S : Az p l e R s m args below meth c n0 T h cells slots) {aty : ArrayType} (w : (Jvm.Cond.arrayClass (newarray.typeOf aty)).before a0 Z = true) (hd : decode cd pc = .ok (.newarray aty, 2)) {n : Int32} (hn : ¬ n < 0) (cap : Nat) (hcap : n.toNatClampNeg ≤ cap) (hb : cap * 8 ≤ 536870912) (hc : cells + 1 ≤ R.cells) (hl : slots + cap ≤ R.slots)
    (k : ∀ T' h' a cA, Az p l e R s m args below meth c n0 T' h' (cells + 1) (slots + cap) → a = h.size → Ext h h' → Arv Z h' a cA (newarray.typeOf aty) n [] (defaultValue (newarray.typeOf aty)) → Aj p e below En T' (mkF m (pc + 2) ls (.ref a :: st))) : Aj p e below En T (mkF m pc ls (.int n :: st)) := by
  obtain ⟨locs, kk, nn, X, eT, N, q1, q2⟩ := S
  obtain ⟨T', h', cA, X', e', E, A, stp⟩ := newP X C.1 C.2.2.2.2.2.2.2 w eT (g := mkF m pc ls (.int n :: st)) rfl (Cn C hd) rfl hn hcap hb (by omega) (by omega)
  exact Bm stp (k T' h' _ cA ⟨_, _, _, X', e', N, by omega, by omega⟩ rfl E (Arv.new A hn))
theorem Dt (C : Bp p s m meth c Z own cd maxL ret nm) (S : Az p l e R s m args below meth c n0 T h cells slots) {a : Addr} {ka : ClassId} {ty : FieldType} {N : Int32} {vs : List Value} {dv : Value} (FF : Arv Z h a ka ty N vs dv) (hd : decode cd pc = .ok (.arraylength, 1)) (k : Aj p e below En T (mkF m (pc + 1) ls (.int N :: st))) : Aj p e below En T (mkF m pc ls (.ref a :: st)) := by
  obtain ⟨locs, kk, nn, X, eT, -⟩ := S
  obtain ⟨cl, A, -, sz, hN, -⟩ := FF
  rw [← len_of sz hN] at k
  exact Bm (fun t k => X.arraylength C.1 (by rw [eT]; exact A.1) (State.isArrayOf_alike C.2.2.2.2.2.2.2.alike A.2.1) (g := mkF m pc ls (.ref a :: st)) rfl rfl (Cn C hd) t k) k
theorem Fw (C : Bp p s m meth c Z own cd maxL ret nm) (S : Az p l e R s m args below meth c n0 T h cells slots) {a : Addr} {ka : ClassId} {N j : Int32} {vs : List Value} {dv : Value} (FF : Arv Z h a ka .char N vs dv) (hin : ¬ j < 0 ∧ j < N) (v : Value) (hv : vs.getD j.toNatClampNeg dv = v) (hd : decode cd pc = .ok (.caload, 1)) (k : Aj p e below En T (mkF m (pc + 1) ls (v :: st))) : Aj p e below En T (mkF m pc ls (.int j :: .ref a :: st)) := by
  obtain ⟨locs, kk, nn, X, eT, -⟩ := S
  obtain ⟨cl, A, -, sz, hN, H, -⟩ := FF
  exact Bm (fun t k => X.caload C.1 (by rw [eT]; exact A.1) (State.isArrayOf_alike C.2.2.2.2.2.2.2.alike A.2.1) A.2.2 (inb_of sz hin) (Has.at H (inb_of sz hin) hv) (g := mkF m pc ls (.int j :: .ref a :: st)) rfl rfl (Cn C hd) t k) k
theorem De (C : Bp p s m meth c Z own cd maxL ret nm) (S : Az p l e R s m args below meth c n0 T h cells slots) {a : Addr} {ka : ClassId} {N j : Int32} {vs : List Value} {dv : Value} (FF : Arv Z h a ka .byte N vs dv) (hin : ¬ j < 0 ∧ j < N) (v : Value) (hv : vs.getD j.toNatClampNeg dv = v) (hd : decode cd pc = .ok (.baload, 1)) (k : Aj p e below En T (mkF m (pc + 1) ls (v :: st))) : Aj p e below En T (mkF m pc ls (.int j :: .ref a :: st)) := by
  obtain ⟨locs, kk, nn, X, eT, -⟩ := S
  obtain ⟨cl, A, -, sz, hN, H, -⟩ := FF
  exact Bm (fun t k => X.baloadBytes C.1 (by rw [eT]; exact A.1) (State.isArrayOf_alike C.2.2.2.2.2.2.2.alike A.2.1) A.2.2 (inb_of sz hin) (Has.at H (inb_of sz hin) hv) (g := mkF m pc ls (.int j :: .ref a :: st)) rfl rfl (Cn C hd) t k) k
theorem own_castore (C : Bp p s m meth c Z own cd maxL ret nm) (S : Az p l e R s m args below meth c n0 T h cells slots) {a : Addr} {ka : ClassId} {N j x : Int32} {vs : List Value} {dv : Value} (FF : Arv Z h a ka .char N vs dv) (hin : ¬ j < 0 ∧ j < N) (i : Nat) (hj : j.toNatClampNeg = i) (hi : i < vs.length) (x' : Int32) (hx' : nar .char x = x') (hge : n0 ≤ a) (hd : decode cd pc = .ok (.castore, 1))
    (k : ∀ T' h', Az p l e R s m args below meth c n0 T' h' cells slots → Wr h h' a j.toNatClampNeg (.int x') → Arv Z h' a ka .char N (vs.set i (.int x')) dv → Aj p e below En T' (mkF m (pc + 1) ls st)) : Aj p e below En T (mkF m pc ls (.int x :: .int j :: .ref a :: st)) := by
  subst hx'
  obtain ⟨locs, kk, nn, X, eT, N, q1, q2⟩ := S
  obtain ⟨cl, A, ck, sz, hN, H, G⟩ := FF
  obtain ⟨T', h', X', e', W, stp⟩ := stC X C.1 C.2.2.2.2.2.2.2 eT A (inb_of sz hin) (g := mkF m pc ls (.int x :: .int j :: .ref a :: st)) rfl rfl (Cn C hd)
  exact Bm stp (k T' h' ⟨_, _, _, X', e', Fr.snoc X' N hge, q1, q2⟩ W (Arv.set A ck sz hN H G (fits_nar_char x) W i hj hi))
theorem Er (C : Bp p s m meth c Z own cd maxL ret nm) (S : Az p l e R s m args below meth c n0 T h cells slots) {a : Addr} {ka : ClassId} {N j x : Int32} {vs : List Value} {dv : Value} (FF : Arv Z h a ka .byte N vs dv) (hin : ¬ j < 0 ∧ j < N) (i : Nat) (hj : j.toNatClampNeg = i) (hi : i < vs.length) (x' : Int32) (hx' : nar .byte x = x') (hge : n0 ≤ a) (hd : decode cd pc = .ok (.bastore, 1))
    (k : ∀ T' h', Az p l e R s m args below meth c n0 T' h' cells slots → Wr h h' a j.toNatClampNeg (.int x') → Arv Z h' a ka .byte N (vs.set i (.int x')) dv → Aj p e below En T' (mkF m (pc + 1) ls st)) : Aj p e below En T (mkF m pc ls (.int x :: .int j :: .ref a :: st)) := by
  subst hx'
  obtain ⟨locs, kk, nn, X, eT, N, q1, q2⟩ := S
  obtain ⟨cl, A, ck, sz, hN, H, G⟩ := FF
  obtain ⟨T', h', X', e', W, stp⟩ := stB X C.1 C.2.2.2.2.2.2.2 eT A (inb_of sz hin) (g := mkF m pc ls (.int x :: .int j :: .ref a :: st)) rfl rfl (Cn C hd)
  exact Bm stp (k T' h' ⟨_, _, _, X', e', Fr.snoc X' N hge, q1, q2⟩ W (Arv.set A ck sz hN H G (fits_nar_byte x) W i hj hi))
theorem Gh {t : FieldType} (C : Bp p s m meth c Z own cd maxL (some t) nm) (S : Az p l e R s m args below meth c n0 T h cells slots) {i : Instr} {w : Value} (hd : decode cd pc = .ok (i, 1)) (hn : narrow t w = w)
    (hi : (i = .ireturn ∧ (t = .int ∨ t = .boolean ∨ t = .byte ∨ t = .char ∨ t = .short) ∧ ∃ z, w = .int z) ∨ (i = .lreturn ∧ t = .long ∧ ∃ z, w = .long z) ∨ (i = .dreturn ∧ t = .double ∧ ∃ z, w = .double z) ∨ (i = .freturn ∧ t = .float ∧ ∃ z, w = .float z) ∨ (i = .areturn ∧ t.isReference = true ∧ w.isRef = true))
    (hc : cells ≤ kc) (hs : slots ≤ ks) (hF : F (some w) h) : Aj p e below (Cq s n0 F kc ks) T (mkF m pc ls (w :: st)) := by
  obtain ⟨locs, kk, nn, X, eT, N, q1, q2⟩ := S
  obtain ⟨fs, hr, hrun, hended, hW, hsame⟩ := X.leave (v := some w) (fun q => by rw [C.2.2.2.2.2.1] at q; cases q) C.2.2.2.2.2.2.1
  refine ⟨_, _, retOut X C.1 C.2.2.2.2.2.1 hn hi (Cn C hd) hr, hrun, hended, _, _, rfl, ⟨?_, N⟩, ⟨_, rfl⟩, hW, hsame.mono (Nat.le_trans q1 hc) (Nat.le_trans q2 hs)⟩
  show F (some w) T.heap
  rw [eT]; exact hF
theorem Ba (C : Bp p s m meth c Z own cd maxL (some .int) nm) (S : Az p l e R s m args below meth c n0 T h cells slots) {z : Int32} (hd : decode cd pc = .ok (.ireturn, 1)) (hc : cells ≤ kc) (hs : slots ≤ ks) (hF : F (some (.int z)) h) : Aj p e below (Cq s n0 F kc ks) T (mkF m pc ls (.int z :: st)) :=
  Gh C S hd rfl (Or.inl ⟨rfl, Or.inl rfl, z, rfl⟩) hc hs hF
theorem Bs (C : Bp p s m meth c Z own cd maxL (some .boolean) nm) (S : Az p l e R s m args below meth c n0 T h cells slots) {z : Int32} (hd : decode cd pc = .ok (.ireturn, 1)) (hz : z &&& 1 = z) (hc : cells ≤ kc) (hs : slots ≤ ks) (hF : F (some (.int z)) h) : Aj p e below (Cq s n0 F kc ks) T (mkF m pc ls (.int z :: st)) :=
  Gh C S hd (by show Value.int (z &&& 1) = _; rw [hz]) (Or.inl ⟨rfl, Or.inr (Or.inl rfl), z, rfl⟩) hc hs hF
theorem Cd (C : Bp p s m meth c Z own cd maxL (some .char) nm) (S : Az p l e R s m args below meth c n0 T h cells slots) {z : Int32} (hd : decode cd pc = .ok (.ireturn, 1)) (hz : z.toUInt32.toUInt16.toUInt32.toInt32 = z) (hc : cells ≤ kc) (hs : slots ≤ ks) (hF : F (some (.int z)) h) : Aj p e below (Cq s n0 F kc ks) T (mkF m pc ls (.int z :: st)) :=
  Gh C S hd (by show Value.int (z.toUInt32.toUInt16.toUInt32.toInt32) = _; rw [hz]) (Or.inl ⟨rfl, by simp, z, rfl⟩) hc hs hF
theorem Ev {t : FieldType} (C : Bp p s m meth c Z own cd maxL (some t) nm) (S : Az p l e R s m args below meth c n0 T h cells slots) {w : Value} (ht : t.isReference = true) (hr : w.isRef = true) (hd : decode cd pc = .ok (.areturn, 1)) (hc : cells ≤ kc) (hs : slots ≤ ks) (hF : F (some w) h) : Aj p e below (Cq s n0 F kc ks) T (mkF m pc ls (w :: st)) :=
  Gh C S hd (by cases w <;> simp [Value.isRef] at hr <;> cases t <;> first | rfl | (simp [FieldType.isReference] at ht)) (by simp [ht, hr]) hc hs hF
theorem Be (C : Bp p s m meth c Z own cd maxL none nm) (S : Az p l e R s m args below meth c n0 T h cells slots) (hd : decode cd pc = .ok (.return_, 1)) (hc : cells ≤ kc) (hs : slots ≤ ks) (hF : F none h) : Aj p e below (Cq s n0 F kc ks) T (mkF m pc ls []) := by
  obtain ⟨locs, kk, nn, X, eT, N, q1, q2⟩ := S
  obtain ⟨fs, hr, hrun, hended, hW, hsame⟩ := X.leave (v := none) (fun _ => rfl) C.2.2.2.2.2.2.1
  refine ⟨_, _, X.returnOut C.1 C.2.2.2.2.2.1 (Cn C hd) hr, hrun, hended, _, _, rfl, ⟨?_, N⟩, ⟨_, rfl⟩, hW, hsame.mono (Nat.le_trans q1 hc) (Nat.le_trans q2 hs)⟩
  show F none T.heap
  rw [eT]; exact hF
def Ag (l : Launch) (Z : State) (y : MethodName) (cd : ByteArray) (maxL : Nat) (ret : Option FieldType) (rm : Room) (n0 : Nat) (as' : Array Value) (h0 : Heap) (Q : Option Value → Heap → Prop) : Prop :=
  ∀ ws, MetFree l y (head1 (Jvm.Cond.code y cd maxL ret :: ws) rm) (fun a U => a = as' ∧ Z.Warmed39 U.vm ∧ U.heap = h0) (fun _ _ _ _ _ => True) (fun _ U o U' => ∃ v L, o = .returned v ∧ (Q v U'.heap ∧ Fr n0 L) ∧ FrameEnd U o U' L rm.cells rm.slots)
theorem own_met {y : MethodName} {rm : Room} {as' : Array Value} {h0 : Heap} {Q : Option Value → Heap → Prop} (hp : plainFor y = true) (ls : Array Slot) (hef : ∀ m, entryFrame m as' maxL = mkF m 0 ls [])
    (H : ∀ (p : Program) (e : Env) (s : State) (m : MethodId) (below : List Frame) (meth : Method) (c : Code) (T : State), Bp p s m meth c Z y.cls cd maxL ret y.name → Az p l e rm s m as' below meth c n0 T h0 0 0 → Aj p e below (Cq s n0 Q rm.cells rm.slots) T (mkF m 0 ls [])) : Ag l Z y cd maxL ret rm n0 as' h0 Q := by
  intro ws
  refine MetFree.of_bodySF hp hisR ?_
  intro p e s m args below meth c s₁ Bd hml hP hK
  obtain ⟨rfl, hZ, hh⟩ := hP
  have e0 : s₁.heap = h0 := by rw [← hh, Bd.state]; rfl
  have G := H p e s m below meth c s₁ ⟨Bd.exec, Bd.bytes, hml, findClass_of_methodNamed Bd.named, (name_of_methodNamed Bd.named Bd.method).1, Bd.returns, BodyLoose.notSynchronized Bd, hZ⟩ ⟨_, _, _, Stand.of_body Bd, e0, Fr.nil n0, Nat.le_refl _, Nat.le_refl _⟩
  rw [← hef m] at G
  exact G
/-- who pays a call -/
abbrev Gi (l : Launch) (R : Room) (p : Program) (e : Env) (below : List Frame) (s : State) (args : Array Value) (y : MethodName) (len W : Nat) (as' : Array Value) (h : Heap) (k1 k2 : Nat) (Q : Option Value → Heap → List Loc → Prop) : Prop :=
  Back l R p e below s args y len W (fun P a => a = as' ∧ P.U.heap = h ∧ P.cells + k1 ≤ R.cells ∧ P.slots + k2 ≤ R.slots) (fun P _ v B => ∃ L, Q v B.U.heap L ∧ B.locs = P.locs ++ L ∧ B.cells = P.cells + k1 ∧ B.slots = P.slots + k2)
theorem Ag.pay {y : MethodName} {cdy : ByteArray} {maxy : Nat} {rety : Option FieldType} {rm : Room} {as' : Array Value} {Q : Option Value → Heap → Prop} (M : Ag l Z y cdy maxy rety rm n0 as' h Q) (C : Bp p s m meth c Z own cd maxL ret nm) {len : Nat} (W : Nat) (wc : (Jvm.Cond.code y cdy maxy rety).before a0 Z = true) (wz : (Jvm.Cond.initialized y.cls).before a0 Z = true) (hf : rm.frames + 1 ≤ R.frames) (hl : W + (maxy + 11) + rm.locals ≤ R.locals) :
    Gi l R p e below s args y len W as' h rm.cells rm.slots (fun v h' L => Q v h' ∧ Fr n0 L) := backOf (Q := fun v h' L => Q v h' ∧ Fr n0 L) (M []) C.2.2.2.2.2.2.2 wc wz hf hl
theorem own_callS (C : Bp p s m meth c Z own cd maxL ret nm) (S : Az p l e R s m args below meth c n0 T h cells slots) {y : MethodName} {index : Nat} {cdy : ByteArray} {maxy : Nat} {rety : Option FieldType} {W k1 k2 : Nat} {as' : Array Value} {Q : Option Value → Heap → List Loc → Prop}
    (w1 : (Jvm.Cond.methodLink own index y).before a0 Z = true) (w2 : (Jvm.Cond.static y).before a0 Z = true) (w3 : (Jvm.Cond.initialized y.cls).before a0 Z = true) (w4 : (Jvm.Cond.code y cdy maxy rety).before a0 Z = true) (hy : y.cls ≠ "java/lang/invoke/MethodHandle" ∧ y.cls ≠ "java/lang/invoke/VarHandle")
    (hK : Gi l R p e below s args y 3 W as' h k1 k2 Q) (hfr : ∀ v h' L, Q v h' L → Fr n0 L) (argsL rest : List Value) {ps : List FieldType} {rr : Option FieldType} (has : argsL.toArray = as') (hpd : parseMethodDescriptor y.desc = some ⟨ps, rr⟩) (hlen : argsL.length = ps.length) (hstk : st = argsL.reverse ++ rest) (hsz : ls.size = maxL) (hW : (rest.map fun v => v.category).sum ≤ W)
    (hc : cells + k1 ≤ R.cells) (hs : slots + k2 ≤ R.slots) (hd : decode cd pc = .ok (.invokestatic index, 3))
    (k : ∀ T' h' v L, Az p l e R s m args below meth c n0 T' h' (cells + k1) (slots + k2) → Q v h' L → Aj p e below En T' (mkF m (pc + 3) ls (v.toList ++ rest))) : Aj p e below En T (mkF m pc ls st) := by
  obtain ⟨locs, kk, nn, X, eT, N, q1, q2⟩ := S
  have hZ := C.2.2.2.2.2.2.2
  obtain ⟨v, vm1, B, -, X', ⟨L, hQ, l1, l2, l3⟩, stp⟩ := Jvm.LawKit.callS X C.1 C.2.2.2.1 (mvT hZ w1) (mvT hZ w2) (mvT hZ w3) (mvT hZ w4) hy hK (g := mkF m pc ls st) rfl (Ge C hsz) (argsL := argsL) (rest := rest) (lenOf hpd hlen) hstk (by show 2 * 0 + _ ≤ W; omega) (Cn C hd) (fun _ _ => ⟨has, eT, by show kk + k1 ≤ _; omega, by show nn + k2 ≤ _; omega⟩)
  refine Bm stp (k B.U _ v L ⟨B.locs, B.cells, B.slots, X', rfl, ?_, ?_, ?_⟩ hQ)
  · rw [l1]; exact Fr.app N (hfr _ _ _ hQ)
  · rw [l2]; show kk + k1 ≤ _; omega
  · rw [l3]; show nn + k2 ≤ _; omega
theorem Fp (C : Bp p s m meth c Z own cd maxL ret nm) (S : Az p l e R s m args below meth c n0 T h cells slots) {y : MethodName} {index : Nat} {cdy : ByteArray} {maxy : Nat} {W k1 k2 : Nat} {as' : Array Value} {Q : Option Value → Heap → List Loc → Prop}
    (hy1 : y.name = "<init>") (w1 : (Jvm.Cond.methodLink own index y).before a0 Z = true) (w2 : (Jvm.Cond.instanceMethod y).before a0 Z = true) (w4 : (Jvm.Cond.code y cdy maxy none).before a0 Z = true) (hy : y.cls ≠ "java/lang/invoke/MethodHandle" ∧ y.cls ≠ "java/lang/invoke/VarHandle")
    (hK : Gi l R p e below s args y 3 W as' h k1 k2 Q) (hfr : ∀ v h' L, Q v h' L → Fr n0 L) {a : Addr} (argsL rest : List Value) {ps : List FieldType} {rr : Option FieldType} (has : (.ref a :: argsL).toArray = as') (hpd : parseMethodDescriptor y.desc = some ⟨ps, rr⟩) (hlen : argsL.length = ps.length) (hstk : st = argsL.reverse ++ .ref a :: rest) (hsz : ls.size = maxL) (hW : (rest.map fun v => v.category).sum ≤ W)
    (hc : cells + k1 ≤ R.cells) (hs : slots + k2 ≤ R.slots) (hd : decode cd pc = .ok (.invokespecial index, 3))
    (k : ∀ T' h' v L, Az p l e R s m args below meth c n0 T' h' (cells + k1) (slots + k2) → Q v h' L → Aj p e below En T' (mkF m (pc + 3) ls (v.toList ++ rest))) : Aj p e below En T (mkF m pc ls st) := by
  obtain ⟨locs, kk, nn, X, eT, N, q1, q2⟩ := S
  have hZ := C.2.2.2.2.2.2.2
  obtain ⟨v, vm1, B, -, X', ⟨L, hQ, l1, l2, l3⟩, stp⟩ := X.specialBack C.1 hy1 C.2.2.2.1 (mvT hZ w1) (mvT hZ w2) (mvT hZ w4) hy hK (g := mkF m pc ls st) rfl (Ge C hsz) (Steps.refl _) (a := a) (argsL := argsL) (rest := rest) (lenOf hpd hlen) hstk (by show 2 * 0 + _ ≤ W; omega) (Cn C hd) (fun _ _ => ⟨has, eT, by show kk + k1 ≤ _; omega, by show nn + k2 ≤ _; omega⟩)
  refine Bm (fun t k => stp.trans k) (k B.U _ v L ⟨B.locs, B.cells, B.slots, X', rfl, ?_, ?_, ?_⟩ hQ)
  · rw [l1]; exact Fr.app N (hfr _ _ _ hQ)
  · rw [l2]; show kk + k1 ≤ _; omega
  · rw [l3]; show nn + k2 ≤ _; omega
theorem own_nf {args : Array Value} {s : State} {C : String} {y y' : MethodName} (hyc : y'.cls = y.cls) (hsel : (Jvm.Cond.selects C y' y').before args s = true) : NotFace s y := fun r0 h0 => by
  obtain ⟨c2, r2, m2, q1, q2, q3, q4, kP, hkP, hkPi⟩ := Cond.selects_spec hsel
  have e1 := findClass_of_methodNamed h0
  have e2 := findClass_of_methodNamed q3
  rw [hyc, e1] at e2
  rw [Option.some.inj e2]
  exact ⟨kP, hkP, hkPi⟩
theorem own_callV (C : Bp p s m meth c Z own cd maxL ret nm) (S : Az p l e R s m args below meth c n0 T h cells slots) {y z : MethodName} {Cl : String} {index : Nat} {W k1 k2 : Nat} {as' : Array Value} {Q : Option Value → Heap → List Loc → Prop}
    (w1 : (Jvm.Cond.methodLink own index y).before a0 Z = true) (w2 : (Jvm.Cond.declares y).before a0 Z = true) (w3 : (Jvm.Cond.selects Cl y z).before a0 Z = true) {Cl' : String} {y' : MethodName} (w3' : (Jvm.Cond.selects Cl' y' y').before a0 Z = true) (hyc : y'.cls = y.cls) (w4 : (Jvm.Cond.instanceMethod z).before a0 Z = true) (hy : y.cls ≠ "java/lang/invoke/MethodHandle" ∧ y.cls ≠ "java/lang/invoke/VarHandle")
    (hK : Gi l R p e below s args z 3 W as' h k1 k2 Q) (hfr : ∀ v h' L, Q v h' L → Fr n0 L) {a : Addr} (E : Exa Z h a Cl) (argsL rest : List Value) {ps : List FieldType} {rr : Option FieldType} (has : (.ref a :: argsL).toArray = as') (hpd : parseMethodDescriptor y.desc = some ⟨ps, rr⟩) (hlen : argsL.length = ps.length) (hstk : st = argsL.reverse ++ .ref a :: rest) (hsz : ls.size = maxL) (hW : (rest.map fun v => v.category).sum ≤ W)
    (hc : cells + k1 ≤ R.cells) (hs : slots + k2 ≤ R.slots) (hd : decode cd pc = .ok (.invokevirtual index, 3))
    (k : ∀ T' h' v L, Az p l e R s m args below meth c n0 T' h' (cells + k1) (slots + k2) → Q v h' L → Aj p e below En T' (mkF m (pc + 3) ls (v.toList ++ rest))) : Aj p e below En T (mkF m pc ls st) := by
  obtain ⟨locs, kk, nn, X, eT, N, q1, q2⟩ := S
  have hZ := C.2.2.2.2.2.2.2
  obtain ⟨cq, kq, qa, qb, qc⟩ := isOf (T := T) hZ eT E
  obtain ⟨v, vm1, B, -, X', ⟨L, hQ, l1, l2, l3⟩, stp⟩ := X.virtualBack C.1 C.2.2.2.1 (mvT hZ w1) (mvT hZ w2) (own_nf (args := #[]) hyc (mvT hZ w3')) (mvT hZ w3) (mvT hZ w4) hy hK qa qc (g := mkF m pc ls st) rfl (Ge C hsz) (Steps.refl _) (argsL := argsL) (rest := rest) (lenOf hpd hlen) hstk (by show 2 * 0 + _ ≤ W; omega) (Cn C hd) (fun _ _ => ⟨has, eT, by show kk + k1 ≤ _; omega, by show nn + k2 ≤ _; omega⟩)
  refine Bm (fun t k => stp.trans k) (k B.U _ v L ⟨B.locs, B.cells, B.slots, X', rfl, ?_, ?_, ?_⟩ hQ)
  · rw [l1]; exact Fr.app N (hfr _ _ _ hQ)
  · rw [l2]; show kk + k1 ≤ _; omega
  · rw [l3]; show nn + k2 ≤ _; omega
theorem Bq (C : Bp p s m meth c Z own cd maxL ret nm) (S : Az p l e R s m args below meth c n0 T h cells slots) {y : MethodName} {index : Nat} {cdy : ByteArray} {maxy : Nat} {rety : Option FieldType} {W k1 k2 : Nat} {as' : Array Value} {Q : Option Value → Heap → List Loc → Prop}
    (w1 : (Jvm.Cond.methodLink own index y).before a0 Z = true) (w2 : (Jvm.Cond.instanceMethod y).before a0 Z = true) (w3 : (Jvm.Cond.selects y.cls y y).before a0 Z = true) (w4 : (Jvm.Cond.privateMethod y).before a0 Z = true) (w5 : (Jvm.Cond.code y cdy maxy rety).before a0 Z = true) (hy : y.cls ≠ "java/lang/invoke/MethodHandle" ∧ y.cls ≠ "java/lang/invoke/VarHandle")
    (hK : Gi l R p e below s args y 3 W as' h k1 k2 Q) (hfr : ∀ v h' L, Q v h' L → Fr n0 L) {a : Addr} {Cl : String} (E : Exa Z h a Cl) (argsL rest : List Value) {ps : List FieldType} {rr : Option FieldType} (has : (.ref a :: argsL).toArray = as') (hpd : parseMethodDescriptor y.desc = some ⟨ps, rr⟩) (hlen : argsL.length = ps.length) (hstk : st = argsL.reverse ++ .ref a :: rest) (hsz : ls.size = maxL) (hW : (rest.map fun v => v.category).sum ≤ W)
    (hc : cells + k1 ≤ R.cells) (hs : slots + k2 ≤ R.slots) (hd : decode cd pc = .ok (.invokevirtual index, 3))
    (k : ∀ T' h' v L, Az p l e R s m args below meth c n0 T' h' (cells + k1) (slots + k2) → Q v h' L → Aj p e below En T' (mkF m (pc + 3) ls (v.toList ++ rest))) : Aj p e below En T (mkF m pc ls st) := by
  obtain ⟨locs, kk, nn, X, eT, N, q1, q2⟩ := S
  have hZ := C.2.2.2.2.2.2.2
  obtain ⟨cl, hcl, hns⟩ := E.cell
  obtain ⟨v, vm1, B, -, X', ⟨L, hQ, l1, l2, l3⟩, stp⟩ := X.privateBack C.1 C.2.2.2.1 (mvT hZ w1) (mvT hZ w2) (mvT hZ w3) (Cond.privateMethod_at (mvP (args := args) hZ w4)) (mvT hZ w5) hy hK (g := mkF m pc ls st) rfl (Ge C hsz) (Steps.refl _) (a := a) (cell := cl) (by rw [eT]; exact hcl) hns (argsL := argsL) (rest := rest) (lenOf hpd hlen) hstk (by show 2 * 0 + _ ≤ W; omega) (Cn C hd) (fun _ _ => ⟨has, eT, by show kk + k1 ≤ _; omega, by show nn + k2 ≤ _; omega⟩)
  refine Bm (fun t k => stp.trans k) (k B.U _ v L ⟨B.locs, B.cells, B.slots, X', rfl, ?_, ?_, ?_⟩ hQ)
  · rw [l1]; exact Fr.app N (hfr _ _ _ hQ)
  · rw [l2]; show kk + k1 ≤ _; omega
  · rw [l3]; show nn + k2 ≤ _; omega
/-- ireturn of a byte -/
theorem own_retB (C : Bp p s m meth c Z own cd maxL (some .byte) nm) (S : Az p l e R s m args below meth c n0 T h cells slots) {z : Int32} (hd : decode cd pc = .ok (.ireturn, 1)) (hz : z.toInt8.toInt32 = z) (hc : cells ≤ kc) (hs : slots ≤ ks) (hF : F (some (.int z)) h) : Aj p e below (Cq s n0 F kc ks) T (mkF m pc ls (.int z :: st)) :=
  Gh C S hd (by show Value.int (z.toInt8.toInt32) = _; rw [hz]) (Or.inl ⟨rfl, by simp, z, rfl⟩) hc hs hF
end OwnKit

section OwnKitW
open Jvm.Free.SB Jvm.Free.SBG
variable {p : Program} {l : Launch} {e : Env} {R : Room} {s : State} {m : MethodId} {args : Array Value} {below : List Frame} {meth : Method} {c : Code} {T : State} {locs : List Loc} {cells slots : Nat} {Z : State} {a0 : Array Value} {h : Heap} {own : String} {cd : ByteArray} {maxL : Nat} {ret : Option FieldType} {nm : String} {n0 : Nat} {F : Option Value → Heap → Prop} {kc ks : Nat} {En : Outcome → State → Prop} {pc : Nat} {ls : Array Slot} {st : List Value} {EL : List (String × Nat)} {G : List Addr}
def Dl (p : Program) (meth : Method) (c : Code) (Z : State) (a0 : Array Value) (EL : List (String × Nat)) (cd : ByteArray) (maxL : Nat) (ret : Option FieldType) (nm : String) : Prop :=
  p.tables.exec = Jvm.exec ∧ c.code = cd ∧ c.maxLocals = maxL ∧ meth.name = nm ∧ meth.sig.returnType = ret ∧ meth.locks = false ∧ EW Z a0 EL ∧ ∀ a ∈ Bundle.stringAtoms, a.before a0 Z = true
def own_SW (p : Program) (l : Launch) (e : Env) (R : Room) (s : State) (m : MethodId) (args : Array Value) (below : List Frame) (meth : Method) (c : Code) (n0 : Nat) (Z : State) (EL : List (String × Nat)) (own : String) (T : State) (h : Heap) (G : List Addr) (cells slots : Nat) : Prop :=
  ∃ vm0 k0, Az p l e R (s.setVm vm0) m args below meth c n0 T h cells slots ∧ s.Since vm0 k0 ∧ k0 ≤ h.size ∧ Z.Warmed39 vm0 ∧ vm0.findClass own = some m.cls ∧ CHr Z EL s.vm s.heap vm0 h ∧ ∀ x ∈ G, x < h.size ∧ Safe Z EL vm0 h x
/-- an object of another class than String and byte[] is safe -/
theorem own_SW.addE (S : own_SW p l e R s m args below meth c n0 Z EL own T h G cells slots) {a : Addr} {C : String} (E : Exa Z h a C) (h1 : C ≠ "java/lang/String") (h2 : C ≠ "[B") : own_SW p l e R s m args below meth c n0 Z EL own T h (a :: G) cells slots := by
  obtain ⟨vm0, k0, S0, hS, hk, hZ, ho, hC, hG⟩ := S
  refine ⟨vm0, k0, S0, hS, hk, hZ, ho, hC, fun x hx => ?_⟩
  rcases List.mem_cons.mp hx with rfl | hx
  · exact ⟨E.lt, Safe.exa hZ.alike E h1 h2⟩
  · exact hG x hx
theorem own_books {vm : Vm} {own text : String} {index : Nat} {a : Addr} {mc : ClassId} (hW : Z.Warmed39 vm) (ho : vm.findClass own = some mc) (w : (Jvm.Cond.stringLink own index text).before a0 Z = true) (L : Lit (s.setVm vm) own index a) : ∃ u, Booksv vm own index u a := by
  obtain ⟨k0, cf, i, u, h1, h2, h3, h4, -⟩ := Cond.stringLink_spec (args := a0) (s := Wst Z vm Z.heap) ho (mvS (s := Wst Z vm Z.heap) (args := a0) hW w)
  have h1' : vm.classes[mc]? = some k0 := h1
  have q : (s.setVm vm).resolvedAt? own index = some (.string a) := L
  simp only [State.resolvedAt?, Option.bind_eq_bind] at q
  rw [show (s.setVm vm).vm.findClass own = some mc from ho] at q
  simp only [Option.bind_some] at q
  rw [show (s.setVm vm).vm.classes[mc]? = some k0 from h1'] at q
  simp only [Option.bind_some] at q
  refine ⟨u, mc, k0, cf, i, ho, h1', h2, h3, h4, Or.inl ?_⟩
  cases hr : k0.resolved[index]? with
  | none => rw [hr] at q; cases q
  | some o => rw [hr] at q; cases o with
    | none => cases q
    | some r => simpa using q
end OwnKitW
section OwnKitP
open Jvm.Free.SB Jvm.Free.SBG
variable {p : Program} {l : Launch} {e : Env} {R : Room} {s : State} {m : MethodId} {args : Array Value} {below : List Frame} {meth : Method} {c : Code} {T : State} {locs : List Loc} {cells slots : Nat} {Z : State} {a0 : Array Value} {h : Heap} {own : String} {cd : ByteArray} {maxL : Nat} {ret : Option FieldType} {nm : String} {n0 : Nat} {F : Option Value → Heap → Prop} {kc ks : Nat} {En : Outcome → State → Prop} {pc : Nat} {ls : Array Slot} {st : List Value} {EL : List (String × Nat)} {G : List Addr} {CL : List (String × Nat × Nat)} {P1 P2 : Nat} {fC fS : Vm → Nat}
def own_bkB (Z : State) (vm : Vm) (o : String) (i : Nat) : Bool := match (Z.setVm vm).resolvedAt? o i with
  | some (.string _) => true
  | _ => false
def Cp (Z : State) (vm : Vm) (o : String) (i : Nat) : Prop := ∃ a, Lit (Z.setVm vm) o i a
theorem own_bk_iff {vm : Vm} {o : String} {i : Nat} : own_bkB Z vm o i = true ↔ Cp Z vm o i := by
  unfold own_bkB Cp Lit
  cases hr : (Z.setVm vm).resolvedAt? o i with
  | none => simp
  | some r => cases r <;> simp
instance own_bk_dec (Z : State) (vm : Vm) (o : String) (i : Nat) : Decidable (Cp Z vm o i) := decidable_of_iff _ own_bk_iff
def Dz (Z : State) (vm : Vm) (f : String × Nat × Nat → Nat) : List (String × Nat × Nat) → Nat
  | [] => 0
  | x :: r => (if Cp Z vm x.1 x.2.1 then 0 else f x) + Dz Z vm f r
def Ci (Z : State) (CL : List (String × Nat × Nat)) (vm : Vm) : Nat := Dz Z vm (fun _ => 2) CL
def Cj (Z : State) (CL : List (String × Nat × Nat)) (vm : Vm) : Nat := Dz Z vm (fun x => x.2.2) CL
theorem Cp.stays {vm vm' : Vm} {t : State} {o : String} {i : Nat} (hW : (t.setVm vm).Warmed39 vm') (b : Cp Z vm o i) : Cp Z vm' o i := by
  obtain ⟨a, L⟩ := b
  exact ⟨a, (Lit.stays (s := t) (vm0 := vm) L hW : Lit (t.setVm vm') o i a)⟩
theorem Es {vm vm' : Vm} {f : String × Nat × Nat → Nat} (hb : ∀ o i, Cp Z vm o i → Cp Z vm' o i) : ∀ L, Dz Z vm' f L ≤ Dz Z vm f L
  | [] => Nat.le_refl _
  | x :: r => by
    have ih := Es (f := f) hb r
    unfold Dz
    by_cases h : Cp Z vm x.1 x.2.1
    · rw [if_pos h, if_pos (hb _ _ h)]; omega
    · rw [if_neg h]; split <;> omega
theorem Ec {vm vm' : Vm} {f : String × Nat × Nat → Nat} (hb : ∀ o i, Cp Z vm o i → Cp Z vm' o i) {x : String × Nat × Nat} (h0 : ¬ Cp Z vm x.1 x.2.1) (h1 : Cp Z vm' x.1 x.2.1) : ∀ L, x ∈ L → Dz Z vm' f L + f x ≤ Dz Z vm f L
  | [], hx => nomatch hx
  | y :: r, hx => by
    have ih := Es (f := f) hb r
    unfold Dz
    rcases List.mem_cons.mp hx with rfl | hx
    · rw [if_pos h1, if_neg h0]; omega
    · have ih2 := Ec (f := f) hb h0 h1 r hx
      by_cases h : Cp Z vm y.1 y.2.1
      · rw [if_pos h, if_pos (hb _ _ h)]; omega
      · rw [if_neg h]; split <;> omega
theorem Fx {vm : Vm} {f : String × Nat × Nat → Nat} {x : String × Nat × Nat} (h0 : ¬ Cp Z vm x.1 x.2.1) : ∀ L, x ∈ L → f x ≤ Dz Z vm f L
  | [], hx => nomatch hx
  | y :: r, hx => by
    unfold Dz
    rcases List.mem_cons.mp hx with rfl | hx
    · rw [if_neg h0]; omega
    · have ih := Fx (f := f) h0 r hx
      omega
theorem own_since {vm0 vm1 : Vm} {k0 k1 n : Nat} (hS : s.Since vm0 k0) (hS' : (s.setVm vm0).Since vm1 k1) (h0 : k0 ≤ n) (h1 : k1 ≤ n) : s.Since vm1 n :=
  hS.trans ⟨hS'.1, fun j p hj hp => by obtain ⟨x, y⟩ := hS'.2 j p hj hp; exact ⟨x, Nat.lt_of_lt_of_le y h1⟩⟩ h0
theorem Eg {x y P a b : Nat} (hP : x ≤ P) (h : a ≤ b) : (x - y) + a ≤ P + b := by omega
def Dw (Z : State) (CL : List (String × Nat × Nat)) (fC fS : Vm → Nat) : Prop := (∀ vm, fC vm = Ci Z CL vm) ∧ ∀ vm, fS vm = Cj Z CL vm
theorem Dw.eq (h : Dw Z CL fC fS) : fC = Ci Z CL ∧ fS = Cj Z CL := ⟨funext h.1, funext h.2⟩
def Bz (p : Program) (l : Launch) (e : Env) (R : Room) (s : State) (m : MethodId) (args : Array Value) (below : List Frame) (meth : Method) (c : Code) (n0 : Nat) (Z : State) (EL : List (String × Nat)) (fC fS : Vm → Nat) (own : String) (T : State) (h : Heap) (G : List Addr) (cells slots : Nat) : Prop :=
  ∃ vm0 k0, Az p l e R (s.setVm vm0) m args below meth c n0 T h ((fC s.vm - fC vm0) + cells) ((fS s.vm - fS vm0) + slots) ∧ fC vm0 ≤ fC s.vm ∧ fS vm0 ≤ fS s.vm ∧
    s.Since vm0 k0 ∧ k0 ≤ h.size ∧ Z.Warmed39 vm0 ∧ vm0.findClass own = some m.cls ∧ CHr Z EL s.vm s.heap vm0 h ∧ ∀ x ∈ G, x < h.size ∧ Safe Z EL vm0 h x
theorem Bz.addE (S : Bz p l e R s m args below meth c n0 Z EL fC fS own T h G cells slots) {a : Addr} {C : String} (E : Exa Z h a C) (h1 : C ≠ "java/lang/String") (h2 : C ≠ "[B") : Bz p l e R s m args below meth c n0 Z EL fC fS own T h (a :: G) cells slots := by
  obtain ⟨vm0, k0, S0, p1, p2, hS, hk, hZ, ho, hC, hG⟩ := S
  refine ⟨vm0, k0, S0, p1, p2, hS, hk, hZ, ho, hC, fun x hx => ?_⟩
  rcases List.mem_cons.mp hx with rfl | hx
  · exact ⟨E.lt, Safe.exa hZ.alike E h1 h2⟩
  · exact hG x hx
/-- between two loads the walk is a narrow one -/
theorem Ai (C : Dl p meth c Z a0 EL cd maxL ret nm) (S : Bz p l e R s m args below meth c n0 Z EL fC fS own T h G cells slots) {g : JFrame}
    (k : ∀ vm0, Bp p (s.setVm vm0) m meth c Z own cd maxL ret nm → Az p l e R (s.setVm vm0) m args below meth c n0 T h ((fC s.vm - fC vm0) + cells) ((fS s.vm - fS vm0) + slots) →
      (∀ T' h' c' s' ws N, Az p l e R (s.setVm vm0) m args below meth c n0 T' h' ((fC s.vm - fC vm0) + c') ((fS s.vm - fS vm0) + s') → Keep h h' ws → (∀ x ∈ ws, x ∈ G) → (∀ x ∈ N, h.size ≤ x ∧ x < h'.size) → Bz p l e R s m args below meth c n0 Z EL fC fS own T' h' (N ++ G) c' s') → Aj p e below En T g) : Aj p e below En T g := by
  obtain ⟨vm0, k0, S0, p1, p2, hS, hk, hZ, ho, hC, hG⟩ := S
  refine k vm0 ⟨C.1, C.2.1, C.2.2.1, ho, C.2.2.2.1, C.2.2.2.2.1, C.2.2.2.2.2.1, hZ⟩ S0 fun T' h' c' s' ws N S' K hws hN => ?_
  have hs : ∀ x ∈ ws, Safe Z EL vm0 h x := fun x hx => (hG x (hws x hx)).2
  refine ⟨vm0, k0, S', p1, p2, hS, Nat.le_trans hk K.1, hZ, ho, hC.trans (CHr.keep K hs hC.1), fun x hx => ?_⟩
  rcases List.mem_append.mp hx with hx | hx
  · exact ⟨(hN x hx).2, Safe.keep K hs hC.1 (Safe.new (hN x hx).1)⟩
  · exact ⟨Nat.lt_of_lt_of_le (hG x hx).1 K.1, Safe.keep K hs hC.1 (hG x hx).2⟩
/-- ldc of a String constant of CL: which text it is isn't said -/
theorem own_ldcPO (C : Dl p meth c Z a0 EL cd maxL ret nm) (S : Bz p l e R s m args below meth c n0 Z EL fC fS own T h G cells slots) (hFP : Dw Z CL fC fS) {index : Nat} {text : String} (w : (Jvm.Cond.stringLink own index text).before a0 Z = true)
    (hd : decode cd pc = .ok (.ldc index, 2)) (n : Nat) (hn : 4 * text.toList.length ≤ n) (hbig : n ≤ 536870912) (hCL : (own, index, n + 4) ∈ CL) (hP1 : fC s.vm ≤ P1) (hP2 : fS s.vm ≤ P2) (hc : P1 + cells ≤ R.cells) (hl' : P2 + slots ≤ R.slots)
    (k : ∀ T' h' a, Bz p l e R s m args below meth c n0 Z EL fC fS own T' h' G cells slots → Ext h h' → Aj p e below En T' (mkF m (pc + 2) ls (.ref a :: st))) : Aj p e below En T (mkF m pc ls st) := by
  obtain ⟨eC, eS⟩ := hFP.eq
  subst eC eS
  obtain ⟨vm0, k0, ⟨locs, kk, nn, X, eT, N, q1, q2⟩, p1, p2, hS, hk, hZ, ho, hC, hG⟩ := S
  by_cases hb : Cp Z vm0 own index
  · obtain ⟨a, L⟩ := hb
    exact Bm (ldcAgain X C.1 hZ ho w (a := a) L (g := mkF m pc ls st) rfl (by rw [C.2.1]; exact hd)) (k T h a ⟨vm0, k0, ⟨locs, kk, nn, X, eT, N, q1, q2⟩, p1, p2, hS, hk, hZ, ho, hC, hG⟩ ⟨Nat.le_refl _, fun _ _ q => q⟩)
  · have g1 : 2 ≤ Ci Z CL vm0 := Fx (f := fun _ => 2) (x := (own, index, n + 4)) hb CL hCL
    have g2 : n + 4 ≤ Cj Z CL vm0 := Fx (f := fun x => x.2.2) (x := (own, index, n + 4)) hb CL hCL
    obtain ⟨a, T', h', k1, X', e', E, hS', hk', hZ', ho', hC', hL, stp⟩ := ldcOH (s := s.setVm vm0) X C.1 hZ ho w C.2.2.2.2.2.2.2 eT ((State.WarmedH.refl (s.setVm vm0)).since h.size) (Nat.le_refl _) C.2.2.2.2.2.2.1 hC.1 (g := mkF m pc ls st) rfl (by rw [C.2.1]; exact hd) hn hbig (by omega) (by omega)
    have hbk : ∀ o i, Cp Z vm0 o i → Cp Z T'.vm o i := fun o i b => Cp.stays (t := s) hS'.1 b
    have b1 : Cp Z T'.vm own index := ⟨a, hL⟩
    have r1 : Ci Z CL T'.vm + 2 ≤ Ci Z CL vm0 := Ec (f := fun _ => 2) hbk (x := (own, index, n + 4)) hb b1 CL hCL
    have r2 : Cj Z CL T'.vm + (n + 4) ≤ Cj Z CL vm0 := Ec (f := fun x => x.2.2) hbk (x := (own, index, n + 4)) hb b1 CL hCL
    have hG' : ∀ x ∈ G, x < h'.size ∧ Safe Z EL T'.vm h' x := fun x hx => ⟨Nat.lt_of_lt_of_le (hG x hx).1 E.1, hC'.safe (hG x hx).1 (hG x hx).2⟩
    exact Bm stp (k T' h' a ⟨T'.vm, h'.size, ⟨locs, _, _, X', e', N, by omega, by omega⟩, by omega, by omega, own_since hS hS' (Nat.le_trans hk E.1) hk', Nat.le_refl _, hZ', ho', hC.trans hC', hG'⟩ E)
theorem own_dnE {h' : Heap} {a : Addr} {C : String} {cell : Cell} (E : Ext h h') (hc : h[a]? = some cell) (X : Exa Z h' a C) : Exa Z h a C := by
  obtain ⟨c2, k, e1, r⟩ := X
  have q := E.2 _ _ hc
  rw [q] at e1; cases e1
  exact ⟨cell, k, hc, r⟩
theorem own_dnF {h' : Heap} {a : Addr} {C n d : String} {v : Value} {cell : Cell} (E : Ext h h') (hc : h[a]? = some cell) (X : Fld Z h' a C n d v) : Fld Z h a C n d v := by
  obtain ⟨c2, cf, k, i, f, e1, r⟩ := X
  have q := E.2 _ _ hc
  rw [q] at e1; cases e1
  exact ⟨cell, cf, k, i, f, hc, r⟩
theorem own_dnA {h' : Heap} {a : Addr} {k : ClassId} {ty : FieldType} {z : Int32} {vs : List Value} {dv : Value} {cell : Cell} (E : Ext h h') (hc : h[a]? = some cell) (X : Arv Z h' a k ty z vs dv) : Arv Z h a k ty z vs dv := by
  obtain ⟨c2, A, r⟩ := X
  have q := E.2 _ _ hc
  have e1 := A.1
  rw [q] at e1; cases e1
  exact ⟨cell, ⟨hc, A.2⟩, r⟩
theorem own_litQ {vm : Vm} {u : Array UInt16} {q : SQ} {b : Addr} (hal : Z.vm.Alike vm) (F : SlB (Wst Z vm h) q u) (V : Fld Z h q.sa "java/lang/String" "value" "[B" (.ref b)) : q.sd = b := by
  have ha := F.ha
  obtain ⟨cS, ⟨⟨-, -, -, ⟨c1, k1, i1, f1, -⟩, -, -, -, v1, -⟩, -⟩, -, hb, -⟩ := F
  obtain ⟨cell, cf, k, i, f, e1, e2, -, -, -, -, e3⟩ := V
  have ec : cell = q.sC := Option.some.inj (e1.symm.trans ha)
  obtain ⟨k', z4⟩ := ff_back (U := Wst Z vm h) hal f1
  have e4 := e2.symm.trans z4
  simp only [Option.some.injEq, Prod.mk.injEq] at e4
  rw [ec, e4.2.2.2, v1] at e3
  simpa using e3
/-- ldc of a String constant of EL and CL, read -/
theorem Ea (C : Dl p meth c Z a0 EL cd maxL ret nm) (S : Bz p l e R s m args below meth c n0 Z EL fC fS own T h G cells slots) (hFP : Dw Z CL fC fS) {index : Nat} {text : String} (w : (Jvm.Cond.stringLink own index text).before a0 Z = true) (hmem : (own, index) ∈ EL) {vs : List Value} {z : Int32} (ht : (∀ c ∈ text.toList, c.toNat < 256) ∧ text.toList.map (fun c => Value.int (Jvm.Lit.byteI c.toNat.toUInt16)) = vs) (hz : ¬ z < 0) (hl : z.toNatClampNeg = vs.length)
    (hd : decode cd pc = .ok (.ldc index, 2)) (n : Nat) (hn : 4 * text.toList.length ≤ n) (hbig : n ≤ 536870912) (hCL : (own, index, n + 4) ∈ CL) (hP1 : fC s.vm ≤ P1) (hP2 : fS s.vm ≤ P2) (hc : P1 + (cells + 2) ≤ R.cells) (hl' : P2 + (slots + (n + 4)) ≤ R.slots)
    (k : ∀ T' h' a b kb, Bz p l e R s m args below meth c n0 Z EL fC fS own T' h' G cells slots → Ext h h' → Exa Z h' a "java/lang/String" → Fld Z h' a "java/lang/String" "coder" "B" (.int 0) → Fld Z h' a "java/lang/String" "value" "[B" (.ref b) → Arv Z h' b kb .byte z vs (.int 0) → (∀ x ∈ G, x ≠ a ∧ x ≠ b) → Aj p e below En T' (mkF m (pc + 2) ls (.ref a :: st))) : Aj p e below En T (mkF m pc ls st) := by
  obtain ⟨eC, eS⟩ := hFP.eq
  subst eC eS
  obtain ⟨vm0, k0, ⟨locs, kk, nn, X, eT, N, q1, q2⟩, p1, p2, hS, hk, hZ, ho, hC, hG⟩ := S
  obtain ⟨a, T', h', k1, b, kb, X', e', E, hS', hk', hZ', ho', x1, x2, x3, x4, x5, x6, hC', hL, hne, stp⟩ := ldcCH (s := s.setVm vm0) X C.1 hZ ho w C.2.2.2.2.2.2.2 eT ((State.WarmedH.refl (s.setVm vm0)).since h.size) (Nat.le_refl _) C.2.2.2.2.2.2.1 hmem hC.1 ht hz hl (g := mkF m pc ls st) rfl (by rw [C.2.1]; exact hd) hn hbig (by omega) (by omega)
  by_cases hb : Cp Z vm0 own index
  · obtain ⟨a', L⟩ := hb
    have L' : Lit (s.setVm vm0) own index a' := L
    have L2 : Lit (s.setVm T'.vm) own index a' := Lit.stays (s := s) (vm0 := vm0) L' hS'.1
    have ea : a' = a := by
      have r1 : (s.setVm T'.vm).resolvedAt? own index = some (.string a') := L2
      have r2 : (s.setVm T'.vm).resolvedAt? own index = some (.string a) := hL
      rw [r1] at r2
      simpa using r2
    subst ea
    obtain ⟨u, hB⟩ := own_books (s := s) hZ ho w L'
    obtain ⟨q, hq, F⟩ := SlB.of (hC.1 _ hmem u a' hB)
    have hS3 : ∀ x, Safe Z EL vm0 h x → x ≠ q.sa ∧ x ≠ q.sd := fun x Sx => ⟨fun e1 => Sx ⟨_, hmem, u, a', hB, q, hq, F, Or.inl e1⟩, fun e1 => Sx ⟨_, hmem, u, a', hB, q, hq, F, Or.inr e1⟩⟩
    subst hq
    have ha := F.ha
    have hd2 := F.hd
    have y3 := own_dnF E ha x3
    have eb : q.sd = b := own_litQ hZ.alike F y3
    subst eb
    exact Bm (ldcAgain X C.1 hZ ho w (a := q.sa) L' (g := mkF m pc ls st) rfl (by rw [C.2.1]; exact hd)) (k T h q.sa q.sd kb ⟨vm0, k0, ⟨locs, kk, nn, X, eT, N, q1, q2⟩, p1, p2, hS, hk, hZ, ho, hC, hG⟩ ⟨Nat.le_refl _, fun _ _ q => q⟩ (own_dnE E ha x1) (own_dnF E ha x2) y3 (own_dnA E hd2 x4) fun x hx => hS3 x (hG x hx).2)
  · have hbk : ∀ o i, Cp Z vm0 o i → Cp Z T'.vm o i := fun o i b => Cp.stays (t := s) hS'.1 b
    have b1 : Cp Z T'.vm own index := ⟨a, hL⟩
    have r1 : Ci Z CL T'.vm + 2 ≤ Ci Z CL vm0 := Ec (f := fun _ => 2) hbk (x := (own, index, n + 4)) hb b1 CL hCL
    have r2 : Cj Z CL T'.vm + (n + 4) ≤ Cj Z CL vm0 := Ec (f := fun x => x.2.2) hbk (x := (own, index, n + 4)) hb b1 CL hCL
    have hG' : ∀ x ∈ G, x < h'.size ∧ Safe Z EL T'.vm h' x := fun x hx => ⟨Nat.lt_of_lt_of_le (hG x hx).1 E.1, hC'.safe (hG x hx).1 (hG x hx).2⟩
    exact Bm stp (k T' h' a b kb ⟨T'.vm, h'.size, ⟨locs, _, _, X', e', N, by omega, by omega⟩, by omega, by omega, own_since hS hS' (Nat.le_trans hk E.1) hk', Nat.le_refl _, hZ', ho', hC.trans hC', hG'⟩ E x1 x2 x3 x4 fun x hx => hne x (hG' x hx).2)
theorem own_selfI {y : MethodName} {n : Nat} (w1 : (Jvm.Cond.instanceMethod y).before a0 Z = true) (w2 : (Jvm.Cond.privateMethod y).before a0 Z = true) (w3 : (Jvm.Cond.instantiable y.cls n).before a0 Z = true) (hy : y.cls ≠ "java/lang/invoke/MethodHandle" ∧ y.cls ≠ "java/lang/invoke/VarHandle") : (Jvm.Cond.selects y.cls y y).before a0 Z = true := by
  obtain ⟨c, k, h1, h2, -, h3, -, -⟩ := Cond.instantiable_spec w3
  exact selects_self_of_private h1 h2 (by cases hi : k.isInterface with | false => rfl | true => simp [hi] at h3) (Cond.privateMethod_at w2) w1 hy
theorem By (C : Bp p s m meth c Z own cd maxL ret nm) (S : Az p l e R s m args below meth c n0 T h cells slots) {a : Addr} {ka : ClassId} {N j : Int32} {vs : List Value} {dv : Value} (FF : Arv Z h a ka .long N vs dv) (hin : ¬ j < 0 ∧ j < N) (v : Value) (hv : vs.getD j.toNatClampNeg dv = v) (hd : decode cd pc = .ok (.laload, 1)) (k : Aj p e below En T (mkF m (pc + 1) ls (v :: st))) : Aj p e below En T (mkF m pc ls (.int j :: .ref a :: st)) := by
  obtain ⟨locs, kk, nn, X, eT, -⟩ := S
  obtain ⟨cl, A, -, sz, hN, H, -⟩ := FF
  exact Bm (fun t k => X.laload C.1 (by rw [eT]; exact A.1) (State.isArrayOf_alike C.2.2.2.2.2.2.2.alike A.2.1) A.2.2 (inb_of sz hin) (Has.at H (inb_of sz hin) hv) (g := mkF m pc ls (.int j :: .ref a :: st)) rfl rfl (Cn C hd) t k) k
theorem Dx (C : Bp p s m meth c Z own cd maxL ret nm) (S : Az p l e R s m args below meth c n0 T h cells slots) {a : Addr} {ka : ClassId} {N j : Int32} {x : Int64} {vs : List Value} {dv : Value} (FF : Arv Z h a ka .long N vs dv) (hin : ¬ j < 0 ∧ j < N) (i : Nat) (hj : j.toNatClampNeg = i) (hi : i < vs.length) (hge : n0 ≤ a) (hd : decode cd pc = .ok (.lastore, 1))
    (k : ∀ T' h', Az p l e R s m args below meth c n0 T' h' cells slots → Wr h h' a j.toNatClampNeg (.long x) → Arv Z h' a ka .long N (vs.set i (.long x)) dv → Aj p e below En T' (mkF m (pc + 1) ls st)) : Aj p e below En T (mkF m pc ls (.long x :: .int j :: .ref a :: st)) := by
  obtain ⟨locs, kk, nn, X, eT, N, q1, q2⟩ := S
  obtain ⟨cl, A, ck, sz, hN, H, G⟩ := FF
  obtain ⟨T', h', X', e', W, stp⟩ := stJ X C.1 C.2.2.2.2.2.2.2 eT A (inb_of sz hin) (g := mkF m pc ls (.long x :: .int j :: .ref a :: st)) rfl rfl (Cn C hd)
  exact Bm stp (k T' h' ⟨_, _, _, X', e', Fr.snoc X' N hge, q1, q2⟩ W (Arv.set A ck sz hN H G rfl W i hj hi))
theorem own_lxor (C : Bp p s m meth c Z own cd maxL ret nm) (S : Az p l e R s m args below meth c n0 T h cells slots) {x y : Int64} (hd : decode cd pc = .ok (.lxor, 1)) (k : Aj p e below En T (mkF m (pc + 1) ls (.long (x ^^^ y) :: st))) : Aj p e below En T (mkF m pc ls (.long y :: .long x :: st)) := by
  obtain ⟨locs, kk, n, X, -⟩ := S
  exact Bm (fun t k => XS.lxor X.here C.1 rfl (Cn C hd) rfl k) k
theorem own_lrem (C : Bp p s m meth c Z own cd maxL ret nm) (S : Az p l e R s m args below meth c n0 T h cells slots) {x y : Int64} (hd : decode cd pc = .ok (.lrem, 1)) (hy : y ≠ 0) (k : Aj p e below En T (mkF m (pc + 1) ls (.long (x % y) :: st))) : Aj p e below En T (mkF m pc ls (.long y :: .long x :: st)) := by
  obtain ⟨locs, kk, n, X, -⟩ := S
  refine Bm (fun t k => XS.lrem X.here C.1 rfl (Cn C hd) rfl hy k) ?_
  first | exact k | (rw [lrem_mod]; exact k)
theorem own_lsw (C : Bp p s m meth c Z own cd maxL ret nm) (S : Az p l e R s m args below meth c n0 T h cells slots) {k : Int32} {df : Int} {prs : Array (Int × Int)} {len : Nat} (hd : decode cd pc = .ok (.lookupswitch df prs, len)) (hsr : (prs.toList.zip (prs.toList.drop 1)).all (fun (a, next) => a.1 < next.1) = true) {a off : Int} (hf : prs.find? (·.1 == k.toInt) = some (a, off)) (hoff : 0 ≤ (pc : Int) + off) (pc' : Nat) (hp : ((pc : Int) + off).toNat = pc')
    (kk : Aj p e below En T (mkF m pc' ls st)) : Aj p e below En T (mkF m pc ls (.int k :: st)) := by
  obtain ⟨locs, k1, nn, X, eT, -⟩ := S
  subst hp
  exact Bm (fun t q => X.lookupswitchHit C.1 (g := mkF m pc ls (.int k :: st)) rfl rfl (Cn C hd) hsr hf hoff t q) kk
theorem own_lsm (C : Bp p s m meth c Z own cd maxL ret nm) (S : Az p l e R s m args below meth c n0 T h cells slots) {k : Int32} {df : Int} {prs : Array (Int × Int)} {len : Nat} (hd : decode cd pc = .ok (.lookupswitch df prs, len)) (hsr : (prs.toList.zip (prs.toList.drop 1)).all (fun (a, next) => a.1 < next.1) = true) (hf : prs.find? (·.1 == k.toInt) = none) (hoff : 0 ≤ (pc : Int) + df) (pc' : Nat) (hp : ((pc : Int) + df).toNat = pc')
    (kk : Aj p e below En T (mkF m pc' ls st)) : Aj p e below En T (mkF m pc ls (.int k :: st)) := by
  obtain ⟨locs, k1, nn, X, eT, -⟩ := S
  subst hp
  exact Bm (fun t q => X.lookupswitchMiss C.1 (g := mkF m pc ls (.int k :: st)) rfl rfl (Cn C hd) hsr hf hoff t q) kk
def Dj (s : State) (n0 : Nat) (Z : State) (EL : List (String × Nat)) (CL : List (String × Nat × Nat)) (F : Option Value → Heap → Prop) (kc ks : Nat) (o : Outcome) (s₂ : State) : Prop :=
  ∃ v L k n, o = .returned v ∧ (F v s₂.heap ∧ Fr n0 L) ∧ CHr Z EL s.vm s.heap s₂.vm s₂.heap ∧ ReturnedEndW s o s₂ L k n ∧ k + Ci Z CL s₂.vm ≤ kc + Ci Z CL s.vm ∧ n + Cj Z CL s₂.vm ≤ ks + Cj Z CL s.vm
theorem own_pw {vm vm' : Vm} {t : State} (hW : (t.setVm vm).Warmed39 vm') : Ci Z CL vm' ≤ Ci Z CL vm ∧ Cj Z CL vm' ≤ Cj Z CL vm :=
  ⟨Es (fun o i b => Cp.stays (t := t) hW b) CL, Es (fun o i b => Cp.stays (t := t) hW b) CL⟩
theorem own_endP (C : Dl p meth c Z a0 EL cd maxL ret nm) (S : Bz p l e R s m args below meth c n0 Z EL fC fS own T h G cells slots) (hFP : Dw Z CL fC fS) {v : Option Value} (hv : meth.sig.returnType = none → v = none) {g : JFrame}
    (hst : ∀ locs kk nn vm0 fs, Stand p l e R (s.setVm vm0) m args below meth c T locs kk nn → (∀ (f : JFrame) (acts : List Action), f.method = m → f.locked = none → f.entered = [] → (doReturn e (T.setTop f) acts v).1 = T.setFrames fs) → Steps p.tables e below (T.setTop g) (T.setFrames fs)) (hc : cells ≤ kc) (hs : slots ≤ ks) (hF : F v h) : Aj p e below (Dj s n0 Z EL CL F kc ks) T g := by
  obtain ⟨eC, eS⟩ := hFP.eq
  subst eC eS
  obtain ⟨vm0, k0, ⟨locs, kk, nn, X, eT, N, q1, q2⟩, p1, p2, hS, hk, hZ, ho, hC, hG⟩ := S
  obtain ⟨fs, hr, hrun, hended, hret⟩ := X.leaveW hS (by rw [eT]; exact hk) hv C.2.2.2.2.2.1
  have hw := own_pw (Z := Z) (CL := CL) (t := s) (X.warmed.since 0).1
  refine ⟨_, _, hst locs kk nn vm0 fs X hr, hrun, hended, v, locs, kk, nn, rfl, ⟨?_, N⟩, ?_, hret, ?_, ?_⟩
  · show F v T.heap
    rw [eT]; exact hF
  · show CHr Z EL s.vm s.heap T.vm T.heap
    rw [eT]
    exact hC.trans (CHv.at X hZ C.2.2.2.2.2.2.1 hC.1)
  · show kk + Ci Z CL T.vm ≤ _
    omega
  · show nn + Cj Z CL T.vm ≤ _
    omega
theorem own_retP {t : FieldType} (C : Dl p meth c Z a0 EL cd maxL (some t) nm) (S : Bz p l e R s m args below meth c n0 Z EL fC fS own T h G cells slots) (hFP : Dw Z CL fC fS) {i : Instr} {w : Value} (hd : decode cd pc = .ok (i, 1)) (hn : narrow t w = w)
    (hi : (i = .ireturn ∧ (t = .int ∨ t = .boolean ∨ t = .byte ∨ t = .char ∨ t = .short) ∧ ∃ z, w = .int z) ∨ (i = .lreturn ∧ t = .long ∧ ∃ z, w = .long z) ∨ (i = .dreturn ∧ t = .double ∧ ∃ z, w = .double z) ∨ (i = .freturn ∧ t = .float ∧ ∃ z, w = .float z) ∨ (i = .areturn ∧ t.isReference = true ∧ w.isRef = true))
    (hc : cells ≤ kc) (hs : slots ≤ ks) (hF : F (some w) h) : Aj p e below (Dj s n0 Z EL CL F kc ks) T (mkF m pc ls (w :: st)) :=
  own_endP C S hFP (fun q => by rw [C.2.2.2.2.1] at q; cases q) (fun locs kk nn vm0 fs X hr => retOut X C.1 C.2.2.2.2.1 hn hi (by rw [C.2.1]; exact hd) hr) hc hs hF
theorem Eb (C : Dl p meth c Z a0 EL cd maxL (some .int) nm) (S : Bz p l e R s m args below meth c n0 Z EL fC fS own T h G cells slots) (hFP : Dw Z CL fC fS) {z : Int32} (hd : decode cd pc = .ok (.ireturn, 1)) (hc : cells ≤ kc) (hs : slots ≤ ks) (hF : F (some (.int z)) h) : Aj p e below (Dj s n0 Z EL CL F kc ks) T (mkF m pc ls (.int z :: st)) :=
  own_retP C S hFP hd rfl (Or.inl ⟨rfl, Or.inl rfl, z, rfl⟩) hc hs hF
theorem own_retZP (C : Dl p meth c Z a0 EL cd maxL (some .boolean) nm) (S : Bz p l e R s m args below meth c n0 Z EL fC fS own T h G cells slots) (hFP : Dw Z CL fC fS) {z : Int32} (hd : decode cd pc = .ok (.ireturn, 1)) (hz : z &&& 1 = z) (hc : cells ≤ kc) (hs : slots ≤ ks) (hF : F (some (.int z)) h) : Aj p e below (Dj s n0 Z EL CL F kc ks) T (mkF m pc ls (.int z :: st)) :=
  own_retP C S hFP hd (by show Value.int (z &&& 1) = _; rw [hz]) (Or.inl ⟨rfl, Or.inr (Or.inl rfl), z, rfl⟩) hc hs hF
theorem Ch (C : Dl p meth c Z a0 EL cd maxL none nm) (S : Bz p l e R s m args below meth c n0 Z EL fC fS own T h G cells slots) (hFP : Dw Z CL fC fS) (hd : decode cd pc = .ok (.return_, 1)) (hc : cells ≤ kc) (hs : slots ≤ ks) (hF : F none h) : Aj p e below (Dj s n0 Z EL CL F kc ks) T (mkF m pc ls []) :=
  own_endP C S hFP (fun _ => rfl) (fun locs kk nn vm0 fs X hr => X.returnOut C.1 C.2.2.2.2.1 (by rw [C.2.1]; exact hd) hr) hc hs hF
def Co (l : Launch) (Z : State) (EL : List (String × Nat)) (CL : List (String × Nat × Nat)) (y : MethodName) (cd : ByteArray) (maxL : Nat) (ret : Option FieldType) (f rc rs lo kc ks : Nat) (n0 : Nat) (as' : Array Value) (h0 : Heap) (G0 : List Addr) (Q : Option Value → Heap → Prop) : Prop :=
  ∀ P1 P2 ws, MetFree l y (head1 (Jvm.Cond.code y cd maxL ret :: ws) ({ frames := f, cells := P1 + rc, slots := P2 + rs, locals := lo } : Room)) (fun a U => a = as' ∧ Z.Warmed39 U.vm ∧ U.heap = h0 ∧ CHv Z EL U.vm h0 ∧ (∀ x ∈ G0, x < h0.size ∧ Safe Z EL U.vm h0 x) ∧ Ci Z CL U.vm ≤ P1 ∧ Cj Z CL U.vm ≤ P2) (fun _ _ _ _ _ => True)
    (fun _ U o U' => Dj U n0 Z EL CL Q kc ks o U')
theorem own_metP {y : MethodName} {f rc rs lo : Nat} {as' : Array Value} {h0 : Heap} {G0 : List Addr} {Q : Option Value → Heap → Prop} (hEL : EW Z a0 EL) (wS : ∀ a ∈ Bundle.stringAtoms, a.before a0 Z = true) (hp : plainFor y = true) (ls : Array Slot) (hef : ∀ m, entryFrame m as' maxL = mkF m 0 ls [])
    (H : ∀ (fC fS : Vm → Nat) (P1 P2 : Nat) (p : Program) (e : Env) (s : State) (m : MethodId) (below : List Frame) (meth : Method) (c : Code) (T : State), Dl p meth c Z a0 EL cd maxL ret y.name → Dw Z CL fC fS → fC s.vm ≤ P1 → fS s.vm ≤ P2 → Bz p l e ({ frames := f, cells := P1 + rc, slots := P2 + rs, locals := lo } : Room) s m as' below meth c n0 Z EL fC fS y.cls T h0 G0 0 0 → Aj p e below (Dj s n0 Z EL CL Q kc ks) T (mkF m 0 ls [])) : Co l Z EL CL y cd maxL ret f rc rs lo kc ks n0 as' h0 G0 Q := by
  intro P1 P2 ws
  refine MetFree.of_bodySF hp hisR ?_
  intro p e s m args below meth c s₁ Bd hml hP hK
  obtain ⟨rfl, hZ, hh, hC, hG, hP1, hP2⟩ := hP
  have e0 : s₁.heap = h0 := by rw [← hh, Bd.state]; rfl
  have G := H (Ci Z CL) (Cj Z CL) P1 P2 p e s m below meth c s₁ ⟨Bd.exec, Bd.bytes, hml, (name_of_methodNamed Bd.named Bd.method).1, Bd.returns, BodyLoose.notSynchronized Bd, hEL, wS⟩ ⟨fun _ => rfl, fun _ => rfl⟩ hP1 hP2
    ⟨s.vm, h0.size, ⟨_, _, _, Stand.of_body Bd, e0, Fr.nil n0, Nat.zero_le _, Nat.zero_le _⟩, Nat.le_refl _, Nat.le_refl _, (State.WarmedH.refl s).since _, Nat.le_refl _, hZ, findClass_of_methodNamed Bd.named, by rw [hh]; exact CHr.refl hC, hG⟩
  rw [← hef m] at G
  exact G
theorem own_payP {vm0 : Vm} {y : MethodName} {cdy : ByteArray} {maxy : Nat} {rety : Option FieldType} {f r1 r2 lo k1 k2 : Nat} {as' : Array Value} {G0 : List Addr} {Q : Option Value → Heap → Prop} (M : Co l Z EL CL y cdy maxy rety f r1 r2 lo k1 k2 n0 as' h G0 Q) (hZ : Z.Warmed39 vm0) {len W : Nat} (wc : (Jvm.Cond.code y cdy maxy rety).before a0 Z = true) (wz : (Jvm.Cond.initialized y.cls).before a0 Z = true) (hf : f + 1 ≤ R.frames) (hl : W + (maxy + 11) + lo ≤ R.locals) (hEL : EW Z a0 EL) (H : CHv Z EL vm0 h) (hG : ∀ x ∈ G0, x < h.size ∧ Safe Z EL vm0 h x) :
    BackS l R p e below (s.setVm vm0) args y len W (fun A a => a = as' ∧ A.U.heap = h ∧ A.cells + (Ci Z CL vm0 + r1) ≤ R.cells ∧ A.slots + (Cj Z CL vm0 + r2) ≤ R.slots)
      (fun A _ v B => ∃ L k n, (Q v B.U.heap ∧ Fr n0 L) ∧ B.locs = A.locs ++ L ∧ B.cells = A.cells + k ∧ B.slots = A.slots + n ∧ CHr Z EL vm0 h B.U.vm B.U.heap ∧ k + Ci Z CL B.U.vm ≤ k1 + Ci Z CL vm0 ∧ n + Cj Z CL B.U.vm ≤ k2 + Cj Z CL vm0) :=
  BackS.of_freeW (bytes := cdy) (maxL := maxy) (ret := rety) (E := fun _ first o t L k n => (∃ v, o = .returned v ∧ (Q v t.heap ∧ Fr n0 L)) ∧ CHr Z EL first.vm first.heap t.vm t.heap ∧ k + Ci Z CL t.vm ≤ k1 + Ci Z CL first.vm ∧ n + Cj Z CL t.vm ≤ k2 + Cj Z CL first.vm) (M (Ci Z CL vm0) (Cj Z CL vm0) []) hf hl
    (fun m meth c A a Y hp => have hU : Z.Warmed39 A.U.vm := wtrans (s := s.setVm vm0) hZ Y.warmed
      ⟨by show (Cond.and _ .tt).before a A.U = true; rw [Cond.before_and, mv hU wc]; rfl, mv hU wc, mv hU wz, hp.2.2.1, hp.2.2.2⟩)
    (fun m meth c A a g mk Y hp => ⟨hp.1, wtrans (s := s.setVm vm0) hZ Y.warmed, hp.2.1, (CHv.at Y hZ hEL H).1, fun x hx => ⟨(hG x hx).1, (CHv.at Y hZ hEL H).safe (hG x hx).1 (hG x hx).2⟩, (own_pw (t := s) (Y.warmed.since 0).1).1, (own_pw (t := s) (Y.warmed.since 0).1).2⟩) (fun _ _ _ _ _ _ _ _ _ => trivial)
    (fun _ _ _ _ ⟨v, L, k, n, h1, h2, h3, h4, h5, h6⟩ => ⟨L, k, n, h4, ⟨v, h1, h2⟩, h3, h5, h6⟩)
    (fun m meth c A a g mk v t L k n Y hp _ _ ⟨⟨v', e3, e4⟩, e5, e6, e7⟩ => by
      cases e3
      have hw := own_pw (Z := Z) (CL := CL) (t := s) (Y.warmed.since 0).1
      have e6 : k + Ci Z CL t.vm ≤ k1 + Ci Z CL A.U.vm := e6
      have e7 : n + Cj Z CL t.vm ≤ k2 + Cj Z CL A.U.vm := e7
      refine ⟨L, k, n, e4, rfl, rfl, rfl, (CHv.at Y hZ hEL H).trans ?_, ?_, ?_⟩
      · rw [← hp.2.1]; exact e5
      · show k + Ci Z CL t.vm ≤ _
        omega
      · show n + Cj Z CL t.vm ≤ _
        omega)
theorem own_backP {T : State} {vm0 : Vm} {k0 : Nat} {B : Pt} {Q : Option Value → Heap → Prop} {v : Option Value} {L : List Loc} {k1 k2 k n kk nn : Nat} (hS : s.Since vm0 k0) (hk : k0 ≤ h.size) (hZ : Z.Warmed39 vm0) (ho : vm0.findClass own = some m.cls) (hC : CHr Z EL s.vm s.heap vm0 h) (hG : ∀ x ∈ G, x < h.size ∧ Safe Z EL vm0 h x) (N : Fr n0 locs) (q1 : kk ≤ (Ci Z CL s.vm - Ci Z CL vm0) + cells) (q2 : nn ≤ (Cj Z CL s.vm - Cj Z CL vm0) + slots) (p1 : Ci Z CL vm0 ≤ Ci Z CL s.vm) (p2 : Cj Z CL vm0 ≤ Cj Z CL s.vm)
    (X' : Stand p l e R ((s.setVm vm0).setVm B.U.vm) m args below meth c B.U B.locs B.cells B.slots) (h2 : (s.setVm vm0).Since B.U.vm B.U.heap.size) (hg : h.size ≤ B.U.heap.size) (hQ : Q v B.U.heap ∧ Fr n0 L) (l1 : B.locs = locs ++ L) (l2 : B.cells = kk + k) (l3 : B.slots = nn + n) (hC' : CHr Z EL vm0 h B.U.vm B.U.heap) (r1 : k + Ci Z CL B.U.vm ≤ k1 + Ci Z CL vm0) (r2 : n + Cj Z CL B.U.vm ≤ k2 + Cj Z CL vm0) :
    Bz p l e R s m args below meth c n0 Z EL (Ci Z CL) (Cj Z CL) own B.U B.U.heap G (cells + k1) (slots + k2) := by
  obtain ⟨X1, hS1, hZ1, ho1⟩ := rebS hS hk X' h2 hg hZ ho
  have hw := own_pw (Z := Z) (CL := CL) (t := s) h2.1
  exact ⟨B.U.vm, _, ⟨B.locs, B.cells, B.slots, X1, rfl, by rw [l1]; exact Fr.app N hQ.2, by omega, by omega⟩, by omega, by omega, hS1, Nat.le_refl _, hZ1, ho1, hC.trans hC', fun x hx => ⟨Nat.lt_of_lt_of_le (hG x hx).1 hg, hC'.safe (hG x hx).1 (hG x hx).2⟩⟩
theorem own_callSP (C : Dl p meth c Z a0 EL cd maxL ret nm) (S : Bz p l e R s m args below meth c n0 Z EL fC fS own T h G cells slots) (hFP : Dw Z CL fC fS) {y : MethodName} {index : Nat} {cdy : ByteArray} {maxy : Nat} {rety : Option FieldType} {f r1 r2 lo k1 k2 : Nat} {as' : Array Value} {G0 : List Addr} {Q : Option Value → Heap → Prop}
    (w1 : (Jvm.Cond.methodLink own index y).before a0 Z = true) (w2 : (Jvm.Cond.static y).before a0 Z = true) (w3 : (Jvm.Cond.initialized y.cls).before a0 Z = true) (w4 : (Jvm.Cond.code y cdy maxy rety).before a0 Z = true) (hy : y.cls ≠ "java/lang/invoke/MethodHandle" ∧ y.cls ≠ "java/lang/invoke/VarHandle")
    (M : Co l Z EL CL y cdy maxy rety f r1 r2 lo k1 k2 n0 as' h G0 Q) (hG0 : ∀ x ∈ G0, x ∈ G) (W : Nat) (hf : f + 1 ≤ R.frames) (hlo : W + (maxy + 11) + lo ≤ R.locals) (argsL rest : List Value) {ps : List FieldType} {rr : Option FieldType} (has : argsL.toArray = as') (hpd : parseMethodDescriptor y.desc = some ⟨ps, rr⟩) (hlen : argsL.length = ps.length) (hstk : st = argsL.reverse ++ rest) (hsz : ls.size = maxL) (hW : (rest.map fun v => v.category).sum ≤ W)
    (hP1 : fC s.vm ≤ P1) (hP2 : fS s.vm ≤ P2) (hc : P1 + (cells + r1) ≤ R.cells) (hs : P2 + (slots + r2) ≤ R.slots) (hd : decode cd pc = .ok (.invokestatic index, 3))
    (k : ∀ T' h' v, Bz p l e R s m args below meth c n0 Z EL fC fS own T' h' G (cells + k1) (slots + k2) → h.size ≤ h'.size → Q v h' → Aj p e below En T' (mkF m (pc + 3) ls (v.toList ++ rest))) : Aj p e below En T (mkF m pc ls st) := by
  obtain ⟨eC, eS⟩ := hFP.eq
  subst eC eS
  obtain ⟨vm0, k0, ⟨locs, kk, nn, X, eT, N, q1, q2⟩, p1, p2, hS, hk, hZ, ho, hC, hG⟩ := S
  obtain ⟨v, vm1, B, -, X', h2, hg, ⟨L, kq, nq, hQ, l1, l2, l3, hC', rr1, rr2⟩, stp⟩ := callSS X C.1 ho (mvT (s := s.setVm vm0) hZ w1) (mvT (s := s.setVm vm0) hZ w2) (mvT (s := s.setVm vm0) hZ w3) (mvT (s := s.setVm vm0) hZ w4) hy (own_payP M hZ w4 w3 hf hlo C.2.2.2.2.2.2.1 hC.1 fun x hx => hG x (hG0 x hx)) (g := mkF m pc ls st) rfl (by rw [C.2.2.1]; exact hsz) (argsL := argsL) (rest := rest) (lenOf hpd hlen) hstk (by show 2 * 0 + _ ≤ W; omega) (by rw [C.2.1]; exact hd) (fun _ _ => ⟨has, eT, by show kk + _ ≤ _; omega, by show nn + _ ≤ _; omega⟩)
  rw [eT] at hg
  exact Bm (fun t k => stp.trans k) (k B.U _ v (own_backP (T := T) hS hk hZ ho hC hG N q1 q2 p1 p2 X' h2 hg hQ l1 l2 l3 hC' rr1 rr2) hg hQ.1)
theorem own_callPP (C : Dl p meth c Z a0 EL cd maxL ret nm) (S : Bz p l e R s m args below meth c n0 Z EL fC fS own T h G cells slots) (hFP : Dw Z CL fC fS) {y : MethodName} {index : Nat} {cdy : ByteArray} {maxy : Nat} {rety : Option FieldType} {f r1 r2 lo k1 k2 : Nat} {as' : Array Value} {G0 : List Addr} {Q : Option Value → Heap → Prop}
    (w1 : (Jvm.Cond.methodLink own index y).before a0 Z = true) (w2 : (Jvm.Cond.instanceMethod y).before a0 Z = true) (w3 : (Jvm.Cond.selects y.cls y y).before a0 Z = true) (w4 : (Jvm.Cond.privateMethod y).before a0 Z = true) (w5 : (Jvm.Cond.initialized y.cls).before a0 Z = true) (w6 : (Jvm.Cond.code y cdy maxy rety).before a0 Z = true) (hy : y.cls ≠ "java/lang/invoke/MethodHandle" ∧ y.cls ≠ "java/lang/invoke/VarHandle")
    (M : Co l Z EL CL y cdy maxy rety f r1 r2 lo k1 k2 n0 as' h G0 Q) (hG0 : ∀ x ∈ G0, x ∈ G) (W : Nat) (hf : f + 1 ≤ R.frames) (hlo : W + (maxy + 11) + lo ≤ R.locals) {a : Addr} {Cl : String} (E : Exa Z h a Cl) (argsL rest : List Value) {ps : List FieldType} {rr : Option FieldType} (has : (.ref a :: argsL).toArray = as') (hpd : parseMethodDescriptor y.desc = some ⟨ps, rr⟩) (hlen : argsL.length = ps.length) (hstk : st = argsL.reverse ++ .ref a :: rest) (hsz : ls.size = maxL) (hW : (rest.map fun v => v.category).sum ≤ W)
    (hP1 : fC s.vm ≤ P1) (hP2 : fS s.vm ≤ P2) (hc : P1 + (cells + r1) ≤ R.cells) (hs : P2 + (slots + r2) ≤ R.slots) (hd : decode cd pc = .ok (.invokevirtual index, 3))
    (k : ∀ T' h' v, Bz p l e R s m args below meth c n0 Z EL fC fS own T' h' G (cells + k1) (slots + k2) → h.size ≤ h'.size → Q v h' → Aj p e below En T' (mkF m (pc + 3) ls (v.toList ++ rest))) : Aj p e below En T (mkF m pc ls st) := by
  obtain ⟨eC, eS⟩ := hFP.eq
  subst eC eS
  obtain ⟨vm0, k0, ⟨locs, kk, nn, X, eT, N, q1, q2⟩, p1, p2, hS, hk, hZ, ho, hC, hG⟩ := S
  obtain ⟨cl, hcl, hns⟩ := E.cell
  obtain ⟨v, vm1, B, -, X', h2, hg, ⟨L, kq, nq, hQ, l1, l2, l3, hC', rr1, rr2⟩, stp⟩ := X.privateBackS C.1 ho (mvT (s := s.setVm vm0) hZ w1) (mvT (s := s.setVm vm0) hZ w2) (mvT (s := s.setVm vm0) hZ w3) (Cond.privateMethod_at (mvP (s := s.setVm vm0) (args := args) hZ w4)) (mvT (s := s.setVm vm0) hZ w6) hy (own_payP M hZ w6 w5 hf hlo C.2.2.2.2.2.2.1 hC.1 fun x hx => hG x (hG0 x hx)) (g := mkF m pc ls st) rfl (by rw [C.2.2.1]; exact hsz) (Steps.refl _) (a := a) (cell := cl) (by rw [eT]; exact hcl) hns (argsL := argsL) (rest := rest) (lenOf hpd hlen) hstk (by show 2 * 0 + _ ≤ W; omega) (by rw [C.2.1]; exact hd) (fun _ _ => ⟨has, eT, by show kk + _ ≤ _; omega, by show nn + _ ≤ _; omega⟩)
  rw [eT] at hg
  exact Bm (fun t k => stp.trans k) (k B.U _ v (own_backP (T := T) hS hk hZ ho hC hG N q1 q2 p1 p2 X' h2 hg hQ l1 l2 l3 hC' rr1 rr2) hg hQ.1)
end OwnKitP
section OwnKitS
variable {p : Program} {l : Launch} {e : Env} {R : Room} {s : State} {m : MethodId} {args : Array Value} {below : List Frame} {meth : Method} {c : Code} {T : State} {locs : List Loc} {cells slots : Nat} {Z : State} {a0 : Array Value} {h : Heap} {own : String} {cd : ByteArray} {maxL : Nat} {ret : Option FieldType} {nm : String} {n0 : Nat} {F : Option Value → Heap → Prop} {kc ks : Nat} {En : Outcome → State → Prop} {pc : Nat} {ls : Array Slot} {st : List Value} {EL : List (String × Nat)} {G : List Addr} {CL : List (String × Nat × Nat)} {P1 P2 : Nat} {fC fS : Vm → Nat} {ps : List FieldType} {rr : Option FieldType}
variable {y z : MethodName} {index : Nat} {cdy : ByteArray} {maxy : Nat} {rety : Option FieldType} {f r1 r2 k1 k2 lo rc rs lo' f' : Nat} {as' : Array Value} {G0 : List Addr} {Q : Option Value → Heap → Prop} {rm : Room} {vm : Vm}
abbrev Ar (a0 : Array Value) (Z : State) : Prop := ∀ d ∈ tables_1, d.before a0 Z = true
abbrev Aa (n : Int32) : Slot := .val (.int n)
abbrev Ab (a : Addr) : Slot := .val (.ref a)
theorem As {α : Type _} {L : List α} {x : α} (i : Nat) (h : L[i]? = some x := by exact rfl) : x ∈ L := List.mem_of_getElem? h
theorem Ad {α : Type _} {P : Prop} {L : List α} {x : α} (i : Nat) (h : L[i]? = some x := by exact rfl) : x ∈ L ∨ P := Or.inl (List.mem_of_getElem? h)
theorem Au {h0 : Heap} (ls : Array Slot) (H : ∀ (p : Program) (e : Env) (s : State) (m : MethodId) (below : List Frame) (meth : Method) (c : Code) (T : State), Bp p s m meth c Z y.cls cd maxL ret y.name → Az p l e rm s m as' below meth c n0 T h0 0 0 → Aj p e below (Cq s n0 Q rm.cells rm.slots) T (mkF m 0 ls [])) (hp : plainFor y = true := by decide +kernel) (hef : ∀ m, entryFrame m as' maxL = mkF m 0 ls [] := by intro m; first | (simp [entryFrame, mkF, argsToLocals, Value.category]; done) | rfl) : Ag l Z y cd maxL ret rm n0 as' h0 Q := own_met hp ls hef H
theorem Eh {h0 : Heap} {f rc rs lo : Nat} (hEL : EW Z a0 EL) (wS : ∀ a ∈ Bundle.stringAtoms, a.before a0 Z = true) (ls : Array Slot) (H : ∀ (fC fS : Vm → Nat) (P1 P2 : Nat) (p : Program) (e : Env) (s : State) (m : MethodId) (below : List Frame) (meth : Method) (c : Code) (T : State), Dl p meth c Z a0 EL cd maxL ret y.name → Dw Z CL fC fS → fC s.vm ≤ P1 → fS s.vm ≤ P2 → Bz p l e ({ frames := f, cells := P1 + rc, slots := P2 + rs, locals := lo } : Room) s m as' below meth c n0 Z EL fC fS y.cls T h0 G0 0 0 → Aj p e below (Dj s n0 Z EL CL Q kc ks) T (mkF m 0 ls [])) (hp : plainFor y = true := by decide +kernel) (hef : ∀ m, entryFrame m as' maxL = mkF m 0 ls [] := by intro m; first | (simp [entryFrame, mkF, argsToLocals, Value.category]; done) | rfl) : Co l Z EL CL y cd maxL ret f rc rs lo kc ks n0 as' h0 G0 Q := own_metP hEL wS hp ls hef H
theorem Ac (C : Bp p s m meth c Z own cd maxL ret nm) (S : Az p l e R s m args below meth c n0 T h cells slots) (seg : List (Nat × Instr × Nat)) (pc' : Nat) (ls' : Array Slot) (st' : List Value)
    (k : Aj p e below En T (mkF m pc' ls' st')) (hr : Ej seg pc ls st = some (pc', ls', st') := by exact rfl) (hd : Gf cd seg = true := by decide +kernel) : Aj p e below En T (mkF m pc ls st) := own_seg C S seg hd pc' ls' st' hr k
theorem Ao (C : Bp p s m meth c Z own cd maxL ret nm) (S : Az p l e R s m args below meth c n0 T h cells slots) (q : ClassFile.Cond) (o : Int) {x y : Int32} (pc' : Nat)
    (k1 : own_P q x y → Aj p e below En T (mkF m pc' ls st)) (k2 : own_N q x y → Aj p e below En T (mkF m (pc + 3) ls st)) (hd : decode cd pc = .ok (.if_icmp q o, 3) := by decide +kernel) (ho : 0 ≤ (pc : Int) + o := by decide) (hp : ((pc : Int) + o).toNat = pc' := by decide) : Aj p e below En T (mkF m pc ls (.int y :: .int x :: st)) := own_icmp C S hd pc' ho hp k1 k2
theorem Bv (C : Bp p s m meth c Z own cd maxL ret nm) (S : Az p l e R s m args below meth c n0 T h cells slots) (q : ClassFile.Cond) (o : Int) {x : Int32} (pc' : Nat)
    (k1 : own_P q x 0 → Aj p e below En T (mkF m pc' ls st)) (k2 : own_N q x 0 → Aj p e below En T (mkF m (pc + 3) ls st)) (hd : decode cd pc = .ok (.ifCond q o, 3) := by decide +kernel) (ho : 0 ≤ (pc : Int) + o := by decide) (hp : ((pc : Int) + o).toNat = pc' := by decide) : Aj p e below En T (mkF m pc ls (.int x :: st)) := own_if C S hd pc' ho hp k1 k2
theorem Ah (C : Bp p s m meth c Z own cd maxL ret nm) (S : Az p l e R s m args below meth c n0 T h cells slots) (hw : ∀ d ∈ tables_1, d.before a0 Z = true) (i1 : Nat) {O n d : String} {a : Addr} {v : Value} (FF : Fld Z h a O n d v)
    (k : ∀ T', Az p l e R s m args below meth c n0 T' h cells slots → Aj p e below En T' (mkF m (pc + 3) ls (v :: st))) (w : tables_1[i1]? = some (Jvm.Cond.fieldLink own index O n d) := by exact rfl) (hd : decode cd pc = .ok (.getfield index, 3) := by decide +kernel) : Aj p e below En T (mkF m pc ls (.ref a :: st)) := own_getF C S (host := "") (Or.inl (ow hw i1 w)) Via.refl FF hd k
theorem Bh (C : Bp p s m meth c Z own cd maxL ret nm) (S : Az p l e R s m args below meth c n0 T h cells slots) (hw : ∀ d ∈ tables_1, d.before a0 Z = true) (i1 i2 i3 : Nat) {ki : Nat} {O n d Cl : String} {a : Addr} {v old : Value} {ty : FieldType} (FF : Fld Z h a O n d old) (E : Exa Z h a Cl) (hty : parseFieldDescriptor d = some ty) (hge : n0 ≤ a)
    (k : ∀ T' h', Az p l e R s m args below meth c n0 T' h' cells slots → Wr h h' a (Jvm.RoadKit.slotOf Z O n d) v → Aj p e below En T' (mkF m (pc + 3) ls st)) (w : tables_1[i1]? = some (Jvm.Cond.fieldLink own index O n d) := by exact rfl) (L : tables_1[i2]? = some (Jvm.Cond.lays Cl O n d) := by exact rfl) (wi : tables_1[i3]? = some (Jvm.Cond.instantiable Cl ki) := by exact rfl) (hn : narrow ty v = v := by exact rfl) (hf : fits ty v = true := by exact rfl) (hd : decode cd pc = .ok (.putfield index, 3) := by decide +kernel) : Aj p e below En T (mkF m pc ls (v :: .ref a :: st)) := Eu C S (host := "") (Or.inl (ow hw i1 w)) Via.refl FF E (Or.inl (ow hw i2 L)) (ow hw i3 wi) hty hn hf hge hd k
theorem Ak (C : Bp p s m meth c Z own cd maxL ret nm) (S : Az p l e R s m args below meth c n0 T h cells slots) (hw : ∀ d ∈ tables_1, d.before a0 Z = true) (i1 i2 i3 i4 : Nat) (M : Ag l Z y cdy maxy rety rm n0 as' h Q) (W : Nat) (argsL rest : List Value) {ds : String} (hpd : parseMethodDescriptor ds = some ⟨ps, rr⟩)
    (k : ∀ T' h' v L, Az p l e R s m args below meth c n0 T' h' (cells + rm.cells) (slots + rm.slots) → Q v h' ∧ Fr n0 L → Aj p e below En T' (mkF m (pc + 3) ls (v.toList ++ rest)))
    (w1 : tables_1[i1]? = some (Jvm.Cond.methodLink own index y) := by exact rfl) (w2 : tables_1[i2]? = some (Jvm.Cond.static y) := by exact rfl) (w3 : tables_1[i3]? = some (Jvm.Cond.initialized y.cls) := by exact rfl) (w4 : tables_1[i4]? = some (Jvm.Cond.code y cdy maxy rety) := by exact rfl) (hy : y.cls ≠ "java/lang/invoke/MethodHandle" ∧ y.cls ≠ "java/lang/invoke/VarHandle" := by decide)
    (hf : rm.frames + 1 ≤ R.frames := by decide) (hl : W + (maxy + 11) + rm.locals ≤ R.locals := by decide) (has : argsL.toArray = as' := by exact rfl) (hds : y.desc = ds := by exact rfl) (hlen : argsL.length = ps.length := by exact rfl) (hstk : st = argsL.reverse ++ rest := by exact rfl) (hsz : ls.size = maxL := by exact rfl) (hW : (rest.map fun v => v.category).sum ≤ W := by exact Bw rfl) (hc : cells + rm.cells ≤ R.cells := by decide) (hs : slots + rm.slots ≤ R.slots := by decide) (hd : decode cd pc = .ok (.invokestatic index, 3) := by decide +kernel) : Aj p e below En T (mkF m pc ls st) :=
  own_callS C S (ow hw i1 w1) (ow hw i2 w2) (ow hw i3 w3) (ow hw i4 w4) hy (Ag.pay M C W (ow hw i4 w4) (ow hw i3 w3) hf hl) (fun _ _ _ q => q.2) argsL rest has (hds ▸ hpd) hlen hstk hsz hW hc hs hd k
theorem Bj (C : Bp p (s.setVm vm) m meth c Z own cd maxL ret nm) (S : Az p l e { frames := f', cells := P1 + rc, slots := P2 + rs, locals := lo' } (s.setVm vm) m args below meth c n0 T h (fC s.vm - fC vm + k1) (fS s.vm - fS vm + k2)) (hP1 : fC s.vm ≤ P1) (hP2 : fS s.vm ≤ P2) (hw : ∀ d ∈ tables_1, d.before a0 Z = true) (i1 i2 i3 i4 : Nat) (M : Ag l Z y cdy maxy rety { frames := f, cells := r1, slots := r2, locals := lo } n0 as' h Q) (W : Nat) (argsL rest : List Value) {ds : String} (hpd : parseMethodDescriptor ds = some ⟨ps, rr⟩)
    (k : ∀ T' h' v L, Az p l e { frames := f', cells := P1 + rc, slots := P2 + rs, locals := lo' } (s.setVm vm) m args below meth c n0 T' h' (fC s.vm - fC vm + (k1 + r1)) (fS s.vm - fS vm + (k2 + r2)) → Q v h' ∧ Fr n0 L → Aj p e below En T' (mkF m (pc + 3) ls (v.toList ++ rest)))
    (w1 : tables_1[i1]? = some (Jvm.Cond.methodLink own index y) := by exact rfl) (w2 : tables_1[i2]? = some (Jvm.Cond.static y) := by exact rfl) (w3 : tables_1[i3]? = some (Jvm.Cond.initialized y.cls) := by exact rfl) (w4 : tables_1[i4]? = some (Jvm.Cond.code y cdy maxy rety) := by exact rfl) (hy : y.cls ≠ "java/lang/invoke/MethodHandle" ∧ y.cls ≠ "java/lang/invoke/VarHandle" := by decide)
    (hf : f + 1 ≤ f' := by decide) (hl : W + (maxy + 11) + lo ≤ lo' := by decide) (has : argsL.toArray = as' := by exact rfl) (hds : y.desc = ds := by exact rfl) (hlen : argsL.length = ps.length := by exact rfl) (hstk : st = argsL.reverse ++ rest := by exact rfl) (hsz : ls.size = maxL := by exact rfl) (hW : (rest.map fun v => v.category).sum ≤ W := by exact Bw rfl) (hc : k1 + r1 ≤ rc := by decide) (hs : k2 + r2 ≤ rs := by decide) (hd : decode cd pc = .ok (.invokestatic index, 3) := by decide +kernel) : Aj p e below En T (mkF m pc ls st) :=
  own_callS C S (ow hw i1 w1) (ow hw i2 w2) (ow hw i3 w3) (ow hw i4 w4) hy (Ag.pay M C W (ow hw i4 w4) (ow hw i3 w3) hf hl) (fun _ _ _ q => q.2) argsL rest has (hds ▸ hpd) hlen hstk hsz hW (by show fC s.vm - fC vm + k1 + r1 ≤ P1 + rc; omega) (by show fS s.vm - fS vm + k2 + r2 ≤ P2 + rs; omega) hd (fun T' h' v L S' => k T' h' v L (by rw [← Nat.add_assoc, ← Nat.add_assoc]; exact S'))
theorem Cz (C : Bp p s m meth c Z own cd maxL ret nm) (S : Az p l e R s m args below meth c n0 T h cells slots) (hw : ∀ d ∈ tables_1, d.before a0 Z = true) (i1 i2 i3 i4 i5 i6 : Nat) (M : Ag l Z y cdy maxy rety rm n0 as' h Q) (W : Nat) {a : Addr} {Cl : String} (E : Exa Z h a Cl) (argsL rest : List Value) {ds : String} (hpd : parseMethodDescriptor ds = some ⟨ps, rr⟩)
    (k : ∀ T' h' v L, Az p l e R s m args below meth c n0 T' h' (cells + rm.cells) (slots + rm.slots) → Q v h' ∧ Fr n0 L → Aj p e below En T' (mkF m (pc + 3) ls (v.toList ++ rest))) {ki : Nat}
    (w1 : tables_1[i1]? = some (Jvm.Cond.methodLink own index y) := by exact rfl) (w2 : tables_1[i2]? = some (Jvm.Cond.instanceMethod y) := by exact rfl) (w3 : tables_1[i3]? = some (Jvm.Cond.instantiable y.cls ki) := by exact rfl) (w4 : tables_1[i4]? = some (Jvm.Cond.privateMethod y) := by exact rfl) (w5 : tables_1[i5]? = some (Jvm.Cond.code y cdy maxy rety) := by exact rfl) (w6 : tables_1[i6]? = some (Jvm.Cond.initialized y.cls) := by exact rfl) (hy : y.cls ≠ "java/lang/invoke/MethodHandle" ∧ y.cls ≠ "java/lang/invoke/VarHandle" := by decide)
    (hf : rm.frames + 1 ≤ R.frames := by decide) (hl : W + (maxy + 11) + rm.locals ≤ R.locals := by decide) (has : (.ref a :: argsL).toArray = as' := by exact rfl) (hds : y.desc = ds := by exact rfl) (hlen : argsL.length = ps.length := by exact rfl) (hstk : st = argsL.reverse ++ .ref a :: rest := by exact rfl) (hsz : ls.size = maxL := by exact rfl) (hW : (rest.map fun v => v.category).sum ≤ W := by exact Bw rfl) (hc : cells + rm.cells ≤ R.cells := by decide) (hs : slots + rm.slots ≤ R.slots := by decide) (hd : decode cd pc = .ok (.invokevirtual index, 3) := by decide +kernel) : Aj p e below En T (mkF m pc ls st) :=
  Bq C S (ow hw i1 w1) (ow hw i2 w2) (own_selfI (ow hw i2 w2) (ow hw i4 w4) (ow hw i3 w3) hy) (ow hw i4 w4) (ow hw i5 w5) hy (Ag.pay M C W (ow hw i5 w5) (ow hw i6 w6) hf hl) (fun _ _ _ q => q.2) E argsL rest has (hds ▸ hpd) hlen hstk hsz hW hc hs hd k
theorem An (C : Bp p (s.setVm vm) m meth c Z own cd maxL ret nm) (S : Az p l e { frames := f', cells := P1 + rc, slots := P2 + rs, locals := lo' } (s.setVm vm) m args below meth c n0 T h (fC s.vm - fC vm + k1) (fS s.vm - fS vm + k2)) (hP1 : fC s.vm ≤ P1) (hP2 : fS s.vm ≤ P2) (hw : ∀ d ∈ tables_1, d.before a0 Z = true) (i1 i2 i3 i4 i5 i6 : Nat) (M : Ag l Z y cdy maxy rety { frames := f, cells := r1, slots := r2, locals := lo } n0 as' h Q) (W : Nat) {a : Addr} {Cl : String} (E : Exa Z h a Cl) (argsL rest : List Value) {ds : String} (hpd : parseMethodDescriptor ds = some ⟨ps, rr⟩)
    (k : ∀ T' h' v L, Az p l e { frames := f', cells := P1 + rc, slots := P2 + rs, locals := lo' } (s.setVm vm) m args below meth c n0 T' h' (fC s.vm - fC vm + (k1 + r1)) (fS s.vm - fS vm + (k2 + r2)) → Q v h' ∧ Fr n0 L → Aj p e below En T' (mkF m (pc + 3) ls (v.toList ++ rest))) {ki : Nat}
    (w1 : tables_1[i1]? = some (Jvm.Cond.methodLink own index y) := by exact rfl) (w2 : tables_1[i2]? = some (Jvm.Cond.instanceMethod y) := by exact rfl) (w3 : tables_1[i3]? = some (Jvm.Cond.instantiable y.cls ki) := by exact rfl) (w4 : tables_1[i4]? = some (Jvm.Cond.privateMethod y) := by exact rfl) (w5 : tables_1[i5]? = some (Jvm.Cond.code y cdy maxy rety) := by exact rfl) (w6 : tables_1[i6]? = some (Jvm.Cond.initialized y.cls) := by exact rfl) (hy : y.cls ≠ "java/lang/invoke/MethodHandle" ∧ y.cls ≠ "java/lang/invoke/VarHandle" := by decide)
    (hf : f + 1 ≤ f' := by decide) (hl : W + (maxy + 11) + lo ≤ lo' := by decide) (has : (.ref a :: argsL).toArray = as' := by exact rfl) (hds : y.desc = ds := by exact rfl) (hlen : argsL.length = ps.length := by exact rfl) (hstk : st = argsL.reverse ++ .ref a :: rest := by exact rfl) (hsz : ls.size = maxL := by exact rfl) (hW : (rest.map fun v => v.category).sum ≤ W := by exact Bw rfl) (hc : k1 + r1 ≤ rc := by decide) (hs : k2 + r2 ≤ rs := by decide) (hd : decode cd pc = .ok (.invokevirtual index, 3) := by decide +kernel) : Aj p e below En T (mkF m pc ls st) :=
  Bq C S (ow hw i1 w1) (ow hw i2 w2) (own_selfI (ow hw i2 w2) (ow hw i4 w4) (ow hw i3 w3) hy) (ow hw i4 w4) (ow hw i5 w5) hy (Ag.pay M C W (ow hw i5 w5) (ow hw i6 w6) hf hl) (fun _ _ _ q => q.2) E argsL rest has (hds ▸ hpd) hlen hstk hsz hW (by show fC s.vm - fC vm + k1 + r1 ≤ P1 + rc; omega) (by show fS s.vm - fS vm + k2 + r2 ≤ P2 + rs; omega) hd (fun T' h' v L S' => k T' h' v L (by rw [← Nat.add_assoc, ← Nat.add_assoc]; exact S'))
theorem Bt (C : Bp p s m meth c Z own cd maxL ret nm) (S : Az p l e R s m args below meth c n0 T h cells slots) (hw : ∀ d ∈ tables_1, d.before a0 Z = true) (i1 i2 i3 i4 i5 i6 i7 : Nat) (M : Ag l Z z cdy maxy rety rm n0 as' h Q) (W : Nat) {a : Addr} {Cl : String} (E : Exa Z h a Cl) (argsL rest : List Value) {ds : String} (hpd : parseMethodDescriptor ds = some ⟨ps, rr⟩)
    (k : ∀ T' h' v L, Az p l e R s m args below meth c n0 T' h' (cells + rm.cells) (slots + rm.slots) → Q v h' ∧ Fr n0 L → Aj p e below En T' (mkF m (pc + 3) ls (v.toList ++ rest))) {Cl' : String} {y' : MethodName}
    (w1 : tables_1[i1]? = some (Jvm.Cond.methodLink own index y) := by exact rfl) (w2 : tables_1[i2]? = some (Jvm.Cond.declares y) := by exact rfl) (w3 : tables_1[i3]? = some (Jvm.Cond.selects Cl y z) := by exact rfl) (w3' : tables_1[i4]? = some (Jvm.Cond.selects Cl' y' y') := by exact rfl) (w4 : tables_1[i5]? = some (Jvm.Cond.instanceMethod z) := by exact rfl) (w5 : tables_1[i6]? = some (Jvm.Cond.code z cdy maxy rety) := by exact rfl) (w6 : tables_1[i7]? = some (Jvm.Cond.initialized z.cls) := by exact rfl) (hyc : y'.cls = y.cls := by exact rfl) (hy : y.cls ≠ "java/lang/invoke/MethodHandle" ∧ y.cls ≠ "java/lang/invoke/VarHandle" := by decide)
    (hf : rm.frames + 1 ≤ R.frames := by decide) (hl : W + (maxy + 11) + rm.locals ≤ R.locals := by decide) (has : (.ref a :: argsL).toArray = as' := by exact rfl) (hds : y.desc = ds := by exact rfl) (hlen : argsL.length = ps.length := by exact rfl) (hstk : st = argsL.reverse ++ .ref a :: rest := by exact rfl) (hsz : ls.size = maxL := by exact rfl) (hW : (rest.map fun v => v.category).sum ≤ W := by exact Bw rfl) (hc : cells + rm.cells ≤ R.cells := by decide) (hs : slots + rm.slots ≤ R.slots := by decide) (hd : decode cd pc = .ok (.invokevirtual index, 3) := by decide +kernel) : Aj p e below En T (mkF m pc ls st) :=
  own_callV C S (ow hw i1 w1) (ow hw i2 w2) (ow hw i3 w3) (ow hw i4 w3') hyc (ow hw i5 w4) hy (Ag.pay M C W (ow hw i6 w5) (ow hw i7 w6) hf hl) (fun _ _ _ q => q.2) E argsL rest has (hds ▸ hpd) hlen hstk hsz hW hc hs hd k
theorem Cm (C : Bp p (s.setVm vm) m meth c Z own cd maxL ret nm) (S : Az p l e { frames := f', cells := P1 + rc, slots := P2 + rs, locals := lo' } (s.setVm vm) m args below meth c n0 T h (fC s.vm - fC vm + k1) (fS s.vm - fS vm + k2)) (hP1 : fC s.vm ≤ P1) (hP2 : fS s.vm ≤ P2) (hw : ∀ d ∈ tables_1, d.before a0 Z = true) (i1 i2 i3 i4 i5 i6 i7 : Nat) (M : Ag l Z z cdy maxy rety { frames := f, cells := r1, slots := r2, locals := lo } n0 as' h Q) (W : Nat) {a : Addr} {Cl : String} (E : Exa Z h a Cl) (argsL rest : List Value) {ds : String} (hpd : parseMethodDescriptor ds = some ⟨ps, rr⟩)
    (k : ∀ T' h' v L, Az p l e { frames := f', cells := P1 + rc, slots := P2 + rs, locals := lo' } (s.setVm vm) m args below meth c n0 T' h' (fC s.vm - fC vm + (k1 + r1)) (fS s.vm - fS vm + (k2 + r2)) → Q v h' ∧ Fr n0 L → Aj p e below En T' (mkF m (pc + 3) ls (v.toList ++ rest))) {Cl' : String} {y' : MethodName}
    (w1 : tables_1[i1]? = some (Jvm.Cond.methodLink own index y) := by exact rfl) (w2 : tables_1[i2]? = some (Jvm.Cond.declares y) := by exact rfl) (w3 : tables_1[i3]? = some (Jvm.Cond.selects Cl y z) := by exact rfl) (w3' : tables_1[i4]? = some (Jvm.Cond.selects Cl' y' y') := by exact rfl) (w4 : tables_1[i5]? = some (Jvm.Cond.instanceMethod z) := by exact rfl) (w5 : tables_1[i6]? = some (Jvm.Cond.code z cdy maxy rety) := by exact rfl) (w6 : tables_1[i7]? = some (Jvm.Cond.initialized z.cls) := by exact rfl) (hyc : y'.cls = y.cls := by exact rfl) (hy : y.cls ≠ "java/lang/invoke/MethodHandle" ∧ y.cls ≠ "java/lang/invoke/VarHandle" := by decide)
    (hf : f + 1 ≤ f' := by decide) (hl : W + (maxy + 11) + lo ≤ lo' := by decide) (has : (.ref a :: argsL).toArray = as' := by exact rfl) (hds : y.desc = ds := by exact rfl) (hlen : argsL.length = ps.length := by exact rfl) (hstk : st = argsL.reverse ++ .ref a :: rest := by exact rfl) (hsz : ls.size = maxL := by exact rfl) (hW : (rest.map fun v => v.category).sum ≤ W := by exact Bw rfl) (hc : k1 + r1 ≤ rc := by decide) (hs : k2 + r2 ≤ rs := by decide) (hd : decode cd pc = .ok (.invokevirtual index, 3) := by decide +kernel) : Aj p e below En T (mkF m pc ls st) :=
  own_callV C S (ow hw i1 w1) (ow hw i2 w2) (ow hw i3 w3) (ow hw i4 w3') hyc (ow hw i5 w4) hy (Ag.pay M C W (ow hw i6 w5) (ow hw i7 w6) hf hl) (fun _ _ _ q => q.2) E argsL rest has (hds ▸ hpd) hlen hstk hsz hW (by show fC s.vm - fC vm + k1 + r1 ≤ P1 + rc; omega) (by show fS s.vm - fS vm + k2 + r2 ≤ P2 + rs; omega) hd (fun T' h' v L S' => k T' h' v L (by rw [← Nat.add_assoc, ← Nat.add_assoc]; exact S'))
theorem Cu (C : Dl p meth c Z a0 EL cd maxL ret nm) (S : Bz p l e { frames := f', cells := P1 + rc, slots := P2 + rs, locals := lo' } s m args below meth c n0 Z EL fC fS own T h G cells slots) (hFP : Dw Z CL fC fS) (hP1 : fC s.vm ≤ P1) (hP2 : fS s.vm ≤ P2) (hw : ∀ d ∈ tables_1, d.before a0 Z = true) (i1 i2 i3 i4 i5 i6 : Nat) (M : Co l Z EL CL y cdy maxy rety f r1 r2 lo k1 k2 n0 as' h [] Q) (W : Nat) {a : Addr} {Cl : String} (E : Exa Z h a Cl) (argsL rest : List Value) {ds : String} (hpd : parseMethodDescriptor ds = some ⟨ps, rr⟩)
    (k : ∀ T' h' v, Bz p l e { frames := f', cells := P1 + rc, slots := P2 + rs, locals := lo' } s m args below meth c n0 Z EL fC fS own T' h' G (cells + k1) (slots + k2) → h.size ≤ h'.size → Q v h' → Aj p e below En T' (mkF m (pc + 3) ls (v.toList ++ rest))) {ki : Nat}
    (w1 : tables_1[i1]? = some (Jvm.Cond.methodLink own index y) := by exact rfl) (w2 : tables_1[i2]? = some (Jvm.Cond.instanceMethod y) := by exact rfl) (w3 : tables_1[i3]? = some (Jvm.Cond.instantiable y.cls ki) := by exact rfl) (w4 : tables_1[i4]? = some (Jvm.Cond.privateMethod y) := by exact rfl) (w5 : tables_1[i5]? = some (Jvm.Cond.code y cdy maxy rety) := by exact rfl) (w6 : tables_1[i6]? = some (Jvm.Cond.initialized y.cls) := by exact rfl) (hy : y.cls ≠ "java/lang/invoke/MethodHandle" ∧ y.cls ≠ "java/lang/invoke/VarHandle" := by decide)
    (hf : f + 1 ≤ f' := by decide) (hl : W + (maxy + 11) + lo ≤ lo' := by decide) (has : (.ref a :: argsL).toArray = as' := by exact rfl) (hds : y.desc = ds := by exact rfl) (hlen : argsL.length = ps.length := by exact rfl) (hstk : st = argsL.reverse ++ .ref a :: rest := by exact rfl) (hsz : ls.size = maxL := by exact rfl) (hW : (rest.map fun v => v.category).sum ≤ W := by exact Bw rfl) (hc : cells + r1 ≤ rc := by decide) (hs : slots + r2 ≤ rs := by decide) (hd : decode cd pc = .ok (.invokevirtual index, 3) := by decide +kernel) : Aj p e below En T (mkF m pc ls st) :=
  own_callPP C S hFP (ow hw i1 w1) (ow hw i2 w2) (own_selfI (ow hw i2 w2) (ow hw i4 w4) (ow hw i3 w3) hy) (ow hw i4 w4) (ow hw i6 w6) (ow hw i5 w5) hy M (fun _ q => nomatch q) W hf hl E argsL rest has (hds ▸ hpd) hlen hstk hsz hW hP1 hP2 (Nat.add_le_add_left hc P1) (Nat.add_le_add_left hs P2) hd k
theorem Cv (C : Dl p meth c Z a0 EL cd maxL ret nm) (S : Bz p l e { frames := f', cells := P1 + rc, slots := P2 + rs, locals := lo' } s m args below meth c n0 Z EL fC fS own T h G cells slots) (hFP : Dw Z CL fC fS) (hP1 : fC s.vm ≤ P1) (hP2 : fS s.vm ≤ P2) (hw : ∀ d ∈ tables_1, d.before a0 Z = true) (i1 i2 n : Nat) {text : String}
    (k : ∀ T' h' a, Bz p l e { frames := f', cells := P1 + rc, slots := P2 + rs, locals := lo' } s m args below meth c n0 Z EL fC fS own T' h' G cells slots → Ext h h' → Aj p e below En T' (mkF m (pc + 2) ls (.ref a :: st))) (w : tables_1[i1]? = some (Jvm.Cond.stringLink own index text) := by exact rfl)
    (hn : 4 * text.toList.length ≤ n := by decide) (hbig : n ≤ 536870912 := by decide) (hCL : CL[i2]? = some (own, index, n + 4) := by exact rfl) (hc : cells ≤ rc := by decide) (hl' : slots ≤ rs := by decide) (hd : decode cd pc = .ok (.ldc index, 2) := by decide +kernel) : Aj p e below En T (mkF m pc ls st) :=
  own_ldcPO C S hFP (ow hw i1 w) hd n hn hbig (List.mem_of_getElem? hCL) hP1 hP2 (Nat.add_le_add_left hc P1) (Nat.add_le_add_left hl' P2) k
end OwnKitS

theorem Fh (x : Int32) : nar .char x.toUInt32.toUInt16.toUInt32.toInt32 = x.toUInt32.toUInt16.toUInt32.toInt32 := by
  have h := Jvm.Free.XT.narrow_c x
  exact Value.int.inj h
theorem Fi (x : Int32) : nar .byte x.toInt8.toInt32 = x.toInt8.toInt32 := by
  have h := Jvm.Free.XT.narrow_b x
  exact Value.int.inj h
theorem own_and255 (x : Int32) : ¬ (x &&& (255 : Int32)) < 0 ∧ ¬ (255 : Int32) < (x &&& (255 : Int32)) := by
  have h := c_and x (255 : Int32) (by decide)
  rw [Int32.lt_iff_toInt_lt, Int32.lt_iff_toInt_lt]
  have e1 : (255 : Int32).toInt = 255 := rfl
  have e2 : (0 : Int32).toInt = 0 := rfl
  omega
theorem own_shr0 (x : Int32) : x >>> ((0 : Int32) &&& 31) = x := by
  rw [show ((0 : Int32) &&& 31) = 0 from by decide]; exact Int32.shiftRight_zero
theorem Ay {i : Nat} (h : i ≤ 4000) : ¬ Int32.ofNat i < 0 ∧ (Int32.ofNat i).toNatClampNeg = i := by
  have e : (Int32.ofNat i).toInt = i := Int32.toInt_ofNat_of_lt (by omega)
  refine ⟨?_, ?_⟩
  · rw [Int32.lt_iff_toInt_lt, e]
    have e0 : (0 : Int32).toInt = 0 := rfl
    omega
  · simp only [Int32.toNatClampNeg, e]; omega
theorem Gj {i n : Nat} (h : i ≤ 4000) (hn : n ≤ 4000) : Int32.ofNat i < Int32.ofNat n ↔ i < n := by
  have e : (Int32.ofNat i).toInt = i := Int32.toInt_ofNat_of_lt (by omega)
  have e2 : (Int32.ofNat n).toInt = n := Int32.toInt_ofNat_of_lt (by omega)
  rw [Int32.lt_iff_toInt_lt, e, e2]; omega
theorem Af (i : Nat) : Int32.ofNat i + 1 = Int32.ofNat (i + 1) := by
  rw [Int32.ofNat_add]; rfl
theorem Dd {cs : List Int32} {i : Nat} (hi : i < cs.length) : cs.getD i 0 ∈ cs := by
  simp [List.getD, List.getElem?_eq_getElem hi]
def own_IO (r : Int32) (cs : List Int32) (k : Int32) : Prop := (r < 0 ∧ ∀ c ∈ cs, ¬ c = k) ∨ (¬ r < 0 ∧ k ∈ cs)
theorem own_IO.no {r k : Int32} {cs : List Int32} (q : own_IO r cs k) (h : ∀ c ∈ cs, ¬ c = k) (hr : ¬ r < 0) : False := by
  rcases q with ⟨q, -⟩ | ⟨-, q⟩
  · exact hr q
  · exact h k q rfl
def own_Ch (r : Int32) : Prop := (¬ r < 0 ∧ ¬ (255 : Int32) < r) ∧ nar .char r = r ∧ r.toUInt32.toUInt16.toUInt32.toInt32 = r
theorem own_Ch.of (x : Int32) : own_Ch (x &&& (255 : Int32)) := ⟨own_and255 x, i2c_mask x, i2c_mask x⟩
theorem own_oN {n : Nat} (h : n ≤ 4000) : (Int32.ofNat n).toInt = n ∧ (Int32.ofNat n).toNatClampNeg = n := by
  have e : (Int32.ofNat n).toInt = n := Int32.toInt_ofNat_of_lt (by omega)
  exact ⟨e, (Ay h).2⟩
theorem own_andm (y : Int32) : (y &&& 255).toInt = y.toInt % 256 := by
  have e1 : (y &&& 255).toBitVec.toNat = y.toBitVec.toNat % 256 := by
    show (y.toBitVec &&& (255#32)).toNat = _
    rw [BitVec.toNat_and]; exact Nat.and_two_pow_sub_one_eq_mod _ 8
  have e2 : (y &&& 255).toInt = ((y &&& 255).toBitVec.toNat : Int) := BitVec.toInt_eq_toNat_of_lt (by omega)
  have e3 : y.toInt = y.toBitVec.toInt := rfl
  rw [e2, e1, e3, BitVec.toInt_eq_toNat_cond]; split <;> omega
theorem Gk (x : Int32) : (x.toInt8.toInt32 &&& 255).toInt = x.toInt % 256 := by
  rw [own_andm]
  have e3 : x.toInt8.toInt32.toInt = x.toInt.bmod (2 ^ 8) := by simp
  rw [e3]
  have := Int.bmod_emod (x := x.toInt) (m := 2 ^ 8)
  omega
theorem Dp {x : Int32} (h1 : 0 ≤ x.toInt) (h2 : x.toInt ≤ 65535) : x.toUInt32.toUInt16.toUInt32.toInt32 = x := by
  apply Int32.toInt_inj.mp
  have e1 : x.toUInt32.toUInt16.toUInt32.toInt32.toBitVec.toNat = x.toBitVec.toNat % 65536 := by
    show ((x.toBitVec.setWidth 16).setWidth 32).toNat = _
    simp only [BitVec.toNat_setWidth]; omega
  have e3 : x.toInt = x.toBitVec.toInt := rfl
  rw [e3, BitVec.toInt_eq_toNat_cond] at h1 h2
  have e4 : x.toUInt32.toUInt16.toUInt32.toInt32.toInt = x.toUInt32.toUInt16.toUInt32.toInt32.toBitVec.toInt := rfl
  have hb := x.toBitVec.isLt
  rw [e4, e3, BitVec.toInt_eq_toNat_cond, BitVec.toInt_eq_toNat_cond, e1]
  split at h1 <;> split <;> omega
theorem own_or8 {l m : Int32} (hl : 0 ≤ l.toInt ∧ l.toInt < 256) {h : Nat} (hm : m.toInt = 256 * h) (hh : h < 256) : (l ||| m).toInt = l.toInt + m.toInt := by
  have el : l.toInt = l.toBitVec.toInt := rfl
  have em : m.toInt = m.toBitVec.toInt := rfl
  have nl : (l.toBitVec.toNat : Int) = l.toInt := by
    have := l.toBitVec.isLt
    have e := BitVec.toInt_eq_toNat_cond l.toBitVec
    rw [← el] at e; split at e <;> omega
  have nm : (m.toBitVec.toNat : Int) = m.toInt := by
    have := m.toBitVec.isLt
    have e := BitVec.toInt_eq_toNat_cond m.toBitVec
    rw [← em] at e; split at e <;> omega
  have e1 : (l ||| m).toBitVec.toNat = l.toBitVec.toNat + m.toBitVec.toNat := by
    show (l.toBitVec ||| m.toBitVec).toNat = _
    rw [BitVec.toNat_or]
    have e5 : m.toBitVec.toNat = 2 ^ 8 * h := by omega
    have e6 : l.toBitVec.toNat < 2 ^ 8 := by omega
    rw [e5, Nat.or_comm, ← Nat.two_pow_add_eq_or_of_lt e6 h]; omega
  have e2 : (l ||| m).toInt = ((l ||| m).toBitVec.toNat : Int) := BitVec.toInt_eq_toNat_of_lt (by omega)
  omega
theorem own_shl8 {u : Int32} (h1 : 0 ≤ u.toInt) (h2 : u.toInt < 256) : (u <<< ((8 : Int32) &&& 31)).toInt = 256 * u.toInt := by
  have e : u = Int32.ofNat u.toInt.toNat := by
    apply Int32.toInt_inj.mp
    rw [Int32.toInt_ofNat_of_lt (by omega)]; omega
  have h3 : u.toInt.toNat < 256 := by omega
  have : ∀ n < 256, (Int32.ofNat n <<< ((8 : Int32) &&& 31)).toInt = 256 * (n : Int) := by decide +kernel
  have := this _ h3
  rw [← e] at this; omega
theorem own_u16 {c : Int32} (h1 : 0 ≤ c.toInt) (h2 : c.toInt ≤ 65535) : ((((c >>> ((0 : Int32) &&& 31)).toInt8.toInt32 &&& 255) <<< ((0 : Int32) &&& 31)) ||| (((c >>> ((8 : Int32) &&& 31)).toInt8.toInt32 &&& 255) <<< ((8 : Int32) &&& 31))).toUInt32.toUInt16.toUInt32.toInt32 = c := by
  rw [show ((0 : Int32) &&& 31) = 0 from by decide, show c >>> (0 : Int32) = c from Int32.shiftRight_zero, Int32.shiftLeft_zero]
  have a1 := Gk c
  have a2 := Gk (c >>> ((8 : Int32) &&& 31))
  have a3 := c_ishr c 8 8 (by decide)
  rw [a3] at a2
  have a4 := own_shl8 (u := (c >>> ((8 : Int32) &&& 31)).toInt8.toInt32 &&& 255) (by omega) (by omega)
  have a5 := own_or8 (l := c.toInt8.toInt32 &&& 255) (m := ((c >>> ((8 : Int32) &&& 31)).toInt8.toInt32 &&& 255) <<< ((8 : Int32) &&& 31)) ⟨by omega, by omega⟩ (h := (c.toInt / 256).toNat) (by omega) (by omega)
  have e : (c.toInt8.toInt32 &&& 255 ||| ((c >>> ((8 : Int32) &&& 31)).toInt8.toInt32 &&& 255) <<< ((8 : Int32) &&& 31)) = c := by
    apply Int32.toInt_inj.mp
    omega
  rw [e]; exact Dp h1 h2
abbrev Br : List (String × Nat) := consts_1
abbrev Cw : List (String × Nat × Nat) := [("com/example/limit1/limit1/JsonText", 13, 20), ("com/example/limit1/limit1/JsonText", 51, 32), ("com/example/limit1/limit1/JsonText", 120, 16), ("com/example/limit1/limit1/JsonText", 149, 84), ("com/example/limit1/limit1/JsonText", 151, 36), ("com/example/limit1/limit1/JsonText", 91, 20), ("com/example/limit1/limit1/JsonText", 162, 12), ("com/example/limit1/limit1/JsonText", 96, 24), ("com/example/limit1/limit1/JsonText", 98, 20)]
theorem Fj {x a b : Int32} (h : ¬ x < a ∧ ¬ b < x) : a.toInt ≤ x.toInt ∧ x.toInt ≤ b.toInt := by
  rw [Int32.lt_iff_toInt_lt, Int32.lt_iff_toInt_lt] at h; omega
theorem Ew {x : Int32} {n : Nat} (h : ¬ x < 0) (h2 : x.toInt < n) (hn : n ≤ 65536) : ∃ k, k < n ∧ x = Int32.ofNat k := by
  rw [Int32.lt_iff_toInt_lt] at h
  have e0 : (0 : Int32).toInt = 0 := rfl
  refine ⟨x.toInt.toNat, by omega, ?_⟩
  apply Int32.toInt_inj.mp
  rw [Int32.toInt_ofNat_of_lt (by omega)]; omega
theorem own_k8 {x : Int32} (h : ¬ x < 0 ∧ ¬ (255 : Int32) < x) : x.toInt8.toInt32 &&& 255 = x := by
  have h2 := Fj h
  have e0 : (0 : Int32).toInt = 0 := rfl
  have e1 : (255 : Int32).toInt = 255 := rfl
  exact Int32.toInt_inj.mp (by rw [Gk]; omega)
def Cc (cs : List Int32) : List Value := cs.map fun k => Value.int k.toInt8.toInt32
def Ck (cs : List Int32) : List Value := cs.flatMap fun k => [Value.int (k >>> ((0 : Int32) &&& 31)).toInt8.toInt32, Value.int (k >>> ((8 : Int32) &&& 31)).toInt8.toInt32]
def Bi (k : Int32) : Prop := 0 ≤ k.toInt ∧ k.toInt ≤ 65535
def Bx (cs : List Int32) (kd N : Int32) (vs : List Value) : Prop := (∀ k ∈ cs, Bi k) ∧ cs.length ≤ 88 ∧ ((kd = 0 ∧ N = Int32.ofNat cs.length ∧ vs = Cc cs ∧ ∀ k ∈ cs, k.toInt ≤ 255) ∨ (kd = 1 ∧ N = Int32.ofNat (2 * cs.length) ∧ vs = Ck cs))
theorem own_sbget {cs : List Int32} {i : Nat} (h : i ≤ 4000) (hi : i < cs.length) : (Cc cs).getD (Int32.ofNat i).toNatClampNeg (.int 0) = .int (cs.getD i 0).toInt8.toInt32 := by
  rw [(Ay h).2]
  simp [Cc, List.getD, List.getElem?_map, List.getElem?_eq_getElem hi]
theorem Fy (cs : List Int32) : (Ck cs).length = 2 * cs.length := by
  induction cs with
  | nil => rfl
  | cons k r ih => simp only [Ck, List.flatMap_cons, List.length_append, List.length_cons, List.length_nil] at *; omega
theorem own_ub_cons (k : Int32) (r : List Int32) : Ck (k :: r) = Value.int (k >>> ((0 : Int32) &&& 31)).toInt8.toInt32 :: Value.int (k >>> ((8 : Int32) &&& 31)).toInt8.toInt32 :: Ck r := by simp [Ck]
theorem own_ubg : ∀ {cs : List Int32} {i : Nat}, i < cs.length → (Ck cs).getD (2 * i) (.int 0) = .int ((cs.getD i 0) >>> ((0 : Int32) &&& 31)).toInt8.toInt32 ∧ (Ck cs).getD (2 * i + 1) (.int 0) = .int ((cs.getD i 0) >>> ((8 : Int32) &&& 31)).toInt8.toInt32
  | [], i, h => by simp at h
  | k :: r, 0, _ => by rw [own_ub_cons]; exact ⟨rfl, rfl⟩
  | k :: r, i + 1, h => by
    have ih := own_ubg (cs := r) (i := i) (by simpa using h)
    rw [own_ub_cons]
    exact ⟨by have := ih.1; simpa [List.getD, Nat.mul_add] using this, by have := ih.2; simpa [List.getD, Nat.mul_add] using this⟩
theorem own_ubg0 {cs : List Int32} {i : Nat} (hn : cs.length ≤ 88) (hi : i < cs.length) : (Ck cs).getD (Int32.ofNat (2 * i)).toNatClampNeg (.int 0) = .int ((cs.getD i 0) >>> ((0 : Int32) &&& 31)).toInt8.toInt32 := by
  rw [(Ay (by omega)).2]; exact (own_ubg hi).1
theorem own_ubg1 {cs : List Int32} {i : Nat} (hn : cs.length ≤ 88) (hi : i < cs.length) : (Ck cs).getD (Int32.ofNat (2 * i + 1)).toNatClampNeg (.int 0) = .int ((cs.getD i 0) >>> ((8 : Int32) &&& 31)).toInt8.toInt32 := by
  rw [(Ay (by omega)).2]; exact (own_ubg hi).2
theorem own_dbl {n : Nat} (h : n ≤ 88) : Int32.ofNat n <<< ((1 : Int32) &&& 31) = Int32.ofNat (2 * n) ∧ Int32.ofNat (2 * n) >>> ((1 : Int32) &&& 31) = Int32.ofNat n ∧ Int32.ofNat n < 1073741823 := by
  have : ∀ n < 89, Int32.ofNat n <<< ((1 : Int32) &&& 31) = Int32.ofNat (2 * n) ∧ Int32.ofNat (2 * n) >>> ((1 : Int32) &&& 31) = Int32.ofNat n ∧ Int32.ofNat n < 1073741823 := by decide +kernel
  exact this n (by omega)
theorem Cb {i n : Nat} (h : i < n) (hn : n ≤ 4000) : Int32.ofNat i < Int32.ofNat n := (Gj (by omega) hn).mpr h
theorem Ed {i n : Nat} (h : ¬ i < n) (hi : i ≤ 4000) (hn : n ≤ 4000) : ¬ Int32.ofNat i < Int32.ofNat n := fun q => h ((Gj hi hn).mp q)
theorem own_oNinj {a b : Nat} (ha : a ≤ 4000) (hb : b ≤ 4000) : Int32.ofNat a = Int32.ofNat b ↔ a = b := by
  refine ⟨fun h => ?_, fun h => by rw [h]⟩
  have e1 := (own_oN ha).1
  have e2 := (own_oN hb).1
  rw [h] at e1; omega
theorem own_lat {k : Int32} (h : Bi k) (h2 : k.toInt ≤ 255) : (k.toInt8.toInt32 &&& 255).toUInt32.toUInt16.toUInt32.toInt32 = k := by
  have e : k.toInt8.toInt32 &&& 255 = k := Int32.toInt_inj.mp (by rw [Gk]; have := h.1; omega)
  rw [e]; exact Dp h.1 h.2
theorem own_irr (x : Int32) : ¬ x < x := by rw [Int32.lt_iff_toInt_lt]; omega
def Ae (cs : List Int32) (pp : Nat) (rem : List Int32) : Prop := cs.drop pp = rem ∧ pp ≤ cs.length
theorem Ae.hd {cs r : List Int32} {pp : Nat} {k : Int32} (h : Ae cs pp (k :: r)) : pp < cs.length ∧ cs.getD pp 0 = k ∧ Ae cs (pp + 1) r := by
  obtain ⟨h1, h2⟩ := h
  have hlt : pp < cs.length := by
    rcases Nat.lt_or_ge pp cs.length with q | q
    · exact q
    · rw [List.drop_of_length_le q] at h1; cases h1
  rw [List.drop_eq_getElem_cons hlt] at h1
  injection h1 with e1 e2
  exact ⟨hlt, by simp [List.getD, List.getElem?_eq_getElem hlt, e1], e2, hlt⟩
theorem Ae.nl {cs : List Int32} {pp : Nat} (h : Ae cs pp []) : pp = cs.length := by
  have := List.drop_eq_nil_iff.mp h.1
  have := h.2
  omega
def Aw (k : Int32) : Prop := k = 32 ∨ k = 9 ∨ k = 10 ∨ k = 13
def own_nws (R : List Int32) : Prop := ∀ k r, R = k :: r → ¬ Aw k
def Bg (Z : State) (G1 : Int32) (G3 : Value) : Prop := (Sta Z Z.heap "java/lang/String" "COMPACT_STRINGS" "Z" (.int G1)) ∧ (Sta Z Z.heap "jdk/internal/util/Preconditions" "SIOOBE_FORMATTER" "Ljava/util/function/BiFunction;" G3) ∧ (¬ G1 = (0 : Int32)) ∧ (G3.isRef = true) ∧ (Sta Z Z.heap "java/lang/StringUTF16" "$assertionsDisabled" "Z" (.int 1)) ∧ (Sta Z Z.heap "java/lang/StringUTF16" "HI_BYTE_SHIFT" "I" (.int 0)) ∧ (Sta Z Z.heap "java/lang/StringUTF16" "LO_BYTE_SHIFT" "I" (.int 8)) ∧ (Sta Z Z.heap "java/util/BitSet" "$assertionsDisabled" "Z" (.int 1))
def Bl (r a b : Int32) : Prop := (r = 1 ∧ a = b) ∨ (r = 0 ∧ ¬ a = b)
def Bu (k : Int32) : Prop := ¬ k < 48 ∧ ¬ 57 < k
def Ez (r a : Int32) : Prop := (r = 1 ∧ Bu a) ∨ (r = 0 ∧ ¬ Bu a)
def Em (D : List Int32) : Prop := ¬ D = [] ∧ ∀ k ∈ D, Bu k
def Ei (k : Int32) : Prop := ¬ Bu k ∧ ¬ k = 46 ∧ ¬ k = 101 ∧ ¬ k = 69
def own_Ex (S R : List Int32) : Prop := S = R ∨ ∃ e sg D, S = e :: (sg ++ (D ++ R)) ∧ (e = 101 ∨ e = 69) ∧ (sg = [] ∨ sg = [43] ∨ sg = [45]) ∧ Em D
def own_Fx (S R : List Int32) : Prop := own_Ex S R ∨ ∃ D S1, S = 46 :: (D ++ S1) ∧ Em D ∧ own_Ex S1 R
def own_Ix (S R : List Int32) : Prop := (∃ S1, S = 48 :: S1 ∧ own_Fx S1 R) ∨ ∃ d0 D S1, S = (d0 :: D) ++ S1 ∧ Em (d0 :: D) ∧ ¬ d0 = 48 ∧ own_Fx S1 R
def own_Nx (S R : List Int32) : Prop := own_Ix S R ∨ ∃ S1, S = 45 :: S1 ∧ own_Ix S1 R
theorem Bl.one {r a b : Int32} (q : Bl r a b) (h : a = b) : r = 1 := q.elim (fun q => q.1) (fun q => absurd h q.2)
theorem Bl.zero {r a b : Int32} (q : Bl r a b) (h : ¬ a = b) : r = 0 := q.elim (fun q => absurd q.2 h) (fun q => q.1)
theorem Ez.one {r a : Int32} (q : Ez r a) (h : Bu a) : r = 1 := q.elim (fun q => q.1) (fun q => absurd h q.2)
theorem Ez.zero {r a : Int32} (q : Ez r a) (h : ¬ Bu a) : r = 0 := q.elim (fun q => absurd q.2 h) (fun q => q.1)
theorem Em.hd {D : List Int32} (h : Em D) : ∃ d0 D1, D = d0 :: D1 ∧ Bu d0 := by
  rcases D with _ | ⟨d0, D1⟩
  · exact absurd rfl h.1
  · exact ⟨d0, D1, rfl, h.2 _ (List.mem_cons_self ..)⟩
theorem own_dgn {k n : Int32} (h : Bu k) (hn : ¬ Bu n) : ¬ k = n := fun q => hn (q ▸ h)
theorem own_Ex.hd {S rm : List Int32} {tm : Int32} (h : own_Ex S (tm :: rm)) (ht : Ei tm) : ∃ k r, S = k :: r ∧ ¬ Bu k ∧ ¬ k = 46 := by
  rcases h with rfl | ⟨e, sg, D, rfl, he, -⟩
  · exact ⟨tm, rm, rfl, ht.1, ht.2.1⟩
  · refine ⟨e, _, rfl, ?_⟩
    rcases he with rfl | rfl <;> (unfold Bu; decide)
theorem own_Fx.hd {S rm : List Int32} {tm : Int32} (h : own_Fx S (tm :: rm)) (ht : Ei tm) : ∃ k r, S = k :: r ∧ ¬ Bu k := by
  rcases h with h | ⟨D, S1, rfl, -⟩
  · obtain ⟨k, r, h1, h2, -⟩ := h.hd ht
    exact ⟨k, r, h1, h2⟩
  · exact ⟨46, _, rfl, by unfold Bu; decide⟩
theorem own_Ix.hd {S R : List Int32} (h : own_Ix S R) : ∃ k r, S = k :: r ∧ ¬ k = 45 := by
  rcases h with ⟨S1, rfl, -⟩ | ⟨d0, D, S1, rfl, hd, -⟩
  · exact ⟨48, _, rfl, by decide⟩
  · exact ⟨d0, _, rfl, own_dgn (hd.2 _ (List.mem_cons_self ..)) (by unfold Bu; decide)⟩
def Dr (r : Int32) (Q : Prop) : Prop := (r = 1 ∧ Q) ∨ (r = 0 ∧ ¬ Q)
theorem Dr.one {r : Int32} {Q : Prop} (q : Dr r Q) (h : Q) : r = 1 := q.elim (fun q => q.1) (fun q => absurd h q.2)
theorem Dr.zero {r : Int32} {Q : Prop} (q : Dr r Q) (h : ¬ Q) : r = 0 := q.elim (fun q => absurd q.2 h) (fun q => q.1)
def Db (k : Int32) : Prop := ¬ k < 55296 ∧ k < 56320
def Ds (k : Int32) : Prop := ¬ k < 56320 ∧ k < 57344
def own_su (k : Int32) : Prop := ¬ k < 55296 ∧ k < 57344
def Dq (k n : Int32) : Prop := (¬ n < 0 ∧ ¬ (15 : Int32) < n) ∧ ((n < 10 ∧ k = 48 + n) ∨ (¬ n < 10 ∧ k = 65 + n - 10) ∨ (¬ n < 10 ∧ k = 97 + n - 10))
theorem own_nibF {k n : Int32} (h : Dq k n) : (¬ k < 48 ∧ ¬ 57 < k ∧ k - 48 = n) ∨ (¬ k < 48 ∧ 57 < k ∧ ¬ k < 97 ∧ ¬ 102 < k ∧ (k - 97) + 10 = n) ∨ (¬ k < 48 ∧ 57 < k ∧ k < 97 ∧ ¬ k < 65 ∧ ¬ 70 < k ∧ (k - 65) + 10 = n) := by
  obtain ⟨h0, h⟩ := h
  have h2 := Fj h0
  have e0 : (0 : Int32).toInt = 0 := rfl
  have e1 : (15 : Int32).toInt = 15 := rfl
  obtain ⟨j, hj, rfl⟩ := Ew (n := 16) h0.1 (by omega) (by omega)
  have f1 : ∀ j < 16, ¬ Int32.ofNat j < 10 ∨ (¬ 48 + Int32.ofNat j < 48 ∧ ¬ 57 < 48 + Int32.ofNat j ∧ 48 + Int32.ofNat j - 48 = Int32.ofNat j) := by decide +kernel
  have f2 : ∀ j < 16, Int32.ofNat j < 10 ∨ (¬ 65 + Int32.ofNat j - 10 < 48 ∧ 57 < 65 + Int32.ofNat j - 10 ∧ 65 + Int32.ofNat j - 10 < 97 ∧ ¬ 65 + Int32.ofNat j - 10 < 65 ∧ ¬ 70 < 65 + Int32.ofNat j - 10 ∧ (65 + Int32.ofNat j - 10 - 65) + 10 = Int32.ofNat j) := by decide +kernel
  have f3 : ∀ j < 16, Int32.ofNat j < 10 ∨ (¬ 97 + Int32.ofNat j - 10 < 48 ∧ 57 < 97 + Int32.ofNat j - 10 ∧ ¬ 97 + Int32.ofNat j - 10 < 97 ∧ ¬ 102 < 97 + Int32.ofNat j - 10 ∧ (97 + Int32.ofNat j - 10 - 97) + 10 = Int32.ofNat j) := by decide +kernel
  rcases h with ⟨hn, rfl⟩ | ⟨hn, rfl⟩ | ⟨hn, rfl⟩
  · exact Or.inl ((f1 j hj).resolve_left (fun q => q hn))
  · exact Or.inr (Or.inr ((f2 j hj).resolve_left hn))
  · exact Or.inr (Or.inl ((f3 j hj).resolve_left hn))
def own_u4 (a b c d : Int32) : Int32 := (((((((((0 : Int32) * (16 : Int32)) + a) * (16 : Int32)) + b) * (16 : Int32)) + c) * (16 : Int32)) + d).toUInt32.toUInt16.toUInt32.toInt32
def own_Hx (L : List Int32) (u : Int32) : Prop := ∃ h1 h2 h3 h4 n1 n2 n3 n4, L = [h1, h2, h3, h4] ∧ Dq h1 n1 ∧ Dq h2 n2 ∧ Dq h3 n3 ∧ Dq h4 n4 ∧ u = own_u4 n1 n2 n3 n4
def Dk : List Int32 := [34, 92, 47, 98, 102, 110, 114, 116]
def own_Es (S R : List Int32) : Prop := (∃ k, S = 92 :: k :: R ∧ k ∈ Dk) ∨ (∃ L u, S = 92 :: 117 :: (L ++ R) ∧ own_Hx L u ∧ ¬ Ds u ∧ ¬ Db u) ∨ (∃ L u M v, S = 92 :: 117 :: (L ++ 92 :: 117 :: (M ++ R)) ∧ own_Hx L u ∧ Db u ∧ own_Hx M v ∧ Ds v)
theorem Db.no {k : Int32} (h : Db k) : ¬ Ds k := fun q => q.1 h.2
theorem Db.su {k : Int32} (h : Db k) : own_su k := ⟨h.1, by
  have := h.2
  rw [Int32.lt_iff_toInt_lt] at *
  have e1 : (56320 : Int32).toInt = 56320 := rfl
  have e2 : (57344 : Int32).toInt = 57344 := rfl
  omega⟩
def own_IQ (r : Int32) (cs : List Int32) (k : Int32) : Prop := (r < 0 ∧ ¬ k ∈ cs) ∨ (¬ r < 0 ∧ k ∈ cs)
theorem own_b8i {a b : Int32} (ha : ¬ a < 0 ∧ ¬ (255 : Int32) < a) (hb : ¬ b < 0 ∧ ¬ (255 : Int32) < b) (e : a.toInt8.toInt32 = b.toInt8.toInt32) : a = b := by
  have h1 := own_k8 ha
  have h2 := own_k8 hb
  rw [e] at h1; exact h1.symm.trans h2
theorem own_gat {cs dl : List Int32} {k : Int32} {i : Nat} (h : Ae cs i (k :: dl)) (hn : cs.length ≤ 88) : (Cc cs).getD (Int32.ofNat i).toNatClampNeg (.int 0) = .int k.toInt8.toInt32 := by
  have hg := Ae.hd h
  rw [own_sbget (by omega) hg.1, hg.2.1]
theorem own_sub2 {n : Nat} (h : 2 ≤ n) : Int32.ofNat n - Int32.ofNat 2 = Int32.ofNat (n - 2) := by
  obtain ⟨k, rfl⟩ : ∃ k, n = k + 2 := ⟨n - 2, by omega⟩
  rw [Int32.ofNat_add, Int32.add_sub_cancel]; congr 1
theorem own_s2 (i : Nat) : Int32.ofNat i + 2 = Int32.ofNat (i + 1 + 1) := by
  rw [show (2 : Int32) = Int32.ofNat 2 from rfl, ← Int32.ofNat_add]
theorem own_ru : Bx [92, 117] 0 2 [.int 92, .int 117] := ⟨by unfold Bi; decide, by decide, Or.inl ⟨rfl, rfl, rfl, by decide⟩⟩
theorem own_rsi : Bx Dk 0 (Int32.ofNat Dk.length) (Cc Dk) := ⟨by unfold Bi; decide, by decide, Or.inl ⟨rfl, rfl, rfl, by decide⟩⟩
theorem own_sie : Cc Dk = [.int 34, .int 92, .int 47, .int 98, .int 102, .int 110, .int 114, .int 116] := rfl
theorem own_sir : ∀ z ∈ Dk, ¬ z < 0 ∧ ¬ (255 : Int32) < z := by decide
def own_raw (k : Int32) : Prop := ¬ k = 34 ∧ ¬ k = 92 ∧ ¬ k < 32 ∧ ¬ own_su k
def own_U (u : List Int32) : Prop := (∃ k, u = [k] ∧ own_raw k) ∨ (∃ a b, u = [a, b] ∧ Db a ∧ Ds b) ∨ (∀ R, own_Es (u ++ R) R)
def Dm (B : List Int32) : Prop := ∃ us : List (List Int32), B = us.flatten ∧ ∀ u ∈ us, own_U u
theorem own_Es.hd {S R : List Int32} (h : own_Es S R) : ∃ r, S = 92 :: r := by
  rcases h with ⟨k, rfl, -⟩ | ⟨L, u, rfl, -⟩ | ⟨L, u, M, v, rfl, -⟩
  · exact ⟨_, rfl⟩
  · exact ⟨_, rfl⟩
  · exact ⟨_, rfl⟩
theorem Db.big {k : Int32} (h : Db k) : ¬ k = 34 ∧ ¬ k = 92 ∧ ¬ k < 32 := by
  have := h.1
  refine ⟨fun q => ?_, fun q => ?_, fun q => ?_⟩
  · rw [q] at this; exact this (by decide)
  · rw [q] at this; exact this (by decide)
  · rw [Int32.lt_iff_toInt_lt] at *
    have e1 : (55296 : Int32).toInt = 55296 := rfl
    have e2 : (32 : Int32).toInt = 32 := rfl
    omega
theorem Bn {k : Int32} {r : List Int32} (h : ¬ Aw k) : own_nws (k :: r) := fun z s e => by injection e with e1; rw [← e1]; exact h
theorem own_rtrue : Bx [116, 114, 117, 101] 0 4 [.int 116, .int 114, .int 117, .int 101] := ⟨by unfold Bi; decide, by decide, Or.inl ⟨rfl, rfl, rfl, by decide⟩⟩
theorem own_rfalse : Bx [102, 97, 108, 115, 101] 0 5 [.int 102, .int 97, .int 108, .int 115, .int 101] := ⟨by unfold Bi; decide, by decide, Or.inl ⟨rfl, rfl, rfl, by decide⟩⟩
theorem own_rnull : Bx [110, 117, 108, 108] 0 4 [.int 110, .int 117, .int 108, .int 108] := ⟨by unfold Bi; decide, by decide, Or.inl ⟨rfl, rfl, rfl, by decide⟩⟩
def Df (S R : List Int32) : Prop := (∃ B, S = 34 :: (B ++ 34 :: R) ∧ Dm B) ∨ S = [116, 114, 117, 101] ++ R ∨ S = [102, 97, 108, 115, 101] ++ R ∨ S = [110, 117, 108, 108] ++ R ∨ (∃ tm rm, R = tm :: rm ∧ Ei tm ∧ own_Nx S R)
theorem own_lsN {k : Int32} (h : k = 45 ∨ Bu k) : (#[(34, 43), (102, 59), (110, 68), (116, 50)] : Array (Int × Int)).find? (·.1 == k.toInt) = none := by
  have h2 : k.toInt = 45 ∨ (48 ≤ k.toInt ∧ k.toInt ≤ 57) := by
    rcases h with rfl | h
    · exact Or.inl rfl
    · have := Fj h
      have e1 : (48 : Int32).toInt = 48 := rfl
      have e2 : (57 : Int32).toInt = 57 := rfl
      omega
  generalize k.toInt = z at h2
  simp
  omega
theorem own_Nx.hd {S R : List Int32} (h : own_Nx S R) : ∃ k r, S = k :: r ∧ (k = 45 ∨ Bu k) := by
  rcases h with h | ⟨S1, rfl, -⟩
  · rcases h with ⟨S1, rfl, -⟩ | ⟨d0, D, S1, rfl, hd, -⟩
    · exact ⟨48, _, rfl, Or.inr (by unfold Bu; decide)⟩
    · exact ⟨d0, _, rfl, Or.inr (hd.2 _ (List.mem_cons_self ..))⟩
  · exact ⟨45, _, rfl, Or.inl rfl⟩
def Fz (u : Int32) (W : Int64) (o cl : Int32) : Prop := (u = 0 ∧ W = 0 ∧ o = 0 ∧ cl = 93) ∨ (u = 1 ∧ W = 1 ∧ o = 1 ∧ cl = 125)
def Fk (W : Int64) (o cl : Int32) : Prop := (W = 4 ∧ o = 0 ∧ cl = 93) ∨ (W = 5 ∧ o = 1 ∧ cl = 125)
theorem own_B0 : Dm [] := ⟨[], rfl, fun _ q => nomatch q⟩
theorem Df.hd {S R : List Int32} (h : Df S R) : ∃ k r, S = k :: r ∧ ¬ Aw k ∧ ¬ k = 123 ∧ ¬ k = 91 ∧ ¬ k = 93 := by
  rcases h with ⟨B, rfl, -⟩ | rfl | rfl | rfl | ⟨tm, rm, rfl, -, hN⟩
  · exact ⟨34, _, rfl, by unfold Aw; decide⟩
  · exact ⟨116, _, rfl, by unfold Aw; decide⟩
  · exact ⟨102, _, rfl, by unfold Aw; decide⟩
  · exact ⟨110, _, rfl, by unfold Aw; decide⟩
  · obtain ⟨k, r, rfl, h⟩ := hN.hd
    refine ⟨k, r, rfl, ?_⟩
    have h2 : k.toInt = 45 ∨ (48 ≤ k.toInt ∧ k.toInt ≤ 57) := by
      rcases h with rfl | h
      · exact Or.inl rfl
      · have := Fj h
        have e1 : (48 : Int32).toInt = 48 := rfl
        have e2 : (57 : Int32).toInt = 57 := rfl
        omega
    refine ⟨?_, fun q => ?_, fun q => ?_, fun q => ?_⟩
    · rintro (q | q | q | q) <;> (rw [q] at h2; revert h2; decide)
    · rw [q] at h2; revert h2; decide
    · rw [q] at h2; revert h2; decide
    · rw [q] at h2; revert h2; decide
def own_Ct (S T : List Int32) : Prop := (∃ k, S = 91 :: k :: 93 :: T ∧ Aw k) ∨ (∃ k, S = 123 :: k :: 125 :: T ∧ Aw k) ∨ S = 123 :: 34 :: 34 :: 58 :: 91 :: 48 :: 93 :: 125 :: T ∨ S = 123 :: 34 :: 34 :: 58 :: 49 :: 44 :: 34 :: 34 :: 58 :: 91 :: 91 :: 93 :: 93 :: 125 :: T
def own_Arr (S T : List Int32) : Prop := ∃ k S2 S3 S4, Df S (44 :: (k :: S2)) ∧ Aw k ∧ Df S2 (44 :: S3) ∧ Df S3 (44 :: S4) ∧ own_Ct S4 (93 :: T)
def Ek (S R : List Int32) : Prop := Df S R ∨ (∃ ka Bk kb S1, S = 123 :: (ka :: (34 :: (Bk ++ 34 :: (kb :: (58 :: (91 :: S1)))))) ∧ Aw ka ∧ Aw kb ∧ Dm Bk ∧ own_Arr S1 (125 :: R)) ∨ (∃ ka S1, S = 91 :: (ka :: (91 :: S1)) ∧ Aw ka ∧ own_Arr S1 (93 :: R))
theorem Ga {k : Int32} (h : Aw k) : ∀ z ∈ [k], Aw z := fun z hz => by rw [List.mem_singleton.mp hz]; exact h
theorem own_dgt {k : Int32} {R : List Int32} (h : Bu k) (h48 : ¬ k = 48) {tm : Int32} {rm : List Int32} (hR : R = tm :: rm) (ht : Ei tm) : Df (k :: R) R := Or.inr (Or.inr (Or.inr (Or.inr ⟨tm, rm, hR, ht, Or.inl (Or.inr ⟨k, [], R, rfl, ⟨by simp, fun z hz => by rw [List.mem_singleton.mp hz]; exact h⟩, h48, Or.inl (Or.inl rfl)⟩)⟩)))
theorem own_dg0 {R : List Int32} {tm : Int32} {rm : List Int32} (hR : R = tm :: rm) (ht : Ei tm) : Df (48 :: R) R := Or.inr (Or.inr (Or.inr (Or.inr ⟨tm, rm, hR, ht, Or.inl (Or.inl ⟨R, rfl, Or.inl (Or.inl rfl)⟩)⟩)))
theorem own_tmd : Ei 93 ∧ Ei 44 := by unfold Ei Bu; decide
def Ce (q : List Int32) : List Value := (q ++ List.replicate (88 - q.length) 32).map Value.int
theorem own_bfs {q : List Int32} {ch : Int32} (h : q.length < 88) : (Ce q).set q.length (.int ch) = Ce (q ++ [ch]) := by
  unfold Ce
  obtain ⟨n, hn⟩ : ∃ n, 88 - q.length = n + 1 := ⟨87 - q.length, by omega⟩
  have hn2 : 88 - (q ++ [ch]).length = n := by simp only [List.length_append, List.length_cons, List.length_nil]; omega
  rw [hn, hn2, List.replicate_succ, List.map_append, List.set_append_right _ _ (by simp), List.length_map, Nat.sub_self]
  simp only [List.map_cons, List.set_cons_zero, List.map_append, List.append_assoc, List.map_nil, List.cons_append, List.nil_append]
theorem own_bfl {q : List Int32} (h : q.length ≤ 88) : (Ce q).length = 88 := by
  simp only [Ce, List.length_map, List.length_append, List.length_replicate]; omega
def Cs (n : Nat) (A : List Value) : List Value := A ++ List.replicate (n - A.length) (.int 0)
theorem own_qds {n : Nat} {A : List Value} {v : Value} (h : A.length < n) : (Cs n A).set A.length v = Cs n (A ++ [v]) := by
  unfold Cs
  obtain ⟨k, hk⟩ : ∃ k, n - A.length = k + 1 := ⟨n - A.length - 1, by omega⟩
  have hk2 : n - (A ++ [v]).length = k := by simp only [List.length_append, List.length_cons, List.length_nil]; omega
  rw [hk, hk2, List.replicate_succ, List.set_append_right _ _ (Nat.le_refl _), Nat.sub_self]
  simp only [List.set_cons_zero, List.append_assoc, List.cons_append, List.nil_append]
theorem own_qdl {n : Nat} {A : List Value} (h : A.length ≤ n) : (Cs n A).length = n := by
  simp only [Cs, List.length_append, List.length_replicate]; omega
theorem own_qdf {n : Nat} {A : List Value} (h : A.length = n) : Cs n A = A := by
  unfold Cs; rw [h, Nat.sub_self]; simp
theorem own_sbl (cs : List Int32) : (Cc cs).length = cs.length := by simp [Cc]
theorem own_tk {cs r : List Int32} {i : Nat} {k : Int32} (h : Ae cs i (k :: r)) : cs.take (i + 1) = cs.take i ++ [k] ∧ (cs.take i).length = i := by
  have hg := Ae.hd h
  have e : cs[i] = k := by
    have := hg.2.1
    simpa [List.getD, List.getElem?_eq_getElem hg.1] using this
  refine ⟨?_, by rw [List.length_take]; omega⟩
  rw [List.take_succ, List.getElem?_eq_getElem hg.1, e]; rfl
theorem own_mg {cs r : List Int32} {i : Nat} {k : Int32} (h : Ae cs i (k :: r)) (hn : cs.length ≤ 88) : (cs.map Value.int).getD (Int32.ofNat i).toNatClampNeg (.int 0) = .int k := by
  have hg := Ae.hd h
  rw [(Ay (by omega)).2]
  have e : cs[i] = k := by
    have := hg.2.1
    simpa [List.getD, List.getElem?_eq_getElem hg.1] using this
  simp [List.getD, List.getElem?_map, List.getElem?_eq_getElem hg.1, e]
theorem own_sbt {cs r : List Int32} {i : Nat} {k : Int32} (h : Ae cs i (k :: r)) (hn : cs.length = 88) : (Cs 88 (Cc (cs.take i))).set i (.int k.toInt8.toInt32) = Cs 88 (Cc (cs.take (i + 1))) := by
  have ht := own_tk h
  have hg := Ae.hd h
  have e : (Cc (cs.take i)).length = i := by rw [own_sbl]; exact ht.2
  have q := own_qds (n := 88) (A := Cc (cs.take i)) (v := .int k.toInt8.toInt32) (by omega)
  rw [e] at q; rw [q, ht.1]; simp [Cc]
theorem own_ubt {cs r : List Int32} {i : Nat} {k : Int32} (h : Ae cs i (k :: r)) (hn : cs.length = 88) : ((Cs 176 (Ck (cs.take i))).set (2 * i) (.int (k >>> ((0 : Int32) &&& 31)).toInt8.toInt32)).set (2 * i + 1) (.int (k >>> ((8 : Int32) &&& 31)).toInt8.toInt32) = Cs 176 (Ck (cs.take (i + 1))) := by
  have ht := own_tk h
  have hg := Ae.hd h
  have e : (Ck (cs.take i)).length = 2 * i := by rw [Fy]; omega
  have q := own_qds (n := 176) (A := Ck (cs.take i)) (v := .int (k >>> ((0 : Int32) &&& 31)).toInt8.toInt32) (by omega)
  rw [e] at q; rw [q]
  have q2 := own_qds (n := 176) (A := Ck (cs.take i) ++ [.int (k >>> ((0 : Int32) &&& 31)).toInt8.toInt32]) (v := .int (k >>> ((8 : Int32) &&& 31)).toInt8.toInt32) (by simp only [List.length_append, List.length_cons, List.length_nil]; omega)
  rw [List.length_append, e] at q2
  rw [show 2 * i + 1 = 2 * i + [Value.int (k >>> ((0 : Int32) &&& 31)).toInt8.toInt32].length from rfl, q2, ht.1]
  congr 1
  simp [Ck]
def own_R8 (cs : List Int32) (kd N : Int32) (vs : List Value) : Prop := (kd = 0 ∧ N = 88 ∧ vs = Cc cs ∧ ∀ k ∈ cs, k.toInt ≤ 255) ∨ (kd = 1 ∧ N = 176 ∧ vs = Ck cs)
theorem own_R8.rep {cs : List Int32} {kd N : Int32} {vs : List Value} (h : own_R8 cs kd N vs) (hl : cs.length = 88) (hc : ∀ k ∈ cs, Bi k) : Bx cs kd N vs := by
  refine ⟨hc, by omega, h.imp (fun q => ⟨q.1, ?_, q.2.2⟩) fun q => ⟨q.1, ?_, q.2.2⟩⟩
  · rw [q.2.1, hl]; rfl
  · rw [q.2.1, hl]; rfl
def own_CP (cs : List Int32) (r : Int32) (vs : List Value) : Prop := (r = 88 ∧ vs = Cc cs ∧ ∀ k ∈ cs, k.toInt ≤ 255) ∨ ∃ i, i < 88 ∧ r = Int32.ofNat i ∧ (255 : Int32) < cs.getD i 0
theorem Aq {k : Int32} (h : (decide (0 ≤ k.toInt) && decide (k.toInt ≤ 65535)) = true := by decide) : Bi k := by simpa [Bi] using h
def Al (U : List Int32) : Prop := ∀ k ∈ U, Bi k
theorem Al.app {U V : List Int32} (h : Al U) (g : Al V) : Al (U ++ V) := fun k hk => (List.mem_append.mp hk).elim (h k) (g k)
theorem Al.cons {k : Int32} {V : List Int32} (h : Bi k) (g : Al V) : Al (k :: V) := fun z hz => (List.mem_cons.mp hz).elim (fun e => e ▸ h) (g z)
theorem Al.nil : Al [] := fun _ q => nomatch q
def Bc (A : List Int32 → Prop) (pre q : List Int32) : Prop := ∃ U, q = pre ++ U ∧ A U
theorem Bu.cr {k : Int32} (h : Bu k) : Bi k := by
  have := Fj h
  have e1 : (48 : Int32).toInt = 48 := rfl
  have e2 : (57 : Int32).toInt = 57 := rfl
  exact ⟨by omega, by omega⟩
theorem Aw.cr {k : Int32} (h : Aw k) : Bi k := by
  rcases h with rfl | rfl | rfl | rfl <;> exact Aq
theorem Aw.tm {k : Int32} (h : Aw k) : Ei k := by
  rcases h with rfl | rfl | rfl | rfl <;> (unfold Ei Bu; decide)
theorem own_ds1 {d : Int32} (h : Bu d) : Em [d] := ⟨by simp, fun z hz => by rw [List.mem_singleton.mp hz]; exact h⟩
def Et (U : List Int32) : Prop := ∃ s I, U = s ++ I ∧ (s = [] ∨ s = [45]) ∧ (I = [48] ∨ (∃ d, I = [d] ∧ Bu d ∧ ¬ d = 48) ∨ ∃ d d2, I = [d, d2] ∧ Bu d ∧ ¬ d = 48 ∧ Bu d2)
def Eo (U : List Int32) : Prop := ∃ V F, U = V ++ F ∧ Et V ∧ (F = [] ∨ ∃ d, F = [46, d] ∧ Bu d)
def Dh (U : List Int32) : Prop := ∃ V E, U = V ++ E ∧ Eo V ∧ (E = [] ∨ ∃ k sg d, E = k :: (sg ++ [d]) ∧ (k = 101 ∨ k = 69) ∧ (sg = [] ∨ sg = [43] ∨ sg = [45]) ∧ Bu d)
theorem Et.len {U : List Int32} (h : Et U) : U.length ≤ 3 ∧ Al U := by
  obtain ⟨s, I, rfl, hs, hI⟩ := h
  have a : s.length ≤ 1 ∧ Al s := by
    rcases hs with rfl | rfl
    · exact ⟨by decide, Al.nil⟩
    · exact ⟨by decide, Al.cons Aq Al.nil⟩
  have b : I.length ≤ 2 ∧ Al I := by
    rcases hI with rfl | ⟨d, rfl, h1, -⟩ | ⟨d, d2, rfl, h1, -, h2⟩
    · exact ⟨by decide, Al.cons Aq Al.nil⟩
    · exact ⟨by simp, Al.cons h1.cr Al.nil⟩
    · exact ⟨by simp, Al.cons h1.cr (Al.cons h2.cr Al.nil)⟩
  exact ⟨by rw [List.length_append]; omega, a.2.app b.2⟩
theorem Eo.len {U : List Int32} (h : Eo U) : U.length ≤ 5 ∧ Al U := by
  obtain ⟨s, I, rfl, hs, hI⟩ := h
  have a := hs.len
  have b : I.length ≤ 2 ∧ Al I := by
    rcases hI with rfl | ⟨d, rfl, h1⟩
    · exact ⟨by decide, Al.nil⟩
    · exact ⟨by simp, Al.cons Aq (Al.cons h1.cr Al.nil)⟩
  exact ⟨by rw [List.length_append]; omega, a.2.app b.2⟩
theorem Dh.len {U : List Int32} (h : Dh U) : U.length ≤ 8 ∧ Al U := by
  obtain ⟨s, I, rfl, hs, hI⟩ := h
  have a := hs.len
  have b : I.length ≤ 3 ∧ Al I := by
    rcases hI with rfl | ⟨k, sg, d, rfl, hk, hg, h1⟩
    · exact ⟨by decide, Al.nil⟩
    · have c1 : Bi k := by rcases hk with rfl | rfl <;> exact Aq
      have c2 : sg.length ≤ 1 ∧ Al sg := by
        rcases hg with rfl | rfl | rfl
        · exact ⟨by decide, Al.nil⟩
        · exact ⟨by decide, Al.cons Aq Al.nil⟩
        · exact ⟨by decide, Al.cons Aq Al.nil⟩
      exact ⟨by simp only [List.length_cons, List.length_append, List.length_nil]; omega, Al.cons c1 (c2.2.app (Al.cons h1.cr Al.nil))⟩
  exact ⟨by rw [List.length_append]; omega, a.2.app b.2⟩
theorem Dh.nx {U : List Int32} (h : Dh U) (R : List Int32) : own_Nx (U ++ R) R := by
  obtain ⟨V, E, rfl, ⟨V1, F, rfl, ⟨s, I, rfl, hs, hI⟩, hF⟩, hE⟩ := h
  have g1 : own_Ex (E ++ R) R := by
    rcases hE with rfl | ⟨k, sg, d, rfl, hk, hg, hd⟩
    · exact Or.inl rfl
    · exact Or.inr ⟨k, sg, [d], by simp, hk, hg, own_ds1 hd⟩
  have g2 : own_Fx (F ++ (E ++ R)) R := by
    rcases hF with rfl | ⟨d, rfl, hd⟩
    · exact Or.inl g1
    · exact Or.inr ⟨[d], _, by simp, own_ds1 hd, g1⟩
  have g3 : own_Ix (I ++ (F ++ (E ++ R))) R := by
    rcases hI with rfl | ⟨d, rfl, hd, hn⟩ | ⟨d, d2, rfl, hd, hn, hd2⟩
    · exact Or.inl ⟨_, rfl, g2⟩
    · exact Or.inr ⟨d, [], _, rfl, own_ds1 hd, hn, g2⟩
    · exact Or.inr ⟨d, [d2], _, rfl, ⟨by simp, fun z hz => (List.mem_cons.mp hz).elim (fun e => e ▸ hd) (fun q => by rw [List.mem_singleton.mp q]; exact hd2)⟩, hn, g2⟩
  rcases hs with rfl | rfl
  · exact Or.inl (by simpa using g3)
  · exact Or.inr ⟨_, by simp, g3⟩
theorem own_and15 (x : Int64) : ∃ j, j < 16 ∧ x &&& 15 = Int64.ofNat j := by
  refine ⟨(x &&& 15).toBitVec.toNat, ?_, ?_⟩
  · have e : (x &&& 15).toBitVec = x.toBitVec &&& 15#64 := rfl
    rw [e, BitVec.toNat_and]; exact Nat.lt_of_le_of_lt Nat.and_le_right (by decide)
  · apply Int64.toBitVec_inj.mp
    show _ = BitVec.ofNat 64 _
    simp
theorem own_dgt0 (x : Int64) : Bu ((48 : Int32) + ((x &&& 15) % 10).toInt32).toUInt32.toUInt16.toUInt32.toInt32 := by
  obtain ⟨j, hj, e⟩ := own_and15 x
  rw [e]; revert j
  have : ∀ j < 16, Bu ((48 : Int32) + ((Int64.ofNat j) % 10).toInt32).toUInt32.toUInt16.toUInt32.toInt32 := by unfold Bu; decide +kernel
  exact fun j hj _ => this j hj
theorem own_dgt1 (x : Int64) : Bu ((49 : Int32) + ((x &&& 15) % 9).toInt32).toUInt32.toUInt16.toUInt32.toInt32 ∧ ¬ ((49 : Int32) + ((x &&& 15) % 9).toInt32).toUInt32.toUInt16.toUInt32.toInt32 = 48 := by
  obtain ⟨j, hj, e⟩ := own_and15 x
  rw [e]; revert j
  have : ∀ j < 16, Bu ((49 : Int32) + ((Int64.ofNat j) % 9).toInt32).toUInt32.toUInt16.toUInt32.toInt32 ∧ ¬ ((49 : Int32) + ((Int64.ofNat j) % 9).toInt32).toUInt32.toUInt16.toUInt32.toInt32 = 48 := by unfold Bu; decide +kernel
  exact fun j hj _ => this j hj
theorem own_am (x : Int32) {q : Int32} {n : Nat} (hq : q.toBitVec.toNat + 1 = n) (hn : n ≤ 65536) : ∃ j, j < n ∧ x &&& q = Int32.ofNat j := by
  refine ⟨(x &&& q).toBitVec.toNat, ?_, ?_⟩
  · have e : (x &&& q).toBitVec = x.toBitVec &&& q.toBitVec := rfl
    rw [e, BitVec.toNat_and]
    have := Nat.and_le_right (n := x.toBitVec.toNat) (m := q.toBitVec.toNat)
    omega
  · apply Int32.toBitVec_inj.mp
    show _ = BitVec.ofNat 32 _
    simp
theorem own_ofr {n k : Nat} (h : k < n) (hn : n ≤ 65536) : ¬ Int32.ofNat k < 0 ∧ (Int32.ofNat k).toInt = k ∧ Bi (Int32.ofNat k) := by
  have e : (Int32.ofNat k).toInt = k := Int32.toInt_ofNat_of_lt (by omega)
  refine ⟨?_, e, by unfold Bi; omega⟩
  rw [Int32.lt_iff_toInt_lt, e]; show ¬ (k : Int) < 0; omega
theorem own_hxr {v : Int32} (h : ¬ v < 0 ∧ ¬ (15 : Int32) < v) : ((48 : Int32) + v).toUInt32.toUInt16.toUInt32.toInt32 = 48 + v ∧ (((65 : Int32) + v) - 10).toUInt32.toUInt16.toUInt32.toInt32 = 65 + v - 10 ∧ (((97 : Int32) + v) - 10).toUInt32.toUInt16.toUInt32.toInt32 = 97 + v - 10 := by
  have h2 := Fj h
  have e0 : (0 : Int32).toInt = 0 := rfl
  have e1 : (15 : Int32).toInt = 15 := rfl
  obtain ⟨j, hj, rfl⟩ := Ew (n := 16) h.1 (by omega) (by omega)
  revert j
  have : ∀ j < 16, ((48 : Int32) + Int32.ofNat j).toUInt32.toUInt16.toUInt32.toInt32 = 48 + Int32.ofNat j ∧ (((65 : Int32) + Int32.ofNat j) - 10).toUInt32.toUInt16.toUInt32.toInt32 = 65 + Int32.ofNat j - 10 ∧ (((97 : Int32) + Int32.ofNat j) - 10).toUInt32.toUInt16.toUInt32.toInt32 = 97 + Int32.ofNat j - 10 := by decide +kernel
  exact fun j hj _ _ => this j hj
theorem Dq.cr {k v : Int32} (h : Dq k v) : Bi k := by
  have h2 := Fj h.1
  have e0 : (0 : Int32).toInt = 0 := rfl
  have e1 : (15 : Int32).toInt = 15 := rfl
  obtain ⟨j, hj, rfl⟩ := Ew (n := 16) h.1.1 (by omega) (by omega)
  have : ∀ j < 16, Bi (48 + Int32.ofNat j) ∧ Bi (65 + Int32.ofNat j - 10) ∧ Bi (97 + Int32.ofNat j - 10) := by unfold Bi; decide +kernel
  rcases h.2 with ⟨-, rfl⟩ | ⟨-, rfl⟩ | ⟨-, rfl⟩
  · exact (this j hj).1
  · exact (this j hj).2.1
  · exact (this j hj).2.2
theorem own_n15 (x : Int32) : ¬ (x &&& 15) < 0 ∧ ¬ (15 : Int32) < (x &&& 15) := by
  obtain ⟨j, hj, e⟩ := own_am x (q := 15) (n := 16) rfl (by omega)
  rw [e]
  have : ∀ j < 16, ¬ Int32.ofNat j < 0 ∧ ¬ (15 : Int32) < Int32.ofNat j := by decide
  exact this j hj
theorem own_un {k s : Nat} (hk : k < 65536) (hs : s < 32) : Jvm.Free.XT.ushr (Int32.ofNat k) (Int32.ofNat s) &&& 15 = Int32.ofNat (k / 2 ^ s % 16) := by
  apply Int32.toBitVec_inj.mp
  apply BitVec.eq_of_toNat_eq
  have e1 : (Jvm.Free.XT.ushr (Int32.ofNat k) (Int32.ofNat s) &&& 15).toBitVec.toNat = (k >>> s) &&& 15 := by
    have a1 : (Int32.ofNat k).toBitVec.toNat = k := by show (BitVec.ofNat 32 k).toNat = k; simp; omega
    have a2 : ∀ s < 32, ((Int32.ofNat s &&& 31).toUInt32.toBitVec % 32).toNat = s := by decide
    have a3 : (Jvm.Free.XT.ushr (Int32.ofNat k) (Int32.ofNat s) &&& 15).toBitVec = ((Int32.ofNat k).toBitVec >>> ((Int32.ofNat s &&& 31).toUInt32.toBitVec % 32)) &&& 15#32 := rfl
    rw [a3, BitVec.toNat_and, BitVec.ushiftRight_eq', BitVec.toNat_ushiftRight, a2 s hs, a1]; rfl
  have e2 : (Int32.ofNat (k / 2 ^ s % 16)).toBitVec.toNat = k / 2 ^ s % 16 := by
    show (BitVec.ofNat 32 _).toNat = _
    simp; omega
  rw [e1, e2, Nat.shiftRight_eq_div_pow]
  exact Nat.and_two_pow_sub_one_eq_mod _ 4
theorem own_u4ok {u : Int32} (h : Bi u) : u = own_u4 (Jvm.Free.XT.ushr u 12 &&& 15) (Jvm.Free.XT.ushr u 8 &&& 15) (Jvm.Free.XT.ushr u 4 &&& 15) (u &&& 15) := by
  obtain ⟨k, hk, rfl⟩ := Ew (n := 65536) (x := u) (by rw [Int32.lt_iff_toInt_lt]; have := h.1; show ¬ u.toInt < 0; omega) (by have := h.2; omega) (by omega)
  have a0 : Int32.ofNat k &&& 15 = Int32.ofNat (k % 16) := by
    have := own_un (k := k) (s := 0) hk (by omega)
    have e : Jvm.Free.XT.ushr (Int32.ofNat k) (Int32.ofNat 0) = Int32.ofNat k := by
      apply Int32.toBitVec_inj.mp
      show (Int32.ofNat k).toBitVec >>> ((Int32.ofNat 0 &&& 31).toUInt32.toBitVec % 32) = _
      apply BitVec.eq_of_toNat_eq
      rw [BitVec.ushiftRight_eq', BitVec.toNat_ushiftRight]; rfl
    rw [e] at this; simpa using this
  have a1 := own_un (k := k) (s := 4) hk (by omega)
  have a2 := own_un (k := k) (s := 8) hk (by omega)
  have a3 := own_un (k := k) (s := 12) hk (by omega)
  have b1 : (4 : Int32) = Int32.ofNat 4 := rfl
  have b2 : (8 : Int32) = Int32.ofNat 8 := rfl
  have b3 : (12 : Int32) = Int32.ofNat 12 := rfl
  rw [a0, b1, a1, b2, a2, b3, a3]
  unfold own_u4
  have e : (((((((((0 : Int32) * (16 : Int32)) + Int32.ofNat (k / 2 ^ 12 % 16)) * (16 : Int32)) + Int32.ofNat (k / 2 ^ 8 % 16)) * (16 : Int32)) + Int32.ofNat (k / 2 ^ 4 % 16)) * (16 : Int32)) + Int32.ofNat (k % 16)) = Int32.ofNat k := by
    have z : (0 : Int32) = Int32.ofNat 0 := rfl
    have s : (16 : Int32) = Int32.ofNat 16 := rfl
    rw [z, s]
    simp only [← Int32.ofNat_mul, ← Int32.ofNat_add]
    congr 1
    omega
  rw [e, Dp h.1 h.2]
def own_eu (u : Int32) (U : List Int32) : Prop := ∃ L, U = 92 :: 117 :: L ∧ own_Hx L u ∧ Al L ∧ L.length = 4
theorem own_euI {pre : List Int32} {u a b c d : Int32} (h : Bi u) (h1 : Dq a (Jvm.Free.XT.ushr u 12 &&& 15)) (h2 : Dq b (Jvm.Free.XT.ushr u 8 &&& 15)) (h3 : Dq c (Jvm.Free.XT.ushr u 4 &&& 15)) (h4 : Dq d (u &&& 15)) : Bc (own_eu u) pre ((((((pre ++ [92]) ++ [117]) ++ [a]) ++ [b]) ++ [c]) ++ [d]) :=
  ⟨[92, 117, a, b, c, d], by simp, [a, b, c, d], rfl, ⟨a, b, c, d, _, _, _, _, rfl, h1, h2, h3, h4, own_u4ok h⟩, Al.cons h1.cr (Al.cons h2.cr (Al.cons h3.cr (Al.cons h4.cr Al.nil))), rfl⟩
def Du (U : List Int32) : Prop := Dm U ∧ U.length ≤ 12 ∧ Al U
theorem Gl {u : List Int32} (h : own_U u) : Dm u := ⟨[u], by simp, fun z hz => by rw [List.mem_singleton.mp hz]; exact h⟩
theorem own_Bdapp {A B : List Int32} (h : Dm A) (g : Dm B) : Dm (A ++ B) := by
  obtain ⟨us, rfl, h1⟩ := h
  obtain ⟨vs, rfl, h2⟩ := g
  exact ⟨us ++ vs, by simp, fun z hz => (List.mem_append.mp hz).elim (h1 z) (h2 z)⟩
theorem own_k0 {pre : List Int32} : Bc Du pre pre := ⟨[], by simp, own_B0, by decide, Al.nil⟩
theorem own_k1 {pre : List Int32} {k : Int32} (hc : Bi k) (h : own_raw k) : Bc Du pre (pre ++ [k]) := ⟨[k], rfl, Gl (Or.inl ⟨k, rfl, h⟩), by simp, Al.cons hc Al.nil⟩
theorem own_sic : ∀ k ∈ Dk, Bi k := by unfold Bi; decide
theorem own_k3 {pre : List Int32} {k : Int32} (h : k ∈ Dk) : Bc Du pre ((pre ++ [92]) ++ [k]) :=
  ⟨[92, k], by simp, Gl (Or.inr (Or.inr fun R => Or.inl ⟨k, rfl, h⟩)), by simp, Al.cons Aq (Al.cons (own_sic k h) Al.nil)⟩
theorem own_k4 {pre q : List Int32} {u : Int32} (h : Bc (own_eu u) pre q) (h1 : ¬ Ds u) (h2 : ¬ Db u) : Bc Du pre q := by
  obtain ⟨U, rfl, L, rfl, hx, hc, hl⟩ := h
  exact ⟨_, rfl, Gl (Or.inr (Or.inr fun R => Or.inr (Or.inl ⟨L, u, rfl, hx, h1, h2⟩))), by simp only [List.length_cons]; omega, Al.cons Aq (Al.cons Aq hc)⟩
theorem own_k5 {pre : List Int32} {a b : Int32} (h1 : Db a) (h2 : Ds b) (c1 : Bi a) (c2 : Bi b) : Bc Du pre ((pre ++ [a]) ++ [b]) :=
  ⟨[a, b], by simp, Gl (Or.inr (Or.inl ⟨a, b, rfl, h1, h2⟩)), by simp, Al.cons c1 (Al.cons c2 Al.nil)⟩
theorem own_k6 {pre q q2 : List Int32} {u v : Int32} (h : Bc (own_eu u) pre q) (g : Bc (own_eu v) q q2) (h1 : Db u) (h2 : Ds v) : Bc Du pre q2 := by
  obtain ⟨U, rfl, L, rfl, hx, hc, hl⟩ := h
  obtain ⟨V, rfl, M, rfl, gx, gc, gl⟩ := g
  refine ⟨(92 :: 117 :: L) ++ (92 :: 117 :: M), by simp, Gl (Or.inr (Or.inr fun R => Or.inr (Or.inr ⟨L, u, M, v, by simp, hx, h1, gx, h2⟩))), by simp only [List.length_cons, List.length_append]; omega, ?_⟩
  exact (Al.cons Aq (Al.cons Aq hc)).app (Al.cons Aq (Al.cons Aq gc))
theorem Gm {pre q : List Int32} {u : Int32} (h : Bc (own_eu u) pre q) : q.length = pre.length + 6 := by
  obtain ⟨U, rfl, L, rfl, -, -, hl⟩ := h
  simp only [List.length_append, List.length_cons]; omega
theorem Gb (x : Int32) : Db ((55296 : Int32) ||| (x &&& 1023)) ∧ Bi ((55296 : Int32) ||| (x &&& 1023)) := by
  obtain ⟨j, hj, e⟩ := own_am x (q := 1023) (n := 1024) rfl (by omega)
  rw [e]
  have : ∀ j < 1024, Db ((55296 : Int32) ||| Int32.ofNat j) ∧ Bi ((55296 : Int32) ||| Int32.ofNat j) := by unfold Db Bi; decide +kernel
  exact this j hj
theorem Gc (x : Int32) : Ds ((56320 : Int32) ||| (x &&& 1023)) ∧ Bi ((56320 : Int32) ||| (x &&& 1023)) := by
  obtain ⟨j, hj, e⟩ := own_am x (q := 1023) (n := 1024) rfl (by omega)
  rw [e]
  have : ∀ j < 1024, Ds ((56320 : Int32) ||| Int32.ofNat j) ∧ Bi ((56320 : Int32) ||| Int32.ofNat j) := by unfold Ds Bi; decide +kernel
  exact this j hj
theorem Ee (x : Int32) : Bi (x &&& 65535) := by
  obtain ⟨j, hj, e⟩ := own_am x (q := 65535) (n := 65536) rfl (by omega)
  rw [e]; exact (own_ofr hj (by omega)).2.2
theorem own_xr {u : Int32} (h : ¬ u < 55296 ∧ ¬ (57343 : Int32) < u) : ¬ Ds (u ^^^ 32768) ∧ ¬ Db (u ^^^ 32768) ∧ Bi (u ^^^ 32768) := by
  have h2 := Fj h
  have e0 : (55296 : Int32).toInt = 55296 := rfl
  have e1 : (57343 : Int32).toInt = 57343 := rfl
  obtain ⟨k, hk, rfl⟩ := Ew (n := 57344) (x := u) (by rw [Int32.lt_iff_toInt_lt]; show ¬ u.toInt < 0; omega) (by omega) (by omega)
  have e2 := (own_ofr hk (by omega)).2.1
  obtain ⟨j, hj, rfl⟩ : ∃ j, j < 2048 ∧ k = 55296 + j := ⟨k - 55296, by omega, by omega⟩
  have : ∀ j < 2048, ¬ Ds (Int32.ofNat (55296 + j) ^^^ 32768) ∧ ¬ Db (Int32.ofNat (55296 + j) ^^^ 32768) ∧ Bi (Int32.ofNat (55296 + j) ^^^ 32768) := by unfold Db Ds Bi; decide +kernel
  exact this j hj
theorem Fq {u : Int32} (h : u < 55296 ∨ (57343 : Int32) < u) : ¬ own_su u ∧ ¬ Ds u ∧ ¬ Db u := by
  unfold own_su Ds Db
  rw [Int32.lt_iff_toInt_lt, Int32.lt_iff_toInt_lt] at h
  simp only [Int32.lt_iff_toInt_lt]
  have e0 : (55296 : Int32).toInt = 55296 := rfl
  have e1 : (57343 : Int32).toInt = 57343 := rfl
  have e2 : (56320 : Int32).toInt = 56320 := rfl
  have e3 : (57344 : Int32).toInt = 57344 := rfl
  omega
theorem own_97 : own_raw 97 := by unfold own_raw own_su; decide
def Fa (U : List Int32) : Prop := ∃ B, U = 34 :: (B ++ [34]) ∧ Dm B ∧ B.length ≤ 24 ∧ Al B
theorem own_srI {pre q1 q2 : List Int32} (h : Bc Du (pre ++ [34]) q1) (g : Bc Du q1 q2) : Bc Fa pre (q2 ++ [34]) := by
  obtain ⟨A, rfl, a1, a2, a3⟩ := h
  obtain ⟨B, rfl, b1, b2, b3⟩ := g
  exact ⟨34 :: ((A ++ B) ++ [34]), by simp, A ++ B, rfl, own_Bdapp a1 b1, by rw [List.length_append]; omega, a3.app b3⟩
def Fl (U : List Int32) : Prop := U = [102, 97, 108, 115, 101] ∨ U = [110, 117, 108, 108] ∨ U = [116, 114, 117, 101]
def Gd (U : List Int32) : Prop := (∃ k, Aw k ∧ (U = [91, k, 93] ∨ U = [123, k, 125])) ∨ U = [123, 34, 34, 58, 91, 48, 93, 125] ∨ U = [123, 34, 34, 58, 49, 44, 34, 34, 58, 91, 91, 93, 93, 125]
theorem Gd.ct {U : List Int32} (h : Gd U) (T : List Int32) : own_Ct (U ++ T) T ∧ U.length ≤ 14 ∧ Al U := by
  rcases h with ⟨k, hk, rfl | rfl⟩ | rfl | rfl
  · exact ⟨Or.inl ⟨k, rfl, hk⟩, by simp, Al.cons Aq (Al.cons hk.cr (Al.cons Aq Al.nil))⟩
  · exact ⟨Or.inr (Or.inl ⟨k, rfl, hk⟩), by simp, Al.cons Aq (Al.cons hk.cr (Al.cons Aq Al.nil))⟩
  · exact ⟨Or.inr (Or.inr (Or.inl rfl)), by simp, by unfold Al Bi; decide⟩
  · exact ⟨Or.inr (Or.inr (Or.inr rfl)), by simp, by unfold Al Bi; decide⟩
theorem Fl.sc {U : List Int32} (h : Fl U) (R : List Int32) : Df (U ++ R) R ∧ U.length ≤ 5 ∧ Al U := by
  rcases h with rfl | rfl | rfl
  · exact ⟨Or.inr (Or.inr (Or.inl rfl)), by simp, by unfold Al Bi; decide⟩
  · exact ⟨Or.inr (Or.inr (Or.inr (Or.inl rfl))), by simp, by unfold Al Bi; decide⟩
  · exact ⟨Or.inr (Or.inl rfl), by simp, by unfold Al Bi; decide⟩
theorem Fa.sc {U : List Int32} (h : Fa U) (R : List Int32) : Df (U ++ R) R ∧ U.length ≤ 26 ∧ Al U := by
  obtain ⟨B, rfl, b1, b2, b3⟩ := h
  exact ⟨Or.inl ⟨B, by simp, b1⟩, by simp only [List.length_append, List.length_cons, List.length_nil]; omega, Al.cons Aq (b3.app (Al.cons Aq Al.nil))⟩
theorem Dh.sc {U : List Int32} (h : Dh U) {tm : Int32} {rm : List Int32} (ht : Ei tm) : Df (U ++ tm :: rm) (tm :: rm) := Or.inr (Or.inr (Or.inr (Or.inr ⟨tm, rm, rfl, ht, h.nx _⟩)))
def Fb (V : List Int32) : Prop := (∀ tm rm, Aw tm → Ek (V ++ tm :: rm) (tm :: rm)) ∧ V.length ≤ 78 ∧ Al V
theorem own_v1 {U : List Int32} (h : Dh U) : Fb U := ⟨fun _ _ ht => Or.inl (h.sc ht.tm), by have := h.len.1; omega, h.len.2⟩
theorem own_v2 {U : List Int32} (h : Fa U) : Fb U := ⟨fun _ _ _ => Or.inl (h.sc _).1, by have := (h.sc []).2.1; omega, (h.sc []).2.2⟩
theorem own_v3 {U : List Int32} (h : Fl U) : Fb U := ⟨fun _ _ _ => Or.inl (h.sc _).1, by have := (h.sc []).2.1; omega, (h.sc []).2.2⟩
theorem own_arr {N S L C T : List Int32} {k : Int32} (h1 : Dh N) (hk : Aw k) (h2 : Fa S) (h3 : Fl L) (h4 : Gd C) : own_Arr (N ++ 44 :: k :: (S ++ 44 :: (L ++ 44 :: (C ++ 93 :: T)))) T :=
  ⟨k, _, _, _, h1.sc own_tmd.2, hk, (h2.sc _).1, (h3.sc _).1, (h4.ct _).1⟩
def Fm (o : Int32) (U : List Int32) : Prop := (o = 1 ∧ ∃ ka B kb, U = 123 :: ka :: 34 :: (B ++ [34, kb, 58]) ∧ Aw ka ∧ Aw kb ∧ Du B) ∨ (o = 0 ∧ ∃ ka, U = [91, ka] ∧ Aw ka)
theorem Fm.len {o : Int32} {U : List Int32} (h : Fm o U) : U.length ≤ 18 ∧ Al U := by
  rcases h with ⟨-, ka, B, kb, rfl, a, b, c⟩ | ⟨-, ka, rfl, a⟩
  · have := c.2.1
    exact ⟨by simp only [List.length_append, List.length_cons, List.length_nil]; omega, Al.cons Aq (Al.cons a.cr (Al.cons Aq (c.2.2.app (Al.cons Aq (Al.cons b.cr (Al.cons Aq Al.nil))))))⟩
  · exact ⟨by simp, Al.cons Aq (Al.cons a.cr Al.nil)⟩
theorem own_v0 {U N S L C : List Int32} {o k cl : Int32} (h0 : Fm o U) (h1 : Dh N) (hk : Aw k) (h2 : Fa S) (h3 : Fl L) (h4 : Gd C) (hc : (o = 1 ∧ cl = 125) ∨ (o = 0 ∧ cl = 93)) {pre : List Int32} :
    Bc Fb pre ((((((((((((pre ++ U) ++ [91]) ++ N) ++ [44]) ++ [k]) ++ S) ++ [44]) ++ L) ++ [44]) ++ C) ++ [93]) ++ [cl]) := by
  refine ⟨U ++ 91 :: (N ++ 44 :: k :: (S ++ 44 :: (L ++ 44 :: (C ++ [93, cl])))), by simp, fun tm rm ht => ?_, ?_, ?_⟩
  · have ha := own_arr (T := cl :: tm :: rm) h1 hk h2 h3 h4
    rcases h0 with ⟨rfl, ka, B, kb, rfl, a, b, c⟩ | ⟨rfl, ka, rfl, a⟩
    · rcases hc with ⟨-, rfl⟩ | ⟨q, -⟩
      · exact Or.inr (Or.inl ⟨ka, B, kb, _, by simp, a, b, c.1, ha⟩)
      · exact absurd q (by decide)
    · rcases hc with ⟨q, -⟩ | ⟨-, rfl⟩
      · exact absurd q (by decide)
      · exact Or.inr (Or.inr ⟨ka, _, by simp, a, ha⟩)
  · have := h0.len.1
    have := h1.len.1
    have := (h2.sc []).2.1
    have := (h3.sc []).2.1
    have := (h4.ct []).2.1
    simp only [List.length_append, List.length_cons, List.length_nil]; omega
  · have hcl : Bi cl := by rcases hc with ⟨-, rfl⟩ | ⟨-, rfl⟩ <;> exact Aq
    exact h0.len.2.app (Al.cons Aq (h1.len.2.app (Al.cons Aq (Al.cons hk.cr ((h2.sc []).2.2.app (Al.cons Aq ((h3.sc []).2.2.app (Al.cons Aq ((h4.ct []).2.2.app (Al.cons Aq (Al.cons hcl Al.nil)))))))))))
theorem Ek.nws {S R : List Int32} (h : Ek S R) : own_nws S := by
  rcases h with h | ⟨ka, B, kb, S1, rfl, -⟩ | ⟨ka, S1, rfl, -⟩
  · obtain ⟨k, r, rfl, hw, -⟩ := h.hd
    exact Bn hw
  · exact Bn (by unfold Aw; decide)
  · exact Bn (by unfold Aw; decide)
def Fc (q : List Int32) : List Int32 := q ++ List.replicate (88 - q.length) 32
theorem own_fin {V : List Int32} {w0 w1 : Int32} (h0 : Aw w0) (h1 : Aw w1) (hV : Fb V) : (Fc ((([] ++ [w0]) ++ V) ++ [w1])).length = 88 ∧ (∀ k ∈ Fc ((([] ++ [w0]) ++ V) ++ [w1]), Bi k) ∧ ∃ R, Fc ((([] ++ [w0]) ++ V) ++ [w1]) = [w0] ++ (V ++ R) ∧ Ek (V ++ R) R ∧ ∀ k ∈ R, Aw k := by
  have hb : ∀ k ∈ List.replicate (88 - ((([] ++ [w0]) ++ V) ++ [w1]).length) (32 : Int32), Aw k := fun k hk => by rw [(List.mem_replicate.mp hk).2]; exact Or.inl rfl
  refine ⟨?_, ?_, w1 :: List.replicate (88 - ((([] ++ [w0]) ++ V) ++ [w1]).length) 32, by simp [Fc], hV.1 _ _ h1, fun k hk => (List.mem_cons.mp hk).elim (fun e => e ▸ h1) (hb k)⟩
  · have := hV.2.1
    simp only [Fc, List.length_append, List.length_replicate, List.length_cons, List.length_nil]; omega
  · exact (((Al.nil.app (Al.cons h0.cr Al.nil)).app hV.2.2).app (Al.cons h1.cr Al.nil)).app fun k hk => (hb k hk).cr
def Fd (n : Nat) : Nat := if n < 6 then 4 + 5 * n else 34 + 6 * (n - 6)
def own_bi (n : Nat) : Instr := if n < 6 then .iconst n else .bipush n
def own_bw (n : Nat) : Nat := if n < 6 then 1 else 2
def own_bsg (n : Nat) : List (Nat × Instr × Nat) := [(Fd n, .dup, 1), (Fd n + 1, own_bi n, own_bw n), (Fd n + 1 + own_bw n, .bipush 32, 2)]
theorem own_bdec : ∀ n < 88, Gf method_3_code (own_bsg n) = true := by decide +kernel
theorem own_bcas : ∀ n < 88, decode method_3_code (Fd n + 1 + own_bw n + 2) = .ok (.castore, 1) ∧ Fd n + 1 + own_bw n + 2 + 1 = Fd (n + 1) := by decide +kernel
theorem own_brun {n : Nat} (hn : n < 88) (a : Addr) : Ej (own_bsg n) (Fd n) #[] [.ref a] = some (Fd n + 1 + own_bw n + 2, #[], [.int 32, .int (Int32.ofNat n), .ref a, .ref a]) := by
  have e1 : ∀ n : Nat, n < 88 → n < 6 → Int32.ofInt (n : Int) = Int32.ofNat n := by decide
  have e2 : ∀ n : Nat, n < 88 → (Int8.ofInt (n : Int)).toInt32 = Int32.ofNat n := by decide
  have e3 : (Int8.ofInt 32).toInt32 = 32 := by decide
  unfold own_bsg own_bi own_bw
  by_cases h : n < 6
  · simp [Ej, own_st, h, e1 n hn h, e3]
  · simp [Ej, own_st, h, e2 n hn, e3]
def Fn (n : Nat) : List Value := List.replicate n (.int 32) ++ List.replicate (88 - n) (.int 0)
theorem own_bzs {n : Nat} (h : n < 88) : (Fn n).set n (.int 32) = Fn (n + 1) := by
  unfold Fn
  obtain ⟨k, hk⟩ : ∃ k, 88 - n = k + 1 := ⟨87 - n, by omega⟩
  rw [hk, show 88 - (n + 1) = k from by omega, List.replicate_succ, List.set_append_right _ _ (by simp), List.length_replicate, Nat.sub_self, List.replicate_succ' (n := n)]
  simp only [List.set_cons_zero, List.append_assoc, List.cons_append, List.nil_append]
theorem own_bzl {n : Nat} (h : n ≤ 88) : (Fn n).length = 88 := by simp only [Fn, List.length_append, List.length_replicate]; omega
theorem own_bz8 : Fn 88 = Ce [] := by decide
theorem Bc.ln {A : List Int32 → Prop} {pre q : List Int32} {n : Nat} (hA : ∀ U, A U → U.length ≤ n) (h : Bc A pre q) : q.length ≤ pre.length + n := by
  obtain ⟨U, rfl, hU⟩ := h
  have := hA U hU
  rw [List.length_append]; omega
def own_n0 (U : List Int32) : Prop := U = [] ∨ U = [45]
def own_n4 (U : List Int32) : Prop := ∃ V k sg, U = V ++ (k :: sg) ∧ Eo V ∧ (k = 101 ∨ k = 69) ∧ (sg = [] ∨ sg = [43] ∨ sg = [45])
theorem own_l0 {pre q : List Int32} (h : Bc own_n0 pre q) : q.length ≤ pre.length + 1 := Bc.ln (fun U h => by rcases h with rfl | rfl <;> simp) h
theorem own_l1 {pre q : List Int32} (h : Bc Et pre q) : q.length ≤ pre.length + 3 := Bc.ln (fun U h => h.len.1) h
theorem own_l2 {pre q : List Int32} (h : Bc Eo pre q) : q.length ≤ pre.length + 5 := Bc.ln (fun U h => h.len.1) h
theorem own_l3 {pre q : List Int32} (h : Bc Dh pre q) : q.length ≤ pre.length + 8 := Bc.ln (fun U h => h.len.1) h
theorem own_l4 {pre q : List Int32} (h : Bc own_n4 pre q) : q.length ≤ pre.length + 7 := Bc.ln (fun U h => by
  obtain ⟨V, k, sg, rfl, hV, -, hs⟩ := h
  have := hV.len.1
  have : sg.length ≤ 1 := by rcases hs with rfl | rfl | rfl <;> simp
  simp only [List.length_append, List.length_cons]; omega) h
theorem own_l5 {pre q : List Int32} (h : Bc Du pre q) : q.length ≤ pre.length + 12 := Bc.ln (fun U h => h.2.1) h
theorem own_l6 {pre q : List Int32} (h : Bc Fa pre q) : q.length ≤ pre.length + 26 := Bc.ln (fun U h => (h.sc []).2.1) h
theorem own_l7 {pre q : List Int32} (h : Bc Fl pre q) : q.length ≤ pre.length + 5 := Bc.ln (fun U h => (h.sc []).2.1) h
theorem own_l8 {pre q : List Int32} (h : Bc Gd pre q) : q.length ≤ pre.length + 14 := Bc.ln (fun U h => (h.ct []).2.1) h
theorem own_a10 {pre q : List Int32} (h : Bc own_n0 pre q) : Bc Et pre (q ++ [48]) := by
  obtain ⟨U, rfl, hU⟩ := h
  exact ⟨U ++ [48], by simp, U, [48], rfl, hU, Or.inl rfl⟩
theorem own_a11 {pre q : List Int32} {d : Int32} (h : Bc own_n0 pre q) (hd : Bu d ∧ ¬ d = 48) : Bc Et pre (q ++ [d]) := by
  obtain ⟨U, rfl, hU⟩ := h
  exact ⟨U ++ [d], by simp, U, [d], rfl, hU, Or.inr (Or.inl ⟨d, rfl, hd⟩)⟩
theorem own_a12 {pre q : List Int32} {d d2 : Int32} (h : Bc own_n0 pre q) (hd : Bu d ∧ ¬ d = 48) (h2 : Bu d2) : Bc Et pre ((q ++ [d]) ++ [d2]) := by
  obtain ⟨U, rfl, hU⟩ := h
  exact ⟨U ++ [d, d2], by simp, U, [d, d2], rfl, hU, Or.inr (Or.inr ⟨d, d2, rfl, hd.1, hd.2, h2⟩)⟩
theorem own_a20 {pre q : List Int32} (h : Bc Et pre q) : Bc Eo pre q := by
  obtain ⟨U, rfl, hU⟩ := h
  exact ⟨U, rfl, U, [], by simp, hU, Or.inl rfl⟩
theorem own_a21 {pre q : List Int32} {d : Int32} (h : Bc Et pre q) (hd : Bu d) : Bc Eo pre ((q ++ [46]) ++ [d]) := by
  obtain ⟨U, rfl, hU⟩ := h
  exact ⟨U ++ [46, d], by simp, U, [46, d], rfl, hU, Or.inr ⟨d, rfl, hd⟩⟩
theorem own_a30 {pre q : List Int32} (h : Bc Eo pre q) : Bc Dh pre q := by
  obtain ⟨U, rfl, hU⟩ := h
  exact ⟨U, rfl, U, [], by simp, hU, Or.inl rfl⟩
theorem own_a40 {pre q : List Int32} {k : Int32} (h : Bc Eo pre q) (hk : k = 101 ∨ k = 69) : Bc own_n4 pre (q ++ [k]) := by
  obtain ⟨U, rfl, hU⟩ := h
  exact ⟨U ++ [k], by simp, U, k, [], rfl, hU, hk, Or.inl rfl⟩
theorem own_a41 {pre q : List Int32} {k s : Int32} (h : Bc Eo pre q) (hk : k = 101 ∨ k = 69) (hs : s = 43 ∨ s = 45) : Bc own_n4 pre ((q ++ [k]) ++ [s]) := by
  obtain ⟨U, rfl, hU⟩ := h
  exact ⟨U ++ [k, s], by simp, U, k, [s], rfl, hU, hk, Or.inr (hs.imp (fun e => by rw [e]) (fun e => by rw [e]))⟩
theorem own_a31 {pre q : List Int32} {d : Int32} (h : Bc own_n4 pre q) (hd : Bu d) : Bc Dh pre (q ++ [d]) := by
  obtain ⟨U, rfl, V, k, sg, rfl, hV, hk, hs⟩ := h
  exact ⟨V ++ (k :: (sg ++ [d])), by simp, V, k :: (sg ++ [d]), rfl, hV, Or.inr ⟨k, sg, d, rfl, hk, hs, hd⟩⟩
theorem own_lx {A B : List Int32 → Prop} {pre q : List Int32} (h : Bc A pre q) (g : ∀ U, A U → B U) : Bc B pre q := by
  obtain ⟨U, e, hU⟩ := h
  exact ⟨U, e, g U hU⟩
theorem own_op1 {pre q : List Int32} {ka kb : Int32} (hx : Bc Du (((pre ++ [123]) ++ [ka]) ++ [34]) q) (ha : Aw ka) (hb : Aw kb) : Bc (Fm 1) pre (((q ++ [34]) ++ [kb]) ++ [58]) := by
  obtain ⟨B, rfl, hB⟩ := hx
  exact ⟨123 :: ka :: 34 :: (B ++ [34, kb, 58]), by simp, Or.inl ⟨rfl, ka, B, kb, rfl, ha, hb, hB⟩⟩
theorem own_op0 {pre : List Int32} {ka : Int32} (ha : Aw ka) : Bc (Fm 0) pre ((pre ++ [91]) ++ [ka]) := ⟨[91, ka], by simp, Or.inr ⟨rfl, ka, rfl, ha⟩⟩
theorem own_l9 {o : Int32} {pre q : List Int32} (h : Bc (Fm o) pre q) : q.length ≤ pre.length + 18 := Bc.ln (fun U h => h.len.1) h
theorem own_l10 {pre q : List Int32} (h : Bc Fb pre q) : q.length ≤ pre.length + 78 := Bc.ln (fun U h => h.2.1) h
theorem own_v0x {pre q0 q1 q2 q3 q4 : List Int32} {o k cl : Int32} (h0 : Bc (Fm o) pre q0) (h1 : Bc Dh (q0 ++ [91]) q1) (hk : Aw k) (h2 : Bc Fa ((q1 ++ [44]) ++ [k]) q2) (h3 : Bc Fl (q2 ++ [44]) q3) (h4 : Bc Gd (q3 ++ [44]) q4) (hc : (o = 1 ∧ cl = 125) ∨ (o = 0 ∧ cl = 93)) : Bc Fb pre ((q4 ++ [93]) ++ [cl]) := by
  obtain ⟨U, rfl, hU⟩ := h0
  obtain ⟨N, rfl, hN⟩ := h1
  obtain ⟨S, rfl, hS⟩ := h2
  obtain ⟨L, rfl, hL⟩ := h3
  obtain ⟨C, rfl, hC⟩ := h4
  exact own_v0 hU hN hk hS hL hC hc
theorem own_finx {q : List Int32} {w0 w1 : Int32} (h0 : Aw w0) (h1 : Aw w1) (hx : Bc Fb ([] ++ [w0]) q) : ∃ S R, Ek S R ∧ (∀ k ∈ R, Aw k) ∧ Ae (Fc (q ++ [w1])) 0 ([w0] ++ S) ∧ (Fc (q ++ [w1])).length = 88 ∧ ∀ k ∈ Fc (q ++ [w1]), Bi k := by
  obtain ⟨V, rfl, hV⟩ := hx
  obtain ⟨a, b, R, e, c, d⟩ := own_fin h0 h1 hV
  exact ⟨V ++ R, R, c, d, ⟨e, Nat.zero_le _⟩, a, b⟩
theorem own_pts {Z : State} {vm : Vm} {f : String × Nat × Nat → Nat} : ∀ L, Dz Z vm f L ≤ (L.map f).sum
  | [] => Nat.le_refl _
  | x :: r => by
    have ih := own_pts (Z := Z) (vm := vm) (f := f) r
    unfold Dz
    rw [List.map_cons, List.sum_cons]
    split <;> omega

variable (l : Launch) (Z : State) (a0 : Array Value)
theorem El (hw : Ar a0 Z) (G1 : Int32) (G3 : Value) (x : Addr) (kd : Int32) (h0 : Heap) (n0 : Nat) (z0 : n0 ≤ h0.size) (X00 : Old Z n0 h0) (xC : Fld Z h0 x "java/lang/String" "coder" "B" (.int kd)) (HS : Bg Z G1 G3) (hy : kd.toInt8.toInt32 = kd) :
    Ag l Z (⟨"java/lang/String", "coder", "()B"⟩ : MethodName) jdk_42_method_152_code 1 (some .byte) ({ frames := 0, cells := 0, slots := 0, locals := 0 } : Room) n0 #[(.ref x)] h0 (fun v h => v = some (.int kd) ∧ h = h0) := by
  refine Au #[.val (.ref x)] ?_
  intro p e s m below meth c T0 C S0
  obtain ⟨O2, O4, P5, rG3, OA, OH, OL, OB⟩ := id HS
  refine Dc C S0 (ow hw 48 rfl) Via.refl (O2.ext X00.2) (by decide +kernel) ?_
  intro T1 S2
  refine Bv C S2 .eq 10 13 (fun (hq : G1 = (0 : Int32)) => False.elim (P5 hq)) (fun (q3 : ¬ G1 = (0 : Int32)) => ?_)
  refine Ac C S2 [(6, .aload_n 0, 1)] 7 #[Ab x] [.ref x] ?_
  refine Ah C S2 hw 60 xC ?_
  intro T4 S5
  refine Ac C S5 [(10, .goto 4, 3)] 14 #[Ab x] [.int kd] ?_
  refine own_retB C S5 (by decide +kernel) hy (by decide) (by decide) ?_
  exact ⟨rfl, rfl⟩
theorem Fs : parseMethodDescriptor "()B" = some ⟨[], (some .byte)⟩ := by decide +kernel
theorem Cx (hw : Ar a0 Z) (G1 : Int32) (G3 : Value) (x : Addr) (t : Addr) (tk : ClassId) (kd : Int32) (N : Int32) (vs : List Value) (cs : List Int32) (h0 : Heap) (n0 : Nat) (z0 : n0 ≤ h0.size) (X00 : Old Z n0 h0) (xE : Exa Z h0 x "java/lang/String") (xV : Fld Z h0 x "java/lang/String" "value" "[B" (.ref t)) (xC : Fld Z h0 x "java/lang/String" "coder" "B" (.int kd)) (tK : Arv Z h0 t tk .byte N vs (.int 0)) (HS : Bg Z G1 G3) (hrep : Bx cs kd N vs) :
    Ag l Z (⟨"java/lang/String", "length", "()I"⟩ : MethodName) jdk_42_method_54_code 1 (some .int) ({ frames := 1, cells := 0, slots := 0, locals := 13 } : Room) n0 #[(.ref x)] h0 (fun v h => v = some (.int (Int32.ofNat cs.length)) ∧ h = h0) := by
  refine Au #[.val (.ref x)] ?_
  intro p e s m below meth c T0 C S0
  obtain ⟨O2, O4, P5, rG3, OA, OH, OL, OB⟩ := id HS
  obtain ⟨hcr, hn88, hrep⟩ := hrep
  rcases hrep with ⟨rfl, rfl, rfl, hle⟩ | ⟨rfl, rfl, rfl⟩
  · refine Ac C S0 [(0, .aload_n 0, 1)] 1 #[Ab x] [.ref x] ?_
    refine Ah C S0 hw 62 xV ?_
    intro T1 S2
    refine Dt C S2 tK (by decide +kernel) ?_
    refine Ac C S2 [(5, .aload_n 0, 1)] 6 #[Ab x] [.ref x, .int (Int32.ofNat cs.length)] ?_
    refine Bt C S2 hw 98 99 101 101 100 102 37 (El l Z a0 hw G1 G3 x _ h0 n0 z0 X00 xC HS (by decide)) 1 xE [] [.int (Int32.ofNat cs.length)] Fs ?_
    rintro T4 h5 v6 L7 S8 ⟨⟨rfl, e3⟩, -⟩
    rw [e3] at S8; clear e3
    refine Ac C S8 [(9, .ishr, 1)] 10 #[Ab x] [.int ((Int32.ofNat cs.length) >>> ((0 : Int32) &&& 31))] ?_
    rw [show ((Int32.ofNat cs.length) >>> ((0 : Int32) &&& 31)) = (Int32.ofNat cs.length) from own_shr0 _]
    refine Ba C S8 (by decide +kernel) (by decide) (by decide) ?_
    exact ⟨rfl, rfl⟩
  · refine Ac C S0 [(0, .aload_n 0, 1)] 1 #[Ab x] [.ref x] ?_
    refine Ah C S0 hw 62 xV ?_
    intro T9 S10
    refine Dt C S10 tK (by decide +kernel) ?_
    refine Ac C S10 [(5, .aload_n 0, 1)] 6 #[Ab x] [.ref x, .int (Int32.ofNat (2 * cs.length))] ?_
    refine Bt C S10 hw 98 99 101 101 100 102 37 (El l Z a0 hw G1 G3 x _ h0 n0 z0 X00 xC HS (by decide)) 1 xE [] [.int (Int32.ofNat (2 * cs.length))] Fs ?_
    rintro T12 h13 v14 L15 S16 ⟨⟨rfl, e11⟩, -⟩
    rw [e11] at S16; clear e11
    refine Ac C S16 [(9, .ishr, 1)] 10 #[Ab x] [.int ((Int32.ofNat (2 * cs.length)) >>> ((1 : Int32) &&& 31))] ?_
    rw [show ((Int32.ofNat (2 * cs.length)) >>> ((1 : Int32) &&& 31)) = (Int32.ofNat cs.length) from (own_dbl hn88).2.1]
    refine Ba C S16 (by decide +kernel) (by decide) (by decide) ?_
    exact ⟨rfl, rfl⟩
theorem own_pciN (hw : Ar a0 Z) (j : Int32) (n : Int32) (h0 : Heap) (n0 : Nat) (z0 : n0 ≤ h0.size) (hi : ¬ j < 0 ∧ j < n) :
    Ag l Z (⟨"jdk/internal/util/Preconditions", "checkIndex", "(IILjava/util/function/BiFunction;)I"⟩ : MethodName) jdk_41_method_11_code 3 (some .int) ({ frames := 0, cells := 0, slots := 0, locals := 0 } : Room) n0 #[(.int j), (.int n), .null] h0 (fun v h => v = some (.int j) ∧ h = h0) := by
  refine Au #[.val (.int j), .val (.int n), .val .null] ?_
  intro p e s m below meth c T0 C S0
  refine Ac C S0 [(0, .iload_n 0, 1)] 1 #[Aa j, Aa n, .val .null] [.int j] ?_
  refine Bv C S0 .lt 8 9 (fun (hq : j < (0 : Int32)) => False.elim (hi.1 hq)) (fun (q1 : ¬ j < (0 : Int32)) => ?_)
  refine Ac C S0 [(4, .iload_n 0, 1), (5, .iload_n 1, 1)] 6 #[Aa j, Aa n, .val .null] [.int n, .int j] ?_
  refine Ao C S0 .lt 10 16 (fun (q2 : j < n) => ?_) (fun (hq : ¬ j < n) => False.elim (hq hi.2))
  refine Ac C S0 [(16, .iload_n 0, 1)] 17 #[Aa j, Aa n, .val .null] [.int j] ?_
  refine Ba C S0 (by decide +kernel) (by decide) (by decide) ?_
  exact ⟨rfl, rfl⟩
theorem own_pciR (hw : Ar a0 Z) (j : Int32) (n : Int32) (g : Addr) (h0 : Heap) (n0 : Nat) (z0 : n0 ≤ h0.size) (hi : ¬ j < 0 ∧ j < n) :
    Ag l Z (⟨"jdk/internal/util/Preconditions", "checkIndex", "(IILjava/util/function/BiFunction;)I"⟩ : MethodName) jdk_41_method_11_code 3 (some .int) ({ frames := 0, cells := 0, slots := 0, locals := 0 } : Room) n0 #[(.int j), (.int n), (.ref g)] h0 (fun v h => v = some (.int j) ∧ h = h0) := by
  refine Au #[.val (.int j), .val (.int n), .val (.ref g)] ?_
  intro p e s m below meth c T0 C S0
  refine Ac C S0 [(0, .iload_n 0, 1)] 1 #[Aa j, Aa n, Ab g] [.int j] ?_
  refine Bv C S0 .lt 8 9 (fun (hq : j < (0 : Int32)) => False.elim (hi.1 hq)) (fun (q1 : ¬ j < (0 : Int32)) => ?_)
  refine Ac C S0 [(4, .iload_n 0, 1), (5, .iload_n 1, 1)] 6 #[Aa j, Aa n, Ab g] [.int n, .int j] ?_
  refine Ao C S0 .lt 10 16 (fun (q2 : j < n) => ?_) (fun (hq : ¬ j < n) => False.elim (hq hi.2))
  refine Ac C S0 [(16, .iload_n 0, 1)] 17 #[Aa j, Aa n, Ab g] [.int j] ?_
  refine Ba C S0 (by decide +kernel) (by decide) (by decide) ?_
  exact ⟨rfl, rfl⟩
theorem own_pd1 : parseMethodDescriptor "(IILjava/util/function/BiFunction;)I" = some ⟨[.int, .int, (.object "java/util/function/BiFunction")], (some .int)⟩ := by decide +kernel
theorem own_sci (hw : Ar a0 Z) (G1 : Int32) (G3 : Value) (j : Int32) (n : Int32) (h0 : Heap) (n0 : Nat) (z0 : n0 ≤ h0.size) (X00 : Old Z n0 h0) (HS : Bg Z G1 G3) (hi : ¬ j < 0 ∧ j < n) :
    Ag l Z (⟨"java/lang/String", "checkIndex", "(II)V"⟩ : MethodName) jdk_42_method_155_code 2 none ({ frames := 1, cells := 0, slots := 0, locals := 14 } : Room) n0 #[(.int j), (.int n)] h0 (fun v h => v = none ∧ h = h0) := by
  refine Au #[.val (.int j), .val (.int n)] ?_
  intro p e s m below meth c T0 C S0
  obtain ⟨O2, O4, P5, rG3, OA, OH, OL, OB⟩ := id HS
  refine Ac C S0 [(0, .iload_n 0, 1), (1, .iload_n 1, 1)] 2 #[Aa j, Aa n] [.int n, .int j] ?_
  rcases ref_cases rG3 with e3 | ⟨g, e3⟩
  · subst e3
    refine Dc C S0 (ow hw 120 rfl) Via.refl (O4.ext X00.2) (by decide +kernel) ?_
    intro T1 S2
    refine Ak C S2 hw 122 123 121 124 (own_pciN l Z a0 hw j n h0 n0 z0 hi) 0 [.int j, .int n, .null] [] own_pd1 ?_
    rintro T4 h5 v6 L7 S8 ⟨⟨rfl, e3⟩, -⟩
    rw [e3] at S8; clear e3
    refine Ac C S8 [(8, .pop, 1)] 9 #[Aa j, Aa n] [] ?_
    refine Be C S8 (by decide +kernel) (by decide) (by decide) ?_
    exact ⟨rfl, rfl⟩
  · subst e3
    refine Dc C S0 (ow hw 120 rfl) Via.refl (O4.ext X00.2) (by decide +kernel) ?_
    intro T9 S10
    refine Ak C S10 hw 122 123 121 124 (own_pciR l Z a0 hw j n g h0 n0 z0 hi) 0 [.int j, .int n, .ref g] [] own_pd1 ?_
    rintro T12 h13 v14 L15 S16 ⟨⟨rfl, e11⟩, -⟩
    rw [e11] at S16; clear e11
    refine Ac C S16 [(8, .pop, 1)] 9 #[Aa j, Aa n] [] ?_
    refine Be C S16 (by decide +kernel) (by decide) (by decide) ?_
    exact ⟨rfl, rfl⟩
theorem own_pd2 : parseMethodDescriptor "(II)V" = some ⟨[.int, .int], none⟩ := by decide +kernel
theorem own_lch (hw : Ar a0 Z) (G1 : Int32) (G3 : Value) (b : Addr) (bk : ClassId) (cs : List Int32) (i : Nat) (h0 : Heap) (n0 : Nat) (z0 : n0 ≤ h0.size) (X00 : Old Z n0 h0) (bK : Arv Z h0 b bk .byte (Int32.ofNat cs.length) (Cc cs) (.int 0)) (HS : Bg Z G1 G3) (hi : i < cs.length) (hn : cs.length ≤ 88) (hcr : ∀ k ∈ cs, Bi k) (hle : ∀ k ∈ cs, k.toInt ≤ 255) :
    Ag l Z (⟨"java/lang/StringLatin1", "charAt", "([BI)C"⟩ : MethodName) jdk_43_method_2_code 2 (some .char) ({ frames := 2, cells := 0, slots := 0, locals := 27 } : Room) n0 #[(.ref b), (.int (Int32.ofNat i))] h0 (fun v h => v = some (.int (cs.getD i 0)) ∧ h = h0) := by
  refine Au #[.val (.ref b), .val (.int (Int32.ofNat i))] ?_
  intro p e s m below meth c T0 C S0
  obtain ⟨O2, O4, P5, rG3, OA, OH, OL, OB⟩ := id HS
  have hc := hcr _ (Dd hi)
  refine Ac C S0 [(0, .iload_n 1, 1), (1, .aload_n 0, 1)] 2 #[Ab b, Aa (Int32.ofNat i)] [.ref b, .int (Int32.ofNat i)] ?_
  refine Dt C S0 bK (by decide +kernel) ?_
  refine Ak C S0 hw 117 118 37 119 (own_sci l Z a0 hw G1 G3 (Int32.ofNat i) (Int32.ofNat cs.length) h0 n0 z0 X00 HS (⟨(Ay (by omega)).1, Cb hi (by omega)⟩)) 0 [.int (Int32.ofNat i), .int (Int32.ofNat cs.length)] [] own_pd2 ?_
  rintro T2 h3 v4 L5 S6 ⟨⟨rfl, e1⟩, -⟩
  rw [e1] at S6; clear e1
  refine Ac C S6 [(6, .aload_n 0, 1), (7, .iload_n 1, 1)] 8 #[Ab b, Aa (Int32.ofNat i)] [.int (Int32.ofNat i), .ref b] ?_
  refine De C S6 bK ⟨(Ay (by omega)).1, Cb hi (by omega)⟩ (.int ((cs.getD i 0).toInt8.toInt32)) (own_sbget (by omega) hi) (by decide +kernel) ?_
  refine Ac C S6 [(9, .sipush 255, 3), (12, .iand, 1), (13, .i2c, 1)] 14 #[Ab b, Aa (Int32.ofNat i)] [.int (((cs.getD i 0).toInt8.toInt32 &&& (255 : Int32)).toUInt32.toUInt16.toUInt32.toInt32)] ?_
  rw [show ((cs.getD i 0).toInt8.toInt32 &&& (255 : Int32)).toUInt32.toUInt16.toUInt32.toInt32 = (cs.getD i 0) from own_lat hc (hle _ (Dd hi))]
  refine Cd C S6 (by decide +kernel) (Dp hc.1 hc.2) (by decide) (by decide) ?_
  exact ⟨rfl, rfl⟩
theorem own_ulen (hw : Ar a0 Z) (b : Addr) (bk : ClassId) (nn : Nat) (vs : List Value) (h0 : Heap) (n0 : Nat) (z0 : n0 ≤ h0.size) (bK : Arv Z h0 b bk .byte (Int32.ofNat (2 * nn)) vs (.int 0)) (hn : nn ≤ 88) :
    Ag l Z (⟨"java/lang/StringUTF16", "length", "([B)I"⟩ : MethodName) jdk_52_method_6_code 1 (some .int) ({ frames := 0, cells := 0, slots := 0, locals := 0 } : Room) n0 #[(.ref b)] h0 (fun v h => v = some (.int (Int32.ofNat nn)) ∧ h = h0) := by
  refine Au #[.val (.ref b)] ?_
  intro p e s m below meth c T0 C S0
  refine Ac C S0 [(0, .aload_n 0, 1)] 1 #[Ab b] [.ref b] ?_
  refine Dt C S0 bK (by decide +kernel) ?_
  refine Ac C S0 [(2, .iconst 1, 1), (3, .ishr, 1)] 4 #[Ab b] [.int ((Int32.ofNat (2 * nn)) >>> ((1 : Int32) &&& 31))] ?_
  rw [show ((Int32.ofNat (2 * nn)) >>> ((1 : Int32) &&& 31)) = (Int32.ofNat nn) from (own_dbl hn).2.1]
  refine Ba C S0 (by decide +kernel) (by decide) (by decide) ?_
  exact ⟨rfl, rfl⟩
theorem own_gch (hw : Ar a0 Z) (G1 : Int32) (G3 : Value) (b : Addr) (bk : ClassId) (cs : List Int32) (i : Nat) (h0 : Heap) (n0 : Nat) (z0 : n0 ≤ h0.size) (X00 : Old Z n0 h0) (bK : Arv Z h0 b bk .byte (Int32.ofNat (2 * cs.length)) (Ck cs) (.int 0)) (HS : Bg Z G1 G3) (hi : i < cs.length) (hn : cs.length ≤ 88) (hcr : ∀ k ∈ cs, Bi k) :
    Ag l Z (⟨"java/lang/StringUTF16", "getChar", "([BI)C"⟩ : MethodName) jdk_52_method_5_code 2 (some .char) ({ frames := 0, cells := 0, slots := 0, locals := 0 } : Room) n0 #[(.ref b), (.int (Int32.ofNat i))] h0 (fun v h => v = some (.int (cs.getD i 0)) ∧ h = h0) := by
  refine Au #[.val (.ref b), .val (.int (Int32.ofNat i))] ?_
  intro p e s m below meth c T0 C S0
  obtain ⟨O2, O4, P5, rG3, OA, OH, OL, OB⟩ := id HS
  have hc := hcr _ (Dd hi)
  refine Dc C S0 (ow hw 267 rfl) Via.refl (OA.ext X00.2) (by decide +kernel) ?_
  intro T1 S2
  refine Bv C S2 .ne 25 28 (fun (q3 : ¬ (1 : Int32) = 0) => ?_) (fun (hq : (1 : Int32) = 0) => False.elim (absurd hq (by decide)))
  refine Ac C S2 [(28, .iload_n 1, 1), (29, .iconst 1, 1), (30, .ishl, 1)] 31 #[Ab b, Aa (Int32.ofNat i)] [.int ((Int32.ofNat i) <<< ((1 : Int32) &&& 31))] ?_
  rw [show ((Int32.ofNat i) <<< ((1 : Int32) &&& 31)) = (Int32.ofNat (2 * i)) from (own_dbl (by omega)).1]
  refine Ac C S2 [(31, .istore_n 1, 1), (32, .aload_n 0, 1), (33, .iload_n 1, 1), (34, .iinc 1 1, 3)] 37 #[Ab b, Aa ((Int32.ofNat (2 * i)) + (1 : Int32))] [.int (Int32.ofNat (2 * i)), .ref b] ?_
  rw [show ((Int32.ofNat (2 * i)) + (1 : Int32)) = (Int32.ofNat (2 * i + 1)) from Af _]
  refine De C S2 bK ⟨(Ay (by omega)).1, Cb (by omega) (by omega)⟩ (.int (((cs.getD i 0) >>> ((0 : Int32) &&& 31)).toInt8.toInt32)) (own_ubg0 hn hi) (by decide +kernel) ?_
  refine Ac C S2 [(38, .sipush 255, 3), (41, .iand, 1)] 42 #[Ab b, Aa (Int32.ofNat (2 * i + 1))] [.int (((cs.getD i 0) >>> ((0 : Int32) &&& 31)).toInt8.toInt32 &&& (255 : Int32))] ?_
  refine Dc C S2 (ow hw 268 rfl) Via.refl (OH.ext X00.2) (by decide +kernel) ?_
  intro T4 S5
  refine Ac C S5 [(45, .ishl, 1), (46, .aload_n 0, 1), (47, .iload_n 1, 1)] 48 #[Ab b, Aa (Int32.ofNat (2 * i + 1))] [.int (Int32.ofNat (2 * i + 1)), .ref b, .int ((((cs.getD i 0) >>> ((0 : Int32) &&& 31)).toInt8.toInt32 &&& (255 : Int32)) <<< ((0 : Int32) &&& 31))] ?_
  refine De C S5 bK ⟨(Ay (by omega)).1, Cb (by omega) (by omega)⟩ (.int (((cs.getD i 0) >>> ((8 : Int32) &&& 31)).toInt8.toInt32)) (own_ubg1 hn hi) (by decide +kernel) ?_
  refine Ac C S5 [(49, .sipush 255, 3), (52, .iand, 1)] 53 #[Ab b, Aa (Int32.ofNat (2 * i + 1))] [.int (((cs.getD i 0) >>> ((8 : Int32) &&& 31)).toInt8.toInt32 &&& (255 : Int32)), .int ((((cs.getD i 0) >>> ((0 : Int32) &&& 31)).toInt8.toInt32 &&& (255 : Int32)) <<< ((0 : Int32) &&& 31))] ?_
  refine Dc C S5 (ow hw 269 rfl) Via.refl (OL.ext X00.2) (by decide +kernel) ?_
  intro T6 S7
  refine Ac C S7 [(56, .ishl, 1), (57, .ior, 1), (58, .i2c, 1)] 59 #[Ab b, Aa (Int32.ofNat (2 * i + 1))] [.int ((((((cs.getD i 0) >>> ((0 : Int32) &&& 31)).toInt8.toInt32 &&& (255 : Int32)) <<< ((0 : Int32) &&& 31)) ||| ((((cs.getD i 0) >>> ((8 : Int32) &&& 31)).toInt8.toInt32 &&& (255 : Int32)) <<< ((8 : Int32) &&& 31))).toUInt32.toUInt16.toUInt32.toInt32)] ?_
  rw [show (((((cs.getD i 0) >>> ((0 : Int32) &&& 31)).toInt8.toInt32 &&& (255 : Int32)) <<< ((0 : Int32) &&& 31)) ||| ((((cs.getD i 0) >>> ((8 : Int32) &&& 31)).toInt8.toInt32 &&& (255 : Int32)) <<< ((8 : Int32) &&& 31))).toUInt32.toUInt16.toUInt32.toInt32 = (cs.getD i 0) from own_u16 hc.1 hc.2]
  refine Cd C S7 (by decide +kernel) (Dp hc.1 hc.2) (by decide) (by decide) ?_
  exact ⟨rfl, rfl⟩
theorem own_pd3 : parseMethodDescriptor "([B)I" = some ⟨[(.array .byte)], (some .int)⟩ := by decide +kernel
theorem own_uci (hw : Ar a0 Z) (G1 : Int32) (G3 : Value) (i : Nat) (b : Addr) (bk : ClassId) (cs : List Int32) (h0 : Heap) (n0 : Nat) (z0 : n0 ≤ h0.size) (X00 : Old Z n0 h0) (bK : Arv Z h0 b bk .byte (Int32.ofNat (2 * cs.length)) (Ck cs) (.int 0)) (HS : Bg Z G1 G3) (hi : i < cs.length) (hn : cs.length ≤ 88) (hcr : ∀ k ∈ cs, Bi k) :
    Ag l Z (⟨"java/lang/StringUTF16", "checkIndex", "(I[B)V"⟩ : MethodName) jdk_52_method_91_code 2 none ({ frames := 2, cells := 0, slots := 0, locals := 27 } : Room) n0 #[(.int (Int32.ofNat i)), (.ref b)] h0 (fun v h => v = none ∧ h = h0) := by
  refine Au #[.val (.int (Int32.ofNat i)), .val (.ref b)] ?_
  intro p e s m below meth c T0 C S0
  obtain ⟨O2, O4, P5, rG3, OA, OH, OL, OB⟩ := id HS
  refine Ac C S0 [(0, .iload_n 0, 1), (1, .aload_n 1, 1)] 2 #[Aa (Int32.ofNat i), Ab b] [.ref b, .int (Int32.ofNat i)] ?_
  refine Ak C S0 hw 279 280 51 281 (own_ulen l Z a0 hw b _ cs.length _ h0 n0 z0 bK hn) 1 [.ref b] [.int (Int32.ofNat i)] own_pd3 ?_
  rintro T2 h3 v4 L5 S6 ⟨⟨rfl, e1⟩, -⟩
  rw [e1] at S6; clear e1
  refine Ak C S6 hw 282 118 37 119 (own_sci l Z a0 hw G1 G3 (Int32.ofNat i) (Int32.ofNat cs.length) h0 n0 z0 X00 HS (⟨(Ay (by omega)).1, Cb hi (by omega)⟩)) 0 [.int (Int32.ofNat i), .int (Int32.ofNat cs.length)] [] own_pd2 ?_
  rintro T8 h9 v10 L11 S12 ⟨⟨rfl, e7⟩, -⟩
  rw [e7] at S12; clear e7
  refine Be C S12 (by decide +kernel) (by decide) (by decide) ?_
  exact ⟨rfl, rfl⟩
theorem own_pd4 : parseMethodDescriptor "(I[B)V" = some ⟨[.int, (.array .byte)], none⟩ := by decide +kernel
theorem Ft : parseMethodDescriptor "([BI)C" = some ⟨[(.array .byte), .int], (some .char)⟩ := by decide +kernel
theorem own_uch (hw : Ar a0 Z) (G1 : Int32) (G3 : Value) (b : Addr) (bk : ClassId) (cs : List Int32) (i : Nat) (h0 : Heap) (n0 : Nat) (z0 : n0 ≤ h0.size) (X00 : Old Z n0 h0) (bK : Arv Z h0 b bk .byte (Int32.ofNat (2 * cs.length)) (Ck cs) (.int 0)) (HS : Bg Z G1 G3) (hi : i < cs.length) (hn : cs.length ≤ 88) (hcr : ∀ k ∈ cs, Bi k) :
    Ag l Z (⟨"java/lang/StringUTF16", "charAt", "([BI)C"⟩ : MethodName) jdk_52_method_83_code 2 (some .char) ({ frames := 3, cells := 0, slots := 0, locals := 40 } : Room) n0 #[(.ref b), (.int (Int32.ofNat i))] h0 (fun v h => v = some (.int (cs.getD i 0)) ∧ h = h0) := by
  refine Au #[.val (.ref b), .val (.int (Int32.ofNat i))] ?_
  intro p e s m below meth c T0 C S0
  obtain ⟨O2, O4, P5, rG3, OA, OH, OL, OB⟩ := id HS
  have hc := hcr _ (Dd hi)
  refine Ac C S0 [(0, .iload_n 1, 1), (1, .aload_n 0, 1)] 2 #[Ab b, Aa (Int32.ofNat i)] [.ref b, .int (Int32.ofNat i)] ?_
  refine Ak C S0 hw 276 277 51 278 (own_uci l Z a0 hw G1 G3 i b _ cs h0 n0 z0 X00 bK HS hi hn hcr) 0 [.int (Int32.ofNat i), .ref b] [] own_pd4 ?_
  rintro T2 h3 v4 L5 S6 ⟨⟨rfl, e1⟩, -⟩
  rw [e1] at S6; clear e1
  refine Ac C S6 [(5, .aload_n 0, 1), (6, .iload_n 1, 1)] 7 #[Ab b, Aa (Int32.ofNat i)] [.int (Int32.ofNat i), .ref b] ?_
  refine Ak C S6 hw 270 271 51 272 (own_gch l Z a0 hw G1 G3 b _ cs i h0 n0 z0 X00 bK HS hi hn hcr) 0 [.ref b, .int (Int32.ofNat i)] [] Ft ?_
  rintro T8 h9 v10 L11 S12 ⟨⟨rfl, e7⟩, -⟩
  rw [e7] at S12; clear e7
  refine Cd C S12 (by decide +kernel) (Dp hc.1 hc.2) (by decide) (by decide) ?_
  exact ⟨rfl, rfl⟩
theorem own_isL (hw : Ar a0 Z) (G1 : Int32) (G3 : Value) (x : Addr) (kd : Int32) (h0 : Heap) (n0 : Nat) (z0 : n0 ≤ h0.size) (X00 : Old Z n0 h0) (xC : Fld Z h0 x "java/lang/String" "coder" "B" (.int kd)) (HS : Bg Z G1 G3) (hkd : kd = 0 ∨ kd = 1) :
    Ag l Z (⟨"java/lang/String", "isLatin1", "()Z"⟩ : MethodName) jdk_42_method_154_code 1 (some .boolean) ({ frames := 0, cells := 0, slots := 0, locals := 0 } : Room) n0 #[(.ref x)] h0 (fun v h => v = some (.int (1 - kd)) ∧ h = h0) := by
  refine Au #[.val (.ref x)] ?_
  intro p e s m below meth c T0 C S0
  obtain ⟨O2, O4, P5, rG3, OA, OH, OL, OB⟩ := id HS
  refine Dc C S0 (ow hw 48 rfl) Via.refl (O2.ext X00.2) (by decide +kernel) ?_
  intro T1 S2
  refine Bv C S2 .eq 14 17 (fun (hq : G1 = (0 : Int32)) => False.elim (P5 hq)) (fun (q3 : ¬ G1 = (0 : Int32)) => ?_)
  rcases hkd with rfl | rfl
  · refine Ac C S2 [(6, .aload_n 0, 1)] 7 #[Ab x] [.ref x] ?_
    refine Ah C S2 hw 60 xC ?_
    intro T4 S5
    refine Ac C S5 [(10, .ifCond .ne 7, 3), (13, .iconst 1, 1), (14, .goto 4, 3)] 18 #[Ab x] [.int 1] ?_
    refine Bs C S5 (by decide +kernel) (by decide) (by decide) (by decide) ?_
    exact ⟨rfl, rfl⟩
  · refine Ac C S2 [(6, .aload_n 0, 1)] 7 #[Ab x] [.ref x] ?_
    refine Ah C S2 hw 60 xC ?_
    intro T6 S7
    refine Ac C S7 [(10, .ifCond .ne 7, 3), (17, .iconst 0, 1)] 18 #[Ab x] [.int 0] ?_
    refine Bs C S7 (by decide +kernel) (by decide) (by decide) (by decide) ?_
    exact ⟨rfl, rfl⟩
theorem Fe : parseMethodDescriptor "()Z" = some ⟨[], (some .boolean)⟩ := by decide +kernel
theorem Dv (hw : Ar a0 Z) (G1 : Int32) (G3 : Value) (x : Addr) (t : Addr) (tk : ClassId) (kd : Int32) (N : Int32) (vs : List Value) (cs : List Int32) (i : Nat) (h0 : Heap) (n0 : Nat) (z0 : n0 ≤ h0.size) (X00 : Old Z n0 h0) (xE : Exa Z h0 x "java/lang/String") (xV : Fld Z h0 x "java/lang/String" "value" "[B" (.ref t)) (xC : Fld Z h0 x "java/lang/String" "coder" "B" (.int kd)) (tK : Arv Z h0 t tk .byte N vs (.int 0)) (HS : Bg Z G1 G3) (hrep : Bx cs kd N vs) (hi : i < cs.length) :
    Ag l Z (⟨"java/lang/String", "charAt", "(I)C"⟩ : MethodName) jdk_42_method_56_code 2 (some .char) ({ frames := 4, cells := 0, slots := 0, locals := 53 } : Room) n0 #[(.ref x), (.int (Int32.ofNat i))] h0 (fun v h => v = some (.int (cs.getD i 0)) ∧ h = h0) := by
  refine Au #[.val (.ref x), .val (.int (Int32.ofNat i))] ?_
  intro p e s m below meth c T0 C S0
  obtain ⟨O2, O4, P5, rG3, OA, OH, OL, OB⟩ := id HS
  obtain ⟨hcr, hn88, hrep⟩ := hrep
  rcases hrep with ⟨rfl, rfl, rfl, hle⟩ | ⟨rfl, rfl, rfl⟩
  · have hc := hcr _ (Dd hi)
    have hn := hn88
    refine Ac C S0 [(0, .aload_n 0, 1)] 1 #[Ab x, Aa (Int32.ofNat i)] [.ref x] ?_
    refine Bt C S0 hw 108 109 111 111 110 112 37 (own_isL l Z a0 hw G1 G3 x _ h0 n0 z0 X00 xC HS (Or.inl rfl)) 0 xE [] [] Fe ?_
    rintro T2 h3 v4 L5 S6 ⟨⟨rfl, e1⟩, -⟩
    rw [e1] at S6; clear e1
    refine Ac C S6 [(4, .ifCond .eq 12, 3), (7, .aload_n 0, 1)] 8 #[Ab x, Aa (Int32.ofNat i)] [.ref x] ?_
    refine Ah C S6 hw 62 xV ?_
    intro T7 S8
    refine Ac C S8 [(11, .iload_n 1, 1)] 12 #[Ab x, Aa (Int32.ofNat i)] [.int (Int32.ofNat i), .ref t] ?_
    refine Ak C S8 hw 113 114 115 116 (own_lch l Z a0 hw G1 G3 t _ cs i h0 n0 z0 X00 tK HS hi hn hcr hle) 0 [.ref t, .int (Int32.ofNat i)] [] Ft ?_
    rintro T10 h11 v12 L13 S14 ⟨⟨rfl, e9⟩, -⟩
    rw [e9] at S14; clear e9
    refine Cd C S14 (by decide +kernel) (Dp hc.1 hc.2) (by decide) (by decide) ?_
    exact ⟨rfl, rfl⟩
  · have hc := hcr _ (Dd hi)
    have hn := hn88
    refine Ac C S0 [(0, .aload_n 0, 1)] 1 #[Ab x, Aa (Int32.ofNat i)] [.ref x] ?_
    refine Bt C S0 hw 108 109 111 111 110 112 37 (own_isL l Z a0 hw G1 G3 x _ h0 n0 z0 X00 xC HS (Or.inr rfl)) 0 xE [] [] Fe ?_
    rintro T16 h17 v18 L19 S20 ⟨⟨rfl, e15⟩, -⟩
    rw [e15] at S20; clear e15
    refine Ac C S20 [(4, .ifCond .eq 12, 3), (16, .aload_n 0, 1)] 17 #[Ab x, Aa (Int32.ofNat i)] [.ref x] ?_
    refine Ah C S20 hw 62 xV ?_
    intro T21 S22
    refine Ac C S22 [(20, .iload_n 1, 1)] 21 #[Ab x, Aa (Int32.ofNat i)] [.int (Int32.ofNat i), .ref t] ?_
    refine Ak C S22 hw 273 274 51 275 (own_uch l Z a0 hw G1 G3 t _ cs i h0 n0 z0 X00 tK HS hi hn hcr) 0 [.ref t, .int (Int32.ofNat i)] [] Ft ?_
    rintro T24 h25 v26 L27 S28 ⟨⟨rfl, e23⟩, -⟩
    rw [e23] at S28; clear e23
    refine Cd C S28 (by decide +kernel) (Dp hc.1 hc.2) (by decide) (by decide) ?_
    exact ⟨rfl, rfl⟩
theorem Cy : parseMethodDescriptor "()I" = some ⟨[], (some .int)⟩ := by decide +kernel
theorem Ct : parseMethodDescriptor "(I)C" = some ⟨[.int], (some .char)⟩ := by decide +kernel
theorem Cf (hw : Ar a0 Z) (G1 : Int32) (G3 : Value) (J : Addr) (x : Addr) (t : Addr) (tk : ClassId) (kd : Int32) (N : Int32) (vs : List Value) (cs : List Int32) (pp : Nat) (y : Addr) (ch : Int32) (rm : List Int32) (h0 : Heap) (n0 : Nat) (z0 : n0 ≤ h0.size) (X00 : Old Z n0 h0) (JE : Exa Z h0 J "com/example/limit1/limit1/JsonText") (JX : Fld Z h0 J "com/example/limit1/limit1/JsonText" "text" "Ljava/lang/String;" (.ref x)) (JP : Fld Z h0 J "com/example/limit1/limit1/JsonText" "position" "I" (.int (Int32.ofNat pp))) (xE : Exa Z h0 x "java/lang/String") (xV : Fld Z h0 x "java/lang/String" "value" "[B" (.ref t)) (xC : Fld Z h0 x "java/lang/String" "coder" "B" (.int kd)) (tK : Arv Z h0 t tk .byte N vs (.int 0)) (HS : Bg Z G1 G3) (hrep : Bx cs kd N vs) (hat : Ae cs pp (ch :: rm)) :
    Ag l Z (⟨"com/example/limit1/limit1/JsonText", "peek", "(Ljava/lang/String;)C"⟩ : MethodName) prog_7_method_16_code 2 (some .char) ({ frames := 5, cells := 0, slots := 0, locals := 66 } : Room) n0 #[(.ref J), (.ref y)] h0 (fun v h => v = some (.int ch) ∧ h = h0) := by
  refine Au #[.val (.ref J), .val (.ref y)] ?_
  intro p e s m below meth c T0 C S0
  obtain ⟨O2, O4, P5, rG3, OA, OH, OL, OB⟩ := id HS
  have hg := Ae.hd hat
  have hlt := hg.1
  have h88 := hrep.2.1
  refine Ac C S0 [(0, .aload_n 0, 1)] 1 #[Ab J, Ab y] [.ref J] ?_
  refine Ah C S0 hw 91 JP ?_
  intro T1 S2
  refine Ac C S2 [(4, .aload_n 0, 1)] 5 #[Ab J, Ab y] [.ref J, .int (Int32.ofNat pp)] ?_
  refine Ah C S2 hw 81 JX ?_
  intro T3 S4
  refine Bt C S4 hw 93 94 96 96 95 97 37 (Cx l Z a0 hw G1 G3 x _ _ _ _ _ cs h0 n0 z0 X00 xE xV xC tK HS hrep) 1 xE [] [.int (Int32.ofNat pp)] Cy ?_
  rintro T6 h7 v8 L9 S10 ⟨⟨rfl, e5⟩, -⟩
  rw [e5] at S10; clear e5
  refine Ao C S10 .ne 9 20 (fun (q11 : ¬ (Int32.ofNat pp) = (Int32.ofNat cs.length)) => ?_) (fun (hq : (Int32.ofNat pp) = (Int32.ofNat cs.length)) => False.elim (absurd ((own_oNinj (by omega) (by omega)).mp hq) (by omega)))
  refine Ac C S10 [(20, .aload_n 0, 1)] 21 #[Ab J, Ab y] [.ref J] ?_
  refine Ah C S10 hw 81 JX ?_
  intro T12 S13
  refine Ac C S13 [(24, .aload_n 0, 1)] 25 #[Ab J, Ab y] [.ref J, .ref x] ?_
  refine Ah C S13 hw 91 JP ?_
  intro T14 S15
  refine Bt C S15 hw 103 104 106 106 105 107 37 (Dv l Z a0 hw G1 G3 x _ _ _ _ _ cs pp h0 n0 z0 X00 xE xV xC tK HS hrep hlt) 0 xE [.int (Int32.ofNat pp)] [] Ct ?_
  rintro T17 h18 v19 L20 S21 ⟨⟨rfl, e16⟩, -⟩
  rw [e16] at S21; clear e16
  rw [show (cs.getD pp 0) = ch from hg.2.1]
  have hc := hrep.1 _ (Dd hlt)
  rw [hg.2.1] at hc
  refine Cd C S21 (by decide +kernel) (Dp hc.1 hc.2) (by decide) (by decide) ?_
  exact ⟨rfl, rfl⟩
theorem Bf (hw : Ar a0 Z) (G1 : Int32) (G3 : Value) (J : Addr) (x : Addr) (t : Addr) (tk : ClassId) (kd : Int32) (N : Int32) (vs : List Value) (cs : List Int32) (pp : Nat) (k : Int32) (ch : Int32) (rm : List Int32) (h0 : Heap) (n0 : Nat) (z0 : n0 ≤ h0.size) (X00 : Old Z n0 h0) (JE : Exa Z h0 J "com/example/limit1/limit1/JsonText") (JX : Fld Z h0 J "com/example/limit1/limit1/JsonText" "text" "Ljava/lang/String;" (.ref x)) (JP : Fld Z h0 J "com/example/limit1/limit1/JsonText" "position" "I" (.int (Int32.ofNat pp))) (xE : Exa Z h0 x "java/lang/String") (xV : Fld Z h0 x "java/lang/String" "value" "[B" (.ref t)) (xC : Fld Z h0 x "java/lang/String" "coder" "B" (.int kd)) (tK : Arv Z h0 t tk .byte N vs (.int 0)) (HS : Bg Z G1 G3) (hrep : Bx cs kd N vs) (hat : Ae cs pp (ch :: rm)) :
    Ag l Z (⟨"com/example/limit1/limit1/JsonText", "peekIs", "(C)Z"⟩ : MethodName) prog_7_method_17_code 2 (some .boolean) ({ frames := 5, cells := 0, slots := 0, locals := 66 } : Room) n0 #[(.ref J), (.int k)] h0 (fun v h => ∃ r : Int32, v = some (.int r) ∧ h = h0 ∧ (Bl r ch k)) := by
  refine Au #[.val (.ref J), .val (.int k)] ?_
  intro p e s m below meth c T0 C S0
  have hg := Ae.hd hat
  have hlt := hg.1
  have h88 := hrep.2.1
  refine Ac C S0 [(0, .aload_n 0, 1)] 1 #[Ab J, Aa k] [.ref J] ?_
  refine Ah C S0 hw 91 JP ?_
  intro T1 S2
  refine Ac C S2 [(4, .aload_n 0, 1)] 5 #[Ab J, Aa k] [.ref J, .int (Int32.ofNat pp)] ?_
  refine Ah C S2 hw 81 JX ?_
  intro T3 S4
  refine Bt C S4 hw 93 94 96 96 95 97 37 (Cx l Z a0 hw G1 G3 x _ _ _ _ _ cs h0 n0 z0 X00 xE xV xC tK HS hrep) 1 xE [] [.int (Int32.ofNat pp)] Cy ?_
  rintro T6 h7 v8 L9 S10 ⟨⟨rfl, e5⟩, -⟩
  rw [e5] at S10; clear e5
  refine Ao C S10 .ge 22 33 (fun (hq : ¬ (Int32.ofNat pp) < (Int32.ofNat cs.length)) => False.elim (hq (Cb hlt (by omega)))) (fun (q11 : (Int32.ofNat pp) < (Int32.ofNat cs.length)) => ?_)
  refine Ac C S10 [(14, .aload_n 0, 1)] 15 #[Ab J, Aa k] [.ref J] ?_
  refine Ah C S10 hw 81 JX ?_
  intro T12 S13
  refine Ac C S13 [(18, .aload_n 0, 1)] 19 #[Ab J, Aa k] [.ref J, .ref x] ?_
  refine Ah C S13 hw 91 JP ?_
  intro T14 S15
  refine Bt C S15 hw 103 104 106 106 105 107 37 (Dv l Z a0 hw G1 G3 x _ _ _ _ _ cs pp h0 n0 z0 X00 xE xV xC tK HS hrep hlt) 0 xE [.int (Int32.ofNat pp)] [] Ct ?_
  rintro T17 h18 v19 L20 S21 ⟨⟨rfl, e16⟩, -⟩
  rw [e16] at S21; clear e16
  rw [show (cs.getD pp 0) = ch from hg.2.1]
  refine Ac C S21 [(25, .iload_n 1, 1)] 26 #[Ab J, Aa k] [.int k, .int ch] ?_
  refine Ao C S21 .ne 7 33 (fun (q22 : ¬ ch = k) => ?_) (fun (q23 : ch = k) => ?_)
  · refine Ac C S21 [(33, .iconst 0, 1)] 34 #[Ab J, Aa k] [.int 0] ?_
    refine Bs C S21 (by decide +kernel) (by decide) (by decide) (by decide) ?_
    exact ⟨(0 : Int32), rfl, rfl, Or.inr ⟨rfl, q22⟩⟩
  · refine Ac C S21 [(29, .iconst 1, 1), (30, .goto 4, 3)] 34 #[Ab J, Aa k] [.int 1] ?_
    refine Bs C S21 (by decide +kernel) (by decide) (by decide) (by decide) ?_
    exact ⟨(1 : Int32), rfl, rfl, Or.inl ⟨rfl, q23⟩⟩
theorem own_isd (hw : Ar a0 Z) (G1 : Int32) (G3 : Value) (J : Addr) (x : Addr) (t : Addr) (tk : ClassId) (kd : Int32) (N : Int32) (vs : List Value) (cs : List Int32) (pp : Nat) (ch : Int32) (rm : List Int32) (h0 : Heap) (n0 : Nat) (z0 : n0 ≤ h0.size) (X00 : Old Z n0 h0) (JE : Exa Z h0 J "com/example/limit1/limit1/JsonText") (JX : Fld Z h0 J "com/example/limit1/limit1/JsonText" "text" "Ljava/lang/String;" (.ref x)) (JP : Fld Z h0 J "com/example/limit1/limit1/JsonText" "position" "I" (.int (Int32.ofNat pp))) (xE : Exa Z h0 x "java/lang/String") (xV : Fld Z h0 x "java/lang/String" "value" "[B" (.ref t)) (xC : Fld Z h0 x "java/lang/String" "coder" "B" (.int kd)) (tK : Arv Z h0 t tk .byte N vs (.int 0)) (HS : Bg Z G1 G3) (hrep : Bx cs kd N vs) (hat : Ae cs pp (ch :: rm)) :
    Ag l Z (⟨"com/example/limit1/limit1/JsonText", "isDigitAt", "()Z"⟩ : MethodName) prog_7_method_18_code 1 (some .boolean) ({ frames := 5, cells := 0, slots := 0, locals := 66 } : Room) n0 #[(.ref J)] h0 (fun v h => ∃ r : Int32, v = some (.int r) ∧ h = h0 ∧ (Ez r ch)) := by
  refine Au #[.val (.ref J)] ?_
  intro p e s m below meth c T0 C S0
  have hg := Ae.hd hat
  have hlt := hg.1
  have h88 := hrep.2.1
  refine Ac C S0 [(0, .aload_n 0, 1)] 1 #[Ab J] [.ref J] ?_
  refine Ah C S0 hw 91 JP ?_
  intro T1 S2
  refine Ac C S2 [(4, .aload_n 0, 1)] 5 #[Ab J] [.ref J, .int (Int32.ofNat pp)] ?_
  refine Ah C S2 hw 81 JX ?_
  intro T3 S4
  refine Bt C S4 hw 93 94 96 96 95 97 37 (Cx l Z a0 hw G1 G3 x _ _ _ _ _ cs h0 n0 z0 X00 xE xV xC tK HS hrep) 1 xE [] [.int (Int32.ofNat pp)] Cy ?_
  rintro T6 h7 v8 L9 S10 ⟨⟨rfl, e5⟩, -⟩
  rw [e5] at S10; clear e5
  refine Ao C S10 .ge 39 50 (fun (hq : ¬ (Int32.ofNat pp) < (Int32.ofNat cs.length)) => False.elim (hq (Cb hlt (by omega)))) (fun (q11 : (Int32.ofNat pp) < (Int32.ofNat cs.length)) => ?_)
  refine Ac C S10 [(14, .aload_n 0, 1)] 15 #[Ab J] [.ref J] ?_
  refine Ah C S10 hw 81 JX ?_
  intro T12 S13
  refine Ac C S13 [(18, .aload_n 0, 1)] 19 #[Ab J] [.ref J, .ref x] ?_
  refine Ah C S13 hw 91 JP ?_
  intro T14 S15
  refine Bt C S15 hw 103 104 106 106 105 107 37 (Dv l Z a0 hw G1 G3 x _ _ _ _ _ cs pp h0 n0 z0 X00 xE xV xC tK HS hrep hlt) 0 xE [.int (Int32.ofNat pp)] [] Ct ?_
  rintro T17 h18 v19 L20 S21 ⟨⟨rfl, e16⟩, -⟩
  rw [e16] at S21; clear e16
  rw [show (cs.getD pp 0) = ch from hg.2.1]
  refine Ac C S21 [(25, .bipush 48, 2)] 27 #[Ab J] [.int 48, .int ch] ?_
  refine Ao C S21 .lt 23 50 (fun (q22 : ch < (48 : Int32)) => ?_) (fun (q23 : ¬ ch < (48 : Int32)) => ?_)
  · refine Ac C S21 [(50, .iconst 0, 1)] 51 #[Ab J] [.int 0] ?_
    refine Bs C S21 (by decide +kernel) (by decide) (by decide) (by decide) ?_
    exact ⟨(0 : Int32), rfl, rfl, Or.inr ⟨rfl, fun q => q.1 q22⟩⟩
  · refine Ac C S21 [(30, .aload_n 0, 1)] 31 #[Ab J] [.ref J] ?_
    refine Ah C S21 hw 81 JX ?_
    intro T24 S25
    refine Ac C S25 [(34, .aload_n 0, 1)] 35 #[Ab J] [.ref J, .ref x] ?_
    refine Ah C S25 hw 91 JP ?_
    intro T26 S27
    refine Bt C S27 hw 103 104 106 106 105 107 37 (Dv l Z a0 hw G1 G3 x _ _ _ _ _ cs pp h0 n0 z0 X00 xE xV xC tK HS hrep hlt) 0 xE [.int (Int32.ofNat pp)] [] Ct ?_
    rintro T29 h30 v31 L32 S33 ⟨⟨rfl, e28⟩, -⟩
    rw [e28] at S33; clear e28
    rw [show (cs.getD pp 0) = ch from hg.2.1]
    refine Ac C S33 [(41, .bipush 57, 2)] 43 #[Ab J] [.int 57, .int ch] ?_
    refine Ao C S33 .gt 7 50 (fun (q34 : (57 : Int32) < ch) => ?_) (fun (q35 : ¬ (57 : Int32) < ch) => ?_)
    · refine Ac C S33 [(50, .iconst 0, 1)] 51 #[Ab J] [.int 0] ?_
      refine Bs C S33 (by decide +kernel) (by decide) (by decide) (by decide) ?_
      exact ⟨(0 : Int32), rfl, rfl, Or.inr ⟨rfl, fun q => q.2 q34⟩⟩
    · refine Ac C S33 [(46, .iconst 1, 1), (47, .goto 4, 3)] 51 #[Ab J] [.int 1] ?_
      refine Bs C S33 (by decide +kernel) (by decide) (by decide) (by decide) ?_
      exact ⟨(1 : Int32), rfl, rfl, Or.inl ⟨rfl, q23, q35⟩⟩
theorem Ax : parseFieldDescriptor "I" = some .int := by decide +kernel
theorem own_fd1 : parseFieldDescriptor "Ljava/lang/String;" = some (.object "java/lang/String") := by decide +kernel
theorem Bb {Z : State} {a0 : Array Value} (hw : ∀ d ∈ tables_1, d.before a0 Z = true) : Jvm.RoadKit.slotOf Z "com/example/limit1/limit1/JsonText" "text" "Ljava/lang/String;" ≠ Jvm.RoadKit.slotOf Z "com/example/limit1/limit1/JsonText" "position" "I" := slot_ne (Or.inr (ow hw 82 rfl)) (Or.inl (ow hw 92 rfl)) (by decide) own_fd1 Ax
theorem Bo (hw : Ar a0 Z) (G1 : Int32) (G3 : Value) (J : Addr) (x : Addr) (t : Addr) (tk : ClassId) (kd : Int32) (N : Int32) (vs : List Value) (cs : List Int32) (pp : Nat) (W : List Int32) (R : List Int32) (h0 : Heap) (n0 : Nat) (z0 : n0 ≤ h0.size) (ge_J : n0 ≤ J) (X00 : Old Z n0 h0) (JE : Exa Z h0 J "com/example/limit1/limit1/JsonText") (JX : Fld Z h0 J "com/example/limit1/limit1/JsonText" "text" "Ljava/lang/String;" (.ref x)) (JP : Fld Z h0 J "com/example/limit1/limit1/JsonText" "position" "I" (.int (Int32.ofNat pp))) (xE : Exa Z h0 x "java/lang/String") (xV : Fld Z h0 x "java/lang/String" "value" "[B" (.ref t)) (xC : Fld Z h0 x "java/lang/String" "coder" "B" (.int kd)) (tK : Arv Z h0 t tk .byte N vs (.int 0)) (ne_x_J : x ≠ J) (ne_t_J : t ≠ J) (HS : Bg Z G1 G3) (hrep : Bx cs kd N vs) (hat : Ae cs pp (W ++ R)) (hW : ∀ k ∈ W, Aw k) (hR : own_nws R) :
    Ag l Z (⟨"com/example/limit1/limit1/JsonText", "skipWhitespace", "()V"⟩ : MethodName) prog_7_method_15_code 2 none ({ frames := 5, cells := 0, slots := 0, locals := 66 } : Room) n0 #[(.ref J)] h0 (fun v h => ∃ q : Nat, v = none ∧ Keep h0 h [J] ∧ Exa Z h J "com/example/limit1/limit1/JsonText" ∧ Fld Z h J "com/example/limit1/limit1/JsonText" "position" "I" (.int (Int32.ofNat q)) ∧ Fld Z h J "com/example/limit1/limit1/JsonText" "text" "Ljava/lang/String;" (.ref x) ∧ (Ae cs q R)) := by
  refine Au #[.val (.ref J), .unset] ?_
  intro p e s m below meth c T0 C S0
  obtain ⟨O2, O4, P5, rG3, OA, OH, OL, OB⟩ := id HS
  have h88 := hrep.2.1
  have loop : ∀ (wl : List Int32) (T2 : State) (h1 : Heap) (p1 : Nat) (z1 : Slot), Az p l e ({ frames := 5, cells := 0, slots := 0, locals := 66 } : Room) s m #[(.ref J)] below meth c n0 T2 h1 0 0 → Keep h0 h1 [J] → Fld Z h1 J "com/example/limit1/limit1/JsonText" "text" "Ljava/lang/String;" (.ref x) → Fld Z h1 J "com/example/limit1/limit1/JsonText" "position" "I" (.int (Int32.ofNat p1)) → (Ae cs p1 (wl ++ R)) → (∀ k ∈ wl, Aw k) → (z1 = .unset ∨ ∃ y, z1 = .val (.int y)) → Aj p e below (Cq s n0 (fun v h => ∃ q : Nat, v = none ∧ Keep h0 h [J] ∧ Exa Z h J "com/example/limit1/limit1/JsonText" ∧ Fld Z h J "com/example/limit1/limit1/JsonText" "position" "I" (.int (Int32.ofNat q)) ∧ Fld Z h J "com/example/limit1/limit1/JsonText" "text" "Ljava/lang/String;" (.ref x) ∧ (Ae cs q R)) ({ frames := 5, cells := 0, slots := 0, locals := 66 } : Room).cells ({ frames := 5, cells := 0, slots := 0, locals := 66 } : Room).slots) T2 (mkF m 0 #[Ab J, z1] []) := by
    intro wl
    induction wl with
    | nil =>
      intro T2 h1 p1 z1 S3 K4 JX1 JP1 hat1 hw1 hz
      have hat2 : Ae cs p1 R := hat1
      rcases hRc : R with _ | ⟨k, r⟩
      · rw [hRc] at hat2
        rw [← hRc]
        have hl := Ae.nl hat2
        refine Ac C S3 [(0, .aload_n 0, 1)] 1 #[Ab J, z1] [.ref J] ?_
        refine Ah C S3 hw 91 JP1 ?_
        intro T5 S6
        refine Ac C S6 [(4, .aload_n 0, 1)] 5 #[Ab J, z1] [.ref J, .int (Int32.ofNat p1)] ?_
        refine Ah C S6 hw 81 JX1 ?_
        intro T7 S8
        have f9 := (X00.keep K4 (allS ge_J all0))
        have f10 := (xE.keep K4)
        have f11 := (xV.keep K4 (ninS ne_x_J nin0))
        have f12 := (xC.keep K4 (ninS ne_x_J nin0))
        have f13 := (tK.keep K4 (ninS ne_t_J nin0))
        have f14 : n0 ≤ h1.size := (Nat.le_trans z0 K4.1)
        refine Bt C S8 hw 93 94 96 96 95 97 37 (Cx l Z a0 hw G1 G3 x _ _ _ _ _ cs h1 n0 f14 f9 f10 f11 f12 f13 HS hrep) 1 f10 [] [.int (Int32.ofNat p1)] Cy ?_
        rintro T16 h17 v18 L19 S20 ⟨⟨rfl, e15⟩, -⟩
        rw [e15] at S20; clear e15
        refine Ao C S20 .ge 53 64 (fun (q21 : ¬ (Int32.ofNat p1) < (Int32.ofNat cs.length)) => ?_) (fun (hq : (Int32.ofNat p1) < (Int32.ofNat cs.length)) => False.elim (Ed (by omega) (by omega) (by omega) hq))
        refine Be C S20 (by decide +kernel) (by decide) (by decide) ?_
        have f22 := (JE.keep K4)
        exact ⟨p1, rfl, ((Keep.refl _ _).trans K4 (allS (Ad 0) all0)), f22, JP1, JX1, hat1⟩
      · rw [hRc] at hat2
        rw [← hRc]
        have hg := Ae.hd hat2
        have hnw := hR k r hRc
        refine Ac C S3 [(0, .aload_n 0, 1)] 1 #[Ab J, z1] [.ref J] ?_
        refine Ah C S3 hw 91 JP1 ?_
        intro T23 S24
        refine Ac C S24 [(4, .aload_n 0, 1)] 5 #[Ab J, z1] [.ref J, .int (Int32.ofNat p1)] ?_
        refine Ah C S24 hw 81 JX1 ?_
        intro T25 S26
        have f27 := (X00.keep K4 (allS ge_J all0))
        have f28 := (xE.keep K4)
        have f29 := (xV.keep K4 (ninS ne_x_J nin0))
        have f30 := (xC.keep K4 (ninS ne_x_J nin0))
        have f31 := (tK.keep K4 (ninS ne_t_J nin0))
        have f32 : n0 ≤ h1.size := (Nat.le_trans z0 K4.1)
        refine Bt C S26 hw 93 94 96 96 95 97 37 (Cx l Z a0 hw G1 G3 x _ _ _ _ _ cs h1 n0 f32 f27 f28 f29 f30 f31 HS hrep) 1 f28 [] [.int (Int32.ofNat p1)] Cy ?_
        rintro T34 h35 v36 L37 S38 ⟨⟨rfl, e33⟩, -⟩
        rw [e33] at S38; clear e33
        refine Ao C S38 .ge 53 64 (fun (hq : ¬ (Int32.ofNat p1) < (Int32.ofNat cs.length)) => False.elim (hq (Cb hg.1 (by omega)))) (fun (q39 : (Int32.ofNat p1) < (Int32.ofNat cs.length)) => ?_)
        refine Ac C S38 [(14, .aload_n 0, 1)] 15 #[Ab J, z1] [.ref J] ?_
        refine Ah C S38 hw 81 JX1 ?_
        intro T40 S41
        refine Ac C S41 [(18, .aload_n 0, 1)] 19 #[Ab J, z1] [.ref J, .ref x] ?_
        refine Ah C S41 hw 91 JP1 ?_
        intro T42 S43
        refine Bt C S43 hw 103 104 106 106 105 107 37 (Dv l Z a0 hw G1 G3 x _ _ _ _ _ cs p1 h1 n0 f32 f27 f28 f29 f30 f31 HS hrep hg.1) 0 f28 [.int (Int32.ofNat p1)] [] Ct ?_
        rintro T45 h46 v47 L48 S49 ⟨⟨rfl, e44⟩, -⟩
        rw [e44] at S49; clear e44
        rw [show (cs.getD p1 0) = k from hg.2.1]
        rcases hz with rfl | ⟨y0, rfl⟩
        · refine Ac C S49 [(25, .istore_n 1, 1), (26, .iload_n 1, 1), (27, .bipush 32, 2)] 29 #[Ab J, Aa k] [.int 32, .int k] ?_
          refine Ao C S49 .eq 22 51 (fun (hq : k = (32 : Int32)) => False.elim (hnw (Or.inl hq))) (fun (q50 : ¬ k = (32 : Int32)) => ?_)
          refine Ac C S49 [(32, .iload_n 1, 1), (33, .bipush 9, 2)] 35 #[Ab J, Aa k] [.int 9, .int k] ?_
          refine Ao C S49 .eq 16 51 (fun (hq : k = (9 : Int32)) => False.elim (hnw (Or.inr (Or.inl hq)))) (fun (q51 : ¬ k = (9 : Int32)) => ?_)
          refine Ac C S49 [(38, .iload_n 1, 1), (39, .bipush 10, 2)] 41 #[Ab J, Aa k] [.int 10, .int k] ?_
          refine Ao C S49 .eq 10 51 (fun (hq : k = (10 : Int32)) => False.elim (hnw (Or.inr (Or.inr (Or.inl hq))))) (fun (q52 : ¬ k = (10 : Int32)) => ?_)
          refine Ac C S49 [(44, .iload_n 1, 1), (45, .bipush 13, 2)] 47 #[Ab J, Aa k] [.int 13, .int k] ?_
          refine Ao C S49 .eq 4 51 (fun (hq : k = (13 : Int32)) => False.elim (hnw (Or.inr (Or.inr (Or.inr hq))))) (fun (q53 : ¬ k = (13 : Int32)) => ?_)
          refine Be C S49 (by decide +kernel) (by decide) (by decide) ?_
          have f54 := (JE.keep K4)
          exact ⟨p1, rfl, ((Keep.refl _ _).trans K4 (allS (Ad 0) all0)), f54, JP1, JX1, hat1⟩
        · refine Ac C S49 [(25, .istore_n 1, 1), (26, .iload_n 1, 1), (27, .bipush 32, 2)] 29 #[Ab J, Aa k] [.int 32, .int k] ?_
          refine Ao C S49 .eq 22 51 (fun (hq : k = (32 : Int32)) => False.elim (hnw (Or.inl hq))) (fun (q55 : ¬ k = (32 : Int32)) => ?_)
          refine Ac C S49 [(32, .iload_n 1, 1), (33, .bipush 9, 2)] 35 #[Ab J, Aa k] [.int 9, .int k] ?_
          refine Ao C S49 .eq 16 51 (fun (hq : k = (9 : Int32)) => False.elim (hnw (Or.inr (Or.inl hq)))) (fun (q56 : ¬ k = (9 : Int32)) => ?_)
          refine Ac C S49 [(38, .iload_n 1, 1), (39, .bipush 10, 2)] 41 #[Ab J, Aa k] [.int 10, .int k] ?_
          refine Ao C S49 .eq 10 51 (fun (hq : k = (10 : Int32)) => False.elim (hnw (Or.inr (Or.inr (Or.inl hq))))) (fun (q57 : ¬ k = (10 : Int32)) => ?_)
          refine Ac C S49 [(44, .iload_n 1, 1), (45, .bipush 13, 2)] 47 #[Ab J, Aa k] [.int 13, .int k] ?_
          refine Ao C S49 .eq 4 51 (fun (hq : k = (13 : Int32)) => False.elim (hnw (Or.inr (Or.inr (Or.inr hq))))) (fun (q58 : ¬ k = (13 : Int32)) => ?_)
          refine Be C S49 (by decide +kernel) (by decide) (by decide) ?_
          have f59 := (JE.keep K4)
          exact ⟨p1, rfl, ((Keep.refl _ _).trans K4 (allS (Ad 0) all0)), f59, JP1, JX1, hat1⟩
    | cons ch wl ih =>
      intro T2 h1 p1 z1 S3 K4 JX1 JP1 hat1 hw1 hz
      have hg := Ae.hd (k := ch) (r := wl ++ R) hat1
      have hcw := hw1 ch (List.mem_cons_self ..)
      refine Ac C S3 [(0, .aload_n 0, 1)] 1 #[Ab J, z1] [.ref J] ?_
      refine Ah C S3 hw 91 JP1 ?_
      intro T60 S61
      refine Ac C S61 [(4, .aload_n 0, 1)] 5 #[Ab J, z1] [.ref J, .int (Int32.ofNat p1)] ?_
      refine Ah C S61 hw 81 JX1 ?_
      intro T62 S63
      have f64 := (X00.keep K4 (allS ge_J all0))
      have f65 := (xE.keep K4)
      have f66 := (xV.keep K4 (ninS ne_x_J nin0))
      have f67 := (xC.keep K4 (ninS ne_x_J nin0))
      have f68 := (tK.keep K4 (ninS ne_t_J nin0))
      have f69 : n0 ≤ h1.size := (Nat.le_trans z0 K4.1)
      refine Bt C S63 hw 93 94 96 96 95 97 37 (Cx l Z a0 hw G1 G3 x _ _ _ _ _ cs h1 n0 f69 f64 f65 f66 f67 f68 HS hrep) 1 f65 [] [.int (Int32.ofNat p1)] Cy ?_
      rintro T71 h72 v73 L74 S75 ⟨⟨rfl, e70⟩, -⟩
      rw [e70] at S75; clear e70
      refine Ao C S75 .ge 53 64 (fun (hq : ¬ (Int32.ofNat p1) < (Int32.ofNat cs.length)) => False.elim (hq (Cb hg.1 (by omega)))) (fun (q76 : (Int32.ofNat p1) < (Int32.ofNat cs.length)) => ?_)
      refine Ac C S75 [(14, .aload_n 0, 1)] 15 #[Ab J, z1] [.ref J] ?_
      refine Ah C S75 hw 81 JX1 ?_
      intro T77 S78
      refine Ac C S78 [(18, .aload_n 0, 1)] 19 #[Ab J, z1] [.ref J, .ref x] ?_
      refine Ah C S78 hw 91 JP1 ?_
      intro T79 S80
      refine Bt C S80 hw 103 104 106 106 105 107 37 (Dv l Z a0 hw G1 G3 x _ _ _ _ _ cs p1 h1 n0 f69 f64 f65 f66 f67 f68 HS hrep hg.1) 0 f65 [.int (Int32.ofNat p1)] [] Ct ?_
      rintro T82 h83 v84 L85 S86 ⟨⟨rfl, e81⟩, -⟩
      rw [e81] at S86; clear e81
      rw [show (cs.getD p1 0) = ch from hg.2.1]
      have J51 : ∀ (T87 : State), Az p l e ({ frames := 5, cells := 0, slots := 0, locals := 66 } : Room) s m #[(.ref J)] below meth c n0 T87 h1 0 0 → Aj p e below (Cq s n0 (fun v h => ∃ q : Nat, v = none ∧ Keep h0 h [J] ∧ Exa Z h J "com/example/limit1/limit1/JsonText" ∧ Fld Z h J "com/example/limit1/limit1/JsonText" "position" "I" (.int (Int32.ofNat q)) ∧ Fld Z h J "com/example/limit1/limit1/JsonText" "text" "Ljava/lang/String;" (.ref x) ∧ (Ae cs q R)) ({ frames := 5, cells := 0, slots := 0, locals := 66 } : Room).cells ({ frames := 5, cells := 0, slots := 0, locals := 66 } : Room).slots) T87 (mkF m 51 #[Ab J, Aa ch] []) := by
        intro T87 S88
        refine Ac C S88 [(51, .aload_n 0, 1), (52, .dup, 1)] 53 #[Ab J, Aa ch] [.ref J, .ref J] ?_
        refine Ah C S88 hw 91 JP1 ?_
        intro T89 S90
        refine Ac C S90 [(56, .iconst 1, 1), (57, .iadd, 1)] 58 #[Ab J, Aa ch] [.int ((Int32.ofNat p1) + (1 : Int32)), .ref J] ?_
        rw [show ((Int32.ofNat p1) + (1 : Int32)) = (Int32.ofNat (p1 + 1)) from Af _]
        have f91 := (JE.keep K4)
        refine Bh C S90 hw 91 92 76 JP1 f91 Ax ge_J ?_
        intro T92 h94 S93 W95
        have f96 : Fld Z h94 J "com/example/limit1/limit1/JsonText" "position" "I" (.int (Int32.ofNat (p1 + 1))) := Fld.same W95 JP1
        have f97 := (Fld.other W95 JX1 (Or.inr (Bb hw)))
        refine Ac C S93 [(61, .goto (-61), 3)] 0 #[Ab J, Aa ch] [] ?_
        exact ih T92 h94 (p1 + 1) _ S93 (((Keep.refl _ _).trans K4 (allS (Ad 0) all0)).wr W95 (Ad 0)) f97 f96 hg.2.2 (fun k hk => hw1 k (List.mem_cons_of_mem _ hk)) (Or.inr ⟨_, rfl⟩)
      rcases hz with rfl | ⟨y0, rfl⟩
      · refine Ac C S86 [(25, .istore_n 1, 1), (26, .iload_n 1, 1), (27, .bipush 32, 2)] 29 #[Ab J, Aa ch] [.int 32, .int ch] ?_
        refine Ao C S86 .eq 22 51 (fun (q98 : ch = (32 : Int32)) => ?_) (fun (q99 : ¬ ch = (32 : Int32)) => ?_)
        · exact J51 T82 S86
        · refine Ac C S86 [(32, .iload_n 1, 1), (33, .bipush 9, 2)] 35 #[Ab J, Aa ch] [.int 9, .int ch] ?_
          refine Ao C S86 .eq 16 51 (fun (q100 : ch = (9 : Int32)) => ?_) (fun (q101 : ¬ ch = (9 : Int32)) => ?_)
          · exact J51 T82 S86
          · refine Ac C S86 [(38, .iload_n 1, 1), (39, .bipush 10, 2)] 41 #[Ab J, Aa ch] [.int 10, .int ch] ?_
            refine Ao C S86 .eq 10 51 (fun (q102 : ch = (10 : Int32)) => ?_) (fun (q103 : ¬ ch = (10 : Int32)) => ?_)
            · exact J51 T82 S86
            · refine Ac C S86 [(44, .iload_n 1, 1), (45, .bipush 13, 2)] 47 #[Ab J, Aa ch] [.int 13, .int ch] ?_
              refine Ao C S86 .eq 4 51 (fun (q104 : ch = (13 : Int32)) => ?_) (fun (q105 : ¬ ch = (13 : Int32)) => ?_)
              · exact J51 T82 S86
              · exact absurd hcw (by rintro (q | q | q | q); exact q99 q; exact q101 q; exact q103 q; exact q105 q)
      · refine Ac C S86 [(25, .istore_n 1, 1), (26, .iload_n 1, 1), (27, .bipush 32, 2)] 29 #[Ab J, Aa ch] [.int 32, .int ch] ?_
        refine Ao C S86 .eq 22 51 (fun (q106 : ch = (32 : Int32)) => ?_) (fun (q107 : ¬ ch = (32 : Int32)) => ?_)
        · exact J51 T82 S86
        · refine Ac C S86 [(32, .iload_n 1, 1), (33, .bipush 9, 2)] 35 #[Ab J, Aa ch] [.int 9, .int ch] ?_
          refine Ao C S86 .eq 16 51 (fun (q108 : ch = (9 : Int32)) => ?_) (fun (q109 : ¬ ch = (9 : Int32)) => ?_)
          · exact J51 T82 S86
          · refine Ac C S86 [(38, .iload_n 1, 1), (39, .bipush 10, 2)] 41 #[Ab J, Aa ch] [.int 10, .int ch] ?_
            refine Ao C S86 .eq 10 51 (fun (q110 : ch = (10 : Int32)) => ?_) (fun (q111 : ¬ ch = (10 : Int32)) => ?_)
            · exact J51 T82 S86
            · refine Ac C S86 [(44, .iload_n 1, 1), (45, .bipush 13, 2)] 47 #[Ab J, Aa ch] [.int 13, .int ch] ?_
              refine Ao C S86 .eq 4 51 (fun (q112 : ch = (13 : Int32)) => ?_) (fun (q113 : ¬ ch = (13 : Int32)) => ?_)
              · exact J51 T82 S86
              · exact absurd hcw (by rintro (q | q | q | q); exact q107 q; exact q109 q; exact q111 q; exact q113 q)
  exact loop W T0 h0 pp .unset S0 (Keep.refl _ _) JX JP hat hW (Or.inl rfl)
theorem own_cdg (hw : Ar a0 Z) (G1 : Int32) (G3 : Value) (J : Addr) (x : Addr) (t : Addr) (tk : ClassId) (kd : Int32) (N : Int32) (vs : List Value) (cs : List Int32) (pp : Nat) (D : List Int32) (ch : Int32) (rm : List Int32) (h0 : Heap) (n0 : Nat) (z0 : n0 ≤ h0.size) (ge_J : n0 ≤ J) (X00 : Old Z n0 h0) (JE : Exa Z h0 J "com/example/limit1/limit1/JsonText") (JX : Fld Z h0 J "com/example/limit1/limit1/JsonText" "text" "Ljava/lang/String;" (.ref x)) (JP : Fld Z h0 J "com/example/limit1/limit1/JsonText" "position" "I" (.int (Int32.ofNat pp))) (xE : Exa Z h0 x "java/lang/String") (xV : Fld Z h0 x "java/lang/String" "value" "[B" (.ref t)) (xC : Fld Z h0 x "java/lang/String" "coder" "B" (.int kd)) (tK : Arv Z h0 t tk .byte N vs (.int 0)) (ne_x_J : x ≠ J) (ne_t_J : t ≠ J) (HS : Bg Z G1 G3) (hrep : Bx cs kd N vs) (hat : Ae cs pp (D ++ ch :: rm)) (hD : Em D) (hnd : ¬ Bu ch) :
    Ag l Z (⟨"com/example/limit1/limit1/JsonText", "checkDigits", "()V"⟩ : MethodName) prog_7_method_10_code 1 none ({ frames := 6, cells := 0, slots := 0, locals := 78 } : Room) n0 #[(.ref J)] h0 (fun v h => ∃ q : Nat, v = none ∧ Keep h0 h [J] ∧ Exa Z h J "com/example/limit1/limit1/JsonText" ∧ Fld Z h J "com/example/limit1/limit1/JsonText" "position" "I" (.int (Int32.ofNat q)) ∧ Fld Z h J "com/example/limit1/limit1/JsonText" "text" "Ljava/lang/String;" (.ref x) ∧ (Ae cs q (ch :: rm))) := by
  refine Au #[.val (.ref J)] ?_
  intro p e s m below meth c T0 C S0
  obtain ⟨d0, D1, rfl, hd0⟩ := Em.hd hD
  refine Ac C S0 [(0, .aload_n 0, 1)] 1 #[Ab J] [.ref J] ?_
  refine Cz C S0 hw 174 175 76 176 177 66 (own_isd l Z a0 hw G1 G3 J _ _ _ _ _ _ cs pp d0 (D1 ++ ch :: rm) h0 n0 z0 X00 JE JX JP xE xV xC tK HS hrep hat) 0 JE [] [] Fe ?_
  rintro T4 h5 v6 L7 S8 ⟨⟨y1, rfl, e2, p3⟩, -⟩
  rw [e2] at S8; clear e2
  have hr9 : y1 = (1 : Int32) := Ez.one p3 hd0
  subst hr9
  have loop : ∀ (dl : List Int32) (T11 : State) (h10 : Heap) (p1 : Nat), Az p l e ({ frames := 6, cells := 0, slots := 0, locals := 78 } : Room) s m #[(.ref J)] below meth c n0 T11 h10 0 0 → Keep h0 h10 [J] → Fld Z h10 J "com/example/limit1/limit1/JsonText" "text" "Ljava/lang/String;" (.ref x) → Fld Z h10 J "com/example/limit1/limit1/JsonText" "position" "I" (.int (Int32.ofNat p1)) → (Ae cs p1 (dl ++ ch :: rm)) → (∀ k ∈ dl, Bu k) → Aj p e below (Cq s n0 (fun v h => ∃ q : Nat, v = none ∧ Keep h0 h [J] ∧ Exa Z h J "com/example/limit1/limit1/JsonText" ∧ Fld Z h J "com/example/limit1/limit1/JsonText" "position" "I" (.int (Int32.ofNat q)) ∧ Fld Z h J "com/example/limit1/limit1/JsonText" "text" "Ljava/lang/String;" (.ref x) ∧ (Ae cs q (ch :: rm))) ({ frames := 6, cells := 0, slots := 0, locals := 78 } : Room).cells ({ frames := 6, cells := 0, slots := 0, locals := 78 } : Room).slots) T11 (mkF m 14 #[Ab J] []) := by
    intro dl
    induction dl with
    | nil =>
      intro T11 h10 p1 S12 K13 JX1 JP1 hat1 hd1
      refine Ac C S12 [(14, .aload_n 0, 1)] 15 #[Ab J] [.ref J] ?_
      have f14 := (X00.keep K13 (allS ge_J all0))
      have f15 := (JE.keep K13)
      have f16 := (xE.keep K13)
      have f17 := (xV.keep K13 (ninS ne_x_J nin0))
      have f18 := (xC.keep K13 (ninS ne_x_J nin0))
      have f19 := (tK.keep K13 (ninS ne_t_J nin0))
      have f20 : n0 ≤ h10.size := (Nat.le_trans z0 K13.1)
      refine Cz C S12 hw 174 175 76 176 177 66 (own_isd l Z a0 hw G1 G3 J _ _ _ _ _ _ cs p1 ch rm h10 n0 f20 f14 f15 JX1 JP1 f16 f17 f18 f19 HS hrep hat1) 0 f15 [] [] Fe ?_
      rintro T24 h25 v26 L27 S28 ⟨⟨y21, rfl, e22, p23⟩, -⟩
      rw [e22] at S28; clear e22
      have hr29 : y21 = (0 : Int32) := Ez.zero p23 hnd
      subst hr29
      refine Ac C S28 [(18, .ifCond .eq 16, 3)] 34 #[Ab J] [] ?_
      refine Be C S28 (by decide +kernel) (by decide) (by decide) ?_
      exact ⟨p1, rfl, ((Keep.refl _ _).trans K13 (allS (Ad 0) all0)), f15, JP1, JX1, hat1⟩
    | cons k dl ih =>
      intro T11 h10 p1 S12 K13 JX1 JP1 hat1 hd1
      refine Ac C S12 [(14, .aload_n 0, 1)] 15 #[Ab J] [.ref J] ?_
      have f30 := (X00.keep K13 (allS ge_J all0))
      have f31 := (JE.keep K13)
      have f32 := (xE.keep K13)
      have f33 := (xV.keep K13 (ninS ne_x_J nin0))
      have f34 := (xC.keep K13 (ninS ne_x_J nin0))
      have f35 := (tK.keep K13 (ninS ne_t_J nin0))
      have f36 : n0 ≤ h10.size := (Nat.le_trans z0 K13.1)
      refine Cz C S12 hw 174 175 76 176 177 66 (own_isd l Z a0 hw G1 G3 J _ _ _ _ _ _ cs p1 k (dl ++ ch :: rm) h10 n0 f36 f30 f31 JX1 JP1 f32 f33 f34 f35 HS hrep hat1) 0 f31 [] [] Fe ?_
      rintro T40 h41 v42 L43 S44 ⟨⟨y37, rfl, e38, p39⟩, -⟩
      rw [e38] at S44; clear e38
      have hr45 : y37 = (1 : Int32) := Ez.one p39 (hd1 k (List.mem_cons_self ..))
      subst hr45
      refine Ac C S44 [(18, .ifCond .eq 16, 3), (21, .aload_n 0, 1), (22, .dup, 1)] 23 #[Ab J] [.ref J, .ref J] ?_
      refine Ah C S44 hw 91 JP1 ?_
      intro T46 S47
      refine Ac C S47 [(26, .iconst 1, 1), (27, .iadd, 1)] 28 #[Ab J] [.int ((Int32.ofNat p1) + (1 : Int32)), .ref J] ?_
      rw [show ((Int32.ofNat p1) + (1 : Int32)) = (Int32.ofNat (p1 + 1)) from Af _]
      refine Bh C S47 hw 91 92 76 JP1 f31 Ax ge_J ?_
      intro T48 h50 S49 W51
      have f52 : Fld Z h50 J "com/example/limit1/limit1/JsonText" "position" "I" (.int (Int32.ofNat (p1 + 1))) := Fld.same W51 JP1
      have hat53 := (Ae.hd hat1).2.2
      have f54 := (Fld.other W51 JX1 (Or.inr (Bb hw)))
      refine Ac C S49 [(31, .goto (-17), 3)] 14 #[Ab J] [] ?_
      exact ih T48 h50 (p1 + 1) S49 (((Keep.refl _ _).trans K13 (allS (Ad 0) all0)).wr W51 (Ad 0)) f54 f52 hat53 (fun z hz => hd1 z (List.mem_cons_of_mem _ hz))
  refine Ac C S8 [(4, .ifCond .ne 10, 3)] 14 #[Ab J] [] ?_
  exact loop (d0 :: D1) T4 h0 pp S8 (Keep.refl _ _) JX JP hat hD.2
theorem At : parseMethodDescriptor "()V" = some ⟨[], none⟩ := by decide +kernel
theorem Av : parseMethodDescriptor "(C)Z" = some ⟨[.char], (some .boolean)⟩ := by decide +kernel
theorem own_num (hw : Ar a0 Z) (G1 : Int32) (G3 : Value) (J : Addr) (x : Addr) (t : Addr) (tk : ClassId) (kd : Int32) (N : Int32) (vs : List Value) (cs : List Int32) (pp : Nat) (S : List Int32) (tm : Int32) (rm : List Int32) (h0 : Heap) (n0 : Nat) (z0 : n0 ≤ h0.size) (ge_J : n0 ≤ J) (X00 : Old Z n0 h0) (JE : Exa Z h0 J "com/example/limit1/limit1/JsonText") (JX : Fld Z h0 J "com/example/limit1/limit1/JsonText" "text" "Ljava/lang/String;" (.ref x)) (JP : Fld Z h0 J "com/example/limit1/limit1/JsonText" "position" "I" (.int (Int32.ofNat pp))) (xE : Exa Z h0 x "java/lang/String") (xV : Fld Z h0 x "java/lang/String" "value" "[B" (.ref t)) (xC : Fld Z h0 x "java/lang/String" "coder" "B" (.int kd)) (tK : Arv Z h0 t tk .byte N vs (.int 0)) (ne_x_J : x ≠ J) (ne_t_J : t ≠ J) (HS : Bg Z G1 G3) (hrep : Bx cs kd N vs) (hat : Ae cs pp S) (hN : own_Nx S (tm :: rm)) (htm : Ei tm) :
    Ag l Z (⟨"com/example/limit1/limit1/JsonText", "checkNumber", "()V"⟩ : MethodName) prog_7_method_9_code 1 none ({ frames := 7, cells := 0, slots := 0, locals := 90 } : Room) n0 #[(.ref J)] h0 (fun v h => ∃ q : Nat, v = none ∧ Keep h0 h [J] ∧ Exa Z h J "com/example/limit1/limit1/JsonText" ∧ Fld Z h J "com/example/limit1/limit1/JsonText" "position" "I" (.int (Int32.ofNat q)) ∧ Fld Z h J "com/example/limit1/limit1/JsonText" "text" "Ljava/lang/String;" (.ref x) ∧ (Ae cs q (tm :: rm))) := by
  refine Au #[.val (.ref J)] ?_
  intro p e s m below meth c T0 C S0
  obtain ⟨O2, O4, P5, rG3, OA, OH, OL, OB⟩ := id HS
  have J124 : ∀ (T2 : State) (h1 : Heap) (p1 : Nat) (D : List Int32), Az p l e ({ frames := 7, cells := 0, slots := 0, locals := 90 } : Room) s m #[(.ref J)] below meth c n0 T2 h1 0 0 → Keep h0 h1 [J] → Fld Z h1 J "com/example/limit1/limit1/JsonText" "text" "Ljava/lang/String;" (.ref x) → Fld Z h1 J "com/example/limit1/limit1/JsonText" "position" "I" (.int (Int32.ofNat p1)) → (Ae cs p1 (D ++ (tm :: rm))) → (Em D) → Aj p e below (Cq s n0 (fun v h => ∃ q : Nat, v = none ∧ Keep h0 h [J] ∧ Exa Z h J "com/example/limit1/limit1/JsonText" ∧ Fld Z h J "com/example/limit1/limit1/JsonText" "position" "I" (.int (Int32.ofNat q)) ∧ Fld Z h J "com/example/limit1/limit1/JsonText" "text" "Ljava/lang/String;" (.ref x) ∧ (Ae cs q (tm :: rm))) ({ frames := 7, cells := 0, slots := 0, locals := 90 } : Room).cells ({ frames := 7, cells := 0, slots := 0, locals := 90 } : Room).slots) T2 (mkF m 124 #[Ab J] []) := by
    intro T2 h1 p1 D S3 K4 JX1 JP1 hat1 hD
    refine Ac C S3 [(124, .aload_n 0, 1)] 125 #[Ab J] [.ref J] ?_
    have f5 := (X00.keep K4 (allS ge_J all0))
    have f6 := (JE.keep K4)
    have f7 := (xE.keep K4)
    have f8 := (xV.keep K4 (ninS ne_x_J nin0))
    have f9 := (xC.keep K4 (ninS ne_x_J nin0))
    have f10 := (tK.keep K4 (ninS ne_t_J nin0))
    have f11 : n0 ≤ h1.size := (Nat.le_trans z0 K4.1)
    refine Cz C S3 hw 182 183 76 184 185 66 (own_cdg l Z a0 hw G1 G3 J _ _ _ _ _ _ cs p1 D tm rm h1 n0 f11 ge_J f5 f6 JX1 JP1 f7 f8 f9 f10 ne_x_J ne_t_J HS hrep hat1 hD htm.1) 0 f6 [] [] At ?_
    rintro T18 h19 v20 L21 S22 ⟨⟨y12, rfl, K13, f14, f15, f16, p17⟩, -⟩
    refine Be C S22 (by decide +kernel) (by decide) (by decide) ?_
    exact ⟨y12, rfl, (((Keep.refl _ _).trans K4 (allS (Ad 0) all0)).trans K13 (allS (Ad 0) all0)), f14, f15, f16, p17⟩
  have J86 : ∀ (T24 : State) (h23 : Heap) (p1 : Nat) (k : Int32) (sg : List Int32) (D : List Int32), Az p l e ({ frames := 7, cells := 0, slots := 0, locals := 90 } : Room) s m #[(.ref J)] below meth c n0 T24 h23 0 0 → Keep h0 h23 [J] → Fld Z h23 J "com/example/limit1/limit1/JsonText" "text" "Ljava/lang/String;" (.ref x) → Fld Z h23 J "com/example/limit1/limit1/JsonText" "position" "I" (.int (Int32.ofNat p1)) → (Ae cs p1 (k :: (sg ++ (D ++ (tm :: rm))))) → (sg = [] ∨ sg = [43] ∨ sg = [45]) → (Em D) → Aj p e below (Cq s n0 (fun v h => ∃ q : Nat, v = none ∧ Keep h0 h [J] ∧ Exa Z h J "com/example/limit1/limit1/JsonText" ∧ Fld Z h J "com/example/limit1/limit1/JsonText" "position" "I" (.int (Int32.ofNat q)) ∧ Fld Z h J "com/example/limit1/limit1/JsonText" "text" "Ljava/lang/String;" (.ref x) ∧ (Ae cs q (tm :: rm))) ({ frames := 7, cells := 0, slots := 0, locals := 90 } : Room).cells ({ frames := 7, cells := 0, slots := 0, locals := 90 } : Room).slots) T24 (mkF m 86 #[Ab J] []) := by
    intro T24 h23 p1 k sg D S25 K26 JX1 JP1 hat1 hsg hD
    refine Ac C S25 [(86, .aload_n 0, 1), (87, .dup, 1)] 88 #[Ab J] [.ref J, .ref J] ?_
    refine Ah C S25 hw 91 JP1 ?_
    intro T27 S28
    refine Ac C S28 [(91, .iconst 1, 1), (92, .iadd, 1)] 93 #[Ab J] [.int ((Int32.ofNat p1) + (1 : Int32)), .ref J] ?_
    rw [show ((Int32.ofNat p1) + (1 : Int32)) = (Int32.ofNat (p1 + 1)) from Af _]
    have f29 := (JE.keep K26)
    refine Bh C S28 hw 91 92 76 JP1 f29 Ax ge_J ?_
    intro T30 h32 S31 W33
    have f34 : Fld Z h32 J "com/example/limit1/limit1/JsonText" "position" "I" (.int (Int32.ofNat (p1 + 1))) := Fld.same W33 JP1
    have hat35 := (Ae.hd hat1).2.2
    rcases hsg with rfl | rfl | rfl
    · obtain ⟨d0, D1, rfl, hd0⟩ := Em.hd hD
      refine Ac C S31 [(96, .aload_n 0, 1), (97, .bipush 43, 2)] 99 #[Ab J] [.int 43, .ref J] ?_
      have f36 := ((X00.keep K26 (allS ge_J all0)).wr W33 ge_J)
      have f37 := (Exa.wr W33 f29)
      have f38 := (Fld.other W33 JX1 (Or.inr (Bb hw)))
      have f39 := (Exa.wr W33 (xE.keep K26))
      have f40 := (Fld.other W33 (xV.keep K26 (ninS ne_x_J nin0)) (Or.inl ne_x_J))
      have f41 := (Fld.other W33 (xC.keep K26 (ninS ne_x_J nin0)) (Or.inl ne_x_J))
      have f42 := ((tK.keep K26 (ninS ne_t_J nin0)).other W33 ne_t_J)
      have f43 : n0 ≤ h32.size := (by rw [W33.size]; exact (Nat.le_trans z0 K26.1))
      refine Cz C S31 hw 156 157 76 158 159 66 (Bf l Z a0 hw G1 G3 J _ _ _ _ _ _ cs (p1 + 1) 43 d0 (D1 ++ (tm :: rm)) h32 n0 f43 f36 f37 f38 f34 f39 f40 f41 f42 HS hrep hat35) 0 f37 [.int 43] [] Av ?_
      rintro T47 h48 v49 L50 S51 ⟨⟨y44, rfl, e45, p46⟩, -⟩
      rw [e45] at S51; clear e45
      have hr52 : y44 = (0 : Int32) := Bl.zero p46 (own_dgn hd0 (by unfold Bu; decide))
      subst hr52
      refine Ac C S51 [(102, .ifCond .ne 12, 3), (105, .aload_n 0, 1), (106, .bipush 45, 2)] 108 #[Ab J] [.int 45, .ref J] ?_
      refine Cz C S51 hw 156 157 76 158 159 66 (Bf l Z a0 hw G1 G3 J _ _ _ _ _ _ cs (p1 + 1) 45 d0 (D1 ++ (tm :: rm)) h32 n0 f43 f36 f37 f38 f34 f39 f40 f41 f42 HS hrep hat35) 0 f37 [.int 45] [] Av ?_
      rintro T56 h57 v58 L59 S60 ⟨⟨y53, rfl, e54, p55⟩, -⟩
      rw [e54] at S60; clear e54
      have hr61 : y53 = (0 : Int32) := Bl.zero p55 (own_dgn hd0 (by unfold Bu; decide))
      subst hr61
      refine Ac C S60 [(111, .ifCond .eq 13, 3)] 124 #[Ab J] [] ?_
      exact J124 T56 h32 (p1 + 1) (d0 :: D1) S60 (((Keep.refl _ _).trans K26 (allS (Ad 0) all0)).wr W33 (Ad 0)) f38 f34 hat35 hD
    · refine Ac C S31 [(96, .aload_n 0, 1), (97, .bipush 43, 2)] 99 #[Ab J] [.int 43, .ref J] ?_
      have f62 := ((X00.keep K26 (allS ge_J all0)).wr W33 ge_J)
      have f63 := (Exa.wr W33 f29)
      have f64 := (Fld.other W33 JX1 (Or.inr (Bb hw)))
      have f65 := (Exa.wr W33 (xE.keep K26))
      have f66 := (Fld.other W33 (xV.keep K26 (ninS ne_x_J nin0)) (Or.inl ne_x_J))
      have f67 := (Fld.other W33 (xC.keep K26 (ninS ne_x_J nin0)) (Or.inl ne_x_J))
      have f68 := ((tK.keep K26 (ninS ne_t_J nin0)).other W33 ne_t_J)
      have f69 : n0 ≤ h32.size := (by rw [W33.size]; exact (Nat.le_trans z0 K26.1))
      refine Cz C S31 hw 156 157 76 158 159 66 (Bf l Z a0 hw G1 G3 J _ _ _ _ _ _ cs (p1 + 1) 43 43 (D ++ (tm :: rm)) h32 n0 f69 f62 f63 f64 f34 f65 f66 f67 f68 HS hrep hat35) 0 f63 [.int 43] [] Av ?_
      rintro T73 h74 v75 L76 S77 ⟨⟨y70, rfl, e71, p72⟩, -⟩
      rw [e71] at S77; clear e71
      have hr78 : y70 = (1 : Int32) := Bl.one p72 rfl
      subst hr78
      refine Ac C S77 [(102, .ifCond .ne 12, 3), (114, .aload_n 0, 1), (115, .dup, 1)] 116 #[Ab J] [.ref J, .ref J] ?_
      refine Ah C S77 hw 91 f34 ?_
      intro T79 S80
      refine Ac C S80 [(119, .iconst 1, 1), (120, .iadd, 1)] 121 #[Ab J] [.int ((Int32.ofNat (p1 + 1)) + (1 : Int32)), .ref J] ?_
      rw [show ((Int32.ofNat (p1 + 1)) + (1 : Int32)) = (Int32.ofNat ((p1 + 1) + 1)) from Af _]
      refine Bh C S80 hw 91 92 76 f34 f63 Ax ge_J ?_
      intro T81 h83 S82 W84
      have f85 : Fld Z h83 J "com/example/limit1/limit1/JsonText" "position" "I" (.int (Int32.ofNat ((p1 + 1) + 1))) := Fld.same W84 f34
      have hat86 := (Ae.hd hat35).2.2
      have f87 := (Fld.other W84 f64 (Or.inr (Bb hw)))
      exact J124 T81 h83 ((p1 + 1) + 1) D S82 ((((Keep.refl _ _).trans K26 (allS (Ad 0) all0)).wr W33 (Ad 0)).wr W84 (Ad 0)) f87 f85 hat86 hD
    · refine Ac C S31 [(96, .aload_n 0, 1), (97, .bipush 43, 2)] 99 #[Ab J] [.int 43, .ref J] ?_
      have f88 := ((X00.keep K26 (allS ge_J all0)).wr W33 ge_J)
      have f89 := (Exa.wr W33 f29)
      have f90 := (Fld.other W33 JX1 (Or.inr (Bb hw)))
      have f91 := (Exa.wr W33 (xE.keep K26))
      have f92 := (Fld.other W33 (xV.keep K26 (ninS ne_x_J nin0)) (Or.inl ne_x_J))
      have f93 := (Fld.other W33 (xC.keep K26 (ninS ne_x_J nin0)) (Or.inl ne_x_J))
      have f94 := ((tK.keep K26 (ninS ne_t_J nin0)).other W33 ne_t_J)
      have f95 : n0 ≤ h32.size := (by rw [W33.size]; exact (Nat.le_trans z0 K26.1))
      refine Cz C S31 hw 156 157 76 158 159 66 (Bf l Z a0 hw G1 G3 J _ _ _ _ _ _ cs (p1 + 1) 43 45 (D ++ (tm :: rm)) h32 n0 f95 f88 f89 f90 f34 f91 f92 f93 f94 HS hrep hat35) 0 f89 [.int 43] [] Av ?_
      rintro T99 h100 v101 L102 S103 ⟨⟨y96, rfl, e97, p98⟩, -⟩
      rw [e97] at S103; clear e97
      have hr104 : y96 = (0 : Int32) := Bl.zero p98 (by decide)
      subst hr104
      refine Ac C S103 [(102, .ifCond .ne 12, 3), (105, .aload_n 0, 1), (106, .bipush 45, 2)] 108 #[Ab J] [.int 45, .ref J] ?_
      refine Cz C S103 hw 156 157 76 158 159 66 (Bf l Z a0 hw G1 G3 J _ _ _ _ _ _ cs (p1 + 1) 45 45 (D ++ (tm :: rm)) h32 n0 f95 f88 f89 f90 f34 f91 f92 f93 f94 HS hrep hat35) 0 f89 [.int 45] [] Av ?_
      rintro T108 h109 v110 L111 S112 ⟨⟨y105, rfl, e106, p107⟩, -⟩
      rw [e106] at S112; clear e106
      have hr113 : y105 = (1 : Int32) := Bl.one p107 rfl
      subst hr113
      refine Ac C S112 [(111, .ifCond .eq 13, 3), (114, .aload_n 0, 1), (115, .dup, 1)] 116 #[Ab J] [.ref J, .ref J] ?_
      refine Ah C S112 hw 91 f34 ?_
      intro T114 S115
      refine Ac C S115 [(119, .iconst 1, 1), (120, .iadd, 1)] 121 #[Ab J] [.int ((Int32.ofNat (p1 + 1)) + (1 : Int32)), .ref J] ?_
      rw [show ((Int32.ofNat (p1 + 1)) + (1 : Int32)) = (Int32.ofNat ((p1 + 1) + 1)) from Af _]
      refine Bh C S115 hw 91 92 76 f34 f89 Ax ge_J ?_
      intro T116 h118 S117 W119
      have f120 : Fld Z h118 J "com/example/limit1/limit1/JsonText" "position" "I" (.int (Int32.ofNat ((p1 + 1) + 1))) := Fld.same W119 f34
      have hat121 := (Ae.hd hat35).2.2
      have f122 := (Fld.other W119 f90 (Or.inr (Bb hw)))
      exact J124 T116 h118 ((p1 + 1) + 1) D S117 ((((Keep.refl _ _).trans K26 (allS (Ad 0) all0)).wr W33 (Ad 0)).wr W119 (Ad 0)) f122 f120 hat121 hD
  have J68 : ∀ (T124 : State) (h123 : Heap) (p1 : Nat) (S : List Int32), Az p l e ({ frames := 7, cells := 0, slots := 0, locals := 90 } : Room) s m #[(.ref J)] below meth c n0 T124 h123 0 0 → Keep h0 h123 [J] → Fld Z h123 J "com/example/limit1/limit1/JsonText" "text" "Ljava/lang/String;" (.ref x) → Fld Z h123 J "com/example/limit1/limit1/JsonText" "position" "I" (.int (Int32.ofNat p1)) → (Ae cs p1 S) → (own_Ex S (tm :: rm)) → Aj p e below (Cq s n0 (fun v h => ∃ q : Nat, v = none ∧ Keep h0 h [J] ∧ Exa Z h J "com/example/limit1/limit1/JsonText" ∧ Fld Z h J "com/example/limit1/limit1/JsonText" "position" "I" (.int (Int32.ofNat q)) ∧ Fld Z h J "com/example/limit1/limit1/JsonText" "text" "Ljava/lang/String;" (.ref x) ∧ (Ae cs q (tm :: rm))) ({ frames := 7, cells := 0, slots := 0, locals := 90 } : Room).cells ({ frames := 7, cells := 0, slots := 0, locals := 90 } : Room).slots) T124 (mkF m 68 #[Ab J] []) := by
    intro T124 h123 p1 S S125 K126 JX1 JP1 hat1 hE
    rcases hE with rfl | ⟨k, sg, D, rfl, he, hsg, hD⟩
    · refine Ac C S125 [(68, .aload_n 0, 1), (69, .bipush 101, 2)] 71 #[Ab J] [.int 101, .ref J] ?_
      have f127 := (X00.keep K126 (allS ge_J all0))
      have f128 := (JE.keep K126)
      have f129 := (xE.keep K126)
      have f130 := (xV.keep K126 (ninS ne_x_J nin0))
      have f131 := (xC.keep K126 (ninS ne_x_J nin0))
      have f132 := (tK.keep K126 (ninS ne_t_J nin0))
      have f133 : n0 ≤ h123.size := (Nat.le_trans z0 K126.1)
      refine Cz C S125 hw 156 157 76 158 159 66 (Bf l Z a0 hw G1 G3 J _ _ _ _ _ _ cs p1 101 tm rm h123 n0 f133 f127 f128 JX1 JP1 f129 f130 f131 f132 HS hrep hat1) 0 f128 [.int 101] [] Av ?_
      rintro T137 h138 v139 L140 S141 ⟨⟨y134, rfl, e135, p136⟩, -⟩
      rw [e135] at S141; clear e135
      have hr142 : y134 = (0 : Int32) := Bl.zero p136 htm.2.2.1
      subst hr142
      refine Ac C S141 [(74, .ifCond .ne 12, 3), (77, .aload_n 0, 1), (78, .bipush 69, 2)] 80 #[Ab J] [.int 69, .ref J] ?_
      refine Cz C S141 hw 156 157 76 158 159 66 (Bf l Z a0 hw G1 G3 J _ _ _ _ _ _ cs p1 69 tm rm h123 n0 f133 f127 f128 JX1 JP1 f129 f130 f131 f132 HS hrep hat1) 0 f128 [.int 69] [] Av ?_
      rintro T146 h147 v148 L149 S150 ⟨⟨y143, rfl, e144, p145⟩, -⟩
      rw [e144] at S150; clear e144
      have hr151 : y143 = (0 : Int32) := Bl.zero p145 htm.2.2.2
      subst hr151
      refine Ac C S150 [(83, .ifCond .eq 45, 3)] 128 #[Ab J] [] ?_
      refine Be C S150 (by decide +kernel) (by decide) (by decide) ?_
      exact ⟨p1, rfl, ((Keep.refl _ _).trans K126 (allS (Ad 0) all0)), f128, JP1, JX1, hat1⟩
    · rcases he with rfl | rfl
      · refine Ac C S125 [(68, .aload_n 0, 1), (69, .bipush 101, 2)] 71 #[Ab J] [.int 101, .ref J] ?_
        have f152 := (X00.keep K126 (allS ge_J all0))
        have f153 := (JE.keep K126)
        have f154 := (xE.keep K126)
        have f155 := (xV.keep K126 (ninS ne_x_J nin0))
        have f156 := (xC.keep K126 (ninS ne_x_J nin0))
        have f157 := (tK.keep K126 (ninS ne_t_J nin0))
        have f158 : n0 ≤ h123.size := (Nat.le_trans z0 K126.1)
        refine Cz C S125 hw 156 157 76 158 159 66 (Bf l Z a0 hw G1 G3 J _ _ _ _ _ _ cs p1 101 101 (sg ++ (D ++ (tm :: rm))) h123 n0 f158 f152 f153 JX1 JP1 f154 f155 f156 f157 HS hrep hat1) 0 f153 [.int 101] [] Av ?_
        rintro T162 h163 v164 L165 S166 ⟨⟨y159, rfl, e160, p161⟩, -⟩
        rw [e160] at S166; clear e160
        have hr167 : y159 = (1 : Int32) := Bl.one p161 rfl
        subst hr167
        refine Ac C S166 [(74, .ifCond .ne 12, 3)] 86 #[Ab J] [] ?_
        exact J86 T162 h123 p1 _ sg D S166 ((Keep.refl _ _).trans K126 (allS (Ad 0) all0)) JX1 JP1 hat1 hsg hD
      · refine Ac C S125 [(68, .aload_n 0, 1), (69, .bipush 101, 2)] 71 #[Ab J] [.int 101, .ref J] ?_
        have f168 := (X00.keep K126 (allS ge_J all0))
        have f169 := (JE.keep K126)
        have f170 := (xE.keep K126)
        have f171 := (xV.keep K126 (ninS ne_x_J nin0))
        have f172 := (xC.keep K126 (ninS ne_x_J nin0))
        have f173 := (tK.keep K126 (ninS ne_t_J nin0))
        have f174 : n0 ≤ h123.size := (Nat.le_trans z0 K126.1)
        refine Cz C S125 hw 156 157 76 158 159 66 (Bf l Z a0 hw G1 G3 J _ _ _ _ _ _ cs p1 101 69 (sg ++ (D ++ (tm :: rm))) h123 n0 f174 f168 f169 JX1 JP1 f170 f171 f172 f173 HS hrep hat1) 0 f169 [.int 101] [] Av ?_
        rintro T178 h179 v180 L181 S182 ⟨⟨y175, rfl, e176, p177⟩, -⟩
        rw [e176] at S182; clear e176
        have hr183 : y175 = (0 : Int32) := Bl.zero p177 (by decide)
        subst hr183
        refine Ac C S182 [(74, .ifCond .ne 12, 3), (77, .aload_n 0, 1), (78, .bipush 69, 2)] 80 #[Ab J] [.int 69, .ref J] ?_
        refine Cz C S182 hw 156 157 76 158 159 66 (Bf l Z a0 hw G1 G3 J _ _ _ _ _ _ cs p1 69 69 (sg ++ (D ++ (tm :: rm))) h123 n0 f174 f168 f169 JX1 JP1 f170 f171 f172 f173 HS hrep hat1) 0 f169 [.int 69] [] Av ?_
        rintro T187 h188 v189 L190 S191 ⟨⟨y184, rfl, e185, p186⟩, -⟩
        rw [e185] at S191; clear e185
        have hr192 : y184 = (1 : Int32) := Bl.one p186 rfl
        subst hr192
        refine Ac C S191 [(83, .ifCond .eq 45, 3)] 86 #[Ab J] [] ?_
        exact J86 T187 h123 p1 _ sg D S191 ((Keep.refl _ _).trans K126 (allS (Ad 0) all0)) JX1 JP1 hat1 hsg hD
  have J45 : ∀ (T194 : State) (h193 : Heap) (p1 : Nat) (S : List Int32), Az p l e ({ frames := 7, cells := 0, slots := 0, locals := 90 } : Room) s m #[(.ref J)] below meth c n0 T194 h193 0 0 → Keep h0 h193 [J] → Fld Z h193 J "com/example/limit1/limit1/JsonText" "text" "Ljava/lang/String;" (.ref x) → Fld Z h193 J "com/example/limit1/limit1/JsonText" "position" "I" (.int (Int32.ofNat p1)) → (Ae cs p1 S) → (own_Fx S (tm :: rm)) → Aj p e below (Cq s n0 (fun v h => ∃ q : Nat, v = none ∧ Keep h0 h [J] ∧ Exa Z h J "com/example/limit1/limit1/JsonText" ∧ Fld Z h J "com/example/limit1/limit1/JsonText" "position" "I" (.int (Int32.ofNat q)) ∧ Fld Z h J "com/example/limit1/limit1/JsonText" "text" "Ljava/lang/String;" (.ref x) ∧ (Ae cs q (tm :: rm))) ({ frames := 7, cells := 0, slots := 0, locals := 90 } : Room).cells ({ frames := 7, cells := 0, slots := 0, locals := 90 } : Room).slots) T194 (mkF m 45 #[Ab J] []) := by
    intro T194 h193 p1 S S195 K196 JX1 JP1 hat1 hF
    rcases hF with hE | ⟨D, S1, rfl, hD, hE⟩
    · obtain ⟨k, r, hS, hk1, hk2⟩ := hE.hd htm
      have hat2 : Ae cs p1 (k :: r) := by rw [← hS]; exact hat1
      refine Ac C S195 [(45, .aload_n 0, 1), (46, .bipush 46, 2)] 48 #[Ab J] [.int 46, .ref J] ?_
      have f197 := (X00.keep K196 (allS ge_J all0))
      have f198 := (JE.keep K196)
      have f199 := (xE.keep K196)
      have f200 := (xV.keep K196 (ninS ne_x_J nin0))
      have f201 := (xC.keep K196 (ninS ne_x_J nin0))
      have f202 := (tK.keep K196 (ninS ne_t_J nin0))
      have f203 : n0 ≤ h193.size := (Nat.le_trans z0 K196.1)
      refine Cz C S195 hw 156 157 76 158 159 66 (Bf l Z a0 hw G1 G3 J _ _ _ _ _ _ cs p1 46 k r h193 n0 f203 f197 f198 JX1 JP1 f199 f200 f201 f202 HS hrep hat2) 0 f198 [.int 46] [] Av ?_
      rintro T207 h208 v209 L210 S211 ⟨⟨y204, rfl, e205, p206⟩, -⟩
      rw [e205] at S211; clear e205
      have hr212 : y204 = (0 : Int32) := Bl.zero p206 hk2
      subst hr212
      refine Ac C S211 [(51, .ifCond .eq 17, 3)] 68 #[Ab J] [] ?_
      exact J68 T207 h193 p1 S S211 ((Keep.refl _ _).trans K196 (allS (Ad 0) all0)) JX1 JP1 hat1 hE
    · refine Ac C S195 [(45, .aload_n 0, 1), (46, .bipush 46, 2)] 48 #[Ab J] [.int 46, .ref J] ?_
      have f213 := (X00.keep K196 (allS ge_J all0))
      have f214 := (JE.keep K196)
      have f215 := (xE.keep K196)
      have f216 := (xV.keep K196 (ninS ne_x_J nin0))
      have f217 := (xC.keep K196 (ninS ne_x_J nin0))
      have f218 := (tK.keep K196 (ninS ne_t_J nin0))
      have f219 : n0 ≤ h193.size := (Nat.le_trans z0 K196.1)
      refine Cz C S195 hw 156 157 76 158 159 66 (Bf l Z a0 hw G1 G3 J _ _ _ _ _ _ cs p1 46 46 (D ++ S1) h193 n0 f219 f213 f214 JX1 JP1 f215 f216 f217 f218 HS hrep hat1) 0 f214 [.int 46] [] Av ?_
      rintro T223 h224 v225 L226 S227 ⟨⟨y220, rfl, e221, p222⟩, -⟩
      rw [e221] at S227; clear e221
      have hr228 : y220 = (1 : Int32) := Bl.one p222 rfl
      subst hr228
      refine Ac C S227 [(51, .ifCond .eq 17, 3), (54, .aload_n 0, 1), (55, .dup, 1)] 56 #[Ab J] [.ref J, .ref J] ?_
      refine Ah C S227 hw 91 JP1 ?_
      intro T229 S230
      refine Ac C S230 [(59, .iconst 1, 1), (60, .iadd, 1)] 61 #[Ab J] [.int ((Int32.ofNat p1) + (1 : Int32)), .ref J] ?_
      rw [show ((Int32.ofNat p1) + (1 : Int32)) = (Int32.ofNat (p1 + 1)) from Af _]
      refine Bh C S230 hw 91 92 76 JP1 f214 Ax ge_J ?_
      intro T231 h233 S232 W234
      have f235 : Fld Z h233 J "com/example/limit1/limit1/JsonText" "position" "I" (.int (Int32.ofNat (p1 + 1))) := Fld.same W234 JP1
      have hat236 := (Ae.hd hat1).2.2
      have hEh : ∃ k r, S1 = k :: r ∧ ¬ Bu k := by obtain ⟨k, r, h1, h2, -⟩ := hE.hd htm; exact ⟨k, r, h1, h2⟩
      obtain ⟨k237, r238, hS239, hk240⟩ := hEh
      have hat241 : Ae cs (p1 + 1) (D ++ k237 :: r238) := by rw [← hS239]; exact hat236
      refine Ac C S232 [(64, .aload_n 0, 1)] 65 #[Ab J] [.ref J] ?_
      have f242 := (f213.wr W234 ge_J)
      have f243 := (Exa.wr W234 f214)
      have f244 := (Fld.other W234 JX1 (Or.inr (Bb hw)))
      have f245 := (Exa.wr W234 f215)
      have f246 := (Fld.other W234 f216 (Or.inl ne_x_J))
      have f247 := (Fld.other W234 f217 (Or.inl ne_x_J))
      have f248 := (f218.other W234 ne_t_J)
      have f249 : n0 ≤ h233.size := (by rw [W234.size]; exact f219)
      refine Cz C S232 hw 182 183 76 184 185 66 (own_cdg l Z a0 hw G1 G3 J _ _ _ _ _ _ cs (p1 + 1) D k237 r238 h233 n0 f249 ge_J f242 f243 f244 f235 f245 f246 f247 f248 ne_x_J ne_t_J HS hrep hat241 hD hk240) 0 f243 [] [] At ?_
      rintro T256 h257 v258 L259 S260 ⟨⟨y250, rfl, K251, f252, f253, f254, p255⟩, -⟩
      have hat3 : Ae cs y250 S1 := by rw [hS239]; exact p255
      exact J68 T256 h257 y250 S1 S260 ((((Keep.refl _ _).trans K196 (allS (Ad 0) all0)).wr W234 (Ad 0)).trans K251 (allS (Ad 0) all0)) f254 f253 hat3 hE
  have J19 : ∀ (T262 : State) (h261 : Heap) (p1 : Nat) (S : List Int32), Az p l e ({ frames := 7, cells := 0, slots := 0, locals := 90 } : Room) s m #[(.ref J)] below meth c n0 T262 h261 0 0 → Keep h0 h261 [J] → Fld Z h261 J "com/example/limit1/limit1/JsonText" "text" "Ljava/lang/String;" (.ref x) → Fld Z h261 J "com/example/limit1/limit1/JsonText" "position" "I" (.int (Int32.ofNat p1)) → (Ae cs p1 S) → (own_Ix S (tm :: rm)) → Aj p e below (Cq s n0 (fun v h => ∃ q : Nat, v = none ∧ Keep h0 h [J] ∧ Exa Z h J "com/example/limit1/limit1/JsonText" ∧ Fld Z h J "com/example/limit1/limit1/JsonText" "position" "I" (.int (Int32.ofNat q)) ∧ Fld Z h J "com/example/limit1/limit1/JsonText" "text" "Ljava/lang/String;" (.ref x) ∧ (Ae cs q (tm :: rm))) ({ frames := 7, cells := 0, slots := 0, locals := 90 } : Room).cells ({ frames := 7, cells := 0, slots := 0, locals := 90 } : Room).slots) T262 (mkF m 19 #[Ab J] []) := by
    intro T262 h261 p1 S S263 K264 JX1 JP1 hat1 hI
    rcases hI with ⟨S1, rfl, hF⟩ | ⟨d0, D, S1, rfl, hD, h48, hF⟩
    · refine Ac C S263 [(19, .aload_n 0, 1), (20, .bipush 48, 2)] 22 #[Ab J] [.int 48, .ref J] ?_
      have f265 := (X00.keep K264 (allS ge_J all0))
      have f266 := (JE.keep K264)
      have f267 := (xE.keep K264)
      have f268 := (xV.keep K264 (ninS ne_x_J nin0))
      have f269 := (xC.keep K264 (ninS ne_x_J nin0))
      have f270 := (tK.keep K264 (ninS ne_t_J nin0))
      have f271 : n0 ≤ h261.size := (Nat.le_trans z0 K264.1)
      refine Cz C S263 hw 156 157 76 158 159 66 (Bf l Z a0 hw G1 G3 J _ _ _ _ _ _ cs p1 48 48 S1 h261 n0 f271 f265 f266 JX1 JP1 f267 f268 f269 f270 HS hrep hat1) 0 f266 [.int 48] [] Av ?_
      rintro T275 h276 v277 L278 S279 ⟨⟨y272, rfl, e273, p274⟩, -⟩
      rw [e273] at S279; clear e273
      have hr280 : y272 = (1 : Int32) := Bl.one p274 rfl
      subst hr280
      refine Ac C S279 [(25, .ifCond .eq 16, 3), (28, .aload_n 0, 1), (29, .dup, 1)] 30 #[Ab J] [.ref J, .ref J] ?_
      refine Ah C S279 hw 91 JP1 ?_
      intro T281 S282
      refine Ac C S282 [(33, .iconst 1, 1), (34, .iadd, 1)] 35 #[Ab J] [.int ((Int32.ofNat p1) + (1 : Int32)), .ref J] ?_
      rw [show ((Int32.ofNat p1) + (1 : Int32)) = (Int32.ofNat (p1 + 1)) from Af _]
      refine Bh C S282 hw 91 92 76 JP1 f266 Ax ge_J ?_
      intro T283 h285 S284 W286
      have f287 : Fld Z h285 J "com/example/limit1/limit1/JsonText" "position" "I" (.int (Int32.ofNat (p1 + 1))) := Fld.same W286 JP1
      have hat288 := (Ae.hd hat1).2.2
      have f289 := (Fld.other W286 JX1 (Or.inr (Bb hw)))
      refine Ac C S284 [(38, .goto 7, 3)] 45 #[Ab J] [] ?_
      exact J45 T283 h285 (p1 + 1) S1 S284 (((Keep.refl _ _).trans K264 (allS (Ad 0) all0)).wr W286 (Ad 0)) f289 f287 hat288 hF
    · refine Ac C S263 [(19, .aload_n 0, 1), (20, .bipush 48, 2)] 22 #[Ab J] [.int 48, .ref J] ?_
      have f290 := (X00.keep K264 (allS ge_J all0))
      have f291 := (JE.keep K264)
      have f292 := (xE.keep K264)
      have f293 := (xV.keep K264 (ninS ne_x_J nin0))
      have f294 := (xC.keep K264 (ninS ne_x_J nin0))
      have f295 := (tK.keep K264 (ninS ne_t_J nin0))
      have f296 : n0 ≤ h261.size := (Nat.le_trans z0 K264.1)
      refine Cz C S263 hw 156 157 76 158 159 66 (Bf l Z a0 hw G1 G3 J _ _ _ _ _ _ cs p1 48 d0 (D ++ S1) h261 n0 f296 f290 f291 JX1 JP1 f292 f293 f294 f295 HS hrep hat1) 0 f291 [.int 48] [] Av ?_
      rintro T300 h301 v302 L303 S304 ⟨⟨y297, rfl, e298, p299⟩, -⟩
      rw [e298] at S304; clear e298
      have hr305 : y297 = (0 : Int32) := Bl.zero p299 h48
      subst hr305
      refine Ac C S304 [(25, .ifCond .eq 16, 3)] 41 #[Ab J] [] ?_
      obtain ⟨k306, r307, hS308, hk309⟩ := hF.hd htm
      have hat310 : Ae cs p1 ((d0 :: D) ++ k306 :: r307) := by rw [← hS308]; exact hat1
      refine Ac C S304 [(41, .aload_n 0, 1)] 42 #[Ab J] [.ref J] ?_
      refine Cz C S304 hw 182 183 76 184 185 66 (own_cdg l Z a0 hw G1 G3 J _ _ _ _ _ _ cs p1 (d0 :: D) k306 r307 h261 n0 f296 ge_J f290 f291 JX1 JP1 f292 f293 f294 f295 ne_x_J ne_t_J HS hrep hat310 hD hk309) 0 f291 [] [] At ?_
      rintro T317 h318 v319 L320 S321 ⟨⟨y311, rfl, K312, f313, f314, f315, p316⟩, -⟩
      have hat3 : Ae cs y311 S1 := by rw [hS308]; exact p316
      exact J45 T317 h318 y311 S1 S321 (((Keep.refl _ _).trans K264 (allS (Ad 0) all0)).trans K312 (allS (Ad 0) all0)) f315 f314 hat3 hF
  rcases hN with hI | ⟨S1, rfl, hI⟩
  · obtain ⟨k, r, hS, hk⟩ := hI.hd
    have hat2 : Ae cs pp (k :: r) := by rw [← hS]; exact hat
    refine Ac C S0 [(0, .aload_n 0, 1), (1, .bipush 45, 2)] 3 #[Ab J] [.int 45, .ref J] ?_
    refine Cz C S0 hw 156 157 76 158 159 66 (Bf l Z a0 hw G1 G3 J _ _ _ _ _ _ cs pp 45 k r h0 n0 z0 X00 JE JX JP xE xV xC tK HS hrep hat2) 0 JE [.int 45] [] Av ?_
    rintro T325 h326 v327 L328 S329 ⟨⟨y322, rfl, e323, p324⟩, -⟩
    rw [e323] at S329; clear e323
    have hr330 : y322 = (0 : Int32) := Bl.zero p324 hk
    subst hr330
    refine Ac C S329 [(6, .ifCond .eq 13, 3)] 19 #[Ab J] [] ?_
    exact J19 T325 h0 pp S S329 (Keep.refl _ _) JX JP hat hI
  · refine Ac C S0 [(0, .aload_n 0, 1), (1, .bipush 45, 2)] 3 #[Ab J] [.int 45, .ref J] ?_
    refine Cz C S0 hw 156 157 76 158 159 66 (Bf l Z a0 hw G1 G3 J _ _ _ _ _ _ cs pp 45 45 S1 h0 n0 z0 X00 JE JX JP xE xV xC tK HS hrep hat) 0 JE [.int 45] [] Av ?_
    rintro T334 h335 v336 L337 S338 ⟨⟨y331, rfl, e332, p333⟩, -⟩
    rw [e332] at S338; clear e332
    have hr339 : y331 = (1 : Int32) := Bl.one p333 rfl
    subst hr339
    refine Ac C S338 [(6, .ifCond .eq 13, 3), (9, .aload_n 0, 1), (10, .dup, 1)] 11 #[Ab J] [.ref J, .ref J] ?_
    refine Ah C S338 hw 91 JP ?_
    intro T340 S341
    refine Ac C S341 [(14, .iconst 1, 1), (15, .iadd, 1)] 16 #[Ab J] [.int ((Int32.ofNat pp) + (1 : Int32)), .ref J] ?_
    rw [show ((Int32.ofNat pp) + (1 : Int32)) = (Int32.ofNat (pp + 1)) from Af _]
    refine Bh C S341 hw 91 92 76 JP JE Ax ge_J ?_
    intro T342 h344 S343 W345
    have f346 : Fld Z h344 J "com/example/limit1/limit1/JsonText" "position" "I" (.int (Int32.ofNat (pp + 1))) := Fld.same W345 JP
    have hat347 := (Ae.hd hat).2.2
    have f348 := (Fld.other W345 JX (Or.inr (Bb hw)))
    exact J19 T342 h344 (pp + 1) S1 S343 ((Keep.refl _ _).wr W345 (Ad 0)) f348 f346 hat347 hI
theorem own_clit (hw : Ar a0 Z) (G1 : Int32) (G3 : Value) (J : Addr) (x : Addr) (t : Addr) (tk : ClassId) (kd : Int32) (N : Int32) (vs : List Value) (cs : List Int32) (pp : Nat) (y : Addr) (yt : Addr) (ytk : ClassId) (ykd : Int32) (yN : Int32) (yvs : List Value) (ws : List Int32) (R : List Int32) (h0 : Heap) (n0 : Nat) (z0 : n0 ≤ h0.size) (ge_J : n0 ≤ J) (X00 : Old Z n0 h0) (JE : Exa Z h0 J "com/example/limit1/limit1/JsonText") (JX : Fld Z h0 J "com/example/limit1/limit1/JsonText" "text" "Ljava/lang/String;" (.ref x)) (JP : Fld Z h0 J "com/example/limit1/limit1/JsonText" "position" "I" (.int (Int32.ofNat pp))) (xE : Exa Z h0 x "java/lang/String") (xV : Fld Z h0 x "java/lang/String" "value" "[B" (.ref t)) (xC : Fld Z h0 x "java/lang/String" "coder" "B" (.int kd)) (tK : Arv Z h0 t tk .byte N vs (.int 0)) (yE : Exa Z h0 y "java/lang/String") (yV : Fld Z h0 y "java/lang/String" "value" "[B" (.ref yt)) (yC : Fld Z h0 y "java/lang/String" "coder" "B" (.int ykd)) (ytK : Arv Z h0 yt ytk .byte yN yvs (.int 0)) (ne_x_J : x ≠ J) (ne_t_J : t ≠ J) (ne_y_J : y ≠ J) (ne_yt_J : yt ≠ J) (HS : Bg Z G1 G3) (hrep : Bx cs kd N vs) (hat : Ae cs pp (ws ++ R)) (hrepw : Bx ws ykd yN yvs) :
    Ag l Z (⟨"com/example/limit1/limit1/JsonText", "checkLiteral", "(Ljava/lang/String;)V"⟩ : MethodName) prog_7_method_8_code 3 none ({ frames := 6, cells := 0, slots := 0, locals := 79 } : Room) n0 #[(.ref J), (.ref y)] h0 (fun v h => ∃ q : Nat, v = none ∧ Keep h0 h [J] ∧ Exa Z h J "com/example/limit1/limit1/JsonText" ∧ Fld Z h J "com/example/limit1/limit1/JsonText" "position" "I" (.int (Int32.ofNat q)) ∧ Fld Z h J "com/example/limit1/limit1/JsonText" "text" "Ljava/lang/String;" (.ref x) ∧ (Ae cs q R)) := by
  refine Au #[.val (.ref J), .val (.ref y), .unset] ?_
  intro p e s m below meth c T0 C S0
  have loop : ∀ (dl : List Int32) (T2 : State) (h1 : Heap) (p1 : Nat) (i : Nat), Az p l e ({ frames := 6, cells := 0, slots := 0, locals := 79 } : Room) s m #[(.ref J), (.ref y)] below meth c n0 T2 h1 0 0 → Keep h0 h1 [J] → Fld Z h1 J "com/example/limit1/limit1/JsonText" "text" "Ljava/lang/String;" (.ref x) → Fld Z h1 J "com/example/limit1/limit1/JsonText" "position" "I" (.int (Int32.ofNat p1)) → (Ae cs p1 (dl ++ R)) → (Ae ws i dl) → Aj p e below (Cq s n0 (fun v h => ∃ q : Nat, v = none ∧ Keep h0 h [J] ∧ Exa Z h J "com/example/limit1/limit1/JsonText" ∧ Fld Z h J "com/example/limit1/limit1/JsonText" "position" "I" (.int (Int32.ofNat q)) ∧ Fld Z h J "com/example/limit1/limit1/JsonText" "text" "Ljava/lang/String;" (.ref x) ∧ (Ae cs q R)) ({ frames := 6, cells := 0, slots := 0, locals := 79 } : Room).cells ({ frames := 6, cells := 0, slots := 0, locals := 79 } : Room).slots) T2 (mkF m 2 #[Ab J, Ab y, Aa (Int32.ofNat i)] []) := by
    intro dl
    induction dl with
    | nil =>
      intro T2 h1 p1 i S3 K4 JX1 JP1 hat1 hdr
      have hi := Ae.nl hdr
      have hw88 := hrepw.2.1
      refine Ac C S3 [(2, .iload_n 2, 1), (3, .aload_n 1, 1)] 4 #[Ab J, Ab y, Aa (Int32.ofNat i)] [.ref y, .int (Int32.ofNat i)] ?_
      have f5 := (X00.keep K4 (allS ge_J all0))
      have f6 := (yE.keep K4)
      have f7 := (yV.keep K4 (ninS ne_y_J nin0))
      have f8 := (yC.keep K4 (ninS ne_y_J nin0))
      have f9 := (ytK.keep K4 (ninS ne_yt_J nin0))
      have f10 : n0 ≤ h1.size := (Nat.le_trans z0 K4.1)
      refine Bt C S3 hw 93 94 96 96 95 97 37 (Cx l Z a0 hw G1 G3 y _ _ _ _ _ ws h1 n0 f10 f5 f6 f7 f8 f9 HS hrepw) 1 f6 [] [.int (Int32.ofNat i)] Cy ?_
      rintro T12 h13 v14 L15 S16 ⟨⟨rfl, e11⟩, -⟩
      rw [e11] at S16; clear e11
      refine Ao C S16 .ge 42 49 (fun (q17 : ¬ (Int32.ofNat i) < (Int32.ofNat ws.length)) => ?_) (fun (hq : (Int32.ofNat i) < (Int32.ofNat ws.length)) => False.elim (Ed (by omega) (by omega) (by omega) hq))
      refine Be C S16 (by decide +kernel) (by decide) (by decide) ?_
      have f18 := (JE.keep K4)
      exact ⟨p1, rfl, ((Keep.refl _ _).trans K4 (allS (Ad 0) all0)), f18, JP1, JX1, hat1⟩
    | cons k dl ih =>
      intro T2 h1 p1 i S3 K4 JX1 JP1 hat1 hdr
      have hgw := Ae.hd hdr
      have hw88 := hrepw.2.1
      refine Ac C S3 [(2, .iload_n 2, 1), (3, .aload_n 1, 1)] 4 #[Ab J, Ab y, Aa (Int32.ofNat i)] [.ref y, .int (Int32.ofNat i)] ?_
      have f19 := (X00.keep K4 (allS ge_J all0))
      have f20 := (yE.keep K4)
      have f21 := (yV.keep K4 (ninS ne_y_J nin0))
      have f22 := (yC.keep K4 (ninS ne_y_J nin0))
      have f23 := (ytK.keep K4 (ninS ne_yt_J nin0))
      have f24 : n0 ≤ h1.size := (Nat.le_trans z0 K4.1)
      refine Bt C S3 hw 93 94 96 96 95 97 37 (Cx l Z a0 hw G1 G3 y _ _ _ _ _ ws h1 n0 f24 f19 f20 f21 f22 f23 HS hrepw) 1 f20 [] [.int (Int32.ofNat i)] Cy ?_
      rintro T26 h27 v28 L29 S30 ⟨⟨rfl, e25⟩, -⟩
      rw [e25] at S30; clear e25
      refine Ao C S30 .ge 42 49 (fun (hq : ¬ (Int32.ofNat i) < (Int32.ofNat ws.length)) => False.elim (hq (Cb hgw.1 (by omega)))) (fun (q31 : (Int32.ofNat i) < (Int32.ofNat ws.length)) => ?_)
      refine Ac C S30 [(10, .aload_n 0, 1), (11, .aload_n 1, 1), (12, .iload_n 2, 1)] 13 #[Ab J, Ab y, Aa (Int32.ofNat i)] [.int (Int32.ofNat i), .ref y, .ref J] ?_
      refine Bt C S30 hw 103 104 106 106 105 107 37 (Dv l Z a0 hw G1 G3 y _ _ _ _ _ ws i h1 n0 f24 f19 f20 f21 f22 f23 HS hrepw hgw.1) 1 f20 [.int (Int32.ofNat i)] [.ref J] Ct ?_
      rintro T33 h34 v35 L36 S37 ⟨⟨rfl, e32⟩, -⟩
      rw [e32] at S37; clear e32
      rw [show (ws.getD i 0) = k from hgw.2.1]
      have f38 := (JE.keep K4)
      have f39 := (xE.keep K4)
      have f40 := (xV.keep K4 (ninS ne_x_J nin0))
      have f41 := (xC.keep K4 (ninS ne_x_J nin0))
      have f42 := (tK.keep K4 (ninS ne_t_J nin0))
      refine Cz C S37 hw 156 157 76 158 159 66 (Bf l Z a0 hw G1 G3 J _ _ _ _ _ _ cs p1 k k (dl ++ R) h1 n0 f24 f19 f38 JX1 JP1 f39 f40 f41 f42 HS hrep hat1) 0 f38 [.int k] [] Av ?_
      rintro T46 h47 v48 L49 S50 ⟨⟨y43, rfl, e44, p45⟩, -⟩
      rw [e44] at S50; clear e44
      have hr51 : y43 = (1 : Int32) := Bl.one p45 rfl
      subst hr51
      refine Ac C S50 [(19, .ifCond .ne 14, 3), (33, .aload_n 0, 1), (34, .dup, 1)] 35 #[Ab J, Ab y, Aa (Int32.ofNat i)] [.ref J, .ref J] ?_
      refine Ah C S50 hw 91 JP1 ?_
      intro T52 S53
      refine Ac C S53 [(38, .iconst 1, 1), (39, .iadd, 1)] 40 #[Ab J, Ab y, Aa (Int32.ofNat i)] [.int ((Int32.ofNat p1) + (1 : Int32)), .ref J] ?_
      rw [show ((Int32.ofNat p1) + (1 : Int32)) = (Int32.ofNat (p1 + 1)) from Af _]
      refine Bh C S53 hw 91 92 76 JP1 f38 Ax ge_J ?_
      intro T54 h56 S55 W57
      have f58 : Fld Z h56 J "com/example/limit1/limit1/JsonText" "position" "I" (.int (Int32.ofNat (p1 + 1))) := Fld.same W57 JP1
      have hat59 := (Ae.hd hat1).2.2
      refine Ac C S55 [(43, .iinc 2 1, 3), (46, .goto (-44), 3)] 2 #[Ab J, Ab y, Aa ((Int32.ofNat i) + (1 : Int32))] [] ?_
      rw [show ((Int32.ofNat i) + (1 : Int32)) = (Int32.ofNat (i + 1)) from Af _]
      have f60 := (Fld.other W57 JX1 (Or.inr (Bb hw)))
      exact ih T54 h56 (p1 + 1) (i + 1) S55 (((Keep.refl _ _).trans K4 (allS (Ad 0) all0)).wr W57 (Ad 0)) f60 f58 hat59 hgw.2.2
  refine Ac C S0 [(0, .iconst 0, 1), (1, .istore_n 2, 1)] 2 #[Ab J, Ab y, Aa (Int32.ofNat 0)] [] ?_
  exact loop ws T0 h0 pp 0 S0 (Keep.refl _ _) JX JP hat (⟨rfl, Nat.zero_le _⟩)
theorem own_ihs (hw : Ar a0 Z) (k : Int32) (h0 : Heap) (n0 : Nat) (z0 : n0 ≤ h0.size) :
    Ag l Z (⟨"java/lang/Character", "isHighSurrogate", "(C)Z"⟩ : MethodName) jdk_89_method_14_code 1 (some .boolean) ({ frames := 0, cells := 0, slots := 0, locals := 0 } : Room) n0 #[(.int k)] h0 (fun v h => ∃ r : Int32, v = some (.int r) ∧ h = h0 ∧ (Dr r (Db k))) := by
  refine Au #[.val (.int k)] ?_
  intro p e s m below meth c T0 C S0
  refine Ac C S0 [(0, .iload_n 0, 1)] 1 #[Aa k] [.int k] ?_
  refine Dg C S0 (ow hw 243 rfl) (by decide +kernel) ?_
  refine Ao C S0 .lt 13 16 (fun (q1 : k < 55296) => ?_) (fun (q2 : ¬ k < 55296) => ?_)
  · refine Ac C S0 [(16, .iconst 0, 1)] 17 #[Aa k] [.int 0] ?_
    refine Bs C S0 (by decide +kernel) (by decide) (by decide) (by decide) ?_
    exact ⟨(0 : Int32), rfl, rfl, Or.inr ⟨rfl, fun q => q.1 q1⟩⟩
  · refine Ac C S0 [(6, .iload_n 0, 1)] 7 #[Aa k] [.int k] ?_
    refine Dg C S0 (ow hw 302 rfl) (by decide +kernel) ?_
    refine Ao C S0 .ge 7 16 (fun (q3 : ¬ k < 56320) => ?_) (fun (q4 : k < 56320) => ?_)
    · refine Ac C S0 [(16, .iconst 0, 1)] 17 #[Aa k] [.int 0] ?_
      refine Bs C S0 (by decide +kernel) (by decide) (by decide) (by decide) ?_
      exact ⟨(0 : Int32), rfl, rfl, Or.inr ⟨rfl, fun q => q3 q.2⟩⟩
    · refine Ac C S0 [(12, .iconst 1, 1), (13, .goto 4, 3)] 17 #[Aa k] [.int 1] ?_
      refine Bs C S0 (by decide +kernel) (by decide) (by decide) (by decide) ?_
      exact ⟨(1 : Int32), rfl, rfl, Or.inl ⟨rfl, q2, q4⟩⟩
theorem own_ils (hw : Ar a0 Z) (k : Int32) (h0 : Heap) (n0 : Nat) (z0 : n0 ≤ h0.size) :
    Ag l Z (⟨"java/lang/Character", "isLowSurrogate", "(C)Z"⟩ : MethodName) jdk_89_method_15_code 1 (some .boolean) ({ frames := 0, cells := 0, slots := 0, locals := 0 } : Room) n0 #[(.int k)] h0 (fun v h => ∃ r : Int32, v = some (.int r) ∧ h = h0 ∧ (Dr r (Ds k))) := by
  refine Au #[.val (.int k)] ?_
  intro p e s m below meth c T0 C S0
  refine Ac C S0 [(0, .iload_n 0, 1)] 1 #[Aa k] [.int k] ?_
  refine Dg C S0 (ow hw 302 rfl) (by decide +kernel) ?_
  refine Ao C S0 .lt 13 16 (fun (q1 : k < 56320) => ?_) (fun (q2 : ¬ k < 56320) => ?_)
  · refine Ac C S0 [(16, .iconst 0, 1)] 17 #[Aa k] [.int 0] ?_
    refine Bs C S0 (by decide +kernel) (by decide) (by decide) (by decide) ?_
    exact ⟨(0 : Int32), rfl, rfl, Or.inr ⟨rfl, fun q => q.1 q1⟩⟩
  · refine Ac C S0 [(6, .iload_n 0, 1)] 7 #[Aa k] [.int k] ?_
    refine Dg C S0 (ow hw 306 rfl) (by decide +kernel) ?_
    refine Ao C S0 .ge 7 16 (fun (q3 : ¬ k < 57344) => ?_) (fun (q4 : k < 57344) => ?_)
    · refine Ac C S0 [(16, .iconst 0, 1)] 17 #[Aa k] [.int 0] ?_
      refine Bs C S0 (by decide +kernel) (by decide) (by decide) (by decide) ?_
      exact ⟨(0 : Int32), rfl, rfl, Or.inr ⟨rfl, fun q => q3 q.2⟩⟩
    · refine Ac C S0 [(12, .iconst 1, 1), (13, .goto 4, 3)] 17 #[Aa k] [.int 1] ?_
      refine Bs C S0 (by decide +kernel) (by decide) (by decide) (by decide) ?_
      exact ⟨(1 : Int32), rfl, rfl, Or.inl ⟨rfl, q2, q4⟩⟩
theorem own_isu (hw : Ar a0 Z) (k : Int32) (h0 : Heap) (n0 : Nat) (z0 : n0 ≤ h0.size) :
    Ag l Z (⟨"java/lang/Character", "isSurrogate", "(C)Z"⟩ : MethodName) jdk_89_method_16_code 1 (some .boolean) ({ frames := 0, cells := 0, slots := 0, locals := 0 } : Room) n0 #[(.int k)] h0 (fun v h => ∃ r : Int32, v = some (.int r) ∧ h = h0 ∧ (Dr r (own_su k))) := by
  refine Au #[.val (.int k)] ?_
  intro p e s m below meth c T0 C S0
  refine Ac C S0 [(0, .iload_n 0, 1)] 1 #[Aa k] [.int k] ?_
  refine Dg C S0 (ow hw 243 rfl) (by decide +kernel) ?_
  refine Ao C S0 .lt 13 16 (fun (q1 : k < 55296) => ?_) (fun (q2 : ¬ k < 55296) => ?_)
  · refine Ac C S0 [(16, .iconst 0, 1)] 17 #[Aa k] [.int 0] ?_
    refine Bs C S0 (by decide +kernel) (by decide) (by decide) (by decide) ?_
    exact ⟨(0 : Int32), rfl, rfl, Or.inr ⟨rfl, fun q => q.1 q1⟩⟩
  · refine Ac C S0 [(6, .iload_n 0, 1)] 7 #[Aa k] [.int k] ?_
    refine Dg C S0 (ow hw 306 rfl) (by decide +kernel) ?_
    refine Ao C S0 .ge 7 16 (fun (q3 : ¬ k < 57344) => ?_) (fun (q4 : k < 57344) => ?_)
    · refine Ac C S0 [(16, .iconst 0, 1)] 17 #[Aa k] [.int 0] ?_
      refine Bs C S0 (by decide +kernel) (by decide) (by decide) (by decide) ?_
      exact ⟨(0 : Int32), rfl, rfl, Or.inr ⟨rfl, fun q => q3 q.2⟩⟩
    · refine Ac C S0 [(12, .iconst 1, 1), (13, .goto 4, 3)] 17 #[Aa k] [.int 1] ?_
      refine Bs C S0 (by decide +kernel) (by decide) (by decide) (by decide) ?_
      exact ⟨(1 : Int32), rfl, rfl, Or.inl ⟨rfl, q2, q4⟩⟩
theorem own_hdv (hw : Ar a0 Z) (k : Int32) (n : Int32) (h0 : Heap) (n0 : Nat) (z0 : n0 ≤ h0.size) (hnb : Dq k n) :
    Ag l Z (⟨"com/example/limit1/limit1/JsonText", "hexDigitValue", "(C)I"⟩ : MethodName) prog_7_method_14_code 1 (some .int) ({ frames := 0, cells := 0, slots := 0, locals := 0 } : Room) n0 #[(.int k)] h0 (fun v h => v = some (.int n) ∧ h = h0) := by
  refine Au #[.val (.int k)] ?_
  intro p e s m below meth c T0 C S0
  rcases own_nibF hnb with ⟨g1, g2, g3⟩ | ⟨g1, g2, g3, g4, g5⟩ | ⟨g1, g2, g3, g4, g5, g6⟩
  · refine Ac C S0 [(0, .iload_n 0, 1), (1, .bipush 48, 2)] 3 #[Aa k] [.int 48, .int k] ?_
    refine Ao C S0 .lt 14 17 (fun (hq : k < (48 : Int32)) => False.elim (g1 hq)) (fun (q1 : ¬ k < (48 : Int32)) => ?_)
    refine Ac C S0 [(6, .iload_n 0, 1), (7, .bipush 57, 2)] 9 #[Aa k] [.int 57, .int k] ?_
    refine Ao C S0 .gt 8 17 (fun (hq : (57 : Int32) < k) => False.elim (g2 hq)) (fun (q2 : ¬ (57 : Int32) < k) => ?_)
    refine Ac C S0 [(12, .iload_n 0, 1), (13, .bipush 48, 2), (15, .isub, 1)] 16 #[Aa k] [.int (k - (48 : Int32))] ?_
    refine Ba C S0 (by decide +kernel) (by decide) (by decide) ?_
    exact ⟨(by rw [g3]), rfl⟩
  · refine Ac C S0 [(0, .iload_n 0, 1), (1, .bipush 48, 2)] 3 #[Aa k] [.int 48, .int k] ?_
    refine Ao C S0 .lt 14 17 (fun (hq : k < (48 : Int32)) => False.elim (g1 hq)) (fun (q3 : ¬ k < (48 : Int32)) => ?_)
    refine Ac C S0 [(6, .iload_n 0, 1), (7, .bipush 57, 2)] 9 #[Aa k] [.int 57, .int k] ?_
    refine Ao C S0 .gt 8 17 (fun (q4 : (57 : Int32) < k) => ?_) (fun (hq : ¬ (57 : Int32) < k) => False.elim (hq g2))
    refine Ac C S0 [(17, .iload_n 0, 1), (18, .bipush 97, 2)] 20 #[Aa k] [.int 97, .int k] ?_
    refine Ao C S0 .lt 17 37 (fun (hq : k < (97 : Int32)) => False.elim (g3 hq)) (fun (q5 : ¬ k < (97 : Int32)) => ?_)
    refine Ac C S0 [(23, .iload_n 0, 1), (24, .bipush 102, 2)] 26 #[Aa k] [.int 102, .int k] ?_
    refine Ao C S0 .gt 11 37 (fun (hq : (102 : Int32) < k) => False.elim (g4 hq)) (fun (q6 : ¬ (102 : Int32) < k) => ?_)
    refine Ac C S0 [(29, .iload_n 0, 1), (30, .bipush 97, 2), (32, .isub, 1), (33, .bipush 10, 2), (35, .iadd, 1)] 36 #[Aa k] [.int ((k - (97 : Int32)) + (10 : Int32))] ?_
    refine Ba C S0 (by decide +kernel) (by decide) (by decide) ?_
    exact ⟨(by rw [g5]), rfl⟩
  · refine Ac C S0 [(0, .iload_n 0, 1), (1, .bipush 48, 2)] 3 #[Aa k] [.int 48, .int k] ?_
    refine Ao C S0 .lt 14 17 (fun (hq : k < (48 : Int32)) => False.elim (g1 hq)) (fun (q7 : ¬ k < (48 : Int32)) => ?_)
    refine Ac C S0 [(6, .iload_n 0, 1), (7, .bipush 57, 2)] 9 #[Aa k] [.int 57, .int k] ?_
    refine Ao C S0 .gt 8 17 (fun (q8 : (57 : Int32) < k) => ?_) (fun (hq : ¬ (57 : Int32) < k) => False.elim (hq g2))
    refine Ac C S0 [(17, .iload_n 0, 1), (18, .bipush 97, 2)] 20 #[Aa k] [.int 97, .int k] ?_
    refine Ao C S0 .lt 17 37 (fun (q9 : k < (97 : Int32)) => ?_) (fun (hq : ¬ k < (97 : Int32)) => False.elim (hq g3))
    refine Ac C S0 [(37, .iload_n 0, 1), (38, .bipush 65, 2)] 40 #[Aa k] [.int 65, .int k] ?_
    refine Ao C S0 .lt 17 57 (fun (hq : k < (65 : Int32)) => False.elim (g4 hq)) (fun (q10 : ¬ k < (65 : Int32)) => ?_)
    refine Ac C S0 [(43, .iload_n 0, 1), (44, .bipush 70, 2)] 46 #[Aa k] [.int 70, .int k] ?_
    refine Ao C S0 .gt 11 57 (fun (hq : (70 : Int32) < k) => False.elim (g5 hq)) (fun (q11 : ¬ (70 : Int32) < k) => ?_)
    refine Ac C S0 [(49, .iload_n 0, 1), (50, .bipush 65, 2), (52, .isub, 1), (53, .bipush 10, 2), (55, .iadd, 1)] 56 #[Aa k] [.int ((k - (65 : Int32)) + (10 : Int32))] ?_
    refine Ba C S0 (by decide +kernel) (by decide) (by decide) ?_
    exact ⟨(by rw [g6]), rfl⟩
theorem Gn : parseMethodDescriptor "(C)I" = some ⟨[.char], (some .int)⟩ := by decide +kernel
theorem own_rhu (hw : Ar a0 Z) (G1 : Int32) (G3 : Value) (J : Addr) (x : Addr) (t : Addr) (tk : ClassId) (kd : Int32) (N : Int32) (vs : List Value) (cs : List Int32) (pp : Nat) (L : List Int32) (u : Int32) (R : List Int32) (h0 : Heap) (n0 : Nat) (z0 : n0 ≤ h0.size) (ge_J : n0 ≤ J) (X00 : Old Z n0 h0) (JE : Exa Z h0 J "com/example/limit1/limit1/JsonText") (JX : Fld Z h0 J "com/example/limit1/limit1/JsonText" "text" "Ljava/lang/String;" (.ref x)) (JP : Fld Z h0 J "com/example/limit1/limit1/JsonText" "position" "I" (.int (Int32.ofNat pp))) (xE : Exa Z h0 x "java/lang/String") (xV : Fld Z h0 x "java/lang/String" "value" "[B" (.ref t)) (xC : Fld Z h0 x "java/lang/String" "coder" "B" (.int kd)) (tK : Arv Z h0 t tk .byte N vs (.int 0)) (ne_x_J : x ≠ J) (ne_t_J : t ≠ J) (HS : Bg Z G1 G3) (hrep : Bx cs kd N vs) (hat : Ae cs pp (L ++ R)) (hx : own_Hx L u) :
    Ag l Z (⟨"com/example/limit1/limit1/JsonText", "readHexUnit", "()C"⟩ : MethodName) prog_7_method_13_code 4 (some .char) ({ frames := 5, cells := 0, slots := 0, locals := 66 } : Room) n0 #[(.ref J)] h0 (fun v h => ∃ q : Nat, v = some (.int u) ∧ Keep h0 h [J] ∧ Exa Z h J "com/example/limit1/limit1/JsonText" ∧ Fld Z h J "com/example/limit1/limit1/JsonText" "position" "I" (.int (Int32.ofNat q)) ∧ Fld Z h J "com/example/limit1/limit1/JsonText" "text" "Ljava/lang/String;" (.ref x) ∧ (Ae cs q R)) := by
  refine Au #[.val (.ref J), .unset, .unset, .unset] ?_
  intro p e s m below meth c T0 C S0
  obtain ⟨O2, O4, P5, rG3, OA, OH, OL, OB⟩ := id HS
  obtain ⟨h1, h2, h3, h4, n1, n2, n3, n4, rfl, b1, b2, b3, b4, hu⟩ := hx
  have h88 := hrep.2.1
  have hg1 := Ae.hd hat
  refine Ac C S0 [(0, .iconst 0, 1), (1, .istore_n 1, 1), (2, .iconst 0, 1), (3, .istore_n 2, 1), (4, .iload_n 2, 1), (5, .iconst 4, 1), (6, .if_icmp .ge 70, 3), (9, .aload_n 0, 1)] 10 #[Ab J, Aa 0, Aa 0, .unset] [.ref J] ?_
  refine Ah C S0 hw 91 JP ?_
  intro T2 S3
  refine Ac C S3 [(13, .aload_n 0, 1)] 14 #[Ab J, Aa 0, Aa 0, .unset] [.ref J, .int (Int32.ofNat pp)] ?_
  refine Ah C S3 hw 81 JX ?_
  intro T4 S5
  refine Bt C S5 hw 93 94 96 96 95 97 37 (Cx l Z a0 hw G1 G3 x _ _ _ _ _ cs h0 n0 z0 X00 xE xV xC tK HS hrep) 1 xE [] [.int (Int32.ofNat pp)] Cy ?_
  rintro T7 h8 v9 L10 S11 ⟨⟨rfl, e6⟩, -⟩
  rw [e6] at S11; clear e6
  refine Ao C S11 .ge 20 40 (fun (hq : ¬ (Int32.ofNat pp) < (Int32.ofNat cs.length)) => False.elim (hq (Cb hg1.1 (by omega)))) (fun (q12 : (Int32.ofNat pp) < (Int32.ofNat cs.length)) => ?_)
  refine Ac C S11 [(23, .aload_n 0, 1)] 24 #[Ab J, Aa 0, Aa 0, .unset] [.ref J] ?_
  refine Ah C S11 hw 81 JX ?_
  intro T13 S14
  refine Ac C S14 [(27, .aload_n 0, 1)] 28 #[Ab J, Aa 0, Aa 0, .unset] [.ref J, .ref x] ?_
  refine Ah C S14 hw 91 JP ?_
  intro T15 S16
  refine Bt C S16 hw 103 104 106 106 105 107 37 (Dv l Z a0 hw G1 G3 x _ _ _ _ _ cs pp h0 n0 z0 X00 xE xV xC tK HS hrep hg1.1) 0 xE [.int (Int32.ofNat pp)] [] Ct ?_
  rintro T18 h19 v20 L21 S22 ⟨⟨rfl, e17⟩, -⟩
  rw [e17] at S22; clear e17
  rw [show (cs.getD pp 0) = h1 from hg1.2.1]
  refine Ak C S22 hw 325 326 66 327 (own_hdv l Z a0 hw h1 n1 h0 n0 z0 b1) 0 [.int h1] [] Gn ?_
  rintro T24 h25 v26 L27 S28 ⟨⟨rfl, e23⟩, -⟩
  rw [e23] at S28; clear e23
  refine Ac C S28 [(37, .goto 4, 3), (41, .istore_n 3, 1), (42, .iload_n 3, 1)] 43 #[Ab J, Aa 0, Aa 0, Aa n1] [.int n1] ?_
  refine Bv C S28 .ge 10 53 (fun (q29 : ¬ n1 < (0 : Int32)) => ?_) (fun (hq : n1 < (0 : Int32)) => False.elim (b1.1.1 hq))
  refine Ac C S28 [(53, .iload_n 1, 1), (54, .bipush 16, 2), (56, .imul, 1), (57, .iload_n 3, 1), (58, .iadd, 1), (59, .istore_n 1, 1), (60, .aload_n 0, 1), (61, .dup, 1)] 62 #[Ab J, Aa (((0 : Int32) * (16 : Int32)) + n1), Aa 0, Aa n1] [.ref J, .ref J] ?_
  refine Ah C S28 hw 91 JP ?_
  intro T30 S31
  refine Ac C S31 [(65, .iconst 1, 1), (66, .iadd, 1)] 67 #[Ab J, Aa (((0 : Int32) * (16 : Int32)) + n1), Aa 0, Aa n1] [.int ((Int32.ofNat pp) + (1 : Int32)), .ref J] ?_
  rw [show ((Int32.ofNat pp) + (1 : Int32)) = (Int32.ofNat (pp + 1)) from Af _]
  refine Bh C S31 hw 91 92 76 JP JE Ax ge_J ?_
  intro T32 h34 S33 W35
  have f36 : Fld Z h34 J "com/example/limit1/limit1/JsonText" "position" "I" (.int (Int32.ofNat (pp + 1))) := Fld.same W35 JP
  have hat37 := (Ae.hd hat).2.2
  have hg38 := Ae.hd hat37
  refine Ac C S33 [(70, .iinc 2 1, 3), (73, .goto (-69), 3), (4, .iload_n 2, 1), (5, .iconst 4, 1), (6, .if_icmp .ge 70, 3), (9, .aload_n 0, 1)] 10 #[Ab J, Aa (((0 : Int32) * (16 : Int32)) + n1), Aa 1, Aa n1] [.ref J] ?_
  refine Ah C S33 hw 91 f36 ?_
  intro T39 S40
  refine Ac C S40 [(13, .aload_n 0, 1)] 14 #[Ab J, Aa (((0 : Int32) * (16 : Int32)) + n1), Aa 1, Aa n1] [.ref J, .int (Int32.ofNat (pp + 1))] ?_
  have f41 := (Fld.other W35 JX (Or.inr (Bb hw)))
  refine Ah C S40 hw 81 f41 ?_
  intro T42 S43
  have f44 := (X00.wr W35 ge_J)
  have f45 := (Exa.wr W35 xE)
  have f46 := (Fld.other W35 xV (Or.inl ne_x_J))
  have f47 := (Fld.other W35 xC (Or.inl ne_x_J))
  have f48 := (tK.other W35 ne_t_J)
  have f49 : n0 ≤ h34.size := (by rw [W35.size]; exact z0)
  refine Bt C S43 hw 93 94 96 96 95 97 37 (Cx l Z a0 hw G1 G3 x _ _ _ _ _ cs h34 n0 f49 f44 f45 f46 f47 f48 HS hrep) 1 f45 [] [.int (Int32.ofNat (pp + 1))] Cy ?_
  rintro T51 h52 v53 L54 S55 ⟨⟨rfl, e50⟩, -⟩
  rw [e50] at S55; clear e50
  refine Ao C S55 .ge 20 40 (fun (hq : ¬ (Int32.ofNat (pp + 1)) < (Int32.ofNat cs.length)) => False.elim (hq (Cb hg38.1 (by omega)))) (fun (q56 : (Int32.ofNat (pp + 1)) < (Int32.ofNat cs.length)) => ?_)
  refine Ac C S55 [(23, .aload_n 0, 1)] 24 #[Ab J, Aa (((0 : Int32) * (16 : Int32)) + n1), Aa 1, Aa n1] [.ref J] ?_
  refine Ah C S55 hw 81 f41 ?_
  intro T57 S58
  refine Ac C S58 [(27, .aload_n 0, 1)] 28 #[Ab J, Aa (((0 : Int32) * (16 : Int32)) + n1), Aa 1, Aa n1] [.ref J, .ref x] ?_
  refine Ah C S58 hw 91 f36 ?_
  intro T59 S60
  refine Bt C S60 hw 103 104 106 106 105 107 37 (Dv l Z a0 hw G1 G3 x _ _ _ _ _ cs (pp + 1) h34 n0 f49 f44 f45 f46 f47 f48 HS hrep hg38.1) 0 f45 [.int (Int32.ofNat (pp + 1))] [] Ct ?_
  rintro T62 h63 v64 L65 S66 ⟨⟨rfl, e61⟩, -⟩
  rw [e61] at S66; clear e61
  rw [show (cs.getD (pp + 1) 0) = h2 from hg38.2.1]
  refine Ak C S66 hw 325 326 66 327 (own_hdv l Z a0 hw h2 n2 h34 n0 f49 b2) 0 [.int h2] [] Gn ?_
  rintro T68 h69 v70 L71 S72 ⟨⟨rfl, e67⟩, -⟩
  rw [e67] at S72; clear e67
  refine Ac C S72 [(37, .goto 4, 3), (41, .istore_n 3, 1), (42, .iload_n 3, 1)] 43 #[Ab J, Aa (((0 : Int32) * (16 : Int32)) + n1), Aa 1, Aa n2] [.int n2] ?_
  refine Bv C S72 .ge 10 53 (fun (q73 : ¬ n2 < (0 : Int32)) => ?_) (fun (hq : n2 < (0 : Int32)) => False.elim (b2.1.1 hq))
  refine Ac C S72 [(53, .iload_n 1, 1), (54, .bipush 16, 2), (56, .imul, 1), (57, .iload_n 3, 1), (58, .iadd, 1), (59, .istore_n 1, 1), (60, .aload_n 0, 1), (61, .dup, 1)] 62 #[Ab J, Aa (((((0 : Int32) * (16 : Int32)) + n1) * (16 : Int32)) + n2), Aa 1, Aa n2] [.ref J, .ref J] ?_
  refine Ah C S72 hw 91 f36 ?_
  intro T74 S75
  refine Ac C S75 [(65, .iconst 1, 1), (66, .iadd, 1)] 67 #[Ab J, Aa (((((0 : Int32) * (16 : Int32)) + n1) * (16 : Int32)) + n2), Aa 1, Aa n2] [.int ((Int32.ofNat (pp + 1)) + (1 : Int32)), .ref J] ?_
  rw [show ((Int32.ofNat (pp + 1)) + (1 : Int32)) = (Int32.ofNat ((pp + 1) + 1)) from Af _]
  have f76 := (Exa.wr W35 JE)
  refine Bh C S75 hw 91 92 76 f36 f76 Ax ge_J ?_
  intro T77 h79 S78 W80
  have f81 : Fld Z h79 J "com/example/limit1/limit1/JsonText" "position" "I" (.int (Int32.ofNat ((pp + 1) + 1))) := Fld.same W80 f36
  have hat82 := (Ae.hd hat37).2.2
  have hg83 := Ae.hd hat82
  refine Ac C S78 [(70, .iinc 2 1, 3), (73, .goto (-69), 3), (4, .iload_n 2, 1), (5, .iconst 4, 1), (6, .if_icmp .ge 70, 3), (9, .aload_n 0, 1)] 10 #[Ab J, Aa (((((0 : Int32) * (16 : Int32)) + n1) * (16 : Int32)) + n2), Aa 2, Aa n2] [.ref J] ?_
  refine Ah C S78 hw 91 f81 ?_
  intro T84 S85
  refine Ac C S85 [(13, .aload_n 0, 1)] 14 #[Ab J, Aa (((((0 : Int32) * (16 : Int32)) + n1) * (16 : Int32)) + n2), Aa 2, Aa n2] [.ref J, .int (Int32.ofNat ((pp + 1) + 1))] ?_
  have f86 := (Fld.other W80 f41 (Or.inr (Bb hw)))
  refine Ah C S85 hw 81 f86 ?_
  intro T87 S88
  have f89 := (f44.wr W80 ge_J)
  have f90 := (Exa.wr W80 f45)
  have f91 := (Fld.other W80 f46 (Or.inl ne_x_J))
  have f92 := (Fld.other W80 f47 (Or.inl ne_x_J))
  have f93 := (f48.other W80 ne_t_J)
  have f94 : n0 ≤ h79.size := (by rw [W80.size]; exact f49)
  refine Bt C S88 hw 93 94 96 96 95 97 37 (Cx l Z a0 hw G1 G3 x _ _ _ _ _ cs h79 n0 f94 f89 f90 f91 f92 f93 HS hrep) 1 f90 [] [.int (Int32.ofNat ((pp + 1) + 1))] Cy ?_
  rintro T96 h97 v98 L99 S100 ⟨⟨rfl, e95⟩, -⟩
  rw [e95] at S100; clear e95
  refine Ao C S100 .ge 20 40 (fun (hq : ¬ (Int32.ofNat ((pp + 1) + 1)) < (Int32.ofNat cs.length)) => False.elim (hq (Cb hg83.1 (by omega)))) (fun (q101 : (Int32.ofNat ((pp + 1) + 1)) < (Int32.ofNat cs.length)) => ?_)
  refine Ac C S100 [(23, .aload_n 0, 1)] 24 #[Ab J, Aa (((((0 : Int32) * (16 : Int32)) + n1) * (16 : Int32)) + n2), Aa 2, Aa n2] [.ref J] ?_
  refine Ah C S100 hw 81 f86 ?_
  intro T102 S103
  refine Ac C S103 [(27, .aload_n 0, 1)] 28 #[Ab J, Aa (((((0 : Int32) * (16 : Int32)) + n1) * (16 : Int32)) + n2), Aa 2, Aa n2] [.ref J, .ref x] ?_
  refine Ah C S103 hw 91 f81 ?_
  intro T104 S105
  refine Bt C S105 hw 103 104 106 106 105 107 37 (Dv l Z a0 hw G1 G3 x _ _ _ _ _ cs ((pp + 1) + 1) h79 n0 f94 f89 f90 f91 f92 f93 HS hrep hg83.1) 0 f90 [.int (Int32.ofNat ((pp + 1) + 1))] [] Ct ?_
  rintro T107 h108 v109 L110 S111 ⟨⟨rfl, e106⟩, -⟩
  rw [e106] at S111; clear e106
  rw [show (cs.getD ((pp + 1) + 1) 0) = h3 from hg83.2.1]
  refine Ak C S111 hw 325 326 66 327 (own_hdv l Z a0 hw h3 n3 h79 n0 f94 b3) 0 [.int h3] [] Gn ?_
  rintro T113 h114 v115 L116 S117 ⟨⟨rfl, e112⟩, -⟩
  rw [e112] at S117; clear e112
  refine Ac C S117 [(37, .goto 4, 3), (41, .istore_n 3, 1), (42, .iload_n 3, 1)] 43 #[Ab J, Aa (((((0 : Int32) * (16 : Int32)) + n1) * (16 : Int32)) + n2), Aa 2, Aa n3] [.int n3] ?_
  refine Bv C S117 .ge 10 53 (fun (q118 : ¬ n3 < (0 : Int32)) => ?_) (fun (hq : n3 < (0 : Int32)) => False.elim (b3.1.1 hq))
  refine Ac C S117 [(53, .iload_n 1, 1), (54, .bipush 16, 2), (56, .imul, 1), (57, .iload_n 3, 1), (58, .iadd, 1), (59, .istore_n 1, 1), (60, .aload_n 0, 1), (61, .dup, 1)] 62 #[Ab J, Aa (((((((0 : Int32) * (16 : Int32)) + n1) * (16 : Int32)) + n2) * (16 : Int32)) + n3), Aa 2, Aa n3] [.ref J, .ref J] ?_
  refine Ah C S117 hw 91 f81 ?_
  intro T119 S120
  refine Ac C S120 [(65, .iconst 1, 1), (66, .iadd, 1)] 67 #[Ab J, Aa (((((((0 : Int32) * (16 : Int32)) + n1) * (16 : Int32)) + n2) * (16 : Int32)) + n3), Aa 2, Aa n3] [.int ((Int32.ofNat ((pp + 1) + 1)) + (1 : Int32)), .ref J] ?_
  rw [show ((Int32.ofNat ((pp + 1) + 1)) + (1 : Int32)) = (Int32.ofNat (((pp + 1) + 1) + 1)) from Af _]
  have f121 := (Exa.wr W80 f76)
  refine Bh C S120 hw 91 92 76 f81 f121 Ax ge_J ?_
  intro T122 h124 S123 W125
  have f126 : Fld Z h124 J "com/example/limit1/limit1/JsonText" "position" "I" (.int (Int32.ofNat (((pp + 1) + 1) + 1))) := Fld.same W125 f81
  have hat127 := (Ae.hd hat82).2.2
  have hg128 := Ae.hd hat127
  refine Ac C S123 [(70, .iinc 2 1, 3), (73, .goto (-69), 3), (4, .iload_n 2, 1), (5, .iconst 4, 1), (6, .if_icmp .ge 70, 3), (9, .aload_n 0, 1)] 10 #[Ab J, Aa (((((((0 : Int32) * (16 : Int32)) + n1) * (16 : Int32)) + n2) * (16 : Int32)) + n3), Aa 3, Aa n3] [.ref J] ?_
  refine Ah C S123 hw 91 f126 ?_
  intro T129 S130
  refine Ac C S130 [(13, .aload_n 0, 1)] 14 #[Ab J, Aa (((((((0 : Int32) * (16 : Int32)) + n1) * (16 : Int32)) + n2) * (16 : Int32)) + n3), Aa 3, Aa n3] [.ref J, .int (Int32.ofNat (((pp + 1) + 1) + 1))] ?_
  have f131 := (Fld.other W125 f86 (Or.inr (Bb hw)))
  refine Ah C S130 hw 81 f131 ?_
  intro T132 S133
  have f134 := (f89.wr W125 ge_J)
  have f135 := (Exa.wr W125 f90)
  have f136 := (Fld.other W125 f91 (Or.inl ne_x_J))
  have f137 := (Fld.other W125 f92 (Or.inl ne_x_J))
  have f138 := (f93.other W125 ne_t_J)
  have f139 : n0 ≤ h124.size := (by rw [W125.size]; exact f94)
  refine Bt C S133 hw 93 94 96 96 95 97 37 (Cx l Z a0 hw G1 G3 x _ _ _ _ _ cs h124 n0 f139 f134 f135 f136 f137 f138 HS hrep) 1 f135 [] [.int (Int32.ofNat (((pp + 1) + 1) + 1))] Cy ?_
  rintro T141 h142 v143 L144 S145 ⟨⟨rfl, e140⟩, -⟩
  rw [e140] at S145; clear e140
  refine Ao C S145 .ge 20 40 (fun (hq : ¬ (Int32.ofNat (((pp + 1) + 1) + 1)) < (Int32.ofNat cs.length)) => False.elim (hq (Cb hg128.1 (by omega)))) (fun (q146 : (Int32.ofNat (((pp + 1) + 1) + 1)) < (Int32.ofNat cs.length)) => ?_)
  refine Ac C S145 [(23, .aload_n 0, 1)] 24 #[Ab J, Aa (((((((0 : Int32) * (16 : Int32)) + n1) * (16 : Int32)) + n2) * (16 : Int32)) + n3), Aa 3, Aa n3] [.ref J] ?_
  refine Ah C S145 hw 81 f131 ?_
  intro T147 S148
  refine Ac C S148 [(27, .aload_n 0, 1)] 28 #[Ab J, Aa (((((((0 : Int32) * (16 : Int32)) + n1) * (16 : Int32)) + n2) * (16 : Int32)) + n3), Aa 3, Aa n3] [.ref J, .ref x] ?_
  refine Ah C S148 hw 91 f126 ?_
  intro T149 S150
  refine Bt C S150 hw 103 104 106 106 105 107 37 (Dv l Z a0 hw G1 G3 x _ _ _ _ _ cs (((pp + 1) + 1) + 1) h124 n0 f139 f134 f135 f136 f137 f138 HS hrep hg128.1) 0 f135 [.int (Int32.ofNat (((pp + 1) + 1) + 1))] [] Ct ?_
  rintro T152 h153 v154 L155 S156 ⟨⟨rfl, e151⟩, -⟩
  rw [e151] at S156; clear e151
  rw [show (cs.getD (((pp + 1) + 1) + 1) 0) = h4 from hg128.2.1]
  refine Ak C S156 hw 325 326 66 327 (own_hdv l Z a0 hw h4 n4 h124 n0 f139 b4) 0 [.int h4] [] Gn ?_
  rintro T158 h159 v160 L161 S162 ⟨⟨rfl, e157⟩, -⟩
  rw [e157] at S162; clear e157
  refine Ac C S162 [(37, .goto 4, 3), (41, .istore_n 3, 1), (42, .iload_n 3, 1)] 43 #[Ab J, Aa (((((((0 : Int32) * (16 : Int32)) + n1) * (16 : Int32)) + n2) * (16 : Int32)) + n3), Aa 3, Aa n4] [.int n4] ?_
  refine Bv C S162 .ge 10 53 (fun (q163 : ¬ n4 < (0 : Int32)) => ?_) (fun (hq : n4 < (0 : Int32)) => False.elim (b4.1.1 hq))
  refine Ac C S162 [(53, .iload_n 1, 1), (54, .bipush 16, 2), (56, .imul, 1), (57, .iload_n 3, 1), (58, .iadd, 1), (59, .istore_n 1, 1), (60, .aload_n 0, 1), (61, .dup, 1)] 62 #[Ab J, Aa (((((((((0 : Int32) * (16 : Int32)) + n1) * (16 : Int32)) + n2) * (16 : Int32)) + n3) * (16 : Int32)) + n4), Aa 3, Aa n4] [.ref J, .ref J] ?_
  refine Ah C S162 hw 91 f126 ?_
  intro T164 S165
  refine Ac C S165 [(65, .iconst 1, 1), (66, .iadd, 1)] 67 #[Ab J, Aa (((((((((0 : Int32) * (16 : Int32)) + n1) * (16 : Int32)) + n2) * (16 : Int32)) + n3) * (16 : Int32)) + n4), Aa 3, Aa n4] [.int ((Int32.ofNat (((pp + 1) + 1) + 1)) + (1 : Int32)), .ref J] ?_
  rw [show ((Int32.ofNat (((pp + 1) + 1) + 1)) + (1 : Int32)) = (Int32.ofNat ((((pp + 1) + 1) + 1) + 1)) from Af _]
  have f166 := (Exa.wr W125 f121)
  refine Bh C S165 hw 91 92 76 f126 f166 Ax ge_J ?_
  intro T167 h169 S168 W170
  have f171 : Fld Z h169 J "com/example/limit1/limit1/JsonText" "position" "I" (.int (Int32.ofNat ((((pp + 1) + 1) + 1) + 1))) := Fld.same W170 f126
  have hat172 := (Ae.hd hat127).2.2
  refine Ac C S168 [(70, .iinc 2 1, 3), (73, .goto (-69), 3), (4, .iload_n 2, 1), (5, .iconst 4, 1), (6, .if_icmp .ge 70, 3), (76, .iload_n 1, 1), (77, .i2c, 1)] 78 #[Ab J, Aa (((((((((0 : Int32) * (16 : Int32)) + n1) * (16 : Int32)) + n2) * (16 : Int32)) + n3) * (16 : Int32)) + n4), Aa 4, Aa n4] [.int ((((((((((0 : Int32) * (16 : Int32)) + n1) * (16 : Int32)) + n2) * (16 : Int32)) + n3) * (16 : Int32)) + n4).toUInt32.toUInt16.toUInt32.toInt32)] ?_
  rw [show (((((((((0 : Int32) * (16 : Int32)) + n1) * (16 : Int32)) + n2) * (16 : Int32)) + n3) * (16 : Int32)) + n4).toUInt32.toUInt16.toUInt32.toInt32 = u from hu.symm]
  refine Cd C S168 (by decide +kernel) (by rw [hu]; exact Fh _) (by decide) (by decide) ?_
  have f173 := (Exa.wr W170 f166)
  have f174 := (Fld.other W170 f131 (Or.inr (Bb hw)))
  exact ⟨((((pp + 1) + 1) + 1) + 1), rfl, (((((Keep.refl _ _).wr W35 (Ad 0)).wr W80 (Ad 0)).wr W125 (Ad 0)).wr W170 (Ad 0)), f173, f171, f174, hat172⟩
theorem own_ioc (hw : Ar a0 Z) (b : Addr) (bk : ClassId) (cs : List Int32) (k : Int32) (h0 : Heap) (n0 : Nat) (z0 : n0 ≤ h0.size) (bK : Arv Z h0 b bk .byte (Int32.ofNat cs.length) (Cc cs) (.int 0)) (hk : ¬ k < 0 ∧ ¬ (255 : Int32) < k) (h255 : ∀ z ∈ cs, ¬ z < 0 ∧ ¬ (255 : Int32) < z) (hn : cs.length ≤ 88) :
    Ag l Z (⟨"java/lang/StringLatin1", "indexOfChar", "([BIII)I"⟩ : MethodName) jdk_43_method_23_code 6 (some .int) ({ frames := 0, cells := 0, slots := 0, locals := 0 } : Room) n0 #[(.ref b), (.int k), (.int 0), (.int (Int32.ofNat cs.length))] h0 (fun v h => ∃ r : Int32, v = some (.int r) ∧ Keep h0 h [] ∧ (own_IQ r cs k)) := by
  refine Au #[.val (.ref b), .val (.int k), .val (.int 0), .val (.int (Int32.ofNat cs.length)), .unset, .unset] ?_
  intro p e s m below meth c T0 C S0
  have loop : ∀ (dl : List Int32) (T2 : State) (h1 : Heap) (i : Nat), Az p l e ({ frames := 0, cells := 0, slots := 0, locals := 0 } : Room) s m #[(.ref b), (.int k), (.int 0), (.int (Int32.ofNat cs.length))] below meth c n0 T2 h1 0 0 → Keep h0 h1 [] → (Ae cs i dl) → (k ∈ cs → k ∈ dl) → Aj p e below (Cq s n0 (fun v h => ∃ r : Int32, v = some (.int r) ∧ Keep h0 h [] ∧ (own_IQ r cs k)) ({ frames := 0, cells := 0, slots := 0, locals := 0 } : Room).cells ({ frames := 0, cells := 0, slots := 0, locals := 0 } : Room).slots) T2 (mkF m 7 #[Ab b, Aa k, Aa 0, Aa (Int32.ofNat cs.length), Aa k.toInt8.toInt32, Aa (Int32.ofNat i)] []) := by
    intro dl
    induction dl with
    | nil =>
      intro T2 h1 i S3 K4 hat hno
      have hi := Ae.nl hat
      refine Ac C S3 [(7, .iload 5, 2), (9, .iload_n 3, 1)] 10 #[Ab b, Aa k, Aa 0, Aa (Int32.ofNat cs.length), Aa k.toInt8.toInt32, Aa (Int32.ofNat i)] [.int (Int32.ofNat cs.length), .int (Int32.ofNat i)] ?_
      refine Ao C S3 .ge 21 31 (fun (q5 : ¬ (Int32.ofNat i) < (Int32.ofNat cs.length)) => ?_) (fun (hq : (Int32.ofNat i) < (Int32.ofNat cs.length)) => False.elim (Ed (by omega) (by omega) (by omega) hq))
      refine Ac C S3 [(31, .iconst (-1), 1)] 32 #[Ab b, Aa k, Aa 0, Aa (Int32.ofNat cs.length), Aa k.toInt8.toInt32, Aa (Int32.ofNat i)] [.int (-1 : Int32)] ?_
      refine Ba C S3 (by decide +kernel) (by decide) (by decide) ?_
      exact ⟨(-1 : Int32), rfl, ((Keep.refl _ _).trans K4 all0), Or.inl ⟨by decide, fun q => nomatch hno q⟩⟩
    | cons z dl ih =>
      intro T2 h1 i S3 K4 hat hno
      have hg := Ae.hd hat
      refine Ac C S3 [(7, .iload 5, 2), (9, .iload_n 3, 1)] 10 #[Ab b, Aa k, Aa 0, Aa (Int32.ofNat cs.length), Aa k.toInt8.toInt32, Aa (Int32.ofNat i)] [.int (Int32.ofNat cs.length), .int (Int32.ofNat i)] ?_
      refine Ao C S3 .ge 21 31 (fun (hq : ¬ (Int32.ofNat i) < (Int32.ofNat cs.length)) => False.elim (hq (Cb hg.1 (by omega)))) (fun (q6 : (Int32.ofNat i) < (Int32.ofNat cs.length)) => ?_)
      refine Ac C S3 [(13, .aload_n 0, 1), (14, .iload 5, 2)] 16 #[Ab b, Aa k, Aa 0, Aa (Int32.ofNat cs.length), Aa k.toInt8.toInt32, Aa (Int32.ofNat i)] [.int (Int32.ofNat i), .ref b] ?_
      have f7 := (bK.keep K4 nin0)
      refine De C S3 f7 ⟨(Ay (by omega)).1, Cb hg.1 (by omega)⟩ (.int z.toInt8.toInt32) (own_gat hat hn) (by decide +kernel) ?_
      have hz : z ∈ cs := by have q := Dd hg.1; rw [hg.2.1] at q; exact q
      refine Ac C S3 [(17, .iload 4, 2)] 19 #[Ab b, Aa k, Aa 0, Aa (Int32.ofNat cs.length), Aa k.toInt8.toInt32, Aa (Int32.ofNat i)] [.int k.toInt8.toInt32, .int z.toInt8.toInt32] ?_
      refine Ao C S3 .ne 6 25 (fun (q8 : ¬ z.toInt8.toInt32 = k.toInt8.toInt32) => ?_) (fun (q9 : z.toInt8.toInt32 = k.toInt8.toInt32) => ?_)
      · refine Ac C S3 [(25, .iinc 5 1, 3), (28, .goto (-21), 3)] 7 #[Ab b, Aa k, Aa 0, Aa (Int32.ofNat cs.length), Aa k.toInt8.toInt32, Aa ((Int32.ofNat i) + (1 : Int32))] [] ?_
        rw [show ((Int32.ofNat i) + (1 : Int32)) = (Int32.ofNat (i + 1)) from Af _]
        exact ih T2 h1 (i + 1) S3 ((Keep.refl _ _).trans K4 all0)  hg.2.2 (fun q => (List.mem_cons.mp (hno q)).resolve_left (fun e1 => q8 (by rw [e1])))
      · refine Ac C S3 [(22, .iload 5, 2)] 24 #[Ab b, Aa k, Aa 0, Aa (Int32.ofNat cs.length), Aa k.toInt8.toInt32, Aa (Int32.ofNat i)] [.int (Int32.ofNat i)] ?_
        refine Ba C S3 (by decide +kernel) (by decide) (by decide) ?_
        exact ⟨(Int32.ofNat i), rfl, ((Keep.refl _ _).trans K4 all0), Or.inr ⟨(Ay (by omega)).1, by rw [← own_b8i (h255 z hz) hk q9]; exact hz⟩⟩
  refine Ac C S0 [(0, .iload_n 1, 1), (1, .i2b, 1), (2, .istore 4, 2), (4, .iload_n 2, 1), (5, .istore 5, 2)] 7 #[Ab b, Aa k, Aa 0, Aa (Int32.ofNat cs.length), Aa k.toInt8.toInt32, Aa (Int32.ofNat 0)] [] ?_
  exact loop cs T0 h0 0 S0 (Keep.refl _ _)  (⟨rfl, Nat.zero_le _⟩) id
theorem own_cei (hw : Ar a0 Z) (k : Int32) (h0 : Heap) (n0 : Nat) (z0 : n0 ≤ h0.size) (hk : ¬ k < 0 ∧ ¬ (255 : Int32) < k) :
    Ag l Z (⟨"java/lang/StringLatin1", "canEncode", "(I)Z"⟩ : MethodName) jdk_43_method_4_code 1 (some .boolean) ({ frames := 0, cells := 0, slots := 0, locals := 0 } : Room) n0 #[(.int k)] h0 (fun v h => v = some (.int 1) ∧ h = h0) := by
  refine Au #[.val (.int k)] ?_
  intro p e s m below meth c T0 C S0
  refine Ac C S0 [(0, .iload_n 0, 1)] 1 #[Aa k] [.int k] ?_
  refine Bv C S0 .lt 14 15 (fun (hq : k < (0 : Int32)) => False.elim (hk.1 hq)) (fun (q1 : ¬ k < (0 : Int32)) => ?_)
  refine Ac C S0 [(4, .iload_n 0, 1), (5, .sipush 255, 3)] 8 #[Aa k] [.int 255, .int k] ?_
  refine Ao C S0 .gt 7 15 (fun (hq : (255 : Int32) < k) => False.elim (hk.2 hq)) (fun (q2 : ¬ (255 : Int32) < k) => ?_)
  refine Ac C S0 [(11, .iconst 1, 1), (12, .goto 4, 3)] 16 #[Aa k] [.int 1] ?_
  refine Bs C S0 (by decide +kernel) (by decide) (by decide) (by decide) ?_
  exact ⟨rfl, rfl⟩
theorem own_min (hw : Ar a0 Z) (x1 : Int32) (x2 : Int32) (h0 : Heap) (n0 : Nat) (z0 : n0 ≤ h0.size) :
    Ag l Z (⟨"java/lang/Math", "min", "(II)I"⟩ : MethodName) jdk_29_method_69_code 2 (some .int) ({ frames := 0, cells := 0, slots := 0, locals := 0 } : Room) n0 #[(.int x1), (.int x2)] h0 (fun v h => v = some (.int (if x2 < x1 then x2 else x1)) ∧ h = h0) := by
  refine Au #[.val (.int x1), .val (.int x2)] ?_
  intro p e s m below meth c T0 C S0
  refine Ac C S0 [(0, .iload_n 0, 1), (1, .iload_n 1, 1)] 2 #[Aa x1, Aa x2] [.int x2, .int x1] ?_
  refine Ao C S0 .gt 7 9 (fun (q1 : x2 < x1) => ?_) (fun (q2 : ¬ x2 < x1) => ?_)
  · refine Ac C S0 [(9, .iload_n 1, 1)] 10 #[Aa x1, Aa x2] [.int x2] ?_
    refine Ba C S0 (by decide +kernel) (by decide) (by decide) ?_
    exact ⟨by rw [if_pos q1], rfl⟩
  · refine Ac C S0 [(5, .iload_n 0, 1), (6, .goto 4, 3)] 10 #[Aa x1, Aa x2] [.int x1] ?_
    refine Ba C S0 (by decide +kernel) (by decide) (by decide) ?_
    exact ⟨by rw [if_neg q2], rfl⟩
theorem own_max (hw : Ar a0 Z) (x1 : Int32) (x2 : Int32) (h0 : Heap) (n0 : Nat) (z0 : n0 ≤ h0.size) :
    Ag l Z (⟨"java/lang/Math", "max", "(II)I"⟩ : MethodName) jdk_29_method_65_code 2 (some .int) ({ frames := 0, cells := 0, slots := 0, locals := 0 } : Room) n0 #[(.int x1), (.int x2)] h0 (fun v h => v = some (.int (if x1 < x2 then x2 else x1)) ∧ h = h0) := by
  refine Au #[.val (.int x1), .val (.int x2)] ?_
  intro p e s m below meth c T0 C S0
  refine Ac C S0 [(0, .iload_n 0, 1), (1, .iload_n 1, 1)] 2 #[Aa x1, Aa x2] [.int x2, .int x1] ?_
  refine Ao C S0 .lt 7 9 (fun (q1 : x1 < x2) => ?_) (fun (q2 : ¬ x1 < x2) => ?_)
  · refine Ac C S0 [(9, .iload_n 1, 1)] 10 #[Aa x1, Aa x2] [.int x2] ?_
    refine Ba C S0 (by decide +kernel) (by decide) (by decide) ?_
    exact ⟨by rw [if_pos q1], rfl⟩
  · refine Ac C S0 [(5, .iload_n 0, 1), (6, .goto 4, 3)] 10 #[Aa x1, Aa x2] [.int x1] ?_
    refine Ba C S0 (by decide +kernel) (by decide) (by decide) ?_
    exact ⟨by rw [if_neg q2], rfl⟩
theorem Dn : parseMethodDescriptor "(I)Z" = some ⟨[.int], (some .boolean)⟩ := by decide +kernel
theorem own_pd13 : parseMethodDescriptor "(II)I" = some ⟨[.int, .int], (some .int)⟩ := by decide +kernel
theorem own_pd14 : parseMethodDescriptor "([BIII)I" = some ⟨[(.array .byte), .int, .int, .int], (some .int)⟩ := by decide +kernel
theorem own_lio (hw : Ar a0 Z) (b : Addr) (bk : ClassId) (cs : List Int32) (k : Int32) (h0 : Heap) (n0 : Nat) (z0 : n0 ≤ h0.size) (bK : Arv Z h0 b bk .byte (Int32.ofNat cs.length) (Cc cs) (.int 0)) (hk : ¬ k < 0 ∧ ¬ (255 : Int32) < k) (h255 : ∀ z ∈ cs, ¬ z < 0 ∧ ¬ (255 : Int32) < z) (hn : cs.length ≤ 88) (hpos : 0 < cs.length) :
    Ag l Z (⟨"java/lang/StringLatin1", "indexOf", "([BIII)I"⟩ : MethodName) jdk_43_method_22_code 4 (some .int) ({ frames := 1, cells := 0, slots := 0, locals := 17 } : Room) n0 #[(.ref b), (.int k), (.int 0), (.int (Int32.ofNat cs.length))] h0 (fun v h => ∃ r : Int32, v = some (.int r) ∧ Keep h0 h [] ∧ (own_IQ r cs k)) := by
  refine Au #[.val (.ref b), .val (.int k), .val (.int 0), .val (.int (Int32.ofNat cs.length))] ?_
  intro p e s m below meth c T0 C S0
  refine Ac C S0 [(0, .iload_n 1, 1)] 1 #[Ab b, Aa k, Aa 0, Aa (Int32.ofNat cs.length)] [.int k] ?_
  refine Ak C S0 hw 226 227 115 228 (own_cei l Z a0 hw k h0 n0 z0 hk) 0 [.int k] [] Dn ?_
  rintro T2 h3 v4 L5 S6 ⟨⟨rfl, e1⟩, -⟩
  rw [e1] at S6; clear e1
  refine Ac C S6 [(4, .ifCond .ne 5, 3), (9, .iload_n 2, 1), (10, .iconst 0, 1)] 11 #[Ab b, Aa k, Aa 0, Aa (Int32.ofNat cs.length)] [.int 0, .int 0] ?_
  refine Ak C S6 hw 229 230 231 232 (own_max l Z a0 hw (0 : Int32) (0 : Int32) h0 n0 z0) 0 [.int 0, .int 0] [] own_pd13 ?_
  rintro T8 h9 v10 L11 S12 ⟨⟨rfl, e7⟩, -⟩
  rw [e7] at S12; clear e7
  rw [if_neg (show ¬ (0 : Int32) < 0 from by decide)]
  refine Ac C S12 [(14, .istore_n 2, 1), (15, .iload_n 3, 1), (16, .aload_n 0, 1)] 17 #[Ab b, Aa k, Aa 0, Aa (Int32.ofNat cs.length)] [.ref b, .int (Int32.ofNat cs.length)] ?_
  refine Dt C S12 bK (by decide +kernel) ?_
  refine Ak C S12 hw 233 234 231 235 (own_min l Z a0 hw (Int32.ofNat cs.length) (Int32.ofNat cs.length) h0 n0 z0) 0 [.int (Int32.ofNat cs.length), .int (Int32.ofNat cs.length)] [] own_pd13 ?_
  rintro T14 h15 v16 L17 S18 ⟨⟨rfl, e13⟩, -⟩
  rw [e13] at S18; clear e13
  rw [if_neg (own_irr (Int32.ofNat cs.length))]
  refine Ac C S18 [(21, .istore_n 3, 1), (22, .iload_n 2, 1), (23, .iload_n 3, 1)] 24 #[Ab b, Aa k, Aa 0, Aa (Int32.ofNat cs.length)] [.int (Int32.ofNat cs.length), .int 0] ?_
  refine Ao C S18 .lt 5 29 (fun (q19 : (0 : Int32) < (Int32.ofNat cs.length)) => ?_) (fun (hq : ¬ (0 : Int32) < (Int32.ofNat cs.length)) => False.elim (hq (Cb (i := 0) hpos (by omega))))
  refine Ac C S18 [(29, .aload_n 0, 1), (30, .iload_n 1, 1), (31, .iload_n 2, 1), (32, .iload_n 3, 1)] 33 #[Ab b, Aa k, Aa 0, Aa (Int32.ofNat cs.length)] [.int (Int32.ofNat cs.length), .int 0, .int k, .ref b] ?_
  refine Ak C S18 hw 236 237 115 238 (own_ioc l Z a0 hw b _ cs k h0 n0 z0 bK hk h255 hn) 0 [.ref b, .int k, .int 0, .int (Int32.ofNat cs.length)] [] own_pd14 ?_
  rintro T23 h24 v25 L26 S27 ⟨⟨y20, rfl, K21, p22⟩, -⟩
  refine Ba C S27 (by decide +kernel) (by decide) (by decide) ?_
  exact ⟨y20, rfl, ((Keep.refl _ _).trans K21 all0), p22⟩
theorem own_sio2 (hw : Ar a0 Z) (G1 : Int32) (G3 : Value) (x : Addr) (t : Addr) (tk : ClassId) (cs : List Int32) (k : Int32) (h0 : Heap) (n0 : Nat) (z0 : n0 ≤ h0.size) (X00 : Old Z n0 h0) (xE : Exa Z h0 x "java/lang/String") (xV : Fld Z h0 x "java/lang/String" "value" "[B" (.ref t)) (xC : Fld Z h0 x "java/lang/String" "coder" "B" (.int 0)) (tK : Arv Z h0 t tk .byte (Int32.ofNat cs.length) (Cc cs) (.int 0)) (HS : Bg Z G1 G3) (hk : ¬ k < 0 ∧ ¬ (255 : Int32) < k) (h255 : ∀ z ∈ cs, ¬ z < 0 ∧ ¬ (255 : Int32) < z) (hn : cs.length ≤ 88) (hpos : 0 < cs.length) (hrep : Bx cs 0 (Int32.ofNat cs.length) (Cc cs)) :
    Ag l Z (⟨"java/lang/String", "indexOf", "(II)I"⟩ : MethodName) jdk_42_method_80_code 3 (some .int) ({ frames := 2, cells := 0, slots := 0, locals := 32 } : Room) n0 #[(.ref x), (.int k), (.int 0)] h0 (fun v h => ∃ r : Int32, v = some (.int r) ∧ Keep h0 h [] ∧ (own_IQ r cs k)) := by
  refine Au #[.val (.ref x), .val (.int k), .val (.int 0)] ?_
  intro p e s m below meth c T0 C S0
  refine Ac C S0 [(0, .aload_n 0, 1)] 1 #[Ab x, Aa k, Aa 0] [.ref x] ?_
  refine Bt C S0 hw 108 109 111 111 110 112 37 (own_isL l Z a0 hw G1 G3 x _ h0 n0 z0 X00 xC HS (Or.inl rfl)) 0 xE [] [] Fe ?_
  rintro T2 h3 v4 L5 S6 ⟨⟨rfl, e1⟩, -⟩
  rw [e1] at S6; clear e1
  refine Ac C S6 [(4, .ifCond .eq 19, 3), (7, .aload_n 0, 1)] 8 #[Ab x, Aa k, Aa 0] [.ref x] ?_
  refine Ah C S6 hw 62 xV ?_
  intro T7 S8
  refine Ac C S8 [(11, .iload_n 1, 1), (12, .iload_n 2, 1), (13, .aload_n 0, 1)] 14 #[Ab x, Aa k, Aa 0] [.ref x, .int 0, .int k, .ref t] ?_
  refine Bt C S8 hw 222 94 96 96 95 97 37 (Cx l Z a0 hw G1 G3 x _ _ _ _ _ cs h0 n0 z0 X00 xE xV xC tK HS hrep) 3 xE [] [.int 0, .int k, .ref t] Cy ?_
  rintro T10 h11 v12 L13 S14 ⟨⟨rfl, e9⟩, -⟩
  rw [e9] at S14; clear e9
  refine Ak C S14 hw 223 224 115 225 (own_lio l Z a0 hw t _ cs k h0 n0 z0 tK hk h255 hn hpos) 0 [.ref t, .int k, .int 0, .int (Int32.ofNat cs.length)] [] own_pd14 ?_
  rintro T18 h19 v20 L21 S22 ⟨⟨y15, rfl, K16, p17⟩, -⟩
  refine Ac C S22 [(20, .goto 16, 3)] 36 #[Ab x, Aa k, Aa 0] [.int y15] ?_
  refine Ba C S22 (by decide +kernel) (by decide) (by decide) ?_
  exact ⟨y15, rfl, ((Keep.refl _ _).trans K16 all0), p17⟩
theorem own_sio (hw : Ar a0 Z) (G1 : Int32) (G3 : Value) (x : Addr) (t : Addr) (tk : ClassId) (cs : List Int32) (k : Int32) (h0 : Heap) (n0 : Nat) (z0 : n0 ≤ h0.size) (X00 : Old Z n0 h0) (xE : Exa Z h0 x "java/lang/String") (xV : Fld Z h0 x "java/lang/String" "value" "[B" (.ref t)) (xC : Fld Z h0 x "java/lang/String" "coder" "B" (.int 0)) (tK : Arv Z h0 t tk .byte (Int32.ofNat cs.length) (Cc cs) (.int 0)) (HS : Bg Z G1 G3) (hk : ¬ k < 0 ∧ ¬ (255 : Int32) < k) (h255 : ∀ z ∈ cs, ¬ z < 0 ∧ ¬ (255 : Int32) < z) (hn : cs.length ≤ 88) (hpos : 0 < cs.length) (hrep : Bx cs 0 (Int32.ofNat cs.length) (Cc cs)) :
    Ag l Z (⟨"java/lang/String", "indexOf", "(I)I"⟩ : MethodName) jdk_42_method_79_code 2 (some .int) ({ frames := 3, cells := 0, slots := 0, locals := 46 } : Room) n0 #[(.ref x), (.int k)] h0 (fun v h => ∃ r : Int32, v = some (.int r) ∧ Keep h0 h [] ∧ (own_IQ r cs k)) := by
  refine Au #[.val (.ref x), .val (.int k)] ?_
  intro p e s m below meth c T0 C S0
  refine Ac C S0 [(0, .aload_n 0, 1), (1, .iload_n 1, 1), (2, .iconst 0, 1)] 3 #[Ab x, Aa k] [.int 0, .int k, .ref x] ?_
  refine Bt C S0 hw 217 218 220 220 219 221 37 (own_sio2 l Z a0 hw G1 G3 x _ _ cs k h0 n0 z0 X00 xE xV xC tK HS hk h255 hn hpos hrep) 0 xE [.int k, .int 0] [] own_pd13 ?_
  rintro T4 h5 v6 L7 S8 ⟨⟨y1, rfl, K2, p3⟩, -⟩
  refine Ba C S8 (by decide +kernel) (by decide) (by decide) ?_
  exact ⟨y1, rfl, ((Keep.refl _ _).trans K2 all0), p3⟩
theorem own_mis (hw : Ar a0 Z) (b : Addr) (bk : ClassId) (cs : List Int32) (i : Nat) (R : List Int32) (yt : Addr) (ytk : ClassId) (h0 : Heap) (n0 : Nat) (z0 : n0 ≤ h0.size) (bK : Arv Z h0 b bk .byte (Int32.ofNat cs.length) (Cc cs) (.int 0)) (yK : Arv Z h0 yt ytk .byte (2 : Int32) ([(.int 92), (.int 117)]) (.int 0)) (hat : Ae cs i (92 :: 117 :: R)) (hn : cs.length ≤ 88) :
    Ag l Z (⟨"jdk/internal/util/ArraysSupport", "mismatch", "([BI[BII)I"⟩ : MethodName) jdk_48_method_14_code 8 (some .int) ({ frames := 0, cells := 0, slots := 0, locals := 0 } : Room) n0 #[(.ref b), (.int (Int32.ofNat i)), (.ref yt), (.int 0), (.int 2)] h0 (fun v h => v = some (.int (-1 : Int32)) ∧ h = h0) := by
  refine Au #[.val (.ref b), .val (.int (Int32.ofNat i)), .val (.ref yt), .val (.int 0), .val (.int 2), .unset, .unset, .unset] ?_
  intro p e s m below meth c T0 C S0
  have hg := Ae.hd hat
  have hg2 := Ae.hd hg.2.2
  refine Ac C S0 [(0, .iconst 0, 1), (1, .istore 5, 2), (3, .iload 4, 2), (5, .bipush 7, 2), (7, .if_icmp .le 63, 3), (70, .iload 5, 2), (72, .iload 4, 2), (74, .if_icmp .ge 27, 3), (77, .aload_n 0, 1), (78, .iload_n 1, 1), (79, .iload 5, 2), (81, .iadd, 1)] 82 #[Ab b, Aa (Int32.ofNat i), Ab yt, Aa 0, Aa 2, Aa 0, .unset, .unset] [.int ((Int32.ofNat i) + (0 : Int32)), .ref b] ?_
  rw [show ((Int32.ofNat i) + (0 : Int32)) = (Int32.ofNat i) from Int32.add_zero _]
  refine De C S0 bK ⟨(Ay (by omega)).1, Cb hg.1 (by omega)⟩ (.int ((92 : Int32).toInt8.toInt32)) (own_gat hat hn) (by decide +kernel) ?_
  refine Ac C S0 [(83, .aload_n 2, 1), (84, .iload_n 3, 1), (85, .iload 5, 2), (87, .iadd, 1)] 88 #[Ab b, Aa (Int32.ofNat i), Ab yt, Aa 0, Aa 2, Aa 0, .unset, .unset] [.int 0, .ref yt, .int 92] ?_
  refine De C S0 yK ⟨(by decide), (by decide)⟩ (.int 92) rfl (by decide +kernel) ?_
  refine Ac C S0 [(89, .if_icmp .eq 6, 3), (95, .iinc 5 1, 3), (98, .goto (-28), 3), (70, .iload 5, 2), (72, .iload 4, 2), (74, .if_icmp .ge 27, 3), (77, .aload_n 0, 1), (78, .iload_n 1, 1), (79, .iload 5, 2), (81, .iadd, 1)] 82 #[Ab b, Aa (Int32.ofNat i), Ab yt, Aa 0, Aa 2, Aa 1, .unset, .unset] [.int ((Int32.ofNat i) + (1 : Int32)), .ref b] ?_
  rw [show ((Int32.ofNat i) + (1 : Int32)) = (Int32.ofNat (i + 1)) from Af _]
  refine De C S0 bK ⟨(Ay (by omega)).1, Cb hg2.1 (by omega)⟩ (.int ((117 : Int32).toInt8.toInt32)) (own_gat hg.2.2 hn) (by decide +kernel) ?_
  refine Ac C S0 [(83, .aload_n 2, 1), (84, .iload_n 3, 1), (85, .iload 5, 2), (87, .iadd, 1)] 88 #[Ab b, Aa (Int32.ofNat i), Ab yt, Aa 0, Aa 2, Aa 1, .unset, .unset] [.int 1, .ref yt, .int 117] ?_
  refine De C S0 yK ⟨(by decide), (by decide)⟩ (.int 117) rfl (by decide +kernel) ?_
  refine Ac C S0 [(89, .if_icmp .eq 6, 3), (95, .iinc 5 1, 3), (98, .goto (-28), 3), (70, .iload 5, 2), (72, .iload 4, 2), (74, .if_icmp .ge 27, 3), (101, .iconst (-1), 1)] 102 #[Ab b, Aa (Int32.ofNat i), Ab yt, Aa 0, Aa 2, Aa 2, .unset, .unset] [.int (-1 : Int32)] ?_
  refine Ba C S0 (by decide +kernel) (by decide) (by decide) ?_
  exact ⟨rfl, rfl⟩
theorem own_pd15 : parseMethodDescriptor "([BI[BII)I" = some ⟨[(.array .byte), .int, (.array .byte), .int, .int], (some .int)⟩ := by decide +kernel
theorem own_sws (hw : Ar a0 Z) (G1 : Int32) (G3 : Value) (x : Addr) (t : Addr) (tk : ClassId) (kd : Int32) (N : Int32) (vs : List Value) (cs : List Int32) (y : Addr) (yt : Addr) (ytk : ClassId) (i : Nat) (R : List Int32) (h0 : Heap) (n0 : Nat) (z0 : n0 ≤ h0.size) (X00 : Old Z n0 h0) (xE : Exa Z h0 x "java/lang/String") (xV : Fld Z h0 x "java/lang/String" "value" "[B" (.ref t)) (xC : Fld Z h0 x "java/lang/String" "coder" "B" (.int kd)) (tK : Arv Z h0 t tk .byte N vs (.int 0)) (yE : Exa Z h0 y "java/lang/String") (yV : Fld Z h0 y "java/lang/String" "value" "[B" (.ref yt)) (yC : Fld Z h0 y "java/lang/String" "coder" "B" (.int 0)) (yK : Arv Z h0 yt ytk .byte (2 : Int32) ([(.int 92), (.int 117)]) (.int 0)) (HS : Bg Z G1 G3) (hrep : Bx cs kd N vs) (hat : Ae cs i (92 :: 117 :: R)) :
    Ag l Z (⟨"java/lang/String", "startsWith", "(Ljava/lang/String;I)Z"⟩ : MethodName) jdk_42_method_75_code 8 (some .boolean) ({ frames := 2, cells := 0, slots := 0, locals := 27 } : Room) n0 #[(.ref x), (.ref y), (.int (Int32.ofNat i))] h0 (fun v h => v = some (.int 1) ∧ h = h0) := by
  refine Au #[.val (.ref x), .val (.ref y), .val (.int (Int32.ofNat i)), .unset, .unset, .unset, .unset, .unset] ?_
  intro p e s m below meth c T0 C S0
  obtain ⟨O2, O4, P5, rG3, OA, OH, OL, OB⟩ := id HS
  have hrep0 := hrep
  have hg := Ae.hd hat
  have hg2 := Ae.hd hg.2.2
  obtain ⟨hcr, hn88, hrep⟩ := hrep
  rcases hrep with ⟨rfl, rfl, rfl, hle⟩ | ⟨rfl, rfl, rfl⟩
  · refine Ac C S0 [(0, .iload_n 2, 1)] 1 #[Ab x, Ab y, Aa (Int32.ofNat i), .unset, .unset, .unset, .unset, .unset] [.int (Int32.ofNat i)] ?_
    refine Bv C S0 .lt 16 17 (fun (hq : (Int32.ofNat i) < (0 : Int32)) => False.elim ((Ay (by omega)).1 hq)) (fun (q1 : ¬ (Int32.ofNat i) < (0 : Int32)) => ?_)
    refine Ac C S0 [(4, .iload_n 2, 1), (5, .aload_n 0, 1)] 6 #[Ab x, Ab y, Aa (Int32.ofNat i), .unset, .unset, .unset, .unset, .unset] [.ref x, .int (Int32.ofNat i)] ?_
    refine Bt C S0 hw 222 94 96 96 95 97 37 (Cx l Z a0 hw G1 G3 x _ _ _ _ _ cs h0 n0 z0 X00 xE xV xC tK HS hrep0) 1 xE [] [.int (Int32.ofNat i)] Cy ?_
    rintro T3 h4 v5 L6 S7 ⟨⟨rfl, e2⟩, -⟩
    rw [e2] at S7; clear e2
    refine Ac C S7 [(9, .aload_n 1, 1)] 10 #[Ab x, Ab y, Aa (Int32.ofNat i), .unset, .unset, .unset, .unset, .unset] [.ref y, .int (Int32.ofNat cs.length), .int (Int32.ofNat i)] ?_
    refine Bt C S7 hw 222 94 96 96 95 97 37 (Cx l Z a0 hw G1 G3 y _ _ _ _ _ ([92, 117] : List Int32) h0 n0 z0 X00 yE yV yC yK HS own_ru) 2 yE [] [.int (Int32.ofNat cs.length), .int (Int32.ofNat i)] Cy ?_
    rintro T9 h10 v11 L12 S13 ⟨⟨rfl, e8⟩, -⟩
    rw [e8] at S13; clear e8
    refine Ac C S13 [(13, .isub, 1)] 14 #[Ab x, Ab y, Aa (Int32.ofNat i), .unset, .unset, .unset, .unset, .unset] [.int ((Int32.ofNat cs.length) - (Int32.ofNat ([92, 117] : List Int32).length)), .int (Int32.ofNat i)] ?_
    refine Ao C S13 .le 5 19 (fun (q14 : ¬ ((Int32.ofNat cs.length) - (Int32.ofNat ([92, 117] : List Int32).length)) < (Int32.ofNat i)) => ?_) (fun (hq : ((Int32.ofNat cs.length) - (Int32.ofNat ([92, 117] : List Int32).length)) < (Int32.ofNat i)) => False.elim ((Ed (i := cs.length - 2) (n := i) (by omega) (by omega) (by omega)) (by rw [← own_sub2 (by omega)]; exact hq)))
    refine Ac C S13 [(19, .aload_n 0, 1)] 20 #[Ab x, Ab y, Aa (Int32.ofNat i), .unset, .unset, .unset, .unset, .unset] [.ref x] ?_
    refine Ah C S13 hw 62 xV ?_
    intro T15 S16
    refine Ac C S16 [(23, .astore_n 3, 1), (24, .aload_n 1, 1)] 25 #[Ab x, Ab y, Aa (Int32.ofNat i), Ab t, .unset, .unset, .unset, .unset] [.ref y] ?_
    refine Ah C S16 hw 62 yV ?_
    intro T17 S18
    refine Ac C S18 [(28, .astore 4, 2), (30, .iconst 0, 1), (31, .istore 5, 2), (33, .aload 4, 2)] 35 #[Ab x, Ab y, Aa (Int32.ofNat i), Ab t, Ab yt, Aa 0, .unset, .unset] [.ref yt] ?_
    refine Dt C S18 yK (by decide +kernel) ?_
    refine Ac C S18 [(36, .istore 6, 2), (38, .aload_n 0, 1)] 39 #[Ab x, Ab y, Aa (Int32.ofNat i), Ab t, Ab yt, Aa 0, Aa 2, .unset] [.ref x] ?_
    refine Bt C S18 hw 98 99 101 101 100 102 37 (El l Z a0 hw G1 G3 x _ h0 n0 z0 X00 xC HS (by decide)) 0 xE [] [] Fs ?_
    rintro T20 h21 v22 L23 S24 ⟨⟨rfl, e19⟩, -⟩
    rw [e19] at S24; clear e19
    refine Ac C S24 [(42, .istore 7, 2), (44, .iload 7, 2), (46, .aload_n 1, 1)] 47 #[Ab x, Ab y, Aa (Int32.ofNat i), Ab t, Ab yt, Aa 0, Aa 2, Aa 0] [.ref y, .int 0] ?_
    refine Bt C S24 hw 98 99 101 101 100 102 37 (El l Z a0 hw G1 G3 y _ h0 n0 z0 X00 yC HS (by decide)) 1 yE [] [.int 0] Fs ?_
    rintro T26 h27 v28 L29 S30 ⟨⟨rfl, e25⟩, -⟩
    rw [e25] at S30; clear e25
    refine Ac C S30 [(50, .if_icmp .ne 32, 3), (53, .iload 7, 2), (55, .iconst 1, 1), (56, .if_icmp .ne 7, 3), (63, .aload_n 3, 1), (64, .iload_n 2, 1), (65, .aload 4, 2), (67, .iconst 0, 1), (68, .iload 6, 2)] 70 #[Ab x, Ab y, Aa (Int32.ofNat i), Ab t, Ab yt, Aa 0, Aa 2, Aa 0] [.int 2, .int 0, .ref yt, .int (Int32.ofNat i), .ref t] ?_
    refine Ak C S30 hw 334 335 336 337 (own_mis l Z a0 hw t _ cs i R yt _ h0 n0 z0 tK yK hat hn88) 0 [.ref t, .int (Int32.ofNat i), .ref yt, .int 0, .int 2] [] own_pd15 ?_
    rintro T32 h33 v34 L35 S36 ⟨⟨rfl, e31⟩, -⟩
    rw [e31] at S36; clear e31
    refine Ac C S36 [(73, .ifCond .ge 7, 3), (76, .iconst 1, 1), (77, .goto 4, 3)] 81 #[Ab x, Ab y, Aa (Int32.ofNat i), Ab t, Ab yt, Aa 0, Aa 2, Aa 0] [.int 1] ?_
    refine Bs C S36 (by decide +kernel) (by decide) (by decide) (by decide) ?_
    exact ⟨rfl, rfl⟩
  · refine Ac C S0 [(0, .iload_n 2, 1)] 1 #[Ab x, Ab y, Aa (Int32.ofNat i), .unset, .unset, .unset, .unset, .unset] [.int (Int32.ofNat i)] ?_
    refine Bv C S0 .lt 16 17 (fun (hq : (Int32.ofNat i) < (0 : Int32)) => False.elim ((Ay (by omega)).1 hq)) (fun (q37 : ¬ (Int32.ofNat i) < (0 : Int32)) => ?_)
    refine Ac C S0 [(4, .iload_n 2, 1), (5, .aload_n 0, 1)] 6 #[Ab x, Ab y, Aa (Int32.ofNat i), .unset, .unset, .unset, .unset, .unset] [.ref x, .int (Int32.ofNat i)] ?_
    refine Bt C S0 hw 222 94 96 96 95 97 37 (Cx l Z a0 hw G1 G3 x _ _ _ _ _ cs h0 n0 z0 X00 xE xV xC tK HS hrep0) 1 xE [] [.int (Int32.ofNat i)] Cy ?_
    rintro T39 h40 v41 L42 S43 ⟨⟨rfl, e38⟩, -⟩
    rw [e38] at S43; clear e38
    refine Ac C S43 [(9, .aload_n 1, 1)] 10 #[Ab x, Ab y, Aa (Int32.ofNat i), .unset, .unset, .unset, .unset, .unset] [.ref y, .int (Int32.ofNat cs.length), .int (Int32.ofNat i)] ?_
    refine Bt C S43 hw 222 94 96 96 95 97 37 (Cx l Z a0 hw G1 G3 y _ _ _ _ _ ([92, 117] : List Int32) h0 n0 z0 X00 yE yV yC yK HS own_ru) 2 yE [] [.int (Int32.ofNat cs.length), .int (Int32.ofNat i)] Cy ?_
    rintro T45 h46 v47 L48 S49 ⟨⟨rfl, e44⟩, -⟩
    rw [e44] at S49; clear e44
    refine Ac C S49 [(13, .isub, 1)] 14 #[Ab x, Ab y, Aa (Int32.ofNat i), .unset, .unset, .unset, .unset, .unset] [.int ((Int32.ofNat cs.length) - (Int32.ofNat ([92, 117] : List Int32).length)), .int (Int32.ofNat i)] ?_
    refine Ao C S49 .le 5 19 (fun (q50 : ¬ ((Int32.ofNat cs.length) - (Int32.ofNat ([92, 117] : List Int32).length)) < (Int32.ofNat i)) => ?_) (fun (hq : ((Int32.ofNat cs.length) - (Int32.ofNat ([92, 117] : List Int32).length)) < (Int32.ofNat i)) => False.elim ((Ed (i := cs.length - 2) (n := i) (by omega) (by omega) (by omega)) (by rw [← own_sub2 (by omega)]; exact hq)))
    refine Ac C S49 [(19, .aload_n 0, 1)] 20 #[Ab x, Ab y, Aa (Int32.ofNat i), .unset, .unset, .unset, .unset, .unset] [.ref x] ?_
    refine Ah C S49 hw 62 xV ?_
    intro T51 S52
    refine Ac C S52 [(23, .astore_n 3, 1), (24, .aload_n 1, 1)] 25 #[Ab x, Ab y, Aa (Int32.ofNat i), Ab t, .unset, .unset, .unset, .unset] [.ref y] ?_
    refine Ah C S52 hw 62 yV ?_
    intro T53 S54
    refine Ac C S54 [(28, .astore 4, 2), (30, .iconst 0, 1), (31, .istore 5, 2), (33, .aload 4, 2)] 35 #[Ab x, Ab y, Aa (Int32.ofNat i), Ab t, Ab yt, Aa 0, .unset, .unset] [.ref yt] ?_
    refine Dt C S54 yK (by decide +kernel) ?_
    have hn := hn88
    refine Ac C S54 [(36, .istore 6, 2), (38, .aload_n 0, 1)] 39 #[Ab x, Ab y, Aa (Int32.ofNat i), Ab t, Ab yt, Aa 0, Aa 2, .unset] [.ref x] ?_
    refine Bt C S54 hw 98 99 101 101 100 102 37 (El l Z a0 hw G1 G3 x _ h0 n0 z0 X00 xC HS (by decide)) 0 xE [] [] Fs ?_
    rintro T56 h57 v58 L59 S60 ⟨⟨rfl, e55⟩, -⟩
    rw [e55] at S60; clear e55
    refine Ac C S60 [(42, .istore 7, 2), (44, .iload 7, 2), (46, .aload_n 1, 1)] 47 #[Ab x, Ab y, Aa (Int32.ofNat i), Ab t, Ab yt, Aa 0, Aa 2, Aa 1] [.ref y, .int 1] ?_
    refine Bt C S60 hw 98 99 101 101 100 102 37 (El l Z a0 hw G1 G3 y _ h0 n0 z0 X00 yC HS (by decide)) 1 yE [] [.int 1] Fs ?_
    rintro T62 h63 v64 L65 S66 ⟨⟨rfl, e61⟩, -⟩
    rw [e61] at S66; clear e61
    have hi := hg.1
    refine Ac C S66 [(50, .if_icmp .ne 32, 3), (82, .iload 7, 2), (84, .ifCond .ne 5, 3), (89, .iload 5, 2), (91, .iload 6, 2), (93, .if_icmp .ge 28, 3), (96, .aload_n 3, 1), (97, .iload_n 2, 1), (98, .iinc 2 1, 3)] 101 #[Ab x, Ab y, Aa ((Int32.ofNat i) + (1 : Int32)), Ab t, Ab yt, Aa 0, Aa 2, Aa 1] [.int (Int32.ofNat i), .ref t] ?_
    refine Ak C S66 hw 338 271 51 272 (own_gch l Z a0 hw G1 G3 t _ cs i h0 n0 z0 X00 tK HS hi hn hcr) 0 [.ref t, .int (Int32.ofNat i)] [] Ft ?_
    rintro T68 h69 v70 L71 S72 ⟨⟨rfl, e67⟩, -⟩
    rw [e67] at S72; clear e67
    rw [show (cs.getD i 0) = (92 : Int32) from hg.2.1]
    rw [show ((Int32.ofNat i) + (1 : Int32)) = (Int32.ofNat (i + 1)) from Af _]
    refine Ac C S72 [(104, .aload 4, 2), (106, .iload 5, 2), (108, .iinc 5 1, 3)] 111 #[Ab x, Ab y, Aa (Int32.ofNat (i + 1)), Ab t, Ab yt, Aa 1, Aa 2, Aa 1] [.int 0, .ref yt, .int 92] ?_
    refine De C S72 yK ⟨(by decide), (by decide)⟩ (.int 92) rfl (by decide +kernel) ?_
    have hi := hg2.1
    refine Ac C S72 [(112, .sipush 255, 3), (115, .iand, 1), (116, .if_icmp .eq (-27), 3), (89, .iload 5, 2), (91, .iload 6, 2), (93, .if_icmp .ge 28, 3), (96, .aload_n 3, 1), (97, .iload_n 2, 1), (98, .iinc 2 1, 3)] 101 #[Ab x, Ab y, Aa ((Int32.ofNat (i + 1)) + (1 : Int32)), Ab t, Ab yt, Aa 1, Aa 2, Aa 1] [.int (Int32.ofNat (i + 1)), .ref t] ?_
    refine Ak C S72 hw 338 271 51 272 (own_gch l Z a0 hw G1 G3 t _ cs (i + 1) h0 n0 z0 X00 tK HS hi hn hcr) 0 [.ref t, .int (Int32.ofNat (i + 1))] [] Ft ?_
    rintro T74 h75 v76 L77 S78 ⟨⟨rfl, e73⟩, -⟩
    rw [e73] at S78; clear e73
    rw [show (cs.getD (i + 1) 0) = (117 : Int32) from hg2.2.1]
    rw [show ((Int32.ofNat (i + 1)) + (1 : Int32)) = (Int32.ofNat ((i + 1) + 1)) from Af _]
    refine Ac C S78 [(104, .aload 4, 2), (106, .iload 5, 2), (108, .iinc 5 1, 3)] 111 #[Ab x, Ab y, Aa (Int32.ofNat ((i + 1) + 1)), Ab t, Ab yt, Aa 2, Aa 2, Aa 1] [.int 1, .ref yt, .int 117] ?_
    refine De C S78 yK ⟨(by decide), (by decide)⟩ (.int 117) rfl (by decide +kernel) ?_
    refine Ac C S78 [(112, .sipush 255, 3), (115, .iand, 1), (116, .if_icmp .eq (-27), 3), (89, .iload 5, 2), (91, .iload 6, 2), (93, .if_icmp .ge 28, 3), (121, .iconst 1, 1)] 122 #[Ab x, Ab y, Aa (Int32.ofNat ((i + 1) + 1)), Ab t, Ab yt, Aa 2, Aa 2, Aa 1] [.int 1] ?_
    refine Bs C S78 (by decide +kernel) (by decide) (by decide) (by decide) ?_
    exact ⟨rfl, rfl⟩
theorem Cg : parseMethodDescriptor "(Ljava/lang/String;)C" = some ⟨[(.object "java/lang/String")], (some .char)⟩ := by decide +kernel
theorem Ca : parseMethodDescriptor "(I)I" = some ⟨[.int], (some .int)⟩ := by decide +kernel
theorem own_pd18 : parseMethodDescriptor "()C" = some ⟨[], (some .char)⟩ := by decide +kernel
theorem own_pd19 : parseMethodDescriptor "(Ljava/lang/String;I)Z" = some ⟨[(.object "java/lang/String"), .int], (some .boolean)⟩ := by decide +kernel
theorem own_esc (hw : Ar a0 Z) (hEL : EW Z a0 Br) (wS : ∀ a ∈ Bundle.stringAtoms, a.before a0 Z = true) (G1 : Int32) (G3 : Value) (J : Addr) (x : Addr) (t : Addr) (tk : ClassId) (kd : Int32) (N : Int32) (vs : List Value) (cs : List Int32) (pp : Nat) (S : List Int32) (R : List Int32) (h0 : Heap) (n0 : Nat) (z0 : n0 ≤ h0.size) (ge_J : n0 ≤ J) (X00 : Old Z n0 h0) (JE : Exa Z h0 J "com/example/limit1/limit1/JsonText") (JX : Fld Z h0 J "com/example/limit1/limit1/JsonText" "text" "Ljava/lang/String;" (.ref x)) (JP : Fld Z h0 J "com/example/limit1/limit1/JsonText" "position" "I" (.int (Int32.ofNat pp))) (xE : Exa Z h0 x "java/lang/String") (xV : Fld Z h0 x "java/lang/String" "value" "[B" (.ref t)) (xC : Fld Z h0 x "java/lang/String" "coder" "B" (.int kd)) (tK : Arv Z h0 t tk .byte N vs (.int 0)) (ne_x_J : x ≠ J) (ne_t_J : t ≠ J) (HS : Bg Z G1 G3) (hrep : Bx cs kd N vs) (hat : Ae cs pp S) (hE : own_Es S R) :
    Co l Z Br Cw (⟨"com/example/limit1/limit1/JsonText", "checkEscape", "()V"⟩ : MethodName) prog_7_method_12_code 4 none 6 2 36 81 0 0 n0 #[(.ref J)] h0 [] (fun v h => ∃ q : Nat, v = none ∧ Keep h0 h [J] ∧ Exa Z h J "com/example/limit1/limit1/JsonText" ∧ Fld Z h J "com/example/limit1/limit1/JsonText" "position" "I" (.int (Int32.ofNat q)) ∧ Fld Z h J "com/example/limit1/limit1/JsonText" "text" "Ljava/lang/String;" (.ref x) ∧ (Ae cs q R)) := by
  refine Eh hEL wS #[.val (.ref J), .unset, .unset, .unset] ?_
  intro fC fS P1 P2 p e s m below meth c T0 CW hF hP1 hP2 SW0
  obtain ⟨O2, O4, P5, rG3, OA, OH, OL, OB⟩ := id HS
  have SW1 : Bz p l e ({ frames := 6, cells := P1 + 2, slots := P2 + 36, locals := 81 } : Room) s m #[(.ref J)] below meth c n0 Z Br fC fS "com/example/limit1/limit1/JsonText" T0 h0 [J] 0 0 := SW0.addE JE (by decide) (by decide)
  rcases hE with ⟨k, rfl, hk⟩ | ⟨L, u, rfl, hx, hl, hh⟩ | ⟨L, u, M, v, rfl, hx, hh, hy, hl⟩
  · refine Ai CW SW1 ?_
    intro vm2 C S3 rb4
    refine Ac C S3 [(0, .aload_n 0, 1)] 1 #[Ab J, .unset, .unset, .unset] [.ref J] ?_
    refine Ah C S3 hw 91 JP ?_
    intro T5 S6
    refine Ac C S6 [(4, .istore_n 1, 1), (5, .aload_n 0, 1), (6, .dup, 1)] 7 #[Ab J, Aa (Int32.ofNat pp), .unset, .unset] [.ref J, .ref J] ?_
    refine Ah C S6 hw 91 JP ?_
    intro T7 S8
    refine Ac C S8 [(10, .iconst 1, 1), (11, .iadd, 1)] 12 #[Ab J, Aa (Int32.ofNat pp), .unset, .unset] [.int ((Int32.ofNat pp) + (1 : Int32)), .ref J] ?_
    rw [show ((Int32.ofNat pp) + (1 : Int32)) = (Int32.ofNat (pp + 1)) from Af _]
    refine Bh C S8 hw 91 92 76 JP JE Ax ge_J ?_
    intro T9 h11 S10 W12
    have f13 : Fld Z h11 J "com/example/limit1/limit1/JsonText" "position" "I" (.int (Int32.ofNat (pp + 1))) := Fld.same W12 JP
    have hat14 := (Ae.hd hat).2.2
    refine Ac C S10 [(15, .aload_n 0, 1)] 16 #[Ab J, Aa (Int32.ofNat pp), .unset, .unset] [.ref J] ?_
    have SW15 := rb4 _ _ 0 0 [J] [] S10 ((Keep.refl _ _).wr W12 (Ad 0)) (allS (As 0) all0) all0
    refine Cv CW SW15 hF hP1 hP2 hw 210 3 80 ?_
    intro T16 h17 a18 SW19 E20
    have f21 := ((X00.wr W12 ge_J).ext E20)
    have f22 := (Exa.ext E20 (Exa.wr W12 JE))
    have f23 := (Fld.ext E20 (Fld.other W12 JX (Or.inr (Bb hw))))
    have f24 := (Fld.ext E20 f13)
    have f25 := (Exa.ext E20 (Exa.wr W12 xE))
    have f26 := (Fld.ext E20 (Fld.other W12 xV (Or.inl ne_x_J)))
    have f27 := (Fld.ext E20 (Fld.other W12 xC (Or.inl ne_x_J)))
    have f28 := ((tK.other W12 ne_t_J).ext E20)
    have f29 : n0 ≤ h17.size := (Nat.le_trans (by rw [W12.size]; exact z0) E20.1)
    refine Ai CW SW19 ?_
    intro vm36 C S37 rb38
    refine An C S37 hP1 hP2 hw 152 153 76 154 155 66 (Cf l Z a0 hw G1 G3 J _ _ _ _ _ _ cs (pp + 1) a18 k R h17 n0 f29 f21 f22 f23 f24 f25 f26 f27 f28 HS hrep hat14) 0 f22 [.ref a18] [] Cg ?_
    rintro T31 h32 v33 L34 S35 ⟨⟨rfl, e30⟩, -⟩
    rw [e30] at S35; clear e30
    refine Ac C S35 [(21, .istore_n 2, 1)] 22 #[Ab J, Aa (Int32.ofNat pp), Aa k, .unset] [] ?_
    have SW39 := rb38 _ _ 0 0 [] [] S35 (Keep.refl _ _) all0 all0
    refine Ea CW SW39 hF (ow hw 211 rfl) (As 7) (z := (8 : Int32)) (vs := [(.int 34), (.int 92), (.int 47), (.int 98), (.int 102), (.int 110), (.int 114), (.int 116)]) ⟨by decide, by decide⟩ (by decide) rfl (by decide +kernel) 32 (by decide) (by decide) (As 4) hP1 hP2 (Nat.add_le_add_left (by decide) P1) (Nat.add_le_add_left (by decide) P2) ?_
    intro T40 h41 a42 b43 k44 SW45 E46 x47 f48 f49 f50 ne51
    have f52 : Arv Z h41 b43 k44 .byte (Int32.ofNat Dk.length) (Cc Dk) (.int 0) := by rw [own_sie]; exact f50
    refine Ai CW SW45 ?_
    intro vm53 C S54 rb55
    refine Ac C S54 [(24, .iload_n 2, 1)] 25 #[Ab J, Aa (Int32.ofNat pp), Aa k, .unset] [.int k, .ref a42] ?_
    have f56 := (f21.ext E46)
    have f57 : n0 ≤ h41.size := (Nat.le_trans f29 E46.1)
    refine Cm C S54 hP1 hP2 hw 212 213 215 215 214 216 37 (own_sio l Z a0 hw G1 G3 a42 _ _ Dk k h41 n0 f57 f56 x47 f49 f48 f52 HS (own_sir k hk) own_sir (by decide) (by decide) own_rsi) 0 x47 [.int k] [] Ca ?_
    rintro T61 h62 v63 L64 S65 ⟨⟨y58, rfl, K59, p60⟩, -⟩
    refine Bv C S65 .lt 14 42 (fun (hq : y58 < (0 : Int32)) => False.elim (p60.elim (fun q => q.2 hk) (fun q => q.1 hq))) (fun (q66 : ¬ y58 < (0 : Int32)) => ?_)
    refine Ac C S65 [(31, .aload_n 0, 1), (32, .dup, 1)] 33 #[Ab J, Aa (Int32.ofNat pp), Aa k, .unset] [.ref J, .ref J] ?_
    have f67 := ((Fld.ext E46 f24).keep K59 nin0)
    refine Ah C S65 hw 91 f67 ?_
    intro T68 S69
    refine Ac C S69 [(36, .iconst 1, 1), (37, .iadd, 1)] 38 #[Ab J, Aa (Int32.ofNat pp), Aa k, .unset] [.int ((Int32.ofNat (pp + 1)) + (1 : Int32)), .ref J] ?_
    rw [show ((Int32.ofNat (pp + 1)) + (1 : Int32)) = (Int32.ofNat ((pp + 1) + 1)) from Af _]
    have f70 := ((Exa.ext E46 f22).keep K59)
    refine Bh C S69 hw 91 92 76 f67 f70 Ax ge_J ?_
    intro T71 h73 S72 W74
    have f75 : Fld Z h73 J "com/example/limit1/limit1/JsonText" "position" "I" (.int (Int32.ofNat ((pp + 1) + 1))) := Fld.same W74 f67
    have hat76 := (Ae.hd hat14).2.2
    have SW77 := rb55 _ _ 0 0 [J] [] S72 (((Keep.refl _ _).trans K59 all0).wr W74 (Ad 0)) (allS (As 0) all0) all0
    refine Ch CW SW77 hF (by decide +kernel) (by decide) (by decide) ?_
    have f78 := (Exa.wr W74 f70)
    have f79 := (Fld.other W74 ((Fld.ext E46 f23).keep K59 nin0) (Or.inr (Bb hw)))
    exact ⟨((pp + 1) + 1), rfl, ((((((Keep.refl _ _).wr W12 (Ad 0)).ext E20).ext E46).trans K59 all0).wr W74 (Ad 0)), f78, f75, f79, hat76⟩
  · refine Ai CW SW1 ?_
    intro vm80 C S81 rb82
    refine Ac C S81 [(0, .aload_n 0, 1)] 1 #[Ab J, .unset, .unset, .unset] [.ref J] ?_
    refine Ah C S81 hw 91 JP ?_
    intro T83 S84
    refine Ac C S84 [(4, .istore_n 1, 1), (5, .aload_n 0, 1), (6, .dup, 1)] 7 #[Ab J, Aa (Int32.ofNat pp), .unset, .unset] [.ref J, .ref J] ?_
    refine Ah C S84 hw 91 JP ?_
    intro T85 S86
    refine Ac C S86 [(10, .iconst 1, 1), (11, .iadd, 1)] 12 #[Ab J, Aa (Int32.ofNat pp), .unset, .unset] [.int ((Int32.ofNat pp) + (1 : Int32)), .ref J] ?_
    rw [show ((Int32.ofNat pp) + (1 : Int32)) = (Int32.ofNat (pp + 1)) from Af _]
    refine Bh C S86 hw 91 92 76 JP JE Ax ge_J ?_
    intro T87 h89 S88 W90
    have f91 : Fld Z h89 J "com/example/limit1/limit1/JsonText" "position" "I" (.int (Int32.ofNat (pp + 1))) := Fld.same W90 JP
    have hat92 := (Ae.hd hat).2.2
    refine Ac C S88 [(15, .aload_n 0, 1)] 16 #[Ab J, Aa (Int32.ofNat pp), .unset, .unset] [.ref J] ?_
    have SW93 := rb82 _ _ 0 0 [J] [] S88 ((Keep.refl _ _).wr W90 (Ad 0)) (allS (As 0) all0) all0
    refine Cv CW SW93 hF hP1 hP2 hw 210 3 80 ?_
    intro T94 h95 a96 SW97 E98
    have f99 := ((X00.wr W90 ge_J).ext E98)
    have f100 := (Exa.ext E98 (Exa.wr W90 JE))
    have f101 := (Fld.ext E98 (Fld.other W90 JX (Or.inr (Bb hw))))
    have f102 := (Fld.ext E98 f91)
    have f103 := (Exa.ext E98 (Exa.wr W90 xE))
    have f104 := (Fld.ext E98 (Fld.other W90 xV (Or.inl ne_x_J)))
    have f105 := (Fld.ext E98 (Fld.other W90 xC (Or.inl ne_x_J)))
    have f106 := ((tK.other W90 ne_t_J).ext E98)
    have f107 : n0 ≤ h95.size := (Nat.le_trans (by rw [W90.size]; exact z0) E98.1)
    refine Ai CW SW97 ?_
    intro vm114 C S115 rb116
    refine An C S115 hP1 hP2 hw 152 153 76 154 155 66 (Cf l Z a0 hw G1 G3 J _ _ _ _ _ _ cs (pp + 1) a96 117 (L ++ R) h95 n0 f107 f99 f100 f101 f102 f103 f104 f105 f106 HS hrep hat92) 0 f100 [.ref a96] [] Cg ?_
    rintro T109 h110 v111 L112 S113 ⟨⟨rfl, e108⟩, -⟩
    rw [e108] at S113; clear e108
    refine Ac C S113 [(21, .istore_n 2, 1)] 22 #[Ab J, Aa (Int32.ofNat pp), Aa 117, .unset] [] ?_
    have SW117 := rb116 _ _ 0 0 [] [] S113 (Keep.refl _ _) all0 all0
    refine Ea CW SW117 hF (ow hw 211 rfl) (As 7) (z := (8 : Int32)) (vs := [(.int 34), (.int 92), (.int 47), (.int 98), (.int 102), (.int 110), (.int 114), (.int 116)]) ⟨by decide, by decide⟩ (by decide) rfl (by decide +kernel) 32 (by decide) (by decide) (As 4) hP1 hP2 (Nat.add_le_add_left (by decide) P1) (Nat.add_le_add_left (by decide) P2) ?_
    intro T118 h119 a120 b121 k122 SW123 E124 x125 f126 f127 f128 ne129
    have f130 : Arv Z h119 b121 k122 .byte (Int32.ofNat Dk.length) (Cc Dk) (.int 0) := by rw [own_sie]; exact f128
    refine Ai CW SW123 ?_
    intro vm131 C S132 rb133
    refine Ac C S132 [(24, .iload_n 2, 1)] 25 #[Ab J, Aa (Int32.ofNat pp), Aa 117, .unset] [.int 117, .ref a120] ?_
    have f134 := (f99.ext E124)
    have f135 : n0 ≤ h119.size := (Nat.le_trans f107 E124.1)
    refine Cm C S132 hP1 hP2 hw 212 213 215 215 214 216 37 (own_sio l Z a0 hw G1 G3 a120 _ _ Dk 117 h119 n0 f135 f134 x125 f127 f126 f130 HS (by decide) own_sir (by decide) (by decide) own_rsi) 0 x125 [.int 117] [] Ca ?_
    rintro T139 h140 v141 L142 S143 ⟨⟨y136, rfl, K137, p138⟩, -⟩
    refine Bv C S143 .lt 14 42 (fun (q144 : y136 < (0 : Int32)) => ?_) (fun (hq : ¬ y136 < (0 : Int32)) => False.elim (absurd (p138.elim (fun q => absurd q.1 hq) (fun q => q.2)) (by decide)))
    refine Ac C S143 [(42, .iload_n 2, 1), (43, .bipush 117, 2), (45, .if_icmp .eq 17, 3), (62, .aload_n 0, 1), (63, .dup, 1)] 64 #[Ab J, Aa (Int32.ofNat pp), Aa 117, .unset] [.ref J, .ref J] ?_
    have f145 := ((Fld.ext E124 f102).keep K137 nin0)
    refine Ah C S143 hw 91 f145 ?_
    intro T146 S147
    refine Ac C S147 [(67, .iconst 1, 1), (68, .iadd, 1)] 69 #[Ab J, Aa (Int32.ofNat pp), Aa 117, .unset] [.int ((Int32.ofNat (pp + 1)) + (1 : Int32)), .ref J] ?_
    rw [show ((Int32.ofNat (pp + 1)) + (1 : Int32)) = (Int32.ofNat ((pp + 1) + 1)) from Af _]
    have f148 := ((Exa.ext E124 f100).keep K137)
    refine Bh C S147 hw 91 92 76 f145 f148 Ax ge_J ?_
    intro T149 h151 S150 W152
    have f153 : Fld Z h151 J "com/example/limit1/limit1/JsonText" "position" "I" (.int (Int32.ofNat ((pp + 1) + 1))) := Fld.same W152 f145
    have hat154 := (Ae.hd hat92).2.2
    refine Ac C S150 [(72, .aload_n 0, 1)] 73 #[Ab J, Aa (Int32.ofNat pp), Aa 117, .unset] [.ref J] ?_
    have f155 := ((f134.keep K137 all0).wr W152 ge_J)
    have f156 := (Exa.wr W152 f148)
    have f157 := (Fld.other W152 ((Fld.ext E124 f101).keep K137 nin0) (Or.inr (Bb hw)))
    have f158 := (Exa.wr W152 ((Exa.ext E124 f103).keep K137))
    have f159 := (Fld.other W152 ((Fld.ext E124 f104).keep K137 nin0) (Or.inl ne_x_J))
    have f160 := (Fld.other W152 ((Fld.ext E124 f105).keep K137 nin0) (Or.inl ne_x_J))
    have f161 := (((f106.ext E124).keep K137 nin0).other W152 ne_t_J)
    have f162 : n0 ≤ h151.size := (by rw [W152.size]; exact (Nat.le_trans f135 K137.1))
    refine An C S150 hP1 hP2 hw 321 322 76 323 324 66 (own_rhu l Z a0 hw G1 G3 J _ _ _ _ _ _ cs ((pp + 1) + 1) L u R h151 n0 f162 ge_J f155 f156 f157 f153 f158 f159 f160 f161 ne_x_J ne_t_J HS hrep hat154 hx) 0 f156 [] [] own_pd18 ?_
    rintro T169 h170 v171 L172 S173 ⟨⟨y163, rfl, K164, f165, f166, f167, p168⟩, -⟩
    refine Ac C S173 [(76, .istore_n 3, 1), (77, .iload_n 3, 1)] 78 #[Ab J, Aa (Int32.ofNat pp), Aa 117, Aa u] [.int u] ?_
    have f174 : n0 ≤ h170.size := (Nat.le_trans f162 K164.1)
    refine Bj C S173 hP1 hP2 hw 303 304 241 305 (own_ils l Z a0 hw u h170 n0 f174) 0 [.int u] [] Av ?_
    rintro T178 h179 v180 L181 S182 ⟨⟨y175, rfl, e176, p177⟩, -⟩
    rw [e176] at S182; clear e176
    have hr183 : y175 = (0 : Int32) := Dr.zero p177 hl
    subst hr183
    refine Ac C S182 [(81, .ifCond .eq 9, 3), (90, .iload_n 3, 1)] 91 #[Ab J, Aa (Int32.ofNat pp), Aa 117, Aa u] [.int u] ?_
    refine Bj C S182 hP1 hP2 hw 239 240 241 242 (own_ihs l Z a0 hw u h170 n0 f174) 0 [.int u] [] Av ?_
    rintro T187 h188 v189 L190 S191 ⟨⟨y184, rfl, e185, p186⟩, -⟩
    rw [e185] at S191; clear e185
    have hr192 : y184 = (0 : Int32) := Dr.zero p186 hh
    subst hr192
    refine Ac C S191 [(94, .ifCond .eq 51, 3)] 145 #[Ab J, Aa (Int32.ofNat pp), Aa 117, Aa u] [] ?_
    have SW193 := rb133 _ _ 0 0 [J] [] S191 ((((Keep.refl _ _).trans K137 all0).wr W152 (Ad 0)).trans K164 (allS (Ad 0) all0)) (allS (As 0) all0) all0
    refine Ch CW SW193 hF (by decide +kernel) (by decide) (by decide) ?_
    exact ⟨y163, rfl, (((((((Keep.refl _ _).wr W90 (Ad 0)).ext E98).ext E124).trans K137 all0).wr W152 (Ad 0)).trans K164 (allS (Ad 0) all0)), f165, f166, f167, p168⟩
  · refine Ai CW SW1 ?_
    intro vm194 C S195 rb196
    refine Ac C S195 [(0, .aload_n 0, 1)] 1 #[Ab J, .unset, .unset, .unset] [.ref J] ?_
    refine Ah C S195 hw 91 JP ?_
    intro T197 S198
    refine Ac C S198 [(4, .istore_n 1, 1), (5, .aload_n 0, 1), (6, .dup, 1)] 7 #[Ab J, Aa (Int32.ofNat pp), .unset, .unset] [.ref J, .ref J] ?_
    refine Ah C S198 hw 91 JP ?_
    intro T199 S200
    refine Ac C S200 [(10, .iconst 1, 1), (11, .iadd, 1)] 12 #[Ab J, Aa (Int32.ofNat pp), .unset, .unset] [.int ((Int32.ofNat pp) + (1 : Int32)), .ref J] ?_
    rw [show ((Int32.ofNat pp) + (1 : Int32)) = (Int32.ofNat (pp + 1)) from Af _]
    refine Bh C S200 hw 91 92 76 JP JE Ax ge_J ?_
    intro T201 h203 S202 W204
    have f205 : Fld Z h203 J "com/example/limit1/limit1/JsonText" "position" "I" (.int (Int32.ofNat (pp + 1))) := Fld.same W204 JP
    have hat206 := (Ae.hd hat).2.2
    refine Ac C S202 [(15, .aload_n 0, 1)] 16 #[Ab J, Aa (Int32.ofNat pp), .unset, .unset] [.ref J] ?_
    have SW207 := rb196 _ _ 0 0 [J] [] S202 ((Keep.refl _ _).wr W204 (Ad 0)) (allS (As 0) all0) all0
    refine Cv CW SW207 hF hP1 hP2 hw 210 3 80 ?_
    intro T208 h209 a210 SW211 E212
    have f213 := ((X00.wr W204 ge_J).ext E212)
    have f214 := (Exa.ext E212 (Exa.wr W204 JE))
    have f215 := (Fld.ext E212 (Fld.other W204 JX (Or.inr (Bb hw))))
    have f216 := (Fld.ext E212 f205)
    have f217 := (Exa.ext E212 (Exa.wr W204 xE))
    have f218 := (Fld.ext E212 (Fld.other W204 xV (Or.inl ne_x_J)))
    have f219 := (Fld.ext E212 (Fld.other W204 xC (Or.inl ne_x_J)))
    have f220 := ((tK.other W204 ne_t_J).ext E212)
    have f221 : n0 ≤ h209.size := (Nat.le_trans (by rw [W204.size]; exact z0) E212.1)
    refine Ai CW SW211 ?_
    intro vm228 C S229 rb230
    refine An C S229 hP1 hP2 hw 152 153 76 154 155 66 (Cf l Z a0 hw G1 G3 J _ _ _ _ _ _ cs (pp + 1) a210 117 (L ++ 92 :: 117 :: (M ++ R)) h209 n0 f221 f213 f214 f215 f216 f217 f218 f219 f220 HS hrep hat206) 0 f214 [.ref a210] [] Cg ?_
    rintro T223 h224 v225 L226 S227 ⟨⟨rfl, e222⟩, -⟩
    rw [e222] at S227; clear e222
    refine Ac C S227 [(21, .istore_n 2, 1)] 22 #[Ab J, Aa (Int32.ofNat pp), Aa 117, .unset] [] ?_
    have SW231 := rb230 _ _ 0 0 [] [] S227 (Keep.refl _ _) all0 all0
    refine Ea CW SW231 hF (ow hw 211 rfl) (As 7) (z := (8 : Int32)) (vs := [(.int 34), (.int 92), (.int 47), (.int 98), (.int 102), (.int 110), (.int 114), (.int 116)]) ⟨by decide, by decide⟩ (by decide) rfl (by decide +kernel) 32 (by decide) (by decide) (As 4) hP1 hP2 (Nat.add_le_add_left (by decide) P1) (Nat.add_le_add_left (by decide) P2) ?_
    intro T232 h233 a234 b235 k236 SW237 E238 x239 f240 f241 f242 ne243
    have f244 : Arv Z h233 b235 k236 .byte (Int32.ofNat Dk.length) (Cc Dk) (.int 0) := by rw [own_sie]; exact f242
    refine Ai CW SW237 ?_
    intro vm245 C S246 rb247
    refine Ac C S246 [(24, .iload_n 2, 1)] 25 #[Ab J, Aa (Int32.ofNat pp), Aa 117, .unset] [.int 117, .ref a234] ?_
    have f248 := (f213.ext E238)
    have f249 : n0 ≤ h233.size := (Nat.le_trans f221 E238.1)
    refine Cm C S246 hP1 hP2 hw 212 213 215 215 214 216 37 (own_sio l Z a0 hw G1 G3 a234 _ _ Dk 117 h233 n0 f249 f248 x239 f241 f240 f244 HS (by decide) own_sir (by decide) (by decide) own_rsi) 0 x239 [.int 117] [] Ca ?_
    rintro T253 h254 v255 L256 S257 ⟨⟨y250, rfl, K251, p252⟩, -⟩
    refine Bv C S257 .lt 14 42 (fun (q258 : y250 < (0 : Int32)) => ?_) (fun (hq : ¬ y250 < (0 : Int32)) => False.elim (absurd (p252.elim (fun q => absurd q.1 hq) (fun q => q.2)) (by decide)))
    refine Ac C S257 [(42, .iload_n 2, 1), (43, .bipush 117, 2), (45, .if_icmp .eq 17, 3), (62, .aload_n 0, 1), (63, .dup, 1)] 64 #[Ab J, Aa (Int32.ofNat pp), Aa 117, .unset] [.ref J, .ref J] ?_
    have f259 := ((Fld.ext E238 f216).keep K251 nin0)
    refine Ah C S257 hw 91 f259 ?_
    intro T260 S261
    refine Ac C S261 [(67, .iconst 1, 1), (68, .iadd, 1)] 69 #[Ab J, Aa (Int32.ofNat pp), Aa 117, .unset] [.int ((Int32.ofNat (pp + 1)) + (1 : Int32)), .ref J] ?_
    rw [show ((Int32.ofNat (pp + 1)) + (1 : Int32)) = (Int32.ofNat ((pp + 1) + 1)) from Af _]
    have f262 := ((Exa.ext E238 f214).keep K251)
    refine Bh C S261 hw 91 92 76 f259 f262 Ax ge_J ?_
    intro T263 h265 S264 W266
    have f267 : Fld Z h265 J "com/example/limit1/limit1/JsonText" "position" "I" (.int (Int32.ofNat ((pp + 1) + 1))) := Fld.same W266 f259
    have hat268 := (Ae.hd hat206).2.2
    refine Ac C S264 [(72, .aload_n 0, 1)] 73 #[Ab J, Aa (Int32.ofNat pp), Aa 117, .unset] [.ref J] ?_
    have f269 := ((f248.keep K251 all0).wr W266 ge_J)
    have f270 := (Exa.wr W266 f262)
    have f271 := (Fld.other W266 ((Fld.ext E238 f215).keep K251 nin0) (Or.inr (Bb hw)))
    have f272 := (Exa.wr W266 ((Exa.ext E238 f217).keep K251))
    have f273 := (Fld.other W266 ((Fld.ext E238 f218).keep K251 nin0) (Or.inl ne_x_J))
    have f274 := (Fld.other W266 ((Fld.ext E238 f219).keep K251 nin0) (Or.inl ne_x_J))
    have f275 := (((f220.ext E238).keep K251 nin0).other W266 ne_t_J)
    have f276 : n0 ≤ h265.size := (by rw [W266.size]; exact (Nat.le_trans f249 K251.1))
    refine An C S264 hP1 hP2 hw 321 322 76 323 324 66 (own_rhu l Z a0 hw G1 G3 J _ _ _ _ _ _ cs ((pp + 1) + 1) L u (92 :: 117 :: (M ++ R)) h265 n0 f276 ge_J f269 f270 f271 f267 f272 f273 f274 f275 ne_x_J ne_t_J HS hrep hat268 hx) 0 f270 [] [] own_pd18 ?_
    rintro T283 h284 v285 L286 S287 ⟨⟨y277, rfl, K278, f279, f280, f281, p282⟩, -⟩
    refine Ac C S287 [(76, .istore_n 3, 1), (77, .iload_n 3, 1)] 78 #[Ab J, Aa (Int32.ofNat pp), Aa 117, Aa u] [.int u] ?_
    have f288 : n0 ≤ h284.size := (Nat.le_trans f276 K278.1)
    refine Bj C S287 hP1 hP2 hw 303 304 241 305 (own_ils l Z a0 hw u h284 n0 f288) 0 [.int u] [] Av ?_
    rintro T292 h293 v294 L295 S296 ⟨⟨y289, rfl, e290, p291⟩, -⟩
    rw [e290] at S296; clear e290
    have hr297 : y289 = (0 : Int32) := Dr.zero p291 (Db.no hh)
    subst hr297
    refine Ac C S296 [(81, .ifCond .eq 9, 3), (90, .iload_n 3, 1)] 91 #[Ab J, Aa (Int32.ofNat pp), Aa 117, Aa u] [.int u] ?_
    refine Bj C S296 hP1 hP2 hw 239 240 241 242 (own_ihs l Z a0 hw u h284 n0 f288) 0 [.int u] [] Av ?_
    rintro T301 h302 v303 L304 S305 ⟨⟨y298, rfl, e299, p300⟩, -⟩
    rw [e299] at S305; clear e299
    have hr306 : y298 = (1 : Int32) := Dr.one p300 hh
    subst hr306
    refine Ac C S305 [(94, .ifCond .eq 51, 3), (97, .aload_n 0, 1)] 98 #[Ab J, Aa (Int32.ofNat pp), Aa 117, Aa u] [.ref J] ?_
    refine Ah C S305 hw 81 f281 ?_
    intro T307 S308
    have SW309 := rb247 _ _ 0 0 [J] [] S308 ((((Keep.refl _ _).trans K251 all0).wr W266 (Ad 0)).trans K278 (allS (Ad 0) all0)) (allS (As 0) all0) all0
    refine Ea CW SW309 hF (ow hw 328 rfl) (As 8) (z := (2 : Int32)) (vs := [(.int 92), (.int 117)]) ⟨by decide, by decide⟩ (by decide) rfl (by decide +kernel) 8 (by decide) (by decide) (As 6) hP1 hP2 (Nat.add_le_add_left (by decide) P1) (Nat.add_le_add_left (by decide) P2) ?_
    intro T310 h311 a312 b313 k314 SW315 E316 x317 f318 f319 f320 ne321
    refine Ai CW SW315 ?_
    intro vm322 C S323 rb324
    refine Ac C S323 [(103, .aload_n 0, 1)] 104 #[Ab J, Aa (Int32.ofNat pp), Aa 117, Aa u] [.ref J, .ref a312, .ref x] ?_
    have f325 := (Fld.ext E316 f280)
    refine Ah C S323 hw 91 f325 ?_
    intro T326 S327
    have f328 := ((f269.keep K278 (allS ge_J all0)).ext E316)
    have f329 := (Exa.ext E316 (f272.keep K278))
    have f330 := (Fld.ext E316 (f273.keep K278 (ninS ne_x_J nin0)))
    have f331 := (Fld.ext E316 (f274.keep K278 (ninS ne_x_J nin0)))
    have f332 := ((f275.keep K278 (ninS ne_t_J nin0)).ext E316)
    have f333 : n0 ≤ h311.size := (Nat.le_trans f288 E316.1)
    refine Cm C S327 hP1 hP2 hw 329 330 332 332 331 333 37 (own_sws l Z a0 hw G1 G3 x _ _ _ _ _ cs a312 _ _ y277 (M ++ R) h311 n0 f333 f328 f329 f330 f331 f332 x317 f319 f318 f320 HS hrep p282) 0 f329 [.ref a312, .int (Int32.ofNat y277)] [] own_pd19 ?_
    rintro T335 h336 v337 L338 S339 ⟨⟨rfl, e334⟩, -⟩
    rw [e334] at S339; clear e334
    refine Ac C S339 [(110, .ifCond .ne 9, 3), (119, .aload_n 0, 1), (120, .dup, 1)] 121 #[Ab J, Aa (Int32.ofNat pp), Aa 117, Aa u] [.ref J, .ref J] ?_
    refine Ah C S339 hw 91 f325 ?_
    intro T340 S341
    refine Ac C S341 [(124, .iconst 2, 1), (125, .iadd, 1)] 126 #[Ab J, Aa (Int32.ofNat pp), Aa 117, Aa u] [.int ((Int32.ofNat y277) + (2 : Int32)), .ref J] ?_
    rw [show ((Int32.ofNat y277) + (2 : Int32)) = (Int32.ofNat (y277 + 1 + 1)) from own_s2 _]
    have f342 := (Exa.ext E316 f279)
    refine Bh C S341 hw 91 92 76 f325 f342 Ax ge_J ?_
    intro T343 h345 S344 W346
    have f347 : Fld Z h345 J "com/example/limit1/limit1/JsonText" "position" "I" (.int (Int32.ofNat (y277 + 1 + 1))) := Fld.same W346 f325
    have hat348 := (Ae.hd (Ae.hd p282).2.2).2.2
    refine Ac C S344 [(129, .aload_n 0, 1)] 130 #[Ab J, Aa (Int32.ofNat pp), Aa 117, Aa u] [.ref J] ?_
    have f349 := (f328.wr W346 ge_J)
    have f350 := (Exa.wr W346 f342)
    have f351 := (Fld.other W346 (Fld.ext E316 f281) (Or.inr (Bb hw)))
    have f352 := (Exa.wr W346 f329)
    have f353 := (Fld.other W346 f330 (Or.inl ne_x_J))
    have f354 := (Fld.other W346 f331 (Or.inl ne_x_J))
    have f355 := (f332.other W346 ne_t_J)
    have f356 : n0 ≤ h345.size := (by rw [W346.size]; exact f333)
    refine An C S344 hP1 hP2 hw 321 322 76 323 324 66 (own_rhu l Z a0 hw G1 G3 J _ _ _ _ _ _ cs (y277 + 1 + 1) M v R h345 n0 f356 ge_J f349 f350 f351 f347 f352 f353 f354 f355 ne_x_J ne_t_J HS hrep hat348 hy) 0 f350 [] [] own_pd18 ?_
    rintro T363 h364 v365 L366 S367 ⟨⟨y357, rfl, K358, f359, f360, f361, p362⟩, -⟩
    have f368 : n0 ≤ h364.size := (Nat.le_trans f356 K358.1)
    refine Bj C S367 hP1 hP2 hw 303 304 241 305 (own_ils l Z a0 hw v h364 n0 f368) 0 [.int v] [] Av ?_
    rintro T372 h373 v374 L375 S376 ⟨⟨y369, rfl, e370, p371⟩, -⟩
    rw [e370] at S376; clear e370
    have hr377 : y369 = (1 : Int32) := Dr.one p371 hl
    subst hr377
    refine Ac C S376 [(136, .ifCond .ne 9, 3)] 145 #[Ab J, Aa (Int32.ofNat pp), Aa 117, Aa u] [] ?_
    have SW378 := rb324 _ _ 0 0 [J] [] S376 (((Keep.refl _ _).wr W346 (Ad 0)).trans K358 (allS (Ad 0) all0)) (allS (As 0) all0) all0
    refine Ch CW SW378 hF (by decide +kernel) (by decide) (by decide) ?_
    exact ⟨y357, rfl, ((((((((((Keep.refl _ _).wr W204 (Ad 0)).ext E212).ext E238).trans K251 all0).wr W266 (Ad 0)).trans K278 (allS (Ad 0) all0)).ext E316).wr W346 (Ad 0)).trans K358 (allS (Ad 0) all0)), f359, f360, f361, p362⟩
theorem own_cst (hw : Ar a0 Z) (hEL : EW Z a0 Br) (wS : ∀ a ∈ Bundle.stringAtoms, a.before a0 Z = true) (G1 : Int32) (G3 : Value) (J : Addr) (x : Addr) (t : Addr) (tk : ClassId) (kd : Int32) (N : Int32) (vs : List Value) (cs : List Int32) (pp : Nat) (B : List Int32) (R : List Int32) (h0 : Heap) (n0 : Nat) (z0 : n0 ≤ h0.size) (ge_J : n0 ≤ J) (X00 : Old Z n0 h0) (JE : Exa Z h0 J "com/example/limit1/limit1/JsonText") (JX : Fld Z h0 J "com/example/limit1/limit1/JsonText" "text" "Ljava/lang/String;" (.ref x)) (JP : Fld Z h0 J "com/example/limit1/limit1/JsonText" "position" "I" (.int (Int32.ofNat pp))) (xE : Exa Z h0 x "java/lang/String") (xV : Fld Z h0 x "java/lang/String" "value" "[B" (.ref t)) (xC : Fld Z h0 x "java/lang/String" "coder" "B" (.int kd)) (tK : Arv Z h0 t tk .byte N vs (.int 0)) (ne_x_J : x ≠ J) (ne_t_J : t ≠ J) (HS : Bg Z G1 G3) (hrep : Bx cs kd N vs) (hat : Ae cs pp (34 :: (B ++ 34 :: R))) (hB : Dm B) :
    Co l Z Br Cw (⟨"com/example/limit1/limit1/JsonText", "checkString", "()V"⟩ : MethodName) prog_7_method_11_code 2 none 7 2 36 96 0 0 n0 #[(.ref J)] h0 [] (fun v h => ∃ q : Nat, v = none ∧ Keep h0 h [J] ∧ Exa Z h J "com/example/limit1/limit1/JsonText" ∧ Fld Z h J "com/example/limit1/limit1/JsonText" "position" "I" (.int (Int32.ofNat q)) ∧ Fld Z h J "com/example/limit1/limit1/JsonText" "text" "Ljava/lang/String;" (.ref x) ∧ (Ae cs q R)) := by
  refine Eh hEL wS #[.val (.ref J), .unset] ?_
  intro fC fS P1 P2 p e s m below meth c T0 CW hF hP1 hP2 SW0
  have SW1 : Bz p l e ({ frames := 7, cells := P1 + 2, slots := P2 + 36, locals := 96 } : Room) s m #[(.ref J)] below meth c n0 Z Br fC fS "com/example/limit1/limit1/JsonText" T0 h0 [J] 0 0 := SW0.addE JE (by decide) (by decide)
  have h88 := hrep.2.1
  refine Ai CW SW1 ?_
  intro vm2 C S3 rb4
  refine Ac C S3 [(0, .aload_n 0, 1), (1, .dup, 1)] 2 #[Ab J, .unset] [.ref J, .ref J] ?_
  refine Ah C S3 hw 91 JP ?_
  intro T5 S6
  refine Ac C S6 [(5, .iconst 1, 1), (6, .iadd, 1)] 7 #[Ab J, .unset] [.int ((Int32.ofNat pp) + (1 : Int32)), .ref J] ?_
  rw [show ((Int32.ofNat pp) + (1 : Int32)) = (Int32.ofNat (pp + 1)) from Af _]
  refine Bh C S6 hw 91 92 76 JP JE Ax ge_J ?_
  intro T7 h9 S8 W10
  have f11 : Fld Z h9 J "com/example/limit1/limit1/JsonText" "position" "I" (.int (Int32.ofNat (pp + 1))) := Fld.same W10 JP
  have hat12 := (Ae.hd hat).2.2
  obtain ⟨us, rfl, hus⟩ := hB
  have SW13 := rb4 _ _ 0 0 [J] [] S8 ((Keep.refl _ _).wr W10 (Ad 0)) (allS (As 0) all0) all0
  have loop : ∀ (ul : List (List Int32)) (T15 : State) (h14 : Heap) (p1 : Nat) (z1 : Slot), Bz p l e ({ frames := 7, cells := P1 + 2, slots := P2 + 36, locals := 96 } : Room) s m #[(.ref J)] below meth c n0 Z Br fC fS "com/example/limit1/limit1/JsonText" T15 h14 [J] 0 0 → Keep h0 h14 [J] → Fld Z h14 J "com/example/limit1/limit1/JsonText" "text" "Ljava/lang/String;" (.ref x) → Fld Z h14 J "com/example/limit1/limit1/JsonText" "position" "I" (.int (Int32.ofNat p1)) → (Ae cs p1 (ul.flatten ++ 34 :: R)) → (∀ u ∈ ul, own_U u) → (z1 = .unset ∨ ∃ y, z1 = .val (.int y)) → Aj p e below (Dj s n0 Z Br Cw (fun v h => ∃ q : Nat, v = none ∧ Keep h0 h [J] ∧ Exa Z h J "com/example/limit1/limit1/JsonText" ∧ Fld Z h J "com/example/limit1/limit1/JsonText" "position" "I" (.int (Int32.ofNat q)) ∧ Fld Z h J "com/example/limit1/limit1/JsonText" "text" "Ljava/lang/String;" (.ref x) ∧ (Ae cs q R)) 0 0) T15 (mkF m 10 #[Ab J, z1] []) := by
    intro ul
    induction ul with
    | nil =>
      intro T15 h14 p1 z1 S16 K17 JX1 JP1 hat1 hu1 hz
      refine Ai CW S16 ?_
      intro vm18 C S19 rb20
      refine Ac C S19 [(10, .aload_n 0, 1)] 11 #[Ab J, z1] [.ref J] ?_
      have SW21 := rb20 _ _ 0 0 [] [] S19 (Keep.refl _ _) all0 all0
      refine Cv CW SW21 hF hP1 hP2 hw 205 2 12 ?_
      intro T22 h23 a24 SW25 E26
      have f27 := ((X00.keep K17 (allS ge_J all0)).ext E26)
      have f28 := (Exa.ext E26 (JE.keep K17))
      have f29 := (Fld.ext E26 JX1)
      have f30 := (Fld.ext E26 JP1)
      have f31 := (Exa.ext E26 (xE.keep K17))
      have f32 := (Fld.ext E26 (xV.keep K17 (ninS ne_x_J nin0)))
      have f33 := (Fld.ext E26 (xC.keep K17 (ninS ne_x_J nin0)))
      have f34 := ((tK.keep K17 (ninS ne_t_J nin0)).ext E26)
      have f35 : n0 ≤ h23.size := (Nat.le_trans (Nat.le_trans z0 K17.1) E26.1)
      refine Ai CW SW25 ?_
      intro vm42 C S43 rb44
      refine An C S43 hP1 hP2 hw 152 153 76 154 155 66 (Cf l Z a0 hw G1 G3 J _ _ _ _ _ _ cs p1 a24 34 R h23 n0 f35 f27 f28 f29 f30 f31 f32 f33 f34 HS hrep hat1) 0 f28 [.ref a24] [] Cg ?_
      rintro T37 h38 v39 L40 S41 ⟨⟨rfl, e36⟩, -⟩
      rw [e36] at S41; clear e36
      rcases hz with rfl | ⟨y0, rfl⟩
      · refine Ac C S41 [(16, .istore_n 1, 1), (17, .iload_n 1, 1), (18, .bipush 34, 2), (20, .if_icmp .ne 14, 3), (23, .aload_n 0, 1), (24, .dup, 1)] 25 #[Ab J, Aa 34] [.ref J, .ref J] ?_
        refine Ah C S41 hw 91 f30 ?_
        intro T45 S46
        refine Ac C S46 [(28, .iconst 1, 1), (29, .iadd, 1)] 30 #[Ab J, Aa 34] [.int ((Int32.ofNat p1) + (1 : Int32)), .ref J] ?_
        rw [show ((Int32.ofNat p1) + (1 : Int32)) = (Int32.ofNat (p1 + 1)) from Af _]
        refine Bh C S46 hw 91 92 76 f30 f28 Ax ge_J ?_
        intro T47 h49 S48 W50
        have f51 : Fld Z h49 J "com/example/limit1/limit1/JsonText" "position" "I" (.int (Int32.ofNat (p1 + 1))) := Fld.same W50 f30
        have hat52 := (Ae.hd hat1).2.2
        have SW53 := rb44 _ _ 0 0 [J] [] S48 ((Keep.refl _ _).wr W50 (Ad 0)) (allS (As 0) all0) all0
        refine Ch CW SW53 hF (by decide +kernel) (by decide) (by decide) ?_
        have f54 := (Exa.wr W50 f28)
        have f55 := (Fld.other W50 f29 (Or.inr (Bb hw)))
        exact ⟨(p1 + 1), rfl, ((((Keep.refl _ _).trans K17 (allS (Ad 0) all0)).ext E26).wr W50 (Ad 0)), f54, f51, f55, hat52⟩
      · refine Ac C S41 [(16, .istore_n 1, 1), (17, .iload_n 1, 1), (18, .bipush 34, 2), (20, .if_icmp .ne 14, 3), (23, .aload_n 0, 1), (24, .dup, 1)] 25 #[Ab J, Aa 34] [.ref J, .ref J] ?_
        refine Ah C S41 hw 91 f30 ?_
        intro T56 S57
        refine Ac C S57 [(28, .iconst 1, 1), (29, .iadd, 1)] 30 #[Ab J, Aa 34] [.int ((Int32.ofNat p1) + (1 : Int32)), .ref J] ?_
        rw [show ((Int32.ofNat p1) + (1 : Int32)) = (Int32.ofNat (p1 + 1)) from Af _]
        refine Bh C S57 hw 91 92 76 f30 f28 Ax ge_J ?_
        intro T58 h60 S59 W61
        have f62 : Fld Z h60 J "com/example/limit1/limit1/JsonText" "position" "I" (.int (Int32.ofNat (p1 + 1))) := Fld.same W61 f30
        have hat63 := (Ae.hd hat1).2.2
        have SW64 := rb44 _ _ 0 0 [J] [] S59 ((Keep.refl _ _).wr W61 (Ad 0)) (allS (As 0) all0) all0
        refine Ch CW SW64 hF (by decide +kernel) (by decide) (by decide) ?_
        have f65 := (Exa.wr W61 f28)
        have f66 := (Fld.other W61 f29 (Or.inr (Bb hw)))
        exact ⟨(p1 + 1), rfl, ((((Keep.refl _ _).trans K17 (allS (Ad 0) all0)).ext E26).wr W61 (Ad 0)), f65, f62, f66, hat63⟩
    | cons u ul ih =>
      intro T15 h14 p1 z1 S16 K17 JX1 JP1 hat1 hu1 hz
      have hu2 : ∀ u ∈ ul, own_U u := fun z hz => hu1 z (List.mem_cons_of_mem _ hz)
      rcases hu1 u (List.mem_cons_self ..) with ⟨k, rfl, hr⟩ | ⟨ka, kb, rfl, ha, hb⟩ | hE
      · have hat2 : Ae cs p1 (k :: (ul.flatten ++ 34 :: R)) := hat1
        refine Ai CW S16 ?_
        intro vm67 C S68 rb69
        refine Ac C S68 [(10, .aload_n 0, 1)] 11 #[Ab J, z1] [.ref J] ?_
        have SW70 := rb69 _ _ 0 0 [] [] S68 (Keep.refl _ _) all0 all0
        refine Cv CW SW70 hF hP1 hP2 hw 205 2 12 ?_
        intro T71 h72 a73 SW74 E75
        have f76 := ((X00.keep K17 (allS ge_J all0)).ext E75)
        have f77 := (Exa.ext E75 (JE.keep K17))
        have f78 := (Fld.ext E75 JX1)
        have f79 := (Fld.ext E75 JP1)
        have f80 := (Exa.ext E75 (xE.keep K17))
        have f81 := (Fld.ext E75 (xV.keep K17 (ninS ne_x_J nin0)))
        have f82 := (Fld.ext E75 (xC.keep K17 (ninS ne_x_J nin0)))
        have f83 := ((tK.keep K17 (ninS ne_t_J nin0)).ext E75)
        have f84 : n0 ≤ h72.size := (Nat.le_trans (Nat.le_trans z0 K17.1) E75.1)
        refine Ai CW SW74 ?_
        intro vm91 C S92 rb93
        refine An C S92 hP1 hP2 hw 152 153 76 154 155 66 (Cf l Z a0 hw G1 G3 J _ _ _ _ _ _ cs p1 a73 k (ul.flatten ++ 34 :: R) h72 n0 f84 f76 f77 f78 f79 f80 f81 f82 f83 HS hrep hat2) 0 f77 [.ref a73] [] Cg ?_
        rintro T86 h87 v88 L89 S90 ⟨⟨rfl, e85⟩, -⟩
        rw [e85] at S90; clear e85
        have J17 : ∀ (T94 : State), Az p l e ({ frames := 7, cells := P1 + 2, slots := P2 + 36, locals := 96 } : Room) (s.setVm vm91) m #[(.ref J)] below meth c n0 T94 h72 ((fC s.vm - fC vm91) + 0) ((fS s.vm - fS vm91) + 0) → Aj p e below (Dj s n0 Z Br Cw (fun v h => ∃ q : Nat, v = none ∧ Keep h0 h [J] ∧ Exa Z h J "com/example/limit1/limit1/JsonText" ∧ Fld Z h J "com/example/limit1/limit1/JsonText" "position" "I" (.int (Int32.ofNat q)) ∧ Fld Z h J "com/example/limit1/limit1/JsonText" "text" "Ljava/lang/String;" (.ref x) ∧ (Ae cs q R)) 0 0) T94 (mkF m 17 #[Ab J, Aa k] []) := by
          intro T94 S95
          refine Ac C S95 [(17, .iload_n 1, 1), (18, .bipush 34, 2)] 20 #[Ab J, Aa k] [.int 34, .int k] ?_
          refine Ao C S95 .ne 14 34 (fun (q96 : ¬ k = (34 : Int32)) => ?_) (fun (hq : k = (34 : Int32)) => False.elim (hr.1 hq))
          refine Ac C S95 [(34, .iload_n 1, 1), (35, .bipush 92, 2)] 37 #[Ab J, Aa k] [.int 92, .int k] ?_
          refine Ao C S95 .ne 10 47 (fun (q97 : ¬ k = (92 : Int32)) => ?_) (fun (hq : k = (92 : Int32)) => False.elim (hr.2.1 hq))
          refine Ac C S95 [(47, .iload_n 1, 1), (48, .bipush 32, 2)] 50 #[Ab J, Aa k] [.int 32, .int k] ?_
          refine Ao C S95 .ge 20 70 (fun (q98 : ¬ k < (32 : Int32)) => ?_) (fun (hq : k < (32 : Int32)) => False.elim (hr.2.2.1 hq))
          refine Ac C S95 [(70, .iload_n 1, 1)] 71 #[Ab J, Aa k] [.int k] ?_
          refine Bj C S95 hP1 hP2 hw 239 240 241 242 (own_ihs l Z a0 hw k h72 n0 f84) 0 [.int k] [] Av ?_
          rintro T102 h103 v104 L105 S106 ⟨⟨y99, rfl, e100, p101⟩, -⟩
          rw [e100] at S106; clear e100
          have hr107 : y99 = (0 : Int32) := Dr.zero p101 (fun q => hr.2.2.2 q.su)
          subst hr107
          refine Ac C S106 [(74, .ifCond .eq 51, 3), (125, .iload_n 1, 1)] 126 #[Ab J, Aa k] [.int k] ?_
          refine Bj C S106 hP1 hP2 hw 244 245 241 246 (own_isu l Z a0 hw k h72 n0 f84) 0 [.int k] [] Av ?_
          rintro T111 h112 v113 L114 S115 ⟨⟨y108, rfl, e109, p110⟩, -⟩
          rw [e109] at S115; clear e109
          have hr116 : y108 = (0 : Int32) := Dr.zero p110 hr.2.2.2
          subst hr116
          refine Ac C S115 [(129, .ifCond .eq 12, 3), (141, .aload_n 0, 1), (142, .dup, 1)] 143 #[Ab J, Aa k] [.ref J, .ref J] ?_
          refine Ah C S115 hw 91 f79 ?_
          intro T117 S118
          refine Ac C S118 [(146, .iconst 1, 1), (147, .iadd, 1)] 148 #[Ab J, Aa k] [.int ((Int32.ofNat p1) + (1 : Int32)), .ref J] ?_
          rw [show ((Int32.ofNat p1) + (1 : Int32)) = (Int32.ofNat (p1 + 1)) from Af _]
          refine Bh C S118 hw 91 92 76 f79 f77 Ax ge_J ?_
          intro T119 h121 S120 W122
          have f123 : Fld Z h121 J "com/example/limit1/limit1/JsonText" "position" "I" (.int (Int32.ofNat (p1 + 1))) := Fld.same W122 f79
          have hat124 := (Ae.hd hat2).2.2
          have f125 := (Fld.other W122 f78 (Or.inr (Bb hw)))
          have SW126 := rb93 _ _ 0 0 [J] [] S120 ((Keep.refl _ _).wr W122 (Ad 0)) (allS (As 0) all0) all0
          refine Ac C S120 [(151, .goto (-141), 3)] 10 #[Ab J, Aa k] [] ?_
          exact ih T119 h121 (p1 + 1) _ SW126 ((((Keep.refl _ _).trans K17 (allS (Ad 0) all0)).ext E75).wr W122 (Ad 0)) f125 f123 hat124 hu2 (Or.inr ⟨_, rfl⟩)
        rcases hz with rfl | ⟨y0, rfl⟩
        · refine Ac C S90 [(16, .istore_n 1, 1)] 17 #[Ab J, Aa k] [] ?_
          exact J17 T86 S90
        · refine Ac C S90 [(16, .istore_n 1, 1)] 17 #[Ab J, Aa k] [] ?_
          exact J17 T86 S90
      · have hat2 : Ae cs p1 (ka :: (kb :: (ul.flatten ++ 34 :: R))) := hat1
        refine Ai CW S16 ?_
        intro vm127 C S128 rb129
        refine Ac C S128 [(10, .aload_n 0, 1)] 11 #[Ab J, z1] [.ref J] ?_
        have SW130 := rb129 _ _ 0 0 [] [] S128 (Keep.refl _ _) all0 all0
        refine Cv CW SW130 hF hP1 hP2 hw 205 2 12 ?_
        intro T131 h132 a133 SW134 E135
        have f136 := ((X00.keep K17 (allS ge_J all0)).ext E135)
        have f137 := (Exa.ext E135 (JE.keep K17))
        have f138 := (Fld.ext E135 JX1)
        have f139 := (Fld.ext E135 JP1)
        have f140 := (Exa.ext E135 (xE.keep K17))
        have f141 := (Fld.ext E135 (xV.keep K17 (ninS ne_x_J nin0)))
        have f142 := (Fld.ext E135 (xC.keep K17 (ninS ne_x_J nin0)))
        have f143 := ((tK.keep K17 (ninS ne_t_J nin0)).ext E135)
        have f144 : n0 ≤ h132.size := (Nat.le_trans (Nat.le_trans z0 K17.1) E135.1)
        refine Ai CW SW134 ?_
        intro vm151 C S152 rb153
        refine An C S152 hP1 hP2 hw 152 153 76 154 155 66 (Cf l Z a0 hw G1 G3 J _ _ _ _ _ _ cs p1 a133 ka (kb :: (ul.flatten ++ 34 :: R)) h132 n0 f144 f136 f137 f138 f139 f140 f141 f142 f143 HS hrep hat2) 0 f137 [.ref a133] [] Cg ?_
        rintro T146 h147 v148 L149 S150 ⟨⟨rfl, e145⟩, -⟩
        rw [e145] at S150; clear e145
        have J17 : ∀ (T154 : State), Az p l e ({ frames := 7, cells := P1 + 2, slots := P2 + 36, locals := 96 } : Room) (s.setVm vm151) m #[(.ref J)] below meth c n0 T154 h132 ((fC s.vm - fC vm151) + 0) ((fS s.vm - fS vm151) + 0) → Aj p e below (Dj s n0 Z Br Cw (fun v h => ∃ q : Nat, v = none ∧ Keep h0 h [J] ∧ Exa Z h J "com/example/limit1/limit1/JsonText" ∧ Fld Z h J "com/example/limit1/limit1/JsonText" "position" "I" (.int (Int32.ofNat q)) ∧ Fld Z h J "com/example/limit1/limit1/JsonText" "text" "Ljava/lang/String;" (.ref x) ∧ (Ae cs q R)) 0 0) T154 (mkF m 17 #[Ab J, Aa ka] []) := by
          intro T154 S155
          have hg := Ae.hd hat2
          have hg2 := Ae.hd hg.2.2
          refine Ac C S155 [(17, .iload_n 1, 1), (18, .bipush 34, 2)] 20 #[Ab J, Aa ka] [.int 34, .int ka] ?_
          refine Ao C S155 .ne 14 34 (fun (q156 : ¬ ka = (34 : Int32)) => ?_) (fun (hq : ka = (34 : Int32)) => False.elim (ha.big.1 hq))
          refine Ac C S155 [(34, .iload_n 1, 1), (35, .bipush 92, 2)] 37 #[Ab J, Aa ka] [.int 92, .int ka] ?_
          refine Ao C S155 .ne 10 47 (fun (q157 : ¬ ka = (92 : Int32)) => ?_) (fun (hq : ka = (92 : Int32)) => False.elim (ha.big.2.1 hq))
          refine Ac C S155 [(47, .iload_n 1, 1), (48, .bipush 32, 2)] 50 #[Ab J, Aa ka] [.int 32, .int ka] ?_
          refine Ao C S155 .ge 20 70 (fun (q158 : ¬ ka < (32 : Int32)) => ?_) (fun (hq : ka < (32 : Int32)) => False.elim (ha.big.2.2 hq))
          refine Ac C S155 [(70, .iload_n 1, 1)] 71 #[Ab J, Aa ka] [.int ka] ?_
          refine Bj C S155 hP1 hP2 hw 239 240 241 242 (own_ihs l Z a0 hw ka h132 n0 f144) 0 [.int ka] [] Av ?_
          rintro T162 h163 v164 L165 S166 ⟨⟨y159, rfl, e160, p161⟩, -⟩
          rw [e160] at S166; clear e160
          have hr167 : y159 = (1 : Int32) := Dr.one p161 ha
          subst hr167
          refine Ac C S166 [(74, .ifCond .eq 51, 3), (77, .aload_n 0, 1)] 78 #[Ab J, Aa ka] [.ref J] ?_
          refine Ah C S166 hw 91 f139 ?_
          intro T168 S169
          refine Ac C S169 [(81, .iconst 1, 1), (82, .iadd, 1), (83, .aload_n 0, 1)] 84 #[Ab J, Aa ka] [.ref J, .int ((Int32.ofNat p1) + (1 : Int32))] ?_
          refine Ah C S169 hw 81 f138 ?_
          intro T170 S171
          refine Cm C S171 hP1 hP2 hw 93 94 96 96 95 97 37 (Cx l Z a0 hw G1 G3 x _ _ _ _ _ cs h132 n0 f144 f136 f140 f141 f142 f143 HS hrep) 1 f140 [] [.int ((Int32.ofNat p1) + (1 : Int32))] Cy ?_
          rintro T173 h174 v175 L176 S177 ⟨⟨rfl, e172⟩, -⟩
          rw [e172] at S177; clear e172
          rw [show ((Int32.ofNat p1) + (1 : Int32)) = (Int32.ofNat (p1 + 1)) from Af _]
          refine Ao C S177 .ge 35 125 (fun (hq : ¬ (Int32.ofNat (p1 + 1)) < (Int32.ofNat cs.length)) => False.elim (hq (Cb hg2.1 (by omega)))) (fun (q178 : (Int32.ofNat (p1 + 1)) < (Int32.ofNat cs.length)) => ?_)
          refine Ac C S177 [(93, .aload_n 0, 1)] 94 #[Ab J, Aa ka] [.ref J] ?_
          refine Ah C S177 hw 81 f138 ?_
          intro T179 S180
          refine Ac C S180 [(97, .aload_n 0, 1)] 98 #[Ab J, Aa ka] [.ref J, .ref x] ?_
          refine Ah C S180 hw 91 f139 ?_
          intro T181 S182
          refine Ac C S182 [(101, .iconst 1, 1), (102, .iadd, 1)] 103 #[Ab J, Aa ka] [.int ((Int32.ofNat p1) + (1 : Int32)), .ref x] ?_
          rw [show ((Int32.ofNat p1) + (1 : Int32)) = (Int32.ofNat (p1 + 1)) from Af _]
          refine Cm C S182 hP1 hP2 hw 103 104 106 106 105 107 37 (Dv l Z a0 hw G1 G3 x _ _ _ _ _ cs (p1 + 1) h132 n0 f144 f136 f140 f141 f142 f143 HS hrep hg2.1) 0 f140 [.int (Int32.ofNat (p1 + 1))] [] Ct ?_
          rintro T184 h185 v186 L187 S188 ⟨⟨rfl, e183⟩, -⟩
          rw [e183] at S188; clear e183
          rw [show (cs.getD (p1 + 1) 0) = kb from hg2.2.1]
          refine Bj C S188 hP1 hP2 hw 303 304 241 305 (own_ils l Z a0 hw kb h132 n0 f144) 0 [.int kb] [] Av ?_
          rintro T192 h193 v194 L195 S196 ⟨⟨y189, rfl, e190, p191⟩, -⟩
          rw [e190] at S196; clear e190
          have hr197 : y189 = (1 : Int32) := Dr.one p191 hb
          subst hr197
          refine Ac C S196 [(109, .ifCond .eq 16, 3), (112, .aload_n 0, 1), (113, .dup, 1)] 114 #[Ab J, Aa ka] [.ref J, .ref J] ?_
          refine Ah C S196 hw 91 f139 ?_
          intro T198 S199
          refine Ac C S199 [(117, .iconst 2, 1), (118, .iadd, 1)] 119 #[Ab J, Aa ka] [.int ((Int32.ofNat p1) + (2 : Int32)), .ref J] ?_
          rw [show ((Int32.ofNat p1) + (2 : Int32)) = (Int32.ofNat (p1 + 1 + 1)) from own_s2 _]
          refine Bh C S199 hw 91 92 76 f139 f137 Ax ge_J ?_
          intro T200 h202 S201 W203
          have f204 : Fld Z h202 J "com/example/limit1/limit1/JsonText" "position" "I" (.int (Int32.ofNat (p1 + 1 + 1))) := Fld.same W203 f139
          have hat3 := hg2.2.2
          have f205 := (Fld.other W203 f138 (Or.inr (Bb hw)))
          have SW206 := rb153 _ _ 0 0 [J] [] S201 ((Keep.refl _ _).wr W203 (Ad 0)) (allS (As 0) all0) all0
          refine Ac C S201 [(122, .goto 29, 3), (151, .goto (-141), 3)] 10 #[Ab J, Aa ka] [] ?_
          exact ih T200 h202 (p1 + 1 + 1) _ SW206 ((((Keep.refl _ _).trans K17 (allS (Ad 0) all0)).ext E135).wr W203 (Ad 0)) f205 f204 hat3 hu2 (Or.inr ⟨_, rfl⟩)
        rcases hz with rfl | ⟨y0, rfl⟩
        · refine Ac C S150 [(16, .istore_n 1, 1)] 17 #[Ab J, Aa ka] [] ?_
          exact J17 T146 S150
        · refine Ac C S150 [(16, .istore_n 1, 1)] 17 #[Ab J, Aa ka] [] ?_
          exact J17 T146 S150
      · have hE1 := hE (ul.flatten ++ 34 :: R)
        have hat4 : Ae cs p1 (u ++ (ul.flatten ++ 34 :: R)) := by rw [← List.append_assoc, ← List.flatten_cons]; exact hat1
        obtain ⟨r0, hr0⟩ := hE1.hd
        have hat2 : Ae cs p1 ((92 : Int32) :: r0) := (by rw [← hr0]; exact hat4)
        refine Ai CW S16 ?_
        intro vm207 C S208 rb209
        refine Ac C S208 [(10, .aload_n 0, 1)] 11 #[Ab J, z1] [.ref J] ?_
        have SW210 := rb209 _ _ 0 0 [] [] S208 (Keep.refl _ _) all0 all0
        refine Cv CW SW210 hF hP1 hP2 hw 205 2 12 ?_
        intro T211 h212 a213 SW214 E215
        have f216 := ((X00.keep K17 (allS ge_J all0)).ext E215)
        have f217 := (Exa.ext E215 (JE.keep K17))
        have f218 := (Fld.ext E215 JX1)
        have f219 := (Fld.ext E215 JP1)
        have f220 := (Exa.ext E215 (xE.keep K17))
        have f221 := (Fld.ext E215 (xV.keep K17 (ninS ne_x_J nin0)))
        have f222 := (Fld.ext E215 (xC.keep K17 (ninS ne_x_J nin0)))
        have f223 := ((tK.keep K17 (ninS ne_t_J nin0)).ext E215)
        have f224 : n0 ≤ h212.size := (Nat.le_trans (Nat.le_trans z0 K17.1) E215.1)
        refine Ai CW SW214 ?_
        intro vm231 C S232 rb233
        refine An C S232 hP1 hP2 hw 152 153 76 154 155 66 (Cf l Z a0 hw G1 G3 J _ _ _ _ _ _ cs p1 a213 92 r0 h212 n0 f224 f216 f217 f218 f219 f220 f221 f222 f223 HS hrep hat2) 0 f217 [.ref a213] [] Cg ?_
        rintro T226 h227 v228 L229 S230 ⟨⟨rfl, e225⟩, -⟩
        rw [e225] at S230; clear e225
        have J17 : ∀ (T234 : State), Az p l e ({ frames := 7, cells := P1 + 2, slots := P2 + 36, locals := 96 } : Room) (s.setVm vm231) m #[(.ref J)] below meth c n0 T234 h212 ((fC s.vm - fC vm231) + 0) ((fS s.vm - fS vm231) + 0) → Aj p e below (Dj s n0 Z Br Cw (fun v h => ∃ q : Nat, v = none ∧ Keep h0 h [J] ∧ Exa Z h J "com/example/limit1/limit1/JsonText" ∧ Fld Z h J "com/example/limit1/limit1/JsonText" "position" "I" (.int (Int32.ofNat q)) ∧ Fld Z h J "com/example/limit1/limit1/JsonText" "text" "Ljava/lang/String;" (.ref x) ∧ (Ae cs q R)) 0 0) T234 (mkF m 17 #[Ab J, Aa 92] []) := by
          intro T234 S235
          refine Ac C S235 [(17, .iload_n 1, 1), (18, .bipush 34, 2), (20, .if_icmp .ne 14, 3), (34, .iload_n 1, 1), (35, .bipush 92, 2), (37, .if_icmp .ne 10, 3), (40, .aload_n 0, 1)] 41 #[Ab J, Aa 92] [.ref J] ?_
          have SW247 := rb233 _ _ 0 0 [] [] S235 (Keep.refl _ _) all0 all0
          refine Cu CW SW247 hF hP1 hP2 hw 206 207 76 208 209 66 (own_esc l Z a0 hw hEL wS G1 G3 J _ _ _ _ _ _ cs p1 (u ++ (ul.flatten ++ 34 :: R)) (ul.flatten ++ 34 :: R) h212 n0 f224 ge_J f216 f217 f218 f219 f220 f221 f222 f223 ne_x_J ne_t_J HS hrep hat4 hE1) 0 f217 [] [] At ?_
          rintro T248 h249 v250 SW251 hg252 ⟨y236, rfl, K237, f238, f239, f240, p241⟩
          refine Ai CW SW251 ?_
          intro vm253 C S254 rb255
          have SW256 := rb255 _ _ 0 0 [] [] S254 (Keep.refl _ _) all0 all0
          refine Ac C S254 [(44, .goto 107, 3), (151, .goto (-141), 3)] 10 #[Ab J, Aa 92] [] ?_
          exact ih T248 h249 y236 _ SW256 ((((Keep.refl _ _).trans K17 (allS (Ad 0) all0)).ext E215).trans K237 (allS (Ad 0) all0)) f240 f239 p241 hu2 (Or.inr ⟨_, rfl⟩)
        rcases hz with rfl | ⟨y0, rfl⟩
        · refine Ac C S230 [(16, .istore_n 1, 1)] 17 #[Ab J, Aa 92] [] ?_
          exact J17 T226 S230
        · refine Ac C S230 [(16, .istore_n 1, 1)] 17 #[Ab J, Aa 92] [] ?_
          exact J17 T226 S230
  have f257 := (Fld.other W10 JX (Or.inr (Bb hw)))
  exact loop us T7 h9 (pp + 1) .unset SW13 ((Keep.refl _ _).wr W10 (Ad 0)) f257 f11 hat12 hus (Or.inl rfl)
theorem own_cmn (hw : Ar a0 Z) (hEL : EW Z a0 Br) (wS : ∀ a ∈ Bundle.stringAtoms, a.before a0 Z = true) (G1 : Int32) (G3 : Value) (J : Addr) (x : Addr) (t : Addr) (tk : ClassId) (kd : Int32) (N : Int32) (vs : List Value) (cs : List Int32) (pp : Nat) (W1 : List Int32) (B : List Int32) (W2 : List Int32) (R : List Int32) (h0 : Heap) (n0 : Nat) (z0 : n0 ≤ h0.size) (ge_J : n0 ≤ J) (X00 : Old Z n0 h0) (JE : Exa Z h0 J "com/example/limit1/limit1/JsonText") (JX : Fld Z h0 J "com/example/limit1/limit1/JsonText" "text" "Ljava/lang/String;" (.ref x)) (JP : Fld Z h0 J "com/example/limit1/limit1/JsonText" "position" "I" (.int (Int32.ofNat pp))) (xE : Exa Z h0 x "java/lang/String") (xV : Fld Z h0 x "java/lang/String" "value" "[B" (.ref t)) (xC : Fld Z h0 x "java/lang/String" "coder" "B" (.int kd)) (tK : Arv Z h0 t tk .byte N vs (.int 0)) (ne_x_J : x ≠ J) (ne_t_J : t ≠ J) (HS : Bg Z G1 G3) (hrep : Bx cs kd N vs) (hat : Ae cs pp (W1 ++ 34 :: (B ++ 34 :: (W2 ++ 58 :: R)))) (h1 : ∀ k ∈ W1, Aw k) (hB : Dm B) (h2 : ∀ k ∈ W2, Aw k) :
    Co l Z Br Cw (⟨"com/example/limit1/limit1/JsonText", "checkMemberName", "()V"⟩ : MethodName) prog_7_method_6_code 1 none 8 2 36 109 0 0 n0 #[(.ref J)] h0 [] (fun v h => ∃ q : Nat, v = none ∧ Keep h0 h [J] ∧ Exa Z h J "com/example/limit1/limit1/JsonText" ∧ Fld Z h J "com/example/limit1/limit1/JsonText" "position" "I" (.int (Int32.ofNat q)) ∧ Fld Z h J "com/example/limit1/limit1/JsonText" "text" "Ljava/lang/String;" (.ref x) ∧ (Ae cs q R)) := by
  refine Eh hEL wS #[.val (.ref J)] ?_
  intro fC fS P1 P2 p e s m below meth c T0 CW hF hP1 hP2 SW0
  have SW1 : Bz p l e ({ frames := 8, cells := P1 + 2, slots := P2 + 36, locals := 109 } : Room) s m #[(.ref J)] below meth c n0 Z Br fC fS "com/example/limit1/limit1/JsonText" T0 h0 [J] 0 0 := SW0.addE JE (by decide) (by decide)
  refine Ai CW SW1 ?_
  intro vm2 C S3 rb4
  refine Ac C S3 [(0, .aload_n 0, 1)] 1 #[Ab J] [.ref J] ?_
  refine An C S3 hP1 hP2 hw 87 88 76 89 90 66 (Bo l Z a0 hw G1 G3 J _ _ _ _ _ _ cs pp W1 (34 :: (B ++ 34 :: (W2 ++ 58 :: R))) h0 n0 z0 ge_J X00 JE JX JP xE xV xC tK ne_x_J ne_t_J HS hrep hat h1 (Bn (by unfold Aw; decide))) 0 JE [] [] At ?_
  rintro T11 h12 v13 L14 S15 ⟨⟨y5, rfl, K6, f7, f8, f9, p10⟩, -⟩
  refine Ac C S15 [(4, .aload_n 0, 1), (5, .bipush 34, 2)] 7 #[Ab J] [.int 34, .ref J] ?_
  have f16 := (X00.keep K6 (allS ge_J all0))
  have f17 := (xE.keep K6)
  have f18 := (xV.keep K6 (ninS ne_x_J nin0))
  have f19 := (xC.keep K6 (ninS ne_x_J nin0))
  have f20 := (tK.keep K6 (ninS ne_t_J nin0))
  have f21 : n0 ≤ h12.size := (Nat.le_trans z0 K6.1)
  refine An C S15 hP1 hP2 hw 156 157 76 158 159 66 (Bf l Z a0 hw G1 G3 J _ _ _ _ _ _ cs y5 34 34 (B ++ 34 :: (W2 ++ 58 :: R)) h12 n0 f21 f16 f7 f9 f8 f17 f18 f19 f20 HS hrep p10) 0 f7 [.int 34] [] Av ?_
  rintro T25 h26 v27 L28 S29 ⟨⟨y22, rfl, e23, p24⟩, -⟩
  rw [e23] at S29; clear e23
  have hr30 : y22 = (1 : Int32) := Bl.one p24 rfl
  subst hr30
  refine Ac C S29 [(10, .ifCond .ne 10, 3), (20, .aload_n 0, 1)] 21 #[Ab J] [.ref J] ?_
  have SW42 := rb4 _ _ 0 0 [J] [] S29 ((Keep.refl _ _).trans K6 (allS (Ad 0) all0)) (allS (As 0) all0) all0
  refine Cu CW SW42 hF hP1 hP2 hw 201 202 76 203 204 66 (own_cst l Z a0 hw hEL wS G1 G3 J _ _ _ _ _ _ cs y5 B (W2 ++ 58 :: R) h12 n0 f21 ge_J f16 f7 f9 f8 f17 f18 f19 f20 ne_x_J ne_t_J HS hrep p10 hB) 0 f7 [] [] At ?_
  rintro T43 h44 v45 SW46 hg47 ⟨y31, rfl, K32, f33, f34, f35, p36⟩
  refine Ai CW SW46 ?_
  intro vm48 C S49 rb50
  refine Ac C S49 [(24, .aload_n 0, 1)] 25 #[Ab J] [.ref J] ?_
  have f51 := (f16.keep K32 (allS ge_J all0))
  have f52 := (f17.keep K32)
  have f53 := (f18.keep K32 (ninS ne_x_J nin0))
  have f54 := (f19.keep K32 (ninS ne_x_J nin0))
  have f55 := (f20.keep K32 (ninS ne_t_J nin0))
  have f56 : n0 ≤ h44.size := (Nat.le_trans f21 K32.1)
  refine An C S49 hP1 hP2 hw 87 88 76 89 90 66 (Bo l Z a0 hw G1 G3 J _ _ _ _ _ _ cs y31 W2 (58 :: R) h44 n0 f56 ge_J f51 f33 f35 f34 f52 f53 f54 f55 ne_x_J ne_t_J HS hrep p36 h2 (Bn (by unfold Aw; decide))) 0 f33 [] [] At ?_
  rintro T63 h64 v65 L66 S67 ⟨⟨y57, rfl, K58, f59, f60, f61, p62⟩, -⟩
  refine Ac C S67 [(28, .aload_n 0, 1), (29, .bipush 58, 2)] 31 #[Ab J] [.int 58, .ref J] ?_
  have f68 := (f51.keep K58 (allS ge_J all0))
  have f69 := (f52.keep K58)
  have f70 := (f53.keep K58 (ninS ne_x_J nin0))
  have f71 := (f54.keep K58 (ninS ne_x_J nin0))
  have f72 := (f55.keep K58 (ninS ne_t_J nin0))
  have f73 : n0 ≤ h64.size := (Nat.le_trans f56 K58.1)
  refine An C S67 hP1 hP2 hw 156 157 76 158 159 66 (Bf l Z a0 hw G1 G3 J _ _ _ _ _ _ cs y57 58 58 R h64 n0 f73 f68 f59 f61 f60 f69 f70 f71 f72 HS hrep p62) 0 f59 [.int 58] [] Av ?_
  rintro T77 h78 v79 L80 S81 ⟨⟨y74, rfl, e75, p76⟩, -⟩
  rw [e75] at S81; clear e75
  have hr82 : y74 = (1 : Int32) := Bl.one p76 rfl
  subst hr82
  refine Ac C S81 [(34, .ifCond .ne 10, 3), (44, .aload_n 0, 1), (45, .dup, 1)] 46 #[Ab J] [.ref J, .ref J] ?_
  refine Ah C S81 hw 91 f60 ?_
  intro T83 S84
  refine Ac C S84 [(49, .iconst 1, 1), (50, .iadd, 1)] 51 #[Ab J] [.int ((Int32.ofNat y57) + (1 : Int32)), .ref J] ?_
  rw [show ((Int32.ofNat y57) + (1 : Int32)) = (Int32.ofNat (y57 + 1)) from Af _]
  refine Bh C S84 hw 91 92 76 f60 f59 Ax ge_J ?_
  intro T85 h87 S86 W88
  have f89 : Fld Z h87 J "com/example/limit1/limit1/JsonText" "position" "I" (.int (Int32.ofNat (y57 + 1))) := Fld.same W88 f60
  have hat90 := (Ae.hd p62).2.2
  have SW91 := rb50 _ _ 0 0 [J] [] S86 (((Keep.refl _ _).trans K58 (allS (Ad 0) all0)).wr W88 (Ad 0)) (allS (As 0) all0) all0
  refine Ch CW SW91 hF (by decide +kernel) (by decide) (by decide) ?_
  have f92 := (Exa.wr W88 f59)
  have f93 := (Fld.other W88 f61 (Or.inr (Bb hw)))
  exact ⟨(y57 + 1), rfl, (((((Keep.refl _ _).trans K6 (allS (Ad 0) all0)).trans K32 (allS (Ad 0) all0)).trans K58 (allS (Ad 0) all0)).wr W88 (Ad 0)), f92, f89, f93, hat90⟩
theorem Fo : parseMethodDescriptor "(Ljava/lang/String;)V" = some ⟨[(.object "java/lang/String")], none⟩ := by decide +kernel
theorem Fu (hw : Ar a0 Z) (hEL : EW Z a0 Br) (wS : ∀ a ∈ Bundle.stringAtoms, a.before a0 Z = true) (G1 : Int32) (G3 : Value) (J : Addr) (x : Addr) (t : Addr) (tk : ClassId) (kd : Int32) (N : Int32) (vs : List Value) (cs : List Int32) (pp : Nat) (ch : Int32) (S : List Int32) (R : List Int32) (S0 : List Int32) (h0 : Heap) (n0 : Nat) (z0 : n0 ≤ h0.size) (ge_J : n0 ≤ J) (X00 : Old Z n0 h0) (JE : Exa Z h0 J "com/example/limit1/limit1/JsonText") (JX : Fld Z h0 J "com/example/limit1/limit1/JsonText" "text" "Ljava/lang/String;" (.ref x)) (JP : Fld Z h0 J "com/example/limit1/limit1/JsonText" "position" "I" (.int (Int32.ofNat pp))) (xE : Exa Z h0 x "java/lang/String") (xV : Fld Z h0 x "java/lang/String" "value" "[B" (.ref t)) (xC : Fld Z h0 x "java/lang/String" "coder" "B" (.int kd)) (tK : Arv Z h0 t tk .byte N vs (.int 0)) (ne_x_J : x ≠ J) (ne_t_J : t ≠ J) (HS : Bg Z G1 G3) (hrep : Bx cs kd N vs) (hat : Ae cs pp S) (hS : Df S R) (hS0 : S = ch :: S0) :
    Co l Z Br Cw (⟨"com/example/limit1/limit1/JsonText", "checkScalar", "(C)V"⟩ : MethodName) prog_7_method_7_code 2 none 8 2 36 109 0 0 n0 #[(.ref J), (.int ch)] h0 [] (fun v h => ∃ q : Nat, v = none ∧ Keep h0 h [J] ∧ Exa Z h J "com/example/limit1/limit1/JsonText" ∧ Fld Z h J "com/example/limit1/limit1/JsonText" "position" "I" (.int (Int32.ofNat q)) ∧ Fld Z h J "com/example/limit1/limit1/JsonText" "text" "Ljava/lang/String;" (.ref x) ∧ (Ae cs q R)) := by
  refine Eh hEL wS #[.val (.ref J), .val (.int ch)] ?_
  intro fC fS P1 P2 p e s m below meth c T0 CW hF hP1 hP2 SW0
  obtain ⟨O2, O4, P5, rG3, OA, OH, OL, OB⟩ := id HS
  have SW1 : Bz p l e ({ frames := 8, cells := P1 + 2, slots := P2 + 36, locals := 109 } : Room) s m #[(.ref J), (.int ch)] below meth c n0 Z Br fC fS "com/example/limit1/limit1/JsonText" T0 h0 [J] 0 0 := SW0.addE JE (by decide) (by decide)
  rcases hS with ⟨B, rfl, hB⟩ | rfl | rfl | rfl | ⟨tm, rm, rfl, htm, hN⟩
  · have hch : ch = 34 := by injection hS0 with e1; exact e1.symm
    subst hch
    refine Ai CW SW1 ?_
    intro vm2 C S3 rb4
    refine Ac C S3 [(0, .iload_n 1, 1)] 1 #[Ab J, Aa 34] [.int 34] ?_
    refine own_lsw C S3 (df := 77) (prs := #[(34, 43), (102, 59), (110, 68), (116, 50)]) (len := 43) (a := 34) (off := 43) (by decide +kernel) (by decide) (by decide) (by decide) 44 (by decide) ?_
    refine Ac C S3 [(44, .aload_n 0, 1)] 45 #[Ab J, Aa 34] [.ref J] ?_
    have SW16 := rb4 _ _ 0 0 [] [] S3 (Keep.refl _ _) all0 all0
    refine Cu CW SW16 hF hP1 hP2 hw 201 202 76 203 204 66 (own_cst l Z a0 hw hEL wS G1 G3 J _ _ _ _ _ _ cs pp B R h0 n0 z0 ge_J X00 JE JX JP xE xV xC tK ne_x_J ne_t_J HS hrep hat hB) 0 JE [] [] At ?_
    rintro T17 h18 v19 SW20 hg21 ⟨y5, rfl, K6, f7, f8, f9, p10⟩
    refine Ai CW SW20 ?_
    intro vm22 C S23 rb24
    refine Ac C S23 [(48, .goto 54, 3)] 102 #[Ab J, Aa 34] [] ?_
    have SW25 := rb24 _ _ 0 0 [] [] S23 (Keep.refl _ _) all0 all0
    refine Ch CW SW25 hF (by decide +kernel) (by decide) (by decide) ?_
    exact ⟨y5, rfl, ((Keep.refl _ _).trans K6 (allS (Ad 0) all0)), f7, f8, f9, p10⟩
  · have hch : ch = 116 := by injection hS0 with e1; exact e1.symm
    subst hch
    refine Ai CW SW1 ?_
    intro vm26 C S27 rb28
    refine Ac C S27 [(0, .iload_n 1, 1)] 1 #[Ab J, Aa 116] [.int 116] ?_
    refine own_lsw C S27 (df := 77) (prs := #[(34, 43), (102, 59), (110, 68), (116, 50)]) (len := 43) (a := 116) (off := 50) (by decide +kernel) (by decide) (by decide) (by decide) 51 (by decide) ?_
    refine Ac C S27 [(51, .aload_n 0, 1)] 52 #[Ab J, Aa 116] [.ref J] ?_
    have SW29 := rb28 _ _ 0 0 [] [] S27 (Keep.refl _ _) all0 all0
    refine Ea CW SW29 hF (ow hw 247 rfl) (As 2) (z := (4 : Int32)) (vs := [(.int 116), (.int 114), (.int 117), (.int 101)]) ⟨by decide, by decide⟩ (by decide) rfl (by decide +kernel) 16 (by decide) (by decide) (As 5) hP1 hP2 (Nat.add_le_add_left (by decide) P1) (Nat.add_le_add_left (by decide) P2) ?_
    intro T30 h31 a32 b33 k34 SW35 E36 x37 f38 f39 f40 ne41
    have f42 := (X00.ext E36)
    have f43 := (Exa.ext E36 JE)
    have f44 := (Fld.ext E36 JX)
    have f45 := (Fld.ext E36 JP)
    have f46 := (Exa.ext E36 xE)
    have f47 := (Fld.ext E36 xV)
    have f48 := (Fld.ext E36 xC)
    have f49 := (tK.ext E36)
    have f50 : n0 ≤ h31.size := (Nat.le_trans z0 E36.1)
    refine Ai CW SW35 ?_
    intro vm62 C S63 rb64
    refine An C S63 hP1 hP2 hw 248 249 76 250 251 66 (own_clit l Z a0 hw G1 G3 J _ _ _ _ _ _ cs pp a32 _ _ _ _ _ ([116, 114, 117, 101]) R h31 n0 f50 ge_J f42 f43 f44 f45 f46 f47 f48 f49 x37 f39 f38 f40 ne_x_J ne_t_J (Ne.symm (ne41 J (As 0)).1) (Ne.symm (ne41 J (As 0)).2) HS hrep hat own_rtrue) 0 f43 [.ref a32] [] Fo ?_
    rintro T57 h58 v59 L60 S61 ⟨⟨y51, rfl, K52, f53, f54, f55, p56⟩, -⟩
    refine Ac C S61 [(57, .goto 45, 3)] 102 #[Ab J, Aa 116] [] ?_
    have SW65 := rb64 _ _ 0 0 [J] [] S61 ((Keep.refl _ _).trans K52 (allS (Ad 0) all0)) (allS (As 0) all0) all0
    refine Ch CW SW65 hF (by decide +kernel) (by decide) (by decide) ?_
    exact ⟨y51, rfl, (((Keep.refl _ _).ext E36).trans K52 (allS (Ad 0) all0)), f53, f54, f55, p56⟩
  · have hch : ch = 102 := by injection hS0 with e1; exact e1.symm
    subst hch
    refine Ai CW SW1 ?_
    intro vm66 C S67 rb68
    refine Ac C S67 [(0, .iload_n 1, 1)] 1 #[Ab J, Aa 102] [.int 102] ?_
    refine own_lsw C S67 (df := 77) (prs := #[(34, 43), (102, 59), (110, 68), (116, 50)]) (len := 43) (a := 102) (off := 59) (by decide +kernel) (by decide) (by decide) (by decide) 60 (by decide) ?_
    refine Ac C S67 [(60, .aload_n 0, 1)] 61 #[Ab J, Aa 102] [.ref J] ?_
    have SW69 := rb68 _ _ 0 0 [] [] S67 (Keep.refl _ _) all0 all0
    refine Ea CW SW69 hF (ow hw 339 rfl) (As 3) (z := (5 : Int32)) (vs := [(.int 102), (.int 97), (.int 108), (.int 115), (.int 101)]) ⟨by decide, by decide⟩ (by decide) rfl (by decide +kernel) 20 (by decide) (by decide) (As 7) hP1 hP2 (Nat.add_le_add_left (by decide) P1) (Nat.add_le_add_left (by decide) P2) ?_
    intro T70 h71 a72 b73 k74 SW75 E76 x77 f78 f79 f80 ne81
    have f82 := (X00.ext E76)
    have f83 := (Exa.ext E76 JE)
    have f84 := (Fld.ext E76 JX)
    have f85 := (Fld.ext E76 JP)
    have f86 := (Exa.ext E76 xE)
    have f87 := (Fld.ext E76 xV)
    have f88 := (Fld.ext E76 xC)
    have f89 := (tK.ext E76)
    have f90 : n0 ≤ h71.size := (Nat.le_trans z0 E76.1)
    refine Ai CW SW75 ?_
    intro vm102 C S103 rb104
    refine An C S103 hP1 hP2 hw 248 249 76 250 251 66 (own_clit l Z a0 hw G1 G3 J _ _ _ _ _ _ cs pp a72 _ _ _ _ _ ([102, 97, 108, 115, 101]) R h71 n0 f90 ge_J f82 f83 f84 f85 f86 f87 f88 f89 x77 f79 f78 f80 ne_x_J ne_t_J (Ne.symm (ne81 J (As 0)).1) (Ne.symm (ne81 J (As 0)).2) HS hrep hat own_rfalse) 0 f83 [.ref a72] [] Fo ?_
    rintro T97 h98 v99 L100 S101 ⟨⟨y91, rfl, K92, f93, f94, f95, p96⟩, -⟩
    refine Ac C S101 [(66, .goto 36, 3)] 102 #[Ab J, Aa 102] [] ?_
    have SW105 := rb104 _ _ 0 0 [J] [] S101 ((Keep.refl _ _).trans K92 (allS (Ad 0) all0)) (allS (As 0) all0) all0
    refine Ch CW SW105 hF (by decide +kernel) (by decide) (by decide) ?_
    exact ⟨y91, rfl, (((Keep.refl _ _).ext E76).trans K92 (allS (Ad 0) all0)), f93, f94, f95, p96⟩
  · have hch : ch = 110 := by injection hS0 with e1; exact e1.symm
    subst hch
    refine Ai CW SW1 ?_
    intro vm106 C S107 rb108
    refine Ac C S107 [(0, .iload_n 1, 1)] 1 #[Ab J, Aa 110] [.int 110] ?_
    refine own_lsw C S107 (df := 77) (prs := #[(34, 43), (102, 59), (110, 68), (116, 50)]) (len := 43) (a := 110) (off := 68) (by decide +kernel) (by decide) (by decide) (by decide) 69 (by decide) ?_
    refine Ac C S107 [(69, .aload_n 0, 1)] 70 #[Ab J, Aa 110] [.ref J] ?_
    have SW109 := rb108 _ _ 0 0 [] [] S107 (Keep.refl _ _) all0 all0
    refine Ea CW SW109 hF (ow hw 340 rfl) (As 4) (z := (4 : Int32)) (vs := [(.int 110), (.int 117), (.int 108), (.int 108)]) ⟨by decide, by decide⟩ (by decide) rfl (by decide +kernel) 16 (by decide) (by decide) (As 8) hP1 hP2 (Nat.add_le_add_left (by decide) P1) (Nat.add_le_add_left (by decide) P2) ?_
    intro T110 h111 a112 b113 k114 SW115 E116 x117 f118 f119 f120 ne121
    have f122 := (X00.ext E116)
    have f123 := (Exa.ext E116 JE)
    have f124 := (Fld.ext E116 JX)
    have f125 := (Fld.ext E116 JP)
    have f126 := (Exa.ext E116 xE)
    have f127 := (Fld.ext E116 xV)
    have f128 := (Fld.ext E116 xC)
    have f129 := (tK.ext E116)
    have f130 : n0 ≤ h111.size := (Nat.le_trans z0 E116.1)
    refine Ai CW SW115 ?_
    intro vm142 C S143 rb144
    refine An C S143 hP1 hP2 hw 248 249 76 250 251 66 (own_clit l Z a0 hw G1 G3 J _ _ _ _ _ _ cs pp a112 _ _ _ _ _ ([110, 117, 108, 108]) R h111 n0 f130 ge_J f122 f123 f124 f125 f126 f127 f128 f129 x117 f119 f118 f120 ne_x_J ne_t_J (Ne.symm (ne121 J (As 0)).1) (Ne.symm (ne121 J (As 0)).2) HS hrep hat own_rnull) 0 f123 [.ref a112] [] Fo ?_
    rintro T137 h138 v139 L140 S141 ⟨⟨y131, rfl, K132, f133, f134, f135, p136⟩, -⟩
    refine Ac C S141 [(75, .goto 27, 3)] 102 #[Ab J, Aa 110] [] ?_
    have SW145 := rb144 _ _ 0 0 [J] [] S141 ((Keep.refl _ _).trans K132 (allS (Ad 0) all0)) (allS (As 0) all0) all0
    refine Ch CW SW145 hF (by decide +kernel) (by decide) (by decide) ?_
    exact ⟨y131, rfl, (((Keep.refl _ _).ext E116).trans K132 (allS (Ad 0) all0)), f133, f134, f135, p136⟩
  · obtain ⟨k0, r0, hk0, hkd⟩ := hN.hd
    have hch : ch = k0 := by rw [hk0] at hS0; injection hS0 with e1; exact e1.symm
    subst hch
    refine Ai CW SW1 ?_
    intro vm146 C S147 rb148
    refine Ac C S147 [(0, .iload_n 1, 1)] 1 #[Ab J, Aa ch] [.int ch] ?_
    refine own_lsm C S147 (df := 77) (prs := #[(34, 43), (102, 59), (110, 68), (116, 50)]) (len := 43) (by decide +kernel) (by decide) (own_lsN hkd) (by decide) 78 (by decide) ?_
    refine Ac C S147 [(78, .iload_n 1, 1), (79, .bipush 45, 2)] 81 #[Ab J, Aa ch] [.int 45, .int ch] ?_
    refine Ao C S147 .eq 17 98 (fun (q149 : ch = (45 : Int32)) => ?_) (fun (q150 : ¬ ch = (45 : Int32)) => ?_)
    · refine Ac C S147 [(98, .aload_n 0, 1)] 99 #[Ab J, Aa ch] [.ref J] ?_
      refine An C S147 hP1 hP2 hw 178 179 76 180 181 66 (own_num l Z a0 hw G1 G3 J _ _ _ _ _ _ cs pp S tm rm h0 n0 z0 ge_J X00 JE JX JP xE xV xC tK ne_x_J ne_t_J HS hrep hat hN htm) 0 JE [] [] At ?_
      rintro T157 h158 v159 L160 S161 ⟨⟨y151, rfl, K152, f153, f154, f155, p156⟩, -⟩
      have SW162 := rb148 _ _ 0 0 [J] [] S161 ((Keep.refl _ _).trans K152 (allS (Ad 0) all0)) (allS (As 0) all0) all0
      refine Ch CW SW162 hF (by decide +kernel) (by decide) (by decide) ?_
      exact ⟨y151, rfl, ((Keep.refl _ _).trans K152 (allS (Ad 0) all0)), f153, f154, f155, p156⟩
    · have hat2 : Ae cs pp (ch :: r0) := by rw [← hk0]; exact hat
      refine Ac C S147 [(84, .aload_n 0, 1)] 85 #[Ab J, Aa ch] [.ref J] ?_
      refine An C S147 hP1 hP2 hw 174 175 76 176 177 66 (own_isd l Z a0 hw G1 G3 J _ _ _ _ _ _ cs pp ch r0 h0 n0 z0 X00 JE JX JP xE xV xC tK HS hrep hat2) 0 JE [] [] Fe ?_
      rintro T166 h167 v168 L169 S170 ⟨⟨y163, rfl, e164, p165⟩, -⟩
      rw [e164] at S170; clear e164
      have hr171 : y163 = (1 : Int32) := Ez.one p165 (hkd.resolve_left q150)
      subst hr171
      refine Ac C S170 [(88, .ifCond .ne 10, 3), (98, .aload_n 0, 1)] 99 #[Ab J, Aa ch] [.ref J] ?_
      refine An C S170 hP1 hP2 hw 178 179 76 180 181 66 (own_num l Z a0 hw G1 G3 J _ _ _ _ _ _ cs pp S tm rm h0 n0 z0 ge_J X00 JE JX JP xE xV xC tK ne_x_J ne_t_J HS hrep hat hN htm) 0 JE [] [] At ?_
      rintro T178 h179 v180 L181 S182 ⟨⟨y172, rfl, K173, f174, f175, f176, p177⟩, -⟩
      have SW183 := rb148 _ _ 0 0 [J] [] S182 ((Keep.refl _ _).trans K173 (allS (Ad 0) all0)) (allS (As 0) all0) all0
      refine Ch CW SW183 hF (by decide +kernel) (by decide) (by decide) ?_
      exact ⟨y172, rfl, ((Keep.refl _ _).trans K173 (allS (Ad 0) all0)), f174, f175, f176, p177⟩
theorem Cr (hw : Ar a0 Z) (k : Int32) (h0 : Heap) (n0 : Nat) (z0 : n0 ≤ h0.size) :
    Ag l Z (⟨"java/util/BitSet", "wordIndex", "(I)I"⟩ : MethodName) jdk_92_method_1_code 1 (some .int) ({ frames := 0, cells := 0, slots := 0, locals := 0 } : Room) n0 #[(.int k)] h0 (fun v h => v = some (.int (k >>> ((6 : Int32) &&& 31))) ∧ h = h0) := by
  refine Au #[.val (.int k)] ?_
  intro p e s m below meth c T0 C S0
  refine Ac C S0 [(0, .iload_n 0, 1), (1, .bipush 6, 2), (3, .ishr, 1)] 4 #[Aa k] [.int (k >>> ((6 : Int32) &&& 31))] ?_
  refine Ba C S0 (by decide +kernel) (by decide) (by decide) ?_
  exact ⟨rfl, rfl⟩
theorem Da (hw : Ar a0 Z) (G1 : Int32) (G3 : Value) (B : Addr) (h0 : Heap) (n0 : Nat) (z0 : n0 ≤ h0.size) (X00 : Old Z n0 h0) (HS : Bg Z G1 G3) :
    Ag l Z (⟨"java/util/BitSet", "checkInvariants", "()V"⟩ : MethodName) jdk_92_method_2_code 1 none ({ frames := 0, cells := 0, slots := 0, locals := 0 } : Room) n0 #[(.ref B)] h0 (fun v h => v = none ∧ h = h0) := by
  refine Au #[.val (.ref B)] ?_
  intro p e s m below meth c T0 C S0
  obtain ⟨O2, O4, P5, rG3, OA, OH, OL, OB⟩ := id HS
  refine Dc C S0 (ow hw 200 rfl) Via.refl (OB.ext X00.2) (by decide +kernel) ?_
  intro T1 S2
  refine Ac C S2 [(3, .ifCond .ne 34, 3)] 37 #[Ab B] [] ?_
  refine Dc C S2 (ow hw 200 rfl) Via.refl (OB.ext X00.2) (by decide +kernel) ?_
  intro T3 S4
  refine Ac C S4 [(40, .ifCond .ne 30, 3)] 70 #[Ab B] [] ?_
  refine Dc C S4 (ow hw 200 rfl) Via.refl (OB.ext X00.2) (by decide +kernel) ?_
  intro T5 S6
  refine Ac C S6 [(73, .ifCond .ne 37, 3)] 110 #[Ab B] [] ?_
  refine Be C S6 (by decide +kernel) (by decide) (by decide) ?_
  exact ⟨rfl, rfl⟩
theorem own_bec (hw : Ar a0 Z) (B : Addr) (wd : Addr) (wk : ClassId) (h0 : Heap) (n0 : Nat) (z0 : n0 ≤ h0.size) (p0 : Exa Z h0 B "java/util/BitSet") (p1 : Fld Z h0 B "java/util/BitSet" "words" "[J" (.ref wd)) (p2 : Fld Z h0 B "java/util/BitSet" "wordsInUse" "I" (.int 0)) (p3 : Arv Z h0 wd wk .long (1 : Int32) ([(.long (0 : Int64))]) (.long (0 : Int64))) :
    Ag l Z (⟨"java/util/BitSet", "ensureCapacity", "(I)V"⟩ : MethodName) jdk_92_method_14_code 3 none ({ frames := 0, cells := 0, slots := 0, locals := 0 } : Room) n0 #[(.ref B), (.int 1)] h0 (fun v h => v = none ∧ h = h0) := by
  refine Au #[.val (.ref B), .val (.int 1), .unset] ?_
  intro p e s m below meth c T0 C S0
  refine Ac C S0 [(0, .aload_n 0, 1)] 1 #[Ab B, Aa 1, .unset] [.ref B] ?_
  refine Ah C S0 hw 149 p1 ?_
  intro T1 S2
  refine Dt C S2 p3 (by decide +kernel) ?_
  refine Ac C S2 [(5, .iload_n 1, 1), (6, .if_icmp .ge 32, 3)] 38 #[Ab B, Aa 1, .unset] [] ?_
  refine Be C S2 (by decide +kernel) (by decide) (by decide) ?_
  exact ⟨rfl, rfl⟩
theorem Di : parseMethodDescriptor "(I)V" = some ⟨[.int], none⟩ := by decide +kernel
theorem Fv : parseFieldDescriptor "[J" = some (.array .long) := by decide +kernel
theorem Go {Z : State} {a0 : Array Value} (hw : ∀ d ∈ tables_1, d.before a0 Z = true) : Jvm.RoadKit.slotOf Z "java/util/BitSet" "words" "[J" ≠ Jvm.RoadKit.slotOf Z "java/util/BitSet" "wordsInUse" "I" := slot_ne (Or.inl (ow hw 150 rfl)) (Or.inl (ow hw 137 rfl)) (by decide) Fv Ax
theorem own_bet0 (hw : Ar a0 Z) (B : Addr) (wd : Addr) (wk : ClassId) (h0 : Heap) (n0 : Nat) (z0 : n0 ≤ h0.size) (ge_B : n0 ≤ B) (p0 : Exa Z h0 B "java/util/BitSet") (p1 : Fld Z h0 B "java/util/BitSet" "words" "[J" (.ref wd)) (p2 : Fld Z h0 B "java/util/BitSet" "wordsInUse" "I" (.int 0)) (p3 : Arv Z h0 wd wk .long (1 : Int32) ([(.long (0 : Int64))]) (.long (0 : Int64))) (ne_wd_B : wd ≠ B) :
    Ag l Z (⟨"java/util/BitSet", "expandTo", "(I)V"⟩ : MethodName) jdk_92_method_15_code 3 none ({ frames := 1, cells := 0, slots := 0, locals := 14 } : Room) n0 #[(.ref B), (.int 0)] h0 (fun v h => v = none ∧ Keep h0 h [B] ∧ Exa Z h B "java/util/BitSet" ∧ Fld Z h B "java/util/BitSet" "words" "[J" (.ref wd) ∧ Fld Z h B "java/util/BitSet" "wordsInUse" "I" (.int 1)) := by
  refine Au #[.val (.ref B), .val (.int 0), .unset] ?_
  intro p e s m below meth c T0 C S0
  refine Ac C S0 [(0, .iload_n 1, 1), (1, .iconst 1, 1), (2, .iadd, 1), (3, .istore_n 2, 1), (4, .aload_n 0, 1)] 5 #[Ab B, Aa 0, Aa 1] [.ref B] ?_
  refine Ah C S0 hw 136 p2 ?_
  intro T1 S2
  refine Ac C S2 [(8, .iload_n 2, 1), (9, .if_icmp .ge 13, 3), (12, .aload_n 0, 1), (13, .iload_n 2, 1)] 14 #[Ab B, Aa 0, Aa 1] [.int 1, .ref B] ?_
  refine Bq C S2 (ow hw 293 rfl) (ow hw 294 rfl) (ow hw 296 rfl) (ow hw 295 rfl) (ow hw 297 rfl) (by decide) (Ag.pay (own_bec l Z a0 hw B _ _ h0 n0 z0 p0 p1 p2 p3) C 0 (ow hw 297 rfl) (ow hw 131 rfl) (by decide) (by decide)) (fun _ _ _ q => q.2) p0 [.int 1] [] rfl Di rfl rfl rfl (Bw rfl) (by decide) (by decide) (by decide +kernel) ?_
  rintro T4 h5 v6 L7 S8 ⟨⟨rfl, e3⟩, -⟩
  rw [e3] at S8; clear e3
  refine Ac C S8 [(17, .aload_n 0, 1), (18, .iload_n 2, 1)] 19 #[Ab B, Aa 0, Aa 1] [.int 1, .ref B] ?_
  refine Bh C S8 hw 136 137 130 p2 p0 Ax ge_B ?_
  intro T9 h11 S10 W12
  have f13 : Fld Z h11 B "java/util/BitSet" "wordsInUse" "I" (.int 1) := Fld.same W12 p2
  refine Be C S10 (by decide +kernel) (by decide) (by decide) ?_
  have f14 := (Exa.wr W12 p0)
  have f15 := (Fld.other W12 p1 (Or.inr (Go hw)))
  exact ⟨rfl, ((Keep.refl _ _).wr W12 (Ad 0)), f14, f15, f13⟩
theorem own_bet1 (hw : Ar a0 Z) (B : Addr) (wd : Addr) (wk : ClassId) (W : Int64) (h0 : Heap) (n0 : Nat) (z0 : n0 ≤ h0.size) (p0 : Exa Z h0 B "java/util/BitSet") (p1 : Fld Z h0 B "java/util/BitSet" "words" "[J" (.ref wd)) (p2 : Fld Z h0 B "java/util/BitSet" "wordsInUse" "I" (.int 1)) (p3 : Arv Z h0 wd wk .long (1 : Int32) ([(.long W)]) (.long (0 : Int64))) :
    Ag l Z (⟨"java/util/BitSet", "expandTo", "(I)V"⟩ : MethodName) jdk_92_method_15_code 3 none ({ frames := 0, cells := 0, slots := 0, locals := 0 } : Room) n0 #[(.ref B), (.int 0)] h0 (fun v h => v = none ∧ h = h0) := by
  refine Au #[.val (.ref B), .val (.int 0), .unset] ?_
  intro p e s m below meth c T0 C S0
  refine Ac C S0 [(0, .iload_n 1, 1), (1, .iconst 1, 1), (2, .iadd, 1), (3, .istore_n 2, 1), (4, .aload_n 0, 1)] 5 #[Ab B, Aa 0, Aa 1] [.ref B] ?_
  refine Ah C S0 hw 136 p2 ?_
  intro T1 S2
  refine Ac C S2 [(8, .iload_n 2, 1), (9, .if_icmp .ge 13, 3)] 22 #[Ab B, Aa 0, Aa 1] [] ?_
  refine Be C S2 (by decide +kernel) (by decide) (by decide) ?_
  exact ⟨rfl, rfl⟩
theorem own_brc1 (hw : Ar a0 Z) (B : Addr) (wd : Addr) (wk : ClassId) (h0 : Heap) (n0 : Nat) (z0 : n0 ≤ h0.size) (ge_B : n0 ≤ B) (p0 : Exa Z h0 B "java/util/BitSet") (p1 : Fld Z h0 B "java/util/BitSet" "words" "[J" (.ref wd)) (p2 : Fld Z h0 B "java/util/BitSet" "wordsInUse" "I" (.int 1)) (p3 : Arv Z h0 wd wk .long (1 : Int32) ([(.long (1 : Int64))]) (.long (0 : Int64))) (ne_wd_B : wd ≠ B) :
    Ag l Z (⟨"java/util/BitSet", "recalculateWordsInUse", "()V"⟩ : MethodName) jdk_92_method_3_code 2 none ({ frames := 0, cells := 0, slots := 0, locals := 0 } : Room) n0 #[(.ref B)] h0 (fun v h => v = none ∧ Keep h0 h [B] ∧ Exa Z h B "java/util/BitSet" ∧ Fld Z h B "java/util/BitSet" "words" "[J" (.ref wd) ∧ Fld Z h B "java/util/BitSet" "wordsInUse" "I" (.int 1)) := by
  refine Au #[.val (.ref B), .unset] ?_
  intro p e s m below meth c T0 C S0
  refine Ac C S0 [(0, .aload_n 0, 1)] 1 #[Ab B, .unset] [.ref B] ?_
  refine Ah C S0 hw 136 p2 ?_
  intro T1 S2
  refine Ac C S2 [(4, .iconst 1, 1), (5, .isub, 1), (6, .istore_n 1, 1), (7, .iload_n 1, 1), (8, .ifCond .lt 23, 3), (11, .aload_n 0, 1)] 12 #[Ab B, Aa 0] [.ref B] ?_
  refine Ah C S2 hw 149 p1 ?_
  intro T3 S4
  refine Ac C S4 [(15, .iload_n 1, 1)] 16 #[Ab B, Aa 0] [.int 0, .ref wd] ?_
  refine By C S4 p3 ⟨(by decide), (by decide)⟩ (.long (1 : Int64)) rfl (by decide +kernel) ?_
  refine Ac C S4 [(17, .lconst 0, 1), (18, .lcmp, 1)] 19 #[Ab B, Aa 0] [.int (Jvm.Free.XT.cmpL (1 : Int64) (0 : Int64))] ?_
  refine Bv C S4 .eq 6 25 (fun (hq : (Jvm.Free.XT.cmpL (1 : Int64) (0 : Int64)) = (0 : Int32)) => False.elim (by revert hq; decide)) (fun (q5 : ¬ (Jvm.Free.XT.cmpL (1 : Int64) (0 : Int64)) = (0 : Int32)) => ?_)
  refine Ac C S4 [(22, .goto 9, 3), (31, .aload_n 0, 1), (32, .iload_n 1, 1), (33, .iconst 1, 1), (34, .iadd, 1)] 35 #[Ab B, Aa 0] [.int 1, .ref B] ?_
  refine Bh C S4 hw 136 137 130 p2 p0 Ax ge_B ?_
  intro T6 h8 S7 W9
  have f10 : Fld Z h8 B "java/util/BitSet" "wordsInUse" "I" (.int 1) := Fld.same W9 p2
  refine Be C S7 (by decide +kernel) (by decide) (by decide) ?_
  have f11 := (Exa.wr W9 p0)
  have f12 := (Fld.other W9 p1 (Or.inr (Go hw)))
  exact ⟨rfl, ((Keep.refl _ _).wr W9 (Ad 0)), f11, f12, f10⟩
theorem own_brc4 (hw : Ar a0 Z) (B : Addr) (wd : Addr) (wk : ClassId) (h0 : Heap) (n0 : Nat) (z0 : n0 ≤ h0.size) (ge_B : n0 ≤ B) (p0 : Exa Z h0 B "java/util/BitSet") (p1 : Fld Z h0 B "java/util/BitSet" "words" "[J" (.ref wd)) (p2 : Fld Z h0 B "java/util/BitSet" "wordsInUse" "I" (.int 1)) (p3 : Arv Z h0 wd wk .long (1 : Int32) ([(.long (4 : Int64))]) (.long (0 : Int64))) (ne_wd_B : wd ≠ B) :
    Ag l Z (⟨"java/util/BitSet", "recalculateWordsInUse", "()V"⟩ : MethodName) jdk_92_method_3_code 2 none ({ frames := 0, cells := 0, slots := 0, locals := 0 } : Room) n0 #[(.ref B)] h0 (fun v h => v = none ∧ Keep h0 h [B] ∧ Exa Z h B "java/util/BitSet" ∧ Fld Z h B "java/util/BitSet" "words" "[J" (.ref wd) ∧ Fld Z h B "java/util/BitSet" "wordsInUse" "I" (.int 1)) := by
  refine Au #[.val (.ref B), .unset] ?_
  intro p e s m below meth c T0 C S0
  refine Ac C S0 [(0, .aload_n 0, 1)] 1 #[Ab B, .unset] [.ref B] ?_
  refine Ah C S0 hw 136 p2 ?_
  intro T1 S2
  refine Ac C S2 [(4, .iconst 1, 1), (5, .isub, 1), (6, .istore_n 1, 1), (7, .iload_n 1, 1), (8, .ifCond .lt 23, 3), (11, .aload_n 0, 1)] 12 #[Ab B, Aa 0] [.ref B] ?_
  refine Ah C S2 hw 149 p1 ?_
  intro T3 S4
  refine Ac C S4 [(15, .iload_n 1, 1)] 16 #[Ab B, Aa 0] [.int 0, .ref wd] ?_
  refine By C S4 p3 ⟨(by decide), (by decide)⟩ (.long (4 : Int64)) rfl (by decide +kernel) ?_
  refine Ac C S4 [(17, .lconst 0, 1), (18, .lcmp, 1)] 19 #[Ab B, Aa 0] [.int (Jvm.Free.XT.cmpL (4 : Int64) (0 : Int64))] ?_
  refine Bv C S4 .eq 6 25 (fun (hq : (Jvm.Free.XT.cmpL (4 : Int64) (0 : Int64)) = (0 : Int32)) => False.elim (by revert hq; decide)) (fun (q5 : ¬ (Jvm.Free.XT.cmpL (4 : Int64) (0 : Int64)) = (0 : Int32)) => ?_)
  refine Ac C S4 [(22, .goto 9, 3), (31, .aload_n 0, 1), (32, .iload_n 1, 1), (33, .iconst 1, 1), (34, .iadd, 1)] 35 #[Ab B, Aa 0] [.int 1, .ref B] ?_
  refine Bh C S4 hw 136 137 130 p2 p0 Ax ge_B ?_
  intro T6 h8 S7 W9
  have f10 : Fld Z h8 B "java/util/BitSet" "wordsInUse" "I" (.int 1) := Fld.same W9 p2
  refine Be C S7 (by decide +kernel) (by decide) (by decide) ?_
  have f11 := (Exa.wr W9 p0)
  have f12 := (Fld.other W9 p1 (Or.inr (Go hw)))
  exact ⟨rfl, ((Keep.refl _ _).wr W9 (Ad 0)), f11, f12, f10⟩
theorem own_brc5 (hw : Ar a0 Z) (B : Addr) (wd : Addr) (wk : ClassId) (h0 : Heap) (n0 : Nat) (z0 : n0 ≤ h0.size) (ge_B : n0 ≤ B) (p0 : Exa Z h0 B "java/util/BitSet") (p1 : Fld Z h0 B "java/util/BitSet" "words" "[J" (.ref wd)) (p2 : Fld Z h0 B "java/util/BitSet" "wordsInUse" "I" (.int 1)) (p3 : Arv Z h0 wd wk .long (1 : Int32) ([(.long (5 : Int64))]) (.long (0 : Int64))) (ne_wd_B : wd ≠ B) :
    Ag l Z (⟨"java/util/BitSet", "recalculateWordsInUse", "()V"⟩ : MethodName) jdk_92_method_3_code 2 none ({ frames := 0, cells := 0, slots := 0, locals := 0 } : Room) n0 #[(.ref B)] h0 (fun v h => v = none ∧ Keep h0 h [B] ∧ Exa Z h B "java/util/BitSet" ∧ Fld Z h B "java/util/BitSet" "words" "[J" (.ref wd) ∧ Fld Z h B "java/util/BitSet" "wordsInUse" "I" (.int 1)) := by
  refine Au #[.val (.ref B), .unset] ?_
  intro p e s m below meth c T0 C S0
  refine Ac C S0 [(0, .aload_n 0, 1)] 1 #[Ab B, .unset] [.ref B] ?_
  refine Ah C S0 hw 136 p2 ?_
  intro T1 S2
  refine Ac C S2 [(4, .iconst 1, 1), (5, .isub, 1), (6, .istore_n 1, 1), (7, .iload_n 1, 1), (8, .ifCond .lt 23, 3), (11, .aload_n 0, 1)] 12 #[Ab B, Aa 0] [.ref B] ?_
  refine Ah C S2 hw 149 p1 ?_
  intro T3 S4
  refine Ac C S4 [(15, .iload_n 1, 1)] 16 #[Ab B, Aa 0] [.int 0, .ref wd] ?_
  refine By C S4 p3 ⟨(by decide), (by decide)⟩ (.long (5 : Int64)) rfl (by decide +kernel) ?_
  refine Ac C S4 [(17, .lconst 0, 1), (18, .lcmp, 1)] 19 #[Ab B, Aa 0] [.int (Jvm.Free.XT.cmpL (5 : Int64) (0 : Int64))] ?_
  refine Bv C S4 .eq 6 25 (fun (hq : (Jvm.Free.XT.cmpL (5 : Int64) (0 : Int64)) = (0 : Int32)) => False.elim (by revert hq; decide)) (fun (q5 : ¬ (Jvm.Free.XT.cmpL (5 : Int64) (0 : Int64)) = (0 : Int32)) => ?_)
  refine Ac C S4 [(22, .goto 9, 3), (31, .aload_n 0, 1), (32, .iload_n 1, 1), (33, .iconst 1, 1), (34, .iadd, 1)] 35 #[Ab B, Aa 0] [.int 1, .ref B] ?_
  refine Bh C S4 hw 136 137 130 p2 p0 Ax ge_B ?_
  intro T6 h8 S7 W9
  have f10 : Fld Z h8 B "java/util/BitSet" "wordsInUse" "I" (.int 1) := Fld.same W9 p2
  refine Be C S7 (by decide +kernel) (by decide) (by decide) ?_
  have f11 := (Exa.wr W9 p0)
  have f12 := (Fld.other W9 p1 (Or.inr (Go hw)))
  exact ⟨rfl, ((Keep.refl _ _).wr W9 (Ad 0)), f11, f12, f10⟩
theorem own_bcl000 (hw : Ar a0 Z) (G1 : Int32) (G3 : Value) (B : Addr) (wd : Addr) (wk : ClassId) (h0 : Heap) (n0 : Nat) (z0 : n0 ≤ h0.size) (ge_B : n0 ≤ B) (ge_wd : n0 ≤ wd) (X00 : Old Z n0 h0) (p0 : Exa Z h0 B "java/util/BitSet") (p1 : Fld Z h0 B "java/util/BitSet" "words" "[J" (.ref wd)) (p2 : Fld Z h0 B "java/util/BitSet" "wordsInUse" "I" (.int 0)) (p3 : Arv Z h0 wd wk .long (1 : Int32) ([(.long (0 : Int64))]) (.long (0 : Int64))) (ne_wd_B : wd ≠ B) (HS : Bg Z G1 G3) :
    Ag l Z (⟨"java/util/BitSet", "clear", "(I)V"⟩ : MethodName) jdk_92_method_23_code 3 none ({ frames := 1, cells := 0, slots := 0, locals := 12 } : Room) n0 #[(.ref B), (.int 0)] h0 (fun v h => v = none ∧ Keep h0 h [B, wd] ∧ Exa Z h B "java/util/BitSet" ∧ Fld Z h B "java/util/BitSet" "words" "[J" (.ref wd) ∧ Fld Z h B "java/util/BitSet" "wordsInUse" "I" (.int 0) ∧ Arv Z h wd wk .long (1 : Int32) ([(.long (0 : Int64))]) (.long (0 : Int64))) := by
  refine Au #[.val (.ref B), .val (.int 0), .unset] ?_
  intro p e s m below meth c T0 C S0
  refine Ac C S0 [(0, .iload_n 1, 1), (1, .ifCond .ge 30, 3), (31, .iload_n 1, 1)] 32 #[Ab B, Aa 0, .unset] [.int 0] ?_
  refine Ak C S0 hw 145 146 131 147 (Cr l Z a0 hw 0 h0 n0 z0) 0 [.int 0] [] Ca ?_
  rintro T2 h3 v4 L5 S6 ⟨⟨rfl, e1⟩, -⟩
  rw [e1] at S6; clear e1
  refine Ac C S6 [(35, .istore_n 2, 1), (36, .iload_n 2, 1), (37, .aload_n 0, 1)] 38 #[Ab B, Aa 0, Aa 0] [.ref B, .int 0] ?_
  refine Ah C S6 hw 136 p2 ?_
  intro T7 S8
  refine Ac C S8 [(41, .if_icmp .lt 4, 3)] 44 #[Ab B, Aa 0, Aa 0] [] ?_
  refine Be C S8 (by decide +kernel) (by decide) (by decide) ?_
  exact ⟨rfl, (Keep.refl _ _), p0, p1, p2, p3⟩
theorem own_bcl001 (hw : Ar a0 Z) (G1 : Int32) (G3 : Value) (B : Addr) (wd : Addr) (wk : ClassId) (h0 : Heap) (n0 : Nat) (z0 : n0 ≤ h0.size) (ge_B : n0 ≤ B) (ge_wd : n0 ≤ wd) (X00 : Old Z n0 h0) (p0 : Exa Z h0 B "java/util/BitSet") (p1 : Fld Z h0 B "java/util/BitSet" "words" "[J" (.ref wd)) (p2 : Fld Z h0 B "java/util/BitSet" "wordsInUse" "I" (.int 0)) (p3 : Arv Z h0 wd wk .long (1 : Int32) ([(.long (0 : Int64))]) (.long (0 : Int64))) (ne_wd_B : wd ≠ B) (HS : Bg Z G1 G3) :
    Ag l Z (⟨"java/util/BitSet", "clear", "(I)V"⟩ : MethodName) jdk_92_method_23_code 3 none ({ frames := 1, cells := 0, slots := 0, locals := 12 } : Room) n0 #[(.ref B), (.int 1)] h0 (fun v h => v = none ∧ Keep h0 h [B, wd] ∧ Exa Z h B "java/util/BitSet" ∧ Fld Z h B "java/util/BitSet" "words" "[J" (.ref wd) ∧ Fld Z h B "java/util/BitSet" "wordsInUse" "I" (.int 0) ∧ Arv Z h wd wk .long (1 : Int32) ([(.long (0 : Int64))]) (.long (0 : Int64))) := by
  refine Au #[.val (.ref B), .val (.int 1), .unset] ?_
  intro p e s m below meth c T0 C S0
  refine Ac C S0 [(0, .iload_n 1, 1), (1, .ifCond .ge 30, 3), (31, .iload_n 1, 1)] 32 #[Ab B, Aa 1, .unset] [.int 1] ?_
  refine Ak C S0 hw 145 146 131 147 (Cr l Z a0 hw 1 h0 n0 z0) 0 [.int 1] [] Ca ?_
  rintro T2 h3 v4 L5 S6 ⟨⟨rfl, e1⟩, -⟩
  rw [e1] at S6; clear e1
  refine Ac C S6 [(35, .istore_n 2, 1), (36, .iload_n 2, 1), (37, .aload_n 0, 1)] 38 #[Ab B, Aa 1, Aa 0] [.ref B, .int 0] ?_
  refine Ah C S6 hw 136 p2 ?_
  intro T7 S8
  refine Ac C S8 [(41, .if_icmp .lt 4, 3)] 44 #[Ab B, Aa 1, Aa 0] [] ?_
  refine Be C S8 (by decide +kernel) (by decide) (by decide) ?_
  exact ⟨rfl, (Keep.refl _ _), p0, p1, p2, p3⟩
theorem own_bcl111 (hw : Ar a0 Z) (G1 : Int32) (G3 : Value) (B : Addr) (wd : Addr) (wk : ClassId) (h0 : Heap) (n0 : Nat) (z0 : n0 ≤ h0.size) (ge_B : n0 ≤ B) (ge_wd : n0 ≤ wd) (X00 : Old Z n0 h0) (p0 : Exa Z h0 B "java/util/BitSet") (p1 : Fld Z h0 B "java/util/BitSet" "words" "[J" (.ref wd)) (p2 : Fld Z h0 B "java/util/BitSet" "wordsInUse" "I" (.int 1)) (p3 : Arv Z h0 wd wk .long (1 : Int32) ([(.long (1 : Int64))]) (.long (0 : Int64))) (ne_wd_B : wd ≠ B) (HS : Bg Z G1 G3) :
    Ag l Z (⟨"java/util/BitSet", "clear", "(I)V"⟩ : MethodName) jdk_92_method_23_code 3 none ({ frames := 1, cells := 0, slots := 0, locals := 13 } : Room) n0 #[(.ref B), (.int 1)] h0 (fun v h => v = none ∧ Keep h0 h [B, wd] ∧ Exa Z h B "java/util/BitSet" ∧ Fld Z h B "java/util/BitSet" "words" "[J" (.ref wd) ∧ Fld Z h B "java/util/BitSet" "wordsInUse" "I" (.int 1) ∧ Arv Z h wd wk .long (1 : Int32) ([(.long (1 : Int64))]) (.long (0 : Int64))) := by
  refine Au #[.val (.ref B), .val (.int 1), .unset] ?_
  intro p e s m below meth c T0 C S0
  refine Ac C S0 [(0, .iload_n 1, 1), (1, .ifCond .ge 30, 3), (31, .iload_n 1, 1)] 32 #[Ab B, Aa 1, .unset] [.int 1] ?_
  refine Ak C S0 hw 145 146 131 147 (Cr l Z a0 hw 1 h0 n0 z0) 0 [.int 1] [] Ca ?_
  rintro T2 h3 v4 L5 S6 ⟨⟨rfl, e1⟩, -⟩
  rw [e1] at S6; clear e1
  refine Ac C S6 [(35, .istore_n 2, 1), (36, .iload_n 2, 1), (37, .aload_n 0, 1)] 38 #[Ab B, Aa 1, Aa 0] [.ref B, .int 0] ?_
  refine Ah C S6 hw 136 p2 ?_
  intro T7 S8
  refine Ac C S8 [(41, .if_icmp .lt 4, 3), (45, .aload_n 0, 1)] 46 #[Ab B, Aa 1, Aa 0] [.ref B] ?_
  refine Ah C S8 hw 149 p1 ?_
  intro T9 S10
  refine Ac C S10 [(49, .iload_n 2, 1), (50, .dup2, 1)] 51 #[Ab B, Aa 1, Aa 0] [.int 0, .ref wd, .int 0, .ref wd] ?_
  refine By C S10 p3 ⟨(by decide), (by decide)⟩ (.long (1 : Int64)) rfl (by decide +kernel) ?_
  refine Ac C S10 [(52, .lconst 1, 1), (53, .iload_n 1, 1), (54, .lshl, 1)] 55 #[Ab B, Aa 1, Aa 0] [.long ((1 : Int64) <<< ((1 : Int32).toInt64 &&& 63)), .long (1 : Int64), .int 0, .ref wd] ?_
  refine Do C S10 (ow hw 307 rfl) (by decide +kernel) ?_
  refine own_lxor C S10 (by decide +kernel) ?_
  refine Ac C S10 [(59, .land, 1)] 60 #[Ab B, Aa 1, Aa 0] [.long (1 : Int64), .int 0, .ref wd] ?_
  refine Dx C S10 p3 ⟨(by decide), (by decide)⟩ 0 rfl (Bw rfl) ge_wd (by decide +kernel) ?_
  intro T11 h13 S12 W14 f15
  have f16 : Arv Z h13 wd wk .long (1 : Int32) ([(.long (1 : Int64))]) (.long (0 : Int64)) := f15
  refine Ac C S12 [(61, .aload_n 0, 1)] 62 #[Ab B, Aa 1, Aa 0] [.ref B] ?_
  have f17 := (Exa.wr W14 p0)
  have f18 := (Fld.other W14 p1 (Or.inl (Ne.symm ne_wd_B)))
  have f19 := (Fld.other W14 p2 (Or.inl (Ne.symm ne_wd_B)))
  have f20 : n0 ≤ h13.size := (by rw [W14.size]; exact z0)
  refine Bq C S12 (ow hw 308 rfl) (ow hw 309 rfl) (ow hw 311 rfl) (ow hw 310 rfl) (ow hw 312 rfl) (by decide) (Ag.pay (own_brc1 l Z a0 hw B _ _ h13 n0 f20 ge_B f17 f18 f19 f16 ne_wd_B) C 0 (ow hw 312 rfl) (ow hw 131 rfl) (by decide) (by decide)) (fun _ _ _ q => q.2) f17 [] [] rfl At rfl rfl rfl (Bw rfl) (by decide) (by decide) (by decide +kernel) ?_
  rintro T25 h26 v27 L28 S29 ⟨⟨rfl, K21, f22, f23, f24⟩, -⟩
  refine Ac C S29 [(65, .aload_n 0, 1)] 66 #[Ab B, Aa 1, Aa 0] [.ref B] ?_
  have f30 := ((X00.wr W14 ge_wd).keep K21 (allS ge_B all0))
  have f31 : n0 ≤ h26.size := (Nat.le_trans f20 K21.1)
  refine Bq C S29 (ow hw 195 rfl) (ow hw 196 rfl) (ow hw 198 rfl) (ow hw 197 rfl) (ow hw 199 rfl) (by decide) (Ag.pay (Da l Z a0 hw G1 G3 B h26 n0 f31 f30 HS) C 0 (ow hw 199 rfl) (ow hw 131 rfl) (by decide) (by decide)) (fun _ _ _ q => q.2) f22 [] [] rfl At rfl rfl rfl (Bw rfl) (by decide) (by decide) (by decide +kernel) ?_
  rintro T33 h34 v35 L36 S37 ⟨⟨rfl, e32⟩, -⟩
  rw [e32] at S37; clear e32
  refine Be C S37 (by decide +kernel) (by decide) (by decide) ?_
  have f38 := (f16.keep K21 (ninS ne_wd_B nin0))
  exact ⟨rfl, (((Keep.refl _ _).wr W14 (Ad 1)).trans K21 (allS (Ad 0) all0)), f22, f23, f24, f38⟩
theorem own_bcl143 (hw : Ar a0 Z) (G1 : Int32) (G3 : Value) (B : Addr) (wd : Addr) (wk : ClassId) (h0 : Heap) (n0 : Nat) (z0 : n0 ≤ h0.size) (ge_B : n0 ≤ B) (ge_wd : n0 ≤ wd) (X00 : Old Z n0 h0) (p0 : Exa Z h0 B "java/util/BitSet") (p1 : Fld Z h0 B "java/util/BitSet" "words" "[J" (.ref wd)) (p2 : Fld Z h0 B "java/util/BitSet" "wordsInUse" "I" (.int 1)) (p3 : Arv Z h0 wd wk .long (1 : Int32) ([(.long (4 : Int64))]) (.long (0 : Int64))) (ne_wd_B : wd ≠ B) (HS : Bg Z G1 G3) :
    Ag l Z (⟨"java/util/BitSet", "clear", "(I)V"⟩ : MethodName) jdk_92_method_23_code 3 none ({ frames := 1, cells := 0, slots := 0, locals := 13 } : Room) n0 #[(.ref B), (.int 3)] h0 (fun v h => v = none ∧ Keep h0 h [B, wd] ∧ Exa Z h B "java/util/BitSet" ∧ Fld Z h B "java/util/BitSet" "words" "[J" (.ref wd) ∧ Fld Z h B "java/util/BitSet" "wordsInUse" "I" (.int 1) ∧ Arv Z h wd wk .long (1 : Int32) ([(.long (4 : Int64))]) (.long (0 : Int64))) := by
  refine Au #[.val (.ref B), .val (.int 3), .unset] ?_
  intro p e s m below meth c T0 C S0
  refine Ac C S0 [(0, .iload_n 1, 1), (1, .ifCond .ge 30, 3), (31, .iload_n 1, 1)] 32 #[Ab B, Aa 3, .unset] [.int 3] ?_
  refine Ak C S0 hw 145 146 131 147 (Cr l Z a0 hw 3 h0 n0 z0) 0 [.int 3] [] Ca ?_
  rintro T2 h3 v4 L5 S6 ⟨⟨rfl, e1⟩, -⟩
  rw [e1] at S6; clear e1
  refine Ac C S6 [(35, .istore_n 2, 1), (36, .iload_n 2, 1), (37, .aload_n 0, 1)] 38 #[Ab B, Aa 3, Aa 0] [.ref B, .int 0] ?_
  refine Ah C S6 hw 136 p2 ?_
  intro T7 S8
  refine Ac C S8 [(41, .if_icmp .lt 4, 3), (45, .aload_n 0, 1)] 46 #[Ab B, Aa 3, Aa 0] [.ref B] ?_
  refine Ah C S8 hw 149 p1 ?_
  intro T9 S10
  refine Ac C S10 [(49, .iload_n 2, 1), (50, .dup2, 1)] 51 #[Ab B, Aa 3, Aa 0] [.int 0, .ref wd, .int 0, .ref wd] ?_
  refine By C S10 p3 ⟨(by decide), (by decide)⟩ (.long (4 : Int64)) rfl (by decide +kernel) ?_
  refine Ac C S10 [(52, .lconst 1, 1), (53, .iload_n 1, 1), (54, .lshl, 1)] 55 #[Ab B, Aa 3, Aa 0] [.long ((1 : Int64) <<< ((3 : Int32).toInt64 &&& 63)), .long (4 : Int64), .int 0, .ref wd] ?_
  refine Do C S10 (ow hw 307 rfl) (by decide +kernel) ?_
  refine own_lxor C S10 (by decide +kernel) ?_
  refine Ac C S10 [(59, .land, 1)] 60 #[Ab B, Aa 3, Aa 0] [.long (4 : Int64), .int 0, .ref wd] ?_
  refine Dx C S10 p3 ⟨(by decide), (by decide)⟩ 0 rfl (Bw rfl) ge_wd (by decide +kernel) ?_
  intro T11 h13 S12 W14 f15
  have f16 : Arv Z h13 wd wk .long (1 : Int32) ([(.long (4 : Int64))]) (.long (0 : Int64)) := f15
  refine Ac C S12 [(61, .aload_n 0, 1)] 62 #[Ab B, Aa 3, Aa 0] [.ref B] ?_
  have f17 := (Exa.wr W14 p0)
  have f18 := (Fld.other W14 p1 (Or.inl (Ne.symm ne_wd_B)))
  have f19 := (Fld.other W14 p2 (Or.inl (Ne.symm ne_wd_B)))
  have f20 : n0 ≤ h13.size := (by rw [W14.size]; exact z0)
  refine Bq C S12 (ow hw 308 rfl) (ow hw 309 rfl) (ow hw 311 rfl) (ow hw 310 rfl) (ow hw 312 rfl) (by decide) (Ag.pay (own_brc4 l Z a0 hw B _ _ h13 n0 f20 ge_B f17 f18 f19 f16 ne_wd_B) C 0 (ow hw 312 rfl) (ow hw 131 rfl) (by decide) (by decide)) (fun _ _ _ q => q.2) f17 [] [] rfl At rfl rfl rfl (Bw rfl) (by decide) (by decide) (by decide +kernel) ?_
  rintro T25 h26 v27 L28 S29 ⟨⟨rfl, K21, f22, f23, f24⟩, -⟩
  refine Ac C S29 [(65, .aload_n 0, 1)] 66 #[Ab B, Aa 3, Aa 0] [.ref B] ?_
  have f30 := ((X00.wr W14 ge_wd).keep K21 (allS ge_B all0))
  have f31 : n0 ≤ h26.size := (Nat.le_trans f20 K21.1)
  refine Bq C S29 (ow hw 195 rfl) (ow hw 196 rfl) (ow hw 198 rfl) (ow hw 197 rfl) (ow hw 199 rfl) (by decide) (Ag.pay (Da l Z a0 hw G1 G3 B h26 n0 f31 f30 HS) C 0 (ow hw 199 rfl) (ow hw 131 rfl) (by decide) (by decide)) (fun _ _ _ q => q.2) f22 [] [] rfl At rfl rfl rfl (Bw rfl) (by decide) (by decide) (by decide +kernel) ?_
  rintro T33 h34 v35 L36 S37 ⟨⟨rfl, e32⟩, -⟩
  rw [e32] at S37; clear e32
  refine Be C S37 (by decide +kernel) (by decide) (by decide) ?_
  have f38 := (f16.keep K21 (ninS ne_wd_B nin0))
  exact ⟨rfl, (((Keep.refl _ _).wr W14 (Ad 1)).trans K21 (allS (Ad 0) all0)), f22, f23, f24, f38⟩
theorem own_bcl153 (hw : Ar a0 Z) (G1 : Int32) (G3 : Value) (B : Addr) (wd : Addr) (wk : ClassId) (h0 : Heap) (n0 : Nat) (z0 : n0 ≤ h0.size) (ge_B : n0 ≤ B) (ge_wd : n0 ≤ wd) (X00 : Old Z n0 h0) (p0 : Exa Z h0 B "java/util/BitSet") (p1 : Fld Z h0 B "java/util/BitSet" "words" "[J" (.ref wd)) (p2 : Fld Z h0 B "java/util/BitSet" "wordsInUse" "I" (.int 1)) (p3 : Arv Z h0 wd wk .long (1 : Int32) ([(.long (5 : Int64))]) (.long (0 : Int64))) (ne_wd_B : wd ≠ B) (HS : Bg Z G1 G3) :
    Ag l Z (⟨"java/util/BitSet", "clear", "(I)V"⟩ : MethodName) jdk_92_method_23_code 3 none ({ frames := 1, cells := 0, slots := 0, locals := 13 } : Room) n0 #[(.ref B), (.int 3)] h0 (fun v h => v = none ∧ Keep h0 h [B, wd] ∧ Exa Z h B "java/util/BitSet" ∧ Fld Z h B "java/util/BitSet" "words" "[J" (.ref wd) ∧ Fld Z h B "java/util/BitSet" "wordsInUse" "I" (.int 1) ∧ Arv Z h wd wk .long (1 : Int32) ([(.long (5 : Int64))]) (.long (0 : Int64))) := by
  refine Au #[.val (.ref B), .val (.int 3), .unset] ?_
  intro p e s m below meth c T0 C S0
  refine Ac C S0 [(0, .iload_n 1, 1), (1, .ifCond .ge 30, 3), (31, .iload_n 1, 1)] 32 #[Ab B, Aa 3, .unset] [.int 3] ?_
  refine Ak C S0 hw 145 146 131 147 (Cr l Z a0 hw 3 h0 n0 z0) 0 [.int 3] [] Ca ?_
  rintro T2 h3 v4 L5 S6 ⟨⟨rfl, e1⟩, -⟩
  rw [e1] at S6; clear e1
  refine Ac C S6 [(35, .istore_n 2, 1), (36, .iload_n 2, 1), (37, .aload_n 0, 1)] 38 #[Ab B, Aa 3, Aa 0] [.ref B, .int 0] ?_
  refine Ah C S6 hw 136 p2 ?_
  intro T7 S8
  refine Ac C S8 [(41, .if_icmp .lt 4, 3), (45, .aload_n 0, 1)] 46 #[Ab B, Aa 3, Aa 0] [.ref B] ?_
  refine Ah C S8 hw 149 p1 ?_
  intro T9 S10
  refine Ac C S10 [(49, .iload_n 2, 1), (50, .dup2, 1)] 51 #[Ab B, Aa 3, Aa 0] [.int 0, .ref wd, .int 0, .ref wd] ?_
  refine By C S10 p3 ⟨(by decide), (by decide)⟩ (.long (5 : Int64)) rfl (by decide +kernel) ?_
  refine Ac C S10 [(52, .lconst 1, 1), (53, .iload_n 1, 1), (54, .lshl, 1)] 55 #[Ab B, Aa 3, Aa 0] [.long ((1 : Int64) <<< ((3 : Int32).toInt64 &&& 63)), .long (5 : Int64), .int 0, .ref wd] ?_
  refine Do C S10 (ow hw 307 rfl) (by decide +kernel) ?_
  refine own_lxor C S10 (by decide +kernel) ?_
  refine Ac C S10 [(59, .land, 1)] 60 #[Ab B, Aa 3, Aa 0] [.long (5 : Int64), .int 0, .ref wd] ?_
  refine Dx C S10 p3 ⟨(by decide), (by decide)⟩ 0 rfl (Bw rfl) ge_wd (by decide +kernel) ?_
  intro T11 h13 S12 W14 f15
  have f16 : Arv Z h13 wd wk .long (1 : Int32) ([(.long (5 : Int64))]) (.long (0 : Int64)) := f15
  refine Ac C S12 [(61, .aload_n 0, 1)] 62 #[Ab B, Aa 3, Aa 0] [.ref B] ?_
  have f17 := (Exa.wr W14 p0)
  have f18 := (Fld.other W14 p1 (Or.inl (Ne.symm ne_wd_B)))
  have f19 := (Fld.other W14 p2 (Or.inl (Ne.symm ne_wd_B)))
  have f20 : n0 ≤ h13.size := (by rw [W14.size]; exact z0)
  refine Bq C S12 (ow hw 308 rfl) (ow hw 309 rfl) (ow hw 311 rfl) (ow hw 310 rfl) (ow hw 312 rfl) (by decide) (Ag.pay (own_brc5 l Z a0 hw B _ _ h13 n0 f20 ge_B f17 f18 f19 f16 ne_wd_B) C 0 (ow hw 312 rfl) (ow hw 131 rfl) (by decide) (by decide)) (fun _ _ _ q => q.2) f17 [] [] rfl At rfl rfl rfl (Bw rfl) (by decide) (by decide) (by decide +kernel) ?_
  rintro T25 h26 v27 L28 S29 ⟨⟨rfl, K21, f22, f23, f24⟩, -⟩
  refine Ac C S29 [(65, .aload_n 0, 1)] 66 #[Ab B, Aa 3, Aa 0] [.ref B] ?_
  have f30 := ((X00.wr W14 ge_wd).keep K21 (allS ge_B all0))
  have f31 : n0 ≤ h26.size := (Nat.le_trans f20 K21.1)
  refine Bq C S29 (ow hw 195 rfl) (ow hw 196 rfl) (ow hw 198 rfl) (ow hw 197 rfl) (ow hw 199 rfl) (by decide) (Ag.pay (Da l Z a0 hw G1 G3 B h26 n0 f31 f30 HS) C 0 (ow hw 199 rfl) (ow hw 131 rfl) (by decide) (by decide)) (fun _ _ _ q => q.2) f22 [] [] rfl At rfl rfl rfl (Bw rfl) (by decide) (by decide) (by decide +kernel) ?_
  rintro T33 h34 v35 L36 S37 ⟨⟨rfl, e32⟩, -⟩
  rw [e32] at S37; clear e32
  refine Be C S37 (by decide +kernel) (by decide) (by decide) ?_
  have f38 := (f16.keep K21 (ninS ne_wd_B nin0))
  exact ⟨rfl, (((Keep.refl _ _).wr W14 (Ad 1)).trans K21 (allS (Ad 0) all0)), f22, f23, f24, f38⟩
theorem own_bse000 (hw : Ar a0 Z) (G1 : Int32) (G3 : Value) (B : Addr) (wd : Addr) (wk : ClassId) (h0 : Heap) (n0 : Nat) (z0 : n0 ≤ h0.size) (ge_B : n0 ≤ B) (ge_wd : n0 ≤ wd) (X00 : Old Z n0 h0) (p0 : Exa Z h0 B "java/util/BitSet") (p1 : Fld Z h0 B "java/util/BitSet" "words" "[J" (.ref wd)) (p2 : Fld Z h0 B "java/util/BitSet" "wordsInUse" "I" (.int 0)) (p3 : Arv Z h0 wd wk .long (1 : Int32) ([(.long (0 : Int64))]) (.long (0 : Int64))) (ne_wd_B : wd ≠ B) (HS : Bg Z G1 G3) :
    Ag l Z (⟨"java/util/BitSet", "set", "(I)V"⟩ : MethodName) jdk_92_method_19_code 3 none ({ frames := 2, cells := 0, slots := 0, locals := 28 } : Room) n0 #[(.ref B), (.int 0)] h0 (fun v h => v = none ∧ Keep h0 h [B, wd] ∧ Exa Z h B "java/util/BitSet" ∧ Fld Z h B "java/util/BitSet" "words" "[J" (.ref wd) ∧ Fld Z h B "java/util/BitSet" "wordsInUse" "I" (.int 1) ∧ Arv Z h wd wk .long (1 : Int32) ([(.long (1 : Int64))]) (.long (0 : Int64))) := by
  refine Au #[.val (.ref B), .val (.int 0), .unset] ?_
  intro p e s m below meth c T0 C S0
  refine Ac C S0 [(0, .iload_n 1, 1), (1, .ifCond .ge 30, 3), (31, .iload_n 1, 1)] 32 #[Ab B, Aa 0, .unset] [.int 0] ?_
  refine Ak C S0 hw 145 146 131 147 (Cr l Z a0 hw 0 h0 n0 z0) 0 [.int 0] [] Ca ?_
  rintro T2 h3 v4 L5 S6 ⟨⟨rfl, e1⟩, -⟩
  rw [e1] at S6; clear e1
  refine Ac C S6 [(35, .istore_n 2, 1), (36, .aload_n 0, 1), (37, .iload_n 2, 1)] 38 #[Ab B, Aa 0, Aa 0] [.int 0, .ref B] ?_
  refine Bq C S6 (ow hw 288 rfl) (ow hw 289 rfl) (ow hw 291 rfl) (ow hw 290 rfl) (ow hw 292 rfl) (by decide) (Ag.pay (own_bet0 l Z a0 hw B _ _ h0 n0 z0 ge_B p0 p1 p2 p3 ne_wd_B) C 0 (ow hw 292 rfl) (ow hw 131 rfl) (by decide) (by decide)) (fun _ _ _ q => q.2) p0 [.int 0] [] rfl Di rfl rfl rfl (Bw rfl) (by decide) (by decide) (by decide +kernel) ?_
  rintro T11 h12 v13 L14 S15 ⟨⟨rfl, K7, f8, f9, f10⟩, -⟩
  refine Ac C S15 [(41, .aload_n 0, 1)] 42 #[Ab B, Aa 0, Aa 0] [.ref B] ?_
  refine Ah C S15 hw 149 f9 ?_
  intro T16 S17
  refine Ac C S17 [(45, .iload_n 2, 1), (46, .dup2, 1)] 47 #[Ab B, Aa 0, Aa 0] [.int 0, .ref wd, .int 0, .ref wd] ?_
  have f18 := (p3.keep K7 (ninS ne_wd_B nin0))
  refine By C S17 f18 ⟨(by decide), (by decide)⟩ (.long (0 : Int64)) rfl (by decide +kernel) ?_
  refine Ac C S17 [(48, .lconst 1, 1), (49, .iload_n 1, 1), (50, .lshl, 1), (51, .lor, 1)] 52 #[Ab B, Aa 0, Aa 0] [.long (1 : Int64), .int 0, .ref wd] ?_
  refine Dx C S17 f18 ⟨(by decide), (by decide)⟩ 0 rfl (Bw rfl) ge_wd (by decide +kernel) ?_
  intro T19 h21 S20 W22 f23
  have f24 : Arv Z h21 wd wk .long (1 : Int32) ([(.long (1 : Int64))]) (.long (0 : Int64)) := f23
  refine Ac C S20 [(53, .aload_n 0, 1)] 54 #[Ab B, Aa 0, Aa 0] [.ref B] ?_
  have f25 := ((X00.keep K7 (allS ge_B all0)).wr W22 ge_wd)
  have f26 : n0 ≤ h21.size := (by rw [W22.size]; exact (Nat.le_trans z0 K7.1))
  have f33 := (Exa.wr W22 f8)
  refine Bq C S20 (ow hw 195 rfl) (ow hw 196 rfl) (ow hw 198 rfl) (ow hw 197 rfl) (ow hw 199 rfl) (by decide) (Ag.pay (Da l Z a0 hw G1 G3 B h21 n0 f26 f25 HS) C 0 (ow hw 199 rfl) (ow hw 131 rfl) (by decide) (by decide)) (fun _ _ _ q => q.2) f33 [] [] rfl At rfl rfl rfl (Bw rfl) (by decide) (by decide) (by decide +kernel) ?_
  rintro T28 h29 v30 L31 S32 ⟨⟨rfl, e27⟩, -⟩
  rw [e27] at S32; clear e27
  refine Be C S32 (by decide +kernel) (by decide) (by decide) ?_
  have f34 := (Fld.other W22 f9 (Or.inl (Ne.symm ne_wd_B)))
  have f35 := (Fld.other W22 f10 (Or.inl (Ne.symm ne_wd_B)))
  exact ⟨rfl, (((Keep.refl _ _).trans K7 (allS (Ad 0) all0)).wr W22 (Ad 1)), f33, f34, f35, f24⟩
theorem own_bse002 (hw : Ar a0 Z) (G1 : Int32) (G3 : Value) (B : Addr) (wd : Addr) (wk : ClassId) (h0 : Heap) (n0 : Nat) (z0 : n0 ≤ h0.size) (ge_B : n0 ≤ B) (ge_wd : n0 ≤ wd) (X00 : Old Z n0 h0) (p0 : Exa Z h0 B "java/util/BitSet") (p1 : Fld Z h0 B "java/util/BitSet" "words" "[J" (.ref wd)) (p2 : Fld Z h0 B "java/util/BitSet" "wordsInUse" "I" (.int 0)) (p3 : Arv Z h0 wd wk .long (1 : Int32) ([(.long (0 : Int64))]) (.long (0 : Int64))) (ne_wd_B : wd ≠ B) (HS : Bg Z G1 G3) :
    Ag l Z (⟨"java/util/BitSet", "set", "(I)V"⟩ : MethodName) jdk_92_method_19_code 3 none ({ frames := 2, cells := 0, slots := 0, locals := 28 } : Room) n0 #[(.ref B), (.int 2)] h0 (fun v h => v = none ∧ Keep h0 h [B, wd] ∧ Exa Z h B "java/util/BitSet" ∧ Fld Z h B "java/util/BitSet" "words" "[J" (.ref wd) ∧ Fld Z h B "java/util/BitSet" "wordsInUse" "I" (.int 1) ∧ Arv Z h wd wk .long (1 : Int32) ([(.long (4 : Int64))]) (.long (0 : Int64))) := by
  refine Au #[.val (.ref B), .val (.int 2), .unset] ?_
  intro p e s m below meth c T0 C S0
  refine Ac C S0 [(0, .iload_n 1, 1), (1, .ifCond .ge 30, 3), (31, .iload_n 1, 1)] 32 #[Ab B, Aa 2, .unset] [.int 2] ?_
  refine Ak C S0 hw 145 146 131 147 (Cr l Z a0 hw 2 h0 n0 z0) 0 [.int 2] [] Ca ?_
  rintro T2 h3 v4 L5 S6 ⟨⟨rfl, e1⟩, -⟩
  rw [e1] at S6; clear e1
  refine Ac C S6 [(35, .istore_n 2, 1), (36, .aload_n 0, 1), (37, .iload_n 2, 1)] 38 #[Ab B, Aa 2, Aa 0] [.int 0, .ref B] ?_
  refine Bq C S6 (ow hw 288 rfl) (ow hw 289 rfl) (ow hw 291 rfl) (ow hw 290 rfl) (ow hw 292 rfl) (by decide) (Ag.pay (own_bet0 l Z a0 hw B _ _ h0 n0 z0 ge_B p0 p1 p2 p3 ne_wd_B) C 0 (ow hw 292 rfl) (ow hw 131 rfl) (by decide) (by decide)) (fun _ _ _ q => q.2) p0 [.int 0] [] rfl Di rfl rfl rfl (Bw rfl) (by decide) (by decide) (by decide +kernel) ?_
  rintro T11 h12 v13 L14 S15 ⟨⟨rfl, K7, f8, f9, f10⟩, -⟩
  refine Ac C S15 [(41, .aload_n 0, 1)] 42 #[Ab B, Aa 2, Aa 0] [.ref B] ?_
  refine Ah C S15 hw 149 f9 ?_
  intro T16 S17
  refine Ac C S17 [(45, .iload_n 2, 1), (46, .dup2, 1)] 47 #[Ab B, Aa 2, Aa 0] [.int 0, .ref wd, .int 0, .ref wd] ?_
  have f18 := (p3.keep K7 (ninS ne_wd_B nin0))
  refine By C S17 f18 ⟨(by decide), (by decide)⟩ (.long (0 : Int64)) rfl (by decide +kernel) ?_
  refine Ac C S17 [(48, .lconst 1, 1), (49, .iload_n 1, 1), (50, .lshl, 1), (51, .lor, 1)] 52 #[Ab B, Aa 2, Aa 0] [.long (4 : Int64), .int 0, .ref wd] ?_
  refine Dx C S17 f18 ⟨(by decide), (by decide)⟩ 0 rfl (Bw rfl) ge_wd (by decide +kernel) ?_
  intro T19 h21 S20 W22 f23
  have f24 : Arv Z h21 wd wk .long (1 : Int32) ([(.long (4 : Int64))]) (.long (0 : Int64)) := f23
  refine Ac C S20 [(53, .aload_n 0, 1)] 54 #[Ab B, Aa 2, Aa 0] [.ref B] ?_
  have f25 := ((X00.keep K7 (allS ge_B all0)).wr W22 ge_wd)
  have f26 : n0 ≤ h21.size := (by rw [W22.size]; exact (Nat.le_trans z0 K7.1))
  have f33 := (Exa.wr W22 f8)
  refine Bq C S20 (ow hw 195 rfl) (ow hw 196 rfl) (ow hw 198 rfl) (ow hw 197 rfl) (ow hw 199 rfl) (by decide) (Ag.pay (Da l Z a0 hw G1 G3 B h21 n0 f26 f25 HS) C 0 (ow hw 199 rfl) (ow hw 131 rfl) (by decide) (by decide)) (fun _ _ _ q => q.2) f33 [] [] rfl At rfl rfl rfl (Bw rfl) (by decide) (by decide) (by decide +kernel) ?_
  rintro T28 h29 v30 L31 S32 ⟨⟨rfl, e27⟩, -⟩
  rw [e27] at S32; clear e27
  refine Be C S32 (by decide +kernel) (by decide) (by decide) ?_
  have f34 := (Fld.other W22 f9 (Or.inl (Ne.symm ne_wd_B)))
  have f35 := (Fld.other W22 f10 (Or.inl (Ne.symm ne_wd_B)))
  exact ⟨rfl, (((Keep.refl _ _).trans K7 (allS (Ad 0) all0)).wr W22 (Ad 1)), f33, f34, f35, f24⟩
theorem own_bse112 (hw : Ar a0 Z) (G1 : Int32) (G3 : Value) (B : Addr) (wd : Addr) (wk : ClassId) (h0 : Heap) (n0 : Nat) (z0 : n0 ≤ h0.size) (ge_B : n0 ≤ B) (ge_wd : n0 ≤ wd) (X00 : Old Z n0 h0) (p0 : Exa Z h0 B "java/util/BitSet") (p1 : Fld Z h0 B "java/util/BitSet" "words" "[J" (.ref wd)) (p2 : Fld Z h0 B "java/util/BitSet" "wordsInUse" "I" (.int 1)) (p3 : Arv Z h0 wd wk .long (1 : Int32) ([(.long (1 : Int64))]) (.long (0 : Int64))) (ne_wd_B : wd ≠ B) (HS : Bg Z G1 G3) :
    Ag l Z (⟨"java/util/BitSet", "set", "(I)V"⟩ : MethodName) jdk_92_method_19_code 3 none ({ frames := 1, cells := 0, slots := 0, locals := 14 } : Room) n0 #[(.ref B), (.int 2)] h0 (fun v h => v = none ∧ Keep h0 h [B, wd] ∧ Exa Z h B "java/util/BitSet" ∧ Fld Z h B "java/util/BitSet" "words" "[J" (.ref wd) ∧ Fld Z h B "java/util/BitSet" "wordsInUse" "I" (.int 1) ∧ Arv Z h wd wk .long (1 : Int32) ([(.long (5 : Int64))]) (.long (0 : Int64))) := by
  refine Au #[.val (.ref B), .val (.int 2), .unset] ?_
  intro p e s m below meth c T0 C S0
  refine Ac C S0 [(0, .iload_n 1, 1), (1, .ifCond .ge 30, 3), (31, .iload_n 1, 1)] 32 #[Ab B, Aa 2, .unset] [.int 2] ?_
  refine Ak C S0 hw 145 146 131 147 (Cr l Z a0 hw 2 h0 n0 z0) 0 [.int 2] [] Ca ?_
  rintro T2 h3 v4 L5 S6 ⟨⟨rfl, e1⟩, -⟩
  rw [e1] at S6; clear e1
  refine Ac C S6 [(35, .istore_n 2, 1), (36, .aload_n 0, 1), (37, .iload_n 2, 1)] 38 #[Ab B, Aa 2, Aa 0] [.int 0, .ref B] ?_
  refine Bq C S6 (ow hw 288 rfl) (ow hw 289 rfl) (ow hw 291 rfl) (ow hw 290 rfl) (ow hw 292 rfl) (by decide) (Ag.pay (own_bet1 l Z a0 hw B _ _ _ h0 n0 z0 p0 p1 p2 p3) C 0 (ow hw 292 rfl) (ow hw 131 rfl) (by decide) (by decide)) (fun _ _ _ q => q.2) p0 [.int 0] [] rfl Di rfl rfl rfl (Bw rfl) (by decide) (by decide) (by decide +kernel) ?_
  rintro T8 h9 v10 L11 S12 ⟨⟨rfl, e7⟩, -⟩
  rw [e7] at S12; clear e7
  refine Ac C S12 [(41, .aload_n 0, 1)] 42 #[Ab B, Aa 2, Aa 0] [.ref B] ?_
  refine Ah C S12 hw 149 p1 ?_
  intro T13 S14
  refine Ac C S14 [(45, .iload_n 2, 1), (46, .dup2, 1)] 47 #[Ab B, Aa 2, Aa 0] [.int 0, .ref wd, .int 0, .ref wd] ?_
  refine By C S14 p3 ⟨(by decide), (by decide)⟩ (.long (1 : Int64)) rfl (by decide +kernel) ?_
  refine Ac C S14 [(48, .lconst 1, 1), (49, .iload_n 1, 1), (50, .lshl, 1), (51, .lor, 1)] 52 #[Ab B, Aa 2, Aa 0] [.long (5 : Int64), .int 0, .ref wd] ?_
  refine Dx C S14 p3 ⟨(by decide), (by decide)⟩ 0 rfl (Bw rfl) ge_wd (by decide +kernel) ?_
  intro T15 h17 S16 W18 f19
  have f20 : Arv Z h17 wd wk .long (1 : Int32) ([(.long (5 : Int64))]) (.long (0 : Int64)) := f19
  refine Ac C S16 [(53, .aload_n 0, 1)] 54 #[Ab B, Aa 2, Aa 0] [.ref B] ?_
  have f21 := (X00.wr W18 ge_wd)
  have f22 : n0 ≤ h17.size := (by rw [W18.size]; exact z0)
  have f29 := (Exa.wr W18 p0)
  refine Bq C S16 (ow hw 195 rfl) (ow hw 196 rfl) (ow hw 198 rfl) (ow hw 197 rfl) (ow hw 199 rfl) (by decide) (Ag.pay (Da l Z a0 hw G1 G3 B h17 n0 f22 f21 HS) C 0 (ow hw 199 rfl) (ow hw 131 rfl) (by decide) (by decide)) (fun _ _ _ q => q.2) f29 [] [] rfl At rfl rfl rfl (Bw rfl) (by decide) (by decide) (by decide +kernel) ?_
  rintro T24 h25 v26 L27 S28 ⟨⟨rfl, e23⟩, -⟩
  rw [e23] at S28; clear e23
  refine Be C S28 (by decide +kernel) (by decide) (by decide) ?_
  have f30 := (Fld.other W18 p1 (Or.inl (Ne.symm ne_wd_B)))
  have f31 := (Fld.other W18 p2 (Or.inl (Ne.symm ne_wd_B)))
  exact ⟨rfl, ((Keep.refl _ _).wr W18 (Ad 1)), f29, f30, f31, f20⟩
theorem own_bg11 (hw : Ar a0 Z) (G1 : Int32) (G3 : Value) (B : Addr) (wd : Addr) (wk : ClassId) (u : Int32) (W : Int64) (o : Int32) (cl : Int32) (h0 : Heap) (n0 : Nat) (z0 : n0 ≤ h0.size) (X00 : Old Z n0 h0) (p0 : Exa Z h0 B "java/util/BitSet") (p1 : Fld Z h0 B "java/util/BitSet" "words" "[J" (.ref wd)) (p2 : Fld Z h0 B "java/util/BitSet" "wordsInUse" "I" (.int u)) (p3 : Arv Z h0 wd wk .long (1 : Int32) ([(.long W)]) (.long (0 : Int64))) (HS : Bg Z G1 G3) (hst : Fz u W o cl) :
    Ag l Z (⟨"java/util/BitSet", "get", "(I)Z"⟩ : MethodName) jdk_92_method_26_code 3 (some .boolean) ({ frames := 1, cells := 0, slots := 0, locals := 12 } : Room) n0 #[(.ref B), (.int 1)] h0 (fun v h => v = some (.int 0) ∧ h = h0) := by
  refine Au #[.val (.ref B), .val (.int 1), .unset] ?_
  intro p e s m below meth c T0 C S0
  rcases hst with ⟨rfl, rfl, rfl, rfl⟩ | ⟨rfl, rfl, rfl, rfl⟩
  · refine Ac C S0 [(0, .iload_n 1, 1), (1, .ifCond .ge 30, 3), (31, .aload_n 0, 1)] 32 #[Ab B, Aa 1, .unset] [.ref B] ?_
    refine Bq C S0 (ow hw 195 rfl) (ow hw 196 rfl) (ow hw 198 rfl) (ow hw 197 rfl) (ow hw 199 rfl) (by decide) (Ag.pay (Da l Z a0 hw G1 G3 B h0 n0 z0 X00 HS) C 0 (ow hw 199 rfl) (ow hw 131 rfl) (by decide) (by decide)) (fun _ _ _ q => q.2) p0 [] [] rfl At rfl rfl rfl (Bw rfl) (by decide) (by decide) (by decide +kernel) ?_
    rintro T2 h3 v4 L5 S6 ⟨⟨rfl, e1⟩, -⟩
    rw [e1] at S6; clear e1
    refine Ac C S6 [(35, .iload_n 1, 1)] 36 #[Ab B, Aa 1, .unset] [.int 1] ?_
    refine Ak C S6 hw 145 146 131 147 (Cr l Z a0 hw 1 h0 n0 z0) 0 [.int 1] [] Ca ?_
    rintro T8 h9 v10 L11 S12 ⟨⟨rfl, e7⟩, -⟩
    rw [e7] at S12; clear e7
    refine Ac C S12 [(39, .istore_n 2, 1), (40, .iload_n 2, 1), (41, .aload_n 0, 1)] 42 #[Ab B, Aa 1, Aa 0] [.ref B, .int 0] ?_
    refine Ah C S12 hw 136 p2 ?_
    intro T13 S14
    refine Ac C S14 [(45, .if_icmp .ge 22, 3), (67, .iconst 0, 1)] 68 #[Ab B, Aa 1, Aa 0] [.int 0] ?_
    refine Bs C S14 (by decide +kernel) (by decide) (by decide) (by decide) ?_
    exact ⟨rfl, rfl⟩
  · refine Ac C S0 [(0, .iload_n 1, 1), (1, .ifCond .ge 30, 3), (31, .aload_n 0, 1)] 32 #[Ab B, Aa 1, .unset] [.ref B] ?_
    refine Bq C S0 (ow hw 195 rfl) (ow hw 196 rfl) (ow hw 198 rfl) (ow hw 197 rfl) (ow hw 199 rfl) (by decide) (Ag.pay (Da l Z a0 hw G1 G3 B h0 n0 z0 X00 HS) C 0 (ow hw 199 rfl) (ow hw 131 rfl) (by decide) (by decide)) (fun _ _ _ q => q.2) p0 [] [] rfl At rfl rfl rfl (Bw rfl) (by decide) (by decide) (by decide +kernel) ?_
    rintro T16 h17 v18 L19 S20 ⟨⟨rfl, e15⟩, -⟩
    rw [e15] at S20; clear e15
    refine Ac C S20 [(35, .iload_n 1, 1)] 36 #[Ab B, Aa 1, .unset] [.int 1] ?_
    refine Ak C S20 hw 145 146 131 147 (Cr l Z a0 hw 1 h0 n0 z0) 0 [.int 1] [] Ca ?_
    rintro T22 h23 v24 L25 S26 ⟨⟨rfl, e21⟩, -⟩
    rw [e21] at S26; clear e21
    refine Ac C S26 [(39, .istore_n 2, 1), (40, .iload_n 2, 1), (41, .aload_n 0, 1)] 42 #[Ab B, Aa 1, Aa 0] [.ref B, .int 0] ?_
    refine Ah C S26 hw 136 p2 ?_
    intro T27 S28
    refine Ac C S28 [(45, .if_icmp .ge 22, 3), (48, .aload_n 0, 1)] 49 #[Ab B, Aa 1, Aa 0] [.ref B] ?_
    refine Ah C S28 hw 149 p1 ?_
    intro T29 S30
    refine Ac C S30 [(52, .iload_n 2, 1)] 53 #[Ab B, Aa 1, Aa 0] [.int 0, .ref wd] ?_
    refine By C S30 p3 ⟨(by decide), (by decide)⟩ (.long (1 : Int64)) rfl (by decide +kernel) ?_
    refine Ac C S30 [(54, .lconst 1, 1), (55, .iload_n 1, 1), (56, .lshl, 1), (57, .land, 1), (58, .lconst 0, 1), (59, .lcmp, 1)] 60 #[Ab B, Aa 1, Aa 0] [.int (Jvm.Free.XT.cmpL ((1 : Int64) &&& ((1 : Int64) <<< ((1 : Int32).toInt64 &&& 63))) (0 : Int64))] ?_
    refine Bv C S30 .eq 7 67 (fun (q31 : (Jvm.Free.XT.cmpL ((1 : Int64) &&& ((1 : Int64) <<< ((1 : Int32).toInt64 &&& 63))) (0 : Int64)) = (0 : Int32)) => ?_) (fun (hq : ¬ (Jvm.Free.XT.cmpL ((1 : Int64) &&& ((1 : Int64) <<< ((1 : Int32).toInt64 &&& 63))) (0 : Int64)) = (0 : Int32)) => False.elim (by revert hq; decide))
    refine Ac C S30 [(67, .iconst 0, 1)] 68 #[Ab B, Aa 1, Aa 0] [.int 0] ?_
    refine Bs C S30 (by decide +kernel) (by decide) (by decide) (by decide) ?_
    exact ⟨rfl, rfl⟩
theorem own_bg10 (hw : Ar a0 Z) (G1 : Int32) (G3 : Value) (B : Addr) (wd : Addr) (wk : ClassId) (u : Int32) (W : Int64) (o : Int32) (cl : Int32) (h0 : Heap) (n0 : Nat) (z0 : n0 ≤ h0.size) (X00 : Old Z n0 h0) (p0 : Exa Z h0 B "java/util/BitSet") (p1 : Fld Z h0 B "java/util/BitSet" "words" "[J" (.ref wd)) (p2 : Fld Z h0 B "java/util/BitSet" "wordsInUse" "I" (.int u)) (p3 : Arv Z h0 wd wk .long (1 : Int32) ([(.long W)]) (.long (0 : Int64))) (HS : Bg Z G1 G3) (hst : Fz u W o cl) :
    Ag l Z (⟨"java/util/BitSet", "get", "(I)Z"⟩ : MethodName) jdk_92_method_26_code 3 (some .boolean) ({ frames := 1, cells := 0, slots := 0, locals := 12 } : Room) n0 #[(.ref B), (.int 0)] h0 (fun v h => v = some (.int o) ∧ h = h0) := by
  refine Au #[.val (.ref B), .val (.int 0), .unset] ?_
  intro p e s m below meth c T0 C S0
  rcases hst with ⟨rfl, rfl, rfl, rfl⟩ | ⟨rfl, rfl, rfl, rfl⟩
  · refine Ac C S0 [(0, .iload_n 1, 1), (1, .ifCond .ge 30, 3), (31, .aload_n 0, 1)] 32 #[Ab B, Aa 0, .unset] [.ref B] ?_
    refine Bq C S0 (ow hw 195 rfl) (ow hw 196 rfl) (ow hw 198 rfl) (ow hw 197 rfl) (ow hw 199 rfl) (by decide) (Ag.pay (Da l Z a0 hw G1 G3 B h0 n0 z0 X00 HS) C 0 (ow hw 199 rfl) (ow hw 131 rfl) (by decide) (by decide)) (fun _ _ _ q => q.2) p0 [] [] rfl At rfl rfl rfl (Bw rfl) (by decide) (by decide) (by decide +kernel) ?_
    rintro T2 h3 v4 L5 S6 ⟨⟨rfl, e1⟩, -⟩
    rw [e1] at S6; clear e1
    refine Ac C S6 [(35, .iload_n 1, 1)] 36 #[Ab B, Aa 0, .unset] [.int 0] ?_
    refine Ak C S6 hw 145 146 131 147 (Cr l Z a0 hw 0 h0 n0 z0) 0 [.int 0] [] Ca ?_
    rintro T8 h9 v10 L11 S12 ⟨⟨rfl, e7⟩, -⟩
    rw [e7] at S12; clear e7
    refine Ac C S12 [(39, .istore_n 2, 1), (40, .iload_n 2, 1), (41, .aload_n 0, 1)] 42 #[Ab B, Aa 0, Aa 0] [.ref B, .int 0] ?_
    refine Ah C S12 hw 136 p2 ?_
    intro T13 S14
    refine Ac C S14 [(45, .if_icmp .ge 22, 3), (67, .iconst 0, 1)] 68 #[Ab B, Aa 0, Aa 0] [.int 0] ?_
    refine Bs C S14 (by decide +kernel) (by decide) (by decide) (by decide) ?_
    exact ⟨rfl, rfl⟩
  · refine Ac C S0 [(0, .iload_n 1, 1), (1, .ifCond .ge 30, 3), (31, .aload_n 0, 1)] 32 #[Ab B, Aa 0, .unset] [.ref B] ?_
    refine Bq C S0 (ow hw 195 rfl) (ow hw 196 rfl) (ow hw 198 rfl) (ow hw 197 rfl) (ow hw 199 rfl) (by decide) (Ag.pay (Da l Z a0 hw G1 G3 B h0 n0 z0 X00 HS) C 0 (ow hw 199 rfl) (ow hw 131 rfl) (by decide) (by decide)) (fun _ _ _ q => q.2) p0 [] [] rfl At rfl rfl rfl (Bw rfl) (by decide) (by decide) (by decide +kernel) ?_
    rintro T16 h17 v18 L19 S20 ⟨⟨rfl, e15⟩, -⟩
    rw [e15] at S20; clear e15
    refine Ac C S20 [(35, .iload_n 1, 1)] 36 #[Ab B, Aa 0, .unset] [.int 0] ?_
    refine Ak C S20 hw 145 146 131 147 (Cr l Z a0 hw 0 h0 n0 z0) 0 [.int 0] [] Ca ?_
    rintro T22 h23 v24 L25 S26 ⟨⟨rfl, e21⟩, -⟩
    rw [e21] at S26; clear e21
    refine Ac C S26 [(39, .istore_n 2, 1), (40, .iload_n 2, 1), (41, .aload_n 0, 1)] 42 #[Ab B, Aa 0, Aa 0] [.ref B, .int 0] ?_
    refine Ah C S26 hw 136 p2 ?_
    intro T27 S28
    refine Ac C S28 [(45, .if_icmp .ge 22, 3), (48, .aload_n 0, 1)] 49 #[Ab B, Aa 0, Aa 0] [.ref B] ?_
    refine Ah C S28 hw 149 p1 ?_
    intro T29 S30
    refine Ac C S30 [(52, .iload_n 2, 1)] 53 #[Ab B, Aa 0, Aa 0] [.int 0, .ref wd] ?_
    refine By C S30 p3 ⟨(by decide), (by decide)⟩ (.long (1 : Int64)) rfl (by decide +kernel) ?_
    refine Ac C S30 [(54, .lconst 1, 1), (55, .iload_n 1, 1), (56, .lshl, 1), (57, .land, 1), (58, .lconst 0, 1), (59, .lcmp, 1)] 60 #[Ab B, Aa 0, Aa 0] [.int (Jvm.Free.XT.cmpL ((1 : Int64) &&& ((1 : Int64) <<< ((0 : Int32).toInt64 &&& 63))) (0 : Int64))] ?_
    refine Bv C S30 .eq 7 67 (fun (hq : (Jvm.Free.XT.cmpL ((1 : Int64) &&& ((1 : Int64) <<< ((0 : Int32).toInt64 &&& 63))) (0 : Int64)) = (0 : Int32)) => False.elim (by revert hq; decide)) (fun (q31 : ¬ (Jvm.Free.XT.cmpL ((1 : Int64) &&& ((1 : Int64) <<< ((0 : Int32).toInt64 &&& 63))) (0 : Int64)) = (0 : Int32)) => ?_)
    refine Ac C S30 [(63, .iconst 1, 1), (64, .goto 4, 3)] 68 #[Ab B, Aa 0, Aa 0] [.int 1] ?_
    refine Bs C S30 (by decide +kernel) (by decide) (by decide) (by decide) ?_
    exact ⟨rfl, rfl⟩
theorem own_bg43 (hw : Ar a0 Z) (G1 : Int32) (G3 : Value) (B : Addr) (wd : Addr) (wk : ClassId) (W : Int64) (o : Int32) (cl : Int32) (h0 : Heap) (n0 : Nat) (z0 : n0 ≤ h0.size) (X00 : Old Z n0 h0) (p0 : Exa Z h0 B "java/util/BitSet") (p1 : Fld Z h0 B "java/util/BitSet" "words" "[J" (.ref wd)) (p2 : Fld Z h0 B "java/util/BitSet" "wordsInUse" "I" (.int 1)) (p3 : Arv Z h0 wd wk .long (1 : Int32) ([(.long W)]) (.long (0 : Int64))) (HS : Bg Z G1 G3) (hst : Fk W o cl) :
    Ag l Z (⟨"java/util/BitSet", "get", "(I)Z"⟩ : MethodName) jdk_92_method_26_code 3 (some .boolean) ({ frames := 1, cells := 0, slots := 0, locals := 12 } : Room) n0 #[(.ref B), (.int 3)] h0 (fun v h => v = some (.int 0) ∧ h = h0) := by
  refine Au #[.val (.ref B), .val (.int 3), .unset] ?_
  intro p e s m below meth c T0 C S0
  rcases hst with ⟨rfl, rfl, rfl⟩ | ⟨rfl, rfl, rfl⟩
  · refine Ac C S0 [(0, .iload_n 1, 1), (1, .ifCond .ge 30, 3), (31, .aload_n 0, 1)] 32 #[Ab B, Aa 3, .unset] [.ref B] ?_
    refine Bq C S0 (ow hw 195 rfl) (ow hw 196 rfl) (ow hw 198 rfl) (ow hw 197 rfl) (ow hw 199 rfl) (by decide) (Ag.pay (Da l Z a0 hw G1 G3 B h0 n0 z0 X00 HS) C 0 (ow hw 199 rfl) (ow hw 131 rfl) (by decide) (by decide)) (fun _ _ _ q => q.2) p0 [] [] rfl At rfl rfl rfl (Bw rfl) (by decide) (by decide) (by decide +kernel) ?_
    rintro T2 h3 v4 L5 S6 ⟨⟨rfl, e1⟩, -⟩
    rw [e1] at S6; clear e1
    refine Ac C S6 [(35, .iload_n 1, 1)] 36 #[Ab B, Aa 3, .unset] [.int 3] ?_
    refine Ak C S6 hw 145 146 131 147 (Cr l Z a0 hw 3 h0 n0 z0) 0 [.int 3] [] Ca ?_
    rintro T8 h9 v10 L11 S12 ⟨⟨rfl, e7⟩, -⟩
    rw [e7] at S12; clear e7
    refine Ac C S12 [(39, .istore_n 2, 1), (40, .iload_n 2, 1), (41, .aload_n 0, 1)] 42 #[Ab B, Aa 3, Aa 0] [.ref B, .int 0] ?_
    refine Ah C S12 hw 136 p2 ?_
    intro T13 S14
    refine Ac C S14 [(45, .if_icmp .ge 22, 3), (48, .aload_n 0, 1)] 49 #[Ab B, Aa 3, Aa 0] [.ref B] ?_
    refine Ah C S14 hw 149 p1 ?_
    intro T15 S16
    refine Ac C S16 [(52, .iload_n 2, 1)] 53 #[Ab B, Aa 3, Aa 0] [.int 0, .ref wd] ?_
    refine By C S16 p3 ⟨(by decide), (by decide)⟩ (.long (4 : Int64)) rfl (by decide +kernel) ?_
    refine Ac C S16 [(54, .lconst 1, 1), (55, .iload_n 1, 1), (56, .lshl, 1), (57, .land, 1), (58, .lconst 0, 1), (59, .lcmp, 1)] 60 #[Ab B, Aa 3, Aa 0] [.int (Jvm.Free.XT.cmpL ((4 : Int64) &&& ((1 : Int64) <<< ((3 : Int32).toInt64 &&& 63))) (0 : Int64))] ?_
    refine Bv C S16 .eq 7 67 (fun (q17 : (Jvm.Free.XT.cmpL ((4 : Int64) &&& ((1 : Int64) <<< ((3 : Int32).toInt64 &&& 63))) (0 : Int64)) = (0 : Int32)) => ?_) (fun (hq : ¬ (Jvm.Free.XT.cmpL ((4 : Int64) &&& ((1 : Int64) <<< ((3 : Int32).toInt64 &&& 63))) (0 : Int64)) = (0 : Int32)) => False.elim (by revert hq; decide))
    refine Ac C S16 [(67, .iconst 0, 1)] 68 #[Ab B, Aa 3, Aa 0] [.int 0] ?_
    refine Bs C S16 (by decide +kernel) (by decide) (by decide) (by decide) ?_
    exact ⟨rfl, rfl⟩
  · refine Ac C S0 [(0, .iload_n 1, 1), (1, .ifCond .ge 30, 3), (31, .aload_n 0, 1)] 32 #[Ab B, Aa 3, .unset] [.ref B] ?_
    refine Bq C S0 (ow hw 195 rfl) (ow hw 196 rfl) (ow hw 198 rfl) (ow hw 197 rfl) (ow hw 199 rfl) (by decide) (Ag.pay (Da l Z a0 hw G1 G3 B h0 n0 z0 X00 HS) C 0 (ow hw 199 rfl) (ow hw 131 rfl) (by decide) (by decide)) (fun _ _ _ q => q.2) p0 [] [] rfl At rfl rfl rfl (Bw rfl) (by decide) (by decide) (by decide +kernel) ?_
    rintro T19 h20 v21 L22 S23 ⟨⟨rfl, e18⟩, -⟩
    rw [e18] at S23; clear e18
    refine Ac C S23 [(35, .iload_n 1, 1)] 36 #[Ab B, Aa 3, .unset] [.int 3] ?_
    refine Ak C S23 hw 145 146 131 147 (Cr l Z a0 hw 3 h0 n0 z0) 0 [.int 3] [] Ca ?_
    rintro T25 h26 v27 L28 S29 ⟨⟨rfl, e24⟩, -⟩
    rw [e24] at S29; clear e24
    refine Ac C S29 [(39, .istore_n 2, 1), (40, .iload_n 2, 1), (41, .aload_n 0, 1)] 42 #[Ab B, Aa 3, Aa 0] [.ref B, .int 0] ?_
    refine Ah C S29 hw 136 p2 ?_
    intro T30 S31
    refine Ac C S31 [(45, .if_icmp .ge 22, 3), (48, .aload_n 0, 1)] 49 #[Ab B, Aa 3, Aa 0] [.ref B] ?_
    refine Ah C S31 hw 149 p1 ?_
    intro T32 S33
    refine Ac C S33 [(52, .iload_n 2, 1)] 53 #[Ab B, Aa 3, Aa 0] [.int 0, .ref wd] ?_
    refine By C S33 p3 ⟨(by decide), (by decide)⟩ (.long (5 : Int64)) rfl (by decide +kernel) ?_
    refine Ac C S33 [(54, .lconst 1, 1), (55, .iload_n 1, 1), (56, .lshl, 1), (57, .land, 1), (58, .lconst 0, 1), (59, .lcmp, 1)] 60 #[Ab B, Aa 3, Aa 0] [.int (Jvm.Free.XT.cmpL ((5 : Int64) &&& ((1 : Int64) <<< ((3 : Int32).toInt64 &&& 63))) (0 : Int64))] ?_
    refine Bv C S33 .eq 7 67 (fun (q34 : (Jvm.Free.XT.cmpL ((5 : Int64) &&& ((1 : Int64) <<< ((3 : Int32).toInt64 &&& 63))) (0 : Int64)) = (0 : Int32)) => ?_) (fun (hq : ¬ (Jvm.Free.XT.cmpL ((5 : Int64) &&& ((1 : Int64) <<< ((3 : Int32).toInt64 &&& 63))) (0 : Int64)) = (0 : Int32)) => False.elim (by revert hq; decide))
    refine Ac C S33 [(67, .iconst 0, 1)] 68 #[Ab B, Aa 3, Aa 0] [.int 0] ?_
    refine Bs C S33 (by decide +kernel) (by decide) (by decide) (by decide) ?_
    exact ⟨rfl, rfl⟩
theorem own_bg42 (hw : Ar a0 Z) (G1 : Int32) (G3 : Value) (B : Addr) (wd : Addr) (wk : ClassId) (W : Int64) (o : Int32) (cl : Int32) (h0 : Heap) (n0 : Nat) (z0 : n0 ≤ h0.size) (X00 : Old Z n0 h0) (p0 : Exa Z h0 B "java/util/BitSet") (p1 : Fld Z h0 B "java/util/BitSet" "words" "[J" (.ref wd)) (p2 : Fld Z h0 B "java/util/BitSet" "wordsInUse" "I" (.int 1)) (p3 : Arv Z h0 wd wk .long (1 : Int32) ([(.long W)]) (.long (0 : Int64))) (HS : Bg Z G1 G3) (hst : Fk W o cl) :
    Ag l Z (⟨"java/util/BitSet", "get", "(I)Z"⟩ : MethodName) jdk_92_method_26_code 3 (some .boolean) ({ frames := 1, cells := 0, slots := 0, locals := 12 } : Room) n0 #[(.ref B), (.int 2)] h0 (fun v h => v = some (.int 1) ∧ h = h0) := by
  refine Au #[.val (.ref B), .val (.int 2), .unset] ?_
  intro p e s m below meth c T0 C S0
  rcases hst with ⟨rfl, rfl, rfl⟩ | ⟨rfl, rfl, rfl⟩
  · refine Ac C S0 [(0, .iload_n 1, 1), (1, .ifCond .ge 30, 3), (31, .aload_n 0, 1)] 32 #[Ab B, Aa 2, .unset] [.ref B] ?_
    refine Bq C S0 (ow hw 195 rfl) (ow hw 196 rfl) (ow hw 198 rfl) (ow hw 197 rfl) (ow hw 199 rfl) (by decide) (Ag.pay (Da l Z a0 hw G1 G3 B h0 n0 z0 X00 HS) C 0 (ow hw 199 rfl) (ow hw 131 rfl) (by decide) (by decide)) (fun _ _ _ q => q.2) p0 [] [] rfl At rfl rfl rfl (Bw rfl) (by decide) (by decide) (by decide +kernel) ?_
    rintro T2 h3 v4 L5 S6 ⟨⟨rfl, e1⟩, -⟩
    rw [e1] at S6; clear e1
    refine Ac C S6 [(35, .iload_n 1, 1)] 36 #[Ab B, Aa 2, .unset] [.int 2] ?_
    refine Ak C S6 hw 145 146 131 147 (Cr l Z a0 hw 2 h0 n0 z0) 0 [.int 2] [] Ca ?_
    rintro T8 h9 v10 L11 S12 ⟨⟨rfl, e7⟩, -⟩
    rw [e7] at S12; clear e7
    refine Ac C S12 [(39, .istore_n 2, 1), (40, .iload_n 2, 1), (41, .aload_n 0, 1)] 42 #[Ab B, Aa 2, Aa 0] [.ref B, .int 0] ?_
    refine Ah C S12 hw 136 p2 ?_
    intro T13 S14
    refine Ac C S14 [(45, .if_icmp .ge 22, 3), (48, .aload_n 0, 1)] 49 #[Ab B, Aa 2, Aa 0] [.ref B] ?_
    refine Ah C S14 hw 149 p1 ?_
    intro T15 S16
    refine Ac C S16 [(52, .iload_n 2, 1)] 53 #[Ab B, Aa 2, Aa 0] [.int 0, .ref wd] ?_
    refine By C S16 p3 ⟨(by decide), (by decide)⟩ (.long (4 : Int64)) rfl (by decide +kernel) ?_
    refine Ac C S16 [(54, .lconst 1, 1), (55, .iload_n 1, 1), (56, .lshl, 1), (57, .land, 1), (58, .lconst 0, 1), (59, .lcmp, 1)] 60 #[Ab B, Aa 2, Aa 0] [.int (Jvm.Free.XT.cmpL ((4 : Int64) &&& ((1 : Int64) <<< ((2 : Int32).toInt64 &&& 63))) (0 : Int64))] ?_
    refine Bv C S16 .eq 7 67 (fun (hq : (Jvm.Free.XT.cmpL ((4 : Int64) &&& ((1 : Int64) <<< ((2 : Int32).toInt64 &&& 63))) (0 : Int64)) = (0 : Int32)) => False.elim (by revert hq; decide)) (fun (q17 : ¬ (Jvm.Free.XT.cmpL ((4 : Int64) &&& ((1 : Int64) <<< ((2 : Int32).toInt64 &&& 63))) (0 : Int64)) = (0 : Int32)) => ?_)
    refine Ac C S16 [(63, .iconst 1, 1), (64, .goto 4, 3)] 68 #[Ab B, Aa 2, Aa 0] [.int 1] ?_
    refine Bs C S16 (by decide +kernel) (by decide) (by decide) (by decide) ?_
    exact ⟨rfl, rfl⟩
  · refine Ac C S0 [(0, .iload_n 1, 1), (1, .ifCond .ge 30, 3), (31, .aload_n 0, 1)] 32 #[Ab B, Aa 2, .unset] [.ref B] ?_
    refine Bq C S0 (ow hw 195 rfl) (ow hw 196 rfl) (ow hw 198 rfl) (ow hw 197 rfl) (ow hw 199 rfl) (by decide) (Ag.pay (Da l Z a0 hw G1 G3 B h0 n0 z0 X00 HS) C 0 (ow hw 199 rfl) (ow hw 131 rfl) (by decide) (by decide)) (fun _ _ _ q => q.2) p0 [] [] rfl At rfl rfl rfl (Bw rfl) (by decide) (by decide) (by decide +kernel) ?_
    rintro T19 h20 v21 L22 S23 ⟨⟨rfl, e18⟩, -⟩
    rw [e18] at S23; clear e18
    refine Ac C S23 [(35, .iload_n 1, 1)] 36 #[Ab B, Aa 2, .unset] [.int 2] ?_
    refine Ak C S23 hw 145 146 131 147 (Cr l Z a0 hw 2 h0 n0 z0) 0 [.int 2] [] Ca ?_
    rintro T25 h26 v27 L28 S29 ⟨⟨rfl, e24⟩, -⟩
    rw [e24] at S29; clear e24
    refine Ac C S29 [(39, .istore_n 2, 1), (40, .iload_n 2, 1), (41, .aload_n 0, 1)] 42 #[Ab B, Aa 2, Aa 0] [.ref B, .int 0] ?_
    refine Ah C S29 hw 136 p2 ?_
    intro T30 S31
    refine Ac C S31 [(45, .if_icmp .ge 22, 3), (48, .aload_n 0, 1)] 49 #[Ab B, Aa 2, Aa 0] [.ref B] ?_
    refine Ah C S31 hw 149 p1 ?_
    intro T32 S33
    refine Ac C S33 [(52, .iload_n 2, 1)] 53 #[Ab B, Aa 2, Aa 0] [.int 0, .ref wd] ?_
    refine By C S33 p3 ⟨(by decide), (by decide)⟩ (.long (5 : Int64)) rfl (by decide +kernel) ?_
    refine Ac C S33 [(54, .lconst 1, 1), (55, .iload_n 1, 1), (56, .lshl, 1), (57, .land, 1), (58, .lconst 0, 1), (59, .lcmp, 1)] 60 #[Ab B, Aa 2, Aa 0] [.int (Jvm.Free.XT.cmpL ((5 : Int64) &&& ((1 : Int64) <<< ((2 : Int32).toInt64 &&& 63))) (0 : Int64))] ?_
    refine Bv C S33 .eq 7 67 (fun (hq : (Jvm.Free.XT.cmpL ((5 : Int64) &&& ((1 : Int64) <<< ((2 : Int32).toInt64 &&& 63))) (0 : Int64)) = (0 : Int32)) => False.elim (by revert hq; decide)) (fun (q34 : ¬ (Jvm.Free.XT.cmpL ((5 : Int64) &&& ((1 : Int64) <<< ((2 : Int32).toInt64 &&& 63))) (0 : Int64)) = (0 : Int32)) => ?_)
    refine Ac C S33 [(63, .iconst 1, 1), (64, .goto 4, 3)] 68 #[Ab B, Aa 2, Aa 0] [.int 1] ?_
    refine Bs C S33 (by decide +kernel) (by decide) (by decide) (by decide) ?_
    exact ⟨rfl, rfl⟩
theorem own_bg41 (hw : Ar a0 Z) (G1 : Int32) (G3 : Value) (B : Addr) (wd : Addr) (wk : ClassId) (W : Int64) (o : Int32) (cl : Int32) (h0 : Heap) (n0 : Nat) (z0 : n0 ≤ h0.size) (X00 : Old Z n0 h0) (p0 : Exa Z h0 B "java/util/BitSet") (p1 : Fld Z h0 B "java/util/BitSet" "words" "[J" (.ref wd)) (p2 : Fld Z h0 B "java/util/BitSet" "wordsInUse" "I" (.int 1)) (p3 : Arv Z h0 wd wk .long (1 : Int32) ([(.long W)]) (.long (0 : Int64))) (HS : Bg Z G1 G3) (hst : Fk W o cl) :
    Ag l Z (⟨"java/util/BitSet", "get", "(I)Z"⟩ : MethodName) jdk_92_method_26_code 3 (some .boolean) ({ frames := 1, cells := 0, slots := 0, locals := 12 } : Room) n0 #[(.ref B), (.int 1)] h0 (fun v h => v = some (.int 0) ∧ h = h0) := by
  refine Au #[.val (.ref B), .val (.int 1), .unset] ?_
  intro p e s m below meth c T0 C S0
  rcases hst with ⟨rfl, rfl, rfl⟩ | ⟨rfl, rfl, rfl⟩
  · refine Ac C S0 [(0, .iload_n 1, 1), (1, .ifCond .ge 30, 3), (31, .aload_n 0, 1)] 32 #[Ab B, Aa 1, .unset] [.ref B] ?_
    refine Bq C S0 (ow hw 195 rfl) (ow hw 196 rfl) (ow hw 198 rfl) (ow hw 197 rfl) (ow hw 199 rfl) (by decide) (Ag.pay (Da l Z a0 hw G1 G3 B h0 n0 z0 X00 HS) C 0 (ow hw 199 rfl) (ow hw 131 rfl) (by decide) (by decide)) (fun _ _ _ q => q.2) p0 [] [] rfl At rfl rfl rfl (Bw rfl) (by decide) (by decide) (by decide +kernel) ?_
    rintro T2 h3 v4 L5 S6 ⟨⟨rfl, e1⟩, -⟩
    rw [e1] at S6; clear e1
    refine Ac C S6 [(35, .iload_n 1, 1)] 36 #[Ab B, Aa 1, .unset] [.int 1] ?_
    refine Ak C S6 hw 145 146 131 147 (Cr l Z a0 hw 1 h0 n0 z0) 0 [.int 1] [] Ca ?_
    rintro T8 h9 v10 L11 S12 ⟨⟨rfl, e7⟩, -⟩
    rw [e7] at S12; clear e7
    refine Ac C S12 [(39, .istore_n 2, 1), (40, .iload_n 2, 1), (41, .aload_n 0, 1)] 42 #[Ab B, Aa 1, Aa 0] [.ref B, .int 0] ?_
    refine Ah C S12 hw 136 p2 ?_
    intro T13 S14
    refine Ac C S14 [(45, .if_icmp .ge 22, 3), (48, .aload_n 0, 1)] 49 #[Ab B, Aa 1, Aa 0] [.ref B] ?_
    refine Ah C S14 hw 149 p1 ?_
    intro T15 S16
    refine Ac C S16 [(52, .iload_n 2, 1)] 53 #[Ab B, Aa 1, Aa 0] [.int 0, .ref wd] ?_
    refine By C S16 p3 ⟨(by decide), (by decide)⟩ (.long (4 : Int64)) rfl (by decide +kernel) ?_
    refine Ac C S16 [(54, .lconst 1, 1), (55, .iload_n 1, 1), (56, .lshl, 1), (57, .land, 1), (58, .lconst 0, 1), (59, .lcmp, 1)] 60 #[Ab B, Aa 1, Aa 0] [.int (Jvm.Free.XT.cmpL ((4 : Int64) &&& ((1 : Int64) <<< ((1 : Int32).toInt64 &&& 63))) (0 : Int64))] ?_
    refine Bv C S16 .eq 7 67 (fun (q17 : (Jvm.Free.XT.cmpL ((4 : Int64) &&& ((1 : Int64) <<< ((1 : Int32).toInt64 &&& 63))) (0 : Int64)) = (0 : Int32)) => ?_) (fun (hq : ¬ (Jvm.Free.XT.cmpL ((4 : Int64) &&& ((1 : Int64) <<< ((1 : Int32).toInt64 &&& 63))) (0 : Int64)) = (0 : Int32)) => False.elim (by revert hq; decide))
    refine Ac C S16 [(67, .iconst 0, 1)] 68 #[Ab B, Aa 1, Aa 0] [.int 0] ?_
    refine Bs C S16 (by decide +kernel) (by decide) (by decide) (by decide) ?_
    exact ⟨rfl, rfl⟩
  · refine Ac C S0 [(0, .iload_n 1, 1), (1, .ifCond .ge 30, 3), (31, .aload_n 0, 1)] 32 #[Ab B, Aa 1, .unset] [.ref B] ?_
    refine Bq C S0 (ow hw 195 rfl) (ow hw 196 rfl) (ow hw 198 rfl) (ow hw 197 rfl) (ow hw 199 rfl) (by decide) (Ag.pay (Da l Z a0 hw G1 G3 B h0 n0 z0 X00 HS) C 0 (ow hw 199 rfl) (ow hw 131 rfl) (by decide) (by decide)) (fun _ _ _ q => q.2) p0 [] [] rfl At rfl rfl rfl (Bw rfl) (by decide) (by decide) (by decide +kernel) ?_
    rintro T19 h20 v21 L22 S23 ⟨⟨rfl, e18⟩, -⟩
    rw [e18] at S23; clear e18
    refine Ac C S23 [(35, .iload_n 1, 1)] 36 #[Ab B, Aa 1, .unset] [.int 1] ?_
    refine Ak C S23 hw 145 146 131 147 (Cr l Z a0 hw 1 h0 n0 z0) 0 [.int 1] [] Ca ?_
    rintro T25 h26 v27 L28 S29 ⟨⟨rfl, e24⟩, -⟩
    rw [e24] at S29; clear e24
    refine Ac C S29 [(39, .istore_n 2, 1), (40, .iload_n 2, 1), (41, .aload_n 0, 1)] 42 #[Ab B, Aa 1, Aa 0] [.ref B, .int 0] ?_
    refine Ah C S29 hw 136 p2 ?_
    intro T30 S31
    refine Ac C S31 [(45, .if_icmp .ge 22, 3), (48, .aload_n 0, 1)] 49 #[Ab B, Aa 1, Aa 0] [.ref B] ?_
    refine Ah C S31 hw 149 p1 ?_
    intro T32 S33
    refine Ac C S33 [(52, .iload_n 2, 1)] 53 #[Ab B, Aa 1, Aa 0] [.int 0, .ref wd] ?_
    refine By C S33 p3 ⟨(by decide), (by decide)⟩ (.long (5 : Int64)) rfl (by decide +kernel) ?_
    refine Ac C S33 [(54, .lconst 1, 1), (55, .iload_n 1, 1), (56, .lshl, 1), (57, .land, 1), (58, .lconst 0, 1), (59, .lcmp, 1)] 60 #[Ab B, Aa 1, Aa 0] [.int (Jvm.Free.XT.cmpL ((5 : Int64) &&& ((1 : Int64) <<< ((1 : Int32).toInt64 &&& 63))) (0 : Int64))] ?_
    refine Bv C S33 .eq 7 67 (fun (q34 : (Jvm.Free.XT.cmpL ((5 : Int64) &&& ((1 : Int64) <<< ((1 : Int32).toInt64 &&& 63))) (0 : Int64)) = (0 : Int32)) => ?_) (fun (hq : ¬ (Jvm.Free.XT.cmpL ((5 : Int64) &&& ((1 : Int64) <<< ((1 : Int32).toInt64 &&& 63))) (0 : Int64)) = (0 : Int32)) => False.elim (by revert hq; decide))
    refine Ac C S33 [(67, .iconst 0, 1)] 68 #[Ab B, Aa 1, Aa 0] [.int 0] ?_
    refine Bs C S33 (by decide +kernel) (by decide) (by decide) (by decide) ?_
    exact ⟨rfl, rfl⟩
theorem own_bg40 (hw : Ar a0 Z) (G1 : Int32) (G3 : Value) (B : Addr) (wd : Addr) (wk : ClassId) (W : Int64) (o : Int32) (cl : Int32) (h0 : Heap) (n0 : Nat) (z0 : n0 ≤ h0.size) (X00 : Old Z n0 h0) (p0 : Exa Z h0 B "java/util/BitSet") (p1 : Fld Z h0 B "java/util/BitSet" "words" "[J" (.ref wd)) (p2 : Fld Z h0 B "java/util/BitSet" "wordsInUse" "I" (.int 1)) (p3 : Arv Z h0 wd wk .long (1 : Int32) ([(.long W)]) (.long (0 : Int64))) (HS : Bg Z G1 G3) (hst : Fk W o cl) :
    Ag l Z (⟨"java/util/BitSet", "get", "(I)Z"⟩ : MethodName) jdk_92_method_26_code 3 (some .boolean) ({ frames := 1, cells := 0, slots := 0, locals := 12 } : Room) n0 #[(.ref B), (.int 0)] h0 (fun v h => v = some (.int o) ∧ h = h0) := by
  refine Au #[.val (.ref B), .val (.int 0), .unset] ?_
  intro p e s m below meth c T0 C S0
  rcases hst with ⟨rfl, rfl, rfl⟩ | ⟨rfl, rfl, rfl⟩
  · refine Ac C S0 [(0, .iload_n 1, 1), (1, .ifCond .ge 30, 3), (31, .aload_n 0, 1)] 32 #[Ab B, Aa 0, .unset] [.ref B] ?_
    refine Bq C S0 (ow hw 195 rfl) (ow hw 196 rfl) (ow hw 198 rfl) (ow hw 197 rfl) (ow hw 199 rfl) (by decide) (Ag.pay (Da l Z a0 hw G1 G3 B h0 n0 z0 X00 HS) C 0 (ow hw 199 rfl) (ow hw 131 rfl) (by decide) (by decide)) (fun _ _ _ q => q.2) p0 [] [] rfl At rfl rfl rfl (Bw rfl) (by decide) (by decide) (by decide +kernel) ?_
    rintro T2 h3 v4 L5 S6 ⟨⟨rfl, e1⟩, -⟩
    rw [e1] at S6; clear e1
    refine Ac C S6 [(35, .iload_n 1, 1)] 36 #[Ab B, Aa 0, .unset] [.int 0] ?_
    refine Ak C S6 hw 145 146 131 147 (Cr l Z a0 hw 0 h0 n0 z0) 0 [.int 0] [] Ca ?_
    rintro T8 h9 v10 L11 S12 ⟨⟨rfl, e7⟩, -⟩
    rw [e7] at S12; clear e7
    refine Ac C S12 [(39, .istore_n 2, 1), (40, .iload_n 2, 1), (41, .aload_n 0, 1)] 42 #[Ab B, Aa 0, Aa 0] [.ref B, .int 0] ?_
    refine Ah C S12 hw 136 p2 ?_
    intro T13 S14
    refine Ac C S14 [(45, .if_icmp .ge 22, 3), (48, .aload_n 0, 1)] 49 #[Ab B, Aa 0, Aa 0] [.ref B] ?_
    refine Ah C S14 hw 149 p1 ?_
    intro T15 S16
    refine Ac C S16 [(52, .iload_n 2, 1)] 53 #[Ab B, Aa 0, Aa 0] [.int 0, .ref wd] ?_
    refine By C S16 p3 ⟨(by decide), (by decide)⟩ (.long (4 : Int64)) rfl (by decide +kernel) ?_
    refine Ac C S16 [(54, .lconst 1, 1), (55, .iload_n 1, 1), (56, .lshl, 1), (57, .land, 1), (58, .lconst 0, 1), (59, .lcmp, 1)] 60 #[Ab B, Aa 0, Aa 0] [.int (Jvm.Free.XT.cmpL ((4 : Int64) &&& ((1 : Int64) <<< ((0 : Int32).toInt64 &&& 63))) (0 : Int64))] ?_
    refine Bv C S16 .eq 7 67 (fun (q17 : (Jvm.Free.XT.cmpL ((4 : Int64) &&& ((1 : Int64) <<< ((0 : Int32).toInt64 &&& 63))) (0 : Int64)) = (0 : Int32)) => ?_) (fun (hq : ¬ (Jvm.Free.XT.cmpL ((4 : Int64) &&& ((1 : Int64) <<< ((0 : Int32).toInt64 &&& 63))) (0 : Int64)) = (0 : Int32)) => False.elim (by revert hq; decide))
    refine Ac C S16 [(67, .iconst 0, 1)] 68 #[Ab B, Aa 0, Aa 0] [.int 0] ?_
    refine Bs C S16 (by decide +kernel) (by decide) (by decide) (by decide) ?_
    exact ⟨rfl, rfl⟩
  · refine Ac C S0 [(0, .iload_n 1, 1), (1, .ifCond .ge 30, 3), (31, .aload_n 0, 1)] 32 #[Ab B, Aa 0, .unset] [.ref B] ?_
    refine Bq C S0 (ow hw 195 rfl) (ow hw 196 rfl) (ow hw 198 rfl) (ow hw 197 rfl) (ow hw 199 rfl) (by decide) (Ag.pay (Da l Z a0 hw G1 G3 B h0 n0 z0 X00 HS) C 0 (ow hw 199 rfl) (ow hw 131 rfl) (by decide) (by decide)) (fun _ _ _ q => q.2) p0 [] [] rfl At rfl rfl rfl (Bw rfl) (by decide) (by decide) (by decide +kernel) ?_
    rintro T19 h20 v21 L22 S23 ⟨⟨rfl, e18⟩, -⟩
    rw [e18] at S23; clear e18
    refine Ac C S23 [(35, .iload_n 1, 1)] 36 #[Ab B, Aa 0, .unset] [.int 0] ?_
    refine Ak C S23 hw 145 146 131 147 (Cr l Z a0 hw 0 h0 n0 z0) 0 [.int 0] [] Ca ?_
    rintro T25 h26 v27 L28 S29 ⟨⟨rfl, e24⟩, -⟩
    rw [e24] at S29; clear e24
    refine Ac C S29 [(39, .istore_n 2, 1), (40, .iload_n 2, 1), (41, .aload_n 0, 1)] 42 #[Ab B, Aa 0, Aa 0] [.ref B, .int 0] ?_
    refine Ah C S29 hw 136 p2 ?_
    intro T30 S31
    refine Ac C S31 [(45, .if_icmp .ge 22, 3), (48, .aload_n 0, 1)] 49 #[Ab B, Aa 0, Aa 0] [.ref B] ?_
    refine Ah C S31 hw 149 p1 ?_
    intro T32 S33
    refine Ac C S33 [(52, .iload_n 2, 1)] 53 #[Ab B, Aa 0, Aa 0] [.int 0, .ref wd] ?_
    refine By C S33 p3 ⟨(by decide), (by decide)⟩ (.long (5 : Int64)) rfl (by decide +kernel) ?_
    refine Ac C S33 [(54, .lconst 1, 1), (55, .iload_n 1, 1), (56, .lshl, 1), (57, .land, 1), (58, .lconst 0, 1), (59, .lcmp, 1)] 60 #[Ab B, Aa 0, Aa 0] [.int (Jvm.Free.XT.cmpL ((5 : Int64) &&& ((1 : Int64) <<< ((0 : Int32).toInt64 &&& 63))) (0 : Int64))] ?_
    refine Bv C S33 .eq 7 67 (fun (hq : (Jvm.Free.XT.cmpL ((5 : Int64) &&& ((1 : Int64) <<< ((0 : Int32).toInt64 &&& 63))) (0 : Int64)) = (0 : Int32)) => False.elim (by revert hq; decide)) (fun (q34 : ¬ (Jvm.Free.XT.cmpL ((5 : Int64) &&& ((1 : Int64) <<< ((0 : Int32).toInt64 &&& 63))) (0 : Int64)) = (0 : Int32)) => ?_)
    refine Ac C S33 [(63, .iconst 1, 1), (64, .goto 4, 3)] 68 #[Ab B, Aa 0, Aa 0] [.int 1] ?_
    refine Bs C S33 (by decide +kernel) (by decide) (by decide) (by decide) ?_
    exact ⟨rfl, rfl⟩
theorem own_bz001 (hw : Ar a0 Z) (G1 : Int32) (G3 : Value) (B : Addr) (wd : Addr) (wk : ClassId) (h0 : Heap) (n0 : Nat) (z0 : n0 ≤ h0.size) (ge_B : n0 ≤ B) (ge_wd : n0 ≤ wd) (X00 : Old Z n0 h0) (p0 : Exa Z h0 B "java/util/BitSet") (p1 : Fld Z h0 B "java/util/BitSet" "words" "[J" (.ref wd)) (p2 : Fld Z h0 B "java/util/BitSet" "wordsInUse" "I" (.int 0)) (p3 : Arv Z h0 wd wk .long (1 : Int32) ([(.long (0 : Int64))]) (.long (0 : Int64))) (ne_wd_B : wd ≠ B) (HS : Bg Z G1 G3) :
    Ag l Z (⟨"java/util/BitSet", "set", "(IZ)V"⟩ : MethodName) jdk_92_method_20_code 3 none ({ frames := 3, cells := 0, slots := 0, locals := 42 } : Room) n0 #[(.ref B), (.int 0), (.int 1)] h0 (fun v h => v = none ∧ Keep h0 h [B, wd] ∧ Exa Z h B "java/util/BitSet" ∧ Fld Z h B "java/util/BitSet" "words" "[J" (.ref wd) ∧ Fld Z h B "java/util/BitSet" "wordsInUse" "I" (.int 1) ∧ Arv Z h wd wk .long (1 : Int32) ([(.long (1 : Int64))]) (.long (0 : Int64))) := by
  refine Au #[.val (.ref B), .val (.int 0), .val (.int 1)] ?_
  intro p e s m below meth c T0 C S0
  refine Ac C S0 [(0, .iload_n 2, 1), (1, .ifCond .eq 11, 3), (4, .aload_n 0, 1), (5, .iload_n 1, 1)] 6 #[Ab B, Aa 0, Aa 1] [.int 0, .ref B] ?_
  refine Bt C S0 hw 283 284 286 286 285 287 131 (own_bse000 l Z a0 hw G1 G3 B _ _ h0 n0 z0 ge_B ge_wd X00 p0 p1 p2 p3 ne_wd_B HS) 0 p0 [.int 0] [] Di ?_
  rintro T6 h7 v8 L9 S10 ⟨⟨rfl, K1, f2, f3, f4, f5⟩, -⟩
  refine Ac C S10 [(9, .goto 8, 3)] 17 #[Ab B, Aa 0, Aa 1] [] ?_
  refine Be C S10 (by decide +kernel) (by decide) (by decide) ?_
  exact ⟨rfl, ((Keep.refl _ _).trans K1 (allS (Ad 0) (allS (Ad 1) all0))), f2, f3, f4, f5⟩
theorem own_bz000 (hw : Ar a0 Z) (G1 : Int32) (G3 : Value) (B : Addr) (wd : Addr) (wk : ClassId) (h0 : Heap) (n0 : Nat) (z0 : n0 ≤ h0.size) (ge_B : n0 ≤ B) (ge_wd : n0 ≤ wd) (X00 : Old Z n0 h0) (p0 : Exa Z h0 B "java/util/BitSet") (p1 : Fld Z h0 B "java/util/BitSet" "words" "[J" (.ref wd)) (p2 : Fld Z h0 B "java/util/BitSet" "wordsInUse" "I" (.int 0)) (p3 : Arv Z h0 wd wk .long (1 : Int32) ([(.long (0 : Int64))]) (.long (0 : Int64))) (ne_wd_B : wd ≠ B) (HS : Bg Z G1 G3) :
    Ag l Z (⟨"java/util/BitSet", "set", "(IZ)V"⟩ : MethodName) jdk_92_method_20_code 3 none ({ frames := 2, cells := 0, slots := 0, locals := 26 } : Room) n0 #[(.ref B), (.int 0), (.int 0)] h0 (fun v h => v = none ∧ Keep h0 h [B, wd] ∧ Exa Z h B "java/util/BitSet" ∧ Fld Z h B "java/util/BitSet" "words" "[J" (.ref wd) ∧ Fld Z h B "java/util/BitSet" "wordsInUse" "I" (.int 0) ∧ Arv Z h wd wk .long (1 : Int32) ([(.long (0 : Int64))]) (.long (0 : Int64))) := by
  refine Au #[.val (.ref B), .val (.int 0), .val (.int 0)] ?_
  intro p e s m below meth c T0 C S0
  refine Ac C S0 [(0, .iload_n 2, 1), (1, .ifCond .eq 11, 3), (12, .aload_n 0, 1), (13, .iload_n 1, 1)] 14 #[Ab B, Aa 0, Aa 0] [.int 0, .ref B] ?_
  refine Bt C S0 hw 165 166 168 168 167 169 131 (own_bcl000 l Z a0 hw G1 G3 B _ _ h0 n0 z0 ge_B ge_wd X00 p0 p1 p2 p3 ne_wd_B HS) 0 p0 [.int 0] [] Di ?_
  rintro T6 h7 v8 L9 S10 ⟨⟨rfl, K1, f2, f3, f4, f5⟩, -⟩
  refine Be C S10 (by decide +kernel) (by decide) (by decide) ?_
  exact ⟨rfl, ((Keep.refl _ _).trans K1 (allS (Ad 0) (allS (Ad 1) all0))), f2, f3, f4, f5⟩
theorem own_bz110 (hw : Ar a0 Z) (G1 : Int32) (G3 : Value) (B : Addr) (wd : Addr) (wk : ClassId) (u : Int32) (W : Int64) (o : Int32) (cl : Int32) (h0 : Heap) (n0 : Nat) (z0 : n0 ≤ h0.size) (ge_B : n0 ≤ B) (ge_wd : n0 ≤ wd) (X00 : Old Z n0 h0) (p0 : Exa Z h0 B "java/util/BitSet") (p1 : Fld Z h0 B "java/util/BitSet" "words" "[J" (.ref wd)) (p2 : Fld Z h0 B "java/util/BitSet" "wordsInUse" "I" (.int u)) (p3 : Arv Z h0 wd wk .long (1 : Int32) ([(.long W)]) (.long (0 : Int64))) (ne_wd_B : wd ≠ B) (HS : Bg Z G1 G3) (hst : Fz u W o cl) :
    Ag l Z (⟨"java/util/BitSet", "set", "(IZ)V"⟩ : MethodName) jdk_92_method_20_code 3 none ({ frames := 2, cells := 0, slots := 0, locals := 27 } : Room) n0 #[(.ref B), (.int 1), (.int 0)] h0 (fun v h => v = none ∧ Keep h0 h [B, wd] ∧ Exa Z h B "java/util/BitSet" ∧ Fld Z h B "java/util/BitSet" "words" "[J" (.ref wd) ∧ Fld Z h B "java/util/BitSet" "wordsInUse" "I" (.int u) ∧ Arv Z h wd wk .long (1 : Int32) ([(.long W)]) (.long (0 : Int64))) := by
  refine Au #[.val (.ref B), .val (.int 1), .val (.int 0)] ?_
  intro p e s m below meth c T0 C S0
  rcases hst with ⟨rfl, rfl, rfl, rfl⟩ | ⟨rfl, rfl, rfl, rfl⟩
  · refine Ac C S0 [(0, .iload_n 2, 1), (1, .ifCond .eq 11, 3), (12, .aload_n 0, 1), (13, .iload_n 1, 1)] 14 #[Ab B, Aa 1, Aa 0] [.int 1, .ref B] ?_
    refine Bt C S0 hw 165 166 168 168 167 169 131 (own_bcl001 l Z a0 hw G1 G3 B _ _ h0 n0 z0 ge_B ge_wd X00 p0 p1 p2 p3 ne_wd_B HS) 0 p0 [.int 1] [] Di ?_
    rintro T6 h7 v8 L9 S10 ⟨⟨rfl, K1, f2, f3, f4, f5⟩, -⟩
    refine Be C S10 (by decide +kernel) (by decide) (by decide) ?_
    exact ⟨rfl, ((Keep.refl _ _).trans K1 (allS (Ad 0) (allS (Ad 1) all0))), f2, f3, f4, f5⟩
  · refine Ac C S0 [(0, .iload_n 2, 1), (1, .ifCond .eq 11, 3), (12, .aload_n 0, 1), (13, .iload_n 1, 1)] 14 #[Ab B, Aa 1, Aa 0] [.int 1, .ref B] ?_
    refine Bt C S0 hw 165 166 168 168 167 169 131 (own_bcl111 l Z a0 hw G1 G3 B _ _ h0 n0 z0 ge_B ge_wd X00 p0 p1 p2 p3 ne_wd_B HS) 0 p0 [.int 1] [] Di ?_
    rintro T16 h17 v18 L19 S20 ⟨⟨rfl, K11, f12, f13, f14, f15⟩, -⟩
    refine Be C S20 (by decide +kernel) (by decide) (by decide) ?_
    exact ⟨rfl, ((Keep.refl _ _).trans K11 (allS (Ad 0) (allS (Ad 1) all0))), f12, f13, f14, f15⟩
theorem own_bz121 (hw : Ar a0 Z) (G1 : Int32) (G3 : Value) (B : Addr) (wd : Addr) (wk : ClassId) (u : Int32) (W : Int64) (o : Int32) (cl : Int32) (h0 : Heap) (n0 : Nat) (z0 : n0 ≤ h0.size) (ge_B : n0 ≤ B) (ge_wd : n0 ≤ wd) (X00 : Old Z n0 h0) (p0 : Exa Z h0 B "java/util/BitSet") (p1 : Fld Z h0 B "java/util/BitSet" "words" "[J" (.ref wd)) (p2 : Fld Z h0 B "java/util/BitSet" "wordsInUse" "I" (.int u)) (p3 : Arv Z h0 wd wk .long (1 : Int32) ([(.long W)]) (.long (0 : Int64))) (ne_wd_B : wd ≠ B) (HS : Bg Z G1 G3) (hst : Fz u W o cl) :
    Ag l Z (⟨"java/util/BitSet", "set", "(IZ)V"⟩ : MethodName) jdk_92_method_20_code 3 none ({ frames := 3, cells := 0, slots := 0, locals := 42 } : Room) n0 #[(.ref B), (.int 2), (.int 1)] h0 (fun v h => ∃ W2 : Int64, v = none ∧ Keep h0 h [B, wd] ∧ Exa Z h B "java/util/BitSet" ∧ Fld Z h B "java/util/BitSet" "words" "[J" (.ref wd) ∧ Fld Z h B "java/util/BitSet" "wordsInUse" "I" (.int 1) ∧ Arv Z h wd wk .long (1 : Int32) ([(.long W2)]) (.long (0 : Int64)) ∧ (Fk W2 o cl)) := by
  refine Au #[.val (.ref B), .val (.int 2), .val (.int 1)] ?_
  intro p e s m below meth c T0 C S0
  rcases hst with ⟨rfl, rfl, rfl, rfl⟩ | ⟨rfl, rfl, rfl, rfl⟩
  · refine Ac C S0 [(0, .iload_n 2, 1), (1, .ifCond .eq 11, 3), (4, .aload_n 0, 1), (5, .iload_n 1, 1)] 6 #[Ab B, Aa 2, Aa 1] [.int 2, .ref B] ?_
    refine Bt C S0 hw 283 284 286 286 285 287 131 (own_bse002 l Z a0 hw G1 G3 B _ _ h0 n0 z0 ge_B ge_wd X00 p0 p1 p2 p3 ne_wd_B HS) 0 p0 [.int 2] [] Di ?_
    rintro T6 h7 v8 L9 S10 ⟨⟨rfl, K1, f2, f3, f4, f5⟩, -⟩
    refine Ac C S10 [(9, .goto 8, 3)] 17 #[Ab B, Aa 2, Aa 1] [] ?_
    refine Be C S10 (by decide +kernel) (by decide) (by decide) ?_
    exact ⟨(4 : Int64), rfl, ((Keep.refl _ _).trans K1 (allS (Ad 0) (allS (Ad 1) all0))), f2, f3, f4, f5, Or.inl ⟨rfl, rfl, rfl⟩⟩
  · refine Ac C S0 [(0, .iload_n 2, 1), (1, .ifCond .eq 11, 3), (4, .aload_n 0, 1), (5, .iload_n 1, 1)] 6 #[Ab B, Aa 2, Aa 1] [.int 2, .ref B] ?_
    refine Bt C S0 hw 283 284 286 286 285 287 131 (own_bse112 l Z a0 hw G1 G3 B _ _ h0 n0 z0 ge_B ge_wd X00 p0 p1 p2 p3 ne_wd_B HS) 0 p0 [.int 2] [] Di ?_
    rintro T16 h17 v18 L19 S20 ⟨⟨rfl, K11, f12, f13, f14, f15⟩, -⟩
    refine Ac C S20 [(9, .goto 8, 3)] 17 #[Ab B, Aa 2, Aa 1] [] ?_
    refine Be C S20 (by decide +kernel) (by decide) (by decide) ?_
    exact ⟨(5 : Int64), rfl, ((Keep.refl _ _).trans K11 (allS (Ad 0) (allS (Ad 1) all0))), f12, f13, f14, f15, Or.inr ⟨rfl, rfl, rfl⟩⟩
theorem own_bz430 (hw : Ar a0 Z) (G1 : Int32) (G3 : Value) (B : Addr) (wd : Addr) (wk : ClassId) (W : Int64) (o : Int32) (cl : Int32) (h0 : Heap) (n0 : Nat) (z0 : n0 ≤ h0.size) (ge_B : n0 ≤ B) (ge_wd : n0 ≤ wd) (X00 : Old Z n0 h0) (p0 : Exa Z h0 B "java/util/BitSet") (p1 : Fld Z h0 B "java/util/BitSet" "words" "[J" (.ref wd)) (p2 : Fld Z h0 B "java/util/BitSet" "wordsInUse" "I" (.int 1)) (p3 : Arv Z h0 wd wk .long (1 : Int32) ([(.long W)]) (.long (0 : Int64))) (ne_wd_B : wd ≠ B) (HS : Bg Z G1 G3) (hst : Fk W o cl) :
    Ag l Z (⟨"java/util/BitSet", "set", "(IZ)V"⟩ : MethodName) jdk_92_method_20_code 3 none ({ frames := 2, cells := 0, slots := 0, locals := 27 } : Room) n0 #[(.ref B), (.int 3), (.int 0)] h0 (fun v h => v = none ∧ Keep h0 h [B, wd] ∧ Exa Z h B "java/util/BitSet" ∧ Fld Z h B "java/util/BitSet" "words" "[J" (.ref wd) ∧ Fld Z h B "java/util/BitSet" "wordsInUse" "I" (.int 1) ∧ Arv Z h wd wk .long (1 : Int32) ([(.long W)]) (.long (0 : Int64))) := by
  refine Au #[.val (.ref B), .val (.int 3), .val (.int 0)] ?_
  intro p e s m below meth c T0 C S0
  rcases hst with ⟨rfl, rfl, rfl⟩ | ⟨rfl, rfl, rfl⟩
  · refine Ac C S0 [(0, .iload_n 2, 1), (1, .ifCond .eq 11, 3), (12, .aload_n 0, 1), (13, .iload_n 1, 1)] 14 #[Ab B, Aa 3, Aa 0] [.int 3, .ref B] ?_
    refine Bt C S0 hw 165 166 168 168 167 169 131 (own_bcl143 l Z a0 hw G1 G3 B _ _ h0 n0 z0 ge_B ge_wd X00 p0 p1 p2 p3 ne_wd_B HS) 0 p0 [.int 3] [] Di ?_
    rintro T6 h7 v8 L9 S10 ⟨⟨rfl, K1, f2, f3, f4, f5⟩, -⟩
    refine Be C S10 (by decide +kernel) (by decide) (by decide) ?_
    exact ⟨rfl, ((Keep.refl _ _).trans K1 (allS (Ad 0) (allS (Ad 1) all0))), f2, f3, f4, f5⟩
  · refine Ac C S0 [(0, .iload_n 2, 1), (1, .ifCond .eq 11, 3), (12, .aload_n 0, 1), (13, .iload_n 1, 1)] 14 #[Ab B, Aa 3, Aa 0] [.int 3, .ref B] ?_
    refine Bt C S0 hw 165 166 168 168 167 169 131 (own_bcl153 l Z a0 hw G1 G3 B _ _ h0 n0 z0 ge_B ge_wd X00 p0 p1 p2 p3 ne_wd_B HS) 0 p0 [.int 3] [] Di ?_
    rintro T16 h17 v18 L19 S20 ⟨⟨rfl, K11, f12, f13, f14, f15⟩, -⟩
    refine Be C S20 (by decide +kernel) (by decide) (by decide) ?_
    exact ⟨rfl, ((Keep.refl _ _).trans K11 (allS (Ad 0) (allS (Ad 1) all0))), f12, f13, f14, f15⟩
theorem own_sn2 {Z : State} {a0 : Array Value} (hw : ∀ d ∈ tables_1, d.before a0 Z = true) : Jvm.RoadKit.slotOf Z "java/util/BitSet" "wordsInUse" "I" ≠ Jvm.RoadKit.slotOf Z "java/util/BitSet" "words" "[J" := slot_ne (Or.inl (ow hw 137 rfl)) (Or.inl (ow hw 150 rfl)) (by decide) Ax Fv
theorem Ff : parseFieldDescriptor "Z" = some .boolean := by decide +kernel
theorem own_sn3 {Z : State} {a0 : Array Value} (hw : ∀ d ∈ tables_1, d.before a0 Z = true) : Jvm.RoadKit.slotOf Z "java/util/BitSet" "sizeIsSticky" "Z" ≠ Jvm.RoadKit.slotOf Z "java/util/BitSet" "words" "[J" := slot_ne (Or.inl (ow hw 139 rfl)) (Or.inl (ow hw 150 rfl)) (by decide) Ff Fv
theorem own_biw (hw : Ar a0 Z) (B : Addr) (h0 : Heap) (n0 : Nat) (z0 : n0 ≤ h0.size) (ge_B : n0 ≤ B) (p0 : Exa Z h0 B "java/util/BitSet") (p1 : Fld Z h0 B "java/util/BitSet" "words" "[J" .null) (p2 : Fld Z h0 B "java/util/BitSet" "wordsInUse" "I" (.int 0)) (p3 : Fld Z h0 B "java/util/BitSet" "sizeIsSticky" "Z" (.int 0)) :
    Ag l Z (⟨"java/util/BitSet", "initWords", "(I)V"⟩ : MethodName) jdk_92_method_6_code 2 none ({ frames := 1, cells := 1, slots := 1, locals := 13 } : Room) n0 #[(.ref B), (.int 64)] h0 (fun v h => ∃ wd : Addr, ∃ wk : ClassId, v = none ∧ h0.size ≤ wd ∧ Keep h0 h [B] ∧ Exa Z h B "java/util/BitSet" ∧ Fld Z h B "java/util/BitSet" "words" "[J" (.ref wd) ∧ Fld Z h B "java/util/BitSet" "wordsInUse" "I" (.int 0) ∧ Arv Z h wd wk .long (1 : Int32) ([(.long (0 : Int64))]) (.long (0 : Int64)) ∧ Fld Z h B "java/util/BitSet" "sizeIsSticky" "Z" (.int 0)) := by
  refine Au #[.val (.ref B), .val (.int 64)] ?_
  intro p e s m below meth c T0 C S0
  refine Ac C S0 [(0, .aload_n 0, 1), (1, .iload_n 1, 1), (2, .iconst 1, 1), (3, .isub, 1)] 4 #[Ab B, Aa 64] [.int 63, .ref B] ?_
  refine Ak C S0 hw 145 146 131 147 (Cr l Z a0 hw 63 h0 n0 z0) 1 [.int 63] [.ref B] Ca ?_
  rintro T2 h3 v4 L5 S6 ⟨⟨rfl, e1⟩, -⟩
  rw [e1] at S6; clear e1
  refine Ac C S6 [(7, .iconst 1, 1), (8, .iadd, 1)] 9 #[Ab B, Aa 64] [.int 1, .ref B] ?_
  refine Gg C S6 (aty := .long) (ow hw 148 rfl) (by decide +kernel) (by decide) 1 (by decide) (by decide) (by decide) (by decide) ?_
  intro T7 h9 a10 k11 S8 g12 E13 f14 
  have f15 : Arv Z h9 a10 k11 .long (1 : Int32) ([(.long (0 : Int64))]) (.long (0 : Int64)) := Arv.pad f14 (pad_rep [] (.long (0 : Int64)) 1)
  have f16 := (Fld.ext E13 p1)
  have f17 := (Exa.ext E13 p0)
  refine Bh C S8 hw 149 150 130 f16 f17 Fv ge_B ?_
  intro T18 h20 S19 W21
  have f22 : Fld Z h20 B "java/util/BitSet" "words" "[J" (.ref a10) := Fld.same W21 f16
  refine Be C S19 (by decide +kernel) (by decide) (by decide) ?_
  have o23 : h0.size ≤ a10 := by rw [g12]; exact (Nat.le_refl _)
  have f24 := (Exa.wr W21 f17)
  have f25 := (Fld.other W21 (Fld.ext E13 p2) (Or.inr (own_sn2 hw)))
  have n26 : B ≠ a10 := by rw [g12]; exact Nat.ne_of_lt p0.lt
  have f27 := (f15.other W21 (Ne.symm n26))
  have f28 := (Fld.other W21 (Fld.ext E13 p3) (Or.inr (own_sn3 hw)))
  exact ⟨a10, k11, rfl, o23, (((Keep.refl _ _).ext E13).wr W21 (Ad 0)), f24, f22, f25, f27, f28⟩
theorem own_sn4 {Z : State} {a0 : Array Value} (hw : ∀ d ∈ tables_1, d.before a0 Z = true) : Jvm.RoadKit.slotOf Z "java/util/BitSet" "sizeIsSticky" "Z" ≠ Jvm.RoadKit.slotOf Z "java/util/BitSet" "wordsInUse" "I" := slot_ne (Or.inl (ow hw 139 rfl)) (Or.inl (ow hw 137 rfl)) (by decide) Ff Ax
theorem own_sn5 {Z : State} {a0 : Array Value} (hw : ∀ d ∈ tables_1, d.before a0 Z = true) : Jvm.RoadKit.slotOf Z "java/util/BitSet" "words" "[J" ≠ Jvm.RoadKit.slotOf Z "java/util/BitSet" "sizeIsSticky" "Z" := slot_ne (Or.inl (ow hw 150 rfl)) (Or.inl (ow hw 139 rfl)) (by decide) Fv Ff
theorem own_sn6 {Z : State} {a0 : Array Value} (hw : ∀ d ∈ tables_1, d.before a0 Z = true) : Jvm.RoadKit.slotOf Z "java/util/BitSet" "wordsInUse" "I" ≠ Jvm.RoadKit.slotOf Z "java/util/BitSet" "sizeIsSticky" "Z" := slot_ne (Or.inl (ow hw 137 rfl)) (Or.inl (ow hw 139 rfl)) (by decide) Ax Ff
theorem own_bin (hw : Ar a0 Z) (B : Addr) (h0 : Heap) (n0 : Nat) (z0 : n0 ≤ h0.size) (ge_B : n0 ≤ B) (p0 : Exa Z h0 B "java/util/BitSet") (p1 : Fld Z h0 B "java/util/BitSet" "words" "[J" .null) (p2 : Fld Z h0 B "java/util/BitSet" "wordsInUse" "I" (.int 0)) (p3 : Fld Z h0 B "java/util/BitSet" "sizeIsSticky" "Z" (.int 0)) :
    Ag l Z (⟨"java/util/BitSet", "<init>", "()V"⟩ : MethodName) jdk_92_method_4_code 1 none ({ frames := 2, cells := 1, slots := 1, locals := 26 } : Room) n0 #[(.ref B)] h0 (fun v h => ∃ wd : Addr, ∃ wk : ClassId, v = none ∧ h0.size ≤ wd ∧ Keep h0 h [B] ∧ Exa Z h B "java/util/BitSet" ∧ Fld Z h B "java/util/BitSet" "words" "[J" (.ref wd) ∧ Fld Z h B "java/util/BitSet" "wordsInUse" "I" (.int 0) ∧ Arv Z h wd wk .long (1 : Int32) ([(.long (0 : Int64))]) (.long (0 : Int64))) := by
  refine Au #[.val (.ref B)] ?_
  intro p e s m below meth c T0 C S0
  refine Ac C S0 [(0, .aload_n 0, 1)] 1 #[Ab B] [.ref B] ?_
  refine own_initO C S0 (ow hw 135 rfl) (ow hw 46 rfl) (ow hw 47 rfl) rfl (by decide +kernel) (by decide) 0 (Bw rfl) (by decide) ?_
  intro T1 S2
  refine Ac C S2 [(4, .aload_n 0, 1), (5, .iconst 0, 1)] 6 #[Ab B] [.int 0, .ref B] ?_
  refine Bh C S2 hw 136 137 130 p2 p0 Ax ge_B ?_
  intro T3 h5 S4 W6
  have f7 : Fld Z h5 B "java/util/BitSet" "wordsInUse" "I" (.int 0) := Fld.same W6 p2
  refine Ac C S4 [(9, .aload_n 0, 1), (10, .iconst 0, 1)] 11 #[Ab B] [.int 0, .ref B] ?_
  have f8 := (Fld.other W6 p3 (Or.inr (own_sn4 hw)))
  have f9 := (Exa.wr W6 p0)
  refine Bh C S4 hw 138 139 130 f8 f9 Ff ge_B ?_
  intro T10 h12 S11 W13
  have f14 : Fld Z h12 B "java/util/BitSet" "sizeIsSticky" "Z" (.int 0) := Fld.same W13 f8
  refine Ac C S11 [(14, .aload_n 0, 1), (15, .bipush 64, 2)] 17 #[Ab B] [.int 64, .ref B] ?_
  have f15 := (Exa.wr W13 f9)
  have f16 := (Fld.other W13 (Fld.other W6 p1 (Or.inr (Go hw))) (Or.inr (own_sn5 hw)))
  have f17 := (Fld.other W13 f7 (Or.inr (own_sn6 hw)))
  have f18 : n0 ≤ h12.size := (by rw [W13.size]; exact (by rw [W6.size]; exact z0))
  refine Bq C S11 (ow hw 140 rfl) (ow hw 141 rfl) (ow hw 143 rfl) (ow hw 142 rfl) (ow hw 144 rfl) (by decide) (Ag.pay (own_biw l Z a0 hw B h12 n0 f18 ge_B f15 f16 f17 f14) C 0 (ow hw 144 rfl) (ow hw 131 rfl) (by decide) (by decide)) (fun _ _ _ q => q.2) f15 [.int 64] [] rfl Di rfl rfl rfl (Bw rfl) (by decide) (by decide) (by decide +kernel) ?_
  rintro T28 h29 v30 L31 S32 ⟨⟨a19, k20, rfl, g21, K22, f23, f24, f25, f26, f27⟩, -⟩
  refine Ac C S32 [(20, .aload_n 0, 1), (21, .iconst 0, 1)] 22 #[Ab B] [.int 0, .ref B] ?_
  refine Bh C S32 hw 138 139 130 f27 f23 Ff ge_B ?_
  intro T33 h35 S34 W36
  have f37 : Fld Z h35 B "java/util/BitSet" "sizeIsSticky" "Z" (.int 0) := Fld.same W36 f27
  refine Be C S34 (by decide +kernel) (by decide) (by decide) ?_
  have o39 : h0.size ≤ h12.size := (by rw [W13.size]; exact (by rw [W6.size]; exact (Nat.le_refl _)))
  have o38 : h0.size ≤ a19 := Nat.le_trans o39 g21
  have f40 := (Exa.wr W36 f23)
  have f41 := (Fld.other W36 f24 (Or.inr (own_sn5 hw)))
  have f42 := (Fld.other W36 f25 (Or.inr (own_sn6 hw)))
  have f43 : B < h12.size := (by rw [W13.size]; exact (by rw [W6.size]; exact p2.lt))
  have n44 : B ≠ a19 := Nat.ne_of_lt (Nat.lt_of_lt_of_le f43 g21)
  have f45 := (f26.other W36 (Ne.symm n44))
  exact ⟨a19, k20, rfl, o38, (((((Keep.refl _ _).wr W6 (Ad 0)).wr W13 (Ad 0)).trans K22 (allS (Ad 0) all0)).wr W36 (Ad 0)), f40, f41, f42, f45⟩
theorem own_cc0 (hw : Ar a0 Z) (hEL : EW Z a0 Br) (wS : ∀ a ∈ Bundle.stringAtoms, a.before a0 Z = true) (G1 : Int32) (G3 : Value) (J : Addr) (x : Addr) (t : Addr) (tk : ClassId) (kd : Int32) (N : Int32) (vs : List Value) (cs : List Int32) (pp : Nat) (B : Addr) (R : List Int32) (h0 : Heap) (n0 : Nat) (z0 : n0 ≤ h0.size) (ge_J : n0 ≤ J) (X00 : Old Z n0 h0) (JE : Exa Z h0 J "com/example/limit1/limit1/JsonText") (JX : Fld Z h0 J "com/example/limit1/limit1/JsonText" "text" "Ljava/lang/String;" (.ref x)) (JP : Fld Z h0 J "com/example/limit1/limit1/JsonText" "position" "I" (.int (Int32.ofNat pp))) (xE : Exa Z h0 x "java/lang/String") (xV : Fld Z h0 x "java/lang/String" "value" "[B" (.ref t)) (xC : Fld Z h0 x "java/lang/String" "coder" "B" (.int kd)) (tK : Arv Z h0 t tk .byte N vs (.int 0)) (ne_x_J : x ≠ J) (ne_t_J : t ≠ J) (HS : Bg Z G1 G3) (hrep : Bx cs kd N vs) (hat : Ae cs pp R) :
    Co l Z Br Cw (⟨"com/example/limit1/limit1/JsonText", "closeContainers", "(Ljava/util/BitSet;I)I"⟩ : MethodName) prog_7_method_5_code 5 (some .int) 0 0 0 0 0 0 n0 #[(.ref J), (.ref B), (.int 0)] h0 [] (fun v h => ∃ q : Nat, v = some (.int 0) ∧ Keep h0 h [J] ∧ Exa Z h J "com/example/limit1/limit1/JsonText" ∧ Fld Z h J "com/example/limit1/limit1/JsonText" "position" "I" (.int (Int32.ofNat q)) ∧ Fld Z h J "com/example/limit1/limit1/JsonText" "text" "Ljava/lang/String;" (.ref x) ∧ (Ae cs q R)) := by
  refine Eh hEL wS #[.val (.ref J), .val (.ref B), .val (.int 0), .unset, .unset] ?_
  intro fC fS P1 P2 p e s m below meth c T0 CW hF hP1 hP2 SW0
  have SW1 : Bz p l e ({ frames := 0, cells := P1 + 0, slots := P2 + 0, locals := 0 } : Room) s m #[(.ref J), (.ref B), (.int 0)] below meth c n0 Z Br fC fS "com/example/limit1/limit1/JsonText" T0 h0 [J] 0 0 := SW0.addE JE (by decide) (by decide)
  refine Ai CW SW1 ?_
  intro vm2 C S3 rb4
  refine Ac C S3 [(0, .iload_n 2, 1), (1, .istore_n 3, 1), (2, .iload_n 3, 1), (3, .ifCond .le 98, 3), (101, .iconst 0, 1)] 102 #[Ab J, Ab B, Aa 0, Aa 0, .unset] [.int 0] ?_
  have SW5 := rb4 _ _ 0 0 [] [] S3 (Keep.refl _ _) all0 all0
  refine Eb CW SW5 hF (by decide +kernel) (by decide) (by decide) ?_
  exact ⟨pp, rfl, (Keep.refl _ _), JE, JP, JX, hat⟩
theorem own_ccc (hw : Ar a0 Z) (hEL : EW Z a0 Br) (wS : ∀ a ∈ Bundle.stringAtoms, a.before a0 Z = true) (G1 : Int32) (G3 : Value) (J : Addr) (x : Addr) (t : Addr) (tk : ClassId) (kd : Int32) (N : Int32) (vs : List Value) (cs : List Int32) (pp : Nat) (B : Addr) (wd : Addr) (wk : ClassId) (u : Int32) (W : Int64) (o : Int32) (cl : Int32) (R : List Int32) (h0 : Heap) (n0 : Nat) (z0 : n0 ≤ h0.size) (ge_J : n0 ≤ J) (X00 : Old Z n0 h0) (JE : Exa Z h0 J "com/example/limit1/limit1/JsonText") (JX : Fld Z h0 J "com/example/limit1/limit1/JsonText" "text" "Ljava/lang/String;" (.ref x)) (JP : Fld Z h0 J "com/example/limit1/limit1/JsonText" "position" "I" (.int (Int32.ofNat pp))) (xE : Exa Z h0 x "java/lang/String") (xV : Fld Z h0 x "java/lang/String" "value" "[B" (.ref t)) (xC : Fld Z h0 x "java/lang/String" "coder" "B" (.int kd)) (tK : Arv Z h0 t tk .byte N vs (.int 0)) (b0 : Exa Z h0 B "java/util/BitSet") (b1 : Fld Z h0 B "java/util/BitSet" "words" "[J" (.ref wd)) (b2 : Fld Z h0 B "java/util/BitSet" "wordsInUse" "I" (.int u)) (b3 : Arv Z h0 wd wk .long (1 : Int32) ([(.long W)]) (.long (0 : Int64))) (ne_x_J : x ≠ J) (ne_t_J : t ≠ J) (ne_B_J : B ≠ J) (ne_wd_J : wd ≠ J) (HS : Bg Z G1 G3) (hrep : Bx cs kd N vs) (hat : Ae cs pp (44 :: R)) (hst : Fz u W o cl) :
    Co l Z Br Cw (⟨"com/example/limit1/limit1/JsonText", "closeContainers", "(Ljava/util/BitSet;I)I"⟩ : MethodName) prog_7_method_5_code 5 (some .int) 6 0 0 79 0 0 n0 #[(.ref J), (.ref B), (.int 2)] h0 [] (fun v h => ∃ q : Nat, v = some (.int 2) ∧ Keep h0 h [J] ∧ Exa Z h J "com/example/limit1/limit1/JsonText" ∧ Fld Z h J "com/example/limit1/limit1/JsonText" "position" "I" (.int (Int32.ofNat q)) ∧ Fld Z h J "com/example/limit1/limit1/JsonText" "text" "Ljava/lang/String;" (.ref x) ∧ (Ae cs q R)) := by
  refine Eh hEL wS #[.val (.ref J), .val (.ref B), .val (.int 2), .unset, .unset] ?_
  intro fC fS P1 P2 p e s m below meth c T0 CW hF hP1 hP2 SW0
  have SW1 : Bz p l e ({ frames := 6, cells := P1 + 0, slots := P2 + 0, locals := 79 } : Room) s m #[(.ref J), (.ref B), (.int 2)] below meth c n0 Z Br fC fS "com/example/limit1/limit1/JsonText" T0 h0 [J] 0 0 := SW0.addE JE (by decide) (by decide)
  refine Ai CW SW1 ?_
  intro vm2 C S3 rb4
  refine Ac C S3 [(0, .iload_n 2, 1), (1, .istore_n 3, 1), (2, .iload_n 3, 1), (3, .ifCond .le 98, 3), (6, .aload_n 0, 1)] 7 #[Ab J, Ab B, Aa 2, Aa 2, .unset] [.ref J] ?_
  refine An C S3 hP1 hP2 hw 87 88 76 89 90 66 (Bo l Z a0 hw G1 G3 J _ _ _ _ _ _ cs pp [] (44 :: R) h0 n0 z0 ge_J X00 JE JX JP xE xV xC tK ne_x_J ne_t_J HS hrep hat (fun _ q => nomatch q) (Bn (by unfold Aw; decide))) 0 JE [] [] At ?_
  rintro T11 h12 v13 L14 S15 ⟨⟨y5, rfl, K6, f7, f8, f9, p10⟩, -⟩
  refine Ac C S15 [(10, .aload_n 1, 1), (11, .iload_n 3, 1), (12, .iconst 1, 1), (13, .isub, 1)] 14 #[Ab J, Ab B, Aa 2, Aa 2, .unset] [.int 1, .ref B] ?_
  have f16 := (X00.keep K6 (allS ge_J all0))
  have f17 := (b0.keep K6)
  have f18 := (b1.keep K6 (ninS ne_B_J nin0))
  have f19 := (b2.keep K6 (ninS ne_B_J nin0))
  have f20 := (b3.keep K6 (ninS ne_wd_J nin0))
  have f21 : n0 ≤ h12.size := (Nat.le_trans z0 K6.1)
  refine Cm C S15 hP1 hP2 hw 190 191 193 193 192 194 131 (own_bg11 l Z a0 hw G1 G3 B _ _ _ _ o cl h12 n0 f21 f16 f17 f18 f19 f20 HS hst) 0 f17 [.int 1] [] Dn ?_
  rintro T23 h24 v25 L26 S27 ⟨⟨rfl, e22⟩, -⟩
  rw [e22] at S27; clear e22
  refine Ac C S27 [(17, .istore 4, 2), (19, .aload_n 0, 1), (20, .bipush 44, 2)] 22 #[Ab J, Ab B, Aa 2, Aa 2, Aa 0] [.int 44, .ref J] ?_
  have f28 := (xE.keep K6)
  have f29 := (xV.keep K6 (ninS ne_x_J nin0))
  have f30 := (xC.keep K6 (ninS ne_x_J nin0))
  have f31 := (tK.keep K6 (ninS ne_t_J nin0))
  refine An C S27 hP1 hP2 hw 156 157 76 158 159 66 (Bf l Z a0 hw G1 G3 J _ _ _ _ _ _ cs y5 44 44 R h12 n0 f21 f16 f7 f9 f8 f28 f29 f30 f31 HS hrep p10) 0 f7 [.int 44] [] Av ?_
  rintro T35 h36 v37 L38 S39 ⟨⟨y32, rfl, e33, p34⟩, -⟩
  rw [e33] at S39; clear e33
  have hr40 : y32 = (1 : Int32) := Bl.one p34 rfl
  subst hr40
  refine Ac C S39 [(25, .ifCond .eq 24, 3), (28, .aload_n 0, 1), (29, .dup, 1)] 30 #[Ab J, Ab B, Aa 2, Aa 2, Aa 0] [.ref J, .ref J] ?_
  refine Ah C S39 hw 91 f8 ?_
  intro T41 S42
  refine Ac C S42 [(33, .iconst 1, 1), (34, .iadd, 1)] 35 #[Ab J, Ab B, Aa 2, Aa 2, Aa 0] [.int ((Int32.ofNat y5) + (1 : Int32)), .ref J] ?_
  rw [show ((Int32.ofNat y5) + (1 : Int32)) = (Int32.ofNat (y5 + 1)) from Af _]
  refine Bh C S42 hw 91 92 76 f8 f7 Ax ge_J ?_
  intro T43 h45 S44 W46
  have f47 : Fld Z h45 J "com/example/limit1/limit1/JsonText" "position" "I" (.int (Int32.ofNat (y5 + 1))) := Fld.same W46 f8
  have hat48 := (Ae.hd p10).2.2
  refine Ac C S44 [(38, .iload 4, 2), (40, .ifCond .eq 7, 3), (47, .iload_n 3, 1)] 48 #[Ab J, Ab B, Aa 2, Aa 2, Aa 0] [.int 2] ?_
  have SW49 := rb4 _ _ 0 0 [J] [] S44 (((Keep.refl _ _).trans K6 (allS (Ad 0) all0)).wr W46 (Ad 0)) (allS (As 0) all0) all0
  refine Eb CW SW49 hF (by decide +kernel) (by decide) (by decide) ?_
  have f50 := (Exa.wr W46 f7)
  have f51 := (Fld.other W46 f9 (Or.inr (Bb hw)))
  exact ⟨(y5 + 1), rfl, (((Keep.refl _ _).trans K6 (allS (Ad 0) all0)).wr W46 (Ad 0)), f50, f47, f51, hat48⟩
theorem own_cce (hw : Ar a0 Z) (hEL : EW Z a0 Br) (wS : ∀ a ∈ Bundle.stringAtoms, a.before a0 Z = true) (G1 : Int32) (G3 : Value) (J : Addr) (x : Addr) (t : Addr) (tk : ClassId) (kd : Int32) (N : Int32) (vs : List Value) (cs : List Int32) (pp : Nat) (B : Addr) (wd : Addr) (wk : ClassId) (u : Int32) (W : Int64) (o : Int32) (cl : Int32) (R : List Int32) (h0 : Heap) (n0 : Nat) (z0 : n0 ≤ h0.size) (ge_J : n0 ≤ J) (X00 : Old Z n0 h0) (JE : Exa Z h0 J "com/example/limit1/limit1/JsonText") (JX : Fld Z h0 J "com/example/limit1/limit1/JsonText" "text" "Ljava/lang/String;" (.ref x)) (JP : Fld Z h0 J "com/example/limit1/limit1/JsonText" "position" "I" (.int (Int32.ofNat pp))) (xE : Exa Z h0 x "java/lang/String") (xV : Fld Z h0 x "java/lang/String" "value" "[B" (.ref t)) (xC : Fld Z h0 x "java/lang/String" "coder" "B" (.int kd)) (tK : Arv Z h0 t tk .byte N vs (.int 0)) (b0 : Exa Z h0 B "java/util/BitSet") (b1 : Fld Z h0 B "java/util/BitSet" "words" "[J" (.ref wd)) (b2 : Fld Z h0 B "java/util/BitSet" "wordsInUse" "I" (.int u)) (b3 : Arv Z h0 wd wk .long (1 : Int32) ([(.long W)]) (.long (0 : Int64))) (ne_x_J : x ≠ J) (ne_t_J : t ≠ J) (ne_B_J : B ≠ J) (ne_wd_J : wd ≠ J) (HS : Bg Z G1 G3) (hrep : Bx cs kd N vs) (hat : Ae cs pp (93 :: (cl :: R))) (hst : Fz u W o cl) :
    Co l Z Br Cw (⟨"com/example/limit1/limit1/JsonText", "closeContainers", "(Ljava/util/BitSet;I)I"⟩ : MethodName) prog_7_method_5_code 5 (some .int) 6 0 0 79 0 0 n0 #[(.ref J), (.ref B), (.int 2)] h0 [] (fun v h => ∃ q : Nat, v = some (.int 0) ∧ Keep h0 h [J] ∧ Exa Z h J "com/example/limit1/limit1/JsonText" ∧ Fld Z h J "com/example/limit1/limit1/JsonText" "position" "I" (.int (Int32.ofNat q)) ∧ Fld Z h J "com/example/limit1/limit1/JsonText" "text" "Ljava/lang/String;" (.ref x) ∧ (Ae cs q R)) := by
  refine Eh hEL wS #[.val (.ref J), .val (.ref B), .val (.int 2), .unset, .unset] ?_
  intro fC fS P1 P2 p e s m below meth c T0 CW hF hP1 hP2 SW0
  have SW1 : Bz p l e ({ frames := 6, cells := P1 + 0, slots := P2 + 0, locals := 79 } : Room) s m #[(.ref J), (.ref B), (.int 2)] below meth c n0 Z Br fC fS "com/example/limit1/limit1/JsonText" T0 h0 [J] 0 0 := SW0.addE JE (by decide) (by decide)
  refine Ai CW SW1 ?_
  intro vm2 C S3 rb4
  refine Ac C S3 [(0, .iload_n 2, 1), (1, .istore_n 3, 1), (2, .iload_n 3, 1), (3, .ifCond .le 98, 3), (6, .aload_n 0, 1)] 7 #[Ab J, Ab B, Aa 2, Aa 2, .unset] [.ref J] ?_
  refine An C S3 hP1 hP2 hw 87 88 76 89 90 66 (Bo l Z a0 hw G1 G3 J _ _ _ _ _ _ cs pp [] (93 :: (cl :: R)) h0 n0 z0 ge_J X00 JE JX JP xE xV xC tK ne_x_J ne_t_J HS hrep hat (fun _ q => nomatch q) (Bn (by unfold Aw; decide))) 0 JE [] [] At ?_
  rintro T11 h12 v13 L14 S15 ⟨⟨y5, rfl, K6, f7, f8, f9, p10⟩, -⟩
  refine Ac C S15 [(10, .aload_n 1, 1), (11, .iload_n 3, 1), (12, .iconst 1, 1), (13, .isub, 1)] 14 #[Ab J, Ab B, Aa 2, Aa 2, .unset] [.int 1, .ref B] ?_
  have f16 := (X00.keep K6 (allS ge_J all0))
  have f17 := (b0.keep K6)
  have f18 := (b1.keep K6 (ninS ne_B_J nin0))
  have f19 := (b2.keep K6 (ninS ne_B_J nin0))
  have f20 := (b3.keep K6 (ninS ne_wd_J nin0))
  have f21 : n0 ≤ h12.size := (Nat.le_trans z0 K6.1)
  refine Cm C S15 hP1 hP2 hw 190 191 193 193 192 194 131 (own_bg11 l Z a0 hw G1 G3 B _ _ _ _ o cl h12 n0 f21 f16 f17 f18 f19 f20 HS hst) 0 f17 [.int 1] [] Dn ?_
  rintro T23 h24 v25 L26 S27 ⟨⟨rfl, e22⟩, -⟩
  rw [e22] at S27; clear e22
  refine Ac C S27 [(17, .istore 4, 2), (19, .aload_n 0, 1), (20, .bipush 44, 2)] 22 #[Ab J, Ab B, Aa 2, Aa 2, Aa 0] [.int 44, .ref J] ?_
  have f28 := (xE.keep K6)
  have f29 := (xV.keep K6 (ninS ne_x_J nin0))
  have f30 := (xC.keep K6 (ninS ne_x_J nin0))
  have f31 := (tK.keep K6 (ninS ne_t_J nin0))
  refine An C S27 hP1 hP2 hw 156 157 76 158 159 66 (Bf l Z a0 hw G1 G3 J _ _ _ _ _ _ cs y5 44 93 (cl :: R) h12 n0 f21 f16 f7 f9 f8 f28 f29 f30 f31 HS hrep p10) 0 f7 [.int 44] [] Av ?_
  rintro T35 h36 v37 L38 S39 ⟨⟨y32, rfl, e33, p34⟩, -⟩
  rw [e33] at S39; clear e33
  have hr40 : y32 = (0 : Int32) := Bl.zero p34 (by decide)
  subst hr40
  refine Ac C S39 [(25, .ifCond .eq 24, 3), (49, .aload_n 0, 1), (50, .iload 4, 2), (52, .ifCond .eq 8, 3), (60, .bipush 93, 2)] 62 #[Ab J, Ab B, Aa 2, Aa 2, Aa 0] [.int 93, .ref J] ?_
  refine An C S39 hP1 hP2 hw 156 157 76 158 159 66 (Bf l Z a0 hw G1 G3 J _ _ _ _ _ _ cs y5 93 93 (cl :: R) h12 n0 f21 f16 f7 f9 f8 f28 f29 f30 f31 HS hrep p10) 0 f7 [.int 93] [] Av ?_
  rintro T44 h45 v46 L47 S48 ⟨⟨y41, rfl, e42, p43⟩, -⟩
  rw [e42] at S48; clear e42
  have hr49 : y41 = (1 : Int32) := Bl.one p43 rfl
  subst hr49
  refine Ac C S48 [(65, .ifCond .ne 20, 3), (85, .aload_n 0, 1), (86, .dup, 1)] 87 #[Ab J, Ab B, Aa 2, Aa 2, Aa 0] [.ref J, .ref J] ?_
  refine Ah C S48 hw 91 f8 ?_
  intro T50 S51
  refine Ac C S51 [(90, .iconst 1, 1), (91, .iadd, 1)] 92 #[Ab J, Ab B, Aa 2, Aa 2, Aa 0] [.int ((Int32.ofNat y5) + (1 : Int32)), .ref J] ?_
  rw [show ((Int32.ofNat y5) + (1 : Int32)) = (Int32.ofNat (y5 + 1)) from Af _]
  refine Bh C S51 hw 91 92 76 f8 f7 Ax ge_J ?_
  intro T52 h54 S53 W55
  have f56 : Fld Z h54 J "com/example/limit1/limit1/JsonText" "position" "I" (.int (Int32.ofNat (y5 + 1))) := Fld.same W55 f8
  have hat57 := (Ae.hd p10).2.2
  refine Ac C S53 [(95, .iinc 3 (-1), 3), (98, .goto (-96), 3)] 2 #[Ab J, Ab B, Aa 2, Aa 1, Aa 0] [] ?_
  rcases hst with ⟨rfl, rfl, rfl, rfl⟩ | ⟨rfl, rfl, rfl, rfl⟩
  · refine Ac C S53 [(2, .iload_n 3, 1), (3, .ifCond .le 98, 3), (6, .aload_n 0, 1)] 7 #[Ab J, Ab B, Aa 2, Aa 1, Aa 0] [.ref J] ?_
    have f58 := (f16.wr W55 ge_J)
    have f59 := (Exa.wr W55 f7)
    have f60 := (Fld.other W55 f9 (Or.inr (Bb hw)))
    have f61 := (Exa.wr W55 f28)
    have f62 := (Fld.other W55 f29 (Or.inl ne_x_J))
    have f63 := (Fld.other W55 f30 (Or.inl ne_x_J))
    have f64 := (f31.other W55 ne_t_J)
    have f65 : n0 ≤ h54.size := (by rw [W55.size]; exact f21)
    refine An C S53 hP1 hP2 hw 87 88 76 89 90 66 (Bo l Z a0 hw G1 G3 J _ _ _ _ _ _ cs (y5 + 1) [] (93 :: R) h54 n0 f65 ge_J f58 f59 f60 f56 f61 f62 f63 f64 ne_x_J ne_t_J HS hrep hat57 (fun _ q => nomatch q) (Bn (by unfold Aw; decide))) 0 f59 [] [] At ?_
    rintro T72 h73 v74 L75 S76 ⟨⟨y66, rfl, K67, f68, f69, f70, p71⟩, -⟩
    refine Ac C S76 [(10, .aload_n 1, 1), (11, .iload_n 3, 1), (12, .iconst 1, 1), (13, .isub, 1)] 14 #[Ab J, Ab B, Aa 2, Aa 1, Aa 0] [.int 0, .ref B] ?_
    have f77 := (f58.keep K67 (allS ge_J all0))
    have f78 := ((Exa.wr W55 f17).keep K67)
    have f79 := ((Fld.other W55 f18 (Or.inl ne_B_J)).keep K67 (ninS ne_B_J nin0))
    have f80 := ((Fld.other W55 f19 (Or.inl ne_B_J)).keep K67 (ninS ne_B_J nin0))
    have f81 := ((f20.other W55 ne_wd_J).keep K67 (ninS ne_wd_J nin0))
    have f82 : n0 ≤ h73.size := (Nat.le_trans f65 K67.1)
    refine Cm C S76 hP1 hP2 hw 190 191 193 193 192 194 131 (own_bg10 l Z a0 hw G1 G3 B _ _ _ _ 0 93 h73 n0 f82 f77 f78 f79 f80 f81 HS (Or.inl ⟨rfl, rfl, rfl, rfl⟩)) 0 f78 [.int 0] [] Dn ?_
    rintro T84 h85 v86 L87 S88 ⟨⟨rfl, e83⟩, -⟩
    rw [e83] at S88; clear e83
    refine Ac C S88 [(17, .istore 4, 2), (19, .aload_n 0, 1), (20, .bipush 44, 2)] 22 #[Ab J, Ab B, Aa 2, Aa 1, Aa 0] [.int 44, .ref J] ?_
    have f89 := (f61.keep K67)
    have f90 := (f62.keep K67 (ninS ne_x_J nin0))
    have f91 := (f63.keep K67 (ninS ne_x_J nin0))
    have f92 := (f64.keep K67 (ninS ne_t_J nin0))
    refine An C S88 hP1 hP2 hw 156 157 76 158 159 66 (Bf l Z a0 hw G1 G3 J _ _ _ _ _ _ cs y66 44 93 R h73 n0 f82 f77 f68 f70 f69 f89 f90 f91 f92 HS hrep p71) 0 f68 [.int 44] [] Av ?_
    rintro T96 h97 v98 L99 S100 ⟨⟨y93, rfl, e94, p95⟩, -⟩
    rw [e94] at S100; clear e94
    have hr101 : y93 = (0 : Int32) := Bl.zero p95 (by decide)
    subst hr101
    refine Ac C S100 [(25, .ifCond .eq 24, 3), (49, .aload_n 0, 1), (50, .iload 4, 2), (52, .ifCond .eq 8, 3), (60, .bipush 93, 2)] 62 #[Ab J, Ab B, Aa 2, Aa 1, Aa 0] [.int 93, .ref J] ?_
    refine An C S100 hP1 hP2 hw 156 157 76 158 159 66 (Bf l Z a0 hw G1 G3 J _ _ _ _ _ _ cs y66 93 93 R h73 n0 f82 f77 f68 f70 f69 f89 f90 f91 f92 HS hrep p71) 0 f68 [.int 93] [] Av ?_
    rintro T105 h106 v107 L108 S109 ⟨⟨y102, rfl, e103, p104⟩, -⟩
    rw [e103] at S109; clear e103
    have hr110 : y102 = (1 : Int32) := Bl.one p104 rfl
    subst hr110
    refine Ac C S109 [(65, .ifCond .ne 20, 3), (85, .aload_n 0, 1), (86, .dup, 1)] 87 #[Ab J, Ab B, Aa 2, Aa 1, Aa 0] [.ref J, .ref J] ?_
    refine Ah C S109 hw 91 f69 ?_
    intro T111 S112
    refine Ac C S112 [(90, .iconst 1, 1), (91, .iadd, 1)] 92 #[Ab J, Ab B, Aa 2, Aa 1, Aa 0] [.int ((Int32.ofNat y66) + (1 : Int32)), .ref J] ?_
    rw [show ((Int32.ofNat y66) + (1 : Int32)) = (Int32.ofNat (y66 + 1)) from Af _]
    refine Bh C S112 hw 91 92 76 f69 f68 Ax ge_J ?_
    intro T113 h115 S114 W116
    have f117 : Fld Z h115 J "com/example/limit1/limit1/JsonText" "position" "I" (.int (Int32.ofNat (y66 + 1))) := Fld.same W116 f69
    have hat118 := (Ae.hd p71).2.2
    refine Ac C S114 [(95, .iinc 3 (-1), 3), (98, .goto (-96), 3), (2, .iload_n 3, 1), (3, .ifCond .le 98, 3), (101, .iconst 0, 1)] 102 #[Ab J, Ab B, Aa 2, Aa 0, Aa 0] [.int 0] ?_
    have SW119 := rb4 _ _ 0 0 [J] [] S114 (((((Keep.refl _ _).trans K6 (allS (Ad 0) all0)).wr W55 (Ad 0)).trans K67 (allS (Ad 0) all0)).wr W116 (Ad 0)) (allS (As 0) all0) all0
    refine Eb CW SW119 hF (by decide +kernel) (by decide) (by decide) ?_
    have f120 := (Exa.wr W116 f68)
    have f121 := (Fld.other W116 f70 (Or.inr (Bb hw)))
    exact ⟨(y66 + 1), rfl, (((((Keep.refl _ _).trans K6 (allS (Ad 0) all0)).wr W55 (Ad 0)).trans K67 (allS (Ad 0) all0)).wr W116 (Ad 0)), f120, f117, f121, hat118⟩
  · refine Ac C S53 [(2, .iload_n 3, 1), (3, .ifCond .le 98, 3), (6, .aload_n 0, 1)] 7 #[Ab J, Ab B, Aa 2, Aa 1, Aa 0] [.ref J] ?_
    have f122 := (f16.wr W55 ge_J)
    have f123 := (Exa.wr W55 f7)
    have f124 := (Fld.other W55 f9 (Or.inr (Bb hw)))
    have f125 := (Exa.wr W55 f28)
    have f126 := (Fld.other W55 f29 (Or.inl ne_x_J))
    have f127 := (Fld.other W55 f30 (Or.inl ne_x_J))
    have f128 := (f31.other W55 ne_t_J)
    have f129 : n0 ≤ h54.size := (by rw [W55.size]; exact f21)
    refine An C S53 hP1 hP2 hw 87 88 76 89 90 66 (Bo l Z a0 hw G1 G3 J _ _ _ _ _ _ cs (y5 + 1) [] (125 :: R) h54 n0 f129 ge_J f122 f123 f124 f56 f125 f126 f127 f128 ne_x_J ne_t_J HS hrep hat57 (fun _ q => nomatch q) (Bn (by unfold Aw; decide))) 0 f123 [] [] At ?_
    rintro T136 h137 v138 L139 S140 ⟨⟨y130, rfl, K131, f132, f133, f134, p135⟩, -⟩
    refine Ac C S140 [(10, .aload_n 1, 1), (11, .iload_n 3, 1), (12, .iconst 1, 1), (13, .isub, 1)] 14 #[Ab J, Ab B, Aa 2, Aa 1, Aa 0] [.int 0, .ref B] ?_
    have f141 := (f122.keep K131 (allS ge_J all0))
    have f142 := ((Exa.wr W55 f17).keep K131)
    have f143 := ((Fld.other W55 f18 (Or.inl ne_B_J)).keep K131 (ninS ne_B_J nin0))
    have f144 := ((Fld.other W55 f19 (Or.inl ne_B_J)).keep K131 (ninS ne_B_J nin0))
    have f145 := ((f20.other W55 ne_wd_J).keep K131 (ninS ne_wd_J nin0))
    have f146 : n0 ≤ h137.size := (Nat.le_trans f129 K131.1)
    refine Cm C S140 hP1 hP2 hw 190 191 193 193 192 194 131 (own_bg10 l Z a0 hw G1 G3 B _ _ _ _ 1 125 h137 n0 f146 f141 f142 f143 f144 f145 HS (Or.inr ⟨rfl, rfl, rfl, rfl⟩)) 0 f142 [.int 0] [] Dn ?_
    rintro T148 h149 v150 L151 S152 ⟨⟨rfl, e147⟩, -⟩
    rw [e147] at S152; clear e147
    refine Ac C S152 [(17, .istore 4, 2), (19, .aload_n 0, 1), (20, .bipush 44, 2)] 22 #[Ab J, Ab B, Aa 2, Aa 1, Aa 1] [.int 44, .ref J] ?_
    have f153 := (f125.keep K131)
    have f154 := (f126.keep K131 (ninS ne_x_J nin0))
    have f155 := (f127.keep K131 (ninS ne_x_J nin0))
    have f156 := (f128.keep K131 (ninS ne_t_J nin0))
    refine An C S152 hP1 hP2 hw 156 157 76 158 159 66 (Bf l Z a0 hw G1 G3 J _ _ _ _ _ _ cs y130 44 125 R h137 n0 f146 f141 f132 f134 f133 f153 f154 f155 f156 HS hrep p135) 0 f132 [.int 44] [] Av ?_
    rintro T160 h161 v162 L163 S164 ⟨⟨y157, rfl, e158, p159⟩, -⟩
    rw [e158] at S164; clear e158
    have hr165 : y157 = (0 : Int32) := Bl.zero p159 (by decide)
    subst hr165
    refine Ac C S164 [(25, .ifCond .eq 24, 3), (49, .aload_n 0, 1), (50, .iload 4, 2), (52, .ifCond .eq 8, 3), (55, .bipush 125, 2), (57, .goto 5, 3)] 62 #[Ab J, Ab B, Aa 2, Aa 1, Aa 1] [.int 125, .ref J] ?_
    refine An C S164 hP1 hP2 hw 156 157 76 158 159 66 (Bf l Z a0 hw G1 G3 J _ _ _ _ _ _ cs y130 125 125 R h137 n0 f146 f141 f132 f134 f133 f153 f154 f155 f156 HS hrep p135) 0 f132 [.int 125] [] Av ?_
    rintro T169 h170 v171 L172 S173 ⟨⟨y166, rfl, e167, p168⟩, -⟩
    rw [e167] at S173; clear e167
    have hr174 : y166 = (1 : Int32) := Bl.one p168 rfl
    subst hr174
    refine Ac C S173 [(65, .ifCond .ne 20, 3), (85, .aload_n 0, 1), (86, .dup, 1)] 87 #[Ab J, Ab B, Aa 2, Aa 1, Aa 1] [.ref J, .ref J] ?_
    refine Ah C S173 hw 91 f133 ?_
    intro T175 S176
    refine Ac C S176 [(90, .iconst 1, 1), (91, .iadd, 1)] 92 #[Ab J, Ab B, Aa 2, Aa 1, Aa 1] [.int ((Int32.ofNat y130) + (1 : Int32)), .ref J] ?_
    rw [show ((Int32.ofNat y130) + (1 : Int32)) = (Int32.ofNat (y130 + 1)) from Af _]
    refine Bh C S176 hw 91 92 76 f133 f132 Ax ge_J ?_
    intro T177 h179 S178 W180
    have f181 : Fld Z h179 J "com/example/limit1/limit1/JsonText" "position" "I" (.int (Int32.ofNat (y130 + 1))) := Fld.same W180 f133
    have hat182 := (Ae.hd p135).2.2
    refine Ac C S178 [(95, .iinc 3 (-1), 3), (98, .goto (-96), 3), (2, .iload_n 3, 1), (3, .ifCond .le 98, 3), (101, .iconst 0, 1)] 102 #[Ab J, Ab B, Aa 2, Aa 0, Aa 1] [.int 0] ?_
    have SW183 := rb4 _ _ 0 0 [J] [] S178 (((((Keep.refl _ _).trans K6 (allS (Ad 0) all0)).wr W55 (Ad 0)).trans K131 (allS (Ad 0) all0)).wr W180 (Ad 0)) (allS (As 0) all0) all0
    refine Eb CW SW183 hF (by decide +kernel) (by decide) (by decide) ?_
    have f184 := (Exa.wr W180 f132)
    have f185 := (Fld.other W180 f134 (Or.inr (Bb hw)))
    exact ⟨(y130 + 1), rfl, (((((Keep.refl _ _).trans K6 (allS (Ad 0) all0)).wr W55 (Ad 0)).trans K131 (allS (Ad 0) all0)).wr W180 (Ad 0)), f184, f181, f185, hat182⟩
theorem own_cc4 (hw : Ar a0 Z) (hEL : EW Z a0 Br) (wS : ∀ a ∈ Bundle.stringAtoms, a.before a0 Z = true) (G1 : Int32) (G3 : Value) (J : Addr) (x : Addr) (t : Addr) (tk : ClassId) (kd : Int32) (N : Int32) (vs : List Value) (cs : List Int32) (pp : Nat) (B : Addr) (wd : Addr) (wk : ClassId) (W : Int64) (o : Int32) (cl : Int32) (R : List Int32) (h0 : Heap) (n0 : Nat) (z0 : n0 ≤ h0.size) (ge_J : n0 ≤ J) (X00 : Old Z n0 h0) (JE : Exa Z h0 J "com/example/limit1/limit1/JsonText") (JX : Fld Z h0 J "com/example/limit1/limit1/JsonText" "text" "Ljava/lang/String;" (.ref x)) (JP : Fld Z h0 J "com/example/limit1/limit1/JsonText" "position" "I" (.int (Int32.ofNat pp))) (xE : Exa Z h0 x "java/lang/String") (xV : Fld Z h0 x "java/lang/String" "value" "[B" (.ref t)) (xC : Fld Z h0 x "java/lang/String" "coder" "B" (.int kd)) (tK : Arv Z h0 t tk .byte N vs (.int 0)) (b0 : Exa Z h0 B "java/util/BitSet") (b1 : Fld Z h0 B "java/util/BitSet" "words" "[J" (.ref wd)) (b2 : Fld Z h0 B "java/util/BitSet" "wordsInUse" "I" (.int 1)) (b3 : Arv Z h0 wd wk .long (1 : Int32) ([(.long W)]) (.long (0 : Int64))) (ne_x_J : x ≠ J) (ne_t_J : t ≠ J) (ne_B_J : B ≠ J) (ne_wd_J : wd ≠ J) (HS : Bg Z G1 G3) (hrep : Bx cs kd N vs) (hat : Ae cs pp (93 :: (125 :: (93 :: (cl :: R))))) (hst : Fk W o cl) :
    Co l Z Br Cw (⟨"com/example/limit1/limit1/JsonText", "closeContainers", "(Ljava/util/BitSet;I)I"⟩ : MethodName) prog_7_method_5_code 5 (some .int) 6 0 0 79 0 0 n0 #[(.ref J), (.ref B), (.int 4)] h0 [] (fun v h => ∃ q : Nat, v = some (.int 0) ∧ Keep h0 h [J] ∧ Exa Z h J "com/example/limit1/limit1/JsonText" ∧ Fld Z h J "com/example/limit1/limit1/JsonText" "position" "I" (.int (Int32.ofNat q)) ∧ Fld Z h J "com/example/limit1/limit1/JsonText" "text" "Ljava/lang/String;" (.ref x) ∧ (Ae cs q R)) := by
  refine Eh hEL wS #[.val (.ref J), .val (.ref B), .val (.int 4), .unset, .unset] ?_
  intro fC fS P1 P2 p e s m below meth c T0 CW hF hP1 hP2 SW0
  have SW1 : Bz p l e ({ frames := 6, cells := P1 + 0, slots := P2 + 0, locals := 79 } : Room) s m #[(.ref J), (.ref B), (.int 4)] below meth c n0 Z Br fC fS "com/example/limit1/limit1/JsonText" T0 h0 [J] 0 0 := SW0.addE JE (by decide) (by decide)
  refine Ai CW SW1 ?_
  intro vm2 C S3 rb4
  refine Ac C S3 [(0, .iload_n 2, 1), (1, .istore_n 3, 1), (2, .iload_n 3, 1), (3, .ifCond .le 98, 3), (6, .aload_n 0, 1)] 7 #[Ab J, Ab B, Aa 4, Aa 4, .unset] [.ref J] ?_
  refine An C S3 hP1 hP2 hw 87 88 76 89 90 66 (Bo l Z a0 hw G1 G3 J _ _ _ _ _ _ cs pp [] (93 :: (125 :: (93 :: (cl :: R)))) h0 n0 z0 ge_J X00 JE JX JP xE xV xC tK ne_x_J ne_t_J HS hrep hat (fun _ q => nomatch q) (Bn (by unfold Aw; decide))) 0 JE [] [] At ?_
  rintro T11 h12 v13 L14 S15 ⟨⟨y5, rfl, K6, f7, f8, f9, p10⟩, -⟩
  refine Ac C S15 [(10, .aload_n 1, 1), (11, .iload_n 3, 1), (12, .iconst 1, 1), (13, .isub, 1)] 14 #[Ab J, Ab B, Aa 4, Aa 4, .unset] [.int 3, .ref B] ?_
  have f16 := (X00.keep K6 (allS ge_J all0))
  have f17 := (b0.keep K6)
  have f18 := (b1.keep K6 (ninS ne_B_J nin0))
  have f19 := (b2.keep K6 (ninS ne_B_J nin0))
  have f20 := (b3.keep K6 (ninS ne_wd_J nin0))
  have f21 : n0 ≤ h12.size := (Nat.le_trans z0 K6.1)
  refine Cm C S15 hP1 hP2 hw 190 191 193 193 192 194 131 (own_bg43 l Z a0 hw G1 G3 B _ _ _ o cl h12 n0 f21 f16 f17 f18 f19 f20 HS hst) 0 f17 [.int 3] [] Dn ?_
  rintro T23 h24 v25 L26 S27 ⟨⟨rfl, e22⟩, -⟩
  rw [e22] at S27; clear e22
  refine Ac C S27 [(17, .istore 4, 2), (19, .aload_n 0, 1), (20, .bipush 44, 2)] 22 #[Ab J, Ab B, Aa 4, Aa 4, Aa 0] [.int 44, .ref J] ?_
  have f28 := (xE.keep K6)
  have f29 := (xV.keep K6 (ninS ne_x_J nin0))
  have f30 := (xC.keep K6 (ninS ne_x_J nin0))
  have f31 := (tK.keep K6 (ninS ne_t_J nin0))
  refine An C S27 hP1 hP2 hw 156 157 76 158 159 66 (Bf l Z a0 hw G1 G3 J _ _ _ _ _ _ cs y5 44 93 (125 :: (93 :: (cl :: R))) h12 n0 f21 f16 f7 f9 f8 f28 f29 f30 f31 HS hrep p10) 0 f7 [.int 44] [] Av ?_
  rintro T35 h36 v37 L38 S39 ⟨⟨y32, rfl, e33, p34⟩, -⟩
  rw [e33] at S39; clear e33
  have hr40 : y32 = (0 : Int32) := Bl.zero p34 (by decide)
  subst hr40
  refine Ac C S39 [(25, .ifCond .eq 24, 3), (49, .aload_n 0, 1), (50, .iload 4, 2), (52, .ifCond .eq 8, 3), (60, .bipush 93, 2)] 62 #[Ab J, Ab B, Aa 4, Aa 4, Aa 0] [.int 93, .ref J] ?_
  refine An C S39 hP1 hP2 hw 156 157 76 158 159 66 (Bf l Z a0 hw G1 G3 J _ _ _ _ _ _ cs y5 93 93 (125 :: (93 :: (cl :: R))) h12 n0 f21 f16 f7 f9 f8 f28 f29 f30 f31 HS hrep p10) 0 f7 [.int 93] [] Av ?_
  rintro T44 h45 v46 L47 S48 ⟨⟨y41, rfl, e42, p43⟩, -⟩
  rw [e42] at S48; clear e42
  have hr49 : y41 = (1 : Int32) := Bl.one p43 rfl
  subst hr49
  refine Ac C S48 [(65, .ifCond .ne 20, 3), (85, .aload_n 0, 1), (86, .dup, 1)] 87 #[Ab J, Ab B, Aa 4, Aa 4, Aa 0] [.ref J, .ref J] ?_
  refine Ah C S48 hw 91 f8 ?_
  intro T50 S51
  refine Ac C S51 [(90, .iconst 1, 1), (91, .iadd, 1)] 92 #[Ab J, Ab B, Aa 4, Aa 4, Aa 0] [.int ((Int32.ofNat y5) + (1 : Int32)), .ref J] ?_
  rw [show ((Int32.ofNat y5) + (1 : Int32)) = (Int32.ofNat (y5 + 1)) from Af _]
  refine Bh C S51 hw 91 92 76 f8 f7 Ax ge_J ?_
  intro T52 h54 S53 W55
  have f56 : Fld Z h54 J "com/example/limit1/limit1/JsonText" "position" "I" (.int (Int32.ofNat (y5 + 1))) := Fld.same W55 f8
  have hat57 := (Ae.hd p10).2.2
  refine Ac C S53 [(95, .iinc 3 (-1), 3), (98, .goto (-96), 3), (2, .iload_n 3, 1), (3, .ifCond .le 98, 3), (6, .aload_n 0, 1)] 7 #[Ab J, Ab B, Aa 4, Aa 3, Aa 0] [.ref J] ?_
  have f58 := (f16.wr W55 ge_J)
  have f59 := (Exa.wr W55 f7)
  have f60 := (Fld.other W55 f9 (Or.inr (Bb hw)))
  have f61 := (Exa.wr W55 f28)
  have f62 := (Fld.other W55 f29 (Or.inl ne_x_J))
  have f63 := (Fld.other W55 f30 (Or.inl ne_x_J))
  have f64 := (f31.other W55 ne_t_J)
  have f65 : n0 ≤ h54.size := (by rw [W55.size]; exact f21)
  refine An C S53 hP1 hP2 hw 87 88 76 89 90 66 (Bo l Z a0 hw G1 G3 J _ _ _ _ _ _ cs (y5 + 1) [] (125 :: (93 :: (cl :: R))) h54 n0 f65 ge_J f58 f59 f60 f56 f61 f62 f63 f64 ne_x_J ne_t_J HS hrep hat57 (fun _ q => nomatch q) (Bn (by unfold Aw; decide))) 0 f59 [] [] At ?_
  rintro T72 h73 v74 L75 S76 ⟨⟨y66, rfl, K67, f68, f69, f70, p71⟩, -⟩
  refine Ac C S76 [(10, .aload_n 1, 1), (11, .iload_n 3, 1), (12, .iconst 1, 1), (13, .isub, 1)] 14 #[Ab J, Ab B, Aa 4, Aa 3, Aa 0] [.int 2, .ref B] ?_
  have f77 := (f58.keep K67 (allS ge_J all0))
  have f78 := ((Exa.wr W55 f17).keep K67)
  have f79 := ((Fld.other W55 f18 (Or.inl ne_B_J)).keep K67 (ninS ne_B_J nin0))
  have f80 := ((Fld.other W55 f19 (Or.inl ne_B_J)).keep K67 (ninS ne_B_J nin0))
  have f81 := ((f20.other W55 ne_wd_J).keep K67 (ninS ne_wd_J nin0))
  have f82 : n0 ≤ h73.size := (Nat.le_trans f65 K67.1)
  refine Cm C S76 hP1 hP2 hw 190 191 193 193 192 194 131 (own_bg42 l Z a0 hw G1 G3 B _ _ _ o cl h73 n0 f82 f77 f78 f79 f80 f81 HS hst) 0 f78 [.int 2] [] Dn ?_
  rintro T84 h85 v86 L87 S88 ⟨⟨rfl, e83⟩, -⟩
  rw [e83] at S88; clear e83
  refine Ac C S88 [(17, .istore 4, 2), (19, .aload_n 0, 1), (20, .bipush 44, 2)] 22 #[Ab J, Ab B, Aa 4, Aa 3, Aa 1] [.int 44, .ref J] ?_
  have f89 := (f61.keep K67)
  have f90 := (f62.keep K67 (ninS ne_x_J nin0))
  have f91 := (f63.keep K67 (ninS ne_x_J nin0))
  have f92 := (f64.keep K67 (ninS ne_t_J nin0))
  refine An C S88 hP1 hP2 hw 156 157 76 158 159 66 (Bf l Z a0 hw G1 G3 J _ _ _ _ _ _ cs y66 44 125 (93 :: (cl :: R)) h73 n0 f82 f77 f68 f70 f69 f89 f90 f91 f92 HS hrep p71) 0 f68 [.int 44] [] Av ?_
  rintro T96 h97 v98 L99 S100 ⟨⟨y93, rfl, e94, p95⟩, -⟩
  rw [e94] at S100; clear e94
  have hr101 : y93 = (0 : Int32) := Bl.zero p95 (by decide)
  subst hr101
  refine Ac C S100 [(25, .ifCond .eq 24, 3), (49, .aload_n 0, 1), (50, .iload 4, 2), (52, .ifCond .eq 8, 3), (55, .bipush 125, 2), (57, .goto 5, 3)] 62 #[Ab J, Ab B, Aa 4, Aa 3, Aa 1] [.int 125, .ref J] ?_
  refine An C S100 hP1 hP2 hw 156 157 76 158 159 66 (Bf l Z a0 hw G1 G3 J _ _ _ _ _ _ cs y66 125 125 (93 :: (cl :: R)) h73 n0 f82 f77 f68 f70 f69 f89 f90 f91 f92 HS hrep p71) 0 f68 [.int 125] [] Av ?_
  rintro T105 h106 v107 L108 S109 ⟨⟨y102, rfl, e103, p104⟩, -⟩
  rw [e103] at S109; clear e103
  have hr110 : y102 = (1 : Int32) := Bl.one p104 rfl
  subst hr110
  refine Ac C S109 [(65, .ifCond .ne 20, 3), (85, .aload_n 0, 1), (86, .dup, 1)] 87 #[Ab J, Ab B, Aa 4, Aa 3, Aa 1] [.ref J, .ref J] ?_
  refine Ah C S109 hw 91 f69 ?_
  intro T111 S112
  refine Ac C S112 [(90, .iconst 1, 1), (91, .iadd, 1)] 92 #[Ab J, Ab B, Aa 4, Aa 3, Aa 1] [.int ((Int32.ofNat y66) + (1 : Int32)), .ref J] ?_
  rw [show ((Int32.ofNat y66) + (1 : Int32)) = (Int32.ofNat (y66 + 1)) from Af _]
  refine Bh C S112 hw 91 92 76 f69 f68 Ax ge_J ?_
  intro T113 h115 S114 W116
  have f117 : Fld Z h115 J "com/example/limit1/limit1/JsonText" "position" "I" (.int (Int32.ofNat (y66 + 1))) := Fld.same W116 f69
  have hat118 := (Ae.hd p71).2.2
  refine Ac C S114 [(95, .iinc 3 (-1), 3), (98, .goto (-96), 3), (2, .iload_n 3, 1), (3, .ifCond .le 98, 3), (6, .aload_n 0, 1)] 7 #[Ab J, Ab B, Aa 4, Aa 2, Aa 1] [.ref J] ?_
  have f119 := (f77.wr W116 ge_J)
  have f120 := (Exa.wr W116 f68)
  have f121 := (Fld.other W116 f70 (Or.inr (Bb hw)))
  have f122 := (Exa.wr W116 f89)
  have f123 := (Fld.other W116 f90 (Or.inl ne_x_J))
  have f124 := (Fld.other W116 f91 (Or.inl ne_x_J))
  have f125 := (f92.other W116 ne_t_J)
  have f126 : n0 ≤ h115.size := (by rw [W116.size]; exact f82)
  refine An C S114 hP1 hP2 hw 87 88 76 89 90 66 (Bo l Z a0 hw G1 G3 J _ _ _ _ _ _ cs (y66 + 1) [] (93 :: (cl :: R)) h115 n0 f126 ge_J f119 f120 f121 f117 f122 f123 f124 f125 ne_x_J ne_t_J HS hrep hat118 (fun _ q => nomatch q) (Bn (by unfold Aw; decide))) 0 f120 [] [] At ?_
  rintro T133 h134 v135 L136 S137 ⟨⟨y127, rfl, K128, f129, f130, f131, p132⟩, -⟩
  refine Ac C S137 [(10, .aload_n 1, 1), (11, .iload_n 3, 1), (12, .iconst 1, 1), (13, .isub, 1)] 14 #[Ab J, Ab B, Aa 4, Aa 2, Aa 1] [.int 1, .ref B] ?_
  have f138 := (f119.keep K128 (allS ge_J all0))
  have f139 := ((Exa.wr W116 f78).keep K128)
  have f140 := ((Fld.other W116 f79 (Or.inl ne_B_J)).keep K128 (ninS ne_B_J nin0))
  have f141 := ((Fld.other W116 f80 (Or.inl ne_B_J)).keep K128 (ninS ne_B_J nin0))
  have f142 := ((f81.other W116 ne_wd_J).keep K128 (ninS ne_wd_J nin0))
  have f143 : n0 ≤ h134.size := (Nat.le_trans f126 K128.1)
  refine Cm C S137 hP1 hP2 hw 190 191 193 193 192 194 131 (own_bg41 l Z a0 hw G1 G3 B _ _ _ o cl h134 n0 f143 f138 f139 f140 f141 f142 HS hst) 0 f139 [.int 1] [] Dn ?_
  rintro T145 h146 v147 L148 S149 ⟨⟨rfl, e144⟩, -⟩
  rw [e144] at S149; clear e144
  refine Ac C S149 [(17, .istore 4, 2), (19, .aload_n 0, 1), (20, .bipush 44, 2)] 22 #[Ab J, Ab B, Aa 4, Aa 2, Aa 0] [.int 44, .ref J] ?_
  have f150 := (f122.keep K128)
  have f151 := (f123.keep K128 (ninS ne_x_J nin0))
  have f152 := (f124.keep K128 (ninS ne_x_J nin0))
  have f153 := (f125.keep K128 (ninS ne_t_J nin0))
  refine An C S149 hP1 hP2 hw 156 157 76 158 159 66 (Bf l Z a0 hw G1 G3 J _ _ _ _ _ _ cs y127 44 93 (cl :: R) h134 n0 f143 f138 f129 f131 f130 f150 f151 f152 f153 HS hrep p132) 0 f129 [.int 44] [] Av ?_
  rintro T157 h158 v159 L160 S161 ⟨⟨y154, rfl, e155, p156⟩, -⟩
  rw [e155] at S161; clear e155
  have hr162 : y154 = (0 : Int32) := Bl.zero p156 (by decide)
  subst hr162
  refine Ac C S161 [(25, .ifCond .eq 24, 3), (49, .aload_n 0, 1), (50, .iload 4, 2), (52, .ifCond .eq 8, 3), (60, .bipush 93, 2)] 62 #[Ab J, Ab B, Aa 4, Aa 2, Aa 0] [.int 93, .ref J] ?_
  refine An C S161 hP1 hP2 hw 156 157 76 158 159 66 (Bf l Z a0 hw G1 G3 J _ _ _ _ _ _ cs y127 93 93 (cl :: R) h134 n0 f143 f138 f129 f131 f130 f150 f151 f152 f153 HS hrep p132) 0 f129 [.int 93] [] Av ?_
  rintro T166 h167 v168 L169 S170 ⟨⟨y163, rfl, e164, p165⟩, -⟩
  rw [e164] at S170; clear e164
  have hr171 : y163 = (1 : Int32) := Bl.one p165 rfl
  subst hr171
  refine Ac C S170 [(65, .ifCond .ne 20, 3), (85, .aload_n 0, 1), (86, .dup, 1)] 87 #[Ab J, Ab B, Aa 4, Aa 2, Aa 0] [.ref J, .ref J] ?_
  refine Ah C S170 hw 91 f130 ?_
  intro T172 S173
  refine Ac C S173 [(90, .iconst 1, 1), (91, .iadd, 1)] 92 #[Ab J, Ab B, Aa 4, Aa 2, Aa 0] [.int ((Int32.ofNat y127) + (1 : Int32)), .ref J] ?_
  rw [show ((Int32.ofNat y127) + (1 : Int32)) = (Int32.ofNat (y127 + 1)) from Af _]
  refine Bh C S173 hw 91 92 76 f130 f129 Ax ge_J ?_
  intro T174 h176 S175 W177
  have f178 : Fld Z h176 J "com/example/limit1/limit1/JsonText" "position" "I" (.int (Int32.ofNat (y127 + 1))) := Fld.same W177 f130
  have hat179 := (Ae.hd p132).2.2
  refine Ac C S175 [(95, .iinc 3 (-1), 3), (98, .goto (-96), 3)] 2 #[Ab J, Ab B, Aa 4, Aa 1, Aa 0] [] ?_
  rcases hst with ⟨rfl, rfl, rfl⟩ | ⟨rfl, rfl, rfl⟩
  · refine Ac C S175 [(2, .iload_n 3, 1), (3, .ifCond .le 98, 3), (6, .aload_n 0, 1)] 7 #[Ab J, Ab B, Aa 4, Aa 1, Aa 0] [.ref J] ?_
    have f180 := (f138.wr W177 ge_J)
    have f181 := (Exa.wr W177 f129)
    have f182 := (Fld.other W177 f131 (Or.inr (Bb hw)))
    have f183 := (Exa.wr W177 f150)
    have f184 := (Fld.other W177 f151 (Or.inl ne_x_J))
    have f185 := (Fld.other W177 f152 (Or.inl ne_x_J))
    have f186 := (f153.other W177 ne_t_J)
    have f187 : n0 ≤ h176.size := (by rw [W177.size]; exact f143)
    refine An C S175 hP1 hP2 hw 87 88 76 89 90 66 (Bo l Z a0 hw G1 G3 J _ _ _ _ _ _ cs (y127 + 1) [] (93 :: R) h176 n0 f187 ge_J f180 f181 f182 f178 f183 f184 f185 f186 ne_x_J ne_t_J HS hrep hat179 (fun _ q => nomatch q) (Bn (by unfold Aw; decide))) 0 f181 [] [] At ?_
    rintro T194 h195 v196 L197 S198 ⟨⟨y188, rfl, K189, f190, f191, f192, p193⟩, -⟩
    refine Ac C S198 [(10, .aload_n 1, 1), (11, .iload_n 3, 1), (12, .iconst 1, 1), (13, .isub, 1)] 14 #[Ab J, Ab B, Aa 4, Aa 1, Aa 0] [.int 0, .ref B] ?_
    have f199 := (f180.keep K189 (allS ge_J all0))
    have f200 := ((Exa.wr W177 f139).keep K189)
    have f201 := ((Fld.other W177 f140 (Or.inl ne_B_J)).keep K189 (ninS ne_B_J nin0))
    have f202 := ((Fld.other W177 f141 (Or.inl ne_B_J)).keep K189 (ninS ne_B_J nin0))
    have f203 := ((f142.other W177 ne_wd_J).keep K189 (ninS ne_wd_J nin0))
    have f204 : n0 ≤ h195.size := (Nat.le_trans f187 K189.1)
    refine Cm C S198 hP1 hP2 hw 190 191 193 193 192 194 131 (own_bg40 l Z a0 hw G1 G3 B _ _ _ 0 93 h195 n0 f204 f199 f200 f201 f202 f203 HS (Or.inl ⟨rfl, rfl, rfl⟩)) 0 f200 [.int 0] [] Dn ?_
    rintro T206 h207 v208 L209 S210 ⟨⟨rfl, e205⟩, -⟩
    rw [e205] at S210; clear e205
    refine Ac C S210 [(17, .istore 4, 2), (19, .aload_n 0, 1), (20, .bipush 44, 2)] 22 #[Ab J, Ab B, Aa 4, Aa 1, Aa 0] [.int 44, .ref J] ?_
    have f211 := (f183.keep K189)
    have f212 := (f184.keep K189 (ninS ne_x_J nin0))
    have f213 := (f185.keep K189 (ninS ne_x_J nin0))
    have f214 := (f186.keep K189 (ninS ne_t_J nin0))
    refine An C S210 hP1 hP2 hw 156 157 76 158 159 66 (Bf l Z a0 hw G1 G3 J _ _ _ _ _ _ cs y188 44 93 R h195 n0 f204 f199 f190 f192 f191 f211 f212 f213 f214 HS hrep p193) 0 f190 [.int 44] [] Av ?_
    rintro T218 h219 v220 L221 S222 ⟨⟨y215, rfl, e216, p217⟩, -⟩
    rw [e216] at S222; clear e216
    have hr223 : y215 = (0 : Int32) := Bl.zero p217 (by decide)
    subst hr223
    refine Ac C S222 [(25, .ifCond .eq 24, 3), (49, .aload_n 0, 1), (50, .iload 4, 2), (52, .ifCond .eq 8, 3), (60, .bipush 93, 2)] 62 #[Ab J, Ab B, Aa 4, Aa 1, Aa 0] [.int 93, .ref J] ?_
    refine An C S222 hP1 hP2 hw 156 157 76 158 159 66 (Bf l Z a0 hw G1 G3 J _ _ _ _ _ _ cs y188 93 93 R h195 n0 f204 f199 f190 f192 f191 f211 f212 f213 f214 HS hrep p193) 0 f190 [.int 93] [] Av ?_
    rintro T227 h228 v229 L230 S231 ⟨⟨y224, rfl, e225, p226⟩, -⟩
    rw [e225] at S231; clear e225
    have hr232 : y224 = (1 : Int32) := Bl.one p226 rfl
    subst hr232
    refine Ac C S231 [(65, .ifCond .ne 20, 3), (85, .aload_n 0, 1), (86, .dup, 1)] 87 #[Ab J, Ab B, Aa 4, Aa 1, Aa 0] [.ref J, .ref J] ?_
    refine Ah C S231 hw 91 f191 ?_
    intro T233 S234
    refine Ac C S234 [(90, .iconst 1, 1), (91, .iadd, 1)] 92 #[Ab J, Ab B, Aa 4, Aa 1, Aa 0] [.int ((Int32.ofNat y188) + (1 : Int32)), .ref J] ?_
    rw [show ((Int32.ofNat y188) + (1 : Int32)) = (Int32.ofNat (y188 + 1)) from Af _]
    refine Bh C S234 hw 91 92 76 f191 f190 Ax ge_J ?_
    intro T235 h237 S236 W238
    have f239 : Fld Z h237 J "com/example/limit1/limit1/JsonText" "position" "I" (.int (Int32.ofNat (y188 + 1))) := Fld.same W238 f191
    have hat240 := (Ae.hd p193).2.2
    refine Ac C S236 [(95, .iinc 3 (-1), 3), (98, .goto (-96), 3), (2, .iload_n 3, 1), (3, .ifCond .le 98, 3), (101, .iconst 0, 1)] 102 #[Ab J, Ab B, Aa 4, Aa 0, Aa 0] [.int 0] ?_
    have SW241 := rb4 _ _ 0 0 [J] [] S236 (((((((((Keep.refl _ _).trans K6 (allS (Ad 0) all0)).wr W55 (Ad 0)).trans K67 (allS (Ad 0) all0)).wr W116 (Ad 0)).trans K128 (allS (Ad 0) all0)).wr W177 (Ad 0)).trans K189 (allS (Ad 0) all0)).wr W238 (Ad 0)) (allS (As 0) all0) all0
    refine Eb CW SW241 hF (by decide +kernel) (by decide) (by decide) ?_
    have f242 := (Exa.wr W238 f190)
    have f243 := (Fld.other W238 f192 (Or.inr (Bb hw)))
    exact ⟨(y188 + 1), rfl, (((((((((Keep.refl _ _).trans K6 (allS (Ad 0) all0)).wr W55 (Ad 0)).trans K67 (allS (Ad 0) all0)).wr W116 (Ad 0)).trans K128 (allS (Ad 0) all0)).wr W177 (Ad 0)).trans K189 (allS (Ad 0) all0)).wr W238 (Ad 0)), f242, f239, f243, hat240⟩
  · refine Ac C S175 [(2, .iload_n 3, 1), (3, .ifCond .le 98, 3), (6, .aload_n 0, 1)] 7 #[Ab J, Ab B, Aa 4, Aa 1, Aa 0] [.ref J] ?_
    have f244 := (f138.wr W177 ge_J)
    have f245 := (Exa.wr W177 f129)
    have f246 := (Fld.other W177 f131 (Or.inr (Bb hw)))
    have f247 := (Exa.wr W177 f150)
    have f248 := (Fld.other W177 f151 (Or.inl ne_x_J))
    have f249 := (Fld.other W177 f152 (Or.inl ne_x_J))
    have f250 := (f153.other W177 ne_t_J)
    have f251 : n0 ≤ h176.size := (by rw [W177.size]; exact f143)
    refine An C S175 hP1 hP2 hw 87 88 76 89 90 66 (Bo l Z a0 hw G1 G3 J _ _ _ _ _ _ cs (y127 + 1) [] (125 :: R) h176 n0 f251 ge_J f244 f245 f246 f178 f247 f248 f249 f250 ne_x_J ne_t_J HS hrep hat179 (fun _ q => nomatch q) (Bn (by unfold Aw; decide))) 0 f245 [] [] At ?_
    rintro T258 h259 v260 L261 S262 ⟨⟨y252, rfl, K253, f254, f255, f256, p257⟩, -⟩
    refine Ac C S262 [(10, .aload_n 1, 1), (11, .iload_n 3, 1), (12, .iconst 1, 1), (13, .isub, 1)] 14 #[Ab J, Ab B, Aa 4, Aa 1, Aa 0] [.int 0, .ref B] ?_
    have f263 := (f244.keep K253 (allS ge_J all0))
    have f264 := ((Exa.wr W177 f139).keep K253)
    have f265 := ((Fld.other W177 f140 (Or.inl ne_B_J)).keep K253 (ninS ne_B_J nin0))
    have f266 := ((Fld.other W177 f141 (Or.inl ne_B_J)).keep K253 (ninS ne_B_J nin0))
    have f267 := ((f142.other W177 ne_wd_J).keep K253 (ninS ne_wd_J nin0))
    have f268 : n0 ≤ h259.size := (Nat.le_trans f251 K253.1)
    refine Cm C S262 hP1 hP2 hw 190 191 193 193 192 194 131 (own_bg40 l Z a0 hw G1 G3 B _ _ _ 1 125 h259 n0 f268 f263 f264 f265 f266 f267 HS (Or.inr ⟨rfl, rfl, rfl⟩)) 0 f264 [.int 0] [] Dn ?_
    rintro T270 h271 v272 L273 S274 ⟨⟨rfl, e269⟩, -⟩
    rw [e269] at S274; clear e269
    refine Ac C S274 [(17, .istore 4, 2), (19, .aload_n 0, 1), (20, .bipush 44, 2)] 22 #[Ab J, Ab B, Aa 4, Aa 1, Aa 1] [.int 44, .ref J] ?_
    have f275 := (f247.keep K253)
    have f276 := (f248.keep K253 (ninS ne_x_J nin0))
    have f277 := (f249.keep K253 (ninS ne_x_J nin0))
    have f278 := (f250.keep K253 (ninS ne_t_J nin0))
    refine An C S274 hP1 hP2 hw 156 157 76 158 159 66 (Bf l Z a0 hw G1 G3 J _ _ _ _ _ _ cs y252 44 125 R h259 n0 f268 f263 f254 f256 f255 f275 f276 f277 f278 HS hrep p257) 0 f254 [.int 44] [] Av ?_
    rintro T282 h283 v284 L285 S286 ⟨⟨y279, rfl, e280, p281⟩, -⟩
    rw [e280] at S286; clear e280
    have hr287 : y279 = (0 : Int32) := Bl.zero p281 (by decide)
    subst hr287
    refine Ac C S286 [(25, .ifCond .eq 24, 3), (49, .aload_n 0, 1), (50, .iload 4, 2), (52, .ifCond .eq 8, 3), (55, .bipush 125, 2), (57, .goto 5, 3)] 62 #[Ab J, Ab B, Aa 4, Aa 1, Aa 1] [.int 125, .ref J] ?_
    refine An C S286 hP1 hP2 hw 156 157 76 158 159 66 (Bf l Z a0 hw G1 G3 J _ _ _ _ _ _ cs y252 125 125 R h259 n0 f268 f263 f254 f256 f255 f275 f276 f277 f278 HS hrep p257) 0 f254 [.int 125] [] Av ?_
    rintro T291 h292 v293 L294 S295 ⟨⟨y288, rfl, e289, p290⟩, -⟩
    rw [e289] at S295; clear e289
    have hr296 : y288 = (1 : Int32) := Bl.one p290 rfl
    subst hr296
    refine Ac C S295 [(65, .ifCond .ne 20, 3), (85, .aload_n 0, 1), (86, .dup, 1)] 87 #[Ab J, Ab B, Aa 4, Aa 1, Aa 1] [.ref J, .ref J] ?_
    refine Ah C S295 hw 91 f255 ?_
    intro T297 S298
    refine Ac C S298 [(90, .iconst 1, 1), (91, .iadd, 1)] 92 #[Ab J, Ab B, Aa 4, Aa 1, Aa 1] [.int ((Int32.ofNat y252) + (1 : Int32)), .ref J] ?_
    rw [show ((Int32.ofNat y252) + (1 : Int32)) = (Int32.ofNat (y252 + 1)) from Af _]
    refine Bh C S298 hw 91 92 76 f255 f254 Ax ge_J ?_
    intro T299 h301 S300 W302
    have f303 : Fld Z h301 J "com/example/limit1/limit1/JsonText" "position" "I" (.int (Int32.ofNat (y252 + 1))) := Fld.same W302 f255
    have hat304 := (Ae.hd p257).2.2
    refine Ac C S300 [(95, .iinc 3 (-1), 3), (98, .goto (-96), 3), (2, .iload_n 3, 1), (3, .ifCond .le 98, 3), (101, .iconst 0, 1)] 102 #[Ab J, Ab B, Aa 4, Aa 0, Aa 1] [.int 0] ?_
    have SW305 := rb4 _ _ 0 0 [J] [] S300 (((((((((Keep.refl _ _).trans K6 (allS (Ad 0) all0)).wr W55 (Ad 0)).trans K67 (allS (Ad 0) all0)).wr W116 (Ad 0)).trans K128 (allS (Ad 0) all0)).wr W177 (Ad 0)).trans K253 (allS (Ad 0) all0)).wr W302 (Ad 0)) (allS (As 0) all0) all0
    refine Eb CW SW305 hF (by decide +kernel) (by decide) (by decide) ?_
    have f306 := (Exa.wr W302 f254)
    have f307 := (Fld.other W302 f256 (Or.inr (Bb hw)))
    exact ⟨(y252 + 1), rfl, (((((((((Keep.refl _ _).trans K6 (allS (Ad 0) all0)).wr W55 (Ad 0)).trans K67 (allS (Ad 0) all0)).wr W116 (Ad 0)).trans K128 (allS (Ad 0) all0)).wr W177 (Ad 0)).trans K253 (allS (Ad 0) all0)).wr W302 (Ad 0)), f306, f303, f307, hat304⟩
theorem own_ccm (hw : Ar a0 Z) (hEL : EW Z a0 Br) (wS : ∀ a ∈ Bundle.stringAtoms, a.before a0 Z = true) (G1 : Int32) (G3 : Value) (J : Addr) (x : Addr) (t : Addr) (tk : ClassId) (kd : Int32) (N : Int32) (vs : List Value) (cs : List Int32) (pp : Nat) (B : Addr) (wd : Addr) (wk : ClassId) (W : Int64) (o : Int32) (cl : Int32) (R : List Int32) (h0 : Heap) (n0 : Nat) (z0 : n0 ≤ h0.size) (ge_J : n0 ≤ J) (X00 : Old Z n0 h0) (JE : Exa Z h0 J "com/example/limit1/limit1/JsonText") (JX : Fld Z h0 J "com/example/limit1/limit1/JsonText" "text" "Ljava/lang/String;" (.ref x)) (JP : Fld Z h0 J "com/example/limit1/limit1/JsonText" "position" "I" (.int (Int32.ofNat pp))) (xE : Exa Z h0 x "java/lang/String") (xV : Fld Z h0 x "java/lang/String" "value" "[B" (.ref t)) (xC : Fld Z h0 x "java/lang/String" "coder" "B" (.int kd)) (tK : Arv Z h0 t tk .byte N vs (.int 0)) (b0 : Exa Z h0 B "java/util/BitSet") (b1 : Fld Z h0 B "java/util/BitSet" "words" "[J" (.ref wd)) (b2 : Fld Z h0 B "java/util/BitSet" "wordsInUse" "I" (.int 1)) (b3 : Arv Z h0 wd wk .long (1 : Int32) ([(.long W)]) (.long (0 : Int64))) (ne_x_J : x ≠ J) (ne_t_J : t ≠ J) (ne_B_J : B ≠ J) (ne_wd_J : wd ≠ J) (HS : Bg Z G1 G3) (hrep : Bx cs kd N vs) (hat : Ae cs pp (44 :: (34 :: (34 :: (58 :: R))))) (hst : Fk W o cl) :
    Co l Z Br Cw (⟨"com/example/limit1/limit1/JsonText", "closeContainers", "(Ljava/util/BitSet;I)I"⟩ : MethodName) prog_7_method_5_code 5 (some .int) 9 2 36 121 0 0 n0 #[(.ref J), (.ref B), (.int 3)] h0 [] (fun v h => ∃ q : Nat, v = some (.int 3) ∧ Keep h0 h [J] ∧ Exa Z h J "com/example/limit1/limit1/JsonText" ∧ Fld Z h J "com/example/limit1/limit1/JsonText" "position" "I" (.int (Int32.ofNat q)) ∧ Fld Z h J "com/example/limit1/limit1/JsonText" "text" "Ljava/lang/String;" (.ref x) ∧ (Ae cs q R)) := by
  refine Eh hEL wS #[.val (.ref J), .val (.ref B), .val (.int 3), .unset, .unset] ?_
  intro fC fS P1 P2 p e s m below meth c T0 CW hF hP1 hP2 SW0
  have SW1 : Bz p l e ({ frames := 9, cells := P1 + 2, slots := P2 + 36, locals := 121 } : Room) s m #[(.ref J), (.ref B), (.int 3)] below meth c n0 Z Br fC fS "com/example/limit1/limit1/JsonText" T0 h0 [J] 0 0 := SW0.addE JE (by decide) (by decide)
  refine Ai CW SW1 ?_
  intro vm2 C S3 rb4
  refine Ac C S3 [(0, .iload_n 2, 1), (1, .istore_n 3, 1), (2, .iload_n 3, 1), (3, .ifCond .le 98, 3), (6, .aload_n 0, 1)] 7 #[Ab J, Ab B, Aa 3, Aa 3, .unset] [.ref J] ?_
  refine An C S3 hP1 hP2 hw 87 88 76 89 90 66 (Bo l Z a0 hw G1 G3 J _ _ _ _ _ _ cs pp [] (44 :: (34 :: (34 :: (58 :: R)))) h0 n0 z0 ge_J X00 JE JX JP xE xV xC tK ne_x_J ne_t_J HS hrep hat (fun _ q => nomatch q) (Bn (by unfold Aw; decide))) 0 JE [] [] At ?_
  rintro T11 h12 v13 L14 S15 ⟨⟨y5, rfl, K6, f7, f8, f9, p10⟩, -⟩
  refine Ac C S15 [(10, .aload_n 1, 1), (11, .iload_n 3, 1), (12, .iconst 1, 1), (13, .isub, 1)] 14 #[Ab J, Ab B, Aa 3, Aa 3, .unset] [.int 2, .ref B] ?_
  have f16 := (X00.keep K6 (allS ge_J all0))
  have f17 := (b0.keep K6)
  have f18 := (b1.keep K6 (ninS ne_B_J nin0))
  have f19 := (b2.keep K6 (ninS ne_B_J nin0))
  have f20 := (b3.keep K6 (ninS ne_wd_J nin0))
  have f21 : n0 ≤ h12.size := (Nat.le_trans z0 K6.1)
  refine Cm C S15 hP1 hP2 hw 190 191 193 193 192 194 131 (own_bg42 l Z a0 hw G1 G3 B _ _ _ o cl h12 n0 f21 f16 f17 f18 f19 f20 HS hst) 0 f17 [.int 2] [] Dn ?_
  rintro T23 h24 v25 L26 S27 ⟨⟨rfl, e22⟩, -⟩
  rw [e22] at S27; clear e22
  refine Ac C S27 [(17, .istore 4, 2), (19, .aload_n 0, 1), (20, .bipush 44, 2)] 22 #[Ab J, Ab B, Aa 3, Aa 3, Aa 1] [.int 44, .ref J] ?_
  have f28 := (xE.keep K6)
  have f29 := (xV.keep K6 (ninS ne_x_J nin0))
  have f30 := (xC.keep K6 (ninS ne_x_J nin0))
  have f31 := (tK.keep K6 (ninS ne_t_J nin0))
  refine An C S27 hP1 hP2 hw 156 157 76 158 159 66 (Bf l Z a0 hw G1 G3 J _ _ _ _ _ _ cs y5 44 44 (34 :: (34 :: (58 :: R))) h12 n0 f21 f16 f7 f9 f8 f28 f29 f30 f31 HS hrep p10) 0 f7 [.int 44] [] Av ?_
  rintro T35 h36 v37 L38 S39 ⟨⟨y32, rfl, e33, p34⟩, -⟩
  rw [e33] at S39; clear e33
  have hr40 : y32 = (1 : Int32) := Bl.one p34 rfl
  subst hr40
  refine Ac C S39 [(25, .ifCond .eq 24, 3), (28, .aload_n 0, 1), (29, .dup, 1)] 30 #[Ab J, Ab B, Aa 3, Aa 3, Aa 1] [.ref J, .ref J] ?_
  refine Ah C S39 hw 91 f8 ?_
  intro T41 S42
  refine Ac C S42 [(33, .iconst 1, 1), (34, .iadd, 1)] 35 #[Ab J, Ab B, Aa 3, Aa 3, Aa 1] [.int ((Int32.ofNat y5) + (1 : Int32)), .ref J] ?_
  rw [show ((Int32.ofNat y5) + (1 : Int32)) = (Int32.ofNat (y5 + 1)) from Af _]
  refine Bh C S42 hw 91 92 76 f8 f7 Ax ge_J ?_
  intro T43 h45 S44 W46
  have f47 : Fld Z h45 J "com/example/limit1/limit1/JsonText" "position" "I" (.int (Int32.ofNat (y5 + 1))) := Fld.same W46 f8
  have hat48 := (Ae.hd p10).2.2
  refine Ac C S44 [(38, .iload 4, 2), (40, .ifCond .eq 7, 3), (43, .aload_n 0, 1)] 44 #[Ab J, Ab B, Aa 3, Aa 3, Aa 1] [.ref J] ?_
  have f49 := (f16.wr W46 ge_J)
  have f50 := (Exa.wr W46 f7)
  have f51 := (Fld.other W46 f9 (Or.inr (Bb hw)))
  have f52 := (Exa.wr W46 f28)
  have f53 := (Fld.other W46 f29 (Or.inl ne_x_J))
  have f54 := (Fld.other W46 f30 (Or.inl ne_x_J))
  have f55 := (f31.other W46 ne_t_J)
  have f56 : n0 ≤ h45.size := (by rw [W46.size]; exact f21)
  have SW68 := rb4 _ _ 0 0 [J] [] S44 (((Keep.refl _ _).trans K6 (allS (Ad 0) all0)).wr W46 (Ad 0)) (allS (As 0) all0) all0
  refine Cu CW SW68 hF hP1 hP2 hw 298 299 76 300 301 66 (own_cmn l Z a0 hw hEL wS G1 G3 J _ _ _ _ _ _ cs (y5 + 1) [] [] [] R h45 n0 f56 ge_J f49 f50 f51 f47 f52 f53 f54 f55 ne_x_J ne_t_J HS hrep hat48 (fun _ q => nomatch q) own_B0 (fun _ q => nomatch q)) 0 f50 [] [] At ?_
  rintro T69 h70 v71 SW72 hg73 ⟨y57, rfl, K58, f59, f60, f61, p62⟩
  refine Ai CW SW72 ?_
  intro vm74 C S75 rb76
  refine Ac C S75 [(47, .iload_n 3, 1)] 48 #[Ab J, Ab B, Aa 3, Aa 3, Aa 1] [.int 3] ?_
  have SW77 := rb76 _ _ 0 0 [] [] S75 (Keep.refl _ _) all0 all0
  refine Eb CW SW77 hF (by decide +kernel) (by decide) (by decide) ?_
  exact ⟨y57, rfl, ((((Keep.refl _ _).trans K6 (allS (Ad 0) all0)).wr W46 (Ad 0)).trans K58 (allS (Ad 0) all0)), f59, f60, f61, p62⟩
theorem Ep : parseMethodDescriptor "(IZ)V" = some ⟨[.int, .boolean], none⟩ := by decide +kernel
theorem Ey : parseMethodDescriptor "(C)V" = some ⟨[.char], none⟩ := by decide +kernel
theorem Dy : parseMethodDescriptor "(Ljava/util/BitSet;I)I" = some ⟨[(.object "java/util/BitSet"), .int], (some .int)⟩ := by decide +kernel
theorem own_cvl (hw : Ar a0 Z) (hEL : EW Z a0 Br) (wS : ∀ a ∈ Bundle.stringAtoms, a.before a0 Z = true) (G1 : Int32) (G3 : Value) (J : Addr) (x : Addr) (t : Addr) (tk : ClassId) (kd : Int32) (N : Int32) (vs : List Value) (cs : List Int32) (pp : Nat) (S : List Int32) (R : List Int32) (h0 : Heap) (n0 : Nat) (z0 : n0 ≤ h0.size) (ge_J : n0 ≤ J) (X00 : Old Z n0 h0) (JE : Exa Z h0 J "com/example/limit1/limit1/JsonText") (JX : Fld Z h0 J "com/example/limit1/limit1/JsonText" "text" "Ljava/lang/String;" (.ref x)) (JP : Fld Z h0 J "com/example/limit1/limit1/JsonText" "position" "I" (.int (Int32.ofNat pp))) (xE : Exa Z h0 x "java/lang/String") (xV : Fld Z h0 x "java/lang/String" "value" "[B" (.ref t)) (xC : Fld Z h0 x "java/lang/String" "coder" "B" (.int kd)) (tK : Arv Z h0 t tk .byte N vs (.int 0)) (ne_x_J : x ≠ J) (ne_t_J : t ≠ J) (HS : Bg Z G1 G3) (hrep : Bx cs kd N vs) (hat : Ae cs pp S) (hV : Ek S R) :
    Co l Z Br Cw (⟨"com/example/limit1/limit1/JsonText", "checkValue", "()V"⟩ : MethodName) prog_7_method_4_code 5 none 10 4 40 137 2 4 n0 #[(.ref J)] h0 [] (fun v h => ∃ q : Nat, v = none ∧ Keep h0 h [J] ∧ Exa Z h J "com/example/limit1/limit1/JsonText" ∧ Fld Z h J "com/example/limit1/limit1/JsonText" "position" "I" (.int (Int32.ofNat q)) ∧ Fld Z h J "com/example/limit1/limit1/JsonText" "text" "Ljava/lang/String;" (.ref x) ∧ (Ae cs q R)) := by
  refine Eh hEL wS #[.val (.ref J), .unset, .unset, .unset, .unset] ?_
  intro fC fS P1 P2 p e s m below meth c T0 CW hF hP1 hP2 SW0
  obtain ⟨O2, O4, P5, rG3, OA, OH, OL, OB⟩ := id HS
  have SW1 : Bz p l e ({ frames := 10, cells := P1 + 4, slots := P2 + 40, locals := 137 } : Room) s m #[(.ref J)] below meth c n0 Z Br fC fS "com/example/limit1/limit1/JsonText" T0 h0 [J] 0 0 := SW0.addE JE (by decide) (by decide)
  refine Ai CW SW1 ?_
  intro vm2 C S3 rb4
  refine own_new C S3 (ow hw 129 rfl) (ow hw 130 rfl) (ow hw 131 rfl) (by decide +kernel) (Eg (a := 1) hP1 (by decide)) (Eg (a := 3) hP2 (by decide)) ?_
  intro T5 h7 a8 S6 g9 E10 x11 D12
  have f13 : Fld Z h7 a8 "java/util/BitSet" "wordsInUse" "I" (.int 0) := D12 (ty := .int) (Or.inl (ow hw 137 rfl)) Ax
  have f14 : Fld Z h7 a8 "java/util/BitSet" "sizeIsSticky" "Z" (.int 0) := D12 (ty := .boolean) (Or.inl (ow hw 139 rfl)) Ff
  have f15 : Fld Z h7 a8 "java/util/BitSet" "words" "[J" .null := D12 (ty := (.array .long)) (Or.inl (ow hw 150 rfl)) Fv
  refine Ac C S6 [(3, .dup, 1)] 4 #[Ab J, .unset, .unset, .unset, .unset] [.ref a8, .ref a8] ?_
  have f16 : n0 ≤ h7.size := (Nat.le_trans z0 E10.1)
  have g17 : n0 ≤ a8 := by rw [g9]; exact z0
  refine Fp C S6 rfl (ow hw 132 rfl) (ow hw 133 rfl) (ow hw 134 rfl) (by decide) (Ag.pay (own_bin l Z a0 hw a8 h7 n0 f16 g17 x11 f15 f13 f14) C 1 (ow hw 134 rfl) (ow hw 131 rfl) (Bw rfl) (Bw rfl)) (fun _ _ _ q => q.2) [] [.ref a8] rfl At rfl rfl rfl (Bw rfl) (Eg (a := 2) hP1 (by decide)) (Eg (a := 4) hP2 (by decide)) (by decide +kernel) ?_
  rintro T26 h27 v28 L29 S30 ⟨⟨a18, k19, rfl, g20, K21, f22, f23, f24, f25⟩, -⟩
  have n31 : J ≠ a8 := by rw [g9]; exact Nat.ne_of_lt JE.lt
  have n32 : x ≠ a8 := by rw [g9]; exact Nat.ne_of_lt xE.lt
  have n33 : t ≠ a8 := by rw [g9]; exact Nat.ne_of_lt tK.lt
  have g34 : n0 ≤ a18 := Nat.le_trans f16 g20
  have f35 : J < h7.size := (Nat.lt_of_lt_of_le JE.lt E10.1)
  have n36 : J ≠ a18 := Nat.ne_of_lt (Nat.lt_of_lt_of_le f35 g20)
  have f37 : x < h7.size := (Nat.lt_of_lt_of_le xE.lt E10.1)
  have n38 : x ≠ a18 := Nat.ne_of_lt (Nat.lt_of_lt_of_le f37 g20)
  have f39 : t < h7.size := (Nat.lt_of_lt_of_le tK.lt E10.1)
  have n40 : t ≠ a18 := Nat.ne_of_lt (Nat.lt_of_lt_of_le f39 g20)
  have n41 : a8 ≠ a18 := Nat.ne_of_lt (Nat.lt_of_lt_of_le f13.lt g20)
  have o42 : h0.size ≤ a8 := by rw [g9]; exact (Nat.le_refl _)
  have o44 : h0.size ≤ h7.size := (Nat.le_trans (Nat.le_refl _) E10.1)
  have o43 : h0.size ≤ a18 := Nat.le_trans o44 g20
  have f45 : a8 < h27.size := (Nat.lt_of_lt_of_le f13.lt K21.1)
  have SW46 := rb4 _ _ 2 4 [] [a8, a18] S30 (((Keep.refl _ _).ext E10).trans K21 (allS (Or.inr o42) all0)) all0 (allS ⟨o42, f45⟩ (allS ⟨o43, f25.lt⟩ all0))
  have f47 := (x11.keep K21)
  have JN : ∀ (T49 : State) (h48 : Heap) (p1 : Nat) (S1 : List Int32) (u : Int32) (W : Int64) (o : Int32) (cl : Int32) (y3 : Int32) (y4 : Int32), Bz p l e ({ frames := 10, cells := P1 + 4, slots := P2 + 40, locals := 137 } : Room) s m #[(.ref J)] below meth c n0 Z Br fC fS "com/example/limit1/limit1/JsonText" T49 h48 [a8, a18, J] 2 4 → Keep h0 h48 [J] → Fld Z h48 J "com/example/limit1/limit1/JsonText" "text" "Ljava/lang/String;" (.ref x) → Fld Z h48 J "com/example/limit1/limit1/JsonText" "position" "I" (.int (Int32.ofNat p1)) → Exa Z h48 a8 "java/util/BitSet" → Fld Z h48 a8 "java/util/BitSet" "words" "[J" (.ref a18) → Fld Z h48 a8 "java/util/BitSet" "wordsInUse" "I" (.int u) → Arv Z h48 a18 k19 .long (1 : Int32) ([(.long W)]) (.long (0 : Int64)) → (Ae cs p1 (91 :: S1)) → (Fz u W o cl) → (own_Arr S1 (cl :: R)) → Aj p e below (Dj s n0 Z Br Cw (fun v h => ∃ q : Nat, v = none ∧ Keep h0 h [J] ∧ Exa Z h J "com/example/limit1/limit1/JsonText" ∧ Fld Z h J "com/example/limit1/limit1/JsonText" "position" "I" (.int (Int32.ofNat q)) ∧ Fld Z h J "com/example/limit1/limit1/JsonText" "text" "Ljava/lang/String;" (.ref x) ∧ (Ae cs q R)) 2 4) T49 (mkF m 10 #[Ab J, Ab a8, Aa 1, Aa y3, Aa y4] []) := by
    intro T49 h48 p1 S1 u W o cl y3 y4 S50 K51 JX1 JP1 bx0 bx1 bx2 bx3 hat1 hst hA
    obtain ⟨kc, S2, S3, S4, h1, hkc, h2, h3, hC⟩ := hA
    obtain ⟨k1, r1, hS1, hw1, -, -, h93⟩ := Df.hd h1
    have hat52 : Ae cs p1 (91 :: (k1 :: r1)) := by rw [← hS1]; exact hat1
    refine Ai CW S50 ?_
    intro vm53 C S54 rb55
    refine Ac C S54 [(10, .aload_n 0, 1)] 11 #[Ab J, Ab a8, Aa 1, Aa y3, Aa y4] [.ref J] ?_
    have f56 := (X00.keep K51 (allS ge_J all0))
    have f57 := (JE.keep K51)
    have f58 := (xE.keep K51)
    have f59 := (xV.keep K51 (ninS ne_x_J nin0))
    have f60 := (xC.keep K51 (ninS ne_x_J nin0))
    have f61 := (tK.keep K51 (ninS ne_t_J nin0))
    have f62 : n0 ≤ h48.size := (Nat.le_trans z0 K51.1)
    refine An C S54 hP1 hP2 hw 87 88 76 89 90 66 (Bo l Z a0 hw G1 G3 J _ _ _ _ _ _ cs p1 [] (91 :: (([] : List Int32) ++ k1 :: r1)) h48 n0 f62 ge_J f56 f57 JX1 JP1 f58 f59 f60 f61 ne_x_J ne_t_J HS hrep hat52 (fun _ q => nomatch q) (Bn (by unfold Aw; decide))) 0 f57 [] [] At ?_
    rintro T69 h70 v71 L72 S73 ⟨⟨y63, rfl, K64, f65, f66, f67, p68⟩, -⟩
    refine Ac C S73 [(14, .aload_n 0, 1)] 15 #[Ab J, Ab a8, Aa 1, Aa y3, Aa y4] [.ref J] ?_
    have SW74 := rb55 _ _ 2 4 [J] [] S73 ((Keep.refl _ _).trans K64 (allS (Ad 0) all0)) (allS (As 2) all0) all0
    refine Cv CW SW74 hF hP1 hP2 hw 151 1 28 ?_
    intro T75 h76 a77 SW78 E79
    have f80 := ((f56.keep K64 (allS ge_J all0)).ext E79)
    have f81 := (Exa.ext E79 f65)
    have f82 := (Fld.ext E79 f67)
    have f83 := (Fld.ext E79 f66)
    have f84 := (Exa.ext E79 (f58.keep K64))
    have f85 := (Fld.ext E79 (f59.keep K64 (ninS ne_x_J nin0)))
    have f86 := (Fld.ext E79 (f60.keep K64 (ninS ne_x_J nin0)))
    have f87 := ((f61.keep K64 (ninS ne_t_J nin0)).ext E79)
    have f88 : n0 ≤ h76.size := (Nat.le_trans (Nat.le_trans f62 K64.1) E79.1)
    refine Ai CW SW78 ?_
    intro vm95 C S96 rb97
    refine An C S96 hP1 hP2 hw 152 153 76 154 155 66 (Cf l Z a0 hw G1 G3 J _ _ _ _ _ _ cs y63 a77 91 (([] : List Int32) ++ k1 :: r1) h76 n0 f88 f80 f81 f82 f83 f84 f85 f86 f87 HS hrep p68) 0 f81 [.ref a77] [] Cg ?_
    rintro T90 h91 v92 L93 S94 ⟨⟨rfl, e89⟩, -⟩
    rw [e89] at S94; clear e89
    refine Ac C S94 [(20, .istore_n 3, 1), (21, .iload_n 3, 1), (22, .bipush 123, 2), (24, .if_icmp .eq 9, 3), (27, .iload_n 3, 1), (28, .bipush 91, 2), (30, .if_icmp .ne 84, 3), (33, .iload_n 3, 1), (34, .bipush 123, 2), (36, .if_icmp .ne 7, 3), (43, .iconst 0, 1), (44, .istore 4, 2), (46, .aload_n 0, 1), (47, .dup, 1)] 48 #[Ab J, Ab a8, Aa 1, Aa 91, Aa 0] [.ref J, .ref J] ?_
    refine Ah C S94 hw 91 f83 ?_
    intro T98 S99
    refine Ac C S99 [(51, .iconst 1, 1), (52, .iadd, 1)] 53 #[Ab J, Ab a8, Aa 1, Aa 91, Aa 0] [.int ((Int32.ofNat y63) + (1 : Int32)), .ref J] ?_
    rw [show ((Int32.ofNat y63) + (1 : Int32)) = (Int32.ofNat (y63 + 1)) from Af _]
    refine Bh C S99 hw 91 92 76 f83 f81 Ax ge_J ?_
    intro T100 h102 S101 W103
    have f104 : Fld Z h102 J "com/example/limit1/limit1/JsonText" "position" "I" (.int (Int32.ofNat (y63 + 1))) := Fld.same W103 f83
    have hat105 := (Ae.hd p68).2.2
    refine Ac C S101 [(56, .aload_n 0, 1)] 57 #[Ab J, Ab a8, Aa 1, Aa 91, Aa 0] [.ref J] ?_
    have f106 := (f80.wr W103 ge_J)
    have f107 := (Exa.wr W103 f81)
    have f108 := (Fld.other W103 f82 (Or.inr (Bb hw)))
    have f109 := (Exa.wr W103 f84)
    have f110 := (Fld.other W103 f85 (Or.inl ne_x_J))
    have f111 := (Fld.other W103 f86 (Or.inl ne_x_J))
    have f112 := (f87.other W103 ne_t_J)
    have f113 : n0 ≤ h102.size := (by rw [W103.size]; exact f88)
    refine An C S101 hP1 hP2 hw 87 88 76 89 90 66 (Bo l Z a0 hw G1 G3 J _ _ _ _ _ _ cs (y63 + 1) [] (k1 :: r1) h102 n0 f113 ge_J f106 f107 f108 f104 f109 f110 f111 f112 ne_x_J ne_t_J HS hrep hat105 (fun _ q => nomatch q) (Bn hw1)) 0 f107 [] [] At ?_
    rintro T120 h121 v122 L123 S124 ⟨⟨y114, rfl, K115, f116, f117, f118, p119⟩, -⟩
    refine Ac C S124 [(60, .aload_n 0, 1), (61, .iload 4, 2), (63, .ifCond .eq 8, 3), (71, .bipush 93, 2)] 73 #[Ab J, Ab a8, Aa 1, Aa 91, Aa 0] [.int 93, .ref J] ?_
    have f125 := (f106.keep K115 (allS ge_J all0))
    have f126 := (f109.keep K115)
    have f127 := (f110.keep K115 (ninS ne_x_J nin0))
    have f128 := (f111.keep K115 (ninS ne_x_J nin0))
    have f129 := (f112.keep K115 (ninS ne_t_J nin0))
    have f130 : n0 ≤ h121.size := (Nat.le_trans f113 K115.1)
    refine An C S124 hP1 hP2 hw 156 157 76 158 159 66 (Bf l Z a0 hw G1 G3 J _ _ _ _ _ _ cs y114 93 k1 r1 h121 n0 f130 f125 f116 f118 f117 f126 f127 f128 f129 HS hrep p119) 0 f116 [.int 93] [] Av ?_
    rintro T134 h135 v136 L137 S138 ⟨⟨y131, rfl, e132, p133⟩, -⟩
    rw [e132] at S138; clear e132
    have hr139 : y131 = (0 : Int32) := Bl.zero p133 h93
    subst hr139
    refine Ac C S138 [(76, .ifCond .ne 25, 3), (79, .aload_n 1, 1), (80, .iload_n 2, 1), (81, .iload 4, 2)] 83 #[Ab J, Ab a8, Aa 1, Aa 91, Aa 0] [.int 0, .int 1, .ref a8] ?_
    have f140 := ((Exa.wr W103 (Exa.ext E79 (bx0.keep K64))).keep K115)
    have f141 := ((Fld.other W103 (Fld.ext E79 (bx1.keep K64 (ninS (Ne.symm n31) nin0))) (Or.inl (Ne.symm n31))).keep K115 (ninS (Ne.symm n31) nin0))
    have f142 := ((Fld.other W103 (Fld.ext E79 (bx2.keep K64 (ninS (Ne.symm n31) nin0))) (Or.inl (Ne.symm n31))).keep K115 (ninS (Ne.symm n31) nin0))
    have f143 := ((((bx3.keep K64 (ninS (Ne.symm n36) nin0)).ext E79).other W103 (Ne.symm n36)).keep K115 (ninS (Ne.symm n36) nin0))
    refine Cm C S138 hP1 hP2 hw 160 161 163 163 162 164 131 (own_bz110 l Z a0 hw G1 G3 a8 _ _ _ _ o cl h121 n0 f130 g17 g34 f125 f140 f141 f142 f143 (Ne.symm n41) HS hst) 0 f140 [.int 1, .int 0] [] Ep ?_
    rintro T149 h150 v151 L152 S153 ⟨⟨rfl, K144, f145, f146, f147, f148⟩, -⟩
    have hat154 : Ae cs y114 S1 := by rw [hS1]; exact p119
    refine Ac C S153 [(86, .iinc 2 1, 3), (89, .iload 4, 2), (91, .ifCond .eq (-81), 3)] 10 #[Ab J, Ab a8, Aa 2, Aa 91, Aa 0] [] ?_
    obtain ⟨k155, r156, hS157, hw158, hn159, hn160, hn161⟩ := Df.hd h1
    have hat162 : Ae cs y114 (([] : List Int32) ++ k155 :: r156) := by rw [← hS157]; exact hat154
    refine Ac C S153 [(10, .aload_n 0, 1)] 11 #[Ab J, Ab a8, Aa 2, Aa 91, Aa 0] [.ref J] ?_
    have f163 := (f125.keep K144 (allS g17 (allS g34 all0)))
    have f164 := (f116.keep K144)
    have f165 := (f118.keep K144 (ninS n31 (ninS n36 nin0)))
    have f166 := (f117.keep K144 (ninS n31 (ninS n36 nin0)))
    have f167 := (f126.keep K144)
    have f168 := (f127.keep K144 (ninS n32 (ninS n38 nin0)))
    have f169 := (f128.keep K144 (ninS n32 (ninS n38 nin0)))
    have f170 := (f129.keep K144 (ninS n33 (ninS n40 nin0)))
    have f171 : n0 ≤ h150.size := (Nat.le_trans f130 K144.1)
    refine An C S153 hP1 hP2 hw 87 88 76 89 90 66 (Bo l Z a0 hw G1 G3 J _ _ _ _ _ _ cs y114 [] (k155 :: r156) h150 n0 f171 ge_J f163 f164 f165 f166 f167 f168 f169 f170 ne_x_J ne_t_J HS hrep hat162 (fun _ q => nomatch q) (Bn hw158)) 0 f164 [] [] At ?_
    rintro T178 h179 v180 L181 S182 ⟨⟨y172, rfl, K173, f174, f175, f176, p177⟩, -⟩
    refine Ac C S182 [(14, .aload_n 0, 1)] 15 #[Ab J, Ab a8, Aa 2, Aa 91, Aa 0] [.ref J] ?_
    have SW183 := rb97 _ _ 2 4 [J, a8, a18] [] S182 (((((Keep.refl _ _).wr W103 (Ad 0)).trans K115 (allS (Ad 0) all0)).trans K144 (allS (Ad 1) (allS (Ad 2) all0))).trans K173 (allS (Ad 0) all0)) (allS (As 2) (allS (As 0) (allS (As 1) all0))) all0
    refine Cv CW SW183 hF hP1 hP2 hw 151 1 28 ?_
    intro T184 h185 a186 SW187 E188
    have f189 := ((f163.keep K173 (allS ge_J all0)).ext E188)
    have f190 := (Exa.ext E188 f174)
    have f191 := (Fld.ext E188 f176)
    have f192 := (Fld.ext E188 f175)
    have f193 := (Exa.ext E188 (f167.keep K173))
    have f194 := (Fld.ext E188 (f168.keep K173 (ninS ne_x_J nin0)))
    have f195 := (Fld.ext E188 (f169.keep K173 (ninS ne_x_J nin0)))
    have f196 := ((f170.keep K173 (ninS ne_t_J nin0)).ext E188)
    have f197 : n0 ≤ h185.size := (Nat.le_trans (Nat.le_trans f171 K173.1) E188.1)
    refine Ai CW SW187 ?_
    intro vm204 C S205 rb206
    refine An C S205 hP1 hP2 hw 152 153 76 154 155 66 (Cf l Z a0 hw G1 G3 J _ _ _ _ _ _ cs y172 a186 k155 r156 h185 n0 f197 f189 f190 f191 f192 f193 f194 f195 f196 HS hrep p177) 0 f190 [.ref a186] [] Cg ?_
    rintro T199 h200 v201 L202 S203 ⟨⟨rfl, e198⟩, -⟩
    rw [e198] at S203; clear e198
    refine Ac C S203 [(20, .istore_n 3, 1), (21, .iload_n 3, 1), (22, .bipush 123, 2)] 24 #[Ab J, Ab a8, Aa 2, Aa k155, Aa 0] [.int 123, .int k155] ?_
    refine Ao C S203 .eq 9 33 (fun (hq : k155 = (123 : Int32)) => False.elim (hn159 hq)) (fun (q207 : ¬ k155 = (123 : Int32)) => ?_)
    refine Ac C S203 [(27, .iload_n 3, 1), (28, .bipush 91, 2)] 30 #[Ab J, Ab a8, Aa 2, Aa k155, Aa 0] [.int 91, .int k155] ?_
    refine Ao C S203 .ne 84 114 (fun (q208 : ¬ k155 = (91 : Int32)) => ?_) (fun (hq : k155 = (91 : Int32)) => False.elim (hn160 hq))
    have hat209 : Ae cs y172 S1 := by rw [hS157]; exact p177
    refine Ac C S203 [(114, .aload_n 0, 1), (115, .iload_n 3, 1)] 116 #[Ab J, Ab a8, Aa 2, Aa k155, Aa 0] [.int k155, .ref J] ?_
    have SW221 := rb206 _ _ 2 4 [] [] S203 (Keep.refl _ _) all0 all0
    refine Cu CW SW221 hF hP1 hP2 hw 170 171 76 172 173 66 (Fu l Z a0 hw hEL wS G1 G3 J _ _ _ _ _ _ cs y172 k155 S1 (44 :: (kc :: S2)) r156 h185 n0 f197 ge_J f189 f190 f191 f192 f193 f194 f195 f196 ne_x_J ne_t_J HS hrep hat209 h1 hS157) 0 f190 [.int k155] [] Ey ?_
    rintro T222 h223 v224 SW225 hg226 ⟨y210, rfl, K211, f212, f213, f214, p215⟩
    refine Ai CW SW225 ?_
    intro vm227 C S228 rb229
    refine Ac C S228 [(119, .aload_n 0, 1), (120, .aload_n 1, 1), (121, .iload_n 2, 1)] 122 #[Ab J, Ab a8, Aa 2, Aa k155, Aa 0] [.int 2, .ref a8, .ref J] ?_
    have f230 := (f189.keep K211 (allS ge_J all0))
    have f231 := (f193.keep K211)
    have f232 := (f194.keep K211 (ninS ne_x_J nin0))
    have f233 := (f195.keep K211 (ninS ne_x_J nin0))
    have f234 := (f196.keep K211 (ninS ne_t_J nin0))
    have f235 := ((Exa.ext E188 (f145.keep K173)).keep K211)
    have f236 := ((Fld.ext E188 (f146.keep K173 (ninS (Ne.symm n31) nin0))).keep K211 (ninS (Ne.symm n31) nin0))
    have f237 := ((Fld.ext E188 (f147.keep K173 (ninS (Ne.symm n31) nin0))).keep K211 (ninS (Ne.symm n31) nin0))
    have f238 := (((f148.keep K173 (ninS (Ne.symm n36) nin0)).ext E188).keep K211 (ninS (Ne.symm n36) nin0))
    have f239 : n0 ≤ h223.size := (Nat.le_trans f197 K211.1)
    have SW251 := rb229 _ _ 2 4 [] [] S228 (Keep.refl _ _) all0 all0
    refine Cu CW SW251 hF hP1 hP2 hw 186 187 76 188 189 66 (own_ccc l Z a0 hw hEL wS G1 G3 J _ _ _ _ _ _ cs y210 a8 _ _ _ _ o cl (kc :: S2) h223 n0 f239 ge_J f230 f212 f214 f213 f231 f232 f233 f234 f235 f236 f237 f238 ne_x_J ne_t_J (Ne.symm n31) (Ne.symm n36) HS hrep p215 hst) 0 f212 [.ref a8, .int 2] [] Dy ?_
    rintro T252 h253 v254 SW255 hg256 ⟨y240, rfl, K241, f242, f243, f244, p245⟩
    refine Ai CW SW255 ?_
    intro vm257 C S258 rb259
    refine Ac C S258 [(125, .istore_n 2, 1), (126, .iload_n 2, 1), (127, .ifCond .ne 4, 3), (131, .goto (-121), 3)] 10 #[Ab J, Ab a8, Aa 2, Aa k155, Aa 0] [] ?_
    obtain ⟨k260, r261, hS262, hw263, hn264, hn265, hn266⟩ := Df.hd h2
    have hat267 : Ae cs y240 ([kc] ++ k260 :: r261) := by rw [← hS262]; exact p245
    refine Ac C S258 [(10, .aload_n 0, 1)] 11 #[Ab J, Ab a8, Aa 2, Aa k155, Aa 0] [.ref J] ?_
    have f268 := (f230.keep K241 (allS ge_J all0))
    have f269 := (f231.keep K241)
    have f270 := (f232.keep K241 (ninS ne_x_J nin0))
    have f271 := (f233.keep K241 (ninS ne_x_J nin0))
    have f272 := (f234.keep K241 (ninS ne_t_J nin0))
    have f273 : n0 ≤ h253.size := (Nat.le_trans f239 K241.1)
    refine An C S258 hP1 hP2 hw 87 88 76 89 90 66 (Bo l Z a0 hw G1 G3 J _ _ _ _ _ _ cs y240 ([kc]) (k260 :: r261) h253 n0 f273 ge_J f268 f242 f244 f243 f269 f270 f271 f272 ne_x_J ne_t_J HS hrep hat267 (Ga hkc) (Bn hw263)) 0 f242 [] [] At ?_
    rintro T280 h281 v282 L283 S284 ⟨⟨y274, rfl, K275, f276, f277, f278, p279⟩, -⟩
    refine Ac C S284 [(14, .aload_n 0, 1)] 15 #[Ab J, Ab a8, Aa 2, Aa k155, Aa 0] [.ref J] ?_
    have SW285 := rb259 _ _ 2 4 [J] [] S284 ((Keep.refl _ _).trans K275 (allS (Ad 0) all0)) (allS (As 2) all0) all0
    refine Cv CW SW285 hF hP1 hP2 hw 151 1 28 ?_
    intro T286 h287 a288 SW289 E290
    have f291 := ((f268.keep K275 (allS ge_J all0)).ext E290)
    have f292 := (Exa.ext E290 f276)
    have f293 := (Fld.ext E290 f278)
    have f294 := (Fld.ext E290 f277)
    have f295 := (Exa.ext E290 (f269.keep K275))
    have f296 := (Fld.ext E290 (f270.keep K275 (ninS ne_x_J nin0)))
    have f297 := (Fld.ext E290 (f271.keep K275 (ninS ne_x_J nin0)))
    have f298 := ((f272.keep K275 (ninS ne_t_J nin0)).ext E290)
    have f299 : n0 ≤ h287.size := (Nat.le_trans (Nat.le_trans f273 K275.1) E290.1)
    refine Ai CW SW289 ?_
    intro vm306 C S307 rb308
    refine An C S307 hP1 hP2 hw 152 153 76 154 155 66 (Cf l Z a0 hw G1 G3 J _ _ _ _ _ _ cs y274 a288 k260 r261 h287 n0 f299 f291 f292 f293 f294 f295 f296 f297 f298 HS hrep p279) 0 f292 [.ref a288] [] Cg ?_
    rintro T301 h302 v303 L304 S305 ⟨⟨rfl, e300⟩, -⟩
    rw [e300] at S305; clear e300
    refine Ac C S305 [(20, .istore_n 3, 1), (21, .iload_n 3, 1), (22, .bipush 123, 2)] 24 #[Ab J, Ab a8, Aa 2, Aa k260, Aa 0] [.int 123, .int k260] ?_
    refine Ao C S305 .eq 9 33 (fun (hq : k260 = (123 : Int32)) => False.elim (hn264 hq)) (fun (q309 : ¬ k260 = (123 : Int32)) => ?_)
    refine Ac C S305 [(27, .iload_n 3, 1), (28, .bipush 91, 2)] 30 #[Ab J, Ab a8, Aa 2, Aa k260, Aa 0] [.int 91, .int k260] ?_
    refine Ao C S305 .ne 84 114 (fun (q310 : ¬ k260 = (91 : Int32)) => ?_) (fun (hq : k260 = (91 : Int32)) => False.elim (hn265 hq))
    have hat311 : Ae cs y274 S2 := by rw [hS262]; exact p279
    refine Ac C S305 [(114, .aload_n 0, 1), (115, .iload_n 3, 1)] 116 #[Ab J, Ab a8, Aa 2, Aa k260, Aa 0] [.int k260, .ref J] ?_
    have SW323 := rb308 _ _ 2 4 [] [] S305 (Keep.refl _ _) all0 all0
    refine Cu CW SW323 hF hP1 hP2 hw 170 171 76 172 173 66 (Fu l Z a0 hw hEL wS G1 G3 J _ _ _ _ _ _ cs y274 k260 S2 (44 :: S3) r261 h287 n0 f299 ge_J f291 f292 f293 f294 f295 f296 f297 f298 ne_x_J ne_t_J HS hrep hat311 h2 hS262) 0 f292 [.int k260] [] Ey ?_
    rintro T324 h325 v326 SW327 hg328 ⟨y312, rfl, K313, f314, f315, f316, p317⟩
    refine Ai CW SW327 ?_
    intro vm329 C S330 rb331
    refine Ac C S330 [(119, .aload_n 0, 1), (120, .aload_n 1, 1), (121, .iload_n 2, 1)] 122 #[Ab J, Ab a8, Aa 2, Aa k260, Aa 0] [.int 2, .ref a8, .ref J] ?_
    have f332 := (f291.keep K313 (allS ge_J all0))
    have f333 := (f295.keep K313)
    have f334 := (f296.keep K313 (ninS ne_x_J nin0))
    have f335 := (f297.keep K313 (ninS ne_x_J nin0))
    have f336 := (f298.keep K313 (ninS ne_t_J nin0))
    have f337 := ((Exa.ext E290 ((f235.keep K241).keep K275)).keep K313)
    have f338 := ((Fld.ext E290 ((f236.keep K241 (ninS (Ne.symm n31) nin0)).keep K275 (ninS (Ne.symm n31) nin0))).keep K313 (ninS (Ne.symm n31) nin0))
    have f339 := ((Fld.ext E290 ((f237.keep K241 (ninS (Ne.symm n31) nin0)).keep K275 (ninS (Ne.symm n31) nin0))).keep K313 (ninS (Ne.symm n31) nin0))
    have f340 := ((((f238.keep K241 (ninS (Ne.symm n36) nin0)).keep K275 (ninS (Ne.symm n36) nin0)).ext E290).keep K313 (ninS (Ne.symm n36) nin0))
    have f341 : n0 ≤ h325.size := (Nat.le_trans f299 K313.1)
    have SW353 := rb331 _ _ 2 4 [] [] S330 (Keep.refl _ _) all0 all0
    refine Cu CW SW353 hF hP1 hP2 hw 186 187 76 188 189 66 (own_ccc l Z a0 hw hEL wS G1 G3 J _ _ _ _ _ _ cs y312 a8 _ _ _ _ o cl S3 h325 n0 f341 ge_J f332 f314 f316 f315 f333 f334 f335 f336 f337 f338 f339 f340 ne_x_J ne_t_J (Ne.symm n31) (Ne.symm n36) HS hrep p317 hst) 0 f314 [.ref a8, .int 2] [] Dy ?_
    rintro T354 h355 v356 SW357 hg358 ⟨y342, rfl, K343, f344, f345, f346, p347⟩
    refine Ai CW SW357 ?_
    intro vm359 C S360 rb361
    refine Ac C S360 [(125, .istore_n 2, 1), (126, .iload_n 2, 1), (127, .ifCond .ne 4, 3), (131, .goto (-121), 3)] 10 #[Ab J, Ab a8, Aa 2, Aa k260, Aa 0] [] ?_
    obtain ⟨k362, r363, hS364, hw365, hn366, hn367, hn368⟩ := Df.hd h3
    have hat369 : Ae cs y342 (([] : List Int32) ++ k362 :: r363) := by rw [← hS364]; exact p347
    refine Ac C S360 [(10, .aload_n 0, 1)] 11 #[Ab J, Ab a8, Aa 2, Aa k260, Aa 0] [.ref J] ?_
    have f370 := (f332.keep K343 (allS ge_J all0))
    have f371 := (f333.keep K343)
    have f372 := (f334.keep K343 (ninS ne_x_J nin0))
    have f373 := (f335.keep K343 (ninS ne_x_J nin0))
    have f374 := (f336.keep K343 (ninS ne_t_J nin0))
    have f375 : n0 ≤ h355.size := (Nat.le_trans f341 K343.1)
    refine An C S360 hP1 hP2 hw 87 88 76 89 90 66 (Bo l Z a0 hw G1 G3 J _ _ _ _ _ _ cs y342 [] (k362 :: r363) h355 n0 f375 ge_J f370 f344 f346 f345 f371 f372 f373 f374 ne_x_J ne_t_J HS hrep hat369 (fun _ q => nomatch q) (Bn hw365)) 0 f344 [] [] At ?_
    rintro T382 h383 v384 L385 S386 ⟨⟨y376, rfl, K377, f378, f379, f380, p381⟩, -⟩
    refine Ac C S386 [(14, .aload_n 0, 1)] 15 #[Ab J, Ab a8, Aa 2, Aa k260, Aa 0] [.ref J] ?_
    have SW387 := rb361 _ _ 2 4 [J] [] S386 ((Keep.refl _ _).trans K377 (allS (Ad 0) all0)) (allS (As 2) all0) all0
    refine Cv CW SW387 hF hP1 hP2 hw 151 1 28 ?_
    intro T388 h389 a390 SW391 E392
    have f393 := ((f370.keep K377 (allS ge_J all0)).ext E392)
    have f394 := (Exa.ext E392 f378)
    have f395 := (Fld.ext E392 f380)
    have f396 := (Fld.ext E392 f379)
    have f397 := (Exa.ext E392 (f371.keep K377))
    have f398 := (Fld.ext E392 (f372.keep K377 (ninS ne_x_J nin0)))
    have f399 := (Fld.ext E392 (f373.keep K377 (ninS ne_x_J nin0)))
    have f400 := ((f374.keep K377 (ninS ne_t_J nin0)).ext E392)
    have f401 : n0 ≤ h389.size := (Nat.le_trans (Nat.le_trans f375 K377.1) E392.1)
    refine Ai CW SW391 ?_
    intro vm408 C S409 rb410
    refine An C S409 hP1 hP2 hw 152 153 76 154 155 66 (Cf l Z a0 hw G1 G3 J _ _ _ _ _ _ cs y376 a390 k362 r363 h389 n0 f401 f393 f394 f395 f396 f397 f398 f399 f400 HS hrep p381) 0 f394 [.ref a390] [] Cg ?_
    rintro T403 h404 v405 L406 S407 ⟨⟨rfl, e402⟩, -⟩
    rw [e402] at S407; clear e402
    refine Ac C S407 [(20, .istore_n 3, 1), (21, .iload_n 3, 1), (22, .bipush 123, 2)] 24 #[Ab J, Ab a8, Aa 2, Aa k362, Aa 0] [.int 123, .int k362] ?_
    refine Ao C S407 .eq 9 33 (fun (hq : k362 = (123 : Int32)) => False.elim (hn366 hq)) (fun (q411 : ¬ k362 = (123 : Int32)) => ?_)
    refine Ac C S407 [(27, .iload_n 3, 1), (28, .bipush 91, 2)] 30 #[Ab J, Ab a8, Aa 2, Aa k362, Aa 0] [.int 91, .int k362] ?_
    refine Ao C S407 .ne 84 114 (fun (q412 : ¬ k362 = (91 : Int32)) => ?_) (fun (hq : k362 = (91 : Int32)) => False.elim (hn367 hq))
    have hat413 : Ae cs y376 S3 := by rw [hS364]; exact p381
    refine Ac C S407 [(114, .aload_n 0, 1), (115, .iload_n 3, 1)] 116 #[Ab J, Ab a8, Aa 2, Aa k362, Aa 0] [.int k362, .ref J] ?_
    have SW425 := rb410 _ _ 2 4 [] [] S407 (Keep.refl _ _) all0 all0
    refine Cu CW SW425 hF hP1 hP2 hw 170 171 76 172 173 66 (Fu l Z a0 hw hEL wS G1 G3 J _ _ _ _ _ _ cs y376 k362 S3 (44 :: S4) r363 h389 n0 f401 ge_J f393 f394 f395 f396 f397 f398 f399 f400 ne_x_J ne_t_J HS hrep hat413 h3 hS364) 0 f394 [.int k362] [] Ey ?_
    rintro T426 h427 v428 SW429 hg430 ⟨y414, rfl, K415, f416, f417, f418, p419⟩
    refine Ai CW SW429 ?_
    intro vm431 C S432 rb433
    refine Ac C S432 [(119, .aload_n 0, 1), (120, .aload_n 1, 1), (121, .iload_n 2, 1)] 122 #[Ab J, Ab a8, Aa 2, Aa k362, Aa 0] [.int 2, .ref a8, .ref J] ?_
    have f434 := (f393.keep K415 (allS ge_J all0))
    have f435 := (f397.keep K415)
    have f436 := (f398.keep K415 (ninS ne_x_J nin0))
    have f437 := (f399.keep K415 (ninS ne_x_J nin0))
    have f438 := (f400.keep K415 (ninS ne_t_J nin0))
    have f439 := ((Exa.ext E392 ((f337.keep K343).keep K377)).keep K415)
    have f440 := ((Fld.ext E392 ((f338.keep K343 (ninS (Ne.symm n31) nin0)).keep K377 (ninS (Ne.symm n31) nin0))).keep K415 (ninS (Ne.symm n31) nin0))
    have f441 := ((Fld.ext E392 ((f339.keep K343 (ninS (Ne.symm n31) nin0)).keep K377 (ninS (Ne.symm n31) nin0))).keep K415 (ninS (Ne.symm n31) nin0))
    have f442 := ((((f340.keep K343 (ninS (Ne.symm n36) nin0)).keep K377 (ninS (Ne.symm n36) nin0)).ext E392).keep K415 (ninS (Ne.symm n36) nin0))
    have f443 : n0 ≤ h427.size := (Nat.le_trans f401 K415.1)
    have SW455 := rb433 _ _ 2 4 [] [] S432 (Keep.refl _ _) all0 all0
    refine Cu CW SW455 hF hP1 hP2 hw 186 187 76 188 189 66 (own_ccc l Z a0 hw hEL wS G1 G3 J _ _ _ _ _ _ cs y414 a8 _ _ _ _ o cl S4 h427 n0 f443 ge_J f434 f416 f418 f417 f435 f436 f437 f438 f439 f440 f441 f442 ne_x_J ne_t_J (Ne.symm n31) (Ne.symm n36) HS hrep p419 hst) 0 f416 [.ref a8, .int 2] [] Dy ?_
    rintro T456 h457 v458 SW459 hg460 ⟨y444, rfl, K445, f446, f447, f448, p449⟩
    refine Ai CW SW459 ?_
    intro vm461 C S462 rb463
    have SW464 := rb463 _ _ 2 4 [] [] S462 (Keep.refl _ _) all0 all0
    refine Ac C S462 [(125, .istore_n 2, 1), (126, .iload_n 2, 1), (127, .ifCond .ne 4, 3), (131, .goto (-121), 3)] 10 #[Ab J, Ab a8, Aa 2, Aa k362, Aa 0] [] ?_
    rcases hC with ⟨k, rfl, hk⟩ | ⟨k, rfl, hk⟩ | rfl | rfl
    · refine Ai CW SW464 ?_
      intro vm465 C S466 rb467
      refine Ac C S466 [(10, .aload_n 0, 1)] 11 #[Ab J, Ab a8, Aa 2, Aa k362, Aa 0] [.ref J] ?_
      have f468 := (f434.keep K445 (allS ge_J all0))
      have f469 := (f435.keep K445)
      have f470 := (f436.keep K445 (ninS ne_x_J nin0))
      have f471 := (f437.keep K445 (ninS ne_x_J nin0))
      have f472 := (f438.keep K445 (ninS ne_t_J nin0))
      have f473 : n0 ≤ h457.size := (Nat.le_trans f443 K445.1)
      refine An C S466 hP1 hP2 hw 87 88 76 89 90 66 (Bo l Z a0 hw G1 G3 J _ _ _ _ _ _ cs y444 [] (91 :: (k :: (93 :: (93 :: (cl :: R))))) h457 n0 f473 ge_J f468 f446 f448 f447 f469 f470 f471 f472 ne_x_J ne_t_J HS hrep p449 (fun _ q => nomatch q) (Bn (by unfold Aw; decide))) 0 f446 [] [] At ?_
      rintro T480 h481 v482 L483 S484 ⟨⟨y474, rfl, K475, f476, f477, f478, p479⟩, -⟩
      refine Ac C S484 [(14, .aload_n 0, 1)] 15 #[Ab J, Ab a8, Aa 2, Aa k362, Aa 0] [.ref J] ?_
      have SW485 := rb467 _ _ 2 4 [J] [] S484 ((Keep.refl _ _).trans K475 (allS (Ad 0) all0)) (allS (As 2) all0) all0
      refine Cv CW SW485 hF hP1 hP2 hw 151 1 28 ?_
      intro T486 h487 a488 SW489 E490
      have f491 := ((f468.keep K475 (allS ge_J all0)).ext E490)
      have f492 := (Exa.ext E490 f476)
      have f493 := (Fld.ext E490 f478)
      have f494 := (Fld.ext E490 f477)
      have f495 := (Exa.ext E490 (f469.keep K475))
      have f496 := (Fld.ext E490 (f470.keep K475 (ninS ne_x_J nin0)))
      have f497 := (Fld.ext E490 (f471.keep K475 (ninS ne_x_J nin0)))
      have f498 := ((f472.keep K475 (ninS ne_t_J nin0)).ext E490)
      have f499 : n0 ≤ h487.size := (Nat.le_trans (Nat.le_trans f473 K475.1) E490.1)
      refine Ai CW SW489 ?_
      intro vm506 C S507 rb508
      refine An C S507 hP1 hP2 hw 152 153 76 154 155 66 (Cf l Z a0 hw G1 G3 J _ _ _ _ _ _ cs y474 a488 91 (k :: (93 :: (93 :: (cl :: R)))) h487 n0 f499 f491 f492 f493 f494 f495 f496 f497 f498 HS hrep p479) 0 f492 [.ref a488] [] Cg ?_
      rintro T501 h502 v503 L504 S505 ⟨⟨rfl, e500⟩, -⟩
      rw [e500] at S505; clear e500
      refine Ac C S505 [(20, .istore_n 3, 1), (21, .iload_n 3, 1), (22, .bipush 123, 2), (24, .if_icmp .eq 9, 3), (27, .iload_n 3, 1), (28, .bipush 91, 2), (30, .if_icmp .ne 84, 3), (33, .iload_n 3, 1), (34, .bipush 123, 2), (36, .if_icmp .ne 7, 3), (43, .iconst 0, 1), (44, .istore 4, 2), (46, .aload_n 0, 1), (47, .dup, 1)] 48 #[Ab J, Ab a8, Aa 2, Aa 91, Aa 0] [.ref J, .ref J] ?_
      refine Ah C S505 hw 91 f494 ?_
      intro T509 S510
      refine Ac C S510 [(51, .iconst 1, 1), (52, .iadd, 1)] 53 #[Ab J, Ab a8, Aa 2, Aa 91, Aa 0] [.int ((Int32.ofNat y474) + (1 : Int32)), .ref J] ?_
      rw [show ((Int32.ofNat y474) + (1 : Int32)) = (Int32.ofNat (y474 + 1)) from Af _]
      refine Bh C S510 hw 91 92 76 f494 f492 Ax ge_J ?_
      intro T511 h513 S512 W514
      have f515 : Fld Z h513 J "com/example/limit1/limit1/JsonText" "position" "I" (.int (Int32.ofNat (y474 + 1))) := Fld.same W514 f494
      have hat516 := (Ae.hd p479).2.2
      refine Ac C S512 [(56, .aload_n 0, 1)] 57 #[Ab J, Ab a8, Aa 2, Aa 91, Aa 0] [.ref J] ?_
      have f517 := (f491.wr W514 ge_J)
      have f518 := (Exa.wr W514 f492)
      have f519 := (Fld.other W514 f493 (Or.inr (Bb hw)))
      have f520 := (Exa.wr W514 f495)
      have f521 := (Fld.other W514 f496 (Or.inl ne_x_J))
      have f522 := (Fld.other W514 f497 (Or.inl ne_x_J))
      have f523 := (f498.other W514 ne_t_J)
      have f524 : n0 ≤ h513.size := (by rw [W514.size]; exact f499)
      refine An C S512 hP1 hP2 hw 87 88 76 89 90 66 (Bo l Z a0 hw G1 G3 J _ _ _ _ _ _ cs (y474 + 1) ([k]) (93 :: (93 :: (cl :: R))) h513 n0 f524 ge_J f517 f518 f519 f515 f520 f521 f522 f523 ne_x_J ne_t_J HS hrep hat516 (Ga hk) (Bn (by unfold Aw; decide))) 0 f518 [] [] At ?_
      rintro T531 h532 v533 L534 S535 ⟨⟨y525, rfl, K526, f527, f528, f529, p530⟩, -⟩
      refine Ac C S535 [(60, .aload_n 0, 1), (61, .iload 4, 2), (63, .ifCond .eq 8, 3), (71, .bipush 93, 2)] 73 #[Ab J, Ab a8, Aa 2, Aa 91, Aa 0] [.int 93, .ref J] ?_
      have f536 := (f517.keep K526 (allS ge_J all0))
      have f537 := (f520.keep K526)
      have f538 := (f521.keep K526 (ninS ne_x_J nin0))
      have f539 := (f522.keep K526 (ninS ne_x_J nin0))
      have f540 := (f523.keep K526 (ninS ne_t_J nin0))
      have f541 : n0 ≤ h532.size := (Nat.le_trans f524 K526.1)
      refine An C S535 hP1 hP2 hw 156 157 76 158 159 66 (Bf l Z a0 hw G1 G3 J _ _ _ _ _ _ cs y525 93 93 (93 :: (cl :: R)) h532 n0 f541 f536 f527 f529 f528 f537 f538 f539 f540 HS hrep p530) 0 f527 [.int 93] [] Av ?_
      rintro T545 h546 v547 L548 S549 ⟨⟨y542, rfl, e543, p544⟩, -⟩
      rw [e543] at S549; clear e543
      have hr550 : y542 = (1 : Int32) := Bl.one p544 rfl
      subst hr550
      refine Ac C S549 [(76, .ifCond .ne 25, 3), (101, .aload_n 0, 1), (102, .dup, 1)] 103 #[Ab J, Ab a8, Aa 2, Aa 91, Aa 0] [.ref J, .ref J] ?_
      refine Ah C S549 hw 91 f528 ?_
      intro T551 S552
      refine Ac C S552 [(106, .iconst 1, 1), (107, .iadd, 1)] 108 #[Ab J, Ab a8, Aa 2, Aa 91, Aa 0] [.int ((Int32.ofNat y525) + (1 : Int32)), .ref J] ?_
      rw [show ((Int32.ofNat y525) + (1 : Int32)) = (Int32.ofNat (y525 + 1)) from Af _]
      refine Bh C S552 hw 91 92 76 f528 f527 Ax ge_J ?_
      intro T553 h555 S554 W556
      have f557 : Fld Z h555 J "com/example/limit1/limit1/JsonText" "position" "I" (.int (Int32.ofNat (y525 + 1))) := Fld.same W556 f528
      have hat558 := (Ae.hd p530).2.2
      refine Ac C S554 [(111, .goto 8, 3), (119, .aload_n 0, 1), (120, .aload_n 1, 1), (121, .iload_n 2, 1)] 122 #[Ab J, Ab a8, Aa 2, Aa 91, Aa 0] [.int 2, .ref a8, .ref J] ?_
      have f559 := (f536.wr W556 ge_J)
      have f560 := (Exa.wr W556 f527)
      have f561 := (Fld.other W556 f529 (Or.inr (Bb hw)))
      have f562 := (Exa.wr W556 f537)
      have f563 := (Fld.other W556 f538 (Or.inl ne_x_J))
      have f564 := (Fld.other W556 f539 (Or.inl ne_x_J))
      have f565 := (f540.other W556 ne_t_J)
      have f566 := (Exa.wr W556 ((Exa.wr W514 (Exa.ext E490 ((f439.keep K445).keep K475))).keep K526))
      have f567 := (Fld.other W556 ((Fld.other W514 (Fld.ext E490 ((f440.keep K445 (ninS (Ne.symm n31) nin0)).keep K475 (ninS (Ne.symm n31) nin0))) (Or.inl (Ne.symm n31))).keep K526 (ninS (Ne.symm n31) nin0)) (Or.inl (Ne.symm n31)))
      have f568 := (Fld.other W556 ((Fld.other W514 (Fld.ext E490 ((f441.keep K445 (ninS (Ne.symm n31) nin0)).keep K475 (ninS (Ne.symm n31) nin0))) (Or.inl (Ne.symm n31))).keep K526 (ninS (Ne.symm n31) nin0)) (Or.inl (Ne.symm n31)))
      have f569 := ((((((f442.keep K445 (ninS (Ne.symm n36) nin0)).keep K475 (ninS (Ne.symm n36) nin0)).ext E490).other W514 (Ne.symm n36)).keep K526 (ninS (Ne.symm n36) nin0)).other W556 (Ne.symm n36))
      have f570 : n0 ≤ h555.size := (by rw [W556.size]; exact f541)
      have SW582 := rb508 _ _ 2 4 [J] [] S554 ((((Keep.refl _ _).wr W514 (Ad 0)).trans K526 (allS (Ad 0) all0)).wr W556 (Ad 0)) (allS (As 2) all0) all0
      refine Cu CW SW582 hF hP1 hP2 hw 186 187 76 188 189 66 (own_cce l Z a0 hw hEL wS G1 G3 J _ _ _ _ _ _ cs (y525 + 1) a8 _ _ _ _ o cl R h555 n0 f570 ge_J f559 f560 f561 f557 f562 f563 f564 f565 f566 f567 f568 f569 ne_x_J ne_t_J (Ne.symm n31) (Ne.symm n36) HS hrep hat558 hst) 0 f560 [.ref a8, .int 2] [] Dy ?_
      rintro T583 h584 v585 SW586 hg587 ⟨y571, rfl, K572, f573, f574, f575, p576⟩
      refine Ai CW SW586 ?_
      intro vm588 C S589 rb590
      refine Ac C S589 [(125, .istore_n 2, 1), (126, .iload_n 2, 1), (127, .ifCond .ne 4, 3)] 130 #[Ab J, Ab a8, Aa 0, Aa 91, Aa 0] [] ?_
      have SW591 := rb590 _ _ 2 4 [] [] S589 (Keep.refl _ _) all0 all0
      refine Ch CW SW591 hF (by decide +kernel) (by decide) (by decide) ?_
      have o592 : h0.size ≤ a18 := Nat.le_trans (Nat.le_refl _) o43
      have o593 : h0.size ≤ a8 := Nat.le_trans (Nat.le_refl _) o42
      exact ⟨y571, rfl, (((((((((((((((((((((((((Keep.refl _ _).trans K51 (allS (Ad 0) all0)).trans K64 (allS (Ad 0) all0)).ext E79).wr W103 (Ad 0)).trans K115 (allS (Ad 0) all0)).trans K144 (allS (Or.inr o593) (allS (Or.inr o592) all0))).trans K173 (allS (Ad 0) all0)).ext E188).trans K211 (allS (Ad 0) all0)).trans K241 (allS (Ad 0) all0)).trans K275 (allS (Ad 0) all0)).ext E290).trans K313 (allS (Ad 0) all0)).trans K343 (allS (Ad 0) all0)).trans K377 (allS (Ad 0) all0)).ext E392).trans K415 (allS (Ad 0) all0)).trans K445 (allS (Ad 0) all0)).trans K475 (allS (Ad 0) all0)).ext E490).wr W514 (Ad 0)).trans K526 (allS (Ad 0) all0)).wr W556 (Ad 0)).trans K572 (allS (Ad 0) all0)), f573, f574, f575, p576⟩
    · refine Ai CW SW464 ?_
      intro vm594 C S595 rb596
      refine Ac C S595 [(10, .aload_n 0, 1)] 11 #[Ab J, Ab a8, Aa 2, Aa k362, Aa 0] [.ref J] ?_
      have f597 := (f434.keep K445 (allS ge_J all0))
      have f598 := (f435.keep K445)
      have f599 := (f436.keep K445 (ninS ne_x_J nin0))
      have f600 := (f437.keep K445 (ninS ne_x_J nin0))
      have f601 := (f438.keep K445 (ninS ne_t_J nin0))
      have f602 : n0 ≤ h457.size := (Nat.le_trans f443 K445.1)
      refine An C S595 hP1 hP2 hw 87 88 76 89 90 66 (Bo l Z a0 hw G1 G3 J _ _ _ _ _ _ cs y444 [] (123 :: (k :: (125 :: (93 :: (cl :: R))))) h457 n0 f602 ge_J f597 f446 f448 f447 f598 f599 f600 f601 ne_x_J ne_t_J HS hrep p449 (fun _ q => nomatch q) (Bn (by unfold Aw; decide))) 0 f446 [] [] At ?_
      rintro T609 h610 v611 L612 S613 ⟨⟨y603, rfl, K604, f605, f606, f607, p608⟩, -⟩
      refine Ac C S613 [(14, .aload_n 0, 1)] 15 #[Ab J, Ab a8, Aa 2, Aa k362, Aa 0] [.ref J] ?_
      have SW614 := rb596 _ _ 2 4 [J] [] S613 ((Keep.refl _ _).trans K604 (allS (Ad 0) all0)) (allS (As 2) all0) all0
      refine Cv CW SW614 hF hP1 hP2 hw 151 1 28 ?_
      intro T615 h616 a617 SW618 E619
      have f620 := ((f597.keep K604 (allS ge_J all0)).ext E619)
      have f621 := (Exa.ext E619 f605)
      have f622 := (Fld.ext E619 f607)
      have f623 := (Fld.ext E619 f606)
      have f624 := (Exa.ext E619 (f598.keep K604))
      have f625 := (Fld.ext E619 (f599.keep K604 (ninS ne_x_J nin0)))
      have f626 := (Fld.ext E619 (f600.keep K604 (ninS ne_x_J nin0)))
      have f627 := ((f601.keep K604 (ninS ne_t_J nin0)).ext E619)
      have f628 : n0 ≤ h616.size := (Nat.le_trans (Nat.le_trans f602 K604.1) E619.1)
      refine Ai CW SW618 ?_
      intro vm635 C S636 rb637
      refine An C S636 hP1 hP2 hw 152 153 76 154 155 66 (Cf l Z a0 hw G1 G3 J _ _ _ _ _ _ cs y603 a617 123 (k :: (125 :: (93 :: (cl :: R)))) h616 n0 f628 f620 f621 f622 f623 f624 f625 f626 f627 HS hrep p608) 0 f621 [.ref a617] [] Cg ?_
      rintro T630 h631 v632 L633 S634 ⟨⟨rfl, e629⟩, -⟩
      rw [e629] at S634; clear e629
      refine Ac C S634 [(20, .istore_n 3, 1), (21, .iload_n 3, 1), (22, .bipush 123, 2), (24, .if_icmp .eq 9, 3), (33, .iload_n 3, 1), (34, .bipush 123, 2), (36, .if_icmp .ne 7, 3), (39, .iconst 1, 1), (40, .goto 4, 3), (44, .istore 4, 2), (46, .aload_n 0, 1), (47, .dup, 1)] 48 #[Ab J, Ab a8, Aa 2, Aa 123, Aa 1] [.ref J, .ref J] ?_
      refine Ah C S634 hw 91 f623 ?_
      intro T638 S639
      refine Ac C S639 [(51, .iconst 1, 1), (52, .iadd, 1)] 53 #[Ab J, Ab a8, Aa 2, Aa 123, Aa 1] [.int ((Int32.ofNat y603) + (1 : Int32)), .ref J] ?_
      rw [show ((Int32.ofNat y603) + (1 : Int32)) = (Int32.ofNat (y603 + 1)) from Af _]
      refine Bh C S639 hw 91 92 76 f623 f621 Ax ge_J ?_
      intro T640 h642 S641 W643
      have f644 : Fld Z h642 J "com/example/limit1/limit1/JsonText" "position" "I" (.int (Int32.ofNat (y603 + 1))) := Fld.same W643 f623
      have hat645 := (Ae.hd p608).2.2
      refine Ac C S641 [(56, .aload_n 0, 1)] 57 #[Ab J, Ab a8, Aa 2, Aa 123, Aa 1] [.ref J] ?_
      have f646 := (f620.wr W643 ge_J)
      have f647 := (Exa.wr W643 f621)
      have f648 := (Fld.other W643 f622 (Or.inr (Bb hw)))
      have f649 := (Exa.wr W643 f624)
      have f650 := (Fld.other W643 f625 (Or.inl ne_x_J))
      have f651 := (Fld.other W643 f626 (Or.inl ne_x_J))
      have f652 := (f627.other W643 ne_t_J)
      have f653 : n0 ≤ h642.size := (by rw [W643.size]; exact f628)
      refine An C S641 hP1 hP2 hw 87 88 76 89 90 66 (Bo l Z a0 hw G1 G3 J _ _ _ _ _ _ cs (y603 + 1) ([k]) (125 :: (93 :: (cl :: R))) h642 n0 f653 ge_J f646 f647 f648 f644 f649 f650 f651 f652 ne_x_J ne_t_J HS hrep hat645 (Ga hk) (Bn (by unfold Aw; decide))) 0 f647 [] [] At ?_
      rintro T660 h661 v662 L663 S664 ⟨⟨y654, rfl, K655, f656, f657, f658, p659⟩, -⟩
      refine Ac C S664 [(60, .aload_n 0, 1), (61, .iload 4, 2), (63, .ifCond .eq 8, 3), (66, .bipush 125, 2), (68, .goto 5, 3)] 73 #[Ab J, Ab a8, Aa 2, Aa 123, Aa 1] [.int 125, .ref J] ?_
      have f665 := (f646.keep K655 (allS ge_J all0))
      have f666 := (f649.keep K655)
      have f667 := (f650.keep K655 (ninS ne_x_J nin0))
      have f668 := (f651.keep K655 (ninS ne_x_J nin0))
      have f669 := (f652.keep K655 (ninS ne_t_J nin0))
      have f670 : n0 ≤ h661.size := (Nat.le_trans f653 K655.1)
      refine An C S664 hP1 hP2 hw 156 157 76 158 159 66 (Bf l Z a0 hw G1 G3 J _ _ _ _ _ _ cs y654 125 125 (93 :: (cl :: R)) h661 n0 f670 f665 f656 f658 f657 f666 f667 f668 f669 HS hrep p659) 0 f656 [.int 125] [] Av ?_
      rintro T674 h675 v676 L677 S678 ⟨⟨y671, rfl, e672, p673⟩, -⟩
      rw [e672] at S678; clear e672
      have hr679 : y671 = (1 : Int32) := Bl.one p673 rfl
      subst hr679
      refine Ac C S678 [(76, .ifCond .ne 25, 3), (101, .aload_n 0, 1), (102, .dup, 1)] 103 #[Ab J, Ab a8, Aa 2, Aa 123, Aa 1] [.ref J, .ref J] ?_
      refine Ah C S678 hw 91 f657 ?_
      intro T680 S681
      refine Ac C S681 [(106, .iconst 1, 1), (107, .iadd, 1)] 108 #[Ab J, Ab a8, Aa 2, Aa 123, Aa 1] [.int ((Int32.ofNat y654) + (1 : Int32)), .ref J] ?_
      rw [show ((Int32.ofNat y654) + (1 : Int32)) = (Int32.ofNat (y654 + 1)) from Af _]
      refine Bh C S681 hw 91 92 76 f657 f656 Ax ge_J ?_
      intro T682 h684 S683 W685
      have f686 : Fld Z h684 J "com/example/limit1/limit1/JsonText" "position" "I" (.int (Int32.ofNat (y654 + 1))) := Fld.same W685 f657
      have hat687 := (Ae.hd p659).2.2
      refine Ac C S683 [(111, .goto 8, 3), (119, .aload_n 0, 1), (120, .aload_n 1, 1), (121, .iload_n 2, 1)] 122 #[Ab J, Ab a8, Aa 2, Aa 123, Aa 1] [.int 2, .ref a8, .ref J] ?_
      have f688 := (f665.wr W685 ge_J)
      have f689 := (Exa.wr W685 f656)
      have f690 := (Fld.other W685 f658 (Or.inr (Bb hw)))
      have f691 := (Exa.wr W685 f666)
      have f692 := (Fld.other W685 f667 (Or.inl ne_x_J))
      have f693 := (Fld.other W685 f668 (Or.inl ne_x_J))
      have f694 := (f669.other W685 ne_t_J)
      have f695 := (Exa.wr W685 ((Exa.wr W643 (Exa.ext E619 ((f439.keep K445).keep K604))).keep K655))
      have f696 := (Fld.other W685 ((Fld.other W643 (Fld.ext E619 ((f440.keep K445 (ninS (Ne.symm n31) nin0)).keep K604 (ninS (Ne.symm n31) nin0))) (Or.inl (Ne.symm n31))).keep K655 (ninS (Ne.symm n31) nin0)) (Or.inl (Ne.symm n31)))
      have f697 := (Fld.other W685 ((Fld.other W643 (Fld.ext E619 ((f441.keep K445 (ninS (Ne.symm n31) nin0)).keep K604 (ninS (Ne.symm n31) nin0))) (Or.inl (Ne.symm n31))).keep K655 (ninS (Ne.symm n31) nin0)) (Or.inl (Ne.symm n31)))
      have f698 := ((((((f442.keep K445 (ninS (Ne.symm n36) nin0)).keep K604 (ninS (Ne.symm n36) nin0)).ext E619).other W643 (Ne.symm n36)).keep K655 (ninS (Ne.symm n36) nin0)).other W685 (Ne.symm n36))
      have f699 : n0 ≤ h684.size := (by rw [W685.size]; exact f670)
      have SW711 := rb637 _ _ 2 4 [J] [] S683 ((((Keep.refl _ _).wr W643 (Ad 0)).trans K655 (allS (Ad 0) all0)).wr W685 (Ad 0)) (allS (As 2) all0) all0
      refine Cu CW SW711 hF hP1 hP2 hw 186 187 76 188 189 66 (own_cce l Z a0 hw hEL wS G1 G3 J _ _ _ _ _ _ cs (y654 + 1) a8 _ _ _ _ o cl R h684 n0 f699 ge_J f688 f689 f690 f686 f691 f692 f693 f694 f695 f696 f697 f698 ne_x_J ne_t_J (Ne.symm n31) (Ne.symm n36) HS hrep hat687 hst) 0 f689 [.ref a8, .int 2] [] Dy ?_
      rintro T712 h713 v714 SW715 hg716 ⟨y700, rfl, K701, f702, f703, f704, p705⟩
      refine Ai CW SW715 ?_
      intro vm717 C S718 rb719
      refine Ac C S718 [(125, .istore_n 2, 1), (126, .iload_n 2, 1), (127, .ifCond .ne 4, 3)] 130 #[Ab J, Ab a8, Aa 0, Aa 123, Aa 1] [] ?_
      have SW720 := rb719 _ _ 2 4 [] [] S718 (Keep.refl _ _) all0 all0
      refine Ch CW SW720 hF (by decide +kernel) (by decide) (by decide) ?_
      have o721 : h0.size ≤ a18 := Nat.le_trans (Nat.le_refl _) o43
      have o722 : h0.size ≤ a8 := Nat.le_trans (Nat.le_refl _) o42
      exact ⟨y700, rfl, (((((((((((((((((((((((((Keep.refl _ _).trans K51 (allS (Ad 0) all0)).trans K64 (allS (Ad 0) all0)).ext E79).wr W103 (Ad 0)).trans K115 (allS (Ad 0) all0)).trans K144 (allS (Or.inr o722) (allS (Or.inr o721) all0))).trans K173 (allS (Ad 0) all0)).ext E188).trans K211 (allS (Ad 0) all0)).trans K241 (allS (Ad 0) all0)).trans K275 (allS (Ad 0) all0)).ext E290).trans K313 (allS (Ad 0) all0)).trans K343 (allS (Ad 0) all0)).trans K377 (allS (Ad 0) all0)).ext E392).trans K415 (allS (Ad 0) all0)).trans K445 (allS (Ad 0) all0)).trans K604 (allS (Ad 0) all0)).ext E619).wr W643 (Ad 0)).trans K655 (allS (Ad 0) all0)).wr W685 (Ad 0)).trans K701 (allS (Ad 0) all0)), f702, f703, f704, p705⟩
    · refine Ai CW SW464 ?_
      intro vm723 C S724 rb725
      refine Ac C S724 [(10, .aload_n 0, 1)] 11 #[Ab J, Ab a8, Aa 2, Aa k362, Aa 0] [.ref J] ?_
      have f726 := (f434.keep K445 (allS ge_J all0))
      have f727 := (f435.keep K445)
      have f728 := (f436.keep K445 (ninS ne_x_J nin0))
      have f729 := (f437.keep K445 (ninS ne_x_J nin0))
      have f730 := (f438.keep K445 (ninS ne_t_J nin0))
      have f731 : n0 ≤ h457.size := (Nat.le_trans f443 K445.1)
      refine An C S724 hP1 hP2 hw 87 88 76 89 90 66 (Bo l Z a0 hw G1 G3 J _ _ _ _ _ _ cs y444 [] (123 :: (([] : List Int32) ++ 34 :: (34 :: (58 :: (91 :: (48 :: (93 :: (125 :: (93 :: (cl :: R)))))))))) h457 n0 f731 ge_J f726 f446 f448 f447 f727 f728 f729 f730 ne_x_J ne_t_J HS hrep p449 (fun _ q => nomatch q) (Bn (by unfold Aw; decide))) 0 f446 [] [] At ?_
      rintro T738 h739 v740 L741 S742 ⟨⟨y732, rfl, K733, f734, f735, f736, p737⟩, -⟩
      refine Ac C S742 [(14, .aload_n 0, 1)] 15 #[Ab J, Ab a8, Aa 2, Aa k362, Aa 0] [.ref J] ?_
      have SW743 := rb725 _ _ 2 4 [J] [] S742 ((Keep.refl _ _).trans K733 (allS (Ad 0) all0)) (allS (As 2) all0) all0
      refine Cv CW SW743 hF hP1 hP2 hw 151 1 28 ?_
      intro T744 h745 a746 SW747 E748
      have f749 := ((f726.keep K733 (allS ge_J all0)).ext E748)
      have f750 := (Exa.ext E748 f734)
      have f751 := (Fld.ext E748 f736)
      have f752 := (Fld.ext E748 f735)
      have f753 := (Exa.ext E748 (f727.keep K733))
      have f754 := (Fld.ext E748 (f728.keep K733 (ninS ne_x_J nin0)))
      have f755 := (Fld.ext E748 (f729.keep K733 (ninS ne_x_J nin0)))
      have f756 := ((f730.keep K733 (ninS ne_t_J nin0)).ext E748)
      have f757 : n0 ≤ h745.size := (Nat.le_trans (Nat.le_trans f731 K733.1) E748.1)
      refine Ai CW SW747 ?_
      intro vm764 C S765 rb766
      refine An C S765 hP1 hP2 hw 152 153 76 154 155 66 (Cf l Z a0 hw G1 G3 J _ _ _ _ _ _ cs y732 a746 123 (([] : List Int32) ++ 34 :: (34 :: (58 :: (91 :: (48 :: (93 :: (125 :: (93 :: (cl :: R))))))))) h745 n0 f757 f749 f750 f751 f752 f753 f754 f755 f756 HS hrep p737) 0 f750 [.ref a746] [] Cg ?_
      rintro T759 h760 v761 L762 S763 ⟨⟨rfl, e758⟩, -⟩
      rw [e758] at S763; clear e758
      refine Ac C S763 [(20, .istore_n 3, 1), (21, .iload_n 3, 1), (22, .bipush 123, 2), (24, .if_icmp .eq 9, 3), (33, .iload_n 3, 1), (34, .bipush 123, 2), (36, .if_icmp .ne 7, 3), (39, .iconst 1, 1), (40, .goto 4, 3), (44, .istore 4, 2), (46, .aload_n 0, 1), (47, .dup, 1)] 48 #[Ab J, Ab a8, Aa 2, Aa 123, Aa 1] [.ref J, .ref J] ?_
      refine Ah C S763 hw 91 f752 ?_
      intro T767 S768
      refine Ac C S768 [(51, .iconst 1, 1), (52, .iadd, 1)] 53 #[Ab J, Ab a8, Aa 2, Aa 123, Aa 1] [.int ((Int32.ofNat y732) + (1 : Int32)), .ref J] ?_
      rw [show ((Int32.ofNat y732) + (1 : Int32)) = (Int32.ofNat (y732 + 1)) from Af _]
      refine Bh C S768 hw 91 92 76 f752 f750 Ax ge_J ?_
      intro T769 h771 S770 W772
      have f773 : Fld Z h771 J "com/example/limit1/limit1/JsonText" "position" "I" (.int (Int32.ofNat (y732 + 1))) := Fld.same W772 f752
      have hat774 := (Ae.hd p737).2.2
      refine Ac C S770 [(56, .aload_n 0, 1)] 57 #[Ab J, Ab a8, Aa 2, Aa 123, Aa 1] [.ref J] ?_
      have f775 := (f749.wr W772 ge_J)
      have f776 := (Exa.wr W772 f750)
      have f777 := (Fld.other W772 f751 (Or.inr (Bb hw)))
      have f778 := (Exa.wr W772 f753)
      have f779 := (Fld.other W772 f754 (Or.inl ne_x_J))
      have f780 := (Fld.other W772 f755 (Or.inl ne_x_J))
      have f781 := (f756.other W772 ne_t_J)
      have f782 : n0 ≤ h771.size := (by rw [W772.size]; exact f757)
      refine An C S770 hP1 hP2 hw 87 88 76 89 90 66 (Bo l Z a0 hw G1 G3 J _ _ _ _ _ _ cs (y732 + 1) [] (34 :: (34 :: (58 :: (91 :: (48 :: (93 :: (125 :: (93 :: (cl :: R))))))))) h771 n0 f782 ge_J f775 f776 f777 f773 f778 f779 f780 f781 ne_x_J ne_t_J HS hrep hat774 (fun _ q => nomatch q) (Bn (by unfold Aw; decide))) 0 f776 [] [] At ?_
      rintro T789 h790 v791 L792 S793 ⟨⟨y783, rfl, K784, f785, f786, f787, p788⟩, -⟩
      refine Ac C S793 [(60, .aload_n 0, 1), (61, .iload 4, 2), (63, .ifCond .eq 8, 3), (66, .bipush 125, 2), (68, .goto 5, 3)] 73 #[Ab J, Ab a8, Aa 2, Aa 123, Aa 1] [.int 125, .ref J] ?_
      have f794 := (f775.keep K784 (allS ge_J all0))
      have f795 := (f778.keep K784)
      have f796 := (f779.keep K784 (ninS ne_x_J nin0))
      have f797 := (f780.keep K784 (ninS ne_x_J nin0))
      have f798 := (f781.keep K784 (ninS ne_t_J nin0))
      have f799 : n0 ≤ h790.size := (Nat.le_trans f782 K784.1)
      refine An C S793 hP1 hP2 hw 156 157 76 158 159 66 (Bf l Z a0 hw G1 G3 J _ _ _ _ _ _ cs y783 125 34 (34 :: (58 :: (91 :: (48 :: (93 :: (125 :: (93 :: (cl :: R)))))))) h790 n0 f799 f794 f785 f787 f786 f795 f796 f797 f798 HS hrep p788) 0 f785 [.int 125] [] Av ?_
      rintro T803 h804 v805 L806 S807 ⟨⟨y800, rfl, e801, p802⟩, -⟩
      rw [e801] at S807; clear e801
      have hr808 : y800 = (0 : Int32) := Bl.zero p802 (by decide)
      subst hr808
      refine Ac C S807 [(76, .ifCond .ne 25, 3), (79, .aload_n 1, 1), (80, .iload_n 2, 1), (81, .iload 4, 2)] 83 #[Ab J, Ab a8, Aa 2, Aa 123, Aa 1] [.int 1, .int 2, .ref a8] ?_
      have f809 := ((Exa.wr W772 (Exa.ext E748 ((f439.keep K445).keep K733))).keep K784)
      have f810 := ((Fld.other W772 (Fld.ext E748 ((f440.keep K445 (ninS (Ne.symm n31) nin0)).keep K733 (ninS (Ne.symm n31) nin0))) (Or.inl (Ne.symm n31))).keep K784 (ninS (Ne.symm n31) nin0))
      have f811 := ((Fld.other W772 (Fld.ext E748 ((f441.keep K445 (ninS (Ne.symm n31) nin0)).keep K733 (ninS (Ne.symm n31) nin0))) (Or.inl (Ne.symm n31))).keep K784 (ninS (Ne.symm n31) nin0))
      have f812 := (((((f442.keep K445 (ninS (Ne.symm n36) nin0)).keep K733 (ninS (Ne.symm n36) nin0)).ext E748).other W772 (Ne.symm n36)).keep K784 (ninS (Ne.symm n36) nin0))
      refine Cm C S807 hP1 hP2 hw 160 161 163 163 162 164 131 (own_bz121 l Z a0 hw G1 G3 a8 _ _ _ _ o cl h790 n0 f799 g17 g34 f794 f809 f810 f811 f812 (Ne.symm n41) HS hst) 0 f809 [.int 2, .int 1] [] Ep ?_
      rintro T820 h821 v822 L823 S824 ⟨⟨y813, rfl, K814, f815, f816, f817, f818, p819⟩, -⟩
      refine Ac C S824 [(86, .iinc 2 1, 3), (89, .iload 4, 2), (91, .ifCond .eq (-81), 3), (94, .aload_n 0, 1)] 95 #[Ab J, Ab a8, Aa 3, Aa 123, Aa 1] [.ref J] ?_
      have f825 := (f794.keep K814 (allS g17 (allS g34 all0)))
      have f826 := (f785.keep K814)
      have f827 := (f787.keep K814 (ninS n31 (ninS n36 nin0)))
      have f828 := (f786.keep K814 (ninS n31 (ninS n36 nin0)))
      have f829 := (f795.keep K814)
      have f830 := (f796.keep K814 (ninS n32 (ninS n38 nin0)))
      have f831 := (f797.keep K814 (ninS n32 (ninS n38 nin0)))
      have f832 := (f798.keep K814 (ninS n33 (ninS n40 nin0)))
      have f833 : n0 ≤ h821.size := (Nat.le_trans f799 K814.1)
      have SW845 := rb766 _ _ 2 4 [J, a8, a18] [] S824 ((((Keep.refl _ _).wr W772 (Ad 0)).trans K784 (allS (Ad 0) all0)).trans K814 (allS (Ad 1) (allS (Ad 2) all0))) (allS (As 2) (allS (As 0) (allS (As 1) all0))) all0
      refine Cu CW SW845 hF hP1 hP2 hw 298 299 76 300 301 66 (own_cmn l Z a0 hw hEL wS G1 G3 J _ _ _ _ _ _ cs y783 [] [] [] (91 :: (48 :: (93 :: (125 :: (93 :: (cl :: R)))))) h821 n0 f833 ge_J f825 f826 f827 f828 f829 f830 f831 f832 ne_x_J ne_t_J HS hrep p788 (fun _ q => nomatch q) own_B0 (fun _ q => nomatch q)) 0 f826 [] [] At ?_
      rintro T846 h847 v848 SW849 hg850 ⟨y834, rfl, K835, f836, f837, f838, p839⟩
      refine Ai CW SW849 ?_
      intro vm851 C S852 rb853
      refine Ac C S852 [(98, .goto (-88), 3), (10, .aload_n 0, 1)] 11 #[Ab J, Ab a8, Aa 3, Aa 123, Aa 1] [.ref J] ?_
      have f854 := (f825.keep K835 (allS ge_J all0))
      have f855 := (f829.keep K835)
      have f856 := (f830.keep K835 (ninS ne_x_J nin0))
      have f857 := (f831.keep K835 (ninS ne_x_J nin0))
      have f858 := (f832.keep K835 (ninS ne_t_J nin0))
      have f859 : n0 ≤ h847.size := (Nat.le_trans f833 K835.1)
      refine An C S852 hP1 hP2 hw 87 88 76 89 90 66 (Bo l Z a0 hw G1 G3 J _ _ _ _ _ _ cs y834 [] (91 :: (([] : List Int32) ++ 48 :: (93 :: (125 :: (93 :: (cl :: R)))))) h847 n0 f859 ge_J f854 f836 f838 f837 f855 f856 f857 f858 ne_x_J ne_t_J HS hrep p839 (fun _ q => nomatch q) (Bn (by unfold Aw; decide))) 0 f836 [] [] At ?_
      rintro T866 h867 v868 L869 S870 ⟨⟨y860, rfl, K861, f862, f863, f864, p865⟩, -⟩
      refine Ac C S870 [(14, .aload_n 0, 1)] 15 #[Ab J, Ab a8, Aa 3, Aa 123, Aa 1] [.ref J] ?_
      have SW871 := rb853 _ _ 2 4 [J] [] S870 ((Keep.refl _ _).trans K861 (allS (Ad 0) all0)) (allS (As 2) all0) all0
      refine Cv CW SW871 hF hP1 hP2 hw 151 1 28 ?_
      intro T872 h873 a874 SW875 E876
      have f877 := ((f854.keep K861 (allS ge_J all0)).ext E876)
      have f878 := (Exa.ext E876 f862)
      have f879 := (Fld.ext E876 f864)
      have f880 := (Fld.ext E876 f863)
      have f881 := (Exa.ext E876 (f855.keep K861))
      have f882 := (Fld.ext E876 (f856.keep K861 (ninS ne_x_J nin0)))
      have f883 := (Fld.ext E876 (f857.keep K861 (ninS ne_x_J nin0)))
      have f884 := ((f858.keep K861 (ninS ne_t_J nin0)).ext E876)
      have f885 : n0 ≤ h873.size := (Nat.le_trans (Nat.le_trans f859 K861.1) E876.1)
      refine Ai CW SW875 ?_
      intro vm892 C S893 rb894
      refine An C S893 hP1 hP2 hw 152 153 76 154 155 66 (Cf l Z a0 hw G1 G3 J _ _ _ _ _ _ cs y860 a874 91 (([] : List Int32) ++ 48 :: (93 :: (125 :: (93 :: (cl :: R))))) h873 n0 f885 f877 f878 f879 f880 f881 f882 f883 f884 HS hrep p865) 0 f878 [.ref a874] [] Cg ?_
      rintro T887 h888 v889 L890 S891 ⟨⟨rfl, e886⟩, -⟩
      rw [e886] at S891; clear e886
      refine Ac C S891 [(20, .istore_n 3, 1), (21, .iload_n 3, 1), (22, .bipush 123, 2), (24, .if_icmp .eq 9, 3), (27, .iload_n 3, 1), (28, .bipush 91, 2), (30, .if_icmp .ne 84, 3), (33, .iload_n 3, 1), (34, .bipush 123, 2), (36, .if_icmp .ne 7, 3), (43, .iconst 0, 1), (44, .istore 4, 2), (46, .aload_n 0, 1), (47, .dup, 1)] 48 #[Ab J, Ab a8, Aa 3, Aa 91, Aa 0] [.ref J, .ref J] ?_
      refine Ah C S891 hw 91 f880 ?_
      intro T895 S896
      refine Ac C S896 [(51, .iconst 1, 1), (52, .iadd, 1)] 53 #[Ab J, Ab a8, Aa 3, Aa 91, Aa 0] [.int ((Int32.ofNat y860) + (1 : Int32)), .ref J] ?_
      rw [show ((Int32.ofNat y860) + (1 : Int32)) = (Int32.ofNat (y860 + 1)) from Af _]
      refine Bh C S896 hw 91 92 76 f880 f878 Ax ge_J ?_
      intro T897 h899 S898 W900
      have f901 : Fld Z h899 J "com/example/limit1/limit1/JsonText" "position" "I" (.int (Int32.ofNat (y860 + 1))) := Fld.same W900 f880
      have hat902 := (Ae.hd p865).2.2
      refine Ac C S898 [(56, .aload_n 0, 1)] 57 #[Ab J, Ab a8, Aa 3, Aa 91, Aa 0] [.ref J] ?_
      have f903 := (f877.wr W900 ge_J)
      have f904 := (Exa.wr W900 f878)
      have f905 := (Fld.other W900 f879 (Or.inr (Bb hw)))
      have f906 := (Exa.wr W900 f881)
      have f907 := (Fld.other W900 f882 (Or.inl ne_x_J))
      have f908 := (Fld.other W900 f883 (Or.inl ne_x_J))
      have f909 := (f884.other W900 ne_t_J)
      have f910 : n0 ≤ h899.size := (by rw [W900.size]; exact f885)
      refine An C S898 hP1 hP2 hw 87 88 76 89 90 66 (Bo l Z a0 hw G1 G3 J _ _ _ _ _ _ cs (y860 + 1) [] (48 :: (93 :: (125 :: (93 :: (cl :: R))))) h899 n0 f910 ge_J f903 f904 f905 f901 f906 f907 f908 f909 ne_x_J ne_t_J HS hrep hat902 (fun _ q => nomatch q) (Bn (by unfold Aw; decide))) 0 f904 [] [] At ?_
      rintro T917 h918 v919 L920 S921 ⟨⟨y911, rfl, K912, f913, f914, f915, p916⟩, -⟩
      refine Ac C S921 [(60, .aload_n 0, 1), (61, .iload 4, 2), (63, .ifCond .eq 8, 3), (71, .bipush 93, 2)] 73 #[Ab J, Ab a8, Aa 3, Aa 91, Aa 0] [.int 93, .ref J] ?_
      have f922 := (f903.keep K912 (allS ge_J all0))
      have f923 := (f906.keep K912)
      have f924 := (f907.keep K912 (ninS ne_x_J nin0))
      have f925 := (f908.keep K912 (ninS ne_x_J nin0))
      have f926 := (f909.keep K912 (ninS ne_t_J nin0))
      have f927 : n0 ≤ h918.size := (Nat.le_trans f910 K912.1)
      refine An C S921 hP1 hP2 hw 156 157 76 158 159 66 (Bf l Z a0 hw G1 G3 J _ _ _ _ _ _ cs y911 93 48 (93 :: (125 :: (93 :: (cl :: R)))) h918 n0 f927 f922 f913 f915 f914 f923 f924 f925 f926 HS hrep p916) 0 f913 [.int 93] [] Av ?_
      rintro T931 h932 v933 L934 S935 ⟨⟨y928, rfl, e929, p930⟩, -⟩
      rw [e929] at S935; clear e929
      have hr936 : y928 = (0 : Int32) := Bl.zero p930 (by decide)
      subst hr936
      refine Ac C S935 [(76, .ifCond .ne 25, 3), (79, .aload_n 1, 1), (80, .iload_n 2, 1), (81, .iload 4, 2)] 83 #[Ab J, Ab a8, Aa 3, Aa 91, Aa 0] [.int 0, .int 3, .ref a8] ?_
      have f937 := ((Exa.wr W900 (Exa.ext E876 ((f815.keep K835).keep K861))).keep K912)
      have f938 := ((Fld.other W900 (Fld.ext E876 ((f816.keep K835 (ninS (Ne.symm n31) nin0)).keep K861 (ninS (Ne.symm n31) nin0))) (Or.inl (Ne.symm n31))).keep K912 (ninS (Ne.symm n31) nin0))
      have f939 := ((Fld.other W900 (Fld.ext E876 ((f817.keep K835 (ninS (Ne.symm n31) nin0)).keep K861 (ninS (Ne.symm n31) nin0))) (Or.inl (Ne.symm n31))).keep K912 (ninS (Ne.symm n31) nin0))
      have f940 := (((((f818.keep K835 (ninS (Ne.symm n36) nin0)).keep K861 (ninS (Ne.symm n36) nin0)).ext E876).other W900 (Ne.symm n36)).keep K912 (ninS (Ne.symm n36) nin0))
      refine Cm C S935 hP1 hP2 hw 160 161 163 163 162 164 131 (own_bz430 l Z a0 hw G1 G3 a8 _ _ _ o cl h918 n0 f927 g17 g34 f922 f937 f938 f939 f940 (Ne.symm n41) HS p819) 0 f937 [.int 3, .int 0] [] Ep ?_
      rintro T946 h947 v948 L949 S950 ⟨⟨rfl, K941, f942, f943, f944, f945⟩, -⟩
      have hc951 : Df (48 :: (93 :: (125 :: (93 :: (cl :: R))))) (93 :: (125 :: (93 :: (cl :: R)))) := (own_dg0 rfl own_tmd.1)
      refine Ac C S950 [(86, .iinc 2 1, 3), (89, .iload 4, 2), (91, .ifCond .eq (-81), 3)] 10 #[Ab J, Ab a8, Aa 4, Aa 91, Aa 0] [] ?_
      obtain ⟨k952, r953, hS954, hw955, hn956, hn957, hn958⟩ := Df.hd hc951
      have hat959 : Ae cs y911 (([] : List Int32) ++ k952 :: r953) := by rw [← hS954]; exact p916
      refine Ac C S950 [(10, .aload_n 0, 1)] 11 #[Ab J, Ab a8, Aa 4, Aa 91, Aa 0] [.ref J] ?_
      have f960 := (f922.keep K941 (allS g17 (allS g34 all0)))
      have f961 := (f913.keep K941)
      have f962 := (f915.keep K941 (ninS n31 (ninS n36 nin0)))
      have f963 := (f914.keep K941 (ninS n31 (ninS n36 nin0)))
      have f964 := (f923.keep K941)
      have f965 := (f924.keep K941 (ninS n32 (ninS n38 nin0)))
      have f966 := (f925.keep K941 (ninS n32 (ninS n38 nin0)))
      have f967 := (f926.keep K941 (ninS n33 (ninS n40 nin0)))
      have f968 : n0 ≤ h947.size := (Nat.le_trans f927 K941.1)
      refine An C S950 hP1 hP2 hw 87 88 76 89 90 66 (Bo l Z a0 hw G1 G3 J _ _ _ _ _ _ cs y911 [] (k952 :: r953) h947 n0 f968 ge_J f960 f961 f962 f963 f964 f965 f966 f967 ne_x_J ne_t_J HS hrep hat959 (fun _ q => nomatch q) (Bn hw955)) 0 f961 [] [] At ?_
      rintro T975 h976 v977 L978 S979 ⟨⟨y969, rfl, K970, f971, f972, f973, p974⟩, -⟩
      refine Ac C S979 [(14, .aload_n 0, 1)] 15 #[Ab J, Ab a8, Aa 4, Aa 91, Aa 0] [.ref J] ?_
      have SW980 := rb894 _ _ 2 4 [J, a8, a18] [] S979 (((((Keep.refl _ _).wr W900 (Ad 0)).trans K912 (allS (Ad 0) all0)).trans K941 (allS (Ad 1) (allS (Ad 2) all0))).trans K970 (allS (Ad 0) all0)) (allS (As 2) (allS (As 0) (allS (As 1) all0))) all0
      refine Cv CW SW980 hF hP1 hP2 hw 151 1 28 ?_
      intro T981 h982 a983 SW984 E985
      have f986 := ((f960.keep K970 (allS ge_J all0)).ext E985)
      have f987 := (Exa.ext E985 f971)
      have f988 := (Fld.ext E985 f973)
      have f989 := (Fld.ext E985 f972)
      have f990 := (Exa.ext E985 (f964.keep K970))
      have f991 := (Fld.ext E985 (f965.keep K970 (ninS ne_x_J nin0)))
      have f992 := (Fld.ext E985 (f966.keep K970 (ninS ne_x_J nin0)))
      have f993 := ((f967.keep K970 (ninS ne_t_J nin0)).ext E985)
      have f994 : n0 ≤ h982.size := (Nat.le_trans (Nat.le_trans f968 K970.1) E985.1)
      refine Ai CW SW984 ?_
      intro vm1001 C S1002 rb1003
      refine An C S1002 hP1 hP2 hw 152 153 76 154 155 66 (Cf l Z a0 hw G1 G3 J _ _ _ _ _ _ cs y969 a983 k952 r953 h982 n0 f994 f986 f987 f988 f989 f990 f991 f992 f993 HS hrep p974) 0 f987 [.ref a983] [] Cg ?_
      rintro T996 h997 v998 L999 S1000 ⟨⟨rfl, e995⟩, -⟩
      rw [e995] at S1000; clear e995
      refine Ac C S1000 [(20, .istore_n 3, 1), (21, .iload_n 3, 1), (22, .bipush 123, 2)] 24 #[Ab J, Ab a8, Aa 4, Aa k952, Aa 0] [.int 123, .int k952] ?_
      refine Ao C S1000 .eq 9 33 (fun (hq : k952 = (123 : Int32)) => False.elim (hn956 hq)) (fun (q1004 : ¬ k952 = (123 : Int32)) => ?_)
      refine Ac C S1000 [(27, .iload_n 3, 1), (28, .bipush 91, 2)] 30 #[Ab J, Ab a8, Aa 4, Aa k952, Aa 0] [.int 91, .int k952] ?_
      refine Ao C S1000 .ne 84 114 (fun (q1005 : ¬ k952 = (91 : Int32)) => ?_) (fun (hq : k952 = (91 : Int32)) => False.elim (hn957 hq))
      have hat1006 : Ae cs y969 (48 :: (93 :: (125 :: (93 :: (cl :: R))))) := by rw [hS954]; exact p974
      refine Ac C S1000 [(114, .aload_n 0, 1), (115, .iload_n 3, 1)] 116 #[Ab J, Ab a8, Aa 4, Aa k952, Aa 0] [.int k952, .ref J] ?_
      have SW1018 := rb1003 _ _ 2 4 [] [] S1000 (Keep.refl _ _) all0 all0
      refine Cu CW SW1018 hF hP1 hP2 hw 170 171 76 172 173 66 (Fu l Z a0 hw hEL wS G1 G3 J _ _ _ _ _ _ cs y969 k952 (48 :: (93 :: (125 :: (93 :: (cl :: R))))) (93 :: (125 :: (93 :: (cl :: R)))) r953 h982 n0 f994 ge_J f986 f987 f988 f989 f990 f991 f992 f993 ne_x_J ne_t_J HS hrep hat1006 hc951 hS954) 0 f987 [.int k952] [] Ey ?_
      rintro T1019 h1020 v1021 SW1022 hg1023 ⟨y1007, rfl, K1008, f1009, f1010, f1011, p1012⟩
      refine Ai CW SW1022 ?_
      intro vm1024 C S1025 rb1026
      refine Ac C S1025 [(119, .aload_n 0, 1), (120, .aload_n 1, 1), (121, .iload_n 2, 1)] 122 #[Ab J, Ab a8, Aa 4, Aa k952, Aa 0] [.int 4, .ref a8, .ref J] ?_
      have f1027 := (f986.keep K1008 (allS ge_J all0))
      have f1028 := (f990.keep K1008)
      have f1029 := (f991.keep K1008 (ninS ne_x_J nin0))
      have f1030 := (f992.keep K1008 (ninS ne_x_J nin0))
      have f1031 := (f993.keep K1008 (ninS ne_t_J nin0))
      have f1032 := ((Exa.ext E985 (f942.keep K970)).keep K1008)
      have f1033 := ((Fld.ext E985 (f943.keep K970 (ninS (Ne.symm n31) nin0))).keep K1008 (ninS (Ne.symm n31) nin0))
      have f1034 := ((Fld.ext E985 (f944.keep K970 (ninS (Ne.symm n31) nin0))).keep K1008 (ninS (Ne.symm n31) nin0))
      have f1035 := (((f945.keep K970 (ninS (Ne.symm n36) nin0)).ext E985).keep K1008 (ninS (Ne.symm n36) nin0))
      have f1036 : n0 ≤ h1020.size := (Nat.le_trans f994 K1008.1)
      have SW1048 := rb1026 _ _ 2 4 [] [] S1025 (Keep.refl _ _) all0 all0
      refine Cu CW SW1048 hF hP1 hP2 hw 186 187 76 188 189 66 (own_cc4 l Z a0 hw hEL wS G1 G3 J _ _ _ _ _ _ cs y1007 a8 _ _ _ o cl R h1020 n0 f1036 ge_J f1027 f1009 f1011 f1010 f1028 f1029 f1030 f1031 f1032 f1033 f1034 f1035 ne_x_J ne_t_J (Ne.symm n31) (Ne.symm n36) HS hrep p1012 p819) 0 f1009 [.ref a8, .int 4] [] Dy ?_
      rintro T1049 h1050 v1051 SW1052 hg1053 ⟨y1037, rfl, K1038, f1039, f1040, f1041, p1042⟩
      refine Ai CW SW1052 ?_
      intro vm1054 C S1055 rb1056
      refine Ac C S1055 [(125, .istore_n 2, 1), (126, .iload_n 2, 1), (127, .ifCond .ne 4, 3)] 130 #[Ab J, Ab a8, Aa 0, Aa k952, Aa 0] [] ?_
      have SW1057 := rb1056 _ _ 2 4 [] [] S1055 (Keep.refl _ _) all0 all0
      refine Ch CW SW1057 hF (by decide +kernel) (by decide) (by decide) ?_
      have o1058 : h0.size ≤ a18 := Nat.le_trans (Nat.le_refl _) o43
      have o1059 : h0.size ≤ a8 := Nat.le_trans (Nat.le_refl _) o42
      exact ⟨y1037, rfl, ((((((((((((((((((((((((((((((((((Keep.refl _ _).trans K51 (allS (Ad 0) all0)).trans K64 (allS (Ad 0) all0)).ext E79).wr W103 (Ad 0)).trans K115 (allS (Ad 0) all0)).trans K144 (allS (Or.inr o1059) (allS (Or.inr o1058) all0))).trans K173 (allS (Ad 0) all0)).ext E188).trans K211 (allS (Ad 0) all0)).trans K241 (allS (Ad 0) all0)).trans K275 (allS (Ad 0) all0)).ext E290).trans K313 (allS (Ad 0) all0)).trans K343 (allS (Ad 0) all0)).trans K377 (allS (Ad 0) all0)).ext E392).trans K415 (allS (Ad 0) all0)).trans K445 (allS (Ad 0) all0)).trans K733 (allS (Ad 0) all0)).ext E748).wr W772 (Ad 0)).trans K784 (allS (Ad 0) all0)).trans K814 (allS (Or.inr o1059) (allS (Or.inr o1058) all0))).trans K835 (allS (Ad 0) all0)).trans K861 (allS (Ad 0) all0)).ext E876).wr W900 (Ad 0)).trans K912 (allS (Ad 0) all0)).trans K941 (allS (Or.inr o1059) (allS (Or.inr o1058) all0))).trans K970 (allS (Ad 0) all0)).ext E985).trans K1008 (allS (Ad 0) all0)).trans K1038 (allS (Ad 0) all0)), f1039, f1040, f1041, p1042⟩
    · refine Ai CW SW464 ?_
      intro vm1060 C S1061 rb1062
      refine Ac C S1061 [(10, .aload_n 0, 1)] 11 #[Ab J, Ab a8, Aa 2, Aa k362, Aa 0] [.ref J] ?_
      have f1063 := (f434.keep K445 (allS ge_J all0))
      have f1064 := (f435.keep K445)
      have f1065 := (f436.keep K445 (ninS ne_x_J nin0))
      have f1066 := (f437.keep K445 (ninS ne_x_J nin0))
      have f1067 := (f438.keep K445 (ninS ne_t_J nin0))
      have f1068 : n0 ≤ h457.size := (Nat.le_trans f443 K445.1)
      refine An C S1061 hP1 hP2 hw 87 88 76 89 90 66 (Bo l Z a0 hw G1 G3 J _ _ _ _ _ _ cs y444 [] (123 :: (([] : List Int32) ++ 34 :: (34 :: (58 :: (49 :: (44 :: (34 :: (34 :: (58 :: (91 :: (91 :: (93 :: (93 :: (125 :: (93 :: (cl :: R)))))))))))))))) h457 n0 f1068 ge_J f1063 f446 f448 f447 f1064 f1065 f1066 f1067 ne_x_J ne_t_J HS hrep p449 (fun _ q => nomatch q) (Bn (by unfold Aw; decide))) 0 f446 [] [] At ?_
      rintro T1075 h1076 v1077 L1078 S1079 ⟨⟨y1069, rfl, K1070, f1071, f1072, f1073, p1074⟩, -⟩
      refine Ac C S1079 [(14, .aload_n 0, 1)] 15 #[Ab J, Ab a8, Aa 2, Aa k362, Aa 0] [.ref J] ?_
      have SW1080 := rb1062 _ _ 2 4 [J] [] S1079 ((Keep.refl _ _).trans K1070 (allS (Ad 0) all0)) (allS (As 2) all0) all0
      refine Cv CW SW1080 hF hP1 hP2 hw 151 1 28 ?_
      intro T1081 h1082 a1083 SW1084 E1085
      have f1086 := ((f1063.keep K1070 (allS ge_J all0)).ext E1085)
      have f1087 := (Exa.ext E1085 f1071)
      have f1088 := (Fld.ext E1085 f1073)
      have f1089 := (Fld.ext E1085 f1072)
      have f1090 := (Exa.ext E1085 (f1064.keep K1070))
      have f1091 := (Fld.ext E1085 (f1065.keep K1070 (ninS ne_x_J nin0)))
      have f1092 := (Fld.ext E1085 (f1066.keep K1070 (ninS ne_x_J nin0)))
      have f1093 := ((f1067.keep K1070 (ninS ne_t_J nin0)).ext E1085)
      have f1094 : n0 ≤ h1082.size := (Nat.le_trans (Nat.le_trans f1068 K1070.1) E1085.1)
      refine Ai CW SW1084 ?_
      intro vm1101 C S1102 rb1103
      refine An C S1102 hP1 hP2 hw 152 153 76 154 155 66 (Cf l Z a0 hw G1 G3 J _ _ _ _ _ _ cs y1069 a1083 123 (([] : List Int32) ++ 34 :: (34 :: (58 :: (49 :: (44 :: (34 :: (34 :: (58 :: (91 :: (91 :: (93 :: (93 :: (125 :: (93 :: (cl :: R))))))))))))))) h1082 n0 f1094 f1086 f1087 f1088 f1089 f1090 f1091 f1092 f1093 HS hrep p1074) 0 f1087 [.ref a1083] [] Cg ?_
      rintro T1096 h1097 v1098 L1099 S1100 ⟨⟨rfl, e1095⟩, -⟩
      rw [e1095] at S1100; clear e1095
      refine Ac C S1100 [(20, .istore_n 3, 1), (21, .iload_n 3, 1), (22, .bipush 123, 2), (24, .if_icmp .eq 9, 3), (33, .iload_n 3, 1), (34, .bipush 123, 2), (36, .if_icmp .ne 7, 3), (39, .iconst 1, 1), (40, .goto 4, 3), (44, .istore 4, 2), (46, .aload_n 0, 1), (47, .dup, 1)] 48 #[Ab J, Ab a8, Aa 2, Aa 123, Aa 1] [.ref J, .ref J] ?_
      refine Ah C S1100 hw 91 f1089 ?_
      intro T1104 S1105
      refine Ac C S1105 [(51, .iconst 1, 1), (52, .iadd, 1)] 53 #[Ab J, Ab a8, Aa 2, Aa 123, Aa 1] [.int ((Int32.ofNat y1069) + (1 : Int32)), .ref J] ?_
      rw [show ((Int32.ofNat y1069) + (1 : Int32)) = (Int32.ofNat (y1069 + 1)) from Af _]
      refine Bh C S1105 hw 91 92 76 f1089 f1087 Ax ge_J ?_
      intro T1106 h1108 S1107 W1109
      have f1110 : Fld Z h1108 J "com/example/limit1/limit1/JsonText" "position" "I" (.int (Int32.ofNat (y1069 + 1))) := Fld.same W1109 f1089
      have hat1111 := (Ae.hd p1074).2.2
      refine Ac C S1107 [(56, .aload_n 0, 1)] 57 #[Ab J, Ab a8, Aa 2, Aa 123, Aa 1] [.ref J] ?_
      have f1112 := (f1086.wr W1109 ge_J)
      have f1113 := (Exa.wr W1109 f1087)
      have f1114 := (Fld.other W1109 f1088 (Or.inr (Bb hw)))
      have f1115 := (Exa.wr W1109 f1090)
      have f1116 := (Fld.other W1109 f1091 (Or.inl ne_x_J))
      have f1117 := (Fld.other W1109 f1092 (Or.inl ne_x_J))
      have f1118 := (f1093.other W1109 ne_t_J)
      have f1119 : n0 ≤ h1108.size := (by rw [W1109.size]; exact f1094)
      refine An C S1107 hP1 hP2 hw 87 88 76 89 90 66 (Bo l Z a0 hw G1 G3 J _ _ _ _ _ _ cs (y1069 + 1) [] (34 :: (34 :: (58 :: (49 :: (44 :: (34 :: (34 :: (58 :: (91 :: (91 :: (93 :: (93 :: (125 :: (93 :: (cl :: R))))))))))))))) h1108 n0 f1119 ge_J f1112 f1113 f1114 f1110 f1115 f1116 f1117 f1118 ne_x_J ne_t_J HS hrep hat1111 (fun _ q => nomatch q) (Bn (by unfold Aw; decide))) 0 f1113 [] [] At ?_
      rintro T1126 h1127 v1128 L1129 S1130 ⟨⟨y1120, rfl, K1121, f1122, f1123, f1124, p1125⟩, -⟩
      refine Ac C S1130 [(60, .aload_n 0, 1), (61, .iload 4, 2), (63, .ifCond .eq 8, 3), (66, .bipush 125, 2), (68, .goto 5, 3)] 73 #[Ab J, Ab a8, Aa 2, Aa 123, Aa 1] [.int 125, .ref J] ?_
      have f1131 := (f1112.keep K1121 (allS ge_J all0))
      have f1132 := (f1115.keep K1121)
      have f1133 := (f1116.keep K1121 (ninS ne_x_J nin0))
      have f1134 := (f1117.keep K1121 (ninS ne_x_J nin0))
      have f1135 := (f1118.keep K1121 (ninS ne_t_J nin0))
      have f1136 : n0 ≤ h1127.size := (Nat.le_trans f1119 K1121.1)
      refine An C S1130 hP1 hP2 hw 156 157 76 158 159 66 (Bf l Z a0 hw G1 G3 J _ _ _ _ _ _ cs y1120 125 34 (34 :: (58 :: (49 :: (44 :: (34 :: (34 :: (58 :: (91 :: (91 :: (93 :: (93 :: (125 :: (93 :: (cl :: R)))))))))))))) h1127 n0 f1136 f1131 f1122 f1124 f1123 f1132 f1133 f1134 f1135 HS hrep p1125) 0 f1122 [.int 125] [] Av ?_
      rintro T1140 h1141 v1142 L1143 S1144 ⟨⟨y1137, rfl, e1138, p1139⟩, -⟩
      rw [e1138] at S1144; clear e1138
      have hr1145 : y1137 = (0 : Int32) := Bl.zero p1139 (by decide)
      subst hr1145
      refine Ac C S1144 [(76, .ifCond .ne 25, 3), (79, .aload_n 1, 1), (80, .iload_n 2, 1), (81, .iload 4, 2)] 83 #[Ab J, Ab a8, Aa 2, Aa 123, Aa 1] [.int 1, .int 2, .ref a8] ?_
      have f1146 := ((Exa.wr W1109 (Exa.ext E1085 ((f439.keep K445).keep K1070))).keep K1121)
      have f1147 := ((Fld.other W1109 (Fld.ext E1085 ((f440.keep K445 (ninS (Ne.symm n31) nin0)).keep K1070 (ninS (Ne.symm n31) nin0))) (Or.inl (Ne.symm n31))).keep K1121 (ninS (Ne.symm n31) nin0))
      have f1148 := ((Fld.other W1109 (Fld.ext E1085 ((f441.keep K445 (ninS (Ne.symm n31) nin0)).keep K1070 (ninS (Ne.symm n31) nin0))) (Or.inl (Ne.symm n31))).keep K1121 (ninS (Ne.symm n31) nin0))
      have f1149 := (((((f442.keep K445 (ninS (Ne.symm n36) nin0)).keep K1070 (ninS (Ne.symm n36) nin0)).ext E1085).other W1109 (Ne.symm n36)).keep K1121 (ninS (Ne.symm n36) nin0))
      refine Cm C S1144 hP1 hP2 hw 160 161 163 163 162 164 131 (own_bz121 l Z a0 hw G1 G3 a8 _ _ _ _ o cl h1127 n0 f1136 g17 g34 f1131 f1146 f1147 f1148 f1149 (Ne.symm n41) HS hst) 0 f1146 [.int 2, .int 1] [] Ep ?_
      rintro T1157 h1158 v1159 L1160 S1161 ⟨⟨y1150, rfl, K1151, f1152, f1153, f1154, f1155, p1156⟩, -⟩
      refine Ac C S1161 [(86, .iinc 2 1, 3), (89, .iload 4, 2), (91, .ifCond .eq (-81), 3), (94, .aload_n 0, 1)] 95 #[Ab J, Ab a8, Aa 3, Aa 123, Aa 1] [.ref J] ?_
      have f1162 := (f1131.keep K1151 (allS g17 (allS g34 all0)))
      have f1163 := (f1122.keep K1151)
      have f1164 := (f1124.keep K1151 (ninS n31 (ninS n36 nin0)))
      have f1165 := (f1123.keep K1151 (ninS n31 (ninS n36 nin0)))
      have f1166 := (f1132.keep K1151)
      have f1167 := (f1133.keep K1151 (ninS n32 (ninS n38 nin0)))
      have f1168 := (f1134.keep K1151 (ninS n32 (ninS n38 nin0)))
      have f1169 := (f1135.keep K1151 (ninS n33 (ninS n40 nin0)))
      have f1170 : n0 ≤ h1158.size := (Nat.le_trans f1136 K1151.1)
      have SW1182 := rb1103 _ _ 2 4 [J, a8, a18] [] S1161 ((((Keep.refl _ _).wr W1109 (Ad 0)).trans K1121 (allS (Ad 0) all0)).trans K1151 (allS (Ad 1) (allS (Ad 2) all0))) (allS (As 2) (allS (As 0) (allS (As 1) all0))) all0
      refine Cu CW SW1182 hF hP1 hP2 hw 298 299 76 300 301 66 (own_cmn l Z a0 hw hEL wS G1 G3 J _ _ _ _ _ _ cs y1120 [] [] [] (49 :: (44 :: (34 :: (34 :: (58 :: (91 :: (91 :: (93 :: (93 :: (125 :: (93 :: (cl :: R)))))))))))) h1158 n0 f1170 ge_J f1162 f1163 f1164 f1165 f1166 f1167 f1168 f1169 ne_x_J ne_t_J HS hrep p1125 (fun _ q => nomatch q) own_B0 (fun _ q => nomatch q)) 0 f1163 [] [] At ?_
      rintro T1183 h1184 v1185 SW1186 hg1187 ⟨y1171, rfl, K1172, f1173, f1174, f1175, p1176⟩
      refine Ai CW SW1186 ?_
      intro vm1188 C S1189 rb1190
      have hc1191 : Df (49 :: (44 :: (34 :: (34 :: (58 :: (91 :: (91 :: (93 :: (93 :: (125 :: (93 :: (cl :: R)))))))))))) (44 :: (34 :: (34 :: (58 :: (91 :: (91 :: (93 :: (93 :: (125 :: (93 :: (cl :: R))))))))))) := (own_dgt (by unfold Bu; decide) (by decide) rfl own_tmd.2)
      refine Ac C S1189 [(98, .goto (-88), 3)] 10 #[Ab J, Ab a8, Aa 3, Aa 123, Aa 1] [] ?_
      obtain ⟨k1192, r1193, hS1194, hw1195, hn1196, hn1197, hn1198⟩ := Df.hd hc1191
      have hat1199 : Ae cs y1171 (([] : List Int32) ++ k1192 :: r1193) := by rw [← hS1194]; exact p1176
      refine Ac C S1189 [(10, .aload_n 0, 1)] 11 #[Ab J, Ab a8, Aa 3, Aa 123, Aa 1] [.ref J] ?_
      have f1200 := (f1162.keep K1172 (allS ge_J all0))
      have f1201 := (f1166.keep K1172)
      have f1202 := (f1167.keep K1172 (ninS ne_x_J nin0))
      have f1203 := (f1168.keep K1172 (ninS ne_x_J nin0))
      have f1204 := (f1169.keep K1172 (ninS ne_t_J nin0))
      have f1205 : n0 ≤ h1184.size := (Nat.le_trans f1170 K1172.1)
      refine An C S1189 hP1 hP2 hw 87 88 76 89 90 66 (Bo l Z a0 hw G1 G3 J _ _ _ _ _ _ cs y1171 [] (k1192 :: r1193) h1184 n0 f1205 ge_J f1200 f1173 f1175 f1174 f1201 f1202 f1203 f1204 ne_x_J ne_t_J HS hrep hat1199 (fun _ q => nomatch q) (Bn hw1195)) 0 f1173 [] [] At ?_
      rintro T1212 h1213 v1214 L1215 S1216 ⟨⟨y1206, rfl, K1207, f1208, f1209, f1210, p1211⟩, -⟩
      refine Ac C S1216 [(14, .aload_n 0, 1)] 15 #[Ab J, Ab a8, Aa 3, Aa 123, Aa 1] [.ref J] ?_
      have SW1217 := rb1190 _ _ 2 4 [J] [] S1216 ((Keep.refl _ _).trans K1207 (allS (Ad 0) all0)) (allS (As 2) all0) all0
      refine Cv CW SW1217 hF hP1 hP2 hw 151 1 28 ?_
      intro T1218 h1219 a1220 SW1221 E1222
      have f1223 := ((f1200.keep K1207 (allS ge_J all0)).ext E1222)
      have f1224 := (Exa.ext E1222 f1208)
      have f1225 := (Fld.ext E1222 f1210)
      have f1226 := (Fld.ext E1222 f1209)
      have f1227 := (Exa.ext E1222 (f1201.keep K1207))
      have f1228 := (Fld.ext E1222 (f1202.keep K1207 (ninS ne_x_J nin0)))
      have f1229 := (Fld.ext E1222 (f1203.keep K1207 (ninS ne_x_J nin0)))
      have f1230 := ((f1204.keep K1207 (ninS ne_t_J nin0)).ext E1222)
      have f1231 : n0 ≤ h1219.size := (Nat.le_trans (Nat.le_trans f1205 K1207.1) E1222.1)
      refine Ai CW SW1221 ?_
      intro vm1238 C S1239 rb1240
      refine An C S1239 hP1 hP2 hw 152 153 76 154 155 66 (Cf l Z a0 hw G1 G3 J _ _ _ _ _ _ cs y1206 a1220 k1192 r1193 h1219 n0 f1231 f1223 f1224 f1225 f1226 f1227 f1228 f1229 f1230 HS hrep p1211) 0 f1224 [.ref a1220] [] Cg ?_
      rintro T1233 h1234 v1235 L1236 S1237 ⟨⟨rfl, e1232⟩, -⟩
      rw [e1232] at S1237; clear e1232
      refine Ac C S1237 [(20, .istore_n 3, 1), (21, .iload_n 3, 1), (22, .bipush 123, 2)] 24 #[Ab J, Ab a8, Aa 3, Aa k1192, Aa 1] [.int 123, .int k1192] ?_
      refine Ao C S1237 .eq 9 33 (fun (hq : k1192 = (123 : Int32)) => False.elim (hn1196 hq)) (fun (q1241 : ¬ k1192 = (123 : Int32)) => ?_)
      refine Ac C S1237 [(27, .iload_n 3, 1), (28, .bipush 91, 2)] 30 #[Ab J, Ab a8, Aa 3, Aa k1192, Aa 1] [.int 91, .int k1192] ?_
      refine Ao C S1237 .ne 84 114 (fun (q1242 : ¬ k1192 = (91 : Int32)) => ?_) (fun (hq : k1192 = (91 : Int32)) => False.elim (hn1197 hq))
      have hat1243 : Ae cs y1206 (49 :: (44 :: (34 :: (34 :: (58 :: (91 :: (91 :: (93 :: (93 :: (125 :: (93 :: (cl :: R)))))))))))) := by rw [hS1194]; exact p1211
      refine Ac C S1237 [(114, .aload_n 0, 1), (115, .iload_n 3, 1)] 116 #[Ab J, Ab a8, Aa 3, Aa k1192, Aa 1] [.int k1192, .ref J] ?_
      have SW1255 := rb1240 _ _ 2 4 [] [] S1237 (Keep.refl _ _) all0 all0
      refine Cu CW SW1255 hF hP1 hP2 hw 170 171 76 172 173 66 (Fu l Z a0 hw hEL wS G1 G3 J _ _ _ _ _ _ cs y1206 k1192 (49 :: (44 :: (34 :: (34 :: (58 :: (91 :: (91 :: (93 :: (93 :: (125 :: (93 :: (cl :: R)))))))))))) (44 :: (34 :: (34 :: (58 :: (91 :: (91 :: (93 :: (93 :: (125 :: (93 :: (cl :: R))))))))))) r1193 h1219 n0 f1231 ge_J f1223 f1224 f1225 f1226 f1227 f1228 f1229 f1230 ne_x_J ne_t_J HS hrep hat1243 hc1191 hS1194) 0 f1224 [.int k1192] [] Ey ?_
      rintro T1256 h1257 v1258 SW1259 hg1260 ⟨y1244, rfl, K1245, f1246, f1247, f1248, p1249⟩
      refine Ai CW SW1259 ?_
      intro vm1261 C S1262 rb1263
      refine Ac C S1262 [(119, .aload_n 0, 1), (120, .aload_n 1, 1), (121, .iload_n 2, 1)] 122 #[Ab J, Ab a8, Aa 3, Aa k1192, Aa 1] [.int 3, .ref a8, .ref J] ?_
      have f1264 := (f1223.keep K1245 (allS ge_J all0))
      have f1265 := (f1227.keep K1245)
      have f1266 := (f1228.keep K1245 (ninS ne_x_J nin0))
      have f1267 := (f1229.keep K1245 (ninS ne_x_J nin0))
      have f1268 := (f1230.keep K1245 (ninS ne_t_J nin0))
      have f1269 := ((Exa.ext E1222 ((f1152.keep K1172).keep K1207)).keep K1245)
      have f1270 := ((Fld.ext E1222 ((f1153.keep K1172 (ninS (Ne.symm n31) nin0)).keep K1207 (ninS (Ne.symm n31) nin0))).keep K1245 (ninS (Ne.symm n31) nin0))
      have f1271 := ((Fld.ext E1222 ((f1154.keep K1172 (ninS (Ne.symm n31) nin0)).keep K1207 (ninS (Ne.symm n31) nin0))).keep K1245 (ninS (Ne.symm n31) nin0))
      have f1272 := ((((f1155.keep K1172 (ninS (Ne.symm n36) nin0)).keep K1207 (ninS (Ne.symm n36) nin0)).ext E1222).keep K1245 (ninS (Ne.symm n36) nin0))
      have f1273 : n0 ≤ h1257.size := (Nat.le_trans f1231 K1245.1)
      have SW1285 := rb1263 _ _ 2 4 [] [] S1262 (Keep.refl _ _) all0 all0
      refine Cu CW SW1285 hF hP1 hP2 hw 186 187 76 188 189 66 (own_ccm l Z a0 hw hEL wS G1 G3 J _ _ _ _ _ _ cs y1244 a8 _ _ _ o cl (91 :: (91 :: (93 :: (93 :: (125 :: (93 :: (cl :: R))))))) h1257 n0 f1273 ge_J f1264 f1246 f1248 f1247 f1265 f1266 f1267 f1268 f1269 f1270 f1271 f1272 ne_x_J ne_t_J (Ne.symm n31) (Ne.symm n36) HS hrep p1249 p1156) 0 f1246 [.ref a8, .int 3] [] Dy ?_
      rintro T1286 h1287 v1288 SW1289 hg1290 ⟨y1274, rfl, K1275, f1276, f1277, f1278, p1279⟩
      refine Ai CW SW1289 ?_
      intro vm1291 C S1292 rb1293
      refine Ac C S1292 [(125, .istore_n 2, 1), (126, .iload_n 2, 1), (127, .ifCond .ne 4, 3), (131, .goto (-121), 3), (10, .aload_n 0, 1)] 11 #[Ab J, Ab a8, Aa 3, Aa k1192, Aa 1] [.ref J] ?_
      have f1294 := (f1264.keep K1275 (allS ge_J all0))
      have f1295 := (f1265.keep K1275)
      have f1296 := (f1266.keep K1275 (ninS ne_x_J nin0))
      have f1297 := (f1267.keep K1275 (ninS ne_x_J nin0))
      have f1298 := (f1268.keep K1275 (ninS ne_t_J nin0))
      have f1299 : n0 ≤ h1287.size := (Nat.le_trans f1273 K1275.1)
      refine An C S1292 hP1 hP2 hw 87 88 76 89 90 66 (Bo l Z a0 hw G1 G3 J _ _ _ _ _ _ cs y1274 [] (91 :: (([] : List Int32) ++ 91 :: (93 :: (93 :: (125 :: (93 :: (cl :: R))))))) h1287 n0 f1299 ge_J f1294 f1276 f1278 f1277 f1295 f1296 f1297 f1298 ne_x_J ne_t_J HS hrep p1279 (fun _ q => nomatch q) (Bn (by unfold Aw; decide))) 0 f1276 [] [] At ?_
      rintro T1306 h1307 v1308 L1309 S1310 ⟨⟨y1300, rfl, K1301, f1302, f1303, f1304, p1305⟩, -⟩
      refine Ac C S1310 [(14, .aload_n 0, 1)] 15 #[Ab J, Ab a8, Aa 3, Aa k1192, Aa 1] [.ref J] ?_
      have SW1311 := rb1293 _ _ 2 4 [J] [] S1310 ((Keep.refl _ _).trans K1301 (allS (Ad 0) all0)) (allS (As 2) all0) all0
      refine Cv CW SW1311 hF hP1 hP2 hw 151 1 28 ?_
      intro T1312 h1313 a1314 SW1315 E1316
      have f1317 := ((f1294.keep K1301 (allS ge_J all0)).ext E1316)
      have f1318 := (Exa.ext E1316 f1302)
      have f1319 := (Fld.ext E1316 f1304)
      have f1320 := (Fld.ext E1316 f1303)
      have f1321 := (Exa.ext E1316 (f1295.keep K1301))
      have f1322 := (Fld.ext E1316 (f1296.keep K1301 (ninS ne_x_J nin0)))
      have f1323 := (Fld.ext E1316 (f1297.keep K1301 (ninS ne_x_J nin0)))
      have f1324 := ((f1298.keep K1301 (ninS ne_t_J nin0)).ext E1316)
      have f1325 : n0 ≤ h1313.size := (Nat.le_trans (Nat.le_trans f1299 K1301.1) E1316.1)
      refine Ai CW SW1315 ?_
      intro vm1332 C S1333 rb1334
      refine An C S1333 hP1 hP2 hw 152 153 76 154 155 66 (Cf l Z a0 hw G1 G3 J _ _ _ _ _ _ cs y1300 a1314 91 (([] : List Int32) ++ 91 :: (93 :: (93 :: (125 :: (93 :: (cl :: R)))))) h1313 n0 f1325 f1317 f1318 f1319 f1320 f1321 f1322 f1323 f1324 HS hrep p1305) 0 f1318 [.ref a1314] [] Cg ?_
      rintro T1327 h1328 v1329 L1330 S1331 ⟨⟨rfl, e1326⟩, -⟩
      rw [e1326] at S1331; clear e1326
      refine Ac C S1331 [(20, .istore_n 3, 1), (21, .iload_n 3, 1), (22, .bipush 123, 2), (24, .if_icmp .eq 9, 3), (27, .iload_n 3, 1), (28, .bipush 91, 2), (30, .if_icmp .ne 84, 3), (33, .iload_n 3, 1), (34, .bipush 123, 2), (36, .if_icmp .ne 7, 3), (43, .iconst 0, 1), (44, .istore 4, 2), (46, .aload_n 0, 1), (47, .dup, 1)] 48 #[Ab J, Ab a8, Aa 3, Aa 91, Aa 0] [.ref J, .ref J] ?_
      refine Ah C S1331 hw 91 f1320 ?_
      intro T1335 S1336
      refine Ac C S1336 [(51, .iconst 1, 1), (52, .iadd, 1)] 53 #[Ab J, Ab a8, Aa 3, Aa 91, Aa 0] [.int ((Int32.ofNat y1300) + (1 : Int32)), .ref J] ?_
      rw [show ((Int32.ofNat y1300) + (1 : Int32)) = (Int32.ofNat (y1300 + 1)) from Af _]
      refine Bh C S1336 hw 91 92 76 f1320 f1318 Ax ge_J ?_
      intro T1337 h1339 S1338 W1340
      have f1341 : Fld Z h1339 J "com/example/limit1/limit1/JsonText" "position" "I" (.int (Int32.ofNat (y1300 + 1))) := Fld.same W1340 f1320
      have hat1342 := (Ae.hd p1305).2.2
      refine Ac C S1338 [(56, .aload_n 0, 1)] 57 #[Ab J, Ab a8, Aa 3, Aa 91, Aa 0] [.ref J] ?_
      have f1343 := (f1317.wr W1340 ge_J)
      have f1344 := (Exa.wr W1340 f1318)
      have f1345 := (Fld.other W1340 f1319 (Or.inr (Bb hw)))
      have f1346 := (Exa.wr W1340 f1321)
      have f1347 := (Fld.other W1340 f1322 (Or.inl ne_x_J))
      have f1348 := (Fld.other W1340 f1323 (Or.inl ne_x_J))
      have f1349 := (f1324.other W1340 ne_t_J)
      have f1350 : n0 ≤ h1339.size := (by rw [W1340.size]; exact f1325)
      refine An C S1338 hP1 hP2 hw 87 88 76 89 90 66 (Bo l Z a0 hw G1 G3 J _ _ _ _ _ _ cs (y1300 + 1) [] (91 :: (93 :: (93 :: (125 :: (93 :: (cl :: R)))))) h1339 n0 f1350 ge_J f1343 f1344 f1345 f1341 f1346 f1347 f1348 f1349 ne_x_J ne_t_J HS hrep hat1342 (fun _ q => nomatch q) (Bn (by unfold Aw; decide))) 0 f1344 [] [] At ?_
      rintro T1357 h1358 v1359 L1360 S1361 ⟨⟨y1351, rfl, K1352, f1353, f1354, f1355, p1356⟩, -⟩
      refine Ac C S1361 [(60, .aload_n 0, 1), (61, .iload 4, 2), (63, .ifCond .eq 8, 3), (71, .bipush 93, 2)] 73 #[Ab J, Ab a8, Aa 3, Aa 91, Aa 0] [.int 93, .ref J] ?_
      have f1362 := (f1343.keep K1352 (allS ge_J all0))
      have f1363 := (f1346.keep K1352)
      have f1364 := (f1347.keep K1352 (ninS ne_x_J nin0))
      have f1365 := (f1348.keep K1352 (ninS ne_x_J nin0))
      have f1366 := (f1349.keep K1352 (ninS ne_t_J nin0))
      have f1367 : n0 ≤ h1358.size := (Nat.le_trans f1350 K1352.1)
      refine An C S1361 hP1 hP2 hw 156 157 76 158 159 66 (Bf l Z a0 hw G1 G3 J _ _ _ _ _ _ cs y1351 93 91 (93 :: (93 :: (125 :: (93 :: (cl :: R))))) h1358 n0 f1367 f1362 f1353 f1355 f1354 f1363 f1364 f1365 f1366 HS hrep p1356) 0 f1353 [.int 93] [] Av ?_
      rintro T1371 h1372 v1373 L1374 S1375 ⟨⟨y1368, rfl, e1369, p1370⟩, -⟩
      rw [e1369] at S1375; clear e1369
      have hr1376 : y1368 = (0 : Int32) := Bl.zero p1370 (by decide)
      subst hr1376
      refine Ac C S1375 [(76, .ifCond .ne 25, 3), (79, .aload_n 1, 1), (80, .iload_n 2, 1), (81, .iload 4, 2)] 83 #[Ab J, Ab a8, Aa 3, Aa 91, Aa 0] [.int 0, .int 3, .ref a8] ?_
      have f1377 := ((Exa.wr W1340 (Exa.ext E1316 ((f1269.keep K1275).keep K1301))).keep K1352)
      have f1378 := ((Fld.other W1340 (Fld.ext E1316 ((f1270.keep K1275 (ninS (Ne.symm n31) nin0)).keep K1301 (ninS (Ne.symm n31) nin0))) (Or.inl (Ne.symm n31))).keep K1352 (ninS (Ne.symm n31) nin0))
      have f1379 := ((Fld.other W1340 (Fld.ext E1316 ((f1271.keep K1275 (ninS (Ne.symm n31) nin0)).keep K1301 (ninS (Ne.symm n31) nin0))) (Or.inl (Ne.symm n31))).keep K1352 (ninS (Ne.symm n31) nin0))
      have f1380 := (((((f1272.keep K1275 (ninS (Ne.symm n36) nin0)).keep K1301 (ninS (Ne.symm n36) nin0)).ext E1316).other W1340 (Ne.symm n36)).keep K1352 (ninS (Ne.symm n36) nin0))
      refine Cm C S1375 hP1 hP2 hw 160 161 163 163 162 164 131 (own_bz430 l Z a0 hw G1 G3 a8 _ _ _ o cl h1358 n0 f1367 g17 g34 f1362 f1377 f1378 f1379 f1380 (Ne.symm n41) HS p1156) 0 f1377 [.int 3, .int 0] [] Ep ?_
      rintro T1386 h1387 v1388 L1389 S1390 ⟨⟨rfl, K1381, f1382, f1383, f1384, f1385⟩, -⟩
      refine Ac C S1390 [(86, .iinc 2 1, 3), (89, .iload 4, 2), (91, .ifCond .eq (-81), 3), (10, .aload_n 0, 1)] 11 #[Ab J, Ab a8, Aa 4, Aa 91, Aa 0] [.ref J] ?_
      have f1391 := (f1362.keep K1381 (allS g17 (allS g34 all0)))
      have f1392 := (f1353.keep K1381)
      have f1393 := (f1355.keep K1381 (ninS n31 (ninS n36 nin0)))
      have f1394 := (f1354.keep K1381 (ninS n31 (ninS n36 nin0)))
      have f1395 := (f1363.keep K1381)
      have f1396 := (f1364.keep K1381 (ninS n32 (ninS n38 nin0)))
      have f1397 := (f1365.keep K1381 (ninS n32 (ninS n38 nin0)))
      have f1398 := (f1366.keep K1381 (ninS n33 (ninS n40 nin0)))
      have f1399 : n0 ≤ h1387.size := (Nat.le_trans f1367 K1381.1)
      refine An C S1390 hP1 hP2 hw 87 88 76 89 90 66 (Bo l Z a0 hw G1 G3 J _ _ _ _ _ _ cs y1351 [] (91 :: (93 :: (93 :: (125 :: (93 :: (cl :: R)))))) h1387 n0 f1399 ge_J f1391 f1392 f1393 f1394 f1395 f1396 f1397 f1398 ne_x_J ne_t_J HS hrep p1356 (fun _ q => nomatch q) (Bn (by unfold Aw; decide))) 0 f1392 [] [] At ?_
      rintro T1406 h1407 v1408 L1409 S1410 ⟨⟨y1400, rfl, K1401, f1402, f1403, f1404, p1405⟩, -⟩
      refine Ac C S1410 [(14, .aload_n 0, 1)] 15 #[Ab J, Ab a8, Aa 4, Aa 91, Aa 0] [.ref J] ?_
      have SW1411 := rb1334 _ _ 2 4 [J, a8, a18] [] S1410 (((((Keep.refl _ _).wr W1340 (Ad 0)).trans K1352 (allS (Ad 0) all0)).trans K1381 (allS (Ad 1) (allS (Ad 2) all0))).trans K1401 (allS (Ad 0) all0)) (allS (As 2) (allS (As 0) (allS (As 1) all0))) all0
      refine Cv CW SW1411 hF hP1 hP2 hw 151 1 28 ?_
      intro T1412 h1413 a1414 SW1415 E1416
      have f1417 := ((f1391.keep K1401 (allS ge_J all0)).ext E1416)
      have f1418 := (Exa.ext E1416 f1402)
      have f1419 := (Fld.ext E1416 f1404)
      have f1420 := (Fld.ext E1416 f1403)
      have f1421 := (Exa.ext E1416 (f1395.keep K1401))
      have f1422 := (Fld.ext E1416 (f1396.keep K1401 (ninS ne_x_J nin0)))
      have f1423 := (Fld.ext E1416 (f1397.keep K1401 (ninS ne_x_J nin0)))
      have f1424 := ((f1398.keep K1401 (ninS ne_t_J nin0)).ext E1416)
      have f1425 : n0 ≤ h1413.size := (Nat.le_trans (Nat.le_trans f1399 K1401.1) E1416.1)
      refine Ai CW SW1415 ?_
      intro vm1432 C S1433 rb1434
      refine An C S1433 hP1 hP2 hw 152 153 76 154 155 66 (Cf l Z a0 hw G1 G3 J _ _ _ _ _ _ cs y1400 a1414 91 (93 :: (93 :: (125 :: (93 :: (cl :: R))))) h1413 n0 f1425 f1417 f1418 f1419 f1420 f1421 f1422 f1423 f1424 HS hrep p1405) 0 f1418 [.ref a1414] [] Cg ?_
      rintro T1427 h1428 v1429 L1430 S1431 ⟨⟨rfl, e1426⟩, -⟩
      rw [e1426] at S1431; clear e1426
      refine Ac C S1431 [(20, .istore_n 3, 1), (21, .iload_n 3, 1), (22, .bipush 123, 2), (24, .if_icmp .eq 9, 3), (27, .iload_n 3, 1), (28, .bipush 91, 2), (30, .if_icmp .ne 84, 3), (33, .iload_n 3, 1), (34, .bipush 123, 2), (36, .if_icmp .ne 7, 3), (43, .iconst 0, 1), (44, .istore 4, 2), (46, .aload_n 0, 1), (47, .dup, 1)] 48 #[Ab J, Ab a8, Aa 4, Aa 91, Aa 0] [.ref J, .ref J] ?_
      refine Ah C S1431 hw 91 f1420 ?_
      intro T1435 S1436
      refine Ac C S1436 [(51, .iconst 1, 1), (52, .iadd, 1)] 53 #[Ab J, Ab a8, Aa 4, Aa 91, Aa 0] [.int ((Int32.ofNat y1400) + (1 : Int32)), .ref J] ?_
      rw [show ((Int32.ofNat y1400) + (1 : Int32)) = (Int32.ofNat (y1400 + 1)) from Af _]
      refine Bh C S1436 hw 91 92 76 f1420 f1418 Ax ge_J ?_
      intro T1437 h1439 S1438 W1440
      have f1441 : Fld Z h1439 J "com/example/limit1/limit1/JsonText" "position" "I" (.int (Int32.ofNat (y1400 + 1))) := Fld.same W1440 f1420
      have hat1442 := (Ae.hd p1405).2.2
      refine Ac C S1438 [(56, .aload_n 0, 1)] 57 #[Ab J, Ab a8, Aa 4, Aa 91, Aa 0] [.ref J] ?_
      have f1443 := (f1417.wr W1440 ge_J)
      have f1444 := (Exa.wr W1440 f1418)
      have f1445 := (Fld.other W1440 f1419 (Or.inr (Bb hw)))
      have f1446 := (Exa.wr W1440 f1421)
      have f1447 := (Fld.other W1440 f1422 (Or.inl ne_x_J))
      have f1448 := (Fld.other W1440 f1423 (Or.inl ne_x_J))
      have f1449 := (f1424.other W1440 ne_t_J)
      have f1450 : n0 ≤ h1439.size := (by rw [W1440.size]; exact f1425)
      refine An C S1438 hP1 hP2 hw 87 88 76 89 90 66 (Bo l Z a0 hw G1 G3 J _ _ _ _ _ _ cs (y1400 + 1) [] (93 :: (93 :: (125 :: (93 :: (cl :: R))))) h1439 n0 f1450 ge_J f1443 f1444 f1445 f1441 f1446 f1447 f1448 f1449 ne_x_J ne_t_J HS hrep hat1442 (fun _ q => nomatch q) (Bn (by unfold Aw; decide))) 0 f1444 [] [] At ?_
      rintro T1457 h1458 v1459 L1460 S1461 ⟨⟨y1451, rfl, K1452, f1453, f1454, f1455, p1456⟩, -⟩
      refine Ac C S1461 [(60, .aload_n 0, 1), (61, .iload 4, 2), (63, .ifCond .eq 8, 3), (71, .bipush 93, 2)] 73 #[Ab J, Ab a8, Aa 4, Aa 91, Aa 0] [.int 93, .ref J] ?_
      have f1462 := (f1443.keep K1452 (allS ge_J all0))
      have f1463 := (f1446.keep K1452)
      have f1464 := (f1447.keep K1452 (ninS ne_x_J nin0))
      have f1465 := (f1448.keep K1452 (ninS ne_x_J nin0))
      have f1466 := (f1449.keep K1452 (ninS ne_t_J nin0))
      have f1467 : n0 ≤ h1458.size := (Nat.le_trans f1450 K1452.1)
      refine An C S1461 hP1 hP2 hw 156 157 76 158 159 66 (Bf l Z a0 hw G1 G3 J _ _ _ _ _ _ cs y1451 93 93 (93 :: (125 :: (93 :: (cl :: R)))) h1458 n0 f1467 f1462 f1453 f1455 f1454 f1463 f1464 f1465 f1466 HS hrep p1456) 0 f1453 [.int 93] [] Av ?_
      rintro T1471 h1472 v1473 L1474 S1475 ⟨⟨y1468, rfl, e1469, p1470⟩, -⟩
      rw [e1469] at S1475; clear e1469
      have hr1476 : y1468 = (1 : Int32) := Bl.one p1470 rfl
      subst hr1476
      refine Ac C S1475 [(76, .ifCond .ne 25, 3), (101, .aload_n 0, 1), (102, .dup, 1)] 103 #[Ab J, Ab a8, Aa 4, Aa 91, Aa 0] [.ref J, .ref J] ?_
      refine Ah C S1475 hw 91 f1454 ?_
      intro T1477 S1478
      refine Ac C S1478 [(106, .iconst 1, 1), (107, .iadd, 1)] 108 #[Ab J, Ab a8, Aa 4, Aa 91, Aa 0] [.int ((Int32.ofNat y1451) + (1 : Int32)), .ref J] ?_
      rw [show ((Int32.ofNat y1451) + (1 : Int32)) = (Int32.ofNat (y1451 + 1)) from Af _]
      refine Bh C S1478 hw 91 92 76 f1454 f1453 Ax ge_J ?_
      intro T1479 h1481 S1480 W1482
      have f1483 : Fld Z h1481 J "com/example/limit1/limit1/JsonText" "position" "I" (.int (Int32.ofNat (y1451 + 1))) := Fld.same W1482 f1454
      have hat1484 := (Ae.hd p1456).2.2
      refine Ac C S1480 [(111, .goto 8, 3), (119, .aload_n 0, 1), (120, .aload_n 1, 1), (121, .iload_n 2, 1)] 122 #[Ab J, Ab a8, Aa 4, Aa 91, Aa 0] [.int 4, .ref a8, .ref J] ?_
      have f1485 := (f1462.wr W1482 ge_J)
      have f1486 := (Exa.wr W1482 f1453)
      have f1487 := (Fld.other W1482 f1455 (Or.inr (Bb hw)))
      have f1488 := (Exa.wr W1482 f1463)
      have f1489 := (Fld.other W1482 f1464 (Or.inl ne_x_J))
      have f1490 := (Fld.other W1482 f1465 (Or.inl ne_x_J))
      have f1491 := (f1466.other W1482 ne_t_J)
      have f1492 := (Exa.wr W1482 ((Exa.wr W1440 (Exa.ext E1416 (f1382.keep K1401))).keep K1452))
      have f1493 := (Fld.other W1482 ((Fld.other W1440 (Fld.ext E1416 (f1383.keep K1401 (ninS (Ne.symm n31) nin0))) (Or.inl (Ne.symm n31))).keep K1452 (ninS (Ne.symm n31) nin0)) (Or.inl (Ne.symm n31)))
      have f1494 := (Fld.other W1482 ((Fld.other W1440 (Fld.ext E1416 (f1384.keep K1401 (ninS (Ne.symm n31) nin0))) (Or.inl (Ne.symm n31))).keep K1452 (ninS (Ne.symm n31) nin0)) (Or.inl (Ne.symm n31)))
      have f1495 := (((((f1385.keep K1401 (ninS (Ne.symm n36) nin0)).ext E1416).other W1440 (Ne.symm n36)).keep K1452 (ninS (Ne.symm n36) nin0)).other W1482 (Ne.symm n36))
      have f1496 : n0 ≤ h1481.size := (by rw [W1482.size]; exact f1467)
      have SW1508 := rb1434 _ _ 2 4 [J] [] S1480 ((((Keep.refl _ _).wr W1440 (Ad 0)).trans K1452 (allS (Ad 0) all0)).wr W1482 (Ad 0)) (allS (As 2) all0) all0
      refine Cu CW SW1508 hF hP1 hP2 hw 186 187 76 188 189 66 (own_cc4 l Z a0 hw hEL wS G1 G3 J _ _ _ _ _ _ cs (y1451 + 1) a8 _ _ _ o cl R h1481 n0 f1496 ge_J f1485 f1486 f1487 f1483 f1488 f1489 f1490 f1491 f1492 f1493 f1494 f1495 ne_x_J ne_t_J (Ne.symm n31) (Ne.symm n36) HS hrep hat1484 p1156) 0 f1486 [.ref a8, .int 4] [] Dy ?_
      rintro T1509 h1510 v1511 SW1512 hg1513 ⟨y1497, rfl, K1498, f1499, f1500, f1501, p1502⟩
      refine Ai CW SW1512 ?_
      intro vm1514 C S1515 rb1516
      refine Ac C S1515 [(125, .istore_n 2, 1), (126, .iload_n 2, 1), (127, .ifCond .ne 4, 3)] 130 #[Ab J, Ab a8, Aa 0, Aa 91, Aa 0] [] ?_
      have SW1517 := rb1516 _ _ 2 4 [] [] S1515 (Keep.refl _ _) all0 all0
      refine Ch CW SW1517 hF (by decide +kernel) (by decide) (by decide) ?_
      have o1518 : h0.size ≤ a18 := Nat.le_trans (Nat.le_refl _) o43
      have o1519 : h0.size ≤ a8 := Nat.le_trans (Nat.le_refl _) o42
      exact ⟨y1497, rfl, ((((((((((((((((((((((((((((((((((((((((Keep.refl _ _).trans K51 (allS (Ad 0) all0)).trans K64 (allS (Ad 0) all0)).ext E79).wr W103 (Ad 0)).trans K115 (allS (Ad 0) all0)).trans K144 (allS (Or.inr o1519) (allS (Or.inr o1518) all0))).trans K173 (allS (Ad 0) all0)).ext E188).trans K211 (allS (Ad 0) all0)).trans K241 (allS (Ad 0) all0)).trans K275 (allS (Ad 0) all0)).ext E290).trans K313 (allS (Ad 0) all0)).trans K343 (allS (Ad 0) all0)).trans K377 (allS (Ad 0) all0)).ext E392).trans K415 (allS (Ad 0) all0)).trans K445 (allS (Ad 0) all0)).trans K1070 (allS (Ad 0) all0)).ext E1085).wr W1109 (Ad 0)).trans K1121 (allS (Ad 0) all0)).trans K1151 (allS (Or.inr o1519) (allS (Or.inr o1518) all0))).trans K1172 (allS (Ad 0) all0)).trans K1207 (allS (Ad 0) all0)).ext E1222).trans K1245 (allS (Ad 0) all0)).trans K1275 (allS (Ad 0) all0)).trans K1301 (allS (Ad 0) all0)).ext E1316).wr W1340 (Ad 0)).trans K1352 (allS (Ad 0) all0)).trans K1381 (allS (Or.inr o1519) (allS (Or.inr o1518) all0))).trans K1401 (allS (Ad 0) all0)).ext E1416).wr W1440 (Ad 0)).trans K1452 (allS (Ad 0) all0)).wr W1482 (Ad 0)).trans K1498 (allS (Ad 0) all0)), f1499, f1500, f1501, p1502⟩
  refine Ac C S30 [(7, .astore_n 1, 1), (8, .iconst 0, 1), (9, .istore_n 2, 1)] 10 #[Ab J, Ab a8, Aa 0, .unset, .unset] [] ?_
  rcases hV with hSc | ⟨ka, Bk, kb, S1, rfl, hka, hkb, hBk, hA⟩ | ⟨ka, S1, rfl, hka, hA⟩
  · obtain ⟨k1520, r1521, hS1522, hw1523, hn1524, hn1525, hn1526⟩ := Df.hd hSc
    have hat1527 : Ae cs pp (([] : List Int32) ++ k1520 :: r1521) := by rw [← hS1522]; exact hat
    refine Ai CW SW46 ?_
    intro vm1528 C S1529 rb1530
    refine Ac C S1529 [(10, .aload_n 0, 1)] 11 #[Ab J, Ab a8, Aa 0, .unset, .unset] [.ref J] ?_
    have f1531 := ((X00.ext E10).keep K21 (allS g17 all0))
    have f1532 := ((Exa.ext E10 JE).keep K21)
    have f1533 := ((Fld.ext E10 JX).keep K21 (ninS n31 nin0))
    have f1534 := ((Fld.ext E10 JP).keep K21 (ninS n31 nin0))
    have f1535 := ((Exa.ext E10 xE).keep K21)
    have f1536 := ((Fld.ext E10 xV).keep K21 (ninS n32 nin0))
    have f1537 := ((Fld.ext E10 xC).keep K21 (ninS n32 nin0))
    have f1538 := ((tK.ext E10).keep K21 (ninS n33 nin0))
    have f1539 : n0 ≤ h27.size := (Nat.le_trans f16 K21.1)
    refine An C S1529 hP1 hP2 hw 87 88 76 89 90 66 (Bo l Z a0 hw G1 G3 J _ _ _ _ _ _ cs pp [] (k1520 :: r1521) h27 n0 f1539 ge_J f1531 f1532 f1533 f1534 f1535 f1536 f1537 f1538 ne_x_J ne_t_J HS hrep hat1527 (fun _ q => nomatch q) (Bn hw1523)) 0 f1532 [] [] At ?_
    rintro T1546 h1547 v1548 L1549 S1550 ⟨⟨y1540, rfl, K1541, f1542, f1543, f1544, p1545⟩, -⟩
    refine Ac C S1550 [(14, .aload_n 0, 1)] 15 #[Ab J, Ab a8, Aa 0, .unset, .unset] [.ref J] ?_
    have SW1551 := rb1530 _ _ 2 4 [J] [] S1550 ((Keep.refl _ _).trans K1541 (allS (Ad 0) all0)) (allS (As 2) all0) all0
    refine Cv CW SW1551 hF hP1 hP2 hw 151 1 28 ?_
    intro T1552 h1553 a1554 SW1555 E1556
    have f1557 := ((f1531.keep K1541 (allS ge_J all0)).ext E1556)
    have f1558 := (Exa.ext E1556 f1542)
    have f1559 := (Fld.ext E1556 f1544)
    have f1560 := (Fld.ext E1556 f1543)
    have f1561 := (Exa.ext E1556 (f1535.keep K1541))
    have f1562 := (Fld.ext E1556 (f1536.keep K1541 (ninS ne_x_J nin0)))
    have f1563 := (Fld.ext E1556 (f1537.keep K1541 (ninS ne_x_J nin0)))
    have f1564 := ((f1538.keep K1541 (ninS ne_t_J nin0)).ext E1556)
    have f1565 : n0 ≤ h1553.size := (Nat.le_trans (Nat.le_trans f1539 K1541.1) E1556.1)
    refine Ai CW SW1555 ?_
    intro vm1572 C S1573 rb1574
    refine An C S1573 hP1 hP2 hw 152 153 76 154 155 66 (Cf l Z a0 hw G1 G3 J _ _ _ _ _ _ cs y1540 a1554 k1520 r1521 h1553 n0 f1565 f1557 f1558 f1559 f1560 f1561 f1562 f1563 f1564 HS hrep p1545) 0 f1558 [.ref a1554] [] Cg ?_
    rintro T1567 h1568 v1569 L1570 S1571 ⟨⟨rfl, e1566⟩, -⟩
    rw [e1566] at S1571; clear e1566
    refine Ac C S1571 [(20, .istore_n 3, 1), (21, .iload_n 3, 1), (22, .bipush 123, 2)] 24 #[Ab J, Ab a8, Aa 0, Aa k1520, .unset] [.int 123, .int k1520] ?_
    refine Ao C S1571 .eq 9 33 (fun (hq : k1520 = (123 : Int32)) => False.elim (hn1524 hq)) (fun (q1575 : ¬ k1520 = (123 : Int32)) => ?_)
    refine Ac C S1571 [(27, .iload_n 3, 1), (28, .bipush 91, 2)] 30 #[Ab J, Ab a8, Aa 0, Aa k1520, .unset] [.int 91, .int k1520] ?_
    refine Ao C S1571 .ne 84 114 (fun (q1576 : ¬ k1520 = (91 : Int32)) => ?_) (fun (hq : k1520 = (91 : Int32)) => False.elim (hn1525 hq))
    have hat1577 : Ae cs y1540 S := by rw [hS1522]; exact p1545
    refine Ac C S1571 [(114, .aload_n 0, 1), (115, .iload_n 3, 1)] 116 #[Ab J, Ab a8, Aa 0, Aa k1520, .unset] [.int k1520, .ref J] ?_
    have SW1589 := rb1574 _ _ 2 4 [] [] S1571 (Keep.refl _ _) all0 all0
    refine Cu CW SW1589 hF hP1 hP2 hw 170 171 76 172 173 66 (Fu l Z a0 hw hEL wS G1 G3 J _ _ _ _ _ _ cs y1540 k1520 S R r1521 h1553 n0 f1565 ge_J f1557 f1558 f1559 f1560 f1561 f1562 f1563 f1564 ne_x_J ne_t_J HS hrep hat1577 hSc hS1522) 0 f1558 [.int k1520] [] Ey ?_
    rintro T1590 h1591 v1592 SW1593 hg1594 ⟨y1578, rfl, K1579, f1580, f1581, f1582, p1583⟩
    refine Ai CW SW1593 ?_
    intro vm1595 C S1596 rb1597
    refine Ac C S1596 [(119, .aload_n 0, 1), (120, .aload_n 1, 1), (121, .iload_n 2, 1)] 122 #[Ab J, Ab a8, Aa 0, Aa k1520, .unset] [.int 0, .ref a8, .ref J] ?_
    have f1598 := (f1557.keep K1579 (allS ge_J all0))
    have f1599 := (f1561.keep K1579)
    have f1600 := (f1562.keep K1579 (ninS ne_x_J nin0))
    have f1601 := (f1563.keep K1579 (ninS ne_x_J nin0))
    have f1602 := (f1564.keep K1579 (ninS ne_t_J nin0))
    have f1603 : n0 ≤ h1591.size := (Nat.le_trans f1565 K1579.1)
    have SW1615 := rb1597 _ _ 2 4 [] [] S1596 (Keep.refl _ _) all0 all0
    refine Cu CW SW1615 hF hP1 hP2 hw 186 187 76 188 189 66 (own_cc0 l Z a0 hw hEL wS G1 G3 J _ _ _ _ _ _ cs y1578 a8 R h1591 n0 f1603 ge_J f1598 f1580 f1582 f1581 f1599 f1600 f1601 f1602 ne_x_J ne_t_J HS hrep p1583) 0 f1580 [.ref a8, .int 0] [] Dy ?_
    rintro T1616 h1617 v1618 SW1619 hg1620 ⟨y1604, rfl, K1605, f1606, f1607, f1608, p1609⟩
    refine Ai CW SW1619 ?_
    intro vm1621 C S1622 rb1623
    refine Ac C S1622 [(125, .istore_n 2, 1), (126, .iload_n 2, 1), (127, .ifCond .ne 4, 3)] 130 #[Ab J, Ab a8, Aa 0, Aa k1520, .unset] [] ?_
    have SW1624 := rb1623 _ _ 2 4 [] [] S1622 (Keep.refl _ _) all0 all0
    refine Ch CW SW1624 hF (by decide +kernel) (by decide) (by decide) ?_
    exact ⟨y1604, rfl, (((((((Keep.refl _ _).ext E10).trans K21 (allS (Or.inr o42) all0)).trans K1541 (allS (Ad 0) all0)).ext E1556).trans K1579 (allS (Ad 0) all0)).trans K1605 (allS (Ad 0) all0)), f1606, f1607, f1608, p1609⟩
  · refine Ai CW SW46 ?_
    intro vm1625 C S1626 rb1627
    refine Ac C S1626 [(10, .aload_n 0, 1)] 11 #[Ab J, Ab a8, Aa 0, .unset, .unset] [.ref J] ?_
    have f1628 := ((X00.ext E10).keep K21 (allS g17 all0))
    have f1629 := ((Exa.ext E10 JE).keep K21)
    have f1630 := ((Fld.ext E10 JX).keep K21 (ninS n31 nin0))
    have f1631 := ((Fld.ext E10 JP).keep K21 (ninS n31 nin0))
    have f1632 := ((Exa.ext E10 xE).keep K21)
    have f1633 := ((Fld.ext E10 xV).keep K21 (ninS n32 nin0))
    have f1634 := ((Fld.ext E10 xC).keep K21 (ninS n32 nin0))
    have f1635 := ((tK.ext E10).keep K21 (ninS n33 nin0))
    have f1636 : n0 ≤ h27.size := (Nat.le_trans f16 K21.1)
    refine An C S1626 hP1 hP2 hw 87 88 76 89 90 66 (Bo l Z a0 hw G1 G3 J _ _ _ _ _ _ cs pp [] (123 :: ([ka] ++ 34 :: (Bk ++ 34 :: (kb :: (58 :: (91 :: S1)))))) h27 n0 f1636 ge_J f1628 f1629 f1630 f1631 f1632 f1633 f1634 f1635 ne_x_J ne_t_J HS hrep hat (fun _ q => nomatch q) (Bn (by unfold Aw; decide))) 0 f1629 [] [] At ?_
    rintro T1643 h1644 v1645 L1646 S1647 ⟨⟨y1637, rfl, K1638, f1639, f1640, f1641, p1642⟩, -⟩
    refine Ac C S1647 [(14, .aload_n 0, 1)] 15 #[Ab J, Ab a8, Aa 0, .unset, .unset] [.ref J] ?_
    have SW1648 := rb1627 _ _ 2 4 [J] [] S1647 ((Keep.refl _ _).trans K1638 (allS (Ad 0) all0)) (allS (As 2) all0) all0
    refine Cv CW SW1648 hF hP1 hP2 hw 151 1 28 ?_
    intro T1649 h1650 a1651 SW1652 E1653
    have f1654 := ((f1628.keep K1638 (allS ge_J all0)).ext E1653)
    have f1655 := (Exa.ext E1653 f1639)
    have f1656 := (Fld.ext E1653 f1641)
    have f1657 := (Fld.ext E1653 f1640)
    have f1658 := (Exa.ext E1653 (f1632.keep K1638))
    have f1659 := (Fld.ext E1653 (f1633.keep K1638 (ninS ne_x_J nin0)))
    have f1660 := (Fld.ext E1653 (f1634.keep K1638 (ninS ne_x_J nin0)))
    have f1661 := ((f1635.keep K1638 (ninS ne_t_J nin0)).ext E1653)
    have f1662 : n0 ≤ h1650.size := (Nat.le_trans (Nat.le_trans f1636 K1638.1) E1653.1)
    refine Ai CW SW1652 ?_
    intro vm1669 C S1670 rb1671
    refine An C S1670 hP1 hP2 hw 152 153 76 154 155 66 (Cf l Z a0 hw G1 G3 J _ _ _ _ _ _ cs y1637 a1651 123 ([ka] ++ 34 :: (Bk ++ 34 :: (kb :: (58 :: (91 :: S1))))) h1650 n0 f1662 f1654 f1655 f1656 f1657 f1658 f1659 f1660 f1661 HS hrep p1642) 0 f1655 [.ref a1651] [] Cg ?_
    rintro T1664 h1665 v1666 L1667 S1668 ⟨⟨rfl, e1663⟩, -⟩
    rw [e1663] at S1668; clear e1663
    refine Ac C S1668 [(20, .istore_n 3, 1), (21, .iload_n 3, 1), (22, .bipush 123, 2), (24, .if_icmp .eq 9, 3), (33, .iload_n 3, 1), (34, .bipush 123, 2), (36, .if_icmp .ne 7, 3), (39, .iconst 1, 1), (40, .goto 4, 3), (44, .istore 4, 2), (46, .aload_n 0, 1), (47, .dup, 1)] 48 #[Ab J, Ab a8, Aa 0, Aa 123, Aa 1] [.ref J, .ref J] ?_
    refine Ah C S1668 hw 91 f1657 ?_
    intro T1672 S1673
    refine Ac C S1673 [(51, .iconst 1, 1), (52, .iadd, 1)] 53 #[Ab J, Ab a8, Aa 0, Aa 123, Aa 1] [.int ((Int32.ofNat y1637) + (1 : Int32)), .ref J] ?_
    rw [show ((Int32.ofNat y1637) + (1 : Int32)) = (Int32.ofNat (y1637 + 1)) from Af _]
    refine Bh C S1673 hw 91 92 76 f1657 f1655 Ax ge_J ?_
    intro T1674 h1676 S1675 W1677
    have f1678 : Fld Z h1676 J "com/example/limit1/limit1/JsonText" "position" "I" (.int (Int32.ofNat (y1637 + 1))) := Fld.same W1677 f1657
    have hat1679 := (Ae.hd p1642).2.2
    refine Ac C S1675 [(56, .aload_n 0, 1)] 57 #[Ab J, Ab a8, Aa 0, Aa 123, Aa 1] [.ref J] ?_
    have f1680 := (f1654.wr W1677 ge_J)
    have f1681 := (Exa.wr W1677 f1655)
    have f1682 := (Fld.other W1677 f1656 (Or.inr (Bb hw)))
    have f1683 := (Exa.wr W1677 f1658)
    have f1684 := (Fld.other W1677 f1659 (Or.inl ne_x_J))
    have f1685 := (Fld.other W1677 f1660 (Or.inl ne_x_J))
    have f1686 := (f1661.other W1677 ne_t_J)
    have f1687 : n0 ≤ h1676.size := (by rw [W1677.size]; exact f1662)
    refine An C S1675 hP1 hP2 hw 87 88 76 89 90 66 (Bo l Z a0 hw G1 G3 J _ _ _ _ _ _ cs (y1637 + 1) ([ka]) (34 :: (Bk ++ 34 :: (kb :: (58 :: (91 :: S1))))) h1676 n0 f1687 ge_J f1680 f1681 f1682 f1678 f1683 f1684 f1685 f1686 ne_x_J ne_t_J HS hrep hat1679 (Ga hka) (Bn (by unfold Aw; decide))) 0 f1681 [] [] At ?_
    rintro T1694 h1695 v1696 L1697 S1698 ⟨⟨y1688, rfl, K1689, f1690, f1691, f1692, p1693⟩, -⟩
    refine Ac C S1698 [(60, .aload_n 0, 1), (61, .iload 4, 2), (63, .ifCond .eq 8, 3), (66, .bipush 125, 2), (68, .goto 5, 3)] 73 #[Ab J, Ab a8, Aa 0, Aa 123, Aa 1] [.int 125, .ref J] ?_
    have f1699 := (f1680.keep K1689 (allS ge_J all0))
    have f1700 := (f1683.keep K1689)
    have f1701 := (f1684.keep K1689 (ninS ne_x_J nin0))
    have f1702 := (f1685.keep K1689 (ninS ne_x_J nin0))
    have f1703 := (f1686.keep K1689 (ninS ne_t_J nin0))
    have f1704 : n0 ≤ h1695.size := (Nat.le_trans f1687 K1689.1)
    refine An C S1698 hP1 hP2 hw 156 157 76 158 159 66 (Bf l Z a0 hw G1 G3 J _ _ _ _ _ _ cs y1688 125 34 (Bk ++ 34 :: (kb :: (58 :: (91 :: S1)))) h1695 n0 f1704 f1699 f1690 f1692 f1691 f1700 f1701 f1702 f1703 HS hrep p1693) 0 f1690 [.int 125] [] Av ?_
    rintro T1708 h1709 v1710 L1711 S1712 ⟨⟨y1705, rfl, e1706, p1707⟩, -⟩
    rw [e1706] at S1712; clear e1706
    have hr1713 : y1705 = (0 : Int32) := Bl.zero p1707 (by decide)
    subst hr1713
    refine Ac C S1712 [(76, .ifCond .ne 25, 3), (79, .aload_n 1, 1), (80, .iload_n 2, 1), (81, .iload 4, 2)] 83 #[Ab J, Ab a8, Aa 0, Aa 123, Aa 1] [.int 1, .int 0, .ref a8] ?_
    have f1714 := ((Exa.wr W1677 (Exa.ext E1653 (f22.keep K1638))).keep K1689)
    have f1715 := ((Fld.other W1677 (Fld.ext E1653 (f23.keep K1638 (ninS (Ne.symm n31) nin0))) (Or.inl (Ne.symm n31))).keep K1689 (ninS (Ne.symm n31) nin0))
    have f1716 := ((Fld.other W1677 (Fld.ext E1653 (f24.keep K1638 (ninS (Ne.symm n31) nin0))) (Or.inl (Ne.symm n31))).keep K1689 (ninS (Ne.symm n31) nin0))
    have f1717 := ((((f25.keep K1638 (ninS (Ne.symm n36) nin0)).ext E1653).other W1677 (Ne.symm n36)).keep K1689 (ninS (Ne.symm n36) nin0))
    refine Cm C S1712 hP1 hP2 hw 160 161 163 163 162 164 131 (own_bz001 l Z a0 hw G1 G3 a8 _ _ h1695 n0 f1704 g17 g34 f1699 f1714 f1715 f1716 f1717 (Ne.symm n41) HS) 0 f1714 [.int 0, .int 1] [] Ep ?_
    rintro T1723 h1724 v1725 L1726 S1727 ⟨⟨rfl, K1718, f1719, f1720, f1721, f1722⟩, -⟩
    refine Ac C S1727 [(86, .iinc 2 1, 3), (89, .iload 4, 2), (91, .ifCond .eq (-81), 3), (94, .aload_n 0, 1)] 95 #[Ab J, Ab a8, Aa 1, Aa 123, Aa 1] [.ref J] ?_
    have f1728 := (f1699.keep K1718 (allS g17 (allS g34 all0)))
    have f1729 := (f1690.keep K1718)
    have f1730 := (f1692.keep K1718 (ninS n31 (ninS n36 nin0)))
    have f1731 := (f1691.keep K1718 (ninS n31 (ninS n36 nin0)))
    have f1732 := (f1700.keep K1718)
    have f1733 := (f1701.keep K1718 (ninS n32 (ninS n38 nin0)))
    have f1734 := (f1702.keep K1718 (ninS n32 (ninS n38 nin0)))
    have f1735 := (f1703.keep K1718 (ninS n33 (ninS n40 nin0)))
    have f1736 : n0 ≤ h1724.size := (Nat.le_trans f1704 K1718.1)
    have SW1748 := rb1671 _ _ 2 4 [J, a8, a18] [] S1727 ((((Keep.refl _ _).wr W1677 (Ad 0)).trans K1689 (allS (Ad 0) all0)).trans K1718 (allS (Ad 1) (allS (Ad 2) all0))) (allS (As 2) (allS (As 0) (allS (As 1) all0))) all0
    refine Cu CW SW1748 hF hP1 hP2 hw 298 299 76 300 301 66 (own_cmn l Z a0 hw hEL wS G1 G3 J _ _ _ _ _ _ cs y1688 [] Bk ([kb]) (91 :: S1) h1724 n0 f1736 ge_J f1728 f1729 f1730 f1731 f1732 f1733 f1734 f1735 ne_x_J ne_t_J HS hrep p1693 (fun _ q => nomatch q) hBk (Ga hkb)) 0 f1729 [] [] At ?_
    rintro T1749 h1750 v1751 SW1752 hg1753 ⟨y1737, rfl, K1738, f1739, f1740, f1741, p1742⟩
    refine Ai CW SW1752 ?_
    intro vm1754 C S1755 rb1756
    refine Ac C S1755 [(98, .goto (-88), 3)] 10 #[Ab J, Ab a8, Aa 1, Aa 123, Aa 1] [] ?_
    have f1757 := (f1719.keep K1738)
    have f1758 := (f1720.keep K1738 (ninS (Ne.symm n31) nin0))
    have f1759 := (f1721.keep K1738 (ninS (Ne.symm n31) nin0))
    have f1760 := (f1722.keep K1738 (ninS (Ne.symm n36) nin0))
    have SW1761 := rb1756 _ _ 2 4 [] [] S1755 (Keep.refl _ _) all0 all0
    exact JN T1749 h1750 y1737 S1 (1 : Int32) (1 : Int64) (1 : Int32) (125 : Int32) (123 : Int32) (1 : Int32) SW1761 (((((((((Keep.refl _ _).ext E10).trans K21 (allS (Or.inr o42) all0)).trans K1638 (allS (Ad 0) all0)).ext E1653).wr W1677 (Ad 0)).trans K1689 (allS (Ad 0) all0)).trans K1718 (allS (Or.inr o42) (allS (Or.inr o43) all0))).trans K1738 (allS (Ad 0) all0)) f1741 f1740 f1757 f1758 f1759 f1760 p1742 (Or.inr ⟨rfl, rfl, rfl, rfl⟩) hA
  · refine Ai CW SW46 ?_
    intro vm1762 C S1763 rb1764
    refine Ac C S1763 [(10, .aload_n 0, 1)] 11 #[Ab J, Ab a8, Aa 0, .unset, .unset] [.ref J] ?_
    have f1765 := ((X00.ext E10).keep K21 (allS g17 all0))
    have f1766 := ((Exa.ext E10 JE).keep K21)
    have f1767 := ((Fld.ext E10 JX).keep K21 (ninS n31 nin0))
    have f1768 := ((Fld.ext E10 JP).keep K21 (ninS n31 nin0))
    have f1769 := ((Exa.ext E10 xE).keep K21)
    have f1770 := ((Fld.ext E10 xV).keep K21 (ninS n32 nin0))
    have f1771 := ((Fld.ext E10 xC).keep K21 (ninS n32 nin0))
    have f1772 := ((tK.ext E10).keep K21 (ninS n33 nin0))
    have f1773 : n0 ≤ h27.size := (Nat.le_trans f16 K21.1)
    refine An C S1763 hP1 hP2 hw 87 88 76 89 90 66 (Bo l Z a0 hw G1 G3 J _ _ _ _ _ _ cs pp [] (91 :: ([ka] ++ 91 :: S1)) h27 n0 f1773 ge_J f1765 f1766 f1767 f1768 f1769 f1770 f1771 f1772 ne_x_J ne_t_J HS hrep hat (fun _ q => nomatch q) (Bn (by unfold Aw; decide))) 0 f1766 [] [] At ?_
    rintro T1780 h1781 v1782 L1783 S1784 ⟨⟨y1774, rfl, K1775, f1776, f1777, f1778, p1779⟩, -⟩
    refine Ac C S1784 [(14, .aload_n 0, 1)] 15 #[Ab J, Ab a8, Aa 0, .unset, .unset] [.ref J] ?_
    have SW1785 := rb1764 _ _ 2 4 [J] [] S1784 ((Keep.refl _ _).trans K1775 (allS (Ad 0) all0)) (allS (As 2) all0) all0
    refine Cv CW SW1785 hF hP1 hP2 hw 151 1 28 ?_
    intro T1786 h1787 a1788 SW1789 E1790
    have f1791 := ((f1765.keep K1775 (allS ge_J all0)).ext E1790)
    have f1792 := (Exa.ext E1790 f1776)
    have f1793 := (Fld.ext E1790 f1778)
    have f1794 := (Fld.ext E1790 f1777)
    have f1795 := (Exa.ext E1790 (f1769.keep K1775))
    have f1796 := (Fld.ext E1790 (f1770.keep K1775 (ninS ne_x_J nin0)))
    have f1797 := (Fld.ext E1790 (f1771.keep K1775 (ninS ne_x_J nin0)))
    have f1798 := ((f1772.keep K1775 (ninS ne_t_J nin0)).ext E1790)
    have f1799 : n0 ≤ h1787.size := (Nat.le_trans (Nat.le_trans f1773 K1775.1) E1790.1)
    refine Ai CW SW1789 ?_
    intro vm1806 C S1807 rb1808
    refine An C S1807 hP1 hP2 hw 152 153 76 154 155 66 (Cf l Z a0 hw G1 G3 J _ _ _ _ _ _ cs y1774 a1788 91 ([ka] ++ 91 :: S1) h1787 n0 f1799 f1791 f1792 f1793 f1794 f1795 f1796 f1797 f1798 HS hrep p1779) 0 f1792 [.ref a1788] [] Cg ?_
    rintro T1801 h1802 v1803 L1804 S1805 ⟨⟨rfl, e1800⟩, -⟩
    rw [e1800] at S1805; clear e1800
    refine Ac C S1805 [(20, .istore_n 3, 1), (21, .iload_n 3, 1), (22, .bipush 123, 2), (24, .if_icmp .eq 9, 3), (27, .iload_n 3, 1), (28, .bipush 91, 2), (30, .if_icmp .ne 84, 3), (33, .iload_n 3, 1), (34, .bipush 123, 2), (36, .if_icmp .ne 7, 3), (43, .iconst 0, 1), (44, .istore 4, 2), (46, .aload_n 0, 1), (47, .dup, 1)] 48 #[Ab J, Ab a8, Aa 0, Aa 91, Aa 0] [.ref J, .ref J] ?_
    refine Ah C S1805 hw 91 f1794 ?_
    intro T1809 S1810
    refine Ac C S1810 [(51, .iconst 1, 1), (52, .iadd, 1)] 53 #[Ab J, Ab a8, Aa 0, Aa 91, Aa 0] [.int ((Int32.ofNat y1774) + (1 : Int32)), .ref J] ?_
    rw [show ((Int32.ofNat y1774) + (1 : Int32)) = (Int32.ofNat (y1774 + 1)) from Af _]
    refine Bh C S1810 hw 91 92 76 f1794 f1792 Ax ge_J ?_
    intro T1811 h1813 S1812 W1814
    have f1815 : Fld Z h1813 J "com/example/limit1/limit1/JsonText" "position" "I" (.int (Int32.ofNat (y1774 + 1))) := Fld.same W1814 f1794
    have hat1816 := (Ae.hd p1779).2.2
    refine Ac C S1812 [(56, .aload_n 0, 1)] 57 #[Ab J, Ab a8, Aa 0, Aa 91, Aa 0] [.ref J] ?_
    have f1817 := (f1791.wr W1814 ge_J)
    have f1818 := (Exa.wr W1814 f1792)
    have f1819 := (Fld.other W1814 f1793 (Or.inr (Bb hw)))
    have f1820 := (Exa.wr W1814 f1795)
    have f1821 := (Fld.other W1814 f1796 (Or.inl ne_x_J))
    have f1822 := (Fld.other W1814 f1797 (Or.inl ne_x_J))
    have f1823 := (f1798.other W1814 ne_t_J)
    have f1824 : n0 ≤ h1813.size := (by rw [W1814.size]; exact f1799)
    refine An C S1812 hP1 hP2 hw 87 88 76 89 90 66 (Bo l Z a0 hw G1 G3 J _ _ _ _ _ _ cs (y1774 + 1) ([ka]) (91 :: S1) h1813 n0 f1824 ge_J f1817 f1818 f1819 f1815 f1820 f1821 f1822 f1823 ne_x_J ne_t_J HS hrep hat1816 (Ga hka) (Bn (by unfold Aw; decide))) 0 f1818 [] [] At ?_
    rintro T1831 h1832 v1833 L1834 S1835 ⟨⟨y1825, rfl, K1826, f1827, f1828, f1829, p1830⟩, -⟩
    refine Ac C S1835 [(60, .aload_n 0, 1), (61, .iload 4, 2), (63, .ifCond .eq 8, 3), (71, .bipush 93, 2)] 73 #[Ab J, Ab a8, Aa 0, Aa 91, Aa 0] [.int 93, .ref J] ?_
    have f1836 := (f1817.keep K1826 (allS ge_J all0))
    have f1837 := (f1820.keep K1826)
    have f1838 := (f1821.keep K1826 (ninS ne_x_J nin0))
    have f1839 := (f1822.keep K1826 (ninS ne_x_J nin0))
    have f1840 := (f1823.keep K1826 (ninS ne_t_J nin0))
    have f1841 : n0 ≤ h1832.size := (Nat.le_trans f1824 K1826.1)
    refine An C S1835 hP1 hP2 hw 156 157 76 158 159 66 (Bf l Z a0 hw G1 G3 J _ _ _ _ _ _ cs y1825 93 91 S1 h1832 n0 f1841 f1836 f1827 f1829 f1828 f1837 f1838 f1839 f1840 HS hrep p1830) 0 f1827 [.int 93] [] Av ?_
    rintro T1845 h1846 v1847 L1848 S1849 ⟨⟨y1842, rfl, e1843, p1844⟩, -⟩
    rw [e1843] at S1849; clear e1843
    have hr1850 : y1842 = (0 : Int32) := Bl.zero p1844 (by decide)
    subst hr1850
    refine Ac C S1849 [(76, .ifCond .ne 25, 3), (79, .aload_n 1, 1), (80, .iload_n 2, 1), (81, .iload 4, 2)] 83 #[Ab J, Ab a8, Aa 0, Aa 91, Aa 0] [.int 0, .int 0, .ref a8] ?_
    have f1851 := ((Exa.wr W1814 (Exa.ext E1790 (f22.keep K1775))).keep K1826)
    have f1852 := ((Fld.other W1814 (Fld.ext E1790 (f23.keep K1775 (ninS (Ne.symm n31) nin0))) (Or.inl (Ne.symm n31))).keep K1826 (ninS (Ne.symm n31) nin0))
    have f1853 := ((Fld.other W1814 (Fld.ext E1790 (f24.keep K1775 (ninS (Ne.symm n31) nin0))) (Or.inl (Ne.symm n31))).keep K1826 (ninS (Ne.symm n31) nin0))
    have f1854 := ((((f25.keep K1775 (ninS (Ne.symm n36) nin0)).ext E1790).other W1814 (Ne.symm n36)).keep K1826 (ninS (Ne.symm n36) nin0))
    refine Cm C S1849 hP1 hP2 hw 160 161 163 163 162 164 131 (own_bz000 l Z a0 hw G1 G3 a8 _ _ h1832 n0 f1841 g17 g34 f1836 f1851 f1852 f1853 f1854 (Ne.symm n41) HS) 0 f1851 [.int 0, .int 0] [] Ep ?_
    rintro T1860 h1861 v1862 L1863 S1864 ⟨⟨rfl, K1855, f1856, f1857, f1858, f1859⟩, -⟩
    refine Ac C S1864 [(86, .iinc 2 1, 3), (89, .iload 4, 2), (91, .ifCond .eq (-81), 3)] 10 #[Ab J, Ab a8, Aa 1, Aa 91, Aa 0] [] ?_
    have f1865 := (f1829.keep K1855 (ninS n31 (ninS n36 nin0)))
    have f1866 := (f1828.keep K1855 (ninS n31 (ninS n36 nin0)))
    have SW1867 := rb1808 _ _ 2 4 [J, a8, a18] [] S1864 ((((Keep.refl _ _).wr W1814 (Ad 0)).trans K1826 (allS (Ad 0) all0)).trans K1855 (allS (Ad 1) (allS (Ad 2) all0))) (allS (As 2) (allS (As 0) (allS (As 1) all0))) all0
    exact JN T1860 h1861 y1825 S1 (0 : Int32) (0 : Int64) (0 : Int32) (93 : Int32) (91 : Int32) (0 : Int32) SW1867 ((((((((Keep.refl _ _).ext E10).trans K21 (allS (Or.inr o42) all0)).trans K1775 (allS (Ad 0) all0)).ext E1790).wr W1814 (Ad 0)).trans K1826 (allS (Ad 0) all0)).trans K1855 (allS (Or.inr o42) (allS (Or.inr o43) all0))) f1865 f1866 f1856 f1857 f1858 f1859 p1830 (Or.inl ⟨rfl, rfl, rfl, rfl⟩) hA
theorem Ap (hw : Ar a0 Z) (b : Addr) (bk : ClassId) (pre : List Int32) (ch : Int32) (h0 : Heap) (n0 : Nat) (z0 : n0 ≤ h0.size) (ge_b : n0 ≤ b) (bA : Arv Z h0 b bk .char (88 : Int32) (Ce pre) (.int 0)) (hl : pre.length < 88) (hc : Bi ch) :
    Ag l Z (⟨"com/example/limit1/limit1/JsonTextCheckPinLaw", "put", "([CIC)I"⟩ : MethodName) method_4_code 3 (some .int) ({ frames := 0, cells := 0, slots := 0, locals := 0 } : Room) n0 #[(.ref b), (.int (Int32.ofNat pre.length)), (.int ch)] h0 (fun v h => v = some (.int (Int32.ofNat (pre ++ [ch]).length)) ∧ Keep h0 h [b] ∧ Arv Z h b bk .char (88 : Int32) (Ce (pre ++ [ch])) (.int 0)) := by
  refine Au #[.val (.ref b), .val (.int (Int32.ofNat pre.length)), .val (.int ch)] ?_
  intro p e s m below meth c T0 C S0
  refine Ac C S0 [(0, .aload_n 0, 1), (1, .iload_n 1, 1), (2, .iload_n 2, 1)] 3 #[Ab b, Aa (Int32.ofNat pre.length), Aa ch] [.int ch, .int (Int32.ofNat pre.length), .ref b] ?_
  refine own_castore C S0 bA ⟨(Ay (by omega)).1, Cb (n := 88) hl (by omega)⟩ pre.length (Ay (by omega)).2 (by rw [own_bfl (by omega)]; exact hl) ch (Dp hc.1 hc.2) ge_b (by decide +kernel) ?_
  intro T1 h3 S2 W4 f5
  have f6 : Arv Z h3 b bk .char (88 : Int32) (Ce (pre ++ [ch])) (.int 0) := by rw [← own_bfs hl]; exact f5
  refine Ac C S2 [(4, .iload_n 1, 1), (5, .iconst 1, 1), (6, .iadd, 1)] 7 #[Ab b, Aa (Int32.ofNat pre.length), Aa ch] [.int ((Int32.ofNat pre.length) + (1 : Int32))] ?_
  rw [show ((Int32.ofNat pre.length) + (1 : Int32)) = (Int32.ofNat (pre ++ [ch]).length) from (by rw [List.length_append]; exact Af _)]
  refine Ba C S2 (by decide +kernel) (by decide) (by decide) ?_
  exact ⟨rfl, ((Keep.refl _ _).wr W4 (Ad 0)), f6⟩
theorem Fg (hw : Ar a0 Z) (w_ : Int32) (h0 : Heap) (n0 : Nat) (z0 : n0 ≤ h0.size) :
    Ag l Z (⟨"com/example/limit1/limit1/JsonTextCheckPinLaw", "ws", "(I)C"⟩ : MethodName) method_5_code 2 (some .char) ({ frames := 0, cells := 0, slots := 0, locals := 0 } : Room) n0 #[(.int w_)] h0 (fun v h => ∃ r : Int32, v = some (.int r) ∧ h = h0 ∧ (Aw r)) := by
  refine Au #[.val (.int w_), .unset] ?_
  intro p e s m below meth c T0 C S0
  refine Ac C S0 [(0, .iload_n 0, 1), (1, .iconst 3, 1), (2, .iand, 1), (3, .istore_n 1, 1), (4, .iload_n 1, 1)] 5 #[Aa w_, Aa (w_ &&& (3 : Int32))] [.int (w_ &&& (3 : Int32))] ?_
  refine Bv C S0 .ne 6 11 (fun (q1 : ¬ (w_ &&& (3 : Int32)) = (0 : Int32)) => ?_) (fun (q2 : (w_ &&& (3 : Int32)) = (0 : Int32)) => ?_)
  · refine Ac C S0 [(11, .iload_n 1, 1), (12, .iconst 1, 1)] 13 #[Aa w_, Aa (w_ &&& (3 : Int32))] [.int 1, .int (w_ &&& (3 : Int32))] ?_
    refine Ao C S0 .ne 6 19 (fun (q3 : ¬ (w_ &&& (3 : Int32)) = (1 : Int32)) => ?_) (fun (q4 : (w_ &&& (3 : Int32)) = (1 : Int32)) => ?_)
    · refine Ac C S0 [(19, .iload_n 1, 1), (20, .iconst 2, 1)] 21 #[Aa w_, Aa (w_ &&& (3 : Int32))] [.int 2, .int (w_ &&& (3 : Int32))] ?_
      refine Ao C S0 .ne 6 27 (fun (q5 : ¬ (w_ &&& (3 : Int32)) = (2 : Int32)) => ?_) (fun (q6 : (w_ &&& (3 : Int32)) = (2 : Int32)) => ?_)
      · refine Ac C S0 [(27, .bipush 13, 2)] 29 #[Aa w_, Aa (w_ &&& (3 : Int32))] [.int 13] ?_
        refine Cd C S0 (by decide +kernel) (by decide) (by decide) (by decide) ?_
        exact ⟨(13 : Int32), rfl, rfl, (by unfold Aw; decide)⟩
      · refine Ac C S0 [(24, .bipush 10, 2)] 26 #[Aa w_, Aa (w_ &&& (3 : Int32))] [.int 10] ?_
        refine Cd C S0 (by decide +kernel) (by decide) (by decide) (by decide) ?_
        exact ⟨(10 : Int32), rfl, rfl, (by unfold Aw; decide)⟩
    · refine Ac C S0 [(16, .bipush 9, 2)] 18 #[Aa w_, Aa (w_ &&& (3 : Int32))] [.int 9] ?_
      refine Cd C S0 (by decide +kernel) (by decide) (by decide) (by decide) ?_
      exact ⟨(9 : Int32), rfl, rfl, (by unfold Aw; decide)⟩
  · refine Ac C S0 [(8, .bipush 32, 2)] 10 #[Aa w_, Aa (w_ &&& (3 : Int32))] [.int 32] ?_
    refine Cd C S0 (by decide +kernel) (by decide) (by decide) (by decide) ?_
    exact ⟨(32 : Int32), rfl, rfl, (by unfold Aw; decide)⟩
theorem own_sim (hw : Ar a0 Z) (w_ : Int32) (h0 : Heap) (n0 : Nat) (z0 : n0 ≤ h0.size) :
    Ag l Z (⟨"com/example/limit1/limit1/JsonTextCheckPinLaw", "simple", "(I)C"⟩ : MethodName) method_9_code 1 (some .char) ({ frames := 0, cells := 0, slots := 0, locals := 0 } : Room) n0 #[(.int w_)] h0 (fun v h => ∃ r : Int32, v = some (.int r) ∧ h = h0 ∧ (r ∈ Dk)) := by
  refine Au #[.val (.int w_)] ?_
  intro p e s m below meth c T0 C S0
  refine Ac C S0 [(0, .iload_n 0, 1)] 1 #[Aa w_] [.int w_] ?_
  refine Bv C S0 .ne 6 7 (fun (q1 : ¬ w_ = (0 : Int32)) => ?_) (fun (q2 : w_ = (0 : Int32)) => ?_)
  · refine Ac C S0 [(7, .iload_n 0, 1), (8, .iconst 1, 1)] 9 #[Aa w_] [.int 1, .int w_] ?_
    refine Ao C S0 .ne 6 15 (fun (q3 : ¬ w_ = (1 : Int32)) => ?_) (fun (q4 : w_ = (1 : Int32)) => ?_)
    · refine Ac C S0 [(15, .iload_n 0, 1), (16, .iconst 2, 1)] 17 #[Aa w_] [.int 2, .int w_] ?_
      refine Ao C S0 .ne 6 23 (fun (q5 : ¬ w_ = (2 : Int32)) => ?_) (fun (q6 : w_ = (2 : Int32)) => ?_)
      · refine Ac C S0 [(23, .iload_n 0, 1), (24, .iconst 3, 1)] 25 #[Aa w_] [.int 3, .int w_] ?_
        refine Ao C S0 .ne 6 31 (fun (q7 : ¬ w_ = (3 : Int32)) => ?_) (fun (q8 : w_ = (3 : Int32)) => ?_)
        · refine Ac C S0 [(31, .iload_n 0, 1), (32, .iconst 4, 1)] 33 #[Aa w_] [.int 4, .int w_] ?_
          refine Ao C S0 .ne 6 39 (fun (q9 : ¬ w_ = (4 : Int32)) => ?_) (fun (q10 : w_ = (4 : Int32)) => ?_)
          · refine Ac C S0 [(39, .iload_n 0, 1), (40, .iconst 5, 1)] 41 #[Aa w_] [.int 5, .int w_] ?_
            refine Ao C S0 .ne 6 47 (fun (q11 : ¬ w_ = (5 : Int32)) => ?_) (fun (q12 : w_ = (5 : Int32)) => ?_)
            · refine Ac C S0 [(47, .iload_n 0, 1), (48, .bipush 6, 2)] 50 #[Aa w_] [.int 6, .int w_] ?_
              refine Ao C S0 .ne 6 56 (fun (q13 : ¬ w_ = (6 : Int32)) => ?_) (fun (q14 : w_ = (6 : Int32)) => ?_)
              · refine Ac C S0 [(56, .bipush 116, 2)] 58 #[Aa w_] [.int 116] ?_
                refine Cd C S0 (by decide +kernel) (by decide) (by decide) (by decide) ?_
                exact ⟨(116 : Int32), rfl, rfl, (by decide)⟩
              · refine Ac C S0 [(53, .bipush 114, 2)] 55 #[Aa w_] [.int 114] ?_
                refine Cd C S0 (by decide +kernel) (by decide) (by decide) (by decide) ?_
                exact ⟨(114 : Int32), rfl, rfl, (by decide)⟩
            · refine Ac C S0 [(44, .bipush 110, 2)] 46 #[Aa w_] [.int 110] ?_
              refine Cd C S0 (by decide +kernel) (by decide) (by decide) (by decide) ?_
              exact ⟨(110 : Int32), rfl, rfl, (by decide)⟩
          · refine Ac C S0 [(36, .bipush 102, 2)] 38 #[Aa w_] [.int 102] ?_
            refine Cd C S0 (by decide +kernel) (by decide) (by decide) (by decide) ?_
            exact ⟨(102 : Int32), rfl, rfl, (by decide)⟩
        · refine Ac C S0 [(28, .bipush 98, 2)] 30 #[Aa w_] [.int 98] ?_
          refine Cd C S0 (by decide +kernel) (by decide) (by decide) (by decide) ?_
          exact ⟨(98 : Int32), rfl, rfl, (by decide)⟩
      · refine Ac C S0 [(20, .bipush 47, 2)] 22 #[Aa w_] [.int 47] ?_
        refine Cd C S0 (by decide +kernel) (by decide) (by decide) (by decide) ?_
        exact ⟨(47 : Int32), rfl, rfl, (by decide)⟩
    · refine Ac C S0 [(12, .bipush 92, 2)] 14 #[Aa w_] [.int 92] ?_
      refine Cd C S0 (by decide +kernel) (by decide) (by decide) (by decide) ?_
      exact ⟨(92 : Int32), rfl, rfl, (by decide)⟩
  · refine Ac C S0 [(4, .bipush 34, 2)] 6 #[Aa w_] [.int 34] ?_
    refine Cd C S0 (by decide +kernel) (by decide) (by decide) (by decide) ?_
    exact ⟨(34 : Int32), rfl, rfl, (by decide)⟩
theorem own_dig (hw : Ar a0 Z) (w_ : Int64) (h0 : Heap) (n0 : Nat) (z0 : n0 ≤ h0.size) :
    Ag l Z (⟨"com/example/limit1/limit1/JsonTextCheckPinLaw", "digit", "(J)C"⟩ : MethodName) method_6_code 2 (some .char) ({ frames := 0, cells := 0, slots := 0, locals := 0 } : Room) n0 #[(.long w_)] h0 (fun v h => ∃ r : Int32, v = some (.int r) ∧ h = h0 ∧ (Bu r)) := by
  refine Au #[.val (.long w_), .second] ?_
  intro p e s m below meth c T0 C S0
  refine Ac C S0 [(0, .bipush 48, 2), (2, .lload_n 0, 1)] 3 #[.val (.long w_), .second] [.long w_, .int 48] ?_
  refine Do C S0 (ow hw 17 rfl) (by decide +kernel) ?_
  refine Ac C S0 [(6, .land, 1)] 7 #[.val (.long w_), .second] [.long (w_ &&& 15), .int 48] ?_
  refine Do C S0 (ow hw 18 rfl) (by decide +kernel) ?_
  refine own_lrem C S0 (by decide +kernel) (by decide) ?_
  refine Ac C S0 [(11, .l2i, 1), (12, .iadd, 1), (13, .i2c, 1)] 14 #[.val (.long w_), .second] [.int (((48 : Int32) + ((w_ &&& 15) % 10).toInt32).toUInt32.toUInt16.toUInt32.toInt32)] ?_
  refine Cd C S0 (by decide +kernel) (Fh _) (by decide) (by decide) ?_
  exact ⟨(((48 : Int32) + ((w_ &&& 15) % 10).toInt32).toUInt32.toUInt16.toUInt32.toInt32), rfl, rfl, own_dgt0 _⟩
theorem own_hex (hw : Ar a0 Z) (w_ : Int32) (up : Int32) (h0 : Heap) (n0 : Nat) (z0 : n0 ≤ h0.size) (hv : ¬ w_ < 0 ∧ ¬ (15 : Int32) < w_) :
    Ag l Z (⟨"com/example/limit1/limit1/JsonTextCheckPinLaw", "hex", "(II)C"⟩ : MethodName) method_10_code 2 (some .char) ({ frames := 0, cells := 0, slots := 0, locals := 0 } : Room) n0 #[(.int w_), (.int up)] h0 (fun v h => ∃ r : Int32, v = some (.int r) ∧ h = h0 ∧ (Dq r w_)) := by
  refine Au #[.val (.int w_), .val (.int up)] ?_
  intro p e s m below meth c T0 C S0
  have hx := own_hxr hv
  refine Ac C S0 [(0, .iload_n 0, 1), (1, .bipush 10, 2)] 3 #[Aa w_, Aa up] [.int 10, .int w_] ?_
  refine Ao C S0 .ge 9 12 (fun (q1 : ¬ w_ < (10 : Int32)) => ?_) (fun (q2 : w_ < (10 : Int32)) => ?_)
  · refine Ac C S0 [(12, .iload_n 1, 1)] 13 #[Aa w_, Aa up] [.int up] ?_
    refine Bv C S0 .eq 8 21 (fun (q3 : up = (0 : Int32)) => ?_) (fun (q4 : ¬ up = (0 : Int32)) => ?_)
    · refine Ac C S0 [(21, .bipush 97, 2), (23, .iload_n 0, 1), (24, .iadd, 1), (25, .bipush 10, 2), (27, .isub, 1), (28, .i2c, 1)] 29 #[Aa w_, Aa up] [.int ((((97 : Int32) + w_) - (10 : Int32)).toUInt32.toUInt16.toUInt32.toInt32)] ?_
      rw [show (((97 : Int32) + w_) - (10 : Int32)).toUInt32.toUInt16.toUInt32.toInt32 = (97 + w_ - 10) from hx.2.2]
      refine Cd C S0 (by decide +kernel) (by rw [← hx.2.2]; exact Fh _) (by decide) (by decide) ?_
      exact ⟨(97 + w_ - 10), rfl, rfl, ⟨hv, Or.inr (Or.inr ⟨q1, rfl⟩)⟩⟩
    · refine Ac C S0 [(16, .bipush 65, 2), (18, .goto 5, 3), (23, .iload_n 0, 1), (24, .iadd, 1), (25, .bipush 10, 2), (27, .isub, 1), (28, .i2c, 1)] 29 #[Aa w_, Aa up] [.int ((((65 : Int32) + w_) - (10 : Int32)).toUInt32.toUInt16.toUInt32.toInt32)] ?_
      rw [show (((65 : Int32) + w_) - (10 : Int32)).toUInt32.toUInt16.toUInt32.toInt32 = (65 + w_ - 10) from hx.2.1]
      refine Cd C S0 (by decide +kernel) (by rw [← hx.2.1]; exact Fh _) (by decide) (by decide) ?_
      exact ⟨(65 + w_ - 10), rfl, rfl, ⟨hv, Or.inr (Or.inl ⟨q1, rfl⟩)⟩⟩
  · refine Ac C S0 [(6, .bipush 48, 2), (8, .iload_n 0, 1), (9, .iadd, 1), (10, .i2c, 1)] 11 #[Aa w_, Aa up] [.int (((48 : Int32) + w_).toUInt32.toUInt16.toUInt32.toInt32)] ?_
    rw [show ((48 : Int32) + w_).toUInt32.toUInt16.toUInt32.toInt32 = (48 + w_) from hx.1]
    refine Cd C S0 (by decide +kernel) (by rw [← hx.1]; exact Fh _) (by decide) (by decide) ?_
    exact ⟨(48 + w_), rfl, rfl, ⟨hv, Or.inl ⟨q2, rfl⟩⟩⟩
theorem Am : parseMethodDescriptor "([CIC)I" = some ⟨[(.array .char), .int, .char], (some .int)⟩ := by decide +kernel
theorem Gp : parseMethodDescriptor "(II)C" = some ⟨[.int, .int], (some .char)⟩ := by decide +kernel
theorem Gq (hw : Ar a0 Z) (b : Addr) (bk : ClassId) (pre : List Int32) (u : Int32) (cz : Int32) (h0 : Heap) (n0 : Nat) (z0 : n0 ≤ h0.size) (ge_b : n0 ≤ b) (bA : Arv Z h0 b bk .char (88 : Int32) (Ce pre) (.int 0)) (hl : pre.length + 6 ≤ 88) (hu : Bi u) :
    Ag l Z (⟨"com/example/limit1/limit1/JsonTextCheckPinLaw", "esc", "([CIII)I"⟩ : MethodName) method_11_code 4 (some .int) ({ frames := 1, cells := 0, slots := 0, locals := 15 } : Room) n0 #[(.ref b), (.int (Int32.ofNat pre.length)), (.int u), (.int cz)] h0 (fun v h => ∃ q : List Int32, v = some (.int (Int32.ofNat q.length)) ∧ Keep h0 h [b] ∧ Arv Z h b bk .char (88 : Int32) (Ce q) (.int 0) ∧ (Bc (own_eu u) pre q)) := by
  refine Au #[.val (.ref b), .val (.int (Int32.ofNat pre.length)), .val (.int u), .val (.int cz)] ?_
  intro p e s m below meth c T0 C S0
  refine Ac C S0 [(0, .aload_n 0, 1), (1, .iload_n 1, 1), (2, .bipush 92, 2)] 4 #[Ab b, Aa (Int32.ofNat pre.length), Aa u, Aa cz] [.int 92, .int (Int32.ofNat pre.length), .ref b] ?_
  refine Ak C S0 hw 8 9 2 10 (Ap l Z a0 hw b _ pre 92 h0 n0 z0 ge_b bA (by (try simp only [List.length_append, List.length_cons, List.length_nil]); omega) Aq) 0 [.ref b, .int (Int32.ofNat pre.length), .int 92] [] Am ?_
  rintro T3 h4 v5 L6 S7 ⟨⟨rfl, K1, f2⟩, -⟩
  refine Ac C S7 [(7, .istore_n 1, 1), (8, .aload_n 0, 1), (9, .iload_n 1, 1), (10, .bipush 117, 2)] 12 #[Ab b, Aa (Int32.ofNat (pre ++ [(92 : Int32)]).length), Aa u, Aa cz] [.int 117, .int (Int32.ofNat (pre ++ [(92 : Int32)]).length), .ref b] ?_
  have f8 : n0 ≤ h4.size := (Nat.le_trans z0 K1.1)
  refine Ak C S7 hw 8 9 2 10 (Ap l Z a0 hw b _ (pre ++ [(92 : Int32)]) 117 h4 n0 f8 ge_b f2 (by (try simp only [List.length_append, List.length_cons, List.length_nil]); omega) Aq) 0 [.ref b, .int (Int32.ofNat (pre ++ [(92 : Int32)]).length), .int 117] [] Am ?_
  rintro T11 h12 v13 L14 S15 ⟨⟨rfl, K9, f10⟩, -⟩
  refine Ac C S15 [(15, .istore_n 1, 1), (16, .aload_n 0, 1), (17, .iload_n 1, 1), (18, .iload_n 2, 1), (19, .bipush 12, 2), (21, .iushr, 1), (22, .bipush 15, 2), (24, .iand, 1), (25, .iload_n 3, 1), (26, .iconst 1, 1), (27, .iand, 1)] 28 #[Ab b, Aa (Int32.ofNat ((pre ++ [(92 : Int32)]) ++ [(117 : Int32)]).length), Aa u, Aa cz] [.int (cz &&& (1 : Int32)), .int ((Jvm.Free.XT.ushr u (12 : Int32)) &&& (15 : Int32)), .int (Int32.ofNat ((pre ++ [(92 : Int32)]) ++ [(117 : Int32)]).length), .ref b] ?_
  have f16 : n0 ≤ h12.size := (Nat.le_trans f8 K9.1)
  refine Ak C S15 hw 318 319 2 320 (own_hex l Z a0 hw ((Jvm.Free.XT.ushr u (12 : Int32)) &&& (15 : Int32)) (cz &&& (1 : Int32)) h12 n0 f16 (own_n15 _)) 2 [.int ((Jvm.Free.XT.ushr u (12 : Int32)) &&& (15 : Int32)), .int (cz &&& (1 : Int32))] [.int (Int32.ofNat ((pre ++ [(92 : Int32)]) ++ [(117 : Int32)]).length), .ref b] Gp ?_
  rintro T20 h21 v22 L23 S24 ⟨⟨y17, rfl, e18, p19⟩, -⟩
  rw [e18] at S24; clear e18
  refine Ak C S24 hw 8 9 2 10 (Ap l Z a0 hw b _ ((pre ++ [(92 : Int32)]) ++ [(117 : Int32)]) y17 h12 n0 f16 ge_b f10 (by (try simp only [List.length_append, List.length_cons, List.length_nil]); omega) p19.cr) 0 [.ref b, .int (Int32.ofNat ((pre ++ [(92 : Int32)]) ++ [(117 : Int32)]).length), .int y17] [] Am ?_
  rintro T27 h28 v29 L30 S31 ⟨⟨rfl, K25, f26⟩, -⟩
  refine Ac C S31 [(34, .istore_n 1, 1), (35, .aload_n 0, 1), (36, .iload_n 1, 1), (37, .iload_n 2, 1), (38, .bipush 8, 2), (40, .iushr, 1), (41, .bipush 15, 2), (43, .iand, 1), (44, .iload_n 3, 1), (45, .iconst 1, 1), (46, .iushr, 1), (47, .iconst 1, 1), (48, .iand, 1)] 49 #[Ab b, Aa (Int32.ofNat (((pre ++ [(92 : Int32)]) ++ [(117 : Int32)]) ++ [y17]).length), Aa u, Aa cz] [.int ((Jvm.Free.XT.ushr cz (1 : Int32)) &&& (1 : Int32)), .int ((Jvm.Free.XT.ushr u (8 : Int32)) &&& (15 : Int32)), .int (Int32.ofNat (((pre ++ [(92 : Int32)]) ++ [(117 : Int32)]) ++ [y17]).length), .ref b] ?_
  have f32 : n0 ≤ h28.size := (Nat.le_trans f16 K25.1)
  refine Ak C S31 hw 318 319 2 320 (own_hex l Z a0 hw ((Jvm.Free.XT.ushr u (8 : Int32)) &&& (15 : Int32)) ((Jvm.Free.XT.ushr cz (1 : Int32)) &&& (1 : Int32)) h28 n0 f32 (own_n15 _)) 2 [.int ((Jvm.Free.XT.ushr u (8 : Int32)) &&& (15 : Int32)), .int ((Jvm.Free.XT.ushr cz (1 : Int32)) &&& (1 : Int32))] [.int (Int32.ofNat (((pre ++ [(92 : Int32)]) ++ [(117 : Int32)]) ++ [y17]).length), .ref b] Gp ?_
  rintro T36 h37 v38 L39 S40 ⟨⟨y33, rfl, e34, p35⟩, -⟩
  rw [e34] at S40; clear e34
  refine Ak C S40 hw 8 9 2 10 (Ap l Z a0 hw b _ (((pre ++ [(92 : Int32)]) ++ [(117 : Int32)]) ++ [y17]) y33 h28 n0 f32 ge_b f26 (by (try simp only [List.length_append, List.length_cons, List.length_nil]); omega) p35.cr) 0 [.ref b, .int (Int32.ofNat (((pre ++ [(92 : Int32)]) ++ [(117 : Int32)]) ++ [y17]).length), .int y33] [] Am ?_
  rintro T43 h44 v45 L46 S47 ⟨⟨rfl, K41, f42⟩, -⟩
  refine Ac C S47 [(55, .istore_n 1, 1), (56, .aload_n 0, 1), (57, .iload_n 1, 1), (58, .iload_n 2, 1), (59, .iconst 4, 1), (60, .iushr, 1), (61, .bipush 15, 2), (63, .iand, 1), (64, .iload_n 3, 1), (65, .iconst 2, 1), (66, .iushr, 1), (67, .iconst 1, 1), (68, .iand, 1)] 69 #[Ab b, Aa (Int32.ofNat ((((pre ++ [(92 : Int32)]) ++ [(117 : Int32)]) ++ [y17]) ++ [y33]).length), Aa u, Aa cz] [.int ((Jvm.Free.XT.ushr cz (2 : Int32)) &&& (1 : Int32)), .int ((Jvm.Free.XT.ushr u (4 : Int32)) &&& (15 : Int32)), .int (Int32.ofNat ((((pre ++ [(92 : Int32)]) ++ [(117 : Int32)]) ++ [y17]) ++ [y33]).length), .ref b] ?_
  have f48 : n0 ≤ h44.size := (Nat.le_trans f32 K41.1)
  refine Ak C S47 hw 318 319 2 320 (own_hex l Z a0 hw ((Jvm.Free.XT.ushr u (4 : Int32)) &&& (15 : Int32)) ((Jvm.Free.XT.ushr cz (2 : Int32)) &&& (1 : Int32)) h44 n0 f48 (own_n15 _)) 2 [.int ((Jvm.Free.XT.ushr u (4 : Int32)) &&& (15 : Int32)), .int ((Jvm.Free.XT.ushr cz (2 : Int32)) &&& (1 : Int32))] [.int (Int32.ofNat ((((pre ++ [(92 : Int32)]) ++ [(117 : Int32)]) ++ [y17]) ++ [y33]).length), .ref b] Gp ?_
  rintro T52 h53 v54 L55 S56 ⟨⟨y49, rfl, e50, p51⟩, -⟩
  rw [e50] at S56; clear e50
  refine Ak C S56 hw 8 9 2 10 (Ap l Z a0 hw b _ ((((pre ++ [(92 : Int32)]) ++ [(117 : Int32)]) ++ [y17]) ++ [y33]) y49 h44 n0 f48 ge_b f42 (by (try simp only [List.length_append, List.length_cons, List.length_nil]); omega) p51.cr) 0 [.ref b, .int (Int32.ofNat ((((pre ++ [(92 : Int32)]) ++ [(117 : Int32)]) ++ [y17]) ++ [y33]).length), .int y49] [] Am ?_
  rintro T59 h60 v61 L62 S63 ⟨⟨rfl, K57, f58⟩, -⟩
  refine Ac C S63 [(75, .istore_n 1, 1), (76, .aload_n 0, 1), (77, .iload_n 1, 1), (78, .iload_n 2, 1), (79, .bipush 15, 2), (81, .iand, 1), (82, .iload_n 3, 1), (83, .iconst 3, 1), (84, .iushr, 1), (85, .iconst 1, 1), (86, .iand, 1)] 87 #[Ab b, Aa (Int32.ofNat (((((pre ++ [(92 : Int32)]) ++ [(117 : Int32)]) ++ [y17]) ++ [y33]) ++ [y49]).length), Aa u, Aa cz] [.int ((Jvm.Free.XT.ushr cz (3 : Int32)) &&& (1 : Int32)), .int (u &&& (15 : Int32)), .int (Int32.ofNat (((((pre ++ [(92 : Int32)]) ++ [(117 : Int32)]) ++ [y17]) ++ [y33]) ++ [y49]).length), .ref b] ?_
  have f64 : n0 ≤ h60.size := (Nat.le_trans f48 K57.1)
  refine Ak C S63 hw 318 319 2 320 (own_hex l Z a0 hw (u &&& (15 : Int32)) ((Jvm.Free.XT.ushr cz (3 : Int32)) &&& (1 : Int32)) h60 n0 f64 (own_n15 _)) 2 [.int (u &&& (15 : Int32)), .int ((Jvm.Free.XT.ushr cz (3 : Int32)) &&& (1 : Int32))] [.int (Int32.ofNat (((((pre ++ [(92 : Int32)]) ++ [(117 : Int32)]) ++ [y17]) ++ [y33]) ++ [y49]).length), .ref b] Gp ?_
  rintro T68 h69 v70 L71 S72 ⟨⟨y65, rfl, e66, p67⟩, -⟩
  rw [e66] at S72; clear e66
  refine Ak C S72 hw 8 9 2 10 (Ap l Z a0 hw b _ (((((pre ++ [(92 : Int32)]) ++ [(117 : Int32)]) ++ [y17]) ++ [y33]) ++ [y49]) y65 h60 n0 f64 ge_b f58 (by (try simp only [List.length_append, List.length_cons, List.length_nil]); omega) p67.cr) 0 [.ref b, .int (Int32.ofNat (((((pre ++ [(92 : Int32)]) ++ [(117 : Int32)]) ++ [y17]) ++ [y33]) ++ [y49]).length), .int y65] [] Am ?_
  rintro T75 h76 v77 L78 S79 ⟨⟨rfl, K73, f74⟩, -⟩
  refine Ba C S79 (by decide +kernel) (by decide) (by decide) ?_
  exact ⟨((((((pre ++ [(92 : Int32)]) ++ [(117 : Int32)]) ++ [y17]) ++ [y33]) ++ [y49]) ++ [y65]), rfl, (((((((Keep.refl _ _).trans K1 (allS (Ad 0) all0)).trans K9 (allS (Ad 0) all0)).trans K25 (allS (Ad 0) all0)).trans K41 (allS (Ad 0) all0)).trans K57 (allS (Ad 0) all0)).trans K73 (allS (Ad 0) all0)), f74, own_euI hu p19 p35 p51 p67⟩
theorem Ef : parseMethodDescriptor "([CIII)I" = some ⟨[(.array .char), .int, .int, .int], (some .int)⟩ := by decide +kernel
theorem own_unt (hw : Ar a0 Z) (b : Addr) (bk : ClassId) (pre : List Int32) (xx : Int32) (cz : Int32) (h0 : Heap) (n0 : Nat) (z0 : n0 ≤ h0.size) (ge_b : n0 ≤ b) (bA : Arv Z h0 b bk .char (88 : Int32) (Ce pre) (.int 0)) (hl : pre.length + 12 ≤ 88) :
    Ag l Z (⟨"com/example/limit1/limit1/JsonTextCheckPinLaw", "unit", "([CIII)I"⟩ : MethodName) method_12_code 8 (some .int) ({ frames := 2, cells := 0, slots := 0, locals := 30 } : Room) n0 #[(.ref b), (.int (Int32.ofNat pre.length)), (.int xx), (.int cz)] h0 (fun v h => ∃ q : List Int32, v = some (.int (Int32.ofNat q.length)) ∧ Keep h0 h [b] ∧ Arv Z h b bk .char (88 : Int32) (Ce q) (.int 0) ∧ (Bc Du pre q)) := by
  refine Au #[.val (.ref b), .val (.int (Int32.ofNat pre.length)), .val (.int xx), .val (.int cz), .unset, .unset, .unset, .unset] ?_
  intro p e s m below meth c T0 C S0
  refine Ac C S0 [(0, .iload_n 2, 1), (1, .bipush 7, 2), (3, .iand, 1), (4, .istore 4, 2), (6, .iload_n 2, 1), (7, .iconst 3, 1), (8, .iushr, 1), (9, .istore 5, 2), (11, .iload 4, 2)] 13 #[Ab b, Aa (Int32.ofNat pre.length), Aa xx, Aa cz, Aa (xx &&& (7 : Int32)), Aa (Jvm.Free.XT.ushr xx (3 : Int32)), .unset, .unset] [.int (xx &&& (7 : Int32))] ?_
  refine Bv C S0 .ne 5 18 (fun (q1 : ¬ (xx &&& (7 : Int32)) = (0 : Int32)) => ?_) (fun (q2 : (xx &&& (7 : Int32)) = (0 : Int32)) => ?_)
  · refine Ac C S0 [(18, .iload 4, 2), (20, .iconst 2, 1)] 21 #[Ab b, Aa (Int32.ofNat pre.length), Aa xx, Aa cz, Aa (xx &&& (7 : Int32)), Aa (Jvm.Free.XT.ushr xx (3 : Int32)), .unset, .unset] [.int 2, .int (xx &&& (7 : Int32))] ?_
    refine Ao C S0 .gt 58 79 (fun (q3 : (2 : Int32) < (xx &&& (7 : Int32))) => ?_) (fun (q4 : ¬ (2 : Int32) < (xx &&& (7 : Int32))) => ?_)
    · refine Ac C S0 [(79, .iload 4, 2), (81, .iconst 3, 1)] 82 #[Ab b, Aa (Int32.ofNat pre.length), Aa xx, Aa cz, Aa (xx &&& (7 : Int32)), Aa (Jvm.Free.XT.ushr xx (3 : Int32)), .unset, .unset] [.int 3, .int (xx &&& (7 : Int32))] ?_
      refine Ao C S0 .ne 25 107 (fun (q5 : ¬ (xx &&& (7 : Int32)) = (3 : Int32)) => ?_) (fun (q6 : (xx &&& (7 : Int32)) = (3 : Int32)) => ?_)
      · refine Ac C S0 [(107, .iload 4, 2), (109, .iconst 4, 1)] 110 #[Ab b, Aa (Int32.ofNat pre.length), Aa xx, Aa cz, Aa (xx &&& (7 : Int32)), Aa (Jvm.Free.XT.ushr xx (3 : Int32)), .unset, .unset] [.int 4, .int (xx &&& (7 : Int32))] ?_
        refine Ao C S0 .ne 40 150 (fun (q7 : ¬ (xx &&& (7 : Int32)) = (4 : Int32)) => ?_) (fun (q8 : (xx &&& (7 : Int32)) = (4 : Int32)) => ?_)
        · refine Dg C S0 (ow hw 252 rfl) (by decide +kernel) ?_
          refine Ac C S0 [(152, .iload 5, 2), (154, .sipush 1023, 3), (157, .iand, 1), (158, .ior, 1), (159, .istore 6, 2)] 161 #[Ab b, Aa (Int32.ofNat pre.length), Aa xx, Aa cz, Aa (xx &&& (7 : Int32)), Aa (Jvm.Free.XT.ushr xx (3 : Int32)), Aa (55296 ||| ((Jvm.Free.XT.ushr xx (3 : Int32)) &&& (1023 : Int32))), .unset] [] ?_
          refine Dg C S0 (ow hw 253 rfl) (by decide +kernel) ?_
          refine Ac C S0 [(163, .iload 5, 2), (165, .bipush 10, 2), (167, .iushr, 1), (168, .sipush 1023, 3), (171, .iand, 1), (172, .ior, 1), (173, .istore 7, 2), (175, .iload 4, 2), (177, .iconst 5, 1)] 178 #[Ab b, Aa (Int32.ofNat pre.length), Aa xx, Aa cz, Aa (xx &&& (7 : Int32)), Aa (Jvm.Free.XT.ushr xx (3 : Int32)), Aa (55296 ||| ((Jvm.Free.XT.ushr xx (3 : Int32)) &&& (1023 : Int32))), Aa (56320 ||| ((Jvm.Free.XT.ushr (Jvm.Free.XT.ushr xx (3 : Int32)) (10 : Int32)) &&& (1023 : Int32)))] [.int 5, .int (xx &&& (7 : Int32))] ?_
          refine Ao C S0 .ne 21 199 (fun (q9 : ¬ (xx &&& (7 : Int32)) = (5 : Int32)) => ?_) (fun (q10 : (xx &&& (7 : Int32)) = (5 : Int32)) => ?_)
          · refine Ac C S0 [(199, .aload_n 0, 1), (200, .iload_n 1, 1), (201, .iload 6, 2), (203, .iload_n 3, 1)] 204 #[Ab b, Aa (Int32.ofNat pre.length), Aa xx, Aa cz, Aa (xx &&& (7 : Int32)), Aa (Jvm.Free.XT.ushr xx (3 : Int32)), Aa (55296 ||| ((Jvm.Free.XT.ushr xx (3 : Int32)) &&& (1023 : Int32))), Aa (56320 ||| ((Jvm.Free.XT.ushr (Jvm.Free.XT.ushr xx (3 : Int32)) (10 : Int32)) &&& (1023 : Int32)))] [.int cz, .int (55296 ||| ((Jvm.Free.XT.ushr xx (3 : Int32)) &&& (1023 : Int32))), .int (Int32.ofNat pre.length), .ref b] ?_
            refine Ak C S0 hw 315 316 2 317 (Gq l Z a0 hw b _ pre (55296 ||| ((Jvm.Free.XT.ushr xx (3 : Int32)) &&& (1023 : Int32))) cz h0 n0 z0 ge_b bA (by (try simp only [List.length_append, List.length_cons, List.length_nil]); omega) ((Gb _).2)) 0 [.ref b, .int (Int32.ofNat pre.length), .int (55296 ||| ((Jvm.Free.XT.ushr xx (3 : Int32)) &&& (1023 : Int32))), .int cz] [] Ef ?_
            rintro T15 h16 v17 L18 S19 ⟨⟨y11, rfl, K12, f13, p14⟩, -⟩
            have hl20 := Gm p14
            refine Ac C S19 [(207, .istore_n 1, 1), (208, .aload_n 0, 1), (209, .iload_n 1, 1), (210, .iload 7, 2), (212, .iload_n 3, 1), (213, .iconst 4, 1), (214, .iushr, 1)] 215 #[Ab b, Aa (Int32.ofNat y11.length), Aa xx, Aa cz, Aa (xx &&& (7 : Int32)), Aa (Jvm.Free.XT.ushr xx (3 : Int32)), Aa (55296 ||| ((Jvm.Free.XT.ushr xx (3 : Int32)) &&& (1023 : Int32))), Aa (56320 ||| ((Jvm.Free.XT.ushr (Jvm.Free.XT.ushr xx (3 : Int32)) (10 : Int32)) &&& (1023 : Int32)))] [.int (Jvm.Free.XT.ushr cz (4 : Int32)), .int (56320 ||| ((Jvm.Free.XT.ushr (Jvm.Free.XT.ushr xx (3 : Int32)) (10 : Int32)) &&& (1023 : Int32))), .int (Int32.ofNat y11.length), .ref b] ?_
            have f21 : n0 ≤ h16.size := (Nat.le_trans z0 K12.1)
            refine Ak C S19 hw 315 316 2 317 (Gq l Z a0 hw b _ y11 (56320 ||| ((Jvm.Free.XT.ushr (Jvm.Free.XT.ushr xx (3 : Int32)) (10 : Int32)) &&& (1023 : Int32))) (Jvm.Free.XT.ushr cz (4 : Int32)) h16 n0 f21 ge_b f13 (by (try simp only [List.length_append, List.length_cons, List.length_nil]); omega) ((Gc _).2)) 0 [.ref b, .int (Int32.ofNat y11.length), .int (56320 ||| ((Jvm.Free.XT.ushr (Jvm.Free.XT.ushr xx (3 : Int32)) (10 : Int32)) &&& (1023 : Int32))), .int (Jvm.Free.XT.ushr cz (4 : Int32))] [] Ef ?_
            rintro T26 h27 v28 L29 S30 ⟨⟨y22, rfl, K23, f24, p25⟩, -⟩
            have hl31 := Gm p25
            refine Ba C S30 (by decide +kernel) (by decide) (by decide) ?_
            exact ⟨y22, rfl, (((Keep.refl _ _).trans K12 (allS (Ad 0) all0)).trans K23 (allS (Ad 0) all0)), f24, own_k6 p14 p25 (Gb _).1 (Gc _).1⟩
          · refine Ac C S0 [(181, .aload_n 0, 1), (182, .iload_n 1, 1), (183, .iload 6, 2), (185, .i2c, 1)] 186 #[Ab b, Aa (Int32.ofNat pre.length), Aa xx, Aa cz, Aa (xx &&& (7 : Int32)), Aa (Jvm.Free.XT.ushr xx (3 : Int32)), Aa (55296 ||| ((Jvm.Free.XT.ushr xx (3 : Int32)) &&& (1023 : Int32))), Aa (56320 ||| ((Jvm.Free.XT.ushr (Jvm.Free.XT.ushr xx (3 : Int32)) (10 : Int32)) &&& (1023 : Int32)))] [.int ((55296 ||| ((Jvm.Free.XT.ushr xx (3 : Int32)) &&& (1023 : Int32))).toUInt32.toUInt16.toUInt32.toInt32), .int (Int32.ofNat pre.length), .ref b] ?_
            rw [show (55296 ||| ((Jvm.Free.XT.ushr xx (3 : Int32)) &&& (1023 : Int32))).toUInt32.toUInt16.toUInt32.toInt32 = (55296 ||| ((Jvm.Free.XT.ushr xx (3 : Int32)) &&& (1023 : Int32))) from Dp (Gb _).2.1 (Gb _).2.2]
            refine Ak C S0 hw 8 9 2 10 (Ap l Z a0 hw b _ pre (55296 ||| ((Jvm.Free.XT.ushr xx (3 : Int32)) &&& (1023 : Int32))) h0 n0 z0 ge_b bA (by (try simp only [List.length_append, List.length_cons, List.length_nil]); omega) ((Gb _).2)) 0 [.ref b, .int (Int32.ofNat pre.length), .int (55296 ||| ((Jvm.Free.XT.ushr xx (3 : Int32)) &&& (1023 : Int32)))] [] Am ?_
            rintro T34 h35 v36 L37 S38 ⟨⟨rfl, K32, f33⟩, -⟩
            refine Ac C S38 [(189, .istore_n 1, 1), (190, .aload_n 0, 1), (191, .iload_n 1, 1), (192, .iload 7, 2), (194, .i2c, 1)] 195 #[Ab b, Aa (Int32.ofNat (pre ++ [(55296 ||| ((Jvm.Free.XT.ushr xx (3 : Int32)) &&& (1023 : Int32)))]).length), Aa xx, Aa cz, Aa (xx &&& (7 : Int32)), Aa (Jvm.Free.XT.ushr xx (3 : Int32)), Aa (55296 ||| ((Jvm.Free.XT.ushr xx (3 : Int32)) &&& (1023 : Int32))), Aa (56320 ||| ((Jvm.Free.XT.ushr (Jvm.Free.XT.ushr xx (3 : Int32)) (10 : Int32)) &&& (1023 : Int32)))] [.int ((56320 ||| ((Jvm.Free.XT.ushr (Jvm.Free.XT.ushr xx (3 : Int32)) (10 : Int32)) &&& (1023 : Int32))).toUInt32.toUInt16.toUInt32.toInt32), .int (Int32.ofNat (pre ++ [(55296 ||| ((Jvm.Free.XT.ushr xx (3 : Int32)) &&& (1023 : Int32)))]).length), .ref b] ?_
            rw [show (56320 ||| ((Jvm.Free.XT.ushr (Jvm.Free.XT.ushr xx (3 : Int32)) (10 : Int32)) &&& (1023 : Int32))).toUInt32.toUInt16.toUInt32.toInt32 = (56320 ||| ((Jvm.Free.XT.ushr (Jvm.Free.XT.ushr xx (3 : Int32)) (10 : Int32)) &&& (1023 : Int32))) from Dp (Gc _).2.1 (Gc _).2.2]
            have f39 : n0 ≤ h35.size := (Nat.le_trans z0 K32.1)
            refine Ak C S38 hw 8 9 2 10 (Ap l Z a0 hw b _ (pre ++ [(55296 ||| ((Jvm.Free.XT.ushr xx (3 : Int32)) &&& (1023 : Int32)))]) (56320 ||| ((Jvm.Free.XT.ushr (Jvm.Free.XT.ushr xx (3 : Int32)) (10 : Int32)) &&& (1023 : Int32))) h35 n0 f39 ge_b f33 (by (try simp only [List.length_append, List.length_cons, List.length_nil]); omega) ((Gc _).2)) 0 [.ref b, .int (Int32.ofNat (pre ++ [(55296 ||| ((Jvm.Free.XT.ushr xx (3 : Int32)) &&& (1023 : Int32)))]).length), .int (56320 ||| ((Jvm.Free.XT.ushr (Jvm.Free.XT.ushr xx (3 : Int32)) (10 : Int32)) &&& (1023 : Int32)))] [] Am ?_
            rintro T42 h43 v44 L45 S46 ⟨⟨rfl, K40, f41⟩, -⟩
            refine Ba C S46 (by decide +kernel) (by decide) (by decide) ?_
            exact ⟨((pre ++ [(55296 ||| ((Jvm.Free.XT.ushr xx (3 : Int32)) &&& (1023 : Int32)))]) ++ [(56320 ||| ((Jvm.Free.XT.ushr (Jvm.Free.XT.ushr xx (3 : Int32)) (10 : Int32)) &&& (1023 : Int32)))]), rfl, (((Keep.refl _ _).trans K32 (allS (Ad 0) all0)).trans K40 (allS (Ad 0) all0)), f41, own_k5 (Gb _).1 (Gc _).1 (Gb _).2 (Gc _).2⟩
        · refine Ac C S0 [(113, .iload 5, 2)] 115 #[Ab b, Aa (Int32.ofNat pre.length), Aa xx, Aa cz, Aa (xx &&& (7 : Int32)), Aa (Jvm.Free.XT.ushr xx (3 : Int32)), .unset, .unset] [.int (Jvm.Free.XT.ushr xx (3 : Int32))] ?_
          refine Dg C S0 (ow hw 28 rfl) (by decide +kernel) ?_
          refine Ac C S0 [(117, .iand, 1), (118, .istore 6, 2), (120, .iload 6, 2)] 122 #[Ab b, Aa (Int32.ofNat pre.length), Aa xx, Aa cz, Aa (xx &&& (7 : Int32)), Aa (Jvm.Free.XT.ushr xx (3 : Int32)), Aa ((Jvm.Free.XT.ushr xx (3 : Int32)) &&& 65535), .unset] [.int ((Jvm.Free.XT.ushr xx (3 : Int32)) &&& 65535)] ?_
          refine Dg C S0 (ow hw 252 rfl) (by decide +kernel) ?_
          refine Ao C S0 .lt 17 141 (fun (q47 : ((Jvm.Free.XT.ushr xx (3 : Int32)) &&& 65535) < 55296) => ?_) (fun (q48 : ¬ ((Jvm.Free.XT.ushr xx (3 : Int32)) &&& 65535) < 55296) => ?_)
          · refine Ac C S0 [(141, .aload_n 0, 1), (142, .iload_n 1, 1), (143, .iload 6, 2), (145, .iload_n 3, 1)] 146 #[Ab b, Aa (Int32.ofNat pre.length), Aa xx, Aa cz, Aa (xx &&& (7 : Int32)), Aa (Jvm.Free.XT.ushr xx (3 : Int32)), Aa ((Jvm.Free.XT.ushr xx (3 : Int32)) &&& 65535), .unset] [.int cz, .int ((Jvm.Free.XT.ushr xx (3 : Int32)) &&& 65535), .int (Int32.ofNat pre.length), .ref b] ?_
            refine Ak C S0 hw 315 316 2 317 (Gq l Z a0 hw b _ pre ((Jvm.Free.XT.ushr xx (3 : Int32)) &&& 65535) cz h0 n0 z0 ge_b bA (by (try simp only [List.length_append, List.length_cons, List.length_nil]); omega) (Ee _)) 0 [.ref b, .int (Int32.ofNat pre.length), .int ((Jvm.Free.XT.ushr xx (3 : Int32)) &&& 65535), .int cz] [] Ef ?_
            rintro T53 h54 v55 L56 S57 ⟨⟨y49, rfl, K50, f51, p52⟩, -⟩
            have hl58 := Gm p52
            refine Ba C S57 (by decide +kernel) (by decide) (by decide) ?_
            exact ⟨y49, rfl, ((Keep.refl _ _).trans K50 (allS (Ad 0) all0)), f51, own_k4 p52 (Fq (Or.inl q47)).2.1 (Fq (Or.inl q47)).2.2⟩
          · refine Ac C S0 [(127, .iload 6, 2)] 129 #[Ab b, Aa (Int32.ofNat pre.length), Aa xx, Aa cz, Aa (xx &&& (7 : Int32)), Aa (Jvm.Free.XT.ushr xx (3 : Int32)), Aa ((Jvm.Free.XT.ushr xx (3 : Int32)) &&& 65535), .unset] [.int ((Jvm.Free.XT.ushr xx (3 : Int32)) &&& 65535)] ?_
            refine Dg C S0 (ow hw 341 rfl) (by decide +kernel) ?_
            refine Ao C S0 .gt 10 141 (fun (q59 : 57343 < ((Jvm.Free.XT.ushr xx (3 : Int32)) &&& 65535)) => ?_) (fun (q60 : ¬ 57343 < ((Jvm.Free.XT.ushr xx (3 : Int32)) &&& 65535)) => ?_)
            · refine Ac C S0 [(141, .aload_n 0, 1), (142, .iload_n 1, 1), (143, .iload 6, 2), (145, .iload_n 3, 1)] 146 #[Ab b, Aa (Int32.ofNat pre.length), Aa xx, Aa cz, Aa (xx &&& (7 : Int32)), Aa (Jvm.Free.XT.ushr xx (3 : Int32)), Aa ((Jvm.Free.XT.ushr xx (3 : Int32)) &&& 65535), .unset] [.int cz, .int ((Jvm.Free.XT.ushr xx (3 : Int32)) &&& 65535), .int (Int32.ofNat pre.length), .ref b] ?_
              refine Ak C S0 hw 315 316 2 317 (Gq l Z a0 hw b _ pre ((Jvm.Free.XT.ushr xx (3 : Int32)) &&& 65535) cz h0 n0 z0 ge_b bA (by (try simp only [List.length_append, List.length_cons, List.length_nil]); omega) (Ee _)) 0 [.ref b, .int (Int32.ofNat pre.length), .int ((Jvm.Free.XT.ushr xx (3 : Int32)) &&& 65535), .int cz] [] Ef ?_
              rintro T65 h66 v67 L68 S69 ⟨⟨y61, rfl, K62, f63, p64⟩, -⟩
              have hl70 := Gm p64
              refine Ba C S69 (by decide +kernel) (by decide) (by decide) ?_
              exact ⟨y61, rfl, ((Keep.refl _ _).trans K62 (allS (Ad 0) all0)), f63, own_k4 p64 (Fq (Or.inr q59)).2.1 (Fq (Or.inr q59)).2.2⟩
            · have hxr := own_xr ⟨q48, q60⟩
              refine Ac C S0 [(134, .iload 6, 2)] 136 #[Ab b, Aa (Int32.ofNat pre.length), Aa xx, Aa cz, Aa (xx &&& (7 : Int32)), Aa (Jvm.Free.XT.ushr xx (3 : Int32)), Aa ((Jvm.Free.XT.ushr xx (3 : Int32)) &&& 65535), .unset] [.int ((Jvm.Free.XT.ushr xx (3 : Int32)) &&& 65535)] ?_
              refine Dg C S0 (ow hw 342 rfl) (by decide +kernel) ?_
              refine Ac C S0 [(138, .ixor, 1), (139, .istore 6, 2), (141, .aload_n 0, 1), (142, .iload_n 1, 1), (143, .iload 6, 2), (145, .iload_n 3, 1)] 146 #[Ab b, Aa (Int32.ofNat pre.length), Aa xx, Aa cz, Aa (xx &&& (7 : Int32)), Aa (Jvm.Free.XT.ushr xx (3 : Int32)), Aa (((Jvm.Free.XT.ushr xx (3 : Int32)) &&& 65535) ^^^ 32768), .unset] [.int cz, .int (((Jvm.Free.XT.ushr xx (3 : Int32)) &&& 65535) ^^^ 32768), .int (Int32.ofNat pre.length), .ref b] ?_
              refine Ak C S0 hw 315 316 2 317 (Gq l Z a0 hw b _ pre (((Jvm.Free.XT.ushr xx (3 : Int32)) &&& 65535) ^^^ 32768) cz h0 n0 z0 ge_b bA (by (try simp only [List.length_append, List.length_cons, List.length_nil]); omega) hxr.2.2) 0 [.ref b, .int (Int32.ofNat pre.length), .int (((Jvm.Free.XT.ushr xx (3 : Int32)) &&& 65535) ^^^ 32768), .int cz] [] Ef ?_
              rintro T75 h76 v77 L78 S79 ⟨⟨y71, rfl, K72, f73, p74⟩, -⟩
              have hl80 := Gm p74
              refine Ba C S79 (by decide +kernel) (by decide) (by decide) ?_
              exact ⟨y71, rfl, ((Keep.refl _ _).trans K72 (allS (Ad 0) all0)), f73, own_k4 p74 hxr.1 hxr.2.1⟩
      · refine Ac C S0 [(85, .aload_n 0, 1), (86, .iload_n 1, 1), (87, .bipush 92, 2)] 89 #[Ab b, Aa (Int32.ofNat pre.length), Aa xx, Aa cz, Aa (xx &&& (7 : Int32)), Aa (Jvm.Free.XT.ushr xx (3 : Int32)), .unset, .unset] [.int 92, .int (Int32.ofNat pre.length), .ref b] ?_
        refine Ak C S0 hw 8 9 2 10 (Ap l Z a0 hw b _ pre 92 h0 n0 z0 ge_b bA (by (try simp only [List.length_append, List.length_cons, List.length_nil]); omega) Aq) 0 [.ref b, .int (Int32.ofNat pre.length), .int 92] [] Am ?_
        rintro T83 h84 v85 L86 S87 ⟨⟨rfl, K81, f82⟩, -⟩
        refine Ac C S87 [(92, .istore_n 1, 1), (93, .aload_n 0, 1), (94, .iload_n 1, 1), (95, .iload 5, 2), (97, .bipush 7, 2), (99, .iand, 1)] 100 #[Ab b, Aa (Int32.ofNat (pre ++ [(92 : Int32)]).length), Aa xx, Aa cz, Aa (xx &&& (7 : Int32)), Aa (Jvm.Free.XT.ushr xx (3 : Int32)), .unset, .unset] [.int ((Jvm.Free.XT.ushr xx (3 : Int32)) &&& (7 : Int32)), .int (Int32.ofNat (pre ++ [(92 : Int32)]).length), .ref b] ?_
        have f88 : n0 ≤ h84.size := (Nat.le_trans z0 K81.1)
        refine Ak C S87 hw 25 26 2 27 (own_sim l Z a0 hw ((Jvm.Free.XT.ushr xx (3 : Int32)) &&& (7 : Int32)) h84 n0 f88) 2 [.int ((Jvm.Free.XT.ushr xx (3 : Int32)) &&& (7 : Int32))] [.int (Int32.ofNat (pre ++ [(92 : Int32)]).length), .ref b] Ct ?_
        rintro T92 h93 v94 L95 S96 ⟨⟨y89, rfl, e90, p91⟩, -⟩
        rw [e90] at S96; clear e90
        refine Ak C S96 hw 8 9 2 10 (Ap l Z a0 hw b _ (pre ++ [(92 : Int32)]) y89 h84 n0 f88 ge_b f82 (by (try simp only [List.length_append, List.length_cons, List.length_nil]); omega) (own_sic _ p91)) 0 [.ref b, .int (Int32.ofNat (pre ++ [(92 : Int32)]).length), .int y89] [] Am ?_
        rintro T99 h100 v101 L102 S103 ⟨⟨rfl, K97, f98⟩, -⟩
        refine Ba C S103 (by decide +kernel) (by decide) (by decide) ?_
        exact ⟨((pre ++ [(92 : Int32)]) ++ [y89]), rfl, (((Keep.refl _ _).trans K81 (allS (Ad 0) all0)).trans K97 (allS (Ad 0) all0)), f98, own_k3 p91⟩
    · refine Ac C S0 [(24, .iload 5, 2)] 26 #[Ab b, Aa (Int32.ofNat pre.length), Aa xx, Aa cz, Aa (xx &&& (7 : Int32)), Aa (Jvm.Free.XT.ushr xx (3 : Int32)), .unset, .unset] [.int (Jvm.Free.XT.ushr xx (3 : Int32))] ?_
      refine Dg C S0 (ow hw 28 rfl) (by decide +kernel) ?_
      refine Ac C S0 [(28, .iand, 1), (29, .i2c, 1)] 30 #[Ab b, Aa (Int32.ofNat pre.length), Aa xx, Aa cz, Aa (xx &&& (7 : Int32)), Aa (Jvm.Free.XT.ushr xx (3 : Int32)), .unset, .unset] [.int (((Jvm.Free.XT.ushr xx (3 : Int32)) &&& 65535).toUInt32.toUInt16.toUInt32.toInt32)] ?_
      rw [show ((Jvm.Free.XT.ushr xx (3 : Int32)) &&& 65535).toUInt32.toUInt16.toUInt32.toInt32 = ((Jvm.Free.XT.ushr xx (3 : Int32)) &&& 65535) from Dp (Ee _).1 (Ee _).2]
      refine Ac C S0 [(30, .istore 6, 2), (32, .iload 6, 2), (34, .bipush 32, 2)] 36 #[Ab b, Aa (Int32.ofNat pre.length), Aa xx, Aa cz, Aa (xx &&& (7 : Int32)), Aa (Jvm.Free.XT.ushr xx (3 : Int32)), Aa ((Jvm.Free.XT.ushr xx (3 : Int32)) &&& 65535), .unset] [.int 32, .int ((Jvm.Free.XT.ushr xx (3 : Int32)) &&& 65535)] ?_
      refine Ao C S0 .lt 31 67 (fun (q104 : ((Jvm.Free.XT.ushr xx (3 : Int32)) &&& 65535) < (32 : Int32)) => ?_) (fun (q105 : ¬ ((Jvm.Free.XT.ushr xx (3 : Int32)) &&& 65535) < (32 : Int32)) => ?_)
      · refine Ac C S0 [(67, .bipush 97, 2), (69, .istore 6, 2), (71, .aload_n 0, 1), (72, .iload_n 1, 1), (73, .iload 6, 2)] 75 #[Ab b, Aa (Int32.ofNat pre.length), Aa xx, Aa cz, Aa (xx &&& (7 : Int32)), Aa (Jvm.Free.XT.ushr xx (3 : Int32)), Aa 97, .unset] [.int 97, .int (Int32.ofNat pre.length), .ref b] ?_
        refine Ak C S0 hw 8 9 2 10 (Ap l Z a0 hw b _ pre 97 h0 n0 z0 ge_b bA (by (try simp only [List.length_append, List.length_cons, List.length_nil]); omega) Aq) 0 [.ref b, .int (Int32.ofNat pre.length), .int 97] [] Am ?_
        rintro T108 h109 v110 L111 S112 ⟨⟨rfl, K106, f107⟩, -⟩
        refine Ba C S112 (by decide +kernel) (by decide) (by decide) ?_
        exact ⟨(pre ++ [(97 : Int32)]), rfl, ((Keep.refl _ _).trans K106 (allS (Ad 0) all0)), f107, own_k1 Aq own_97⟩
      · refine Ac C S0 [(39, .iload 6, 2), (41, .bipush 34, 2)] 43 #[Ab b, Aa (Int32.ofNat pre.length), Aa xx, Aa cz, Aa (xx &&& (7 : Int32)), Aa (Jvm.Free.XT.ushr xx (3 : Int32)), Aa ((Jvm.Free.XT.ushr xx (3 : Int32)) &&& 65535), .unset] [.int 34, .int ((Jvm.Free.XT.ushr xx (3 : Int32)) &&& 65535)] ?_
        refine Ao C S0 .eq 24 67 (fun (q113 : ((Jvm.Free.XT.ushr xx (3 : Int32)) &&& 65535) = (34 : Int32)) => ?_) (fun (q114 : ¬ ((Jvm.Free.XT.ushr xx (3 : Int32)) &&& 65535) = (34 : Int32)) => ?_)
        · refine Ac C S0 [(67, .bipush 97, 2), (69, .istore 6, 2), (71, .aload_n 0, 1), (72, .iload_n 1, 1), (73, .iload 6, 2)] 75 #[Ab b, Aa (Int32.ofNat pre.length), Aa xx, Aa cz, Aa (xx &&& (7 : Int32)), Aa (Jvm.Free.XT.ushr xx (3 : Int32)), Aa 97, .unset] [.int 97, .int (Int32.ofNat pre.length), .ref b] ?_
          refine Ak C S0 hw 8 9 2 10 (Ap l Z a0 hw b _ pre 97 h0 n0 z0 ge_b bA (by (try simp only [List.length_append, List.length_cons, List.length_nil]); omega) Aq) 0 [.ref b, .int (Int32.ofNat pre.length), .int 97] [] Am ?_
          rintro T117 h118 v119 L120 S121 ⟨⟨rfl, K115, f116⟩, -⟩
          refine Ba C S121 (by decide +kernel) (by decide) (by decide) ?_
          exact ⟨(pre ++ [(97 : Int32)]), rfl, ((Keep.refl _ _).trans K115 (allS (Ad 0) all0)), f116, own_k1 Aq own_97⟩
        · refine Ac C S0 [(46, .iload 6, 2), (48, .bipush 92, 2)] 50 #[Ab b, Aa (Int32.ofNat pre.length), Aa xx, Aa cz, Aa (xx &&& (7 : Int32)), Aa (Jvm.Free.XT.ushr xx (3 : Int32)), Aa ((Jvm.Free.XT.ushr xx (3 : Int32)) &&& 65535), .unset] [.int 92, .int ((Jvm.Free.XT.ushr xx (3 : Int32)) &&& 65535)] ?_
          refine Ao C S0 .eq 17 67 (fun (q122 : ((Jvm.Free.XT.ushr xx (3 : Int32)) &&& 65535) = (92 : Int32)) => ?_) (fun (q123 : ¬ ((Jvm.Free.XT.ushr xx (3 : Int32)) &&& 65535) = (92 : Int32)) => ?_)
          · refine Ac C S0 [(67, .bipush 97, 2), (69, .istore 6, 2), (71, .aload_n 0, 1), (72, .iload_n 1, 1), (73, .iload 6, 2)] 75 #[Ab b, Aa (Int32.ofNat pre.length), Aa xx, Aa cz, Aa (xx &&& (7 : Int32)), Aa (Jvm.Free.XT.ushr xx (3 : Int32)), Aa 97, .unset] [.int 97, .int (Int32.ofNat pre.length), .ref b] ?_
            refine Ak C S0 hw 8 9 2 10 (Ap l Z a0 hw b _ pre 97 h0 n0 z0 ge_b bA (by (try simp only [List.length_append, List.length_cons, List.length_nil]); omega) Aq) 0 [.ref b, .int (Int32.ofNat pre.length), .int 97] [] Am ?_
            rintro T126 h127 v128 L129 S130 ⟨⟨rfl, K124, f125⟩, -⟩
            refine Ba C S130 (by decide +kernel) (by decide) (by decide) ?_
            exact ⟨(pre ++ [(97 : Int32)]), rfl, ((Keep.refl _ _).trans K124 (allS (Ad 0) all0)), f125, own_k1 Aq own_97⟩
          · refine Ac C S0 [(53, .iload 6, 2)] 55 #[Ab b, Aa (Int32.ofNat pre.length), Aa xx, Aa cz, Aa (xx &&& (7 : Int32)), Aa (Jvm.Free.XT.ushr xx (3 : Int32)), Aa ((Jvm.Free.XT.ushr xx (3 : Int32)) &&& 65535), .unset] [.int ((Jvm.Free.XT.ushr xx (3 : Int32)) &&& 65535)] ?_
            refine Dg C S0 (ow hw 252 rfl) (by decide +kernel) ?_
            refine Ao C S0 .lt 14 71 (fun (q131 : ((Jvm.Free.XT.ushr xx (3 : Int32)) &&& 65535) < 55296) => ?_) (fun (q132 : ¬ ((Jvm.Free.XT.ushr xx (3 : Int32)) &&& 65535) < 55296) => ?_)
            · refine Ac C S0 [(71, .aload_n 0, 1), (72, .iload_n 1, 1), (73, .iload 6, 2)] 75 #[Ab b, Aa (Int32.ofNat pre.length), Aa xx, Aa cz, Aa (xx &&& (7 : Int32)), Aa (Jvm.Free.XT.ushr xx (3 : Int32)), Aa ((Jvm.Free.XT.ushr xx (3 : Int32)) &&& 65535), .unset] [.int ((Jvm.Free.XT.ushr xx (3 : Int32)) &&& 65535), .int (Int32.ofNat pre.length), .ref b] ?_
              refine Ak C S0 hw 8 9 2 10 (Ap l Z a0 hw b _ pre ((Jvm.Free.XT.ushr xx (3 : Int32)) &&& 65535) h0 n0 z0 ge_b bA (by (try simp only [List.length_append, List.length_cons, List.length_nil]); omega) (Ee _)) 0 [.ref b, .int (Int32.ofNat pre.length), .int ((Jvm.Free.XT.ushr xx (3 : Int32)) &&& 65535)] [] Am ?_
              rintro T135 h136 v137 L138 S139 ⟨⟨rfl, K133, f134⟩, -⟩
              refine Ba C S139 (by decide +kernel) (by decide) (by decide) ?_
              exact ⟨(pre ++ [((Jvm.Free.XT.ushr xx (3 : Int32)) &&& 65535)]), rfl, ((Keep.refl _ _).trans K133 (allS (Ad 0) all0)), f134, own_k1 (Ee _) ⟨q114, q123, q105, (Fq (Or.inl q131)).1⟩⟩
            · refine Ac C S0 [(60, .iload 6, 2)] 62 #[Ab b, Aa (Int32.ofNat pre.length), Aa xx, Aa cz, Aa (xx &&& (7 : Int32)), Aa (Jvm.Free.XT.ushr xx (3 : Int32)), Aa ((Jvm.Free.XT.ushr xx (3 : Int32)) &&& 65535), .unset] [.int ((Jvm.Free.XT.ushr xx (3 : Int32)) &&& 65535)] ?_
              refine Dg C S0 (ow hw 341 rfl) (by decide +kernel) ?_
              refine Ao C S0 .gt 7 71 (fun (q140 : 57343 < ((Jvm.Free.XT.ushr xx (3 : Int32)) &&& 65535)) => ?_) (fun (q141 : ¬ 57343 < ((Jvm.Free.XT.ushr xx (3 : Int32)) &&& 65535)) => ?_)
              · refine Ac C S0 [(71, .aload_n 0, 1), (72, .iload_n 1, 1), (73, .iload 6, 2)] 75 #[Ab b, Aa (Int32.ofNat pre.length), Aa xx, Aa cz, Aa (xx &&& (7 : Int32)), Aa (Jvm.Free.XT.ushr xx (3 : Int32)), Aa ((Jvm.Free.XT.ushr xx (3 : Int32)) &&& 65535), .unset] [.int ((Jvm.Free.XT.ushr xx (3 : Int32)) &&& 65535), .int (Int32.ofNat pre.length), .ref b] ?_
                refine Ak C S0 hw 8 9 2 10 (Ap l Z a0 hw b _ pre ((Jvm.Free.XT.ushr xx (3 : Int32)) &&& 65535) h0 n0 z0 ge_b bA (by (try simp only [List.length_append, List.length_cons, List.length_nil]); omega) (Ee _)) 0 [.ref b, .int (Int32.ofNat pre.length), .int ((Jvm.Free.XT.ushr xx (3 : Int32)) &&& 65535)] [] Am ?_
                rintro T144 h145 v146 L147 S148 ⟨⟨rfl, K142, f143⟩, -⟩
                refine Ba C S148 (by decide +kernel) (by decide) (by decide) ?_
                exact ⟨(pre ++ [((Jvm.Free.XT.ushr xx (3 : Int32)) &&& 65535)]), rfl, ((Keep.refl _ _).trans K142 (allS (Ad 0) all0)), f143, own_k1 (Ee _) ⟨q114, q123, q105, (Fq (Or.inr q140)).1⟩⟩
              · refine Ac C S0 [(67, .bipush 97, 2), (69, .istore 6, 2), (71, .aload_n 0, 1), (72, .iload_n 1, 1), (73, .iload 6, 2)] 75 #[Ab b, Aa (Int32.ofNat pre.length), Aa xx, Aa cz, Aa (xx &&& (7 : Int32)), Aa (Jvm.Free.XT.ushr xx (3 : Int32)), Aa 97, .unset] [.int 97, .int (Int32.ofNat pre.length), .ref b] ?_
                refine Ak C S0 hw 8 9 2 10 (Ap l Z a0 hw b _ pre 97 h0 n0 z0 ge_b bA (by (try simp only [List.length_append, List.length_cons, List.length_nil]); omega) Aq) 0 [.ref b, .int (Int32.ofNat pre.length), .int 97] [] Am ?_
                rintro T151 h152 v153 L154 S155 ⟨⟨rfl, K149, f150⟩, -⟩
                refine Ba C S155 (by decide +kernel) (by decide) (by decide) ?_
                exact ⟨(pre ++ [(97 : Int32)]), rfl, ((Keep.refl _ _).trans K149 (allS (Ad 0) all0)), f150, own_k1 Aq own_97⟩
  · refine Ac C S0 [(16, .iload_n 1, 1)] 17 #[Ab b, Aa (Int32.ofNat pre.length), Aa xx, Aa cz, Aa (xx &&& (7 : Int32)), Aa (Jvm.Free.XT.ushr xx (3 : Int32)), .unset, .unset] [.int (Int32.ofNat pre.length)] ?_
    refine Ba C S0 (by decide +kernel) (by decide) (by decide) ?_
    exact ⟨pre, rfl, (Keep.refl _ _), bA, own_k0⟩
theorem own_str (hw : Ar a0 Z) (b : Addr) (bk : ClassId) (pre : List Int32) (xx : Int32) (xy : Int32) (ff : Int64) (h0 : Heap) (n0 : Nat) (z0 : n0 ≤ h0.size) (ge_b : n0 ≤ b) (bA : Arv Z h0 b bk .char (88 : Int32) (Ce pre) (.int 0)) (hl : pre.length + 26 ≤ 88) :
    Ag l Z (⟨"com/example/limit1/limit1/JsonTextCheckPinLaw", "string", "([CIIIJ)I"⟩ : MethodName) method_8_code 6 (some .int) ({ frames := 3, cells := 0, slots := 0, locals := 49 } : Room) n0 #[(.ref b), (.int (Int32.ofNat pre.length)), (.int xx), (.int xy), (.long ff)] h0 (fun v h => ∃ q : List Int32, v = some (.int (Int32.ofNat q.length)) ∧ Keep h0 h [b] ∧ Arv Z h b bk .char (88 : Int32) (Ce q) (.int 0) ∧ (Bc Fa pre q)) := by
  refine Au #[.val (.ref b), .val (.int (Int32.ofNat pre.length)), .val (.int xx), .val (.int xy), .val (.long ff), .second] ?_
  intro p e s m below meth c T0 C S0
  refine Ac C S0 [(0, .aload_n 0, 1), (1, .iload_n 1, 1), (2, .bipush 34, 2)] 4 #[Ab b, Aa (Int32.ofNat pre.length), Aa xx, Aa xy, .val (.long ff), .second] [.int 34, .int (Int32.ofNat pre.length), .ref b] ?_
  refine Ak C S0 hw 8 9 2 10 (Ap l Z a0 hw b _ pre 34 h0 n0 z0 ge_b bA (by (try simp only [List.length_append, List.length_cons, List.length_nil]); omega) Aq) 0 [.ref b, .int (Int32.ofNat pre.length), .int 34] [] Am ?_
  rintro T3 h4 v5 L6 S7 ⟨⟨rfl, K1, f2⟩, -⟩
  refine Ac C S7 [(7, .istore_n 1, 1), (8, .aload_n 0, 1), (9, .iload_n 1, 1), (10, .iload_n 2, 1), (11, .lload 4, 2), (13, .l2i, 1)] 14 #[Ab b, Aa (Int32.ofNat (pre ++ [(34 : Int32)]).length), Aa xx, Aa xy, .val (.long ff), .second] [.int ff.toInt32, .int xx, .int (Int32.ofNat (pre ++ [(34 : Int32)]).length), .ref b] ?_
  have f8 : n0 ≤ h4.size := (Nat.le_trans z0 K1.1)
  refine Ak C S7 hw 22 23 2 24 (own_unt l Z a0 hw b _ (pre ++ [(34 : Int32)]) xx ff.toInt32 h4 n0 f8 ge_b f2 (by (try simp only [List.length_append, List.length_cons, List.length_nil]); omega)) 0 [.ref b, .int (Int32.ofNat (pre ++ [(34 : Int32)]).length), .int xx, .int ff.toInt32] [] Ef ?_
  rintro T13 h14 v15 L16 S17 ⟨⟨y9, rfl, K10, f11, p12⟩, -⟩
  have hl18 := own_l5 p12
  have hl19 := by simpa only [List.length_append, List.length_cons, List.length_nil] using hl18
  refine Ac C S17 [(17, .istore_n 1, 1), (18, .aload_n 0, 1), (19, .iload_n 1, 1), (20, .iload_n 3, 1), (21, .lload 4, 2), (23, .bipush 8, 2), (25, .lushr, 1), (26, .l2i, 1)] 27 #[Ab b, Aa (Int32.ofNat y9.length), Aa xx, Aa xy, .val (.long ff), .second] [.int ((Jvm.Free.XT.ushrL ff (8 : Int32)).toInt32), .int xy, .int (Int32.ofNat y9.length), .ref b] ?_
  have f20 : n0 ≤ h14.size := (Nat.le_trans f8 K10.1)
  refine Ak C S17 hw 22 23 2 24 (own_unt l Z a0 hw b _ y9 xy ((Jvm.Free.XT.ushrL ff (8 : Int32)).toInt32) h14 n0 f20 ge_b f11 (by (try simp only [List.length_append, List.length_cons, List.length_nil]); omega)) 0 [.ref b, .int (Int32.ofNat y9.length), .int xy, .int ((Jvm.Free.XT.ushrL ff (8 : Int32)).toInt32)] [] Ef ?_
  rintro T25 h26 v27 L28 S29 ⟨⟨y21, rfl, K22, f23, p24⟩, -⟩
  have hl30 := own_l5 p24
  refine Ac C S29 [(30, .istore_n 1, 1), (31, .aload_n 0, 1), (32, .iload_n 1, 1), (33, .bipush 34, 2)] 35 #[Ab b, Aa (Int32.ofNat y21.length), Aa xx, Aa xy, .val (.long ff), .second] [.int 34, .int (Int32.ofNat y21.length), .ref b] ?_
  have f31 : n0 ≤ h26.size := (Nat.le_trans f20 K22.1)
  refine Ak C S29 hw 8 9 2 10 (Ap l Z a0 hw b _ y21 34 h26 n0 f31 ge_b f23 (by (try simp only [List.length_append, List.length_cons, List.length_nil]); omega) Aq) 0 [.ref b, .int (Int32.ofNat y21.length), .int 34] [] Am ?_
  rintro T34 h35 v36 L37 S38 ⟨⟨rfl, K32, f33⟩, -⟩
  refine Ba C S38 (by decide +kernel) (by decide) (by decide) ?_
  exact ⟨(y21 ++ [(34 : Int32)]), rfl, (((((Keep.refl _ _).trans K1 (allS (Ad 0) all0)).trans K10 (allS (Ad 0) all0)).trans K22 (allS (Ad 0) all0)).trans K32 (allS (Ad 0) all0)), f33, own_srI p12 p24⟩
theorem own_pd28 : parseMethodDescriptor "(J)C" = some ⟨[.long], (some .char)⟩ := by decide +kernel
theorem own_bnu (hw : Ar a0 Z) (b : Addr) (bk : ClassId) (pre : List Int32) (ee : Int64) (h0 : Heap) (n0 : Nat) (z0 : n0 ≤ h0.size) (ge_b : n0 ≤ b) (bA : Arv Z h0 b bk .char (88 : Int32) (Ce pre) (.int 0)) (hl : pre.length + 8 ≤ 88) :
    Ag l Z (⟨"com/example/limit1/limit1/JsonTextCheckPinLaw", "number", "([CIJ)I"⟩ : MethodName) method_7_code 5 (some .int) ({ frames := 1, cells := 0, slots := 0, locals := 15 } : Room) n0 #[(.ref b), (.int (Int32.ofNat pre.length)), (.long ee)] h0 (fun v h => ∃ q : List Int32, v = some (.int (Int32.ofNat q.length)) ∧ Keep h0 h [b] ∧ Arv Z h b bk .char (88 : Int32) (Ce q) (.int 0) ∧ (Bc Dh pre q)) := by
  refine Au #[.val (.ref b), .val (.int (Int32.ofNat pre.length)), .val (.long ee), .second, .unset] ?_
  intro p e s m below meth c T0 C S0
  have J205 : ∀ (T2 : State) (h1 : Heap) (q0 : List Int32) (z4 : Slot), Az p l e ({ frames := 1, cells := 0, slots := 0, locals := 15 } : Room) s m #[(.ref b), (.int (Int32.ofNat pre.length)), (.long ee)] below meth c n0 T2 h1 0 0 → Keep h0 h1 [b] → Arv Z h1 b bk .char (88 : Int32) (Ce q0) (.int 0) → (Bc Dh pre q0) → Aj p e below (Cq s n0 (fun v h => ∃ q : List Int32, v = some (.int (Int32.ofNat q.length)) ∧ Keep h0 h [b] ∧ Arv Z h b bk .char (88 : Int32) (Ce q) (.int 0) ∧ (Bc Dh pre q)) ({ frames := 1, cells := 0, slots := 0, locals := 15 } : Room).cells ({ frames := 1, cells := 0, slots := 0, locals := 15 } : Room).slots) T2 (mkF m 205 #[Ab b, Aa (Int32.ofNat q0.length), .val (.long ee), .second, z4] []) := by
    intro T2 h1 q0 z4 S3 K4 bA1 hx
    refine Ac C S3 [(205, .iload_n 1, 1)] 206 #[Ab b, Aa (Int32.ofNat q0.length), .val (.long ee), .second, z4] [.int (Int32.ofNat q0.length)] ?_
    refine Ba C S3 (by decide +kernel) (by decide) (by decide) ?_
    exact ⟨q0, rfl, ((Keep.refl _ _).trans K4 (allS (Ad 0) all0)), bA1, hx⟩
  have J192 : ∀ (T6 : State) (h5 : Heap) (q0 : List Int32) (z4 : Int32), Az p l e ({ frames := 1, cells := 0, slots := 0, locals := 15 } : Room) s m #[(.ref b), (.int (Int32.ofNat pre.length)), (.long ee)] below meth c n0 T6 h5 0 0 → Keep h0 h5 [b] → Arv Z h5 b bk .char (88 : Int32) (Ce q0) (.int 0) → (Bc own_n4 pre q0) → Aj p e below (Cq s n0 (fun v h => ∃ q : List Int32, v = some (.int (Int32.ofNat q.length)) ∧ Keep h0 h [b] ∧ Arv Z h b bk .char (88 : Int32) (Ce q) (.int 0) ∧ (Bc Dh pre q)) ({ frames := 1, cells := 0, slots := 0, locals := 15 } : Room).cells ({ frames := 1, cells := 0, slots := 0, locals := 15 } : Room).slots) T6 (mkF m 192 #[Ab b, Aa (Int32.ofNat q0.length), .val (.long ee), .second, Aa z4] []) := by
    intro T6 h5 q0 z4 S7 K8 bA1 hx
    have hlq := own_l4 hx
    refine Ac C S7 [(192, .aload_n 0, 1), (193, .iload_n 1, 1), (194, .lload_n 2, 1), (195, .bipush 20, 2), (197, .lushr, 1)] 198 #[Ab b, Aa (Int32.ofNat q0.length), .val (.long ee), .second, Aa z4] [.long (Jvm.Free.XT.ushrL ee (20 : Int32)), .int (Int32.ofNat q0.length), .ref b] ?_
    have f9 : n0 ≤ h5.size := (Nat.le_trans z0 K8.1)
    refine Ak C S7 hw 14 15 2 16 (own_dig l Z a0 hw (Jvm.Free.XT.ushrL ee (20 : Int32)) h5 n0 f9) 2 [.long (Jvm.Free.XT.ushrL ee (20 : Int32))] [.int (Int32.ofNat q0.length), .ref b] own_pd28 ?_
    rintro T13 h14 v15 L16 S17 ⟨⟨y10, rfl, e11, p12⟩, -⟩
    rw [e11] at S17; clear e11
    refine Ak C S17 hw 8 9 2 10 (Ap l Z a0 hw b _ q0 y10 h5 n0 f9 ge_b bA1 (by (try simp only [List.length_append, List.length_cons, List.length_nil]); omega) p12.cr) 0 [.ref b, .int (Int32.ofNat q0.length), .int y10] [] Am ?_
    rintro T20 h21 v22 L23 S24 ⟨⟨rfl, K18, f19⟩, -⟩
    refine Ac C S24 [(204, .istore_n 1, 1)] 205 #[Ab b, Aa (Int32.ofNat (q0 ++ [y10]).length), .val (.long ee), .second, Aa z4] [] ?_
    exact J205 T20 h21 (q0 ++ [y10]) _ S24 (((Keep.refl _ _).trans K8 (allS (Ad 0) all0)).trans K18 (allS (Ad 0) all0)) f19 (own_a31 hx p12)
  have J115 : ∀ (T26 : State) (h25 : Heap) (q0 : List Int32), Az p l e ({ frames := 1, cells := 0, slots := 0, locals := 15 } : Room) s m #[(.ref b), (.int (Int32.ofNat pre.length)), (.long ee)] below meth c n0 T26 h25 0 0 → Keep h0 h25 [b] → Arv Z h25 b bk .char (88 : Int32) (Ce q0) (.int 0) → (Bc Eo pre q0) → Aj p e below (Cq s n0 (fun v h => ∃ q : List Int32, v = some (.int (Int32.ofNat q.length)) ∧ Keep h0 h [b] ∧ Arv Z h b bk .char (88 : Int32) (Ce q) (.int 0) ∧ (Bc Dh pre q)) ({ frames := 1, cells := 0, slots := 0, locals := 15 } : Room).cells ({ frames := 1, cells := 0, slots := 0, locals := 15 } : Room).slots) T26 (mkF m 115 #[Ab b, Aa (Int32.ofNat q0.length), .val (.long ee), .second, .unset] []) := by
    intro T26 h25 q0 S27 K28 bA1 hx
    have hlq := own_l2 hx
    refine Ac C S27 [(115, .lload_n 2, 1), (116, .bipush 16, 2), (118, .lushr, 1), (119, .lconst 1, 1), (120, .land, 1), (121, .lconst 0, 1), (122, .lcmp, 1)] 123 #[Ab b, Aa (Int32.ofNat q0.length), .val (.long ee), .second, .unset] [.int (Jvm.Free.XT.cmpL ((Jvm.Free.XT.ushrL ee (16 : Int32)) &&& (1 : Int64)) (0 : Int64))] ?_
    refine Bv C S27 .eq 82 205 (fun (q29 : (Jvm.Free.XT.cmpL ((Jvm.Free.XT.ushrL ee (16 : Int32)) &&& (1 : Int64)) (0 : Int64)) = (0 : Int32)) => ?_) (fun (q30 : ¬ (Jvm.Free.XT.cmpL ((Jvm.Free.XT.ushrL ee (16 : Int32)) &&& (1 : Int64)) (0 : Int64)) = (0 : Int32)) => ?_)
    · exact J205 T26 h25 q0 _ S27 ((Keep.refl _ _).trans K28 (allS (Ad 0) all0)) bA1 (own_a30 hx)
    · refine Ac C S27 [(126, .aload_n 0, 1), (127, .iload_n 1, 1), (128, .lload_n 2, 1), (129, .bipush 17, 2), (131, .lushr, 1), (132, .lconst 1, 1), (133, .land, 1), (134, .lconst 0, 1), (135, .lcmp, 1)] 136 #[Ab b, Aa (Int32.ofNat q0.length), .val (.long ee), .second, .unset] [.int (Jvm.Free.XT.cmpL ((Jvm.Free.XT.ushrL ee (17 : Int32)) &&& (1 : Int64)) (0 : Int64)), .int (Int32.ofNat q0.length), .ref b] ?_
      refine Bv C S27 .eq 8 144 (fun (q31 : (Jvm.Free.XT.cmpL ((Jvm.Free.XT.ushrL ee (17 : Int32)) &&& (1 : Int64)) (0 : Int64)) = (0 : Int32)) => ?_) (fun (q32 : ¬ (Jvm.Free.XT.cmpL ((Jvm.Free.XT.ushrL ee (17 : Int32)) &&& (1 : Int64)) (0 : Int64)) = (0 : Int32)) => ?_)
      · refine Ac C S27 [(144, .bipush 101, 2)] 146 #[Ab b, Aa (Int32.ofNat q0.length), .val (.long ee), .second, .unset] [.int 101, .int (Int32.ofNat q0.length), .ref b] ?_
        have f33 : n0 ≤ h25.size := (Nat.le_trans z0 K28.1)
        refine Ak C S27 hw 8 9 2 10 (Ap l Z a0 hw b _ q0 101 h25 n0 f33 ge_b bA1 (by (try simp only [List.length_append, List.length_cons, List.length_nil]); omega) Aq) 0 [.ref b, .int (Int32.ofNat q0.length), .int 101] [] Am ?_
        rintro T36 h37 v38 L39 S40 ⟨⟨rfl, K34, f35⟩, -⟩
        refine Ac C S40 [(149, .istore_n 1, 1), (150, .lload_n 2, 1), (151, .bipush 18, 2), (153, .lushr, 1)] 154 #[Ab b, Aa (Int32.ofNat (q0 ++ [(101 : Int32)]).length), .val (.long ee), .second, .unset] [.long (Jvm.Free.XT.ushrL ee (18 : Int32))] ?_
        refine Do C S40 (ow hw 314 rfl) (by decide +kernel) ?_
        refine Ac C S40 [(157, .land, 1), (158, .l2i, 1), (159, .istore 4, 2), (161, .iload 4, 2), (163, .iconst 1, 1)] 164 #[Ab b, Aa (Int32.ofNat (q0 ++ [(101 : Int32)]).length), .val (.long ee), .second, Aa (((Jvm.Free.XT.ushrL ee (18 : Int32)) &&& 3).toInt32)] [.int 1, .int (((Jvm.Free.XT.ushrL ee (18 : Int32)) &&& 3).toInt32)] ?_
        refine Ao C S40 .ne 14 178 (fun (q41 : ¬ (((Jvm.Free.XT.ushrL ee (18 : Int32)) &&& 3).toInt32) = (1 : Int32)) => ?_) (fun (q42 : (((Jvm.Free.XT.ushrL ee (18 : Int32)) &&& 3).toInt32) = (1 : Int32)) => ?_)
        · refine Ac C S40 [(178, .iload 4, 2), (180, .iconst 2, 1)] 181 #[Ab b, Aa (Int32.ofNat (q0 ++ [(101 : Int32)]).length), .val (.long ee), .second, Aa (((Jvm.Free.XT.ushrL ee (18 : Int32)) &&& 3).toInt32)] [.int 2, .int (((Jvm.Free.XT.ushrL ee (18 : Int32)) &&& 3).toInt32)] ?_
          refine Ao C S40 .ne 11 192 (fun (q43 : ¬ (((Jvm.Free.XT.ushrL ee (18 : Int32)) &&& 3).toInt32) = (2 : Int32)) => ?_) (fun (q44 : (((Jvm.Free.XT.ushrL ee (18 : Int32)) &&& 3).toInt32) = (2 : Int32)) => ?_)
          · exact J192 T36 h37 (q0 ++ [(101 : Int32)]) _ S40 (((Keep.refl _ _).trans K28 (allS (Ad 0) all0)).trans K34 (allS (Ad 0) all0)) f35 (own_a40 hx (Or.inl rfl))
          · refine Ac C S40 [(184, .aload_n 0, 1), (185, .iload_n 1, 1), (186, .bipush 45, 2)] 188 #[Ab b, Aa (Int32.ofNat (q0 ++ [(101 : Int32)]).length), .val (.long ee), .second, Aa (((Jvm.Free.XT.ushrL ee (18 : Int32)) &&& 3).toInt32)] [.int 45, .int (Int32.ofNat (q0 ++ [(101 : Int32)]).length), .ref b] ?_
            have f45 : n0 ≤ h37.size := (Nat.le_trans f33 K34.1)
            refine Ak C S40 hw 8 9 2 10 (Ap l Z a0 hw b _ (q0 ++ [(101 : Int32)]) 45 h37 n0 f45 ge_b f35 (by (try simp only [List.length_append, List.length_cons, List.length_nil]); omega) Aq) 0 [.ref b, .int (Int32.ofNat (q0 ++ [(101 : Int32)]).length), .int 45] [] Am ?_
            rintro T48 h49 v50 L51 S52 ⟨⟨rfl, K46, f47⟩, -⟩
            refine Ac C S52 [(191, .istore_n 1, 1)] 192 #[Ab b, Aa (Int32.ofNat ((q0 ++ [(101 : Int32)]) ++ [(45 : Int32)]).length), .val (.long ee), .second, Aa (((Jvm.Free.XT.ushrL ee (18 : Int32)) &&& 3).toInt32)] [] ?_
            exact J192 T48 h49 ((q0 ++ [(101 : Int32)]) ++ [(45 : Int32)]) _ S52 ((((Keep.refl _ _).trans K28 (allS (Ad 0) all0)).trans K34 (allS (Ad 0) all0)).trans K46 (allS (Ad 0) all0)) f47 (own_a41 hx (Or.inl rfl) (Or.inr rfl))
        · refine Ac C S40 [(167, .aload_n 0, 1), (168, .iload_n 1, 1), (169, .bipush 43, 2)] 171 #[Ab b, Aa (Int32.ofNat (q0 ++ [(101 : Int32)]).length), .val (.long ee), .second, Aa (((Jvm.Free.XT.ushrL ee (18 : Int32)) &&& 3).toInt32)] [.int 43, .int (Int32.ofNat (q0 ++ [(101 : Int32)]).length), .ref b] ?_
          have f53 : n0 ≤ h37.size := (Nat.le_trans f33 K34.1)
          refine Ak C S40 hw 8 9 2 10 (Ap l Z a0 hw b _ (q0 ++ [(101 : Int32)]) 43 h37 n0 f53 ge_b f35 (by (try simp only [List.length_append, List.length_cons, List.length_nil]); omega) Aq) 0 [.ref b, .int (Int32.ofNat (q0 ++ [(101 : Int32)]).length), .int 43] [] Am ?_
          rintro T56 h57 v58 L59 S60 ⟨⟨rfl, K54, f55⟩, -⟩
          refine Ac C S60 [(174, .istore_n 1, 1), (175, .goto 17, 3)] 192 #[Ab b, Aa (Int32.ofNat ((q0 ++ [(101 : Int32)]) ++ [(43 : Int32)]).length), .val (.long ee), .second, Aa (((Jvm.Free.XT.ushrL ee (18 : Int32)) &&& 3).toInt32)] [] ?_
          exact J192 T56 h57 ((q0 ++ [(101 : Int32)]) ++ [(43 : Int32)]) _ S60 ((((Keep.refl _ _).trans K28 (allS (Ad 0) all0)).trans K34 (allS (Ad 0) all0)).trans K54 (allS (Ad 0) all0)) f55 (own_a41 hx (Or.inl rfl) (Or.inl rfl))
      · refine Ac C S27 [(139, .bipush 69, 2), (141, .goto 5, 3)] 146 #[Ab b, Aa (Int32.ofNat q0.length), .val (.long ee), .second, .unset] [.int 69, .int (Int32.ofNat q0.length), .ref b] ?_
        have f61 : n0 ≤ h25.size := (Nat.le_trans z0 K28.1)
        refine Ak C S27 hw 8 9 2 10 (Ap l Z a0 hw b _ q0 69 h25 n0 f61 ge_b bA1 (by (try simp only [List.length_append, List.length_cons, List.length_nil]); omega) Aq) 0 [.ref b, .int (Int32.ofNat q0.length), .int 69] [] Am ?_
        rintro T64 h65 v66 L67 S68 ⟨⟨rfl, K62, f63⟩, -⟩
        refine Ac C S68 [(149, .istore_n 1, 1), (150, .lload_n 2, 1), (151, .bipush 18, 2), (153, .lushr, 1)] 154 #[Ab b, Aa (Int32.ofNat (q0 ++ [(69 : Int32)]).length), .val (.long ee), .second, .unset] [.long (Jvm.Free.XT.ushrL ee (18 : Int32))] ?_
        refine Do C S68 (ow hw 314 rfl) (by decide +kernel) ?_
        refine Ac C S68 [(157, .land, 1), (158, .l2i, 1), (159, .istore 4, 2), (161, .iload 4, 2), (163, .iconst 1, 1)] 164 #[Ab b, Aa (Int32.ofNat (q0 ++ [(69 : Int32)]).length), .val (.long ee), .second, Aa (((Jvm.Free.XT.ushrL ee (18 : Int32)) &&& 3).toInt32)] [.int 1, .int (((Jvm.Free.XT.ushrL ee (18 : Int32)) &&& 3).toInt32)] ?_
        refine Ao C S68 .ne 14 178 (fun (q69 : ¬ (((Jvm.Free.XT.ushrL ee (18 : Int32)) &&& 3).toInt32) = (1 : Int32)) => ?_) (fun (q70 : (((Jvm.Free.XT.ushrL ee (18 : Int32)) &&& 3).toInt32) = (1 : Int32)) => ?_)
        · refine Ac C S68 [(178, .iload 4, 2), (180, .iconst 2, 1)] 181 #[Ab b, Aa (Int32.ofNat (q0 ++ [(69 : Int32)]).length), .val (.long ee), .second, Aa (((Jvm.Free.XT.ushrL ee (18 : Int32)) &&& 3).toInt32)] [.int 2, .int (((Jvm.Free.XT.ushrL ee (18 : Int32)) &&& 3).toInt32)] ?_
          refine Ao C S68 .ne 11 192 (fun (q71 : ¬ (((Jvm.Free.XT.ushrL ee (18 : Int32)) &&& 3).toInt32) = (2 : Int32)) => ?_) (fun (q72 : (((Jvm.Free.XT.ushrL ee (18 : Int32)) &&& 3).toInt32) = (2 : Int32)) => ?_)
          · exact J192 T64 h65 (q0 ++ [(69 : Int32)]) _ S68 (((Keep.refl _ _).trans K28 (allS (Ad 0) all0)).trans K62 (allS (Ad 0) all0)) f63 (own_a40 hx (Or.inr rfl))
          · refine Ac C S68 [(184, .aload_n 0, 1), (185, .iload_n 1, 1), (186, .bipush 45, 2)] 188 #[Ab b, Aa (Int32.ofNat (q0 ++ [(69 : Int32)]).length), .val (.long ee), .second, Aa (((Jvm.Free.XT.ushrL ee (18 : Int32)) &&& 3).toInt32)] [.int 45, .int (Int32.ofNat (q0 ++ [(69 : Int32)]).length), .ref b] ?_
            have f73 : n0 ≤ h65.size := (Nat.le_trans f61 K62.1)
            refine Ak C S68 hw 8 9 2 10 (Ap l Z a0 hw b _ (q0 ++ [(69 : Int32)]) 45 h65 n0 f73 ge_b f63 (by (try simp only [List.length_append, List.length_cons, List.length_nil]); omega) Aq) 0 [.ref b, .int (Int32.ofNat (q0 ++ [(69 : Int32)]).length), .int 45] [] Am ?_
            rintro T76 h77 v78 L79 S80 ⟨⟨rfl, K74, f75⟩, -⟩
            refine Ac C S80 [(191, .istore_n 1, 1)] 192 #[Ab b, Aa (Int32.ofNat ((q0 ++ [(69 : Int32)]) ++ [(45 : Int32)]).length), .val (.long ee), .second, Aa (((Jvm.Free.XT.ushrL ee (18 : Int32)) &&& 3).toInt32)] [] ?_
            exact J192 T76 h77 ((q0 ++ [(69 : Int32)]) ++ [(45 : Int32)]) _ S80 ((((Keep.refl _ _).trans K28 (allS (Ad 0) all0)).trans K62 (allS (Ad 0) all0)).trans K74 (allS (Ad 0) all0)) f75 (own_a41 hx (Or.inr rfl) (Or.inr rfl))
        · refine Ac C S68 [(167, .aload_n 0, 1), (168, .iload_n 1, 1), (169, .bipush 43, 2)] 171 #[Ab b, Aa (Int32.ofNat (q0 ++ [(69 : Int32)]).length), .val (.long ee), .second, Aa (((Jvm.Free.XT.ushrL ee (18 : Int32)) &&& 3).toInt32)] [.int 43, .int (Int32.ofNat (q0 ++ [(69 : Int32)]).length), .ref b] ?_
          have f81 : n0 ≤ h65.size := (Nat.le_trans f61 K62.1)
          refine Ak C S68 hw 8 9 2 10 (Ap l Z a0 hw b _ (q0 ++ [(69 : Int32)]) 43 h65 n0 f81 ge_b f63 (by (try simp only [List.length_append, List.length_cons, List.length_nil]); omega) Aq) 0 [.ref b, .int (Int32.ofNat (q0 ++ [(69 : Int32)]).length), .int 43] [] Am ?_
          rintro T84 h85 v86 L87 S88 ⟨⟨rfl, K82, f83⟩, -⟩
          refine Ac C S88 [(174, .istore_n 1, 1), (175, .goto 17, 3)] 192 #[Ab b, Aa (Int32.ofNat ((q0 ++ [(69 : Int32)]) ++ [(43 : Int32)]).length), .val (.long ee), .second, Aa (((Jvm.Free.XT.ushrL ee (18 : Int32)) &&& 3).toInt32)] [] ?_
          exact J192 T84 h85 ((q0 ++ [(69 : Int32)]) ++ [(43 : Int32)]) _ S88 ((((Keep.refl _ _).trans K28 (allS (Ad 0) all0)).trans K62 (allS (Ad 0) all0)).trans K82 (allS (Ad 0) all0)) f83 (own_a41 hx (Or.inr rfl) (Or.inl rfl))
  have J83 : ∀ (T90 : State) (h89 : Heap) (q0 : List Int32), Az p l e ({ frames := 1, cells := 0, slots := 0, locals := 15 } : Room) s m #[(.ref b), (.int (Int32.ofNat pre.length)), (.long ee)] below meth c n0 T90 h89 0 0 → Keep h0 h89 [b] → Arv Z h89 b bk .char (88 : Int32) (Ce q0) (.int 0) → (Bc Et pre q0) → Aj p e below (Cq s n0 (fun v h => ∃ q : List Int32, v = some (.int (Int32.ofNat q.length)) ∧ Keep h0 h [b] ∧ Arv Z h b bk .char (88 : Int32) (Ce q) (.int 0) ∧ (Bc Dh pre q)) ({ frames := 1, cells := 0, slots := 0, locals := 15 } : Room).cells ({ frames := 1, cells := 0, slots := 0, locals := 15 } : Room).slots) T90 (mkF m 83 #[Ab b, Aa (Int32.ofNat q0.length), .val (.long ee), .second, .unset] []) := by
    intro T90 h89 q0 S91 K92 bA1 hx
    have hlq := own_l1 hx
    refine Ac C S91 [(83, .lload_n 2, 1), (84, .bipush 11, 2), (86, .lushr, 1), (87, .lconst 1, 1), (88, .land, 1), (89, .lconst 0, 1), (90, .lcmp, 1)] 91 #[Ab b, Aa (Int32.ofNat q0.length), .val (.long ee), .second, .unset] [.int (Jvm.Free.XT.cmpL ((Jvm.Free.XT.ushrL ee (11 : Int32)) &&& (1 : Int64)) (0 : Int64))] ?_
    refine Bv C S91 .eq 24 115 (fun (q93 : (Jvm.Free.XT.cmpL ((Jvm.Free.XT.ushrL ee (11 : Int32)) &&& (1 : Int64)) (0 : Int64)) = (0 : Int32)) => ?_) (fun (q94 : ¬ (Jvm.Free.XT.cmpL ((Jvm.Free.XT.ushrL ee (11 : Int32)) &&& (1 : Int64)) (0 : Int64)) = (0 : Int32)) => ?_)
    · exact J115 T90 h89 q0 S91 ((Keep.refl _ _).trans K92 (allS (Ad 0) all0)) bA1 (own_a20 hx)
    · refine Ac C S91 [(94, .aload_n 0, 1), (95, .iload_n 1, 1), (96, .bipush 46, 2)] 98 #[Ab b, Aa (Int32.ofNat q0.length), .val (.long ee), .second, .unset] [.int 46, .int (Int32.ofNat q0.length), .ref b] ?_
      have f95 : n0 ≤ h89.size := (Nat.le_trans z0 K92.1)
      refine Ak C S91 hw 8 9 2 10 (Ap l Z a0 hw b _ q0 46 h89 n0 f95 ge_b bA1 (by (try simp only [List.length_append, List.length_cons, List.length_nil]); omega) Aq) 0 [.ref b, .int (Int32.ofNat q0.length), .int 46] [] Am ?_
      rintro T98 h99 v100 L101 S102 ⟨⟨rfl, K96, f97⟩, -⟩
      refine Ac C S102 [(101, .istore_n 1, 1), (102, .aload_n 0, 1), (103, .iload_n 1, 1), (104, .lload_n 2, 1), (105, .bipush 12, 2), (107, .lushr, 1)] 108 #[Ab b, Aa (Int32.ofNat (q0 ++ [(46 : Int32)]).length), .val (.long ee), .second, .unset] [.long (Jvm.Free.XT.ushrL ee (12 : Int32)), .int (Int32.ofNat (q0 ++ [(46 : Int32)]).length), .ref b] ?_
      have f103 : n0 ≤ h99.size := (Nat.le_trans f95 K96.1)
      refine Ak C S102 hw 14 15 2 16 (own_dig l Z a0 hw (Jvm.Free.XT.ushrL ee (12 : Int32)) h99 n0 f103) 2 [.long (Jvm.Free.XT.ushrL ee (12 : Int32))] [.int (Int32.ofNat (q0 ++ [(46 : Int32)]).length), .ref b] own_pd28 ?_
      rintro T107 h108 v109 L110 S111 ⟨⟨y104, rfl, e105, p106⟩, -⟩
      rw [e105] at S111; clear e105
      refine Ak C S111 hw 8 9 2 10 (Ap l Z a0 hw b _ (q0 ++ [(46 : Int32)]) y104 h99 n0 f103 ge_b f97 (by (try simp only [List.length_append, List.length_cons, List.length_nil]); omega) p106.cr) 0 [.ref b, .int (Int32.ofNat (q0 ++ [(46 : Int32)]).length), .int y104] [] Am ?_
      rintro T114 h115 v116 L117 S118 ⟨⟨rfl, K112, f113⟩, -⟩
      refine Ac C S118 [(114, .istore_n 1, 1)] 115 #[Ab b, Aa (Int32.ofNat ((q0 ++ [(46 : Int32)]) ++ [y104]).length), .val (.long ee), .second, .unset] [] ?_
      exact J115 T114 h115 ((q0 ++ [(46 : Int32)]) ++ [y104]) S118 ((((Keep.refl _ _).trans K92 (allS (Ad 0) all0)).trans K96 (allS (Ad 0) all0)).trans K112 (allS (Ad 0) all0)) f113 (own_a21 hx p106)
  have J16 : ∀ (T120 : State) (h119 : Heap) (q0 : List Int32), Az p l e ({ frames := 1, cells := 0, slots := 0, locals := 15 } : Room) s m #[(.ref b), (.int (Int32.ofNat pre.length)), (.long ee)] below meth c n0 T120 h119 0 0 → Keep h0 h119 [b] → Arv Z h119 b bk .char (88 : Int32) (Ce q0) (.int 0) → (Bc own_n0 pre q0) → Aj p e below (Cq s n0 (fun v h => ∃ q : List Int32, v = some (.int (Int32.ofNat q.length)) ∧ Keep h0 h [b] ∧ Arv Z h b bk .char (88 : Int32) (Ce q) (.int 0) ∧ (Bc Dh pre q)) ({ frames := 1, cells := 0, slots := 0, locals := 15 } : Room).cells ({ frames := 1, cells := 0, slots := 0, locals := 15 } : Room).slots) T120 (mkF m 16 #[Ab b, Aa (Int32.ofNat q0.length), .val (.long ee), .second, .unset] []) := by
    intro T120 h119 q0 S121 K122 bA1 hx
    have hlq := own_l0 hx
    refine Ac C S121 [(16, .lload_n 2, 1), (17, .iconst 1, 1), (18, .lushr, 1), (19, .lconst 1, 1), (20, .land, 1), (21, .lconst 0, 1), (22, .lcmp, 1)] 23 #[Ab b, Aa (Int32.ofNat q0.length), .val (.long ee), .second, .unset] [.int (Jvm.Free.XT.cmpL ((Jvm.Free.XT.ushrL ee (1 : Int32)) &&& (1 : Int64)) (0 : Int64))] ?_
    refine Bv C S121 .ne 14 37 (fun (q123 : ¬ (Jvm.Free.XT.cmpL ((Jvm.Free.XT.ushrL ee (1 : Int32)) &&& (1 : Int64)) (0 : Int64)) = (0 : Int32)) => ?_) (fun (q124 : (Jvm.Free.XT.cmpL ((Jvm.Free.XT.ushrL ee (1 : Int32)) &&& (1 : Int64)) (0 : Int64)) = (0 : Int32)) => ?_)
    · refine Ac C S121 [(37, .aload_n 0, 1), (38, .iload_n 1, 1), (39, .bipush 49, 2), (41, .lload_n 2, 1), (42, .iconst 2, 1), (43, .lushr, 1)] 44 #[Ab b, Aa (Int32.ofNat q0.length), .val (.long ee), .second, .unset] [.long (Jvm.Free.XT.ushrL ee (2 : Int32)), .int 49, .int (Int32.ofNat q0.length), .ref b] ?_
      refine Do C S121 (ow hw 17 rfl) (by decide +kernel) ?_
      refine Ac C S121 [(47, .land, 1)] 48 #[Ab b, Aa (Int32.ofNat q0.length), .val (.long ee), .second, .unset] [.long ((Jvm.Free.XT.ushrL ee (2 : Int32)) &&& 15), .int 49, .int (Int32.ofNat q0.length), .ref b] ?_
      refine Do C S121 (ow hw 313 rfl) (by decide +kernel) ?_
      refine own_lrem C S121 (by decide +kernel) (by decide) ?_
      refine Ac C S121 [(52, .l2i, 1), (53, .iadd, 1), (54, .i2c, 1)] 55 #[Ab b, Aa (Int32.ofNat q0.length), .val (.long ee), .second, .unset] [.int (((49 : Int32) + (((Jvm.Free.XT.ushrL ee (2 : Int32)) &&& 15) % 9).toInt32).toUInt32.toUInt16.toUInt32.toInt32), .int (Int32.ofNat q0.length), .ref b] ?_
      have f125 : n0 ≤ h119.size := (Nat.le_trans z0 K122.1)
      refine Ak C S121 hw 8 9 2 10 (Ap l Z a0 hw b _ q0 (((49 : Int32) + (((Jvm.Free.XT.ushrL ee (2 : Int32)) &&& 15) % 9).toInt32).toUInt32.toUInt16.toUInt32.toInt32) h119 n0 f125 ge_b bA1 (by (try simp only [List.length_append, List.length_cons, List.length_nil]); omega) ((own_dgt1 _).1.cr)) 0 [.ref b, .int (Int32.ofNat q0.length), .int (((49 : Int32) + (((Jvm.Free.XT.ushrL ee (2 : Int32)) &&& 15) % 9).toInt32).toUInt32.toUInt16.toUInt32.toInt32)] [] Am ?_
      rintro T128 h129 v130 L131 S132 ⟨⟨rfl, K126, f127⟩, -⟩
      refine Ac C S132 [(58, .istore_n 1, 1), (59, .lload_n 2, 1), (60, .bipush 6, 2), (62, .lushr, 1), (63, .lconst 1, 1), (64, .land, 1), (65, .lconst 0, 1), (66, .lcmp, 1)] 67 #[Ab b, Aa (Int32.ofNat (q0 ++ [((49 : Int32) + (((Jvm.Free.XT.ushrL ee (2 : Int32)) &&& 15) % 9).toInt32).toUInt32.toUInt16.toUInt32.toInt32]).length), .val (.long ee), .second, .unset] [.int (Jvm.Free.XT.cmpL ((Jvm.Free.XT.ushrL ee (6 : Int32)) &&& (1 : Int64)) (0 : Int64))] ?_
      refine Bv C S132 .eq 16 83 (fun (q133 : (Jvm.Free.XT.cmpL ((Jvm.Free.XT.ushrL ee (6 : Int32)) &&& (1 : Int64)) (0 : Int64)) = (0 : Int32)) => ?_) (fun (q134 : ¬ (Jvm.Free.XT.cmpL ((Jvm.Free.XT.ushrL ee (6 : Int32)) &&& (1 : Int64)) (0 : Int64)) = (0 : Int32)) => ?_)
      · exact J83 T128 h129 (q0 ++ [((49 : Int32) + (((Jvm.Free.XT.ushrL ee (2 : Int32)) &&& 15) % 9).toInt32).toUInt32.toUInt16.toUInt32.toInt32]) S132 (((Keep.refl _ _).trans K122 (allS (Ad 0) all0)).trans K126 (allS (Ad 0) all0)) f127 (own_a11 hx (own_dgt1 _))
      · refine Ac C S132 [(70, .aload_n 0, 1), (71, .iload_n 1, 1), (72, .lload_n 2, 1), (73, .bipush 7, 2), (75, .lushr, 1)] 76 #[Ab b, Aa (Int32.ofNat (q0 ++ [((49 : Int32) + (((Jvm.Free.XT.ushrL ee (2 : Int32)) &&& 15) % 9).toInt32).toUInt32.toUInt16.toUInt32.toInt32]).length), .val (.long ee), .second, .unset] [.long (Jvm.Free.XT.ushrL ee (7 : Int32)), .int (Int32.ofNat (q0 ++ [((49 : Int32) + (((Jvm.Free.XT.ushrL ee (2 : Int32)) &&& 15) % 9).toInt32).toUInt32.toUInt16.toUInt32.toInt32]).length), .ref b] ?_
        have f135 : n0 ≤ h129.size := (Nat.le_trans f125 K126.1)
        refine Ak C S132 hw 14 15 2 16 (own_dig l Z a0 hw (Jvm.Free.XT.ushrL ee (7 : Int32)) h129 n0 f135) 2 [.long (Jvm.Free.XT.ushrL ee (7 : Int32))] [.int (Int32.ofNat (q0 ++ [((49 : Int32) + (((Jvm.Free.XT.ushrL ee (2 : Int32)) &&& 15) % 9).toInt32).toUInt32.toUInt16.toUInt32.toInt32]).length), .ref b] own_pd28 ?_
        rintro T139 h140 v141 L142 S143 ⟨⟨y136, rfl, e137, p138⟩, -⟩
        rw [e137] at S143; clear e137
        refine Ak C S143 hw 8 9 2 10 (Ap l Z a0 hw b _ (q0 ++ [((49 : Int32) + (((Jvm.Free.XT.ushrL ee (2 : Int32)) &&& 15) % 9).toInt32).toUInt32.toUInt16.toUInt32.toInt32]) y136 h129 n0 f135 ge_b f127 (by (try simp only [List.length_append, List.length_cons, List.length_nil]); omega) p138.cr) 0 [.ref b, .int (Int32.ofNat (q0 ++ [((49 : Int32) + (((Jvm.Free.XT.ushrL ee (2 : Int32)) &&& 15) % 9).toInt32).toUInt32.toUInt16.toUInt32.toInt32]).length), .int y136] [] Am ?_
        rintro T146 h147 v148 L149 S150 ⟨⟨rfl, K144, f145⟩, -⟩
        refine Ac C S150 [(82, .istore_n 1, 1)] 83 #[Ab b, Aa (Int32.ofNat ((q0 ++ [((49 : Int32) + (((Jvm.Free.XT.ushrL ee (2 : Int32)) &&& 15) % 9).toInt32).toUInt32.toUInt16.toUInt32.toInt32]) ++ [y136]).length), .val (.long ee), .second, .unset] [] ?_
        exact J83 T146 h147 ((q0 ++ [((49 : Int32) + (((Jvm.Free.XT.ushrL ee (2 : Int32)) &&& 15) % 9).toInt32).toUInt32.toUInt16.toUInt32.toInt32]) ++ [y136]) S150 ((((Keep.refl _ _).trans K122 (allS (Ad 0) all0)).trans K126 (allS (Ad 0) all0)).trans K144 (allS (Ad 0) all0)) f145 (own_a12 hx (own_dgt1 _) p138)
    · refine Ac C S121 [(26, .aload_n 0, 1), (27, .iload_n 1, 1), (28, .bipush 48, 2)] 30 #[Ab b, Aa (Int32.ofNat q0.length), .val (.long ee), .second, .unset] [.int 48, .int (Int32.ofNat q0.length), .ref b] ?_
      have f151 : n0 ≤ h119.size := (Nat.le_trans z0 K122.1)
      refine Ak C S121 hw 8 9 2 10 (Ap l Z a0 hw b _ q0 48 h119 n0 f151 ge_b bA1 (by (try simp only [List.length_append, List.length_cons, List.length_nil]); omega) Aq) 0 [.ref b, .int (Int32.ofNat q0.length), .int 48] [] Am ?_
      rintro T154 h155 v156 L157 S158 ⟨⟨rfl, K152, f153⟩, -⟩
      refine Ac C S158 [(33, .istore_n 1, 1), (34, .goto 49, 3)] 83 #[Ab b, Aa (Int32.ofNat (q0 ++ [(48 : Int32)]).length), .val (.long ee), .second, .unset] [] ?_
      exact J83 T154 h155 (q0 ++ [(48 : Int32)]) S158 (((Keep.refl _ _).trans K122 (allS (Ad 0) all0)).trans K152 (allS (Ad 0) all0)) f153 (own_a10 hx)
  refine Ac C S0 [(0, .lload_n 2, 1), (1, .lconst 1, 1), (2, .land, 1), (3, .lconst 0, 1), (4, .lcmp, 1)] 5 #[Ab b, Aa (Int32.ofNat pre.length), .val (.long ee), .second, .unset] [.int (Jvm.Free.XT.cmpL (ee &&& (1 : Int64)) (0 : Int64))] ?_
  refine Bv C S0 .eq 11 16 (fun (q159 : (Jvm.Free.XT.cmpL (ee &&& (1 : Int64)) (0 : Int64)) = (0 : Int32)) => ?_) (fun (q160 : ¬ (Jvm.Free.XT.cmpL (ee &&& (1 : Int64)) (0 : Int64)) = (0 : Int32)) => ?_)
  · exact J16 T0 h0 pre S0 (Keep.refl _ _) bA (⟨[], by simp, Or.inl rfl⟩)
  · refine Ac C S0 [(8, .aload_n 0, 1), (9, .iload_n 1, 1), (10, .bipush 45, 2)] 12 #[Ab b, Aa (Int32.ofNat pre.length), .val (.long ee), .second, .unset] [.int 45, .int (Int32.ofNat pre.length), .ref b] ?_
    refine Ak C S0 hw 8 9 2 10 (Ap l Z a0 hw b _ pre 45 h0 n0 z0 ge_b bA (by (try simp only [List.length_append, List.length_cons, List.length_nil]); omega) Aq) 0 [.ref b, .int (Int32.ofNat pre.length), .int 45] [] Am ?_
    rintro T163 h164 v165 L166 S167 ⟨⟨rfl, K161, f162⟩, -⟩
    refine Ac C S167 [(15, .istore_n 1, 1)] 16 #[Ab b, Aa (Int32.ofNat (pre ++ [(45 : Int32)]).length), .val (.long ee), .second, .unset] [] ?_
    exact J16 T163 h164 (pre ++ [(45 : Int32)]) S167 ((Keep.refl _ _).trans K161 (allS (Ad 0) all0)) f162 (⟨[45], rfl, Or.inr rfl⟩)
theorem own_bli (hw : Ar a0 Z) (b : Addr) (bk : ClassId) (pre : List Int32) (xx : Int32) (h0 : Heap) (n0 : Nat) (z0 : n0 ≤ h0.size) (ge_b : n0 ≤ b) (bA : Arv Z h0 b bk .char (88 : Int32) (Ce pre) (.int 0)) (hl : pre.length + 5 ≤ 88) :
    Ag l Z (⟨"com/example/limit1/limit1/JsonTextCheckPinLaw", "literal", "([CII)I"⟩ : MethodName) method_13_code 4 (some .int) ({ frames := 1, cells := 0, slots := 0, locals := 14 } : Room) n0 #[(.ref b), (.int (Int32.ofNat pre.length)), (.int xx)] h0 (fun v h => ∃ q : List Int32, v = some (.int (Int32.ofNat q.length)) ∧ Keep h0 h [b] ∧ Arv Z h b bk .char (88 : Int32) (Ce q) (.int 0) ∧ (Bc Fl pre q)) := by
  refine Au #[.val (.ref b), .val (.int (Int32.ofNat pre.length)), .val (.int xx), .unset] ?_
  intro p e s m below meth c T0 C S0
  refine Ac C S0 [(0, .iload_n 2, 1), (1, .iconst 3, 1), (2, .iand, 1), (3, .istore_n 3, 1), (4, .iload_n 3, 1), (5, .iconst 1, 1)] 6 #[Ab b, Aa (Int32.ofNat pre.length), Aa xx, Aa (xx &&& (3 : Int32))] [.int 1, .int (xx &&& (3 : Int32))] ?_
  refine Ao C S0 .ne 43 49 (fun (q1 : ¬ (xx &&& (3 : Int32)) = (1 : Int32)) => ?_) (fun (q2 : (xx &&& (3 : Int32)) = (1 : Int32)) => ?_)
  · refine Ac C S0 [(49, .iload_n 3, 1), (50, .iconst 2, 1)] 51 #[Ab b, Aa (Int32.ofNat pre.length), Aa xx, Aa (xx &&& (3 : Int32))] [.int 2, .int (xx &&& (3 : Int32))] ?_
    refine Ao C S0 .ne 35 86 (fun (q3 : ¬ (xx &&& (3 : Int32)) = (2 : Int32)) => ?_) (fun (q4 : (xx &&& (3 : Int32)) = (2 : Int32)) => ?_)
    · refine Ac C S0 [(86, .aload_n 0, 1), (87, .iload_n 1, 1), (88, .bipush 116, 2)] 90 #[Ab b, Aa (Int32.ofNat pre.length), Aa xx, Aa (xx &&& (3 : Int32))] [.int 116, .int (Int32.ofNat pre.length), .ref b] ?_
      refine Ak C S0 hw 8 9 2 10 (Ap l Z a0 hw b _ pre 116 h0 n0 z0 ge_b bA (by (try simp only [List.length_append, List.length_cons, List.length_nil]); omega) Aq) 0 [.ref b, .int (Int32.ofNat pre.length), .int 116] [] Am ?_
      rintro T7 h8 v9 L10 S11 ⟨⟨rfl, K5, f6⟩, -⟩
      refine Ac C S11 [(93, .istore_n 1, 1), (94, .aload_n 0, 1), (95, .iload_n 1, 1), (96, .bipush 114, 2)] 98 #[Ab b, Aa (Int32.ofNat (pre ++ [(116 : Int32)]).length), Aa xx, Aa (xx &&& (3 : Int32))] [.int 114, .int (Int32.ofNat (pre ++ [(116 : Int32)]).length), .ref b] ?_
      have f12 : n0 ≤ h8.size := (Nat.le_trans z0 K5.1)
      refine Ak C S11 hw 8 9 2 10 (Ap l Z a0 hw b _ (pre ++ [(116 : Int32)]) 114 h8 n0 f12 ge_b f6 (by (try simp only [List.length_append, List.length_cons, List.length_nil]); omega) Aq) 0 [.ref b, .int (Int32.ofNat (pre ++ [(116 : Int32)]).length), .int 114] [] Am ?_
      rintro T15 h16 v17 L18 S19 ⟨⟨rfl, K13, f14⟩, -⟩
      refine Ac C S19 [(101, .istore_n 1, 1), (102, .aload_n 0, 1), (103, .iload_n 1, 1), (104, .bipush 117, 2)] 106 #[Ab b, Aa (Int32.ofNat ((pre ++ [(116 : Int32)]) ++ [(114 : Int32)]).length), Aa xx, Aa (xx &&& (3 : Int32))] [.int 117, .int (Int32.ofNat ((pre ++ [(116 : Int32)]) ++ [(114 : Int32)]).length), .ref b] ?_
      have f20 : n0 ≤ h16.size := (Nat.le_trans f12 K13.1)
      refine Ak C S19 hw 8 9 2 10 (Ap l Z a0 hw b _ ((pre ++ [(116 : Int32)]) ++ [(114 : Int32)]) 117 h16 n0 f20 ge_b f14 (by (try simp only [List.length_append, List.length_cons, List.length_nil]); omega) Aq) 0 [.ref b, .int (Int32.ofNat ((pre ++ [(116 : Int32)]) ++ [(114 : Int32)]).length), .int 117] [] Am ?_
      rintro T23 h24 v25 L26 S27 ⟨⟨rfl, K21, f22⟩, -⟩
      refine Ac C S27 [(109, .istore_n 1, 1), (110, .aload_n 0, 1), (111, .iload_n 1, 1), (112, .bipush 101, 2)] 114 #[Ab b, Aa (Int32.ofNat (((pre ++ [(116 : Int32)]) ++ [(114 : Int32)]) ++ [(117 : Int32)]).length), Aa xx, Aa (xx &&& (3 : Int32))] [.int 101, .int (Int32.ofNat (((pre ++ [(116 : Int32)]) ++ [(114 : Int32)]) ++ [(117 : Int32)]).length), .ref b] ?_
      have f28 : n0 ≤ h24.size := (Nat.le_trans f20 K21.1)
      refine Ak C S27 hw 8 9 2 10 (Ap l Z a0 hw b _ (((pre ++ [(116 : Int32)]) ++ [(114 : Int32)]) ++ [(117 : Int32)]) 101 h24 n0 f28 ge_b f22 (by (try simp only [List.length_append, List.length_cons, List.length_nil]); omega) Aq) 0 [.ref b, .int (Int32.ofNat (((pre ++ [(116 : Int32)]) ++ [(114 : Int32)]) ++ [(117 : Int32)]).length), .int 101] [] Am ?_
      rintro T31 h32 v33 L34 S35 ⟨⟨rfl, K29, f30⟩, -⟩
      refine Ba C S35 (by decide +kernel) (by decide) (by decide) ?_
      exact ⟨((((pre ++ [(116 : Int32)]) ++ [(114 : Int32)]) ++ [(117 : Int32)]) ++ [(101 : Int32)]), rfl, (((((Keep.refl _ _).trans K5 (allS (Ad 0) all0)).trans K13 (allS (Ad 0) all0)).trans K21 (allS (Ad 0) all0)).trans K29 (allS (Ad 0) all0)), f30, ⟨[116, 114, 117, 101], by simp, Or.inr (Or.inr rfl)⟩⟩
    · refine Ac C S0 [(54, .aload_n 0, 1), (55, .iload_n 1, 1), (56, .bipush 110, 2)] 58 #[Ab b, Aa (Int32.ofNat pre.length), Aa xx, Aa (xx &&& (3 : Int32))] [.int 110, .int (Int32.ofNat pre.length), .ref b] ?_
      refine Ak C S0 hw 8 9 2 10 (Ap l Z a0 hw b _ pre 110 h0 n0 z0 ge_b bA (by (try simp only [List.length_append, List.length_cons, List.length_nil]); omega) Aq) 0 [.ref b, .int (Int32.ofNat pre.length), .int 110] [] Am ?_
      rintro T38 h39 v40 L41 S42 ⟨⟨rfl, K36, f37⟩, -⟩
      refine Ac C S42 [(61, .istore_n 1, 1), (62, .aload_n 0, 1), (63, .iload_n 1, 1), (64, .bipush 117, 2)] 66 #[Ab b, Aa (Int32.ofNat (pre ++ [(110 : Int32)]).length), Aa xx, Aa (xx &&& (3 : Int32))] [.int 117, .int (Int32.ofNat (pre ++ [(110 : Int32)]).length), .ref b] ?_
      have f43 : n0 ≤ h39.size := (Nat.le_trans z0 K36.1)
      refine Ak C S42 hw 8 9 2 10 (Ap l Z a0 hw b _ (pre ++ [(110 : Int32)]) 117 h39 n0 f43 ge_b f37 (by (try simp only [List.length_append, List.length_cons, List.length_nil]); omega) Aq) 0 [.ref b, .int (Int32.ofNat (pre ++ [(110 : Int32)]).length), .int 117] [] Am ?_
      rintro T46 h47 v48 L49 S50 ⟨⟨rfl, K44, f45⟩, -⟩
      refine Ac C S50 [(69, .istore_n 1, 1), (70, .aload_n 0, 1), (71, .iload_n 1, 1), (72, .bipush 108, 2)] 74 #[Ab b, Aa (Int32.ofNat ((pre ++ [(110 : Int32)]) ++ [(117 : Int32)]).length), Aa xx, Aa (xx &&& (3 : Int32))] [.int 108, .int (Int32.ofNat ((pre ++ [(110 : Int32)]) ++ [(117 : Int32)]).length), .ref b] ?_
      have f51 : n0 ≤ h47.size := (Nat.le_trans f43 K44.1)
      refine Ak C S50 hw 8 9 2 10 (Ap l Z a0 hw b _ ((pre ++ [(110 : Int32)]) ++ [(117 : Int32)]) 108 h47 n0 f51 ge_b f45 (by (try simp only [List.length_append, List.length_cons, List.length_nil]); omega) Aq) 0 [.ref b, .int (Int32.ofNat ((pre ++ [(110 : Int32)]) ++ [(117 : Int32)]).length), .int 108] [] Am ?_
      rintro T54 h55 v56 L57 S58 ⟨⟨rfl, K52, f53⟩, -⟩
      refine Ac C S58 [(77, .istore_n 1, 1), (78, .aload_n 0, 1), (79, .iload_n 1, 1), (80, .bipush 108, 2)] 82 #[Ab b, Aa (Int32.ofNat (((pre ++ [(110 : Int32)]) ++ [(117 : Int32)]) ++ [(108 : Int32)]).length), Aa xx, Aa (xx &&& (3 : Int32))] [.int 108, .int (Int32.ofNat (((pre ++ [(110 : Int32)]) ++ [(117 : Int32)]) ++ [(108 : Int32)]).length), .ref b] ?_
      have f59 : n0 ≤ h55.size := (Nat.le_trans f51 K52.1)
      refine Ak C S58 hw 8 9 2 10 (Ap l Z a0 hw b _ (((pre ++ [(110 : Int32)]) ++ [(117 : Int32)]) ++ [(108 : Int32)]) 108 h55 n0 f59 ge_b f53 (by (try simp only [List.length_append, List.length_cons, List.length_nil]); omega) Aq) 0 [.ref b, .int (Int32.ofNat (((pre ++ [(110 : Int32)]) ++ [(117 : Int32)]) ++ [(108 : Int32)]).length), .int 108] [] Am ?_
      rintro T62 h63 v64 L65 S66 ⟨⟨rfl, K60, f61⟩, -⟩
      refine Ba C S66 (by decide +kernel) (by decide) (by decide) ?_
      exact ⟨((((pre ++ [(110 : Int32)]) ++ [(117 : Int32)]) ++ [(108 : Int32)]) ++ [(108 : Int32)]), rfl, (((((Keep.refl _ _).trans K36 (allS (Ad 0) all0)).trans K44 (allS (Ad 0) all0)).trans K52 (allS (Ad 0) all0)).trans K60 (allS (Ad 0) all0)), f61, ⟨[110, 117, 108, 108], by simp, Or.inr (Or.inl rfl)⟩⟩
  · refine Ac C S0 [(9, .aload_n 0, 1), (10, .iload_n 1, 1), (11, .bipush 102, 2)] 13 #[Ab b, Aa (Int32.ofNat pre.length), Aa xx, Aa (xx &&& (3 : Int32))] [.int 102, .int (Int32.ofNat pre.length), .ref b] ?_
    refine Ak C S0 hw 8 9 2 10 (Ap l Z a0 hw b _ pre 102 h0 n0 z0 ge_b bA (by (try simp only [List.length_append, List.length_cons, List.length_nil]); omega) Aq) 0 [.ref b, .int (Int32.ofNat pre.length), .int 102] [] Am ?_
    rintro T69 h70 v71 L72 S73 ⟨⟨rfl, K67, f68⟩, -⟩
    refine Ac C S73 [(16, .istore_n 1, 1), (17, .aload_n 0, 1), (18, .iload_n 1, 1), (19, .bipush 97, 2)] 21 #[Ab b, Aa (Int32.ofNat (pre ++ [(102 : Int32)]).length), Aa xx, Aa (xx &&& (3 : Int32))] [.int 97, .int (Int32.ofNat (pre ++ [(102 : Int32)]).length), .ref b] ?_
    have f74 : n0 ≤ h70.size := (Nat.le_trans z0 K67.1)
    refine Ak C S73 hw 8 9 2 10 (Ap l Z a0 hw b _ (pre ++ [(102 : Int32)]) 97 h70 n0 f74 ge_b f68 (by (try simp only [List.length_append, List.length_cons, List.length_nil]); omega) Aq) 0 [.ref b, .int (Int32.ofNat (pre ++ [(102 : Int32)]).length), .int 97] [] Am ?_
    rintro T77 h78 v79 L80 S81 ⟨⟨rfl, K75, f76⟩, -⟩
    refine Ac C S81 [(24, .istore_n 1, 1), (25, .aload_n 0, 1), (26, .iload_n 1, 1), (27, .bipush 108, 2)] 29 #[Ab b, Aa (Int32.ofNat ((pre ++ [(102 : Int32)]) ++ [(97 : Int32)]).length), Aa xx, Aa (xx &&& (3 : Int32))] [.int 108, .int (Int32.ofNat ((pre ++ [(102 : Int32)]) ++ [(97 : Int32)]).length), .ref b] ?_
    have f82 : n0 ≤ h78.size := (Nat.le_trans f74 K75.1)
    refine Ak C S81 hw 8 9 2 10 (Ap l Z a0 hw b _ ((pre ++ [(102 : Int32)]) ++ [(97 : Int32)]) 108 h78 n0 f82 ge_b f76 (by (try simp only [List.length_append, List.length_cons, List.length_nil]); omega) Aq) 0 [.ref b, .int (Int32.ofNat ((pre ++ [(102 : Int32)]) ++ [(97 : Int32)]).length), .int 108] [] Am ?_
    rintro T85 h86 v87 L88 S89 ⟨⟨rfl, K83, f84⟩, -⟩
    refine Ac C S89 [(32, .istore_n 1, 1), (33, .aload_n 0, 1), (34, .iload_n 1, 1), (35, .bipush 115, 2)] 37 #[Ab b, Aa (Int32.ofNat (((pre ++ [(102 : Int32)]) ++ [(97 : Int32)]) ++ [(108 : Int32)]).length), Aa xx, Aa (xx &&& (3 : Int32))] [.int 115, .int (Int32.ofNat (((pre ++ [(102 : Int32)]) ++ [(97 : Int32)]) ++ [(108 : Int32)]).length), .ref b] ?_
    have f90 : n0 ≤ h86.size := (Nat.le_trans f82 K83.1)
    refine Ak C S89 hw 8 9 2 10 (Ap l Z a0 hw b _ (((pre ++ [(102 : Int32)]) ++ [(97 : Int32)]) ++ [(108 : Int32)]) 115 h86 n0 f90 ge_b f84 (by (try simp only [List.length_append, List.length_cons, List.length_nil]); omega) Aq) 0 [.ref b, .int (Int32.ofNat (((pre ++ [(102 : Int32)]) ++ [(97 : Int32)]) ++ [(108 : Int32)]).length), .int 115] [] Am ?_
    rintro T93 h94 v95 L96 S97 ⟨⟨rfl, K91, f92⟩, -⟩
    refine Ac C S97 [(40, .istore_n 1, 1), (41, .aload_n 0, 1), (42, .iload_n 1, 1), (43, .bipush 101, 2)] 45 #[Ab b, Aa (Int32.ofNat ((((pre ++ [(102 : Int32)]) ++ [(97 : Int32)]) ++ [(108 : Int32)]) ++ [(115 : Int32)]).length), Aa xx, Aa (xx &&& (3 : Int32))] [.int 101, .int (Int32.ofNat ((((pre ++ [(102 : Int32)]) ++ [(97 : Int32)]) ++ [(108 : Int32)]) ++ [(115 : Int32)]).length), .ref b] ?_
    have f98 : n0 ≤ h94.size := (Nat.le_trans f90 K91.1)
    refine Ak C S97 hw 8 9 2 10 (Ap l Z a0 hw b _ ((((pre ++ [(102 : Int32)]) ++ [(97 : Int32)]) ++ [(108 : Int32)]) ++ [(115 : Int32)]) 101 h94 n0 f98 ge_b f92 (by (try simp only [List.length_append, List.length_cons, List.length_nil]); omega) Aq) 0 [.ref b, .int (Int32.ofNat ((((pre ++ [(102 : Int32)]) ++ [(97 : Int32)]) ++ [(108 : Int32)]) ++ [(115 : Int32)]).length), .int 101] [] Am ?_
    rintro T101 h102 v103 L104 S105 ⟨⟨rfl, K99, f100⟩, -⟩
    refine Ba C S105 (by decide +kernel) (by decide) (by decide) ?_
    exact ⟨(((((pre ++ [(102 : Int32)]) ++ [(97 : Int32)]) ++ [(108 : Int32)]) ++ [(115 : Int32)]) ++ [(101 : Int32)]), rfl, ((((((Keep.refl _ _).trans K67 (allS (Ad 0) all0)).trans K75 (allS (Ad 0) all0)).trans K83 (allS (Ad 0) all0)).trans K91 (allS (Ad 0) all0)).trans K99 (allS (Ad 0) all0)), f100, ⟨[102, 97, 108, 115, 101], by simp, Or.inl rfl⟩⟩
theorem own_bco (hw : Ar a0 Z) (b : Addr) (bk : ClassId) (pre : List Int32) (xx : Int32) (h0 : Heap) (n0 : Nat) (z0 : n0 ≤ h0.size) (ge_b : n0 ≤ b) (bA : Arv Z h0 b bk .char (88 : Int32) (Ce pre) (.int 0)) (hl : pre.length + 14 ≤ 88) :
    Ag l Z (⟨"com/example/limit1/limit1/JsonTextCheckPinLaw", "container", "([CII)I"⟩ : MethodName) method_14_code 5 (some .int) ({ frames := 1, cells := 0, slots := 0, locals := 14 } : Room) n0 #[(.ref b), (.int (Int32.ofNat pre.length)), (.int xx)] h0 (fun v h => ∃ q : List Int32, v = some (.int (Int32.ofNat q.length)) ∧ Keep h0 h [b] ∧ Arv Z h b bk .char (88 : Int32) (Ce q) (.int 0) ∧ (Bc Gd pre q)) := by
  refine Au #[.val (.ref b), .val (.int (Int32.ofNat pre.length)), .val (.int xx), .unset, .unset] ?_
  intro p e s m below meth c T0 C S0
  refine Ac C S0 [(0, .iload_n 2, 1), (1, .iconst 3, 1), (2, .iand, 1), (3, .istore_n 3, 1), (4, .iload_n 2, 1), (5, .bipush 8, 2), (7, .iushr, 1)] 8 #[Ab b, Aa (Int32.ofNat pre.length), Aa xx, Aa (xx &&& (3 : Int32)), .unset] [.int (Jvm.Free.XT.ushr xx (8 : Int32))] ?_
  refine Ak C S0 hw 5 6 2 7 (Fg l Z a0 hw (Jvm.Free.XT.ushr xx (8 : Int32)) h0 n0 z0) 0 [.int (Jvm.Free.XT.ushr xx (8 : Int32))] [] Ct ?_
  rintro T4 h5 v6 L7 S8 ⟨⟨y1, rfl, e2, p3⟩, -⟩
  rw [e2] at S8; clear e2
  refine Ac C S8 [(11, .istore 4, 2), (13, .iload_n 3, 1)] 14 #[Ab b, Aa (Int32.ofNat pre.length), Aa xx, Aa (xx &&& (3 : Int32)), Aa y1] [.int (xx &&& (3 : Int32))] ?_
  refine Bv C S8 .ne 27 41 (fun (q9 : ¬ (xx &&& (3 : Int32)) = (0 : Int32)) => ?_) (fun (q10 : (xx &&& (3 : Int32)) = (0 : Int32)) => ?_)
  · refine Ac C S8 [(41, .iload_n 3, 1), (42, .iconst 1, 1)] 43 #[Ab b, Aa (Int32.ofNat pre.length), Aa xx, Aa (xx &&& (3 : Int32)), Aa y1] [.int 1, .int (xx &&& (3 : Int32))] ?_
    refine Ao C S8 .ne 27 70 (fun (q11 : ¬ (xx &&& (3 : Int32)) = (1 : Int32)) => ?_) (fun (q12 : (xx &&& (3 : Int32)) = (1 : Int32)) => ?_)
    · refine Ac C S8 [(70, .aload_n 0, 1), (71, .iload_n 1, 1), (72, .bipush 123, 2)] 74 #[Ab b, Aa (Int32.ofNat pre.length), Aa xx, Aa (xx &&& (3 : Int32)), Aa y1] [.int 123, .int (Int32.ofNat pre.length), .ref b] ?_
      refine Ak C S8 hw 8 9 2 10 (Ap l Z a0 hw b _ pre 123 h0 n0 z0 ge_b bA (by (try simp only [List.length_append, List.length_cons, List.length_nil]); omega) Aq) 0 [.ref b, .int (Int32.ofNat pre.length), .int 123] [] Am ?_
      rintro T15 h16 v17 L18 S19 ⟨⟨rfl, K13, f14⟩, -⟩
      refine Ac C S19 [(77, .istore_n 1, 1), (78, .aload_n 0, 1), (79, .iload_n 1, 1), (80, .bipush 34, 2)] 82 #[Ab b, Aa (Int32.ofNat (pre ++ [(123 : Int32)]).length), Aa xx, Aa (xx &&& (3 : Int32)), Aa y1] [.int 34, .int (Int32.ofNat (pre ++ [(123 : Int32)]).length), .ref b] ?_
      have f20 : n0 ≤ h16.size := (Nat.le_trans z0 K13.1)
      refine Ak C S19 hw 8 9 2 10 (Ap l Z a0 hw b _ (pre ++ [(123 : Int32)]) 34 h16 n0 f20 ge_b f14 (by (try simp only [List.length_append, List.length_cons, List.length_nil]); omega) Aq) 0 [.ref b, .int (Int32.ofNat (pre ++ [(123 : Int32)]).length), .int 34] [] Am ?_
      rintro T23 h24 v25 L26 S27 ⟨⟨rfl, K21, f22⟩, -⟩
      refine Ac C S27 [(85, .istore_n 1, 1), (86, .aload_n 0, 1), (87, .iload_n 1, 1), (88, .bipush 34, 2)] 90 #[Ab b, Aa (Int32.ofNat ((pre ++ [(123 : Int32)]) ++ [(34 : Int32)]).length), Aa xx, Aa (xx &&& (3 : Int32)), Aa y1] [.int 34, .int (Int32.ofNat ((pre ++ [(123 : Int32)]) ++ [(34 : Int32)]).length), .ref b] ?_
      have f28 : n0 ≤ h24.size := (Nat.le_trans f20 K21.1)
      refine Ak C S27 hw 8 9 2 10 (Ap l Z a0 hw b _ ((pre ++ [(123 : Int32)]) ++ [(34 : Int32)]) 34 h24 n0 f28 ge_b f22 (by (try simp only [List.length_append, List.length_cons, List.length_nil]); omega) Aq) 0 [.ref b, .int (Int32.ofNat ((pre ++ [(123 : Int32)]) ++ [(34 : Int32)]).length), .int 34] [] Am ?_
      rintro T31 h32 v33 L34 S35 ⟨⟨rfl, K29, f30⟩, -⟩
      refine Ac C S35 [(93, .istore_n 1, 1), (94, .aload_n 0, 1), (95, .iload_n 1, 1), (96, .bipush 58, 2)] 98 #[Ab b, Aa (Int32.ofNat (((pre ++ [(123 : Int32)]) ++ [(34 : Int32)]) ++ [(34 : Int32)]).length), Aa xx, Aa (xx &&& (3 : Int32)), Aa y1] [.int 58, .int (Int32.ofNat (((pre ++ [(123 : Int32)]) ++ [(34 : Int32)]) ++ [(34 : Int32)]).length), .ref b] ?_
      have f36 : n0 ≤ h32.size := (Nat.le_trans f28 K29.1)
      refine Ak C S35 hw 8 9 2 10 (Ap l Z a0 hw b _ (((pre ++ [(123 : Int32)]) ++ [(34 : Int32)]) ++ [(34 : Int32)]) 58 h32 n0 f36 ge_b f30 (by (try simp only [List.length_append, List.length_cons, List.length_nil]); omega) Aq) 0 [.ref b, .int (Int32.ofNat (((pre ++ [(123 : Int32)]) ++ [(34 : Int32)]) ++ [(34 : Int32)]).length), .int 58] [] Am ?_
      rintro T39 h40 v41 L42 S43 ⟨⟨rfl, K37, f38⟩, -⟩
      refine Ac C S43 [(101, .istore_n 1, 1), (102, .iload_n 3, 1), (103, .iconst 2, 1)] 104 #[Ab b, Aa (Int32.ofNat ((((pre ++ [(123 : Int32)]) ++ [(34 : Int32)]) ++ [(34 : Int32)]) ++ [(58 : Int32)]).length), Aa xx, Aa (xx &&& (3 : Int32)), Aa y1] [.int 2, .int (xx &&& (3 : Int32))] ?_
      refine Ao C S43 .ne 35 139 (fun (q44 : ¬ (xx &&& (3 : Int32)) = (2 : Int32)) => ?_) (fun (q45 : (xx &&& (3 : Int32)) = (2 : Int32)) => ?_)
      · refine Ac C S43 [(139, .aload_n 0, 1), (140, .iload_n 1, 1), (141, .bipush 49, 2)] 143 #[Ab b, Aa (Int32.ofNat ((((pre ++ [(123 : Int32)]) ++ [(34 : Int32)]) ++ [(34 : Int32)]) ++ [(58 : Int32)]).length), Aa xx, Aa (xx &&& (3 : Int32)), Aa y1] [.int 49, .int (Int32.ofNat ((((pre ++ [(123 : Int32)]) ++ [(34 : Int32)]) ++ [(34 : Int32)]) ++ [(58 : Int32)]).length), .ref b] ?_
        have f46 : n0 ≤ h40.size := (Nat.le_trans f36 K37.1)
        refine Ak C S43 hw 8 9 2 10 (Ap l Z a0 hw b _ ((((pre ++ [(123 : Int32)]) ++ [(34 : Int32)]) ++ [(34 : Int32)]) ++ [(58 : Int32)]) 49 h40 n0 f46 ge_b f38 (by (try simp only [List.length_append, List.length_cons, List.length_nil]); omega) Aq) 0 [.ref b, .int (Int32.ofNat ((((pre ++ [(123 : Int32)]) ++ [(34 : Int32)]) ++ [(34 : Int32)]) ++ [(58 : Int32)]).length), .int 49] [] Am ?_
        rintro T49 h50 v51 L52 S53 ⟨⟨rfl, K47, f48⟩, -⟩
        refine Ac C S53 [(146, .istore_n 1, 1), (147, .aload_n 0, 1), (148, .iload_n 1, 1), (149, .bipush 44, 2)] 151 #[Ab b, Aa (Int32.ofNat (((((pre ++ [(123 : Int32)]) ++ [(34 : Int32)]) ++ [(34 : Int32)]) ++ [(58 : Int32)]) ++ [(49 : Int32)]).length), Aa xx, Aa (xx &&& (3 : Int32)), Aa y1] [.int 44, .int (Int32.ofNat (((((pre ++ [(123 : Int32)]) ++ [(34 : Int32)]) ++ [(34 : Int32)]) ++ [(58 : Int32)]) ++ [(49 : Int32)]).length), .ref b] ?_
        have f54 : n0 ≤ h50.size := (Nat.le_trans f46 K47.1)
        refine Ak C S53 hw 8 9 2 10 (Ap l Z a0 hw b _ (((((pre ++ [(123 : Int32)]) ++ [(34 : Int32)]) ++ [(34 : Int32)]) ++ [(58 : Int32)]) ++ [(49 : Int32)]) 44 h50 n0 f54 ge_b f48 (by (try simp only [List.length_append, List.length_cons, List.length_nil]); omega) Aq) 0 [.ref b, .int (Int32.ofNat (((((pre ++ [(123 : Int32)]) ++ [(34 : Int32)]) ++ [(34 : Int32)]) ++ [(58 : Int32)]) ++ [(49 : Int32)]).length), .int 44] [] Am ?_
        rintro T57 h58 v59 L60 S61 ⟨⟨rfl, K55, f56⟩, -⟩
        refine Ac C S61 [(154, .istore_n 1, 1), (155, .aload_n 0, 1), (156, .iload_n 1, 1), (157, .bipush 34, 2)] 159 #[Ab b, Aa (Int32.ofNat ((((((pre ++ [(123 : Int32)]) ++ [(34 : Int32)]) ++ [(34 : Int32)]) ++ [(58 : Int32)]) ++ [(49 : Int32)]) ++ [(44 : Int32)]).length), Aa xx, Aa (xx &&& (3 : Int32)), Aa y1] [.int 34, .int (Int32.ofNat ((((((pre ++ [(123 : Int32)]) ++ [(34 : Int32)]) ++ [(34 : Int32)]) ++ [(58 : Int32)]) ++ [(49 : Int32)]) ++ [(44 : Int32)]).length), .ref b] ?_
        have f62 : n0 ≤ h58.size := (Nat.le_trans f54 K55.1)
        refine Ak C S61 hw 8 9 2 10 (Ap l Z a0 hw b _ ((((((pre ++ [(123 : Int32)]) ++ [(34 : Int32)]) ++ [(34 : Int32)]) ++ [(58 : Int32)]) ++ [(49 : Int32)]) ++ [(44 : Int32)]) 34 h58 n0 f62 ge_b f56 (by (try simp only [List.length_append, List.length_cons, List.length_nil]); omega) Aq) 0 [.ref b, .int (Int32.ofNat ((((((pre ++ [(123 : Int32)]) ++ [(34 : Int32)]) ++ [(34 : Int32)]) ++ [(58 : Int32)]) ++ [(49 : Int32)]) ++ [(44 : Int32)]).length), .int 34] [] Am ?_
        rintro T65 h66 v67 L68 S69 ⟨⟨rfl, K63, f64⟩, -⟩
        refine Ac C S69 [(162, .istore_n 1, 1), (163, .aload_n 0, 1), (164, .iload_n 1, 1), (165, .bipush 34, 2)] 167 #[Ab b, Aa (Int32.ofNat (((((((pre ++ [(123 : Int32)]) ++ [(34 : Int32)]) ++ [(34 : Int32)]) ++ [(58 : Int32)]) ++ [(49 : Int32)]) ++ [(44 : Int32)]) ++ [(34 : Int32)]).length), Aa xx, Aa (xx &&& (3 : Int32)), Aa y1] [.int 34, .int (Int32.ofNat (((((((pre ++ [(123 : Int32)]) ++ [(34 : Int32)]) ++ [(34 : Int32)]) ++ [(58 : Int32)]) ++ [(49 : Int32)]) ++ [(44 : Int32)]) ++ [(34 : Int32)]).length), .ref b] ?_
        have f70 : n0 ≤ h66.size := (Nat.le_trans f62 K63.1)
        refine Ak C S69 hw 8 9 2 10 (Ap l Z a0 hw b _ (((((((pre ++ [(123 : Int32)]) ++ [(34 : Int32)]) ++ [(34 : Int32)]) ++ [(58 : Int32)]) ++ [(49 : Int32)]) ++ [(44 : Int32)]) ++ [(34 : Int32)]) 34 h66 n0 f70 ge_b f64 (by (try simp only [List.length_append, List.length_cons, List.length_nil]); omega) Aq) 0 [.ref b, .int (Int32.ofNat (((((((pre ++ [(123 : Int32)]) ++ [(34 : Int32)]) ++ [(34 : Int32)]) ++ [(58 : Int32)]) ++ [(49 : Int32)]) ++ [(44 : Int32)]) ++ [(34 : Int32)]).length), .int 34] [] Am ?_
        rintro T73 h74 v75 L76 S77 ⟨⟨rfl, K71, f72⟩, -⟩
        refine Ac C S77 [(170, .istore_n 1, 1), (171, .aload_n 0, 1), (172, .iload_n 1, 1), (173, .bipush 58, 2)] 175 #[Ab b, Aa (Int32.ofNat ((((((((pre ++ [(123 : Int32)]) ++ [(34 : Int32)]) ++ [(34 : Int32)]) ++ [(58 : Int32)]) ++ [(49 : Int32)]) ++ [(44 : Int32)]) ++ [(34 : Int32)]) ++ [(34 : Int32)]).length), Aa xx, Aa (xx &&& (3 : Int32)), Aa y1] [.int 58, .int (Int32.ofNat ((((((((pre ++ [(123 : Int32)]) ++ [(34 : Int32)]) ++ [(34 : Int32)]) ++ [(58 : Int32)]) ++ [(49 : Int32)]) ++ [(44 : Int32)]) ++ [(34 : Int32)]) ++ [(34 : Int32)]).length), .ref b] ?_
        have f78 : n0 ≤ h74.size := (Nat.le_trans f70 K71.1)
        refine Ak C S77 hw 8 9 2 10 (Ap l Z a0 hw b _ ((((((((pre ++ [(123 : Int32)]) ++ [(34 : Int32)]) ++ [(34 : Int32)]) ++ [(58 : Int32)]) ++ [(49 : Int32)]) ++ [(44 : Int32)]) ++ [(34 : Int32)]) ++ [(34 : Int32)]) 58 h74 n0 f78 ge_b f72 (by (try simp only [List.length_append, List.length_cons, List.length_nil]); omega) Aq) 0 [.ref b, .int (Int32.ofNat ((((((((pre ++ [(123 : Int32)]) ++ [(34 : Int32)]) ++ [(34 : Int32)]) ++ [(58 : Int32)]) ++ [(49 : Int32)]) ++ [(44 : Int32)]) ++ [(34 : Int32)]) ++ [(34 : Int32)]).length), .int 58] [] Am ?_
        rintro T81 h82 v83 L84 S85 ⟨⟨rfl, K79, f80⟩, -⟩
        refine Ac C S85 [(178, .istore_n 1, 1), (179, .aload_n 0, 1), (180, .iload_n 1, 1), (181, .bipush 91, 2)] 183 #[Ab b, Aa (Int32.ofNat (((((((((pre ++ [(123 : Int32)]) ++ [(34 : Int32)]) ++ [(34 : Int32)]) ++ [(58 : Int32)]) ++ [(49 : Int32)]) ++ [(44 : Int32)]) ++ [(34 : Int32)]) ++ [(34 : Int32)]) ++ [(58 : Int32)]).length), Aa xx, Aa (xx &&& (3 : Int32)), Aa y1] [.int 91, .int (Int32.ofNat (((((((((pre ++ [(123 : Int32)]) ++ [(34 : Int32)]) ++ [(34 : Int32)]) ++ [(58 : Int32)]) ++ [(49 : Int32)]) ++ [(44 : Int32)]) ++ [(34 : Int32)]) ++ [(34 : Int32)]) ++ [(58 : Int32)]).length), .ref b] ?_
        have f86 : n0 ≤ h82.size := (Nat.le_trans f78 K79.1)
        refine Ak C S85 hw 8 9 2 10 (Ap l Z a0 hw b _ (((((((((pre ++ [(123 : Int32)]) ++ [(34 : Int32)]) ++ [(34 : Int32)]) ++ [(58 : Int32)]) ++ [(49 : Int32)]) ++ [(44 : Int32)]) ++ [(34 : Int32)]) ++ [(34 : Int32)]) ++ [(58 : Int32)]) 91 h82 n0 f86 ge_b f80 (by (try simp only [List.length_append, List.length_cons, List.length_nil]); omega) Aq) 0 [.ref b, .int (Int32.ofNat (((((((((pre ++ [(123 : Int32)]) ++ [(34 : Int32)]) ++ [(34 : Int32)]) ++ [(58 : Int32)]) ++ [(49 : Int32)]) ++ [(44 : Int32)]) ++ [(34 : Int32)]) ++ [(34 : Int32)]) ++ [(58 : Int32)]).length), .int 91] [] Am ?_
        rintro T89 h90 v91 L92 S93 ⟨⟨rfl, K87, f88⟩, -⟩
        refine Ac C S93 [(186, .istore_n 1, 1), (187, .aload_n 0, 1), (188, .iload_n 1, 1), (189, .bipush 91, 2)] 191 #[Ab b, Aa (Int32.ofNat ((((((((((pre ++ [(123 : Int32)]) ++ [(34 : Int32)]) ++ [(34 : Int32)]) ++ [(58 : Int32)]) ++ [(49 : Int32)]) ++ [(44 : Int32)]) ++ [(34 : Int32)]) ++ [(34 : Int32)]) ++ [(58 : Int32)]) ++ [(91 : Int32)]).length), Aa xx, Aa (xx &&& (3 : Int32)), Aa y1] [.int 91, .int (Int32.ofNat ((((((((((pre ++ [(123 : Int32)]) ++ [(34 : Int32)]) ++ [(34 : Int32)]) ++ [(58 : Int32)]) ++ [(49 : Int32)]) ++ [(44 : Int32)]) ++ [(34 : Int32)]) ++ [(34 : Int32)]) ++ [(58 : Int32)]) ++ [(91 : Int32)]).length), .ref b] ?_
        have f94 : n0 ≤ h90.size := (Nat.le_trans f86 K87.1)
        refine Ak C S93 hw 8 9 2 10 (Ap l Z a0 hw b _ ((((((((((pre ++ [(123 : Int32)]) ++ [(34 : Int32)]) ++ [(34 : Int32)]) ++ [(58 : Int32)]) ++ [(49 : Int32)]) ++ [(44 : Int32)]) ++ [(34 : Int32)]) ++ [(34 : Int32)]) ++ [(58 : Int32)]) ++ [(91 : Int32)]) 91 h90 n0 f94 ge_b f88 (by (try simp only [List.length_append, List.length_cons, List.length_nil]); omega) Aq) 0 [.ref b, .int (Int32.ofNat ((((((((((pre ++ [(123 : Int32)]) ++ [(34 : Int32)]) ++ [(34 : Int32)]) ++ [(58 : Int32)]) ++ [(49 : Int32)]) ++ [(44 : Int32)]) ++ [(34 : Int32)]) ++ [(34 : Int32)]) ++ [(58 : Int32)]) ++ [(91 : Int32)]).length), .int 91] [] Am ?_
        rintro T97 h98 v99 L100 S101 ⟨⟨rfl, K95, f96⟩, -⟩
        refine Ac C S101 [(194, .istore_n 1, 1), (195, .aload_n 0, 1), (196, .iload_n 1, 1), (197, .bipush 93, 2)] 199 #[Ab b, Aa (Int32.ofNat (((((((((((pre ++ [(123 : Int32)]) ++ [(34 : Int32)]) ++ [(34 : Int32)]) ++ [(58 : Int32)]) ++ [(49 : Int32)]) ++ [(44 : Int32)]) ++ [(34 : Int32)]) ++ [(34 : Int32)]) ++ [(58 : Int32)]) ++ [(91 : Int32)]) ++ [(91 : Int32)]).length), Aa xx, Aa (xx &&& (3 : Int32)), Aa y1] [.int 93, .int (Int32.ofNat (((((((((((pre ++ [(123 : Int32)]) ++ [(34 : Int32)]) ++ [(34 : Int32)]) ++ [(58 : Int32)]) ++ [(49 : Int32)]) ++ [(44 : Int32)]) ++ [(34 : Int32)]) ++ [(34 : Int32)]) ++ [(58 : Int32)]) ++ [(91 : Int32)]) ++ [(91 : Int32)]).length), .ref b] ?_
        have f102 : n0 ≤ h98.size := (Nat.le_trans f94 K95.1)
        refine Ak C S101 hw 8 9 2 10 (Ap l Z a0 hw b _ (((((((((((pre ++ [(123 : Int32)]) ++ [(34 : Int32)]) ++ [(34 : Int32)]) ++ [(58 : Int32)]) ++ [(49 : Int32)]) ++ [(44 : Int32)]) ++ [(34 : Int32)]) ++ [(34 : Int32)]) ++ [(58 : Int32)]) ++ [(91 : Int32)]) ++ [(91 : Int32)]) 93 h98 n0 f102 ge_b f96 (by (try simp only [List.length_append, List.length_cons, List.length_nil]); omega) Aq) 0 [.ref b, .int (Int32.ofNat (((((((((((pre ++ [(123 : Int32)]) ++ [(34 : Int32)]) ++ [(34 : Int32)]) ++ [(58 : Int32)]) ++ [(49 : Int32)]) ++ [(44 : Int32)]) ++ [(34 : Int32)]) ++ [(34 : Int32)]) ++ [(58 : Int32)]) ++ [(91 : Int32)]) ++ [(91 : Int32)]).length), .int 93] [] Am ?_
        rintro T105 h106 v107 L108 S109 ⟨⟨rfl, K103, f104⟩, -⟩
        refine Ac C S109 [(202, .istore_n 1, 1), (203, .aload_n 0, 1), (204, .iload_n 1, 1), (205, .bipush 93, 2)] 207 #[Ab b, Aa (Int32.ofNat ((((((((((((pre ++ [(123 : Int32)]) ++ [(34 : Int32)]) ++ [(34 : Int32)]) ++ [(58 : Int32)]) ++ [(49 : Int32)]) ++ [(44 : Int32)]) ++ [(34 : Int32)]) ++ [(34 : Int32)]) ++ [(58 : Int32)]) ++ [(91 : Int32)]) ++ [(91 : Int32)]) ++ [(93 : Int32)]).length), Aa xx, Aa (xx &&& (3 : Int32)), Aa y1] [.int 93, .int (Int32.ofNat ((((((((((((pre ++ [(123 : Int32)]) ++ [(34 : Int32)]) ++ [(34 : Int32)]) ++ [(58 : Int32)]) ++ [(49 : Int32)]) ++ [(44 : Int32)]) ++ [(34 : Int32)]) ++ [(34 : Int32)]) ++ [(58 : Int32)]) ++ [(91 : Int32)]) ++ [(91 : Int32)]) ++ [(93 : Int32)]).length), .ref b] ?_
        have f110 : n0 ≤ h106.size := (Nat.le_trans f102 K103.1)
        refine Ak C S109 hw 8 9 2 10 (Ap l Z a0 hw b _ ((((((((((((pre ++ [(123 : Int32)]) ++ [(34 : Int32)]) ++ [(34 : Int32)]) ++ [(58 : Int32)]) ++ [(49 : Int32)]) ++ [(44 : Int32)]) ++ [(34 : Int32)]) ++ [(34 : Int32)]) ++ [(58 : Int32)]) ++ [(91 : Int32)]) ++ [(91 : Int32)]) ++ [(93 : Int32)]) 93 h106 n0 f110 ge_b f104 (by (try simp only [List.length_append, List.length_cons, List.length_nil]); omega) Aq) 0 [.ref b, .int (Int32.ofNat ((((((((((((pre ++ [(123 : Int32)]) ++ [(34 : Int32)]) ++ [(34 : Int32)]) ++ [(58 : Int32)]) ++ [(49 : Int32)]) ++ [(44 : Int32)]) ++ [(34 : Int32)]) ++ [(34 : Int32)]) ++ [(58 : Int32)]) ++ [(91 : Int32)]) ++ [(91 : Int32)]) ++ [(93 : Int32)]).length), .int 93] [] Am ?_
        rintro T113 h114 v115 L116 S117 ⟨⟨rfl, K111, f112⟩, -⟩
        refine Ac C S117 [(210, .istore_n 1, 1), (211, .aload_n 0, 1), (212, .iload_n 1, 1), (213, .bipush 125, 2)] 215 #[Ab b, Aa (Int32.ofNat (((((((((((((pre ++ [(123 : Int32)]) ++ [(34 : Int32)]) ++ [(34 : Int32)]) ++ [(58 : Int32)]) ++ [(49 : Int32)]) ++ [(44 : Int32)]) ++ [(34 : Int32)]) ++ [(34 : Int32)]) ++ [(58 : Int32)]) ++ [(91 : Int32)]) ++ [(91 : Int32)]) ++ [(93 : Int32)]) ++ [(93 : Int32)]).length), Aa xx, Aa (xx &&& (3 : Int32)), Aa y1] [.int 125, .int (Int32.ofNat (((((((((((((pre ++ [(123 : Int32)]) ++ [(34 : Int32)]) ++ [(34 : Int32)]) ++ [(58 : Int32)]) ++ [(49 : Int32)]) ++ [(44 : Int32)]) ++ [(34 : Int32)]) ++ [(34 : Int32)]) ++ [(58 : Int32)]) ++ [(91 : Int32)]) ++ [(91 : Int32)]) ++ [(93 : Int32)]) ++ [(93 : Int32)]).length), .ref b] ?_
        have f118 : n0 ≤ h114.size := (Nat.le_trans f110 K111.1)
        refine Ak C S117 hw 8 9 2 10 (Ap l Z a0 hw b _ (((((((((((((pre ++ [(123 : Int32)]) ++ [(34 : Int32)]) ++ [(34 : Int32)]) ++ [(58 : Int32)]) ++ [(49 : Int32)]) ++ [(44 : Int32)]) ++ [(34 : Int32)]) ++ [(34 : Int32)]) ++ [(58 : Int32)]) ++ [(91 : Int32)]) ++ [(91 : Int32)]) ++ [(93 : Int32)]) ++ [(93 : Int32)]) 125 h114 n0 f118 ge_b f112 (by (try simp only [List.length_append, List.length_cons, List.length_nil]); omega) Aq) 0 [.ref b, .int (Int32.ofNat (((((((((((((pre ++ [(123 : Int32)]) ++ [(34 : Int32)]) ++ [(34 : Int32)]) ++ [(58 : Int32)]) ++ [(49 : Int32)]) ++ [(44 : Int32)]) ++ [(34 : Int32)]) ++ [(34 : Int32)]) ++ [(58 : Int32)]) ++ [(91 : Int32)]) ++ [(91 : Int32)]) ++ [(93 : Int32)]) ++ [(93 : Int32)]).length), .int 125] [] Am ?_
        rintro T121 h122 v123 L124 S125 ⟨⟨rfl, K119, f120⟩, -⟩
        refine Ba C S125 (by decide +kernel) (by decide) (by decide) ?_
        exact ⟨((((((((((((((pre ++ [(123 : Int32)]) ++ [(34 : Int32)]) ++ [(34 : Int32)]) ++ [(58 : Int32)]) ++ [(49 : Int32)]) ++ [(44 : Int32)]) ++ [(34 : Int32)]) ++ [(34 : Int32)]) ++ [(58 : Int32)]) ++ [(91 : Int32)]) ++ [(91 : Int32)]) ++ [(93 : Int32)]) ++ [(93 : Int32)]) ++ [(125 : Int32)]), rfl, (((((((((((((((Keep.refl _ _).trans K13 (allS (Ad 0) all0)).trans K21 (allS (Ad 0) all0)).trans K29 (allS (Ad 0) all0)).trans K37 (allS (Ad 0) all0)).trans K47 (allS (Ad 0) all0)).trans K55 (allS (Ad 0) all0)).trans K63 (allS (Ad 0) all0)).trans K71 (allS (Ad 0) all0)).trans K79 (allS (Ad 0) all0)).trans K87 (allS (Ad 0) all0)).trans K95 (allS (Ad 0) all0)).trans K103 (allS (Ad 0) all0)).trans K111 (allS (Ad 0) all0)).trans K119 (allS (Ad 0) all0)), f120, ⟨[123, 34, 34, 58, 49, 44, 34, 34, 58, 91, 91, 93, 93, 125], by simp, Or.inr (Or.inr rfl)⟩⟩
      · refine Ac C S43 [(107, .aload_n 0, 1), (108, .iload_n 1, 1), (109, .bipush 91, 2)] 111 #[Ab b, Aa (Int32.ofNat ((((pre ++ [(123 : Int32)]) ++ [(34 : Int32)]) ++ [(34 : Int32)]) ++ [(58 : Int32)]).length), Aa xx, Aa (xx &&& (3 : Int32)), Aa y1] [.int 91, .int (Int32.ofNat ((((pre ++ [(123 : Int32)]) ++ [(34 : Int32)]) ++ [(34 : Int32)]) ++ [(58 : Int32)]).length), .ref b] ?_
        have f126 : n0 ≤ h40.size := (Nat.le_trans f36 K37.1)
        refine Ak C S43 hw 8 9 2 10 (Ap l Z a0 hw b _ ((((pre ++ [(123 : Int32)]) ++ [(34 : Int32)]) ++ [(34 : Int32)]) ++ [(58 : Int32)]) 91 h40 n0 f126 ge_b f38 (by (try simp only [List.length_append, List.length_cons, List.length_nil]); omega) Aq) 0 [.ref b, .int (Int32.ofNat ((((pre ++ [(123 : Int32)]) ++ [(34 : Int32)]) ++ [(34 : Int32)]) ++ [(58 : Int32)]).length), .int 91] [] Am ?_
        rintro T129 h130 v131 L132 S133 ⟨⟨rfl, K127, f128⟩, -⟩
        refine Ac C S133 [(114, .istore_n 1, 1), (115, .aload_n 0, 1), (116, .iload_n 1, 1), (117, .bipush 48, 2)] 119 #[Ab b, Aa (Int32.ofNat (((((pre ++ [(123 : Int32)]) ++ [(34 : Int32)]) ++ [(34 : Int32)]) ++ [(58 : Int32)]) ++ [(91 : Int32)]).length), Aa xx, Aa (xx &&& (3 : Int32)), Aa y1] [.int 48, .int (Int32.ofNat (((((pre ++ [(123 : Int32)]) ++ [(34 : Int32)]) ++ [(34 : Int32)]) ++ [(58 : Int32)]) ++ [(91 : Int32)]).length), .ref b] ?_
        have f134 : n0 ≤ h130.size := (Nat.le_trans f126 K127.1)
        refine Ak C S133 hw 8 9 2 10 (Ap l Z a0 hw b _ (((((pre ++ [(123 : Int32)]) ++ [(34 : Int32)]) ++ [(34 : Int32)]) ++ [(58 : Int32)]) ++ [(91 : Int32)]) 48 h130 n0 f134 ge_b f128 (by (try simp only [List.length_append, List.length_cons, List.length_nil]); omega) Aq) 0 [.ref b, .int (Int32.ofNat (((((pre ++ [(123 : Int32)]) ++ [(34 : Int32)]) ++ [(34 : Int32)]) ++ [(58 : Int32)]) ++ [(91 : Int32)]).length), .int 48] [] Am ?_
        rintro T137 h138 v139 L140 S141 ⟨⟨rfl, K135, f136⟩, -⟩
        refine Ac C S141 [(122, .istore_n 1, 1), (123, .aload_n 0, 1), (124, .iload_n 1, 1), (125, .bipush 93, 2)] 127 #[Ab b, Aa (Int32.ofNat ((((((pre ++ [(123 : Int32)]) ++ [(34 : Int32)]) ++ [(34 : Int32)]) ++ [(58 : Int32)]) ++ [(91 : Int32)]) ++ [(48 : Int32)]).length), Aa xx, Aa (xx &&& (3 : Int32)), Aa y1] [.int 93, .int (Int32.ofNat ((((((pre ++ [(123 : Int32)]) ++ [(34 : Int32)]) ++ [(34 : Int32)]) ++ [(58 : Int32)]) ++ [(91 : Int32)]) ++ [(48 : Int32)]).length), .ref b] ?_
        have f142 : n0 ≤ h138.size := (Nat.le_trans f134 K135.1)
        refine Ak C S141 hw 8 9 2 10 (Ap l Z a0 hw b _ ((((((pre ++ [(123 : Int32)]) ++ [(34 : Int32)]) ++ [(34 : Int32)]) ++ [(58 : Int32)]) ++ [(91 : Int32)]) ++ [(48 : Int32)]) 93 h138 n0 f142 ge_b f136 (by (try simp only [List.length_append, List.length_cons, List.length_nil]); omega) Aq) 0 [.ref b, .int (Int32.ofNat ((((((pre ++ [(123 : Int32)]) ++ [(34 : Int32)]) ++ [(34 : Int32)]) ++ [(58 : Int32)]) ++ [(91 : Int32)]) ++ [(48 : Int32)]).length), .int 93] [] Am ?_
        rintro T145 h146 v147 L148 S149 ⟨⟨rfl, K143, f144⟩, -⟩
        refine Ac C S149 [(130, .istore_n 1, 1), (131, .aload_n 0, 1), (132, .iload_n 1, 1), (133, .bipush 125, 2)] 135 #[Ab b, Aa (Int32.ofNat (((((((pre ++ [(123 : Int32)]) ++ [(34 : Int32)]) ++ [(34 : Int32)]) ++ [(58 : Int32)]) ++ [(91 : Int32)]) ++ [(48 : Int32)]) ++ [(93 : Int32)]).length), Aa xx, Aa (xx &&& (3 : Int32)), Aa y1] [.int 125, .int (Int32.ofNat (((((((pre ++ [(123 : Int32)]) ++ [(34 : Int32)]) ++ [(34 : Int32)]) ++ [(58 : Int32)]) ++ [(91 : Int32)]) ++ [(48 : Int32)]) ++ [(93 : Int32)]).length), .ref b] ?_
        have f150 : n0 ≤ h146.size := (Nat.le_trans f142 K143.1)
        refine Ak C S149 hw 8 9 2 10 (Ap l Z a0 hw b _ (((((((pre ++ [(123 : Int32)]) ++ [(34 : Int32)]) ++ [(34 : Int32)]) ++ [(58 : Int32)]) ++ [(91 : Int32)]) ++ [(48 : Int32)]) ++ [(93 : Int32)]) 125 h146 n0 f150 ge_b f144 (by (try simp only [List.length_append, List.length_cons, List.length_nil]); omega) Aq) 0 [.ref b, .int (Int32.ofNat (((((((pre ++ [(123 : Int32)]) ++ [(34 : Int32)]) ++ [(34 : Int32)]) ++ [(58 : Int32)]) ++ [(91 : Int32)]) ++ [(48 : Int32)]) ++ [(93 : Int32)]).length), .int 125] [] Am ?_
        rintro T153 h154 v155 L156 S157 ⟨⟨rfl, K151, f152⟩, -⟩
        refine Ba C S157 (by decide +kernel) (by decide) (by decide) ?_
        exact ⟨((((((((pre ++ [(123 : Int32)]) ++ [(34 : Int32)]) ++ [(34 : Int32)]) ++ [(58 : Int32)]) ++ [(91 : Int32)]) ++ [(48 : Int32)]) ++ [(93 : Int32)]) ++ [(125 : Int32)]), rfl, (((((((((Keep.refl _ _).trans K13 (allS (Ad 0) all0)).trans K21 (allS (Ad 0) all0)).trans K29 (allS (Ad 0) all0)).trans K37 (allS (Ad 0) all0)).trans K127 (allS (Ad 0) all0)).trans K135 (allS (Ad 0) all0)).trans K143 (allS (Ad 0) all0)).trans K151 (allS (Ad 0) all0)), f152, ⟨[123, 34, 34, 58, 91, 48, 93, 125], by simp, Or.inr (Or.inl rfl)⟩⟩
    · refine Ac C S8 [(46, .aload_n 0, 1), (47, .iload_n 1, 1), (48, .bipush 123, 2)] 50 #[Ab b, Aa (Int32.ofNat pre.length), Aa xx, Aa (xx &&& (3 : Int32)), Aa y1] [.int 123, .int (Int32.ofNat pre.length), .ref b] ?_
      refine Ak C S8 hw 8 9 2 10 (Ap l Z a0 hw b _ pre 123 h0 n0 z0 ge_b bA (by (try simp only [List.length_append, List.length_cons, List.length_nil]); omega) Aq) 0 [.ref b, .int (Int32.ofNat pre.length), .int 123] [] Am ?_
      rintro T160 h161 v162 L163 S164 ⟨⟨rfl, K158, f159⟩, -⟩
      refine Ac C S164 [(53, .istore_n 1, 1), (54, .aload_n 0, 1), (55, .iload_n 1, 1), (56, .iload 4, 2)] 58 #[Ab b, Aa (Int32.ofNat (pre ++ [(123 : Int32)]).length), Aa xx, Aa (xx &&& (3 : Int32)), Aa y1] [.int y1, .int (Int32.ofNat (pre ++ [(123 : Int32)]).length), .ref b] ?_
      have f165 : n0 ≤ h161.size := (Nat.le_trans z0 K158.1)
      refine Ak C S164 hw 8 9 2 10 (Ap l Z a0 hw b _ (pre ++ [(123 : Int32)]) y1 h161 n0 f165 ge_b f159 (by (try simp only [List.length_append, List.length_cons, List.length_nil]); omega) p3.cr) 0 [.ref b, .int (Int32.ofNat (pre ++ [(123 : Int32)]).length), .int y1] [] Am ?_
      rintro T168 h169 v170 L171 S172 ⟨⟨rfl, K166, f167⟩, -⟩
      refine Ac C S172 [(61, .istore_n 1, 1), (62, .aload_n 0, 1), (63, .iload_n 1, 1), (64, .bipush 125, 2)] 66 #[Ab b, Aa (Int32.ofNat ((pre ++ [(123 : Int32)]) ++ [y1]).length), Aa xx, Aa (xx &&& (3 : Int32)), Aa y1] [.int 125, .int (Int32.ofNat ((pre ++ [(123 : Int32)]) ++ [y1]).length), .ref b] ?_
      have f173 : n0 ≤ h169.size := (Nat.le_trans f165 K166.1)
      refine Ak C S172 hw 8 9 2 10 (Ap l Z a0 hw b _ ((pre ++ [(123 : Int32)]) ++ [y1]) 125 h169 n0 f173 ge_b f167 (by (try simp only [List.length_append, List.length_cons, List.length_nil]); omega) Aq) 0 [.ref b, .int (Int32.ofNat ((pre ++ [(123 : Int32)]) ++ [y1]).length), .int 125] [] Am ?_
      rintro T176 h177 v178 L179 S180 ⟨⟨rfl, K174, f175⟩, -⟩
      refine Ba C S180 (by decide +kernel) (by decide) (by decide) ?_
      exact ⟨(((pre ++ [(123 : Int32)]) ++ [y1]) ++ [(125 : Int32)]), rfl, ((((Keep.refl _ _).trans K158 (allS (Ad 0) all0)).trans K166 (allS (Ad 0) all0)).trans K174 (allS (Ad 0) all0)), f175, ⟨[123, y1, 125], by simp, Or.inl ⟨_, p3, Or.inr rfl⟩⟩⟩
  · refine Ac C S8 [(17, .aload_n 0, 1), (18, .iload_n 1, 1), (19, .bipush 91, 2)] 21 #[Ab b, Aa (Int32.ofNat pre.length), Aa xx, Aa (xx &&& (3 : Int32)), Aa y1] [.int 91, .int (Int32.ofNat pre.length), .ref b] ?_
    refine Ak C S8 hw 8 9 2 10 (Ap l Z a0 hw b _ pre 91 h0 n0 z0 ge_b bA (by (try simp only [List.length_append, List.length_cons, List.length_nil]); omega) Aq) 0 [.ref b, .int (Int32.ofNat pre.length), .int 91] [] Am ?_
    rintro T183 h184 v185 L186 S187 ⟨⟨rfl, K181, f182⟩, -⟩
    refine Ac C S187 [(24, .istore_n 1, 1), (25, .aload_n 0, 1), (26, .iload_n 1, 1), (27, .iload 4, 2)] 29 #[Ab b, Aa (Int32.ofNat (pre ++ [(91 : Int32)]).length), Aa xx, Aa (xx &&& (3 : Int32)), Aa y1] [.int y1, .int (Int32.ofNat (pre ++ [(91 : Int32)]).length), .ref b] ?_
    have f188 : n0 ≤ h184.size := (Nat.le_trans z0 K181.1)
    refine Ak C S187 hw 8 9 2 10 (Ap l Z a0 hw b _ (pre ++ [(91 : Int32)]) y1 h184 n0 f188 ge_b f182 (by (try simp only [List.length_append, List.length_cons, List.length_nil]); omega) p3.cr) 0 [.ref b, .int (Int32.ofNat (pre ++ [(91 : Int32)]).length), .int y1] [] Am ?_
    rintro T191 h192 v193 L194 S195 ⟨⟨rfl, K189, f190⟩, -⟩
    refine Ac C S195 [(32, .istore_n 1, 1), (33, .aload_n 0, 1), (34, .iload_n 1, 1), (35, .bipush 93, 2)] 37 #[Ab b, Aa (Int32.ofNat ((pre ++ [(91 : Int32)]) ++ [y1]).length), Aa xx, Aa (xx &&& (3 : Int32)), Aa y1] [.int 93, .int (Int32.ofNat ((pre ++ [(91 : Int32)]) ++ [y1]).length), .ref b] ?_
    have f196 : n0 ≤ h192.size := (Nat.le_trans f188 K189.1)
    refine Ak C S195 hw 8 9 2 10 (Ap l Z a0 hw b _ ((pre ++ [(91 : Int32)]) ++ [y1]) 93 h192 n0 f196 ge_b f190 (by (try simp only [List.length_append, List.length_cons, List.length_nil]); omega) Aq) 0 [.ref b, .int (Int32.ofNat ((pre ++ [(91 : Int32)]) ++ [y1]).length), .int 93] [] Am ?_
    rintro T199 h200 v201 L202 S203 ⟨⟨rfl, K197, f198⟩, -⟩
    refine Ba C S203 (by decide +kernel) (by decide) (by decide) ?_
    exact ⟨(((pre ++ [(91 : Int32)]) ++ [y1]) ++ [(93 : Int32)]), rfl, ((((Keep.refl _ _).trans K181 (allS (Ad 0) all0)).trans K189 (allS (Ad 0) all0)).trans K197 (allS (Ad 0) all0)), f198, ⟨[91, y1, 93], by simp, Or.inl ⟨_, p3, Or.inl rfl⟩⟩⟩
theorem own_bla (hw : Ar a0 Z) (h0 : Heap) (n0 : Nat) (z0 : n0 ≤ h0.size) :
    Ag l Z (⟨"com/example/limit1/limit1/JsonTextCheckPinLaw", "blanks", "()[C"⟩ : MethodName) method_3_code 0 (some (.array .char)) ({ frames := 0, cells := 1, slots := 88, locals := 0 } : Room) n0 #[] h0 (fun v h => ∃ b : Addr, ∃ bk : ClassId, v = some (.ref b) ∧ h0.size ≤ b ∧ Keep h0 h [] ∧ Arv Z h b bk .char (88 : Int32) (Ce ([] : List Int32)) (.int 0)) := by
  refine Au #[] ?_
  intro p e s m below meth c T0 C S0
  refine Ac C S0 [(0, .bipush 88, 2)] 2 #[] [.int 88] ?_
  refine Gg C S0 (aty := .char) (ow hw 4 rfl) (by decide +kernel) (by decide) 88 (by decide) (by decide) (by decide) (by decide) ?_
  intro T1 h3 a4 k5 S2 g6 E7 f8 
  have f9 : Arv Z h3 a4 k5 .char (88 : Int32) ([(.int 0), (.int 0), (.int 0), (.int 0), (.int 0), (.int 0), (.int 0), (.int 0), (.int 0), (.int 0), (.int 0), (.int 0), (.int 0), (.int 0), (.int 0), (.int 0), (.int 0), (.int 0), (.int 0), (.int 0), (.int 0), (.int 0), (.int 0), (.int 0), (.int 0), (.int 0), (.int 0), (.int 0), (.int 0), (.int 0), (.int 0), (.int 0), (.int 0), (.int 0), (.int 0), (.int 0), (.int 0), (.int 0), (.int 0), (.int 0), (.int 0), (.int 0), (.int 0), (.int 0), (.int 0), (.int 0), (.int 0), (.int 0), (.int 0), (.int 0), (.int 0), (.int 0), (.int 0), (.int 0), (.int 0), (.int 0), (.int 0), (.int 0), (.int 0), (.int 0), (.int 0), (.int 0), (.int 0), (.int 0), (.int 0), (.int 0), (.int 0), (.int 0), (.int 0), (.int 0), (.int 0), (.int 0), (.int 0), (.int 0), (.int 0), (.int 0), (.int 0), (.int 0), (.int 0), (.int 0), (.int 0), (.int 0), (.int 0), (.int 0), (.int 0), (.int 0), (.int 0), (.int 0)]) (.int 0) := Arv.pad f8 (pad_rep [] (.int 0) 88)
  have g10 : n0 ≤ a4 := by rw [g6]; exact z0
  have hz : Arv Z h3 a4 k5 .char 88 (Fn 0) (.int 0) := f9
  have o17 : h0.size ≤ a4 := by rw [g6]; exact (Nat.le_refl _)
  have loop : ∀ (j n : Nat), n + j = 88 → ∀ (T11 : State) (h13 : Heap), Az p l e ({ frames := 0, cells := 1, slots := 88, locals := 0 } : Room) s m #[] below meth c n0 T11 h13 1 88 → Keep h0 h13 [] → Arv Z h13 a4 k5 .char 88 (Fn n) (.int 0) → Aj p e below (Cq s n0 (fun v h => ∃ b : Addr, ∃ bk : ClassId, v = some (.ref b) ∧ h0.size ≤ b ∧ Keep h0 h [] ∧ Arv Z h b bk .char (88 : Int32) (Ce ([] : List Int32)) (.int 0)) ({ frames := 0, cells := 1, slots := 88, locals := 0 } : Room).cells ({ frames := 0, cells := 1, slots := 88, locals := 0 } : Room).slots) T11 (mkF m (Fd n) #[] [.ref a4]) := by
    intro j; induction j with
    | zero =>
      intro n hn T11 h13 S12 K15 f16
      obtain rfl : n = 88 := by omega
      rw [own_bz8] at f16
      refine Ev C S12 rfl rfl (by decide +kernel) (by decide) (by decide) ?_
      exact ⟨a4, k5, rfl, o17, K15, f16⟩
    | succ j ih =>
      intro n hn T11 h13 S12 K15 f16
      have hl : n < 88 := by omega
      refine own_seg C S12 (own_bsg n) (own_bdec n hl) _ _ _ (own_brun hl a4) ?_
      refine own_castore C S12 f16 ⟨(Ay (by omega)).1, Cb (n := 88) hl (by omega)⟩ n (Ay (by omega)).2 (by rw [own_bzl (by omega)]; exact hl) 32 (by decide) g10 (own_bcas n hl).1 ?_
      intro T18 h19 S20 W21 f22
      rw [own_bzs hl] at f22
      rw [(own_bcas n hl).2]
      exact ih (n + 1) (by omega) T18 h19 S20 (K15.wr W21 (Or.inr o17)) f22
  exact loop 88 0 rfl T1 h3 S2 ((Keep.refl _ _).ext E7) hz
theorem own_nbl (hw : Ar a0 Z) (h0 : Heap) (n0 : Nat) (z0 : n0 ≤ h0.size) :
    Ag l Z (⟨"java/lang/StringUTF16", "newBytesLength", "(I)I"⟩ : MethodName) jdk_52_method_3_code 1 (some .int) ({ frames := 0, cells := 0, slots := 0, locals := 0 } : Room) n0 #[(.int 88)] h0 (fun v h => v = some (.int 176) ∧ h = h0) := by
  refine Au #[.val (.int 88)] ?_
  intro p e s m below meth c T0 C S0
  refine Ac C S0 [(0, .iload_n 0, 1), (1, .ifCond .ge 11, 3), (12, .iload_n 0, 1)] 13 #[Aa 88] [.int 88] ?_
  refine Dg C S0 (ow hw 263 rfl) (by decide +kernel) ?_
  refine Ac C S0 [(15, .if_icmp .lt 40, 3), (55, .iload_n 0, 1), (56, .iconst 1, 1), (57, .ishl, 1)] 58 #[Aa 88] [.int 176] ?_
  refine Ba C S0 (by decide +kernel) (by decide) (by decide) ?_
  exact ⟨rfl, rfl⟩
theorem own_nbf (hw : Ar a0 Z) (h0 : Heap) (n0 : Nat) (z0 : n0 ≤ h0.size) :
    Ag l Z (⟨"java/lang/StringUTF16", "newBytesFor", "(I)[B"⟩ : MethodName) jdk_52_method_2_code 1 (some (.array .byte)) ({ frames := 1, cells := 1, slots := 176, locals := 12 } : Room) n0 #[(.int 88)] h0 (fun v h => ∃ t : Addr, ∃ tk : ClassId, v = some (.ref t) ∧ h0.size ≤ t ∧ Keep h0 h [] ∧ Arv Z h t tk .byte (176 : Int32) (Cs 176 []) (.int 0)) := by
  refine Au #[.val (.int 88)] ?_
  intro p e s m below meth c T0 C S0
  refine Ac C S0 [(0, .iload_n 0, 1)] 1 #[Aa 88] [.int 88] ?_
  refine Ak C S0 hw 260 261 51 262 (own_nbl l Z a0 hw  h0 n0 z0) 0 [.int 88] [] Ca ?_
  rintro T2 h3 v4 L5 S6 ⟨⟨rfl, e1⟩, -⟩
  rw [e1] at S6; clear e1
  refine Gg C S6 (aty := .byte) (ow hw 53 rfl) (by decide +kernel) (by decide) 176 (by decide) (by decide) (by decide) (by decide) ?_
  intro T7 h9 a10 k11 S8 g12 E13 f14 
  have f15 : Arv Z h9 a10 k11 .byte (176 : Int32) (Cs 176 []) (.int 0) := Arv.pad f14 (pad_rep [] (.int 0) 176)
  refine Ev C S8 rfl rfl (by decide +kernel) (by decide) (by decide) ?_
  have o16 : h0.size ≤ a10 := by rw [g12]; exact (Nat.le_refl _)
  exact ⟨a10, k11, rfl, o16, ((Keep.refl _ _).ext E13), f15⟩
theorem own_ptc (hw : Ar a0 Z) (G1 : Int32) (G3 : Value) (t : Addr) (tk : ClassId) (cs : List Int32) (i : Nat) (k : Int32) (r : List Int32) (h0 : Heap) (n0 : Nat) (z0 : n0 ≤ h0.size) (ge_t : n0 ≤ t) (X00 : Old Z n0 h0) (tK : Arv Z h0 t tk .byte (176 : Int32) (Cs 176 (Ck (cs.take i))) (.int 0)) (HS : Bg Z G1 G3) (hat : Ae cs i (k :: r)) (hl : cs.length = 88) :
    Ag l Z (⟨"java/lang/StringUTF16", "putChar", "([BII)V"⟩ : MethodName) jdk_52_method_4_code 3 none ({ frames := 0, cells := 0, slots := 0, locals := 0 } : Room) n0 #[(.ref t), (.int (Int32.ofNat i)), (.int k)] h0 (fun v h => v = none ∧ Keep h0 h [t] ∧ Arv Z h t tk .byte (176 : Int32) (Cs 176 (Ck (cs.take (i + 1)))) (.int 0)) := by
  refine Au #[.val (.ref t), .val (.int (Int32.ofNat i)), .val (.int k)] ?_
  intro p e s m below meth c T0 C S0
  obtain ⟨O2, O4, P5, rG3, OA, OH, OL, OB⟩ := id HS
  have hg := Ae.hd hat
  have htk := own_tk hat
  have hub : (Ck (cs.take i)).length = 2 * i := by rw [Fy, htk.2]
  refine Dc C S0 (ow hw 267 rfl) Via.refl (OA.ext X00.2) (by decide +kernel) ?_
  intro T1 S2
  refine Ac C S2 [(3, .ifCond .ne 25, 3), (28, .iload_n 1, 1), (29, .iconst 1, 1), (30, .ishl, 1)] 31 #[Ab t, Aa (Int32.ofNat i), Aa k] [.int ((Int32.ofNat i) <<< ((1 : Int32) &&& 31))] ?_
  rw [show ((Int32.ofNat i) <<< ((1 : Int32) &&& 31)) = (Int32.ofNat (2 * i)) from (own_dbl (by omega)).1]
  refine Ac C S2 [(31, .istore_n 1, 1), (32, .aload_n 0, 1), (33, .iload_n 1, 1), (34, .iinc 1 1, 3), (37, .iload_n 2, 1)] 38 #[Ab t, Aa ((Int32.ofNat (2 * i)) + (1 : Int32)), Aa k] [.int k, .int (Int32.ofNat (2 * i)), .ref t] ?_
  refine Dc C S2 (ow hw 268 rfl) Via.refl (OH.ext X00.2) (by decide +kernel) ?_
  intro T3 S4
  refine Ac C S4 [(41, .ishr, 1), (42, .i2b, 1)] 43 #[Ab t, Aa ((Int32.ofNat (2 * i)) + (1 : Int32)), Aa k] [.int ((k >>> ((0 : Int32) &&& 31)).toInt8.toInt32), .int (Int32.ofNat (2 * i)), .ref t] ?_
  rw [show ((Int32.ofNat (2 * i)) + (1 : Int32)) = (Int32.ofNat (2 * i + 1)) from Af _]
  refine Er C S4 tK ⟨(Ay (by omega)).1, Cb (n := 176) (by omega) (by omega)⟩ (2 * i) (Ay (by omega)).2 (by rw [own_qdl (by omega)]; omega) ((k >>> ((0 : Int32) &&& 31)).toInt8.toInt32) (Fi _) ge_t (by decide +kernel) ?_
  intro T5 h7 S6 W8 f9
  have f10 : Arv Z h7 t tk .byte (176 : Int32) ((Cs 176 (Ck (cs.take i))).set (2 * i) (.int (k >>> ((0 : Int32) &&& 31)).toInt8.toInt32)) (.int 0) := f9
  have f11 := (X00.wr W8 ge_t)
  refine Ac C S6 [(44, .aload_n 0, 1), (45, .iload_n 1, 1), (46, .iload_n 2, 1)] 47 #[Ab t, Aa (Int32.ofNat (2 * i + 1)), Aa k] [.int k, .int (Int32.ofNat (2 * i + 1)), .ref t] ?_
  refine Dc C S6 (ow hw 269 rfl) Via.refl (OL.ext f11.2) (by decide +kernel) ?_
  intro T12 S13
  refine Ac C S13 [(50, .ishr, 1), (51, .i2b, 1)] 52 #[Ab t, Aa (Int32.ofNat (2 * i + 1)), Aa k] [.int ((k >>> ((8 : Int32) &&& 31)).toInt8.toInt32), .int (Int32.ofNat (2 * i + 1)), .ref t] ?_
  refine Er C S13 f10 ⟨(Ay (by omega)).1, Cb (n := 176) (by omega) (by omega)⟩ (2 * i + 1) (Ay (by omega)).2 (by rw [List.length_set, own_qdl (by omega)]; omega) ((k >>> ((8 : Int32) &&& 31)).toInt8.toInt32) (Fi _) ge_t (by decide +kernel) ?_
  intro T14 h16 S15 W17 f18
  have f19 : Arv Z h16 t tk .byte (176 : Int32) (Cs 176 (Ck (cs.take (i + 1)))) (.int 0) := by rw [← own_ubt hat hl]; exact f18
  refine Be C S15 (by decide +kernel) (by decide) (by decide) ?_
  exact ⟨rfl, (((Keep.refl _ _).wr W8 (Ad 0)).wr W17 (Ad 0)), f19⟩
theorem own_pd29 : parseMethodDescriptor "(I)[B" = some ⟨[.int], (some (.array .byte))⟩ := by decide +kernel
theorem own_pd30 : parseMethodDescriptor "([BII)V" = some ⟨[(.array .byte), .int, .int], none⟩ := by decide +kernel
theorem own_tob (hw : Ar a0 Z) (G1 : Int32) (G3 : Value) (b : Addr) (bk : ClassId) (cs : List Int32) (h0 : Heap) (n0 : Nat) (z0 : n0 ≤ h0.size) (X00 : Old Z n0 h0) (bA : Arv Z h0 b bk .char (88 : Int32) (cs.map Value.int) (.int 0)) (HS : Bg Z G1 G3) (hl : cs.length = 88) :
    Ag l Z (⟨"java/lang/StringUTF16", "toBytes", "([CII)[B"⟩ : MethodName) jdk_52_method_14_code 5 (some (.array .byte)) ({ frames := 2, cells := 1, slots := 176, locals := 24 } : Room) n0 #[(.ref b), (.int 0), (.int 88)] h0 (fun v h => ∃ t : Addr, ∃ tk : ClassId, v = some (.ref t) ∧ h0.size ≤ t ∧ Keep h0 h [] ∧ Arv Z h t tk .byte (176 : Int32) (Ck cs) (.int 0)) := by
  refine Au #[.val (.ref b), .val (.int 0), .val (.int 88), .unset, .unset] ?_
  intro p e s m below meth c T0 C S0
  obtain ⟨O2, O4, P5, rG3, OA, OH, OL, OB⟩ := id HS
  refine Ac C S0 [(0, .iload_n 2, 1)] 1 #[Ab b, Aa 0, Aa 88, .unset, .unset] [.int 88] ?_
  refine Ak C S0 hw 257 258 51 259 (own_nbf l Z a0 hw  h0 n0 z0) 0 [.int 88] [] own_pd29 ?_
  rintro T6 h7 v8 L9 S10 ⟨⟨a1, k2, rfl, g3, K4, f5⟩, -⟩
  have o15 : h0.size ≤ a1 := Nat.le_trans (Nat.le_refl _) g3
  have loop : ∀ (dl : List Int32) (T12 : State) (h11 : Heap) (i : Nat), Az p l e ({ frames := 2, cells := 1, slots := 176, locals := 24 } : Room) s m #[(.ref b), (.int 0), (.int 88)] below meth c n0 T12 h11 1 176 → Keep h0 h11 [] → Arv Z h11 a1 k2 .byte (176 : Int32) (Cs 176 (Ck (cs.take i))) (.int 0) → (Ae cs i dl) → Aj p e below (Cq s n0 (fun v h => ∃ t : Addr, ∃ tk : ClassId, v = some (.ref t) ∧ h0.size ≤ t ∧ Keep h0 h [] ∧ Arv Z h t tk .byte (176 : Int32) (Ck cs) (.int 0)) ({ frames := 2, cells := 1, slots := 176, locals := 24 } : Room).cells ({ frames := 2, cells := 1, slots := 176, locals := 24 } : Room).slots) T12 (mkF m 8 #[Ab b, Aa (Int32.ofNat i), Aa 88, Ab a1, Aa (Int32.ofNat i)] []) := by
    intro dl
    induction dl with
    | nil =>
      intro T12 h11 i S13 K14 tA hat
      have hi := Ae.nl hat
      rw [hi, List.take_length, own_qdf (by rw [Fy]; omega)] at tA
      refine Ac C S13 [(8, .iload 4, 2), (10, .iload_n 2, 1)] 11 #[Ab b, Aa (Int32.ofNat i), Aa 88, Ab a1, Aa (Int32.ofNat i)] [.int 88, .int (Int32.ofNat i)] ?_
      refine Ao C S13 .ge 21 32 (fun (q16 : ¬ (Int32.ofNat i) < (88 : Int32)) => ?_) (fun (hq : (Int32.ofNat i) < (88 : Int32)) => False.elim (Ed (n := 88) (by omega) (by omega) (by omega) hq))
      refine Ac C S13 [(32, .aload_n 3, 1)] 33 #[Ab b, Aa (Int32.ofNat i), Aa 88, Ab a1, Aa (Int32.ofNat i)] [.ref a1] ?_
      refine Ev C S13 rfl rfl (by decide +kernel) (by decide) (by decide) ?_
      have o17 : h0.size ≤ a1 := Nat.le_trans (Nat.le_refl _) o15
      exact ⟨a1, k2, rfl, o17, ((Keep.refl _ _).trans K14 all0), tA⟩
    | cons k dl ih =>
      intro T12 h11 i S13 K14 tA hat
      have hg := Ae.hd hat
      refine Ac C S13 [(8, .iload 4, 2), (10, .iload_n 2, 1)] 11 #[Ab b, Aa (Int32.ofNat i), Aa 88, Ab a1, Aa (Int32.ofNat i)] [.int 88, .int (Int32.ofNat i)] ?_
      refine Ao C S13 .ge 21 32 (fun (hq : ¬ (Int32.ofNat i) < (88 : Int32)) => False.elim (hq (Cb (n := 88) (by omega) (by omega)))) (fun (q18 : (Int32.ofNat i) < (88 : Int32)) => ?_)
      refine Ac C S13 [(14, .aload_n 3, 1), (15, .iload 4, 2), (17, .aload_n 0, 1), (18, .iload_n 1, 1)] 19 #[Ab b, Aa (Int32.ofNat i), Aa 88, Ab a1, Aa (Int32.ofNat i)] [.int (Int32.ofNat i), .ref b, .int (Int32.ofNat i), .ref a1] ?_
      have f19 := (bA.keep K14 nin0)
      refine Fw C S13 f19 ⟨(Ay (by omega)).1, Cb (n := 88) (by omega) (by omega)⟩ (.int k) (own_mg hat (by omega)) (by decide +kernel) ?_
      have f20 := (X00.keep K14 all0)
      have f21 : n0 ≤ h11.size := (Nat.le_trans z0 K14.1)
      have g22 : n0 ≤ a1 := Nat.le_trans z0 o15
      refine Ak C S13 hw 264 265 51 266 (own_ptc l Z a0 hw G1 G3 a1 _ cs i k dl h11 n0 f21 g22 f20 tA HS hat hl) 0 [.ref a1, .int (Int32.ofNat i), .int k] [] own_pd30 ?_
      rintro T25 h26 v27 L28 S29 ⟨⟨rfl, K23, f24⟩, -⟩
      refine Ac C S29 [(23, .iinc 1 1, 3), (26, .iinc 4 1, 3), (29, .goto (-21), 3)] 8 #[Ab b, Aa ((Int32.ofNat i) + (1 : Int32)), Aa 88, Ab a1, Aa ((Int32.ofNat i) + (1 : Int32))] [] ?_
      rw [show ((Int32.ofNat i) + (1 : Int32)) = (Int32.ofNat (i + 1)) from Af _]
      have o30 : h0.size ≤ a1 := Nat.le_trans (Nat.le_refl _) o15
      exact ih T25 h26 (i + 1) S29 (((Keep.refl _ _).trans K14 all0).trans K23 (allS (Or.inr o30) all0)) f24 hg.2.2
  refine Ac C S10 [(4, .astore_n 3, 1), (5, .iconst 0, 1), (6, .istore 4, 2)] 8 #[Ab b, Aa 0, Aa 88, Ab a1, Aa 0] [] ?_
  exact loop cs T6 h7 0 S10 ((Keep.refl _ _).trans K4 all0) f5 (⟨rfl, Nat.zero_le _⟩)
theorem own_cpl (hw : Ar a0 Z) (b : Addr) (bk : ClassId) (cs : List Int32) (t : Addr) (tk : ClassId) (h0 : Heap) (n0 : Nat) (z0 : n0 ≤ h0.size) (ge_t : n0 ≤ t) (bA : Arv Z h0 b bk .char (88 : Int32) (cs.map Value.int) (.int 0)) (tA : Arv Z h0 t tk .byte (88 : Int32) (Cs 88 []) (.int 0)) (ne_b_t : b ≠ t) (hl : cs.length = 88) :
    Ag l Z (⟨"java/lang/StringUTF16", "compress", "([CI[BII)I"⟩ : MethodName) jdk_52_method_21_code 7 (some .int) ({ frames := 0, cells := 0, slots := 0, locals := 0 } : Room) n0 #[(.ref b), (.int 0), (.ref t), (.int 0), (.int 88)] h0 (fun v h => ∃ r : Int32, ∃ vz : List Value, v = some (.int r) ∧ Keep h0 h [t] ∧ Arv Z h t tk .byte (88 : Int32) vz (.int 0) ∧ (own_CP cs r vz)) := by
  refine Au #[.val (.ref b), .val (.int 0), .val (.ref t), .val (.int 0), .val (.int 88), .unset, .unset] ?_
  intro p e s m below meth c T0 C S0
  have loop : ∀ (dl : List Int32) (T2 : State) (h1 : Heap) (i : Nat) (k : Int32), Az p l e ({ frames := 0, cells := 0, slots := 0, locals := 0 } : Room) s m #[(.ref b), (.int 0), (.ref t), (.int 0), (.int 88)] below meth c n0 T2 h1 0 0 → Keep h0 h1 [t] → Arv Z h1 t tk .byte (88 : Int32) (Cs 88 (Cc (cs.take i))) (.int 0) → (Ae cs i (k :: dl)) → (∀ z ∈ cs.take i, z.toInt ≤ 255) → Aj p e below (Cq s n0 (fun v h => ∃ r : Int32, ∃ vz : List Value, v = some (.int r) ∧ Keep h0 h [t] ∧ Arv Z h t tk .byte (88 : Int32) vz (.int 0) ∧ (own_CP cs r vz)) ({ frames := 0, cells := 0, slots := 0, locals := 0 } : Room).cells ({ frames := 0, cells := 0, slots := 0, locals := 0 } : Room).slots) T2 (mkF m 15 #[Ab b, Aa (Int32.ofNat i), Ab t, Aa (Int32.ofNat i), Aa 88, Aa (Int32.ofNat i), Aa k] []) := by
    intro dl
    induction dl with
    | nil =>
      intro T2 h1 i k S3 K4 tA hat hp
      have hg := Ae.hd hat
      have htk := own_tk hat
      have hsb : (Cc (cs.take i)).length = i := by rw [own_sbl, htk.2]
      refine Ac C S3 [(15, .iload 6, 2), (17, .sipush 255, 3)] 20 #[Ab b, Aa (Int32.ofNat i), Ab t, Aa (Int32.ofNat i), Aa 88, Aa (Int32.ofNat i), Aa k] [.int 255, .int k] ?_
      refine Ao C S3 .le 6 26 (fun (q5 : ¬ (255 : Int32) < k) => ?_) (fun (q6 : (255 : Int32) < k) => ?_)
      · have hp2 : ∀ z ∈ cs.take (i + 1), z.toInt ≤ 255 := by rw [htk.1]; exact fun z hz => (List.mem_append.mp hz).elim (hp z) (fun q => by rw [List.mem_singleton.mp q]; have := q5; rw [Int32.lt_iff_toInt_lt] at this; have e1 : (255 : Int32).toInt = 255 := rfl; omega)
        refine Ac C S3 [(26, .aload_n 2, 1), (27, .iload_n 3, 1), (28, .iload 6, 2), (30, .i2b, 1)] 31 #[Ab b, Aa (Int32.ofNat i), Ab t, Aa (Int32.ofNat i), Aa 88, Aa (Int32.ofNat i), Aa k] [.int k.toInt8.toInt32, .int (Int32.ofNat i), .ref t] ?_
        refine Er C S3 tA ⟨(Ay (by omega)).1, Cb (n := 88) (by omega) (by omega)⟩ i (Ay (by omega)).2 (by rw [own_qdl (by omega)]; omega) k.toInt8.toInt32 (Fi _) ge_t (by decide +kernel) ?_
        intro T7 h9 S8 W10 f11
        have f12 : Arv Z h9 t tk .byte (88 : Int32) (Cs 88 (Cc (cs.take (i + 1)))) (.int 0) := by rw [← own_sbt hat hl]; exact f11
        refine Ac C S8 [(32, .iinc 1 1, 3), (35, .iinc 3 1, 3), (38, .iinc 5 1, 3), (41, .goto (-38), 3)] 3 #[Ab b, Aa ((Int32.ofNat i) + (1 : Int32)), Ab t, Aa ((Int32.ofNat i) + (1 : Int32)), Aa 88, Aa ((Int32.ofNat i) + (1 : Int32)), Aa k] [] ?_
        rw [show ((Int32.ofNat i) + (1 : Int32)) = (Int32.ofNat (i + 1)) from Af _]
        have hi := Ae.nl hg.2.2
        refine Ac C S8 [(3, .iload 5, 2), (5, .iload 4, 2)] 7 #[Ab b, Aa (Int32.ofNat (i + 1)), Ab t, Aa (Int32.ofNat (i + 1)), Aa 88, Aa (Int32.ofNat (i + 1)), Aa k] [.int 88, .int (Int32.ofNat (i + 1))] ?_
        refine Ao C S8 .ge 37 44 (fun (q13 : ¬ (Int32.ofNat (i + 1)) < (88 : Int32)) => ?_) (fun (hq : (Int32.ofNat (i + 1)) < (88 : Int32)) => False.elim (Ed (n := 88) (by omega) (by omega) (by omega) hq))
        refine Ac C S8 [(44, .iload 4, 2)] 46 #[Ab b, Aa (Int32.ofNat (i + 1)), Ab t, Aa (Int32.ofNat (i + 1)), Aa 88, Aa (Int32.ofNat (i + 1)), Aa k] [.int 88] ?_
        refine Ba C S8 (by decide +kernel) (by decide) (by decide) ?_
        exact ⟨(88 : Int32), (Cs 88 (Cc (cs.take (i + 1)))), rfl, (((Keep.refl _ _).trans K4 (allS (Ad 0) all0)).wr W10 (Ad 0)), f12, Or.inl ⟨rfl, by rw [hi, List.take_length, own_qdf (by rw [own_sbl]; omega)], by rw [hi, List.take_length] at hp2; exact hp2⟩⟩
      · refine Ac C S3 [(23, .iload 5, 2)] 25 #[Ab b, Aa (Int32.ofNat i), Ab t, Aa (Int32.ofNat i), Aa 88, Aa (Int32.ofNat i), Aa k] [.int (Int32.ofNat i)] ?_
        refine Ba C S3 (by decide +kernel) (by decide) (by decide) ?_
        exact ⟨(Int32.ofNat i), (Cs 88 (Cc (cs.take i))), rfl, ((Keep.refl _ _).trans K4 (allS (Ad 0) all0)), tA, Or.inr ⟨i, by omega, rfl, by rw [hg.2.1]; exact q6⟩⟩
    | cons k2 dl ih =>
      intro T2 h1 i k S3 K4 tA hat hp
      have hg := Ae.hd hat
      have htk := own_tk hat
      have hsb : (Cc (cs.take i)).length = i := by rw [own_sbl, htk.2]
      refine Ac C S3 [(15, .iload 6, 2), (17, .sipush 255, 3)] 20 #[Ab b, Aa (Int32.ofNat i), Ab t, Aa (Int32.ofNat i), Aa 88, Aa (Int32.ofNat i), Aa k] [.int 255, .int k] ?_
      refine Ao C S3 .le 6 26 (fun (q14 : ¬ (255 : Int32) < k) => ?_) (fun (q15 : (255 : Int32) < k) => ?_)
      · have hp2 : ∀ z ∈ cs.take (i + 1), z.toInt ≤ 255 := by rw [htk.1]; exact fun z hz => (List.mem_append.mp hz).elim (hp z) (fun q => by rw [List.mem_singleton.mp q]; have := q14; rw [Int32.lt_iff_toInt_lt] at this; have e1 : (255 : Int32).toInt = 255 := rfl; omega)
        refine Ac C S3 [(26, .aload_n 2, 1), (27, .iload_n 3, 1), (28, .iload 6, 2), (30, .i2b, 1)] 31 #[Ab b, Aa (Int32.ofNat i), Ab t, Aa (Int32.ofNat i), Aa 88, Aa (Int32.ofNat i), Aa k] [.int k.toInt8.toInt32, .int (Int32.ofNat i), .ref t] ?_
        refine Er C S3 tA ⟨(Ay (by omega)).1, Cb (n := 88) (by omega) (by omega)⟩ i (Ay (by omega)).2 (by rw [own_qdl (by omega)]; omega) k.toInt8.toInt32 (Fi _) ge_t (by decide +kernel) ?_
        intro T16 h18 S17 W19 f20
        have f21 : Arv Z h18 t tk .byte (88 : Int32) (Cs 88 (Cc (cs.take (i + 1)))) (.int 0) := by rw [← own_sbt hat hl]; exact f20
        refine Ac C S17 [(32, .iinc 1 1, 3), (35, .iinc 3 1, 3), (38, .iinc 5 1, 3), (41, .goto (-38), 3)] 3 #[Ab b, Aa ((Int32.ofNat i) + (1 : Int32)), Ab t, Aa ((Int32.ofNat i) + (1 : Int32)), Aa 88, Aa ((Int32.ofNat i) + (1 : Int32)), Aa k] [] ?_
        rw [show ((Int32.ofNat i) + (1 : Int32)) = (Int32.ofNat (i + 1)) from Af _]
        have hg2 := Ae.hd hg.2.2
        refine Ac C S17 [(3, .iload 5, 2), (5, .iload 4, 2)] 7 #[Ab b, Aa (Int32.ofNat (i + 1)), Ab t, Aa (Int32.ofNat (i + 1)), Aa 88, Aa (Int32.ofNat (i + 1)), Aa k] [.int 88, .int (Int32.ofNat (i + 1))] ?_
        refine Ao C S17 .ge 37 44 (fun (hq : ¬ (Int32.ofNat (i + 1)) < (88 : Int32)) => False.elim (hq (Cb (n := 88) (by omega) (by omega)))) (fun (q22 : (Int32.ofNat (i + 1)) < (88 : Int32)) => ?_)
        refine Ac C S17 [(10, .aload_n 0, 1), (11, .iload_n 1, 1)] 12 #[Ab b, Aa (Int32.ofNat (i + 1)), Ab t, Aa (Int32.ofNat (i + 1)), Aa 88, Aa (Int32.ofNat (i + 1)), Aa k] [.int (Int32.ofNat (i + 1)), .ref b] ?_
        have f23 := ((bA.keep K4 (ninS ne_b_t nin0)).other W19 ne_b_t)
        refine Fw C S17 f23 ⟨(Ay (by omega)).1, Cb (n := 88) (by omega) (by omega)⟩ (.int k2) (own_mg hg.2.2 (by omega)) (by decide +kernel) ?_
        refine Ac C S17 [(13, .istore 6, 2)] 15 #[Ab b, Aa (Int32.ofNat (i + 1)), Ab t, Aa (Int32.ofNat (i + 1)), Aa 88, Aa (Int32.ofNat (i + 1)), Aa k2] [] ?_
        exact ih T16 h18 (i + 1) k2 S17 (((Keep.refl _ _).trans K4 (allS (Ad 0) all0)).wr W19 (Ad 0)) f21 hg.2.2 hp2
      · refine Ac C S3 [(23, .iload 5, 2)] 25 #[Ab b, Aa (Int32.ofNat i), Ab t, Aa (Int32.ofNat i), Aa 88, Aa (Int32.ofNat i), Aa k] [.int (Int32.ofNat i)] ?_
        refine Ba C S3 (by decide +kernel) (by decide) (by decide) ?_
        exact ⟨(Int32.ofNat i), (Cs 88 (Cc (cs.take i))), rfl, ((Keep.refl _ _).trans K4 (allS (Ad 0) all0)), tA, Or.inr ⟨i, by omega, rfl, by rw [hg.2.1]; exact q15⟩⟩
  obtain ⟨k0, d0, rfl⟩ : ∃ k d, cs = k :: d := by rcases cs with _ | ⟨k, d⟩; exact absurd hl (by decide); exact ⟨k, d, rfl⟩
  have hat0 : Ae (k0 :: d0) 0 (k0 :: d0) := ⟨rfl, Nat.zero_le _⟩
  refine Ac C S0 [(0, .iconst 0, 1), (1, .istore 5, 2), (3, .iload 5, 2), (5, .iload 4, 2), (7, .if_icmp .ge 37, 3), (10, .aload_n 0, 1), (11, .iload_n 1, 1)] 12 #[Ab b, Aa 0, Ab t, Aa 0, Aa 88, Aa 0, .unset] [.int 0, .ref b] ?_
  refine Fw C S0 bA ⟨(by decide), (by decide)⟩ (.int k0) (own_mg hat0 (by omega)) (by decide +kernel) ?_
  refine Ac C S0 [(13, .istore 6, 2)] 15 #[Ab b, Aa 0, Ab t, Aa 0, Aa 88, Aa 0, Aa k0] [] ?_
  exact loop d0 T0 h0 0 k0 S0 (Keep.refl _ _) tA hat0 (fun _ q => nomatch q)
theorem own_pd31 : parseMethodDescriptor "([CI[BII)I" = some ⟨[(.array .char), .int, (.array .byte), .int, .int], (some .int)⟩ := by decide +kernel
theorem own_pd32 : parseMethodDescriptor "([CII)[B" = some ⟨[(.array .char), .int, .int], (some (.array .byte))⟩ := by decide +kernel
theorem own_cps (hw : Ar a0 Z) (G1 : Int32) (G3 : Value) (b : Addr) (bk : ClassId) (cs : List Int32) (h0 : Heap) (n0 : Nat) (z0 : n0 ≤ h0.size) (X00 : Old Z n0 h0) (bA : Arv Z h0 b bk .char (88 : Int32) (cs.map Value.int) (.int 0)) (HS : Bg Z G1 G3) (hl : cs.length = 88) (hcr : ∀ k ∈ cs, Bi k) :
    Ag l Z (⟨"java/lang/StringUTF16", "compress", "([CII)[B"⟩ : MethodName) jdk_52_method_16_code 6 (some (.array .byte)) ({ frames := 3, cells := 2, slots := 264, locals := 40 } : Room) n0 #[(.ref b), (.int 0), (.int 88)] h0 (fun v h => ∃ t : Addr, ∃ tk : ClassId, ∃ kd : Int32, ∃ N : Int32, ∃ vs : List Value, v = some (.ref t) ∧ h0.size ≤ t ∧ Keep h0 h [] ∧ Arv Z h t tk .byte N vs (.int 0) ∧ (own_R8 cs kd N vs)) := by
  refine Au #[.val (.ref b), .val (.int 0), .val (.int 88), .unset, .unset, .unset] ?_
  intro p e s m below meth c T0 C S0
  obtain ⟨O2, O4, P5, rG3, OA, OH, OL, OB⟩ := id HS
  refine Ac C S0 [(0, .iload_n 2, 1)] 1 #[Ab b, Aa 0, Aa 88, .unset, .unset, .unset] [.int 88] ?_
  refine Gg C S0 (aty := .byte) (ow hw 53 rfl) (by decide +kernel) (by decide) 88 (by decide) (by decide) (by decide) (by decide) ?_
  intro T1 h3 a4 k5 S2 g6 E7 f8 
  have f9 : Arv Z h3 a4 k5 .byte (88 : Int32) (Cs 88 []) (.int 0) := Arv.pad f8 (pad_rep [] (.int 0) 88)
  refine Ac C S2 [(3, .astore_n 3, 1), (4, .aload_n 0, 1), (5, .iload_n 1, 1), (6, .aload_n 3, 1), (7, .iconst 0, 1), (8, .iload_n 2, 1)] 9 #[Ab b, Aa 0, Aa 88, Ab a4, .unset, .unset] [.int 88, .int 0, .ref a4, .int 0, .ref b] ?_
  have f10 := (bA.ext E7)
  have f11 : n0 ≤ h3.size := (Nat.le_trans z0 E7.1)
  have g12 : n0 ≤ a4 := by rw [g6]; exact z0
  have n13 : b ≠ a4 := by rw [g6]; exact Nat.ne_of_lt bA.lt
  refine Ak C S2 hw 54 55 51 56 (own_cpl l Z a0 hw b _ cs a4 _ h3 n0 f11 g12 f10 f9 n13 hl) 0 [.ref b, .int 0, .ref a4, .int 0, .int 88] [] own_pd31 ?_
  rintro T19 h20 v21 L22 S23 ⟨⟨y14, y15, rfl, K16, f17, p18⟩, -⟩
  rcases p18 with ⟨rfl, rfl, hle⟩ | ⟨i, hi8, rfl, hgt⟩
  · refine Ac C S23 [(12, .istore 4, 2), (14, .iload 4, 2), (16, .iload_n 2, 1), (17, .if_icmp .eq 40, 3), (57, .aload_n 3, 1)] 58 #[Ab b, Aa 0, Aa 88, Ab a4, Aa 88, .unset] [.ref a4] ?_
    refine Ev C S23 rfl rfl (by decide +kernel) (by decide) (by decide) ?_
    have o24 : h0.size ≤ a4 := by rw [g6]; exact (Nat.le_refl _)
    exact ⟨a4, k5, (0 : Int32), (88 : Int32), (Cc cs), rfl, o24, (((Keep.refl _ _).ext E7).trans K16 (allS (Or.inr o24) all0)), f17, Or.inl ⟨rfl, rfl, rfl, hle⟩⟩
  · refine Ac C S23 [(12, .istore 4, 2), (14, .iload 4, 2), (16, .iload_n 2, 1)] 17 #[Ab b, Aa 0, Aa 88, Ab a4, Aa (Int32.ofNat i), .unset] [.int 88, .int (Int32.ofNat i)] ?_
    refine Ao C S23 .eq 40 57 (fun (hq : (Int32.ofNat i) = (88 : Int32)) => False.elim (absurd ((own_oNinj (b := 88) (by omega) (by omega)).mp hq) (by omega))) (fun (q25 : ¬ (Int32.ofNat i) = (88 : Int32)) => ?_)
    refine Ac C S23 [(20, .aload_n 0, 1), (21, .iload_n 1, 1), (22, .iload_n 2, 1)] 23 #[Ab b, Aa 0, Aa 88, Ab a4, Aa (Int32.ofNat i), .unset] [.int 88, .int 0, .ref b] ?_
    have f26 := ((X00.ext E7).keep K16 (allS g12 all0))
    have f27 := (f10.keep K16 (ninS n13 nin0))
    have f28 : n0 ≤ h20.size := (Nat.le_trans f11 K16.1)
    refine Ak C S23 hw 254 255 51 256 (own_tob l Z a0 hw G1 G3 b _ cs h20 n0 f28 f26 f27 HS hl) 0 [.ref b, .int 0, .int 88] [] own_pd32 ?_
    rintro T34 h35 v36 L37 S38 ⟨⟨a29, k30, rfl, g31, K32, f33⟩, -⟩
    have f39 : Arv Z h35 a29 k30 .byte (Int32.ofNat (2 * cs.length)) (Ck cs) (.int 0) := by rw [hl]; exact f33
    have hi : i < cs.length := by omega
    have hn : cs.length ≤ 88 := by omega
    refine Ac C S38 [(26, .astore 5, 2), (28, .aload 5, 2), (30, .iload 4, 2)] 32 #[Ab b, Aa 0, Aa 88, Ab a4, Aa (Int32.ofNat i), Ab a29] [.int (Int32.ofNat i), .ref a29] ?_
    have f40 := (f26.keep K32 all0)
    have f41 : n0 ≤ h35.size := (Nat.le_trans f28 K32.1)
    refine Ak C S38 hw 270 271 51 272 (own_gch l Z a0 hw G1 G3 a29 _ cs i h35 n0 f41 f40 f39 HS hi hn hcr) 0 [.ref a29, .int (Int32.ofNat i)] [] Ft ?_
    rintro T43 h44 v45 L46 S47 ⟨⟨rfl, e42⟩, -⟩
    rw [e42] at S47; clear e42
    refine Ac C S47 [(35, .sipush 255, 3)] 38 #[Ab b, Aa 0, Aa 88, Ab a4, Aa (Int32.ofNat i), Ab a29] [.int 255, .int (cs.getD i 0)] ?_
    refine Ao C S47 .gt 16 54 (fun (q48 : (255 : Int32) < (cs.getD i 0)) => ?_) (fun (hq : ¬ (255 : Int32) < (cs.getD i 0)) => False.elim (hq hgt))
    refine Ac C S47 [(54, .aload 5, 2)] 56 #[Ab b, Aa 0, Aa 88, Ab a4, Aa (Int32.ofNat i), Ab a29] [.ref a29] ?_
    refine Ev C S47 rfl rfl (by decide +kernel) (by decide) (by decide) ?_
    have o50 : h0.size ≤ h20.size := (Nat.le_trans (Nat.le_trans (Nat.le_refl _) E7.1) K16.1)
    have o49 : h0.size ≤ a29 := Nat.le_trans o50 g31
    have o51 : h0.size ≤ a4 := by rw [g6]; exact (Nat.le_refl _)
    exact ⟨a29, k30, (1 : Int32), (176 : Int32), (Ck cs), rfl, o49, ((((Keep.refl _ _).ext E7).trans K16 (allS (Or.inr o51) all0)).trans K32 all0), f33, Or.inr ⟨rfl, rfl, rfl⟩⟩
theorem own_cfa (hw : Ar a0 Z) (t : Addr) (tk : ClassId) (N : Int32) (vs : List Value) (kd : Int32) (h0 : Heap) (n0 : Nat) (z0 : n0 ≤ h0.size) (tK : Arv Z h0 t tk .byte N vs (.int 0)) (hk : (Jvm.Free.XT.ushr ((88 : Int32) - N) (31 : Int32)).toInt8.toInt32 = kd) :
    Ag l Z (⟨"java/lang/StringUTF16", "coderFromArrayLen", "([BI)B"⟩ : MethodName) jdk_52_method_15_code 2 (some .byte) ({ frames := 0, cells := 0, slots := 0, locals := 0 } : Room) n0 #[(.ref t), (.int 88)] h0 (fun v h => v = some (.int kd) ∧ h = h0) := by
  refine Au #[.val (.ref t), .val (.int 88)] ?_
  intro p e s m below meth c T0 C S0
  refine Ac C S0 [(0, .iload_n 1, 1), (1, .aload_n 0, 1)] 2 #[Ab t, Aa 88] [.ref t, .int 88] ?_
  refine Dt C S0 tK (by decide +kernel) ?_
  refine Ac C S0 [(3, .isub, 1), (4, .bipush 31, 2), (6, .iushr, 1), (7, .i2b, 1)] 8 #[Ab t, Aa 88] [.int ((Jvm.Free.XT.ushr ((88 : Int32) - N) (31 : Int32)).toInt8.toInt32)] ?_
  rw [show (Jvm.Free.XT.ushr ((88 : Int32) - N) (31 : Int32)).toInt8.toInt32 = kd from hk]
  refine own_retB C S0 (by decide +kernel) (by rw [← hk]; exact Fi _) (by decide) (by decide) ?_
  exact ⟨rfl, rfl⟩
theorem own_pd33 : parseMethodDescriptor "([BI)B" = some ⟨[(.array .byte), .int], (some .byte)⟩ := by decide +kernel
theorem Gr : parseFieldDescriptor "B" = some .byte := by decide +kernel
theorem Gs : parseFieldDescriptor "[B" = some (.array .byte) := by decide +kernel
theorem own_sn7 {Z : State} {a0 : Array Value} (hw : ∀ d ∈ tables_1, d.before a0 Z = true) : Jvm.RoadKit.slotOf Z "java/lang/String" "value" "[B" ≠ Jvm.RoadKit.slotOf Z "java/lang/String" "coder" "B" := slot_ne (Or.inr (ow hw 63 rfl)) (Or.inr (ow hw 61 rfl)) (by decide) Gs Gr
theorem own_sn8 {Z : State} {a0 : Array Value} (hw : ∀ d ∈ tables_1, d.before a0 Z = true) : Jvm.RoadKit.slotOf Z "java/lang/String" "coder" "B" ≠ Jvm.RoadKit.slotOf Z "java/lang/String" "value" "[B" := slot_ne (Or.inr (ow hw 61 rfl)) (Or.inr (ow hw 63 rfl)) (by decide) Gr Gs
theorem own_si2 (hw : Ar a0 Z) (G1 : Int32) (G3 : Value) (x : Addr) (b : Addr) (bk : ClassId) (cs : List Int32) (h0 : Heap) (n0 : Nat) (z0 : n0 ≤ h0.size) (ge_x : n0 ≤ x) (X00 : Old Z n0 h0) (xE : Exa Z h0 x "java/lang/String") (xV : Fld Z h0 x "java/lang/String" "value" "[B" .null) (xC : Fld Z h0 x "java/lang/String" "coder" "B" (.int 0)) (bA : Arv Z h0 b bk .char (88 : Int32) (cs.map Value.int) (.int 0)) (HS : Bg Z G1 G3) (hl : cs.length = 88) (hcr : ∀ k ∈ cs, Bi k) :
    Ag l Z (⟨"java/lang/String", "<init>", "([CIILjava/lang/Void;)V"⟩ : MethodName) jdk_42_method_149_code 6 none ({ frames := 4, cells := 2, slots := 264, locals := 57 } : Room) n0 #[(.ref x), (.ref b), (.int 0), (.int 88), .null] h0 (fun v h => ∃ t : Addr, ∃ tk : ClassId, ∃ kd : Int32, ∃ N : Int32, ∃ vs : List Value, v = none ∧ h0.size ≤ t ∧ Keep h0 h [x] ∧ Exa Z h x "java/lang/String" ∧ Fld Z h x "java/lang/String" "value" "[B" (.ref t) ∧ Fld Z h x "java/lang/String" "coder" "B" (.int kd) ∧ Arv Z h t tk .byte N vs (.int 0) ∧ (own_R8 cs kd N vs)) := by
  refine Au #[.val (.ref x), .val (.ref b), .val (.int 0), .val (.int 88), .val .null, .unset] ?_
  intro p e s m below meth c T0 C S0
  obtain ⟨O2, O4, P5, rG3, OA, OH, OL, OB⟩ := id HS
  refine Ac C S0 [(0, .aload_n 0, 1)] 1 #[Ab x, Ab b, Aa 0, Aa 88, .val .null, .unset] [.ref x] ?_
  refine own_initO C S0 (ow hw 45 rfl) (ow hw 46 rfl) (ow hw 47 rfl) rfl (by decide +kernel) (by decide) 0 (Bw rfl) (by decide) ?_
  intro T1 S2
  refine Ac C S2 [(4, .iload_n 3, 1), (5, .ifCond .ne 22, 3)] 27 #[Ab x, Ab b, Aa 0, Aa 88, .val .null, .unset] [] ?_
  refine Dc C S2 (ow hw 48 rfl) Via.refl (O2.ext X00.2) (by decide +kernel) ?_
  intro T3 S4
  refine Bv C S4 .eq 28 58 (fun (hq : G1 = (0 : Int32)) => False.elim (P5 hq)) (fun (q5 : ¬ G1 = (0 : Int32)) => ?_)
  refine Ac C S4 [(33, .aload_n 1, 1), (34, .iload_n 2, 1), (35, .iload_n 3, 1)] 36 #[Ab x, Ab b, Aa 0, Aa 88, .val .null, .unset] [.int 88, .int 0, .ref b] ?_
  refine Ak C S4 hw 49 50 51 52 (own_cps l Z a0 hw G1 G3 b _ cs h0 n0 z0 X00 bA HS hl hcr) 0 [.ref b, .int 0, .int 88] [] own_pd32 ?_
  rintro T15 h16 v17 L18 S19 ⟨⟨a6, k7, y8, y9, y10, rfl, g11, K12, f13, p14⟩, -⟩
  rcases p14 with ⟨rfl, rfl, rfl, hle⟩ | ⟨rfl, rfl, rfl⟩
  · have n20 : x ≠ a6 := Nat.ne_of_lt (Nat.lt_of_lt_of_le xE.lt g11)
    refine Ac C S19 [(39, .astore 5, 2), (41, .aload_n 0, 1), (42, .aload 5, 2), (44, .iload_n 3, 1)] 45 #[Ab x, Ab b, Aa 0, Aa 88, .val .null, Ab a6] [.int 88, .ref a6, .ref x] ?_
    have f21 : n0 ≤ h16.size := (Nat.le_trans z0 K12.1)
    refine Ak C S19 hw 57 58 51 59 (own_cfa l Z a0 hw a6 _ _ _ 0 h16 n0 f21 f13 (by decide)) 1 [.ref a6, .int 88] [.ref x] own_pd33 ?_
    rintro T23 h24 v25 L26 S27 ⟨⟨rfl, e22⟩, -⟩
    rw [e22] at S27; clear e22
    have f28 := (xC.keep K12 nin0)
    have f29 := (xE.keep K12)
    refine Eu C S27 (ty := .byte) (host := "") (Or.inl (ow hw 60 rfl)) Via.refl f28 f29 (Or.inr ⟨(ow hw 61 rfl), rfl, rfl⟩) (ow hw 36 rfl) Gr rfl rfl ge_x (by decide +kernel) ?_
    intro T30 h32 S31 W33
    have f34 : Fld Z h32 x "java/lang/String" "coder" "B" (.int 0) := Fld.same W33 f28
    refine Ac C S31 [(51, .aload_n 0, 1), (52, .aload 5, 2)] 54 #[Ab x, Ab b, Aa 0, Aa 88, .val .null, Ab a6] [.ref a6, .ref x] ?_
    have f35 := (Fld.other W33 (xV.keep K12 nin0) (Or.inr (own_sn7 hw)))
    have f36 := (Exa.wr W33 f29)
    refine Eu C S31 (ty := (.array .byte)) (host := "") (Or.inl (ow hw 62 rfl)) Via.refl f35 f36 (Or.inr ⟨(ow hw 63 rfl), rfl, rfl⟩) (ow hw 36 rfl) Gs rfl rfl ge_x (by decide +kernel) ?_
    intro T37 h39 S38 W40
    have f41 : Fld Z h39 x "java/lang/String" "value" "[B" (.ref a6) := Fld.same W40 f35
    refine Be C S38 (by decide +kernel) (by decide) (by decide) ?_
    have o42 : h0.size ≤ a6 := Nat.le_trans (Nat.le_refl _) g11
    have f43 := (Exa.wr W40 f36)
    have f44 := (Fld.other W40 f34 (Or.inr (own_sn8 hw)))
    have f45 := ((f13.other W33 (Ne.symm n20)).other W40 (Ne.symm n20))
    exact ⟨a6, k7, (0 : Int32), (88 : Int32), (Cc cs), rfl, o42, ((((Keep.refl _ _).trans K12 all0).wr W33 (Ad 0)).wr W40 (Ad 0)), f43, f41, f44, f45, Or.inl ⟨rfl, rfl, rfl, hle⟩⟩
  · have n46 : x ≠ a6 := Nat.ne_of_lt (Nat.lt_of_lt_of_le xE.lt g11)
    refine Ac C S19 [(39, .astore 5, 2), (41, .aload_n 0, 1), (42, .aload 5, 2), (44, .iload_n 3, 1)] 45 #[Ab x, Ab b, Aa 0, Aa 88, .val .null, Ab a6] [.int 88, .ref a6, .ref x] ?_
    have f47 : n0 ≤ h16.size := (Nat.le_trans z0 K12.1)
    refine Ak C S19 hw 57 58 51 59 (own_cfa l Z a0 hw a6 _ _ _ 1 h16 n0 f47 f13 (by decide)) 1 [.ref a6, .int 88] [.ref x] own_pd33 ?_
    rintro T49 h50 v51 L52 S53 ⟨⟨rfl, e48⟩, -⟩
    rw [e48] at S53; clear e48
    have f54 := (xC.keep K12 nin0)
    have f55 := (xE.keep K12)
    refine Eu C S53 (ty := .byte) (host := "") (Or.inl (ow hw 60 rfl)) Via.refl f54 f55 (Or.inr ⟨(ow hw 61 rfl), rfl, rfl⟩) (ow hw 36 rfl) Gr rfl rfl ge_x (by decide +kernel) ?_
    intro T56 h58 S57 W59
    have f60 : Fld Z h58 x "java/lang/String" "coder" "B" (.int 1) := Fld.same W59 f54
    refine Ac C S57 [(51, .aload_n 0, 1), (52, .aload 5, 2)] 54 #[Ab x, Ab b, Aa 0, Aa 88, .val .null, Ab a6] [.ref a6, .ref x] ?_
    have f61 := (Fld.other W59 (xV.keep K12 nin0) (Or.inr (own_sn7 hw)))
    have f62 := (Exa.wr W59 f55)
    refine Eu C S57 (ty := (.array .byte)) (host := "") (Or.inl (ow hw 62 rfl)) Via.refl f61 f62 (Or.inr ⟨(ow hw 63 rfl), rfl, rfl⟩) (ow hw 36 rfl) Gs rfl rfl ge_x (by decide +kernel) ?_
    intro T63 h65 S64 W66
    have f67 : Fld Z h65 x "java/lang/String" "value" "[B" (.ref a6) := Fld.same W66 f61
    refine Be C S64 (by decide +kernel) (by decide) (by decide) ?_
    have o68 : h0.size ≤ a6 := Nat.le_trans (Nat.le_refl _) g11
    have f69 := (Exa.wr W66 f62)
    have f70 := (Fld.other W66 f60 (Or.inr (own_sn8 hw)))
    have f71 := ((f13.other W59 (Ne.symm n46)).other W66 (Ne.symm n46))
    exact ⟨a6, k7, (1 : Int32), (176 : Int32), (Ck cs), rfl, o68, ((((Keep.refl _ _).trans K12 all0).wr W59 (Ad 0)).wr W66 (Ad 0)), f69, f67, f70, f71, Or.inr ⟨rfl, rfl, rfl⟩⟩
theorem own_pd34 : parseMethodDescriptor "([CIILjava/lang/Void;)V" = some ⟨[(.array .char), .int, .int, (.object "java/lang/Void")], none⟩ := by decide +kernel
theorem own_si1 (hw : Ar a0 Z) (G1 : Int32) (G3 : Value) (x : Addr) (b : Addr) (bk : ClassId) (cs : List Int32) (h0 : Heap) (n0 : Nat) (z0 : n0 ≤ h0.size) (ge_x : n0 ≤ x) (X00 : Old Z n0 h0) (xE : Exa Z h0 x "java/lang/String") (xV : Fld Z h0 x "java/lang/String" "value" "[B" .null) (xC : Fld Z h0 x "java/lang/String" "coder" "B" (.int 0)) (bA : Arv Z h0 b bk .char (88 : Int32) (cs.map Value.int) (.int 0)) (HS : Bg Z G1 G3) (hl : cs.length = 88) (hcr : ∀ k ∈ cs, Bi k) :
    Ag l Z (⟨"java/lang/String", "<init>", "([C)V"⟩ : MethodName) jdk_42_method_3_code 2 none ({ frames := 5, cells := 2, slots := 264, locals := 74 } : Room) n0 #[(.ref x), (.ref b)] h0 (fun v h => ∃ t : Addr, ∃ tk : ClassId, ∃ kd : Int32, ∃ N : Int32, ∃ vs : List Value, v = none ∧ h0.size ≤ t ∧ Keep h0 h [x] ∧ Exa Z h x "java/lang/String" ∧ Fld Z h x "java/lang/String" "value" "[B" (.ref t) ∧ Fld Z h x "java/lang/String" "coder" "B" (.int kd) ∧ Arv Z h t tk .byte N vs (.int 0) ∧ (own_R8 cs kd N vs)) := by
  refine Au #[.val (.ref x), .val (.ref b)] ?_
  intro p e s m below meth c T0 C S0
  obtain ⟨O2, O4, P5, rG3, OA, OH, OL, OB⟩ := id HS
  refine Ac C S0 [(0, .aload_n 0, 1), (1, .aload_n 1, 1), (2, .iconst 0, 1), (3, .aload_n 1, 1)] 4 #[Ab x, Ab b] [.ref b, .int 0, .ref b, .ref x] ?_
  refine Dt C S0 bA (by decide +kernel) ?_
  refine Ac C S0 [(5, .aconst_null, 1)] 6 #[Ab x, Ab b] [.null, .int 88, .int 0, .ref b, .ref x] ?_
  refine Fp C S0 rfl (ow hw 41 rfl) (ow hw 42 rfl) (ow hw 44 rfl) (by decide) (Ag.pay (own_si2 l Z a0 hw G1 G3 x b _ cs h0 n0 z0 ge_x X00 xE xV xC bA HS hl hcr) C 0 (ow hw 44 rfl) (ow hw 37 rfl) (by decide) (by decide)) (fun _ _ _ q => q.2) [.ref b, .int 0, .int 88, .null] [] rfl own_pd34 rfl rfl rfl (Bw rfl) (by decide) (by decide) (by decide +kernel) ?_
  rintro T13 h14 v15 L16 S17 ⟨⟨a1, k2, y3, y4, y5, rfl, g6, K7, f8, f9, f10, f11, p12⟩, -⟩
  refine Be C S17 (by decide +kernel) (by decide) (by decide) ?_
  have o18 : h0.size ≤ a1 := Nat.le_trans (Nat.le_refl _) g6
  exact ⟨a1, k2, y3, y4, y5, rfl, o18, ((Keep.refl _ _).trans K7 (allS (Ad 0) all0)), f8, f9, f10, f11, p12⟩
theorem own_ctx (hw : Ar a0 Z) (hEL : EW Z a0 Br) (wS : ∀ a ∈ Bundle.stringAtoms, a.before a0 Z = true) (G1 : Int32) (G3 : Value) (J : Addr) (x : Addr) (t : Addr) (tk : ClassId) (kd : Int32) (N : Int32) (vs : List Value) (cs : List Int32) (pp : Nat) (W0 : List Int32) (S : List Int32) (R : List Int32) (h0 : Heap) (n0 : Nat) (z0 : n0 ≤ h0.size) (ge_J : n0 ≤ J) (X00 : Old Z n0 h0) (JE : Exa Z h0 J "com/example/limit1/limit1/JsonText") (JX : Fld Z h0 J "com/example/limit1/limit1/JsonText" "text" "Ljava/lang/String;" (.ref x)) (JP : Fld Z h0 J "com/example/limit1/limit1/JsonText" "position" "I" (.int (Int32.ofNat pp))) (xE : Exa Z h0 x "java/lang/String") (xV : Fld Z h0 x "java/lang/String" "value" "[B" (.ref t)) (xC : Fld Z h0 x "java/lang/String" "coder" "B" (.int kd)) (tK : Arv Z h0 t tk .byte N vs (.int 0)) (ne_x_J : x ≠ J) (ne_t_J : t ≠ J) (HS : Bg Z G1 G3) (hrep : Bx cs kd N vs) (hat : Ae cs pp (W0 ++ S)) (hW0 : ∀ k ∈ W0, Aw k) (hV : Ek S R) (hR0 : ∀ k ∈ R, Aw k) :
    Co l Z Br Cw (⟨"com/example/limit1/limit1/JsonText", "checkText", "()V"⟩ : MethodName) prog_7_method_3_code 1 none 11 4 40 153 2 4 n0 #[(.ref J)] h0 [] (fun v h => ∃ q : Nat, v = none ∧ Keep h0 h [J] ∧ Exa Z h J "com/example/limit1/limit1/JsonText" ∧ Fld Z h J "com/example/limit1/limit1/JsonText" "position" "I" (.int (Int32.ofNat q)) ∧ Fld Z h J "com/example/limit1/limit1/JsonText" "text" "Ljava/lang/String;" (.ref x) ∧ (Ae cs q ([] : List Int32))) := by
  refine Eh hEL wS #[.val (.ref J)] ?_
  intro fC fS P1 P2 p e s m below meth c T0 CW hF hP1 hP2 SW0
  have SW1 : Bz p l e ({ frames := 11, cells := P1 + 4, slots := P2 + 40, locals := 153 } : Room) s m #[(.ref J)] below meth c n0 Z Br fC fS "com/example/limit1/limit1/JsonText" T0 h0 [J] 0 0 := SW0.addE JE (by decide) (by decide)
  have h88 := hrep.2.1
  refine Ai CW SW1 ?_
  intro vm2 C S3 rb4
  refine Ac C S3 [(0, .aload_n 0, 1)] 1 #[Ab J] [.ref J] ?_
  refine An C S3 hP1 hP2 hw 87 88 76 89 90 66 (Bo l Z a0 hw G1 G3 J _ _ _ _ _ _ cs pp W0 S h0 n0 z0 ge_J X00 JE JX JP xE xV xC tK ne_x_J ne_t_J HS hrep hat hW0 (Ek.nws hV)) 0 JE [] [] At ?_
  rintro T11 h12 v13 L14 S15 ⟨⟨y5, rfl, K6, f7, f8, f9, p10⟩, -⟩
  refine Ac C S15 [(4, .aload_n 0, 1)] 5 #[Ab J] [.ref J] ?_
  have f16 := (X00.keep K6 (allS ge_J all0))
  have f17 := (xE.keep K6)
  have f18 := (xV.keep K6 (ninS ne_x_J nin0))
  have f19 := (xC.keep K6 (ninS ne_x_J nin0))
  have f20 := (tK.keep K6 (ninS ne_t_J nin0))
  have f21 : n0 ≤ h12.size := (Nat.le_trans z0 K6.1)
  have SW33 := rb4 _ _ 0 0 [J] [] S15 ((Keep.refl _ _).trans K6 (allS (Ad 0) all0)) (allS (As 0) all0) all0
  refine Cu CW SW33 hF hP1 hP2 hw 125 126 76 127 128 66 (own_cvl l Z a0 hw hEL wS G1 G3 J _ _ _ _ _ _ cs y5 S R h12 n0 f21 ge_J f16 f7 f9 f8 f17 f18 f19 f20 ne_x_J ne_t_J HS hrep p10 hV) 0 f7 [] [] At ?_
  rintro T34 h35 v36 SW37 hg38 ⟨y22, rfl, K23, f24, f25, f26, p27⟩
  have hat39 : Ae cs y22 (R ++ []) := by rw [List.append_nil]; exact p27
  refine Ai CW SW37 ?_
  intro vm40 C S41 rb42
  refine Ac C S41 [(8, .aload_n 0, 1)] 9 #[Ab J] [.ref J] ?_
  have f43 := (f16.keep K23 (allS ge_J all0))
  have f44 := (f17.keep K23)
  have f45 := (f18.keep K23 (ninS ne_x_J nin0))
  have f46 := (f19.keep K23 (ninS ne_x_J nin0))
  have f47 := (f20.keep K23 (ninS ne_t_J nin0))
  have f48 : n0 ≤ h35.size := (Nat.le_trans f21 K23.1)
  refine An C S41 hP1 hP2 hw 87 88 76 89 90 66 (Bo l Z a0 hw G1 G3 J _ _ _ _ _ _ cs y22 R [] h35 n0 f48 ge_J f43 f24 f26 f25 f44 f45 f46 f47 ne_x_J ne_t_J HS hrep hat39 hR0 (fun _ _ q => nomatch q)) 0 f24 [] [] At ?_
  rintro T55 h56 v57 L58 S59 ⟨⟨y49, rfl, K50, f51, f52, f53, p54⟩, -⟩
  have hnl := Ae.nl p54
  refine Ac C S59 [(12, .aload_n 0, 1)] 13 #[Ab J] [.ref J] ?_
  refine Ah C S59 hw 91 f52 ?_
  intro T60 S61
  refine Ac C S61 [(16, .aload_n 0, 1)] 17 #[Ab J] [.ref J, .int (Int32.ofNat y49)] ?_
  refine Ah C S61 hw 81 f53 ?_
  intro T62 S63
  have f64 := (f43.keep K50 (allS ge_J all0))
  have f65 := (f44.keep K50)
  have f66 := (f45.keep K50 (ninS ne_x_J nin0))
  have f67 := (f46.keep K50 (ninS ne_x_J nin0))
  have f68 := (f47.keep K50 (ninS ne_t_J nin0))
  have f69 : n0 ≤ h56.size := (Nat.le_trans f48 K50.1)
  refine Cm C S63 hP1 hP2 hw 93 94 96 96 95 97 37 (Cx l Z a0 hw G1 G3 x _ _ _ _ _ cs h56 n0 f69 f64 f65 f66 f67 f68 HS hrep) 1 f65 [] [.int (Int32.ofNat y49)] Cy ?_
  rintro T71 h72 v73 L74 S75 ⟨⟨rfl, e70⟩, -⟩
  rw [e70] at S75; clear e70
  refine Ao C S75 .ge 10 33 (fun (q76 : ¬ (Int32.ofNat y49) < (Int32.ofNat cs.length)) => ?_) (fun (hq : (Int32.ofNat y49) < (Int32.ofNat cs.length)) => False.elim (Ed (by omega) (by omega) (by omega) hq))
  have SW77 := rb42 _ _ 2 4 [J] [] S75 ((Keep.refl _ _).trans K50 (allS (Ad 0) all0)) (allS (As 0) all0) all0
  refine Ch CW SW77 hF (by decide +kernel) (by decide) (by decide) ?_
  exact ⟨y49, rfl, ((((Keep.refl _ _).trans K6 (allS (Ad 0) all0)).trans K23 (allS (Ad 0) all0)).trans K50 (allS (Ad 0) all0)), f51, f52, f53, p54⟩
theorem own_rnn (hw : Ar a0 Z) (x : Addr) (y : Addr) (h0 : Heap) (n0 : Nat) (z0 : n0 ≤ h0.size) :
    Ag l Z (⟨"java/util/Objects", "requireNonNull", "(Ljava/lang/Object;Ljava/lang/String;)Ljava/lang/Object;"⟩ : MethodName) jdk_31_method_11_code 2 (some (.object "java/lang/Object")) ({ frames := 0, cells := 0, slots := 0, locals := 0 } : Room) n0 #[(.ref x), (.ref y)] h0 (fun v h => v = some (.ref x) ∧ h = h0) := by
  refine Au #[.val (.ref x), .val (.ref y)] ?_
  intro p e s m below meth c T0 C S0
  refine Ac C S0 [(0, .aload_n 0, 1), (1, .ifnonnull 12, 3), (13, .aload_n 0, 1)] 14 #[Ab x, Ab y] [.ref x] ?_
  refine Ev C S0 rfl rfl (by decide +kernel) (by decide) (by decide) ?_
  exact ⟨rfl, rfl⟩
theorem own_sn9 {Z : State} {a0 : Array Value} (hw : ∀ d ∈ tables_1, d.before a0 Z = true) : Jvm.RoadKit.slotOf Z "com/example/limit1/limit1/JsonText" "position" "I" ≠ Jvm.RoadKit.slotOf Z "com/example/limit1/limit1/JsonText" "text" "Ljava/lang/String;" := slot_ne (Or.inl (ow hw 92 rfl)) (Or.inr (ow hw 82 rfl)) (by decide) Ax own_fd1
theorem own_jin (hw : Ar a0 Z) (J : Addr) (x : Addr) (h0 : Heap) (n0 : Nat) (z0 : n0 ≤ h0.size) (ge_J : n0 ≤ J) (JE : Exa Z h0 J "com/example/limit1/limit1/JsonText") (JX : Fld Z h0 J "com/example/limit1/limit1/JsonText" "text" "Ljava/lang/String;" .null) (JP : Fld Z h0 J "com/example/limit1/limit1/JsonText" "position" "I" (.int 0)) :
    Ag l Z (⟨"com/example/limit1/limit1/JsonText", "<init>", "(Ljava/lang/String;)V"⟩ : MethodName) prog_7_method_1_code 2 none ({ frames := 1, cells := 0, slots := 0, locals := 12 } : Room) n0 #[(.ref J), (.ref x)] h0 (fun v h => v = none ∧ Keep h0 h [J] ∧ Exa Z h J "com/example/limit1/limit1/JsonText" ∧ Fld Z h J "com/example/limit1/limit1/JsonText" "text" "Ljava/lang/String;" (.ref x) ∧ Fld Z h J "com/example/limit1/limit1/JsonText" "position" "I" (.int (Int32.ofNat 0))) := by
  refine Au #[.val (.ref J), .val (.ref x)] ?_
  intro p e s m below meth c T0 C S0
  refine Ac C S0 [(0, .aload_n 0, 1)] 1 #[Ab J, Ab x] [.ref J] ?_
  refine own_initO C S0 (ow hw 80 rfl) (ow hw 46 rfl) (ow hw 47 rfl) rfl (by decide +kernel) (by decide) 0 (Bw rfl) (by decide) ?_
  intro T1 S2
  refine Ac C S2 [(4, .aload_n 0, 1), (5, .aload_n 1, 1)] 6 #[Ab J, Ab x] [.ref x, .ref J] ?_
  refine Eu C S2 (ty := (.object "java/lang/String")) (host := "") (Or.inl (ow hw 81 rfl)) Via.refl JX JE (Or.inr ⟨(ow hw 82 rfl), rfl, rfl⟩) (ow hw 76 rfl) own_fd1 rfl rfl ge_J (by decide +kernel) ?_
  intro T3 h5 S4 W6
  have f7 : Fld Z h5 J "com/example/limit1/limit1/JsonText" "text" "Ljava/lang/String;" (.ref x) := Fld.same W6 JX
  refine Be C S4 (by decide +kernel) (by decide) (by decide) ?_
  have f8 := (Exa.wr W6 JE)
  have f9 := (Fld.other W6 JP (Or.inr (own_sn9 hw)))
  exact ⟨rfl, ((Keep.refl _ _).wr W6 (Ad 0)), f8, f7, f9⟩
theorem own_pd35 : parseMethodDescriptor "(Ljava/lang/Object;Ljava/lang/String;)Ljava/lang/Object;" = some ⟨[(.object "java/lang/Object"), (.object "java/lang/String")], (some (.object "java/lang/Object"))⟩ := by decide +kernel
theorem own_chk (hw : Ar a0 Z) (hEL : EW Z a0 Br) (wS : ∀ a ∈ Bundle.stringAtoms, a.before a0 Z = true) (G1 : Int32) (G3 : Value) (x : Addr) (t : Addr) (tk : ClassId) (kd : Int32) (N : Int32) (vs : List Value) (cs : List Int32) (W0 : List Int32) (S : List Int32) (R : List Int32) (h0 : Heap) (n0 : Nat) (z0 : n0 ≤ h0.size) (X00 : Old Z n0 h0) (xE : Exa Z h0 x "java/lang/String") (xV : Fld Z h0 x "java/lang/String" "value" "[B" (.ref t)) (xC : Fld Z h0 x "java/lang/String" "coder" "B" (.int kd)) (tK : Arv Z h0 t tk .byte N vs (.int 0)) (HS : Bg Z G1 G3) (hrep : Bx cs kd N vs) (hat : Ae cs 0 (W0 ++ S)) (hW0 : ∀ k ∈ W0, Aw k) (hV : Ek S R) (hR0 : ∀ k ∈ R, Aw k) :
    Co l Z Br Cw (⟨"com/example/limit1/limit1/JsonText", "check", "(Ljava/lang/String;)V"⟩ : MethodName) prog_7_method_2_code 1 none 12 5 42 165 3 6 n0 #[(.ref x)] h0 [] (fun v h => v = none ∧ Keep h0 h []) := by
  refine Eh hEL wS #[.val (.ref x)] ?_
  intro fC fS P1 P2 p e s m below meth c T0 CW hF hP1 hP2 SW0
  obtain ⟨O2, O4, P5, rG3, OA, OH, OL, OB⟩ := id HS
  refine Ai CW SW0 ?_
  intro vm1 C S2 rb3
  refine Ac C S2 [(0, .aload_n 0, 1)] 1 #[Ab x] [.ref x] ?_
  have SW4 := rb3 _ _ 0 0 [] [] S2 (Keep.refl _ _) all0 all0
  refine Cv CW SW4 hF hP1 hP2 hw 68 0 16 ?_
  intro T5 h6 a7 SW8 E9
  have f10 : n0 ≤ h6.size := (Nat.le_trans z0 E9.1)
  refine Ai CW SW8 ?_
  intro vm17 C S18 rb19
  refine Bj C S18 hP1 hP2 hw 71 72 73 74 (own_rnn l Z a0 hw x a7 h6 n0 f10) 0 [.ref x, .ref a7] [] own_pd35 ?_
  rintro T12 h13 v14 L15 S16 ⟨⟨rfl, e11⟩, -⟩
  rw [e11] at S16; clear e11
  refine Ac C S16 [(6, .pop, 1)] 7 #[Ab x] [] ?_
  refine own_new C S16 (ow hw 75 rfl) (ow hw 76 rfl) (ow hw 66 rfl) (by decide +kernel) (Eg (a := 1) hP1 (by decide)) (Eg (a := 2) hP2 (by decide)) ?_
  intro T20 h22 a23 S21 g24 E25 x26 D27
  have f28 : Fld Z h22 a23 "com/example/limit1/limit1/JsonText" "text" "Ljava/lang/String;" .null := D27 (ty := (.object "java/lang/String")) (Or.inr (ow hw 82 rfl)) own_fd1
  have f29 : Fld Z h22 a23 "com/example/limit1/limit1/JsonText" "position" "I" (.int 0) := D27 (ty := .int) (Or.inl (ow hw 92 rfl)) Ax
  refine Ac C S21 [(10, .dup, 1), (11, .aload_n 0, 1)] 12 #[Ab x] [.ref x, .ref a23, .ref a23] ?_
  have f30 : n0 ≤ h22.size := (Nat.le_trans f10 E25.1)
  have g31 : n0 ≤ a23 := by rw [g24]; exact f10
  refine Fp C S21 rfl (ow hw 77 rfl) (ow hw 78 rfl) (ow hw 79 rfl) (by decide) (Ag.pay (own_jin l Z a0 hw a23 x h22 n0 f30 g31 x26 f28 f29) C 1 (ow hw 79 rfl) (ow hw 66 rfl) (Bw rfl) (Bw rfl)) (fun _ _ _ q => q.2) [.ref x] [.ref a23] rfl Fo rfl rfl rfl (Bw rfl) (Eg (a := 1) hP1 (by decide)) (Eg (a := 2) hP2 (by decide)) (by decide +kernel) ?_
  rintro T36 h37 v38 L39 S40 ⟨⟨rfl, K32, f33, f34, f35⟩, -⟩
  have f41 := (((X00.ext E9).ext E25).keep K32 (allS g31 all0))
  have f42 := ((Exa.ext E25 (Exa.ext E9 xE)).keep K32)
  have f43 : x < h6.size := (Nat.lt_of_lt_of_le xE.lt E9.1)
  have n44 : x ≠ a23 := by rw [g24]; exact Nat.ne_of_lt f43
  have f45 := ((Fld.ext E25 (Fld.ext E9 xV)).keep K32 (ninS n44 nin0))
  have f46 := ((Fld.ext E25 (Fld.ext E9 xC)).keep K32 (ninS n44 nin0))
  have f47 : t < h6.size := (Nat.lt_of_lt_of_le tK.lt E9.1)
  have n48 : t ≠ a23 := by rw [g24]; exact Nat.ne_of_lt f47
  have f49 := (((tK.ext E9).ext E25).keep K32 (ninS n48 nin0))
  have f50 : n0 ≤ h37.size := (Nat.le_trans f30 K32.1)
  have o62 : h6.size ≤ a23 := by rw [g24]; exact (Nat.le_refl _)
  have f63 : a23 < h37.size := (Nat.lt_of_lt_of_le f28.lt K32.1)
  have SW64 := rb19 _ _ 1 2 [] [a23] S40 (((Keep.refl _ _).ext E25).trans K32 (allS (Or.inr o62) all0)) all0 (allS ⟨o62, f63⟩ all0)
  refine Cu CW SW64 hF hP1 hP2 hw 83 84 76 85 86 66 (own_ctx l Z a0 hw hEL wS G1 G3 a23 _ _ _ _ _ _ cs 0 W0 S R h37 n0 f50 g31 f41 f33 f34 f35 f42 f45 f46 f49 n44 n48 HS hrep hat hW0 hV hR0) 0 f33 [] [] At ?_
  rintro T65 h66 v67 SW68 hg69 ⟨y51, rfl, K52, f53, f54, f55, p56⟩
  refine Ch CW SW68 hF (by decide +kernel) (by decide) (by decide) ?_
  have o71 : h0.size ≤ h6.size := (Nat.le_trans (Nat.le_refl _) E9.1)
  have o70 : h0.size ≤ a23 := by rw [g24]; exact o71
  exact ⟨rfl, (((((Keep.refl _ _).ext E9).ext E25).trans K32 (allS (Or.inr o70) all0)).trans K52 (allS (Or.inr o70) all0))⟩
theorem own_pd36 : parseMethodDescriptor "()[C" = some ⟨[], (some (.array .char))⟩ := by decide +kernel
theorem own_pd37 : parseMethodDescriptor "([C)V" = some ⟨[(.array .char)], none⟩ := by decide +kernel
theorem own_pd38 : parseMethodDescriptor "([CIJ)I" = some ⟨[(.array .char), .int, .long], (some .int)⟩ := by decide +kernel
theorem own_pd39 : parseMethodDescriptor "([CIIIJ)I" = some ⟨[(.array .char), .int, .int, .int, .long], (some .int)⟩ := by decide +kernel
theorem own_pd40 : parseMethodDescriptor "([CII)I" = some ⟨[(.array .char), .int, .int], (some .int)⟩ := by decide +kernel
theorem own_law (hw : Ar a0 Z) (hEL : EW Z a0 Br) (wS : ∀ a ∈ Bundle.stringAtoms, a.before a0 Z = true) (G1 : Int32) (G3 : Value) (i0 : Int32) (i1 : Int32) (i2 : Int32) (i3 : Int32) (i4 : Int64) (i5 : Int64) (h0 : Heap) (n0 : Nat) (z0 : n0 ≤ h0.size) (X00 : Old Z n0 h0) (HS : Bg Z G1 G3) :
    Co l Z Br Cw x code maxLocals ret 15 22 9784 288 22 9784 n0 #[(.int i0), (.int i1), (.int i2), (.int i3), (.long i4), (.long i5)] h0 [] (fun v h => v = some (.int 1)) := by
  refine own_metP hEL wS (by decide +kernel) #[.val (.int i0), .val (.int i1), .val (.int i2), .val (.int i3), .val (.long i4), .second, .val (.long i5), .second, .unset, .unset, .unset, .unset] (fun m => by first | (simp [entryFrame, mkF, argsToLocals, Value.category, maxLocals]; done) | rfl) ?_
  intro fC fS P1 P2 p e s m below meth c T0 CW hF hP1 hP2 SW0
  obtain ⟨O2, O4, P5, rG3, OA, OH, OL, OB⟩ := id HS
  refine Ai CW SW0 ?_
  intro vm11 C S12 rb13
  refine Bj C S12 hP1 hP2 hw 0 1 2 3 (own_bla l Z a0 hw  h0 n0 z0) 0 [] [] own_pd36 ?_
  rintro T6 h7 v8 L9 S10 ⟨⟨a1, k2, rfl, g3, K4, f5⟩, -⟩
  refine Ac C S10 [(3, .astore 8, 2), (5, .iconst 0, 1), (6, .istore 9, 2)] 8 #[Aa i0, Aa i1, Aa i2, Aa i3, .val (.long i4), .second, .val (.long i5), .second, Ab a1, Aa (Int32.ofNat ([] : List Int32).length), .unset, .unset] [] ?_
  refine Ac C S10 [(8, .aload 8, 2), (10, .iload 9, 2), (12, .iload_n 0, 1)] 13 #[Aa i0, Aa i1, Aa i2, Aa i3, .val (.long i4), .second, .val (.long i5), .second, Ab a1, Aa (Int32.ofNat ([] : List Int32).length), .unset, .unset] [.int i0, .int (Int32.ofNat ([] : List Int32).length), .ref a1] ?_
  have f14 : n0 ≤ h7.size := (Nat.le_trans z0 K4.1)
  refine Bj C S10 hP1 hP2 hw 5 6 2 7 (Fg l Z a0 hw i0 h7 n0 f14) 2 [.int i0] [.int (Int32.ofNat ([] : List Int32).length), .ref a1] Ct ?_
  rintro T18 h19 v20 L21 S22 ⟨⟨y15, rfl, e16, p17⟩, -⟩
  rw [e16] at S22; clear e16
  have g23 : n0 ≤ a1 := Nat.le_trans z0 g3
  refine Bj C S22 hP1 hP2 hw 8 9 2 10 (Ap l Z a0 hw a1 _ [] y15 h7 n0 f14 g23 f5 (by (try simp only [List.length_append, List.length_cons, List.length_nil]); omega) p17.cr) 0 [.ref a1, .int (Int32.ofNat ([] : List Int32).length), .int y15] [] Am ?_
  rintro T26 h27 v28 L29 S30 ⟨⟨rfl, K24, f25⟩, -⟩
  refine Ac C S30 [(19, .istore 9, 2), (21, .iload_n 0, 1), (22, .bipush 13, 2), (24, .iushr, 1), (25, .iconst 3, 1), (26, .iand, 1), (27, .istore 10, 2)] 29 #[Aa i0, Aa i1, Aa i2, Aa i3, .val (.long i4), .second, .val (.long i5), .second, Ab a1, Aa (Int32.ofNat (([] : List Int32) ++ [y15]).length), Aa ((Jvm.Free.XT.ushr i0 (13 : Int32)) &&& (3 : Int32)), .unset] [] ?_
  have o35 : h0.size ≤ a1 := Nat.le_trans (Nat.le_refl _) g3
  have J372 : ∀ (T32 : State) (h31 : Heap) (q0 : List Int32) (z11 : Slot), Az p l e ({ frames := 15, cells := P1 + 22, slots := P2 + 9784, locals := 288 } : Room) (s.setVm vm11) m #[(.int i0), (.int i1), (.int i2), (.int i3), (.long i4), (.long i5)] below meth c n0 T32 h31 ((fC s.vm - fC vm11) + 1) ((fS s.vm - fS vm11) + 88) → Keep h0 h31 [] → Arv Z h31 a1 k2 .char (88 : Int32) (Ce q0) (.int 0) → (Bc Fb (([] : List Int32) ++ [y15]) q0) → Aj p e below (Dj s n0 Z Br Cw (fun v h => v = some (.int 1)) 22 9784) T32 (mkF m 372 #[Aa i0, Aa i1, Aa i2, Aa i3, .val (.long i4), .second, .val (.long i5), .second, Ab a1, Aa (Int32.ofNat q0.length), Aa ((Jvm.Free.XT.ushr i0 (13 : Int32)) &&& (3 : Int32)), z11] []) := by
    intro T32 h31 q0 z11 S33 K34 bA1 hx
    have hlq := own_l10 hx
    simp only [List.length_append, List.length_cons, List.length_nil] at hlq
    refine Ac C S33 [(372, .aload 8, 2), (374, .iload 9, 2), (376, .iload_n 0, 1), (377, .bipush 11, 2), (379, .iushr, 1)] 380 #[Aa i0, Aa i1, Aa i2, Aa i3, .val (.long i4), .second, .val (.long i5), .second, Ab a1, Aa (Int32.ofNat q0.length), Aa ((Jvm.Free.XT.ushr i0 (13 : Int32)) &&& (3 : Int32)), z11] [.int (Jvm.Free.XT.ushr i0 (11 : Int32)), .int (Int32.ofNat q0.length), .ref a1] ?_
    have f36 : n0 ≤ h31.size := (Nat.le_trans z0 K34.1)
    refine Bj C S33 hP1 hP2 hw 5 6 2 7 (Fg l Z a0 hw (Jvm.Free.XT.ushr i0 (11 : Int32)) h31 n0 f36) 2 [.int (Jvm.Free.XT.ushr i0 (11 : Int32))] [.int (Int32.ofNat q0.length), .ref a1] Ct ?_
    rintro T40 h41 v42 L43 S44 ⟨⟨y37, rfl, e38, p39⟩, -⟩
    rw [e38] at S44; clear e38
    refine Bj C S44 hP1 hP2 hw 8 9 2 10 (Ap l Z a0 hw a1 _ q0 y37 h31 n0 f36 g23 bA1 (by (try simp only [List.length_append, List.length_cons, List.length_nil]); omega) p39.cr) 0 [.ref a1, .int (Int32.ofNat q0.length), .int y37] [] Am ?_
    rintro T47 h48 v49 L50 S51 ⟨⟨rfl, K45, f46⟩, -⟩
    obtain ⟨S, R, hV, hR0, hat, hl, hcr⟩ := own_finx p17 p39 hx
    obtain ⟨cs, hcs⟩ : ∃ cs, cs = (Fc (q0 ++ [y37])) := ⟨_, rfl⟩
    rw [← hcs] at hat hl hcr
    have f52 : Arv Z h48 a1 k2 .char (88 : Int32) (cs.map Value.int) (.int 0) := by rw [hcs]; exact f46
    refine Ac C S51 [(386, .istore 9, 2)] 388 #[Aa i0, Aa i1, Aa i2, Aa i3, .val (.long i4), .second, .val (.long i5), .second, Ab a1, Aa (Int32.ofNat (q0 ++ [y37]).length), Aa ((Jvm.Free.XT.ushr i0 (13 : Int32)) &&& (3 : Int32)), z11] [] ?_
    refine own_new C S51 (ow hw 35 rfl) (ow hw 36 rfl) (ow hw 37 rfl) (by decide +kernel) (Eg (a := 2) hP1 (by decide)) (Eg (a := 92) hP2 (by decide)) ?_
    intro T53 h55 a56 S54 g57 E58 x59 D60
    have f61 : Fld Z h55 a56 "java/lang/String" "coder" "B" (.int 0) := D60 (ty := .byte) (Or.inr (ow hw 61 rfl)) Gr
    have f62 : Fld Z h55 a56 "java/lang/String" "value" "[B" .null := D60 (ty := (.array .byte)) (Or.inr (ow hw 63 rfl)) Gs
    refine Ac C S54 [(391, .dup, 1), (392, .aload 8, 2)] 394 #[Aa i0, Aa i1, Aa i2, Aa i3, .val (.long i4), .second, .val (.long i5), .second, Ab a1, Aa (Int32.ofNat (q0 ++ [y37]).length), Aa ((Jvm.Free.XT.ushr i0 (13 : Int32)) &&& (3 : Int32)), z11] [.ref a1, .ref a56, .ref a56] ?_
    have f63 := (((X00.keep K34 all0).keep K45 (allS g23 all0)).ext E58)
    have f64 := (f52.ext E58)
    have f65 : n0 ≤ h55.size := (Nat.le_trans (Nat.le_trans f36 K45.1) E58.1)
    have f66 : n0 ≤ h48.size := (Nat.le_trans f36 K45.1)
    have g67 : n0 ≤ a56 := by rw [g57]; exact f66
    refine Fp C S54 rfl (ow hw 38 rfl) (ow hw 39 rfl) (ow hw 40 rfl) (by decide) (Ag.pay (own_si1 l Z a0 hw G1 G3 a56 a1 _ cs h55 n0 f65 g67 f63 x59 f62 f61 f64 HS hl hcr) C 1 (ow hw 40 rfl) (ow hw 37 rfl) (Bw rfl) (Bw rfl)) (fun _ _ _ q => q.2) [.ref a1] [.ref a56] rfl own_pd37 rfl rfl rfl (Bw rfl) (Eg (a := 4) hP1 (by decide)) (Eg (a := 356) hP2 (by decide)) (by decide +kernel) ?_
    rintro T80 h81 v82 L83 S84 ⟨⟨a68, k69, y70, y71, y72, rfl, g73, K74, f75, f76, f77, f78, p79⟩, -⟩
    have hrep := own_R8.rep p79 hl hcr
    have f85 := (f63.keep K74 (allS g67 all0))
    have f86 : n0 ≤ h81.size := (Nat.le_trans f65 K74.1)
    have o93 : h0.size ≤ a1 := Nat.le_trans (Nat.le_refl _) o35
    have o95 : h0.size ≤ h48.size := (Nat.le_trans (Nat.le_trans (Nat.le_refl _) K34.1) K45.1)
    have o94 : h0.size ≤ a56 := by rw [g57]; exact o95
    have o97 : h0.size ≤ h55.size := (Nat.le_trans o95 E58.1)
    have o96 : h0.size ≤ a68 := Nat.le_trans o97 g73
    have f98 : a56 < h81.size := (Nat.lt_of_lt_of_le f61.lt K74.1)
    have f99 : a1 < h81.size := (Nat.lt_of_lt_of_le (Nat.lt_of_lt_of_le (Nat.lt_of_lt_of_le bA1.lt K45.1) E58.1) K74.1)
    have SW100 := rb13 _ _ 4 356 [] [a1, a56, a68] S84 (((((Keep.refl _ _).trans K34 all0).trans K45 (allS (Or.inr o93) all0)).ext E58).trans K74 (allS (Or.inr o94) all0)) all0 (allS ⟨o93, f99⟩ (allS ⟨o94, f98⟩ (allS ⟨o96, f78.lt⟩ all0)))
    refine own_callSP CW SW100 hF (ow hw 64 rfl) (ow hw 65 rfl) (ow hw 66 rfl) (ow hw 67 rfl) (by decide) (own_chk l Z a0 hw hEL wS G1 G3 a56 _ _ _ _ _ cs ([y15]) S R h81 n0 f86 f85 f75 f76 f77 f78 HS hrep hat (Ga p17) hV hR0) all0 0 (Bw rfl) (Bw rfl) [(.ref a56)] [] rfl Fo rfl rfl rfl (Bw rfl) hP1 hP2 (Nat.add_le_add_left (by decide) P1) (Nat.add_le_add_left (by decide) P2) (by decide +kernel) ?_
    rintro T101 h102 v103 SW104 hg105 ⟨rfl, K87⟩
    refine Ai CW SW104 ?_
    intro vm106 C S107 rb108
    refine Ac C S107 [(400, .iconst 1, 1)] 401 #[Aa i0, Aa i1, Aa i2, Aa i3, .val (.long i4), .second, .val (.long i5), .second, Ab a1, Aa (Int32.ofNat (q0 ++ [y37]).length), Aa ((Jvm.Free.XT.ushr i0 (13 : Int32)) &&& (3 : Int32)), z11] [.int 1] ?_
    have SW109 := rb108 _ _ 7 362 [] [] S107 (Keep.refl _ _) all0 all0
    refine own_retZP CW SW109 hF (by decide +kernel) (by decide) (by decide) (by decide) ?_
    exact rfl
  have J230 : ∀ (T111 : State) (h110 : Heap) (q0 : List Int32) (o : Int32), Az p l e ({ frames := 15, cells := P1 + 22, slots := P2 + 9784, locals := 288 } : Room) (s.setVm vm11) m #[(.int i0), (.int i1), (.int i2), (.int i3), (.long i4), (.long i5)] below meth c n0 T111 h110 ((fC s.vm - fC vm11) + 1) ((fS s.vm - fS vm11) + 88) → Keep h0 h110 [] → Arv Z h110 a1 k2 .char (88 : Int32) (Ce q0) (.int 0) → (Bc (Fm o) (([] : List Int32) ++ [y15]) q0) → (o = 1 ∨ o = 0) → Aj p e below (Dj s n0 Z Br Cw (fun v h => v = some (.int 1)) 22 9784) T111 (mkF m 230 #[Aa i0, Aa i1, Aa i2, Aa i3, .val (.long i4), .second, .val (.long i5), .second, Ab a1, Aa (Int32.ofNat q0.length), Aa ((Jvm.Free.XT.ushr i0 (13 : Int32)) &&& (3 : Int32)), Aa o] []) := by
    intro T111 h110 q0 o S112 K113 bA1 hx ho
    have hlq := own_l9 hx
    simp only [List.length_append, List.length_cons, List.length_nil] at hlq
    refine Ac C S112 [(230, .aload 8, 2), (232, .iload 9, 2), (234, .bipush 91, 2)] 236 #[Aa i0, Aa i1, Aa i2, Aa i3, .val (.long i4), .second, .val (.long i5), .second, Ab a1, Aa (Int32.ofNat q0.length), Aa ((Jvm.Free.XT.ushr i0 (13 : Int32)) &&& (3 : Int32)), Aa o] [.int 91, .int (Int32.ofNat q0.length), .ref a1] ?_
    have f114 : n0 ≤ h110.size := (Nat.le_trans z0 K113.1)
    refine Bj C S112 hP1 hP2 hw 8 9 2 10 (Ap l Z a0 hw a1 _ q0 91 h110 n0 f114 g23 bA1 (by (try simp only [List.length_append, List.length_cons, List.length_nil]); omega) Aq) 0 [.ref a1, .int (Int32.ofNat q0.length), .int 91] [] Am ?_
    rintro T117 h118 v119 L120 S121 ⟨⟨rfl, K115, f116⟩, -⟩
    refine Ac C S121 [(239, .istore 9, 2), (241, .aload 8, 2), (243, .iload 9, 2), (245, .lload 4, 2)] 247 #[Aa i0, Aa i1, Aa i2, Aa i3, .val (.long i4), .second, .val (.long i5), .second, Ab a1, Aa (Int32.ofNat (q0 ++ [(91 : Int32)]).length), Aa ((Jvm.Free.XT.ushr i0 (13 : Int32)) &&& (3 : Int32)), Aa o] [.long i4, .int (Int32.ofNat (q0 ++ [(91 : Int32)]).length), .ref a1] ?_
    have f122 : n0 ≤ h118.size := (Nat.le_trans f114 K115.1)
    refine Bj C S121 hP1 hP2 hw 11 12 2 13 (own_bnu l Z a0 hw a1 _ (q0 ++ [(91 : Int32)]) i4 h118 n0 f122 g23 f116 (by (try simp only [List.length_append, List.length_cons, List.length_nil]); omega)) 0 [.ref a1, .int (Int32.ofNat (q0 ++ [(91 : Int32)]).length), .long i4] [] own_pd38 ?_
    rintro T127 h128 v129 L130 S131 ⟨⟨y123, rfl, K124, f125, p126⟩, -⟩
    have hl132 := own_l3 p126
    have hl133 := by simpa only [List.length_append, List.length_cons, List.length_nil] using hl132
    refine Ac C S131 [(250, .istore 9, 2), (252, .aload 8, 2), (254, .iload 9, 2), (256, .bipush 44, 2)] 258 #[Aa i0, Aa i1, Aa i2, Aa i3, .val (.long i4), .second, .val (.long i5), .second, Ab a1, Aa (Int32.ofNat y123.length), Aa ((Jvm.Free.XT.ushr i0 (13 : Int32)) &&& (3 : Int32)), Aa o] [.int 44, .int (Int32.ofNat y123.length), .ref a1] ?_
    have f134 : n0 ≤ h128.size := (Nat.le_trans f122 K124.1)
    refine Bj C S131 hP1 hP2 hw 8 9 2 10 (Ap l Z a0 hw a1 _ y123 44 h128 n0 f134 g23 f125 (by (try simp only [List.length_append, List.length_cons, List.length_nil]); omega) Aq) 0 [.ref a1, .int (Int32.ofNat y123.length), .int 44] [] Am ?_
    rintro T137 h138 v139 L140 S141 ⟨⟨rfl, K135, f136⟩, -⟩
    refine Ac C S141 [(261, .istore 9, 2), (263, .aload 8, 2), (265, .iload 9, 2), (267, .iload_n 0, 1), (268, .bipush 15, 2), (270, .iushr, 1)] 271 #[Aa i0, Aa i1, Aa i2, Aa i3, .val (.long i4), .second, .val (.long i5), .second, Ab a1, Aa (Int32.ofNat (y123 ++ [(44 : Int32)]).length), Aa ((Jvm.Free.XT.ushr i0 (13 : Int32)) &&& (3 : Int32)), Aa o] [.int (Jvm.Free.XT.ushr i0 (15 : Int32)), .int (Int32.ofNat (y123 ++ [(44 : Int32)]).length), .ref a1] ?_
    have f142 : n0 ≤ h138.size := (Nat.le_trans f134 K135.1)
    refine Bj C S141 hP1 hP2 hw 5 6 2 7 (Fg l Z a0 hw (Jvm.Free.XT.ushr i0 (15 : Int32)) h138 n0 f142) 2 [.int (Jvm.Free.XT.ushr i0 (15 : Int32))] [.int (Int32.ofNat (y123 ++ [(44 : Int32)]).length), .ref a1] Ct ?_
    rintro T146 h147 v148 L149 S150 ⟨⟨y143, rfl, e144, p145⟩, -⟩
    rw [e144] at S150; clear e144
    refine Bj C S150 hP1 hP2 hw 8 9 2 10 (Ap l Z a0 hw a1 _ (y123 ++ [(44 : Int32)]) y143 h138 n0 f142 g23 f136 (by (try simp only [List.length_append, List.length_cons, List.length_nil]); omega) p145.cr) 0 [.ref a1, .int (Int32.ofNat (y123 ++ [(44 : Int32)]).length), .int y143] [] Am ?_
    rintro T153 h154 v155 L156 S157 ⟨⟨rfl, K151, f152⟩, -⟩
    refine Ac C S157 [(277, .istore 9, 2), (279, .aload 8, 2), (281, .iload 9, 2), (283, .iload_n 1, 1), (284, .iload_n 2, 1), (285, .lload 6, 2)] 287 #[Aa i0, Aa i1, Aa i2, Aa i3, .val (.long i4), .second, .val (.long i5), .second, Ab a1, Aa (Int32.ofNat ((y123 ++ [(44 : Int32)]) ++ [y143]).length), Aa ((Jvm.Free.XT.ushr i0 (13 : Int32)) &&& (3 : Int32)), Aa o] [.long i5, .int i2, .int i1, .int (Int32.ofNat ((y123 ++ [(44 : Int32)]) ++ [y143]).length), .ref a1] ?_
    have f158 : n0 ≤ h154.size := (Nat.le_trans f142 K151.1)
    refine Bj C S157 hP1 hP2 hw 19 20 2 21 (own_str l Z a0 hw a1 _ ((y123 ++ [(44 : Int32)]) ++ [y143]) i1 i2 i5 h154 n0 f158 g23 f152 (by (try simp only [List.length_append, List.length_cons, List.length_nil]); omega)) 0 [.ref a1, .int (Int32.ofNat ((y123 ++ [(44 : Int32)]) ++ [y143]).length), .int i1, .int i2, .long i5] [] own_pd39 ?_
    rintro T163 h164 v165 L166 S167 ⟨⟨y159, rfl, K160, f161, p162⟩, -⟩
    have hl168 := own_l6 p162
    have hl169 := by simpa only [List.length_append, List.length_cons, List.length_nil] using hl168
    refine Ac C S167 [(290, .istore 9, 2), (292, .aload 8, 2), (294, .iload 9, 2), (296, .bipush 44, 2)] 298 #[Aa i0, Aa i1, Aa i2, Aa i3, .val (.long i4), .second, .val (.long i5), .second, Ab a1, Aa (Int32.ofNat y159.length), Aa ((Jvm.Free.XT.ushr i0 (13 : Int32)) &&& (3 : Int32)), Aa o] [.int 44, .int (Int32.ofNat y159.length), .ref a1] ?_
    have f170 : n0 ≤ h164.size := (Nat.le_trans f158 K160.1)
    refine Bj C S167 hP1 hP2 hw 8 9 2 10 (Ap l Z a0 hw a1 _ y159 44 h164 n0 f170 g23 f161 (by (try simp only [List.length_append, List.length_cons, List.length_nil]); omega) Aq) 0 [.ref a1, .int (Int32.ofNat y159.length), .int 44] [] Am ?_
    rintro T173 h174 v175 L176 S177 ⟨⟨rfl, K171, f172⟩, -⟩
    refine Ac C S177 [(301, .istore 9, 2), (303, .aload 8, 2), (305, .iload 9, 2), (307, .iload_n 0, 1), (308, .bipush 7, 2), (310, .iushr, 1)] 311 #[Aa i0, Aa i1, Aa i2, Aa i3, .val (.long i4), .second, .val (.long i5), .second, Ab a1, Aa (Int32.ofNat (y159 ++ [(44 : Int32)]).length), Aa ((Jvm.Free.XT.ushr i0 (13 : Int32)) &&& (3 : Int32)), Aa o] [.int (Jvm.Free.XT.ushr i0 (7 : Int32)), .int (Int32.ofNat (y159 ++ [(44 : Int32)]).length), .ref a1] ?_
    have f178 : n0 ≤ h174.size := (Nat.le_trans f170 K171.1)
    refine Bj C S177 hP1 hP2 hw 29 30 2 31 (own_bli l Z a0 hw a1 _ (y159 ++ [(44 : Int32)]) (Jvm.Free.XT.ushr i0 (7 : Int32)) h174 n0 f178 g23 f172 (by (try simp only [List.length_append, List.length_cons, List.length_nil]); omega)) 0 [.ref a1, .int (Int32.ofNat (y159 ++ [(44 : Int32)]).length), .int (Jvm.Free.XT.ushr i0 (7 : Int32))] [] own_pd40 ?_
    rintro T183 h184 v185 L186 S187 ⟨⟨y179, rfl, K180, f181, p182⟩, -⟩
    have hl188 := own_l7 p182
    have hl189 := by simpa only [List.length_append, List.length_cons, List.length_nil] using hl188
    refine Ac C S187 [(314, .istore 9, 2), (316, .aload 8, 2), (318, .iload 9, 2), (320, .bipush 44, 2)] 322 #[Aa i0, Aa i1, Aa i2, Aa i3, .val (.long i4), .second, .val (.long i5), .second, Ab a1, Aa (Int32.ofNat y179.length), Aa ((Jvm.Free.XT.ushr i0 (13 : Int32)) &&& (3 : Int32)), Aa o] [.int 44, .int (Int32.ofNat y179.length), .ref a1] ?_
    have f190 : n0 ≤ h184.size := (Nat.le_trans f178 K180.1)
    refine Bj C S187 hP1 hP2 hw 8 9 2 10 (Ap l Z a0 hw a1 _ y179 44 h184 n0 f190 g23 f181 (by (try simp only [List.length_append, List.length_cons, List.length_nil]); omega) Aq) 0 [.ref a1, .int (Int32.ofNat y179.length), .int 44] [] Am ?_
    rintro T193 h194 v195 L196 S197 ⟨⟨rfl, K191, f192⟩, -⟩
    refine Ac C S197 [(325, .istore 9, 2), (327, .aload 8, 2), (329, .iload 9, 2), (331, .iload_n 0, 1), (332, .bipush 9, 2), (334, .iushr, 1)] 335 #[Aa i0, Aa i1, Aa i2, Aa i3, .val (.long i4), .second, .val (.long i5), .second, Ab a1, Aa (Int32.ofNat (y179 ++ [(44 : Int32)]).length), Aa ((Jvm.Free.XT.ushr i0 (13 : Int32)) &&& (3 : Int32)), Aa o] [.int (Jvm.Free.XT.ushr i0 (9 : Int32)), .int (Int32.ofNat (y179 ++ [(44 : Int32)]).length), .ref a1] ?_
    have f198 : n0 ≤ h194.size := (Nat.le_trans f190 K191.1)
    refine Bj C S197 hP1 hP2 hw 32 33 2 34 (own_bco l Z a0 hw a1 _ (y179 ++ [(44 : Int32)]) (Jvm.Free.XT.ushr i0 (9 : Int32)) h194 n0 f198 g23 f192 (by (try simp only [List.length_append, List.length_cons, List.length_nil]); omega)) 0 [.ref a1, .int (Int32.ofNat (y179 ++ [(44 : Int32)]).length), .int (Jvm.Free.XT.ushr i0 (9 : Int32))] [] own_pd40 ?_
    rintro T203 h204 v205 L206 S207 ⟨⟨y199, rfl, K200, f201, p202⟩, -⟩
    have hl208 := own_l8 p202
    have hl209 := by simpa only [List.length_append, List.length_cons, List.length_nil] using hl208
    refine Ac C S207 [(338, .istore 9, 2), (340, .aload 8, 2), (342, .iload 9, 2), (344, .bipush 93, 2)] 346 #[Aa i0, Aa i1, Aa i2, Aa i3, .val (.long i4), .second, .val (.long i5), .second, Ab a1, Aa (Int32.ofNat y199.length), Aa ((Jvm.Free.XT.ushr i0 (13 : Int32)) &&& (3 : Int32)), Aa o] [.int 93, .int (Int32.ofNat y199.length), .ref a1] ?_
    have f210 : n0 ≤ h204.size := (Nat.le_trans f198 K200.1)
    refine Bj C S207 hP1 hP2 hw 8 9 2 10 (Ap l Z a0 hw a1 _ y199 93 h204 n0 f210 g23 f201 (by (try simp only [List.length_append, List.length_cons, List.length_nil]); omega) Aq) 0 [.ref a1, .int (Int32.ofNat y199.length), .int 93] [] Am ?_
    rintro T213 h214 v215 L216 S217 ⟨⟨rfl, K211, f212⟩, -⟩
    refine Ac C S217 [(349, .istore 9, 2), (351, .aload 8, 2), (353, .iload 9, 2), (355, .iload 11, 2)] 357 #[Aa i0, Aa i1, Aa i2, Aa i3, .val (.long i4), .second, .val (.long i5), .second, Ab a1, Aa (Int32.ofNat (y199 ++ [(93 : Int32)]).length), Aa ((Jvm.Free.XT.ushr i0 (13 : Int32)) &&& (3 : Int32)), Aa o] [.int o, .int (Int32.ofNat (y199 ++ [(93 : Int32)]).length), .ref a1] ?_
    refine Bv C S217 .eq 8 365 (fun (q218 : o = (0 : Int32)) => ?_) (fun (q219 : ¬ o = (0 : Int32)) => ?_)
    · refine Ac C S217 [(365, .bipush 93, 2)] 367 #[Aa i0, Aa i1, Aa i2, Aa i3, .val (.long i4), .second, .val (.long i5), .second, Ab a1, Aa (Int32.ofNat (y199 ++ [(93 : Int32)]).length), Aa ((Jvm.Free.XT.ushr i0 (13 : Int32)) &&& (3 : Int32)), Aa o] [.int 93, .int (Int32.ofNat (y199 ++ [(93 : Int32)]).length), .ref a1] ?_
      have f220 : n0 ≤ h214.size := (Nat.le_trans f210 K211.1)
      refine Bj C S217 hP1 hP2 hw 8 9 2 10 (Ap l Z a0 hw a1 _ (y199 ++ [(93 : Int32)]) 93 h214 n0 f220 g23 f212 (by (try simp only [List.length_append, List.length_cons, List.length_nil]); omega) Aq) 0 [.ref a1, .int (Int32.ofNat (y199 ++ [(93 : Int32)]).length), .int 93] [] Am ?_
      rintro T223 h224 v225 L226 S227 ⟨⟨rfl, K221, f222⟩, -⟩
      have o228 : h0.size ≤ a1 := Nat.le_trans (Nat.le_refl _) o35
      refine Ac C S227 [(370, .istore 9, 2)] 372 #[Aa i0, Aa i1, Aa i2, Aa i3, .val (.long i4), .second, .val (.long i5), .second, Ab a1, Aa (Int32.ofNat ((y199 ++ [(93 : Int32)]) ++ [(93 : Int32)]).length), Aa ((Jvm.Free.XT.ushr i0 (13 : Int32)) &&& (3 : Int32)), Aa o] [] ?_
      exact J372 T223 h224 ((y199 ++ [(93 : Int32)]) ++ [(93 : Int32)]) _ S227 (((((((((((((Keep.refl _ _).trans K113 all0).trans K115 (allS (Or.inr o228) all0)).trans K124 (allS (Or.inr o228) all0)).trans K135 (allS (Or.inr o228) all0)).trans K151 (allS (Or.inr o228) all0)).trans K160 (allS (Or.inr o228) all0)).trans K171 (allS (Or.inr o228) all0)).trans K180 (allS (Or.inr o228) all0)).trans K191 (allS (Or.inr o228) all0)).trans K200 (allS (Or.inr o228) all0)).trans K211 (allS (Or.inr o228) all0)).trans K221 (allS (Or.inr o228) all0)) f222 (own_v0x hx p126 p145 p162 p182 p202 (Or.inr ⟨q218, rfl⟩))
    · refine Ac C S217 [(360, .bipush 125, 2), (362, .goto 5, 3)] 367 #[Aa i0, Aa i1, Aa i2, Aa i3, .val (.long i4), .second, .val (.long i5), .second, Ab a1, Aa (Int32.ofNat (y199 ++ [(93 : Int32)]).length), Aa ((Jvm.Free.XT.ushr i0 (13 : Int32)) &&& (3 : Int32)), Aa o] [.int 125, .int (Int32.ofNat (y199 ++ [(93 : Int32)]).length), .ref a1] ?_
      have f229 : n0 ≤ h214.size := (Nat.le_trans f210 K211.1)
      refine Bj C S217 hP1 hP2 hw 8 9 2 10 (Ap l Z a0 hw a1 _ (y199 ++ [(93 : Int32)]) 125 h214 n0 f229 g23 f212 (by (try simp only [List.length_append, List.length_cons, List.length_nil]); omega) Aq) 0 [.ref a1, .int (Int32.ofNat (y199 ++ [(93 : Int32)]).length), .int 125] [] Am ?_
      rintro T232 h233 v234 L235 S236 ⟨⟨rfl, K230, f231⟩, -⟩
      have o237 : h0.size ≤ a1 := Nat.le_trans (Nat.le_refl _) o35
      refine Ac C S236 [(370, .istore 9, 2)] 372 #[Aa i0, Aa i1, Aa i2, Aa i3, .val (.long i4), .second, .val (.long i5), .second, Ab a1, Aa (Int32.ofNat ((y199 ++ [(93 : Int32)]) ++ [(125 : Int32)]).length), Aa ((Jvm.Free.XT.ushr i0 (13 : Int32)) &&& (3 : Int32)), Aa o] [] ?_
      exact J372 T232 h233 ((y199 ++ [(93 : Int32)]) ++ [(125 : Int32)]) _ S236 (((((((((((((Keep.refl _ _).trans K113 all0).trans K115 (allS (Or.inr o237) all0)).trans K124 (allS (Or.inr o237) all0)).trans K135 (allS (Or.inr o237) all0)).trans K151 (allS (Or.inr o237) all0)).trans K160 (allS (Or.inr o237) all0)).trans K171 (allS (Or.inr o237) all0)).trans K180 (allS (Or.inr o237) all0)).trans K191 (allS (Or.inr o237) all0)).trans K200 (allS (Or.inr o237) all0)).trans K211 (allS (Or.inr o237) all0)).trans K230 (allS (Or.inr o237) all0)) f231 (own_v0x hx p126 p145 p162 p182 p202 (Or.inl ⟨ho.resolve_right q219, rfl⟩))
  refine Ac C S30 [(29, .iload 10, 2), (31, .iconst 1, 1)] 32 #[Aa i0, Aa i1, Aa i2, Aa i3, .val (.long i4), .second, .val (.long i5), .second, Ab a1, Aa (Int32.ofNat (([] : List Int32) ++ [y15]).length), Aa ((Jvm.Free.XT.ushr i0 (13 : Int32)) &&& (3 : Int32)), .unset] [.int 1, .int ((Jvm.Free.XT.ushr i0 (13 : Int32)) &&& (3 : Int32))] ?_
  refine Ao C S30 .ne 17 49 (fun (q238 : ¬ ((Jvm.Free.XT.ushr i0 (13 : Int32)) &&& (3 : Int32)) = (1 : Int32)) => ?_) (fun (q239 : ((Jvm.Free.XT.ushr i0 (13 : Int32)) &&& (3 : Int32)) = (1 : Int32)) => ?_)
  · refine Ac C S30 [(49, .iload 10, 2), (51, .iconst 2, 1)] 52 #[Aa i0, Aa i1, Aa i2, Aa i3, .val (.long i4), .second, .val (.long i5), .second, Ab a1, Aa (Int32.ofNat (([] : List Int32) ++ [y15]).length), Aa ((Jvm.Free.XT.ushr i0 (13 : Int32)) &&& (3 : Int32)), .unset] [.int 2, .int ((Jvm.Free.XT.ushr i0 (13 : Int32)) &&& (3 : Int32))] ?_
    refine Ao C S30 .ne 19 71 (fun (q240 : ¬ ((Jvm.Free.XT.ushr i0 (13 : Int32)) &&& (3 : Int32)) = (2 : Int32)) => ?_) (fun (q241 : ((Jvm.Free.XT.ushr i0 (13 : Int32)) &&& (3 : Int32)) = (2 : Int32)) => ?_)
    · refine Ac C S30 [(71, .iload 10, 2), (73, .iconst 3, 1)] 74 #[Aa i0, Aa i1, Aa i2, Aa i3, .val (.long i4), .second, .val (.long i5), .second, Ab a1, Aa (Int32.ofNat (([] : List Int32) ++ [y15]).length), Aa ((Jvm.Free.XT.ushr i0 (13 : Int32)) &&& (3 : Int32)), .unset] [.int 3, .int ((Jvm.Free.XT.ushr i0 (13 : Int32)) &&& (3 : Int32))] ?_
      refine Ao C S30 .ne 19 93 (fun (q242 : ¬ ((Jvm.Free.XT.ushr i0 (13 : Int32)) &&& (3 : Int32)) = (3 : Int32)) => ?_) (fun (q243 : ((Jvm.Free.XT.ushr i0 (13 : Int32)) &&& (3 : Int32)) = (3 : Int32)) => ?_)
      · refine Ac C S30 [(93, .iload_n 0, 1), (94, .iconst 4, 1), (95, .iand, 1)] 96 #[Aa i0, Aa i1, Aa i2, Aa i3, .val (.long i4), .second, .val (.long i5), .second, Ab a1, Aa (Int32.ofNat (([] : List Int32) ++ [y15]).length), Aa ((Jvm.Free.XT.ushr i0 (13 : Int32)) &&& (3 : Int32)), .unset] [.int (i0 &&& (4 : Int32))] ?_
        refine Bv C S30 .eq 7 103 (fun (q244 : (i0 &&& (4 : Int32)) = (0 : Int32)) => ?_) (fun (q245 : ¬ (i0 &&& (4 : Int32)) = (0 : Int32)) => ?_)
        · refine Ac C S30 [(103, .iconst 0, 1), (104, .istore 11, 2), (106, .iload 11, 2), (108, .ifCond .eq 96, 3), (204, .aload 8, 2), (206, .iload 9, 2), (208, .bipush 91, 2)] 210 #[Aa i0, Aa i1, Aa i2, Aa i3, .val (.long i4), .second, .val (.long i5), .second, Ab a1, Aa (Int32.ofNat (([] : List Int32) ++ [y15]).length), Aa ((Jvm.Free.XT.ushr i0 (13 : Int32)) &&& (3 : Int32)), Aa 0] [.int 91, .int (Int32.ofNat (([] : List Int32) ++ [y15]).length), .ref a1] ?_
          have f246 : n0 ≤ h27.size := (Nat.le_trans f14 K24.1)
          refine Bj C S30 hP1 hP2 hw 8 9 2 10 (Ap l Z a0 hw a1 _ (([] : List Int32) ++ [y15]) 91 h27 n0 f246 g23 f25 (by (try simp only [List.length_append, List.length_cons, List.length_nil]); omega) Aq) 0 [.ref a1, .int (Int32.ofNat (([] : List Int32) ++ [y15]).length), .int 91] [] Am ?_
          rintro T249 h250 v251 L252 S253 ⟨⟨rfl, K247, f248⟩, -⟩
          refine Ac C S253 [(213, .istore 9, 2), (215, .aload 8, 2), (217, .iload 9, 2), (219, .iload_n 0, 1), (220, .iconst 3, 1), (221, .iushr, 1)] 222 #[Aa i0, Aa i1, Aa i2, Aa i3, .val (.long i4), .second, .val (.long i5), .second, Ab a1, Aa (Int32.ofNat ((([] : List Int32) ++ [y15]) ++ [(91 : Int32)]).length), Aa ((Jvm.Free.XT.ushr i0 (13 : Int32)) &&& (3 : Int32)), Aa 0] [.int (Jvm.Free.XT.ushr i0 (3 : Int32)), .int (Int32.ofNat ((([] : List Int32) ++ [y15]) ++ [(91 : Int32)]).length), .ref a1] ?_
          have f254 : n0 ≤ h250.size := (Nat.le_trans f246 K247.1)
          refine Bj C S253 hP1 hP2 hw 5 6 2 7 (Fg l Z a0 hw (Jvm.Free.XT.ushr i0 (3 : Int32)) h250 n0 f254) 2 [.int (Jvm.Free.XT.ushr i0 (3 : Int32))] [.int (Int32.ofNat ((([] : List Int32) ++ [y15]) ++ [(91 : Int32)]).length), .ref a1] Ct ?_
          rintro T258 h259 v260 L261 S262 ⟨⟨y255, rfl, e256, p257⟩, -⟩
          rw [e256] at S262; clear e256
          refine Bj C S262 hP1 hP2 hw 8 9 2 10 (Ap l Z a0 hw a1 _ ((([] : List Int32) ++ [y15]) ++ [(91 : Int32)]) y255 h250 n0 f254 g23 f248 (by (try simp only [List.length_append, List.length_cons, List.length_nil]); omega) p257.cr) 0 [.ref a1, .int (Int32.ofNat ((([] : List Int32) ++ [y15]) ++ [(91 : Int32)]).length), .int y255] [] Am ?_
          rintro T265 h266 v267 L268 S269 ⟨⟨rfl, K263, f264⟩, -⟩
          refine Ac C S269 [(228, .istore 9, 2)] 230 #[Aa i0, Aa i1, Aa i2, Aa i3, .val (.long i4), .second, .val (.long i5), .second, Ab a1, Aa (Int32.ofNat (((([] : List Int32) ++ [y15]) ++ [(91 : Int32)]) ++ [y255]).length), Aa ((Jvm.Free.XT.ushr i0 (13 : Int32)) &&& (3 : Int32)), Aa 0] [] ?_
          exact J230 T265 h266 (((([] : List Int32) ++ [y15]) ++ [(91 : Int32)]) ++ [y255]) (0 : Int32) S269 (((((Keep.refl _ _).trans K4 all0).trans K24 (allS (Or.inr o35) all0)).trans K247 (allS (Or.inr o35) all0)).trans K263 (allS (Or.inr o35) all0)) f264 (own_op0 p257) (Or.inr rfl)
        · refine Ac C S30 [(99, .iconst 1, 1), (100, .goto 4, 3), (104, .istore 11, 2), (106, .iload 11, 2), (108, .ifCond .eq 96, 3), (111, .aload 8, 2), (113, .iload 9, 2), (115, .bipush 123, 2)] 117 #[Aa i0, Aa i1, Aa i2, Aa i3, .val (.long i4), .second, .val (.long i5), .second, Ab a1, Aa (Int32.ofNat (([] : List Int32) ++ [y15]).length), Aa ((Jvm.Free.XT.ushr i0 (13 : Int32)) &&& (3 : Int32)), Aa 1] [.int 123, .int (Int32.ofNat (([] : List Int32) ++ [y15]).length), .ref a1] ?_
          have f270 : n0 ≤ h27.size := (Nat.le_trans f14 K24.1)
          refine Bj C S30 hP1 hP2 hw 8 9 2 10 (Ap l Z a0 hw a1 _ (([] : List Int32) ++ [y15]) 123 h27 n0 f270 g23 f25 (by (try simp only [List.length_append, List.length_cons, List.length_nil]); omega) Aq) 0 [.ref a1, .int (Int32.ofNat (([] : List Int32) ++ [y15]).length), .int 123] [] Am ?_
          rintro T273 h274 v275 L276 S277 ⟨⟨rfl, K271, f272⟩, -⟩
          refine Ac C S277 [(120, .istore 9, 2), (122, .aload 8, 2), (124, .iload 9, 2), (126, .iload_n 0, 1), (127, .iconst 3, 1), (128, .iushr, 1)] 129 #[Aa i0, Aa i1, Aa i2, Aa i3, .val (.long i4), .second, .val (.long i5), .second, Ab a1, Aa (Int32.ofNat ((([] : List Int32) ++ [y15]) ++ [(123 : Int32)]).length), Aa ((Jvm.Free.XT.ushr i0 (13 : Int32)) &&& (3 : Int32)), Aa 1] [.int (Jvm.Free.XT.ushr i0 (3 : Int32)), .int (Int32.ofNat ((([] : List Int32) ++ [y15]) ++ [(123 : Int32)]).length), .ref a1] ?_
          have f278 : n0 ≤ h274.size := (Nat.le_trans f270 K271.1)
          refine Bj C S277 hP1 hP2 hw 5 6 2 7 (Fg l Z a0 hw (Jvm.Free.XT.ushr i0 (3 : Int32)) h274 n0 f278) 2 [.int (Jvm.Free.XT.ushr i0 (3 : Int32))] [.int (Int32.ofNat ((([] : List Int32) ++ [y15]) ++ [(123 : Int32)]).length), .ref a1] Ct ?_
          rintro T282 h283 v284 L285 S286 ⟨⟨y279, rfl, e280, p281⟩, -⟩
          rw [e280] at S286; clear e280
          refine Bj C S286 hP1 hP2 hw 8 9 2 10 (Ap l Z a0 hw a1 _ ((([] : List Int32) ++ [y15]) ++ [(123 : Int32)]) y279 h274 n0 f278 g23 f272 (by (try simp only [List.length_append, List.length_cons, List.length_nil]); omega) p281.cr) 0 [.ref a1, .int (Int32.ofNat ((([] : List Int32) ++ [y15]) ++ [(123 : Int32)]).length), .int y279] [] Am ?_
          rintro T289 h290 v291 L292 S293 ⟨⟨rfl, K287, f288⟩, -⟩
          refine Ac C S293 [(135, .istore 9, 2), (137, .aload 8, 2), (139, .iload 9, 2), (141, .bipush 34, 2)] 143 #[Aa i0, Aa i1, Aa i2, Aa i3, .val (.long i4), .second, .val (.long i5), .second, Ab a1, Aa (Int32.ofNat (((([] : List Int32) ++ [y15]) ++ [(123 : Int32)]) ++ [y279]).length), Aa ((Jvm.Free.XT.ushr i0 (13 : Int32)) &&& (3 : Int32)), Aa 1] [.int 34, .int (Int32.ofNat (((([] : List Int32) ++ [y15]) ++ [(123 : Int32)]) ++ [y279]).length), .ref a1] ?_
          have f294 : n0 ≤ h290.size := (Nat.le_trans f278 K287.1)
          refine Bj C S293 hP1 hP2 hw 8 9 2 10 (Ap l Z a0 hw a1 _ (((([] : List Int32) ++ [y15]) ++ [(123 : Int32)]) ++ [y279]) 34 h290 n0 f294 g23 f288 (by (try simp only [List.length_append, List.length_cons, List.length_nil]); omega) Aq) 0 [.ref a1, .int (Int32.ofNat (((([] : List Int32) ++ [y15]) ++ [(123 : Int32)]) ++ [y279]).length), .int 34] [] Am ?_
          rintro T297 h298 v299 L300 S301 ⟨⟨rfl, K295, f296⟩, -⟩
          refine Ac C S301 [(146, .istore 9, 2), (148, .aload 8, 2), (150, .iload 9, 2), (152, .iload_n 3, 1), (153, .lload 6, 2), (155, .bipush 16, 2), (157, .lushr, 1), (158, .l2i, 1)] 159 #[Aa i0, Aa i1, Aa i2, Aa i3, .val (.long i4), .second, .val (.long i5), .second, Ab a1, Aa (Int32.ofNat ((((([] : List Int32) ++ [y15]) ++ [(123 : Int32)]) ++ [y279]) ++ [(34 : Int32)]).length), Aa ((Jvm.Free.XT.ushr i0 (13 : Int32)) &&& (3 : Int32)), Aa 1] [.int ((Jvm.Free.XT.ushrL i5 (16 : Int32)).toInt32), .int i3, .int (Int32.ofNat ((((([] : List Int32) ++ [y15]) ++ [(123 : Int32)]) ++ [y279]) ++ [(34 : Int32)]).length), .ref a1] ?_
          have f302 : n0 ≤ h298.size := (Nat.le_trans f294 K295.1)
          refine Bj C S301 hP1 hP2 hw 22 23 2 24 (own_unt l Z a0 hw a1 _ ((((([] : List Int32) ++ [y15]) ++ [(123 : Int32)]) ++ [y279]) ++ [(34 : Int32)]) i3 ((Jvm.Free.XT.ushrL i5 (16 : Int32)).toInt32) h298 n0 f302 g23 f296 (by (try simp only [List.length_append, List.length_cons, List.length_nil]); omega)) 0 [.ref a1, .int (Int32.ofNat ((((([] : List Int32) ++ [y15]) ++ [(123 : Int32)]) ++ [y279]) ++ [(34 : Int32)]).length), .int i3, .int ((Jvm.Free.XT.ushrL i5 (16 : Int32)).toInt32)] [] Ef ?_
          rintro T307 h308 v309 L310 S311 ⟨⟨y303, rfl, K304, f305, p306⟩, -⟩
          have hl312 := own_l5 p306
          have hl313 := by simpa only [List.length_append, List.length_cons, List.length_nil] using hl312
          refine Ac C S311 [(162, .istore 9, 2), (164, .aload 8, 2), (166, .iload 9, 2), (168, .bipush 34, 2)] 170 #[Aa i0, Aa i1, Aa i2, Aa i3, .val (.long i4), .second, .val (.long i5), .second, Ab a1, Aa (Int32.ofNat y303.length), Aa ((Jvm.Free.XT.ushr i0 (13 : Int32)) &&& (3 : Int32)), Aa 1] [.int 34, .int (Int32.ofNat y303.length), .ref a1] ?_
          have f314 : n0 ≤ h308.size := (Nat.le_trans f302 K304.1)
          refine Bj C S311 hP1 hP2 hw 8 9 2 10 (Ap l Z a0 hw a1 _ y303 34 h308 n0 f314 g23 f305 (by (try simp only [List.length_append, List.length_cons, List.length_nil]); omega) Aq) 0 [.ref a1, .int (Int32.ofNat y303.length), .int 34] [] Am ?_
          rintro T317 h318 v319 L320 S321 ⟨⟨rfl, K315, f316⟩, -⟩
          refine Ac C S321 [(173, .istore 9, 2), (175, .aload 8, 2), (177, .iload 9, 2), (179, .iload_n 0, 1), (180, .iconst 5, 1), (181, .iushr, 1)] 182 #[Aa i0, Aa i1, Aa i2, Aa i3, .val (.long i4), .second, .val (.long i5), .second, Ab a1, Aa (Int32.ofNat (y303 ++ [(34 : Int32)]).length), Aa ((Jvm.Free.XT.ushr i0 (13 : Int32)) &&& (3 : Int32)), Aa 1] [.int (Jvm.Free.XT.ushr i0 (5 : Int32)), .int (Int32.ofNat (y303 ++ [(34 : Int32)]).length), .ref a1] ?_
          have f322 : n0 ≤ h318.size := (Nat.le_trans f314 K315.1)
          refine Bj C S321 hP1 hP2 hw 5 6 2 7 (Fg l Z a0 hw (Jvm.Free.XT.ushr i0 (5 : Int32)) h318 n0 f322) 2 [.int (Jvm.Free.XT.ushr i0 (5 : Int32))] [.int (Int32.ofNat (y303 ++ [(34 : Int32)]).length), .ref a1] Ct ?_
          rintro T326 h327 v328 L329 S330 ⟨⟨y323, rfl, e324, p325⟩, -⟩
          rw [e324] at S330; clear e324
          refine Bj C S330 hP1 hP2 hw 8 9 2 10 (Ap l Z a0 hw a1 _ (y303 ++ [(34 : Int32)]) y323 h318 n0 f322 g23 f316 (by (try simp only [List.length_append, List.length_cons, List.length_nil]); omega) p325.cr) 0 [.ref a1, .int (Int32.ofNat (y303 ++ [(34 : Int32)]).length), .int y323] [] Am ?_
          rintro T333 h334 v335 L336 S337 ⟨⟨rfl, K331, f332⟩, -⟩
          refine Ac C S337 [(188, .istore 9, 2), (190, .aload 8, 2), (192, .iload 9, 2), (194, .bipush 58, 2)] 196 #[Aa i0, Aa i1, Aa i2, Aa i3, .val (.long i4), .second, .val (.long i5), .second, Ab a1, Aa (Int32.ofNat ((y303 ++ [(34 : Int32)]) ++ [y323]).length), Aa ((Jvm.Free.XT.ushr i0 (13 : Int32)) &&& (3 : Int32)), Aa 1] [.int 58, .int (Int32.ofNat ((y303 ++ [(34 : Int32)]) ++ [y323]).length), .ref a1] ?_
          have f338 : n0 ≤ h334.size := (Nat.le_trans f322 K331.1)
          refine Bj C S337 hP1 hP2 hw 8 9 2 10 (Ap l Z a0 hw a1 _ ((y303 ++ [(34 : Int32)]) ++ [y323]) 58 h334 n0 f338 g23 f332 (by (try simp only [List.length_append, List.length_cons, List.length_nil]); omega) Aq) 0 [.ref a1, .int (Int32.ofNat ((y303 ++ [(34 : Int32)]) ++ [y323]).length), .int 58] [] Am ?_
          rintro T341 h342 v343 L344 S345 ⟨⟨rfl, K339, f340⟩, -⟩
          refine Ac C S345 [(199, .istore 9, 2), (201, .goto 29, 3)] 230 #[Aa i0, Aa i1, Aa i2, Aa i3, .val (.long i4), .second, .val (.long i5), .second, Ab a1, Aa (Int32.ofNat (((y303 ++ [(34 : Int32)]) ++ [y323]) ++ [(58 : Int32)]).length), Aa ((Jvm.Free.XT.ushr i0 (13 : Int32)) &&& (3 : Int32)), Aa 1] [] ?_
          exact J230 T341 h342 (((y303 ++ [(34 : Int32)]) ++ [y323]) ++ [(58 : Int32)]) (1 : Int32) S345 ((((((((((Keep.refl _ _).trans K4 all0).trans K24 (allS (Or.inr o35) all0)).trans K271 (allS (Or.inr o35) all0)).trans K287 (allS (Or.inr o35) all0)).trans K295 (allS (Or.inr o35) all0)).trans K304 (allS (Or.inr o35) all0)).trans K315 (allS (Or.inr o35) all0)).trans K331 (allS (Or.inr o35) all0)).trans K339 (allS (Or.inr o35) all0)) f340 (own_op1 p306 p281 p325) (Or.inl rfl)
      · refine Ac C S30 [(77, .aload 8, 2), (79, .iload 9, 2), (81, .iload_n 0, 1), (82, .bipush 7, 2), (84, .iushr, 1)] 85 #[Aa i0, Aa i1, Aa i2, Aa i3, .val (.long i4), .second, .val (.long i5), .second, Ab a1, Aa (Int32.ofNat (([] : List Int32) ++ [y15]).length), Aa ((Jvm.Free.XT.ushr i0 (13 : Int32)) &&& (3 : Int32)), .unset] [.int (Jvm.Free.XT.ushr i0 (7 : Int32)), .int (Int32.ofNat (([] : List Int32) ++ [y15]).length), .ref a1] ?_
        have f346 : n0 ≤ h27.size := (Nat.le_trans f14 K24.1)
        refine Bj C S30 hP1 hP2 hw 29 30 2 31 (own_bli l Z a0 hw a1 _ (([] : List Int32) ++ [y15]) (Jvm.Free.XT.ushr i0 (7 : Int32)) h27 n0 f346 g23 f25 (by (try simp only [List.length_append, List.length_cons, List.length_nil]); omega)) 0 [.ref a1, .int (Int32.ofNat (([] : List Int32) ++ [y15]).length), .int (Jvm.Free.XT.ushr i0 (7 : Int32))] [] own_pd40 ?_
        rintro T351 h352 v353 L354 S355 ⟨⟨y347, rfl, K348, f349, p350⟩, -⟩
        have hl356 := own_l7 p350
        have hl357 := by simpa only [List.length_append, List.length_cons, List.length_nil] using hl356
        refine Ac C S355 [(88, .istore 9, 2), (90, .goto 282, 3)] 372 #[Aa i0, Aa i1, Aa i2, Aa i3, .val (.long i4), .second, .val (.long i5), .second, Ab a1, Aa (Int32.ofNat y347.length), Aa ((Jvm.Free.XT.ushr i0 (13 : Int32)) &&& (3 : Int32)), .unset] [] ?_
        exact J372 T351 h352 y347 _ S355 ((((Keep.refl _ _).trans K4 all0).trans K24 (allS (Or.inr o35) all0)).trans K348 (allS (Or.inr o35) all0)) f349 (own_lx p350 (fun _ => own_v3))
    · refine Ac C S30 [(55, .aload 8, 2), (57, .iload 9, 2), (59, .iload_n 1, 1), (60, .iload_n 2, 1), (61, .lload 6, 2)] 63 #[Aa i0, Aa i1, Aa i2, Aa i3, .val (.long i4), .second, .val (.long i5), .second, Ab a1, Aa (Int32.ofNat (([] : List Int32) ++ [y15]).length), Aa ((Jvm.Free.XT.ushr i0 (13 : Int32)) &&& (3 : Int32)), .unset] [.long i5, .int i2, .int i1, .int (Int32.ofNat (([] : List Int32) ++ [y15]).length), .ref a1] ?_
      have f358 : n0 ≤ h27.size := (Nat.le_trans f14 K24.1)
      refine Bj C S30 hP1 hP2 hw 19 20 2 21 (own_str l Z a0 hw a1 _ (([] : List Int32) ++ [y15]) i1 i2 i5 h27 n0 f358 g23 f25 (by (try simp only [List.length_append, List.length_cons, List.length_nil]); omega)) 0 [.ref a1, .int (Int32.ofNat (([] : List Int32) ++ [y15]).length), .int i1, .int i2, .long i5] [] own_pd39 ?_
      rintro T363 h364 v365 L366 S367 ⟨⟨y359, rfl, K360, f361, p362⟩, -⟩
      have hl368 := own_l6 p362
      have hl369 := by simpa only [List.length_append, List.length_cons, List.length_nil] using hl368
      refine Ac C S367 [(66, .istore 9, 2), (68, .goto 304, 3)] 372 #[Aa i0, Aa i1, Aa i2, Aa i3, .val (.long i4), .second, .val (.long i5), .second, Ab a1, Aa (Int32.ofNat y359.length), Aa ((Jvm.Free.XT.ushr i0 (13 : Int32)) &&& (3 : Int32)), .unset] [] ?_
      exact J372 T363 h364 y359 _ S367 ((((Keep.refl _ _).trans K4 all0).trans K24 (allS (Or.inr o35) all0)).trans K360 (allS (Or.inr o35) all0)) f361 (own_lx p362 (fun _ => own_v2))
  · refine Ac C S30 [(35, .aload 8, 2), (37, .iload 9, 2), (39, .lload 4, 2)] 41 #[Aa i0, Aa i1, Aa i2, Aa i3, .val (.long i4), .second, .val (.long i5), .second, Ab a1, Aa (Int32.ofNat (([] : List Int32) ++ [y15]).length), Aa ((Jvm.Free.XT.ushr i0 (13 : Int32)) &&& (3 : Int32)), .unset] [.long i4, .int (Int32.ofNat (([] : List Int32) ++ [y15]).length), .ref a1] ?_
    have f370 : n0 ≤ h27.size := (Nat.le_trans f14 K24.1)
    refine Bj C S30 hP1 hP2 hw 11 12 2 13 (own_bnu l Z a0 hw a1 _ (([] : List Int32) ++ [y15]) i4 h27 n0 f370 g23 f25 (by (try simp only [List.length_append, List.length_cons, List.length_nil]); omega)) 0 [.ref a1, .int (Int32.ofNat (([] : List Int32) ++ [y15]).length), .long i4] [] own_pd38 ?_
    rintro T375 h376 v377 L378 S379 ⟨⟨y371, rfl, K372, f373, p374⟩, -⟩
    have hl380 := own_l3 p374
    have hl381 := by simpa only [List.length_append, List.length_cons, List.length_nil] using hl380
    refine Ac C S379 [(44, .istore 9, 2), (46, .goto 326, 3)] 372 #[Aa i0, Aa i1, Aa i2, Aa i3, .val (.long i4), .second, .val (.long i5), .second, Ab a1, Aa (Int32.ofNat y371.length), Aa ((Jvm.Free.XT.ushr i0 (13 : Int32)) &&& (3 : Int32)), .unset] [] ?_
    exact J372 T375 h376 y371 _ S379 ((((Keep.refl _ _).trans K4 all0).trans K24 (allS (Or.inr o35) all0)).trans K372 (allS (Or.inr o35) all0)) f373 (own_lx p374 (fun _ => own_v1))
theorem own_sAt : ∀ a ∈ Bundle.stringAtoms, a ∈ tables_1 := by decide +kernel
set_option maxRecDepth 65536 in
theorem own_ELok {Z : State} {a0 : Array Value} (hw : ∀ d ∈ tables_1, d.before a0 Z = true) : EW Z a0 Br := (EW.cons (ow hw 68 rfl) (by decide) (EW.cons (ow hw 151 rfl) (by decide) (EW.cons (ow hw 247 rfl) (by decide) (EW.cons (ow hw 339 rfl) (by decide) (EW.cons (ow hw 340 rfl) (by decide) (EW.cons (ow hw 205 rfl) (by decide) (EW.cons (ow hw 210 rfl) (by decide) (EW.cons (ow hw 211 rfl) (by decide) (EW.cons (ow hw 328 rfl) (by decide) EW.nil)))))))))
theorem comes_1 {Post : Tables → Env → Array Value → State → Outcome → State → Prop} (hpost : ∀ tb e args s v u, (limb_1_1.after args s (.returned v) u = true ∧ limb_1_2.after args s (.returned v) u = true ∧ True) → Jvm.D.FramedW s (.returned v) u (Jvm.fieldLocs frame_1_writes args s ++ Jvm.arrayLocs frame_1_arrays args s ++ Jvm.staticLocs frame_1_statics s) 40 10048 → Post tb e args s (.returned v) u) :
    ArmFor flags0 classFile x code maxLocals ret World_1 tables_1 room_1 Calls_1 rest_1 Pre_1 Post := by
  intro l hfl _ _ p e ha hc hk s m args below hf hA hF happ hP
  obtain ⟨hcalls, hrest, hpre⟩ := hP
  obtain ⟨-, -, -, hnamed, -, -, -, hat⟩ := (Spec.applies_iff hf).mp happ
  obtain ⟨hg, hn⟩ := and_e (Cond.before_iff.mp (show (Jvm.Cond.and given_1 narrow_1).before args s = true from hpre))
  obtain ⟨hcount, hk0⟩ := and_e hg
  obtain ⟨ha0, hk1⟩ := and_e hk0
  obtain ⟨ha1, hk2⟩ := and_e hk1
  obtain ⟨ha2, hk3⟩ := and_e hk2
  obtain ⟨ha3, hk4⟩ := and_e hk3
  obtain ⟨ha4, hk5⟩ := and_e hk4
  obtain ⟨w0, w1, w2, w3, w4, w5, rfl⟩ : ∃ w0 w1 w2 w3 w4 w5 : Value, args = #[w0, w1, w2, w3, w4, w5] := by
    have hs : args.size = 6 := by simpa [Cond.value, given_1] using hcount
    obtain ⟨L⟩ := args
    match L, hs with
    | [w0, w1, w2, w3, w4, w5], _ => exact ⟨w0, w1, w2, w3, w4, w5, rfl⟩
  have hw := fun d (hd : d ∈ tables_1) => atoms_spec (ws := Jvm.Cond.code x code maxLocals ret :: tables_1) hat d (List.mem_cons_of_mem _ hd)
  obtain ⟨i0, ei0⟩ := is_v ha0
  obtain rfl : w0 = (.int i0) := Option.some.inj ei0
  obtain ⟨i1, ei1⟩ := is_v ha1
  obtain rfl : w1 = (.int i1) := Option.some.inj ei1
  obtain ⟨i2, ei2⟩ := is_v ha2
  obtain rfl : w2 = (.int i2) := Option.some.inj ei2
  obtain ⟨i3, ei3⟩ := is_v ha3
  obtain rfl : w3 = (.int i3) := Option.some.inj ei3
  obtain ⟨i4, ei4⟩ := isL_v ha4
  obtain rfl : w4 = (.long i4) := Option.some.inj ei4
  obtain ⟨i5, ei5⟩ := isL_v hk5
  obtain rfl : w5 = (.long i5) := Option.some.inj ei5
  obtain ⟨hsets, hown0⟩ := atoms_of _ (rest_1_c_eq ▸ (show rest_1_c.before _ s = true from hrest))
  have nz := not_v (Cond.before_iff.mp (hsets _ (As 2)))
  obtain ⟨g1, eg1⟩ := is_v (Cond.before_iff.mp (hsets _ (As 1)))
  have O2 : Sta s s.heap "java/lang/String" "COMPACT_STRINGS" "Z" (.int g1) := Sta.start eg1 (Or.inl (hsets _ (As 0)))
  obtain ⟨g3, eg3, rg3⟩ := isR_v (Cond.before_iff.mp (hsets _ (As 8)))
  have O4 : Sta s s.heap "jdk/internal/util/Preconditions" "SIOOBE_FORMATTER" "Ljava/util/function/BiFunction;" g3 := Sta.start eg3 (Or.inl (hsets _ (As 7)))
  have P5 : ¬ (g1 = (0 : Int32)) := gotF (Cond.eq_ints eg1 (Term.int_eval (0))) nz
  obtain ⟨yOA, e1OA, e2OA⟩ := Cond.eq_one (hsets _ (As 15))
  obtain rfl : yOA = .int 1 := (Option.some.inj ((Term.int_eval 1).symm.trans e2OA)).symm
  have OA := Sta.start e1OA (Or.inl (hsets _ (As 14)))
  obtain ⟨yOH, e1OH, e2OH⟩ := Cond.eq_one (hsets _ (As 18))
  obtain rfl : yOH = .int 0 := (Option.some.inj ((Term.int_eval 0).symm.trans e2OH)).symm
  have OH := Sta.start e1OH (Or.inl (hsets _ (As 17)))
  obtain ⟨yOL, e1OL, e2OL⟩ := Cond.eq_one (hsets _ (As 21))
  obtain rfl : yOL = .int 8 := (Option.some.inj ((Term.int_eval 8).symm.trans e2OL)).symm
  have OL := Sta.start e1OL (Or.inl (hsets _ (As 20)))
  obtain ⟨yOB, e1OB, e2OB⟩ := Cond.eq_one (hsets _ (As 11))
  obtain rfl : yOB = .int 1 := (Option.some.inj ((Term.int_eval 1).symm.trans e2OB)).symm
  have OB := Sta.start e1OB (Or.inl (hsets _ (As 10)))
  have hEL : EW s _ Br := own_ELok hw
  have wS : ∀ a ∈ Bundle.stringAtoms, a.before _ s = true := fun a ha => hw a (own_sAt a ha)
  have hCH : CHv s Br s.vm s.heap := CHv.start hEL (fun p hp => hcalls.1 p hp) (hsets _ (As 2)) (ow hw 53 rfl) (ow hw 36 rfl)
  have hpC : Ci s Cw s.vm ≤ 18 := own_pts Cw
  have hpS : Cj s Cw s.vm ≤ 264 := own_pts Cw
  obtain ⟨n, o, g1, g2, g3, _, L, kk, nn, rfl, ⟨rfl, N⟩, -, hq, hk1, hk2⟩ := own_law l s _ hw hEL wS  g1 g3  i0 i1 i2 i3 i4 i5 s.heap s.heap.size (Nat.le_refl _) (Old.start s) ⟨O2, O4, P5, rg3, OA, OH, OL, OB⟩ 18 264 tables_1 p e ha hc hk s m _ below hf ((Spec.applies_iff_loose hf).mp happ).1 ⟨rfl, State.Warmed39.refl s, rfl, hCH, all0, hpC, hpS⟩ trivial
  refine ⟨n, _, g1, g2, g3, hpost _ _ _ _ _ _ ⟨Cond.after_iff.mpr rfl, Cond.after_iff.mpr (eq_i res_at (Term.int_eval (1)) rfl), trivial⟩ ⟨hq.1, hq.2.1, hq.2.2.1, (hq.2.2.2.sift fun y hy => Or.inr (N y hy)).mono (by omega) (by omega)⟩⟩
theorem main_1_1 : Claimed_1_1 := comes_1 fun _ _ _ _ _ _ h hF => ⟨h.1, hF⟩
theorem main_1_2 : Claimed_1_2 := comes_1 fun _ _ _ _ _ _ h hF => ⟨h.2.1, hF⟩
end Jvm.Pilot.@@N@@
namespace Jvm.Pilot.@@N@@
open Jvm Jvm.ClassFile Sem Op Lib Jvm.Free Jvm.Stand Jvm.Pilot.@@N@@.Jvm.D
/-! MADE BY PROGRAM (witnessworld.py) out of the Statement's table words and the real class files: 26 classes; the members and pool entries that the words name. The judged class is class 1, her method 1. -/
namespace start1
open Jvm.ClassFile
def u (s : String) : CpInfo := .utf8 (stringToUtf16 s)
/-- a pool by its gaps: so many unusable entries, then the entry; so many at the end -/
def gap : Nat → List CpInfo → List CpInfo
  | 0, r => r
  | n + 1, r => .unusable :: gap n r
def poolList (es : List (Nat × CpInfo)) (last : Nat) : List CpInfo := es.foldr (fun e r => gap e.1 (e.2 :: r)) (gap last [])
def pool (es : List (Nat × CpInfo)) (last : Nat) : Array CpInfo := ⟨poolList es last⟩
def fileOf (pool : Array CpInfo) (this : Nat) (attrs : Array Attribute := #[]) (ms : Array MethodInfo := #[]) (fl : Nat := 33) (sup : Nat := 0) (ifs : Array Nat := #[]) (fds : Array FieldInfo := #[]) : ClassFile where
  minorVersion := 0
  majorVersion := 65
  constantPool := pool
  accessFlags := fl
  thisClass := this
  superClass := sup
  interfaces := ifs
  fields := fds
  methods := ms
  attributes := attrs
def plain (name : String) (sup : Option ClassId) : Class where
  name := name
  kind := .ordinary
  loader := none
  accessFlags := 33
  super := sup
  interfaces := #[]
  cf := none
  fields := #[]
  methods := #[]
  instanceTypes := #[]
  staticTypes := #[]
  resolved := #[]
  callSites := []
  init := .initialized
  statics := none
  mirror := none

def pool0 : Array CpInfo := pool [(5, u "<init>"), (0, u "()V"), (1, .class_ 10), (1, u "java/lang/Object")] 113

def k0c0 : Code := { maxStack := 0, maxLocals := 1, code := object_method_1_code, exceptionTable := #[], attributes := #[] }
def k0m0 : Method := { name := "<init>", desc := "()V", sig := { parameters := [], returnType := none }, accessFlags := 1, code := some k0c0 }
/-- java/lang/Object -/
def k0 : Class := { plain "java/lang/Object" none with
  accessFlags := 33
  interfaces := #[]
  cf := some (fileOf pool0 8 #[] #[{ accessFlags := 1, nameIndex := 5, descriptorIndex := 6, attributes := #[] }] 33 0 #[] #[])
  fields := #[]
  methods := #[k0m0]
  instanceTypes := #[]
  staticTypes := #[]
  resolved := Array.replicate 124 none
  statics := none }

def pool1 : Array CpInfo := pool [(2, .class_ 4), (1, u "java/lang/Object"), (0, u "<init>"), (0, u "()V"), (0, .methodref 8 9), (0, .class_ 10), (0, .nameAndType 11 12), (0, u "com/example/limit1/limit1/JsonTextCheckPinLaw"), (0, u "blanks"), (0, u "()[C"), (0, .methodref 8 14), (0, .nameAndType 15 16), (0, u "ws"), (0, u "(I)C"), (0, .methodref 8 18), (0, .nameAndType 19 20), (0, u "put"), (0, u "([CIC)I"), (0, .methodref 8 22), (0, .nameAndType 23 24), (0, u "number"), (0, u "([CIJ)I"), (0, .methodref 8 26), (0, .nameAndType 27 28), (0, u "string"), (0, u "([CIIIJ)I"), (0, .methodref 8 30), (0, .nameAndType 31 32), (0, u "literal"), (0, u "([CII)I"), (0, .methodref 8 34), (0, .nameAndType 35 36), (0, u "unit"), (0, u "([CIII)I"), (0, .methodref 8 38), (0, .nameAndType 39 32), (0, u "container"), (0, .class_ 41), (0, u "java/lang/String"), (0, .methodref 40 43), (0, .nameAndType 5 44), (0, u "([C)V"), (0, .methodref 46 47), (0, .class_ 48), (0, .nameAndType 49 50), (0, u "com/example/limit1/limit1/JsonText"), (0, u "check"), (0, u "(Ljava/lang/String;)V"), (0, .long 15), (1, .long 10), (1, .long 9), (1, .methodref 8 58), (0, .nameAndType 59 60), (0, u "digit"), (0, u "(J)C"), (0, .long 3), (1, .methodref 8 64), (0, .nameAndType 65 66), (0, u "hex"), (0, u "(II)C"), (0, .integer 65535), (0, .integer 55296), (0, .integer 57343), (0, .methodref 8 71), (0, .nameAndType 72 16), (0, u "simple"), (0, .integer 32768), (0, .methodref 8 75), (0, .nameAndType 76 36), (0, u "esc"), (0, .integer 56320), (2, u "law"), (0, u "(IIIIJJ)Z")] 5

def k1m0 : Method := { name := "<init>", desc := "()V", sig := { parameters := [], returnType := none }, accessFlags := 1, code := none }
def k1c1 : Code := { maxStack := 6, maxLocals := 12, code := code, exceptionTable := #[], attributes := #[] }
def k1m1 : Method := { name := "law", desc := "(IIIIJJ)Z", sig := { parameters := [.int, .int, .int, .int, .long, .long], returnType := some .boolean }, accessFlags := 9, code := some k1c1 }
def k1c2 : Code := { maxStack := 4, maxLocals := 0, code := method_3_code, exceptionTable := #[], attributes := #[] }
def k1m2 : Method := { name := "blanks", desc := "()[C", sig := { parameters := [], returnType := some (.array .char) }, accessFlags := 10, code := some k1c2 }
def k1c3 : Code := { maxStack := 3, maxLocals := 3, code := method_4_code, exceptionTable := #[], attributes := #[] }
def k1m3 : Method := { name := "put", desc := "([CIC)I", sig := { parameters := [(.array .char), .int, .char], returnType := some .int }, accessFlags := 10, code := some k1c3 }
def k1c4 : Code := { maxStack := 2, maxLocals := 2, code := method_5_code, exceptionTable := #[], attributes := #[] }
def k1m4 : Method := { name := "ws", desc := "(I)C", sig := { parameters := [.int], returnType := some .char }, accessFlags := 10, code := some k1c4 }
def k1c5 : Code := { maxStack := 5, maxLocals := 2, code := method_6_code, exceptionTable := #[], attributes := #[] }
def k1m5 : Method := { name := "digit", desc := "(J)C", sig := { parameters := [.long], returnType := some .char }, accessFlags := 10, code := some k1c5 }
def k1c6 : Code := { maxStack := 7, maxLocals := 5, code := method_7_code, exceptionTable := #[], attributes := #[] }
def k1m6 : Method := { name := "number", desc := "([CIJ)I", sig := { parameters := [(.array .char), .int, .long], returnType := some .int }, accessFlags := 10, code := some k1c6 }
def k1c7 : Code := { maxStack := 6, maxLocals := 6, code := method_8_code, exceptionTable := #[], attributes := #[] }
def k1m7 : Method := { name := "string", desc := "([CIIIJ)I", sig := { parameters := [(.array .char), .int, .int, .int, .long], returnType := some .int }, accessFlags := 10, code := some k1c7 }
def k1c8 : Code := { maxStack := 2, maxLocals := 1, code := method_9_code, exceptionTable := #[], attributes := #[] }
def k1m8 : Method := { name := "simple", desc := "(I)C", sig := { parameters := [.int], returnType := some .char }, accessFlags := 10, code := some k1c8 }
def k1c9 : Code := { maxStack := 2, maxLocals := 2, code := method_10_code, exceptionTable := #[], attributes := #[] }
def k1m9 : Method := { name := "hex", desc := "(II)C", sig := { parameters := [.int, .int], returnType := some .char }, accessFlags := 10, code := some k1c9 }
def k1c10 : Code := { maxStack := 5, maxLocals := 4, code := method_11_code, exceptionTable := #[], attributes := #[] }
def k1m10 : Method := { name := "esc", desc := "([CIII)I", sig := { parameters := [(.array .char), .int, .int, .int], returnType := some .int }, accessFlags := 10, code := some k1c10 }
def k1c11 : Code := { maxStack := 5, maxLocals := 8, code := method_12_code, exceptionTable := #[], attributes := #[] }
def k1m11 : Method := { name := "unit", desc := "([CIII)I", sig := { parameters := [(.array .char), .int, .int, .int], returnType := some .int }, accessFlags := 10, code := some k1c11 }
def k1c12 : Code := { maxStack := 3, maxLocals := 4, code := method_13_code, exceptionTable := #[], attributes := #[] }
def k1m12 : Method := { name := "literal", desc := "([CII)I", sig := { parameters := [(.array .char), .int, .int], returnType := some .int }, accessFlags := 10, code := some k1c12 }
def k1c13 : Code := { maxStack := 3, maxLocals := 5, code := method_14_code, exceptionTable := #[], attributes := #[] }
def k1m13 : Method := { name := "container", desc := "([CII)I", sig := { parameters := [(.array .char), .int, .int], returnType := some .int }, accessFlags := 10, code := some k1c13 }
/-- com/example/limit1/limit1/JsonTextCheckPinLaw -/
def k1 : Class := { plain "com/example/limit1/limit1/JsonTextCheckPinLaw" (some 0) with
  accessFlags := 49
  interfaces := #[]
  cf := some (fileOf pool1 8 #[] #[{ accessFlags := 1, nameIndex := 5, descriptorIndex := 6, attributes := #[] }, { accessFlags := 9, nameIndex := 80, descriptorIndex := 81, attributes := #[] }, { accessFlags := 10, nameIndex := 11, descriptorIndex := 12, attributes := #[] }, { accessFlags := 10, nameIndex := 19, descriptorIndex := 20, attributes := #[] }, { accessFlags := 10, nameIndex := 15, descriptorIndex := 16, attributes := #[] }, { accessFlags := 10, nameIndex := 59, descriptorIndex := 60, attributes := #[] }, { accessFlags := 10, nameIndex := 23, descriptorIndex := 24, attributes := #[] }, { accessFlags := 10, nameIndex := 27, descriptorIndex := 28, attributes := #[] }, { accessFlags := 10, nameIndex := 72, descriptorIndex := 16, attributes := #[] }, { accessFlags := 10, nameIndex := 65, descriptorIndex := 66, attributes := #[] }, { accessFlags := 10, nameIndex := 76, descriptorIndex := 36, attributes := #[] }, { accessFlags := 10, nameIndex := 35, descriptorIndex := 36, attributes := #[] }, { accessFlags := 10, nameIndex := 31, descriptorIndex := 32, attributes := #[] }, { accessFlags := 10, nameIndex := 39, descriptorIndex := 32, attributes := #[] }] 49 2 #[] #[])
  fields := #[]
  methods := #[k1m0, k1m1, k1m2, k1m3, k1m4, k1m5, k1m6, k1m7, k1m8, k1m9, k1m10, k1m11, k1m12, k1m13]
  instanceTypes := #[]
  staticTypes := #[]
  resolved := Array.replicate 87 none
  statics := none }

def pool2 : Array CpInfo := pool [(1, .class_ 2), (0, u "java/io/Serializable"), (0, .class_ 4), (0, u "java/lang/Object")] 2

/-- java/io/Serializable -/
def k2 : Class := { plain "java/io/Serializable" (some 0) with
  accessFlags := 1537
  interfaces := #[]
  cf := some (fileOf pool2 1 #[] #[] 1537 3 #[] #[])
  fields := #[]
  methods := #[]
  instanceTypes := #[]
  staticTypes := #[]
  resolved := Array.replicate 7 none
  statics := none }

def pool3 : Array CpInfo := pool [(1, .class_ 2), (0, u "java/lang/Comparable"), (0, .class_ 4), (0, u "java/lang/Object")] 7

/-- java/lang/Comparable -/
def k3 : Class := { plain "java/lang/Comparable" (some 0) with
  accessFlags := 1537
  interfaces := #[]
  cf := some (fileOf pool3 1 #[] #[] 1537 3 #[] #[])
  fields := #[]
  methods := #[]
  instanceTypes := #[]
  staticTypes := #[]
  resolved := Array.replicate 12 none
  statics := none }

def pool4 : Array CpInfo := pool [(2, .class_ 4), (1, u "java/lang/CharSequence"), (42, .class_ 48), (0, u "java/lang/CharSequence$1CodePointIterator"), (10, .class_ 60), (0, u "java/lang/CharSequence$1CharIterator"), (5, .class_ 67), (0, u "java/lang/Object")] 63

/-- java/lang/CharSequence -/
def k4 : Class := { plain "java/lang/CharSequence" (some 0) with
  accessFlags := 1537
  interfaces := #[]
  cf := some (fileOf pool4 2 #[.nestMembers #[47, 59]] #[] 1537 66 #[] #[])
  fields := #[]
  methods := #[]
  instanceTypes := #[]
  staticTypes := #[]
  resolved := Array.replicate 131 none
  statics := none }

def pool5 : Array CpInfo := pool [(1, .class_ 2), (0, u "java/lang/constant/Constable"), (0, .class_ 4), (0, u "java/lang/Object")] 6

/-- java/lang/constant/Constable -/
def k5 : Class := { plain "java/lang/constant/Constable" (some 0) with
  accessFlags := 1537
  interfaces := #[]
  cf := some (fileOf pool5 1 #[] #[] 1537 3 #[] #[])
  fields := #[]
  methods := #[]
  instanceTypes := #[]
  staticTypes := #[]
  resolved := Array.replicate 11 none
  statics := none }

def pool6 : Array CpInfo := pool [(1, .class_ 2), (0, u "java/lang/constant/ConstantDesc"), (0, .class_ 4), (0, u "java/lang/Object")] 32

/-- java/lang/constant/ConstantDesc -/
def k6 : Class := { plain "java/lang/constant/ConstantDesc" (some 0) with
  accessFlags := 1537
  interfaces := #[]
  cf := some (fileOf pool6 1 #[] #[] 1537 3 #[] #[])
  fields := #[]
  methods := #[]
  instanceTypes := #[]
  staticTypes := #[]
  resolved := Array.replicate 37 none
  statics := none }

def pool7 : Array CpInfo := pool [(1, .methodref 2 3), (0, .class_ 4), (0, .nameAndType 5 6), (0, u "java/lang/Object"), (0, u "<init>"), (0, u "()V"), (2, .fieldref 10 11), (0, .class_ 12), (0, .nameAndType 13 14), (0, u "java/lang/String"), (0, u "value"), (0, u "[B"), (0, .fieldref 10 16), (0, .nameAndType 17 18), (0, u "coder"), (0, u "B"), (2, u "hash"), (0, u "I"), (2, u "hashIsZero"), (0, u "Z"), (0, .methodref 10 28), (0, .nameAndType 5 29), (0, u "([CIILjava/lang/Void;)V"), (8, .fieldref 10 39), (0, .nameAndType 40 26), (0, u "COMPACT_STRINGS"), (1, .class_ 44), (1, u "java/lang/StringUTF16"), (0, u "compress"), (1, .methodref 42 48), (0, .nameAndType 49 50), (0, u "coderFromArrayLen"), (0, u "([BI)B"), (56, .class_ 109), (1, u "java/lang/StringLatin1"), (32, u "()Z"), (34, .methodref 42 178), (0, .nameAndType 45 179), (0, u "([CII)[B"), (154, u "()I"), (0, .methodref 10 336), (0, .nameAndType 17 337), (0, u "()B"), (22, .methodref 42 361), (0, .nameAndType 362 363), (0, u "getChar"), (0, u "([BI)C"), (12, u "([BI[BII)I"), (14, u "(II)V"), (35, u "(I)C"), (64, .methodref 10 493), (0, .nameAndType 494 142), (0, u "isLatin1"), (0, .methodref 107 496), (0, .nameAndType 497 363), (0, u "charAt"), (0, .methodref 42 496), (2, u "checkIndex"), (3, .methodref 10 506), (0, .nameAndType 507 334), (0, u "length"), (51, .class_ 561), (1, u "jdk/internal/util/ArraysSupport"), (0, u "mismatch"), (12, .class_ 576), (0, u "java/lang/CharSequence"), (22, u "CASE_INSENSITIVE_ORDER"), (0, u "Ljava/util/Comparator;"), (6, .methodref 559 608), (0, .nameAndType 562 376), (17, u "startsWith"), (0, u "(Ljava/lang/String;I)Z"), (5, .methodref 10 634), (0, .nameAndType 635 636), (0, u "indexOf"), (0, u "(II)I"), (0, .methodref 107 638), (0, .nameAndType 635 639), (0, u "([BIII)I"), (125, u "(I)I"), (244, u "([C)V"), (42, .fieldref 1054 1055), (0, .class_ 1056), (0, .nameAndType 1057 1058), (0, u "jdk/internal/util/Preconditions"), (0, u "SIOOBE_FORMATTER"), (0, u "Ljava/util/function/BiFunction;"), (0, .methodref 1054 1060), (0, .nameAndType 501 1061), (0, u "(IILjava/util/function/BiFunction;)I"), (39, u "serialPersistentFields"), (0, u "[Ljava/io/ObjectStreamField;"), (0, .class_ 1104), (0, u "java/lang/String$CaseInsensitiveComparator"), (1, .class_ 1107), (0, u "java/io/Serializable"), (0, .class_ 1109), (0, u "java/lang/Comparable"), (0, .class_ 1111), (0, u "java/lang/constant/Constable"), (0, .class_ 1113), (0, u "java/lang/constant/ConstantDesc"), (2, u "serialVersionUID"), (0, u "J"), (3, u "REPL"), (0, u "C"), (2, u "LATIN1"), (1, u "UTF16")] 323

def k7m0 : Method := { name := "<init>", desc := "()V", sig := { parameters := [], returnType := none }, accessFlags := 1, code := none }
def k7c1 : Code := { maxStack := 5, maxLocals := 2, code := jdk_42_method_3_code, exceptionTable := #[], attributes := #[] }
def k7m1 : Method := { name := "<init>", desc := "([C)V", sig := { parameters := [(.array .char)], returnType := none }, accessFlags := 1, code := some k7c1 }
def k7c2 : Code := { maxStack := 2, maxLocals := 1, code := jdk_42_method_54_code, exceptionTable := #[], attributes := #[] }
def k7m2 : Method := { name := "length", desc := "()I", sig := { parameters := [], returnType := some .int }, accessFlags := 1, code := some k7c2 }
def k7c3 : Code := { maxStack := 2, maxLocals := 2, code := jdk_42_method_56_code, exceptionTable := #[], attributes := #[] }
def k7m3 : Method := { name := "charAt", desc := "(I)C", sig := { parameters := [.int], returnType := some .char }, accessFlags := 1, code := some k7c3 }
def k7c4 : Code := { maxStack := 5, maxLocals := 8, code := jdk_42_method_75_code, exceptionTable := #[], attributes := #[] }
def k7m4 : Method := { name := "startsWith", desc := "(Ljava/lang/String;I)Z", sig := { parameters := [(.object "java/lang/String"), .int], returnType := some .boolean }, accessFlags := 1, code := some k7c4 }
def k7c5 : Code := { maxStack := 3, maxLocals := 2, code := jdk_42_method_79_code, exceptionTable := #[], attributes := #[] }
def k7m5 : Method := { name := "indexOf", desc := "(I)I", sig := { parameters := [.int], returnType := some .int }, accessFlags := 1, code := some k7c5 }
def k7c6 : Code := { maxStack := 4, maxLocals := 3, code := jdk_42_method_80_code, exceptionTable := #[], attributes := #[] }
def k7m6 : Method := { name := "indexOf", desc := "(II)I", sig := { parameters := [.int, .int], returnType := some .int }, accessFlags := 1, code := some k7c6 }
def k7c7 : Code := { maxStack := 4, maxLocals := 6, code := jdk_42_method_149_code, exceptionTable := #[], attributes := #[] }
def k7m7 : Method := { name := "<init>", desc := "([CIILjava/lang/Void;)V", sig := { parameters := [(.array .char), .int, .int, (.object "java/lang/Void")], returnType := none }, accessFlags := 2, code := some k7c7 }
def k7c8 : Code := { maxStack := 1, maxLocals := 1, code := jdk_42_method_152_code, exceptionTable := #[], attributes := #[] }
def k7m8 : Method := { name := "coder", desc := "()B", sig := { parameters := [], returnType := some .byte }, accessFlags := 0, code := some k7c8 }
def k7c9 : Code := { maxStack := 1, maxLocals := 1, code := jdk_42_method_154_code, exceptionTable := #[], attributes := #[] }
def k7m9 : Method := { name := "isLatin1", desc := "()Z", sig := { parameters := [], returnType := some .boolean }, accessFlags := 0, code := some k7c9 }
def k7c10 : Code := { maxStack := 3, maxLocals := 2, code := jdk_42_method_155_code, exceptionTable := #[], attributes := #[] }
def k7m10 : Method := { name := "checkIndex", desc := "(II)V", sig := { parameters := [.int, .int], returnType := none }, accessFlags := 8, code := some k7c10 }
/-- java/lang/String -/
def k7 : Class := { plain "java/lang/String" (some 0) with
  accessFlags := 49
  interfaces := #[2, 3, 4, 5, 6]
  cf := some (fileOf pool7 10 #[.nestMembers #[1103]] #[{ accessFlags := 1, nameIndex := 5, descriptorIndex := 6, attributes := #[] }, { accessFlags := 1, nameIndex := 5, descriptorIndex := 1010, attributes := #[] }, { accessFlags := 1, nameIndex := 507, descriptorIndex := 334, attributes := #[] }, { accessFlags := 1, nameIndex := 497, descriptorIndex := 427, attributes := #[] }, { accessFlags := 1, nameIndex := 626, descriptorIndex := 627, attributes := #[] }, { accessFlags := 1, nameIndex := 635, descriptorIndex := 765, attributes := #[] }, { accessFlags := 1, nameIndex := 635, descriptorIndex := 636, attributes := #[] }, { accessFlags := 2, nameIndex := 5, descriptorIndex := 29, attributes := #[] }, { accessFlags := 0, nameIndex := 17, descriptorIndex := 337, attributes := #[] }, { accessFlags := 0, nameIndex := 494, descriptorIndex := 142, attributes := #[] }, { accessFlags := 8, nameIndex := 501, descriptorIndex := 391, attributes := #[] }] 49 2 #[1106, 1108, 575, 1110, 1112] #[{ accessFlags := 18, nameIndex := 13, descriptorIndex := 14, attributes := #[] }, { accessFlags := 18, nameIndex := 17, descriptorIndex := 18, attributes := #[] }, { accessFlags := 2, nameIndex := 21, descriptorIndex := 22, attributes := #[] }, { accessFlags := 2, nameIndex := 25, descriptorIndex := 26, attributes := #[] }, { accessFlags := 26, nameIndex := 1116, descriptorIndex := 1117, attributes := #[] }, { accessFlags := 24, nameIndex := 40, descriptorIndex := 26, attributes := #[] }, { accessFlags := 26, nameIndex := 1101, descriptorIndex := 1102, attributes := #[] }, { accessFlags := 26, nameIndex := 1121, descriptorIndex := 1122, attributes := #[] }, { accessFlags := 25, nameIndex := 599, descriptorIndex := 600, attributes := #[] }, { accessFlags := 24, nameIndex := 1125, descriptorIndex := 18, attributes := #[] }, { accessFlags := 24, nameIndex := 1127, descriptorIndex := 18, attributes := #[] }])
  fields := #[{ name := "value", type := (.array .byte), accessFlags := 18, slot := 0, constantValue := 0 }, { name := "coder", type := .byte, accessFlags := 18, slot := 1, constantValue := 0 }, { name := "hash", type := .int, accessFlags := 2, slot := 2, constantValue := 0 }, { name := "hashIsZero", type := .boolean, accessFlags := 2, slot := 3, constantValue := 0 }, { name := "serialVersionUID", type := .long, accessFlags := 26, slot := 0, constantValue := 0 }, { name := "COMPACT_STRINGS", type := .boolean, accessFlags := 24, slot := 1, constantValue := 0 }, { name := "serialPersistentFields", type := (.array (.object "java/io/ObjectStreamField")), accessFlags := 26, slot := 2, constantValue := 0 }, { name := "REPL", type := .char, accessFlags := 26, slot := 3, constantValue := 0 }, { name := "CASE_INSENSITIVE_ORDER", type := (.object "java/util/Comparator"), accessFlags := 25, slot := 4, constantValue := 0 }, { name := "LATIN1", type := .byte, accessFlags := 24, slot := 5, constantValue := 0 }, { name := "UTF16", type := .byte, accessFlags := 24, slot := 6, constantValue := 0 }]
  methods := #[k7m0, k7m1, k7m2, k7m3, k7m4, k7m5, k7m6, k7m7, k7m8, k7m9, k7m10]
  instanceTypes := #[(.array .byte), .byte, .int, .boolean]
  staticTypes := #[.long, .boolean, (.array (.object "java/io/ObjectStreamField")), .char, (.object "java/util/Comparator"), .byte, .byte]
  resolved := Array.replicate 1451 none
  statics := some 0 }

def pool8 : Array CpInfo := pool [(3, .class_ 4), (0, u "java/lang/String"), (1, .class_ 8), (1, u "java/lang/Object"), (0, u "<init>"), (0, u "()V"), (0, .methodref 12 13), (0, .class_ 14), (0, .nameAndType 15 16), (0, u "java/lang/StringUTF16"), (0, u "newBytesLength"), (0, u "(I)I"), (3, .integer 1073741823), (23, .fieldref 12 45), (0, .nameAndType 46 47), (0, u "$assertionsDisabled"), (0, u "Z"), (0, .methodref 12 49), (0, .nameAndType 50 51), (0, u "length"), (0, u "([B)I"), (7, .fieldref 12 60), (0, .nameAndType 61 62), (0, u "HI_BYTE_SHIFT"), (0, u "I"), (0, .fieldref 12 64), (0, .nameAndType 65 62), (0, u "LO_BYTE_SHIFT"), (1, .methodref 12 68), (0, .nameAndType 69 70), (0, u "checkIndex"), (0, u "(I[B)V"), (0, .methodref 12 72), (0, .nameAndType 73 74), (0, u "getChar"), (0, u "([BI)C"), (32, .methodref 12 108), (0, .nameAndType 109 110), (0, u "newBytesFor"), (0, u "(I)[B"), (0, .methodref 12 112), (0, .nameAndType 113 114), (0, u "putChar"), (0, u "([BII)V"), (0, .methodref 12 116), (0, .nameAndType 117 118), (0, u "compress"), (0, u "([CI[BII)I"), (0, .methodref 12 120), (0, .nameAndType 121 122), (0, u "toBytes"), (0, u "([CII)[B"), (138, u "coderFromArrayLen"), (0, u "([BI)B"), (106, .class_ 371), (1, u "java/lang/StringUTF16$LinesSpliterator"), (20, u "charAt"), (21, .methodref 3 415), (0, .nameAndType 69 416), (0, u "(II)V"), (13, u "MAX_LENGTH"), (196, .class_ 628), (0, u "java/lang/StringUTF16$CodePointsSpliterator"), (0, .class_ 630), (0, u "java/lang/StringUTF16$CharsSpliterator")] 4

def k8m0 : Method := { name := "<init>", desc := "()V", sig := { parameters := [], returnType := none }, accessFlags := 0, code := none }
def k8c1 : Code := { maxStack := 1, maxLocals := 1, code := jdk_52_method_2_code, exceptionTable := #[], attributes := #[] }
def k8m1 : Method := { name := "newBytesFor", desc := "(I)[B", sig := { parameters := [.int], returnType := some (.array .byte) }, accessFlags := 9, code := some k8c1 }
def k8c2 : Code := { maxStack := 4, maxLocals := 1, code := jdk_52_method_3_code, exceptionTable := #[], attributes := #[] }
def k8m2 : Method := { name := "newBytesLength", desc := "(I)I", sig := { parameters := [.int], returnType := some .int }, accessFlags := 9, code := some k8c2 }
def k8c3 : Code := { maxStack := 4, maxLocals := 3, code := jdk_52_method_4_code, exceptionTable := #[], attributes := #[] }
def k8m3 : Method := { name := "putChar", desc := "([BII)V", sig := { parameters := [(.array .byte), .int, .int], returnType := none }, accessFlags := 8, code := some k8c3 }
def k8c4 : Code := { maxStack := 3, maxLocals := 2, code := jdk_52_method_5_code, exceptionTable := #[], attributes := #[] }
def k8m4 : Method := { name := "getChar", desc := "([BI)C", sig := { parameters := [(.array .byte), .int], returnType := some .char }, accessFlags := 8, code := some k8c4 }
def k8c5 : Code := { maxStack := 2, maxLocals := 1, code := jdk_52_method_6_code, exceptionTable := #[], attributes := #[] }
def k8m5 : Method := { name := "length", desc := "([B)I", sig := { parameters := [(.array .byte)], returnType := some .int }, accessFlags := 9, code := some k8c5 }
def k8c6 : Code := { maxStack := 4, maxLocals := 5, code := jdk_52_method_14_code, exceptionTable := #[], attributes := #[] }
def k8m6 : Method := { name := "toBytes", desc := "([CII)[B", sig := { parameters := [(.array .char), .int, .int], returnType := some (.array .byte) }, accessFlags := 9, code := some k8c6 }
def k8c7 : Code := { maxStack := 2, maxLocals := 2, code := jdk_52_method_15_code, exceptionTable := #[], attributes := #[] }
def k8m7 : Method := { name := "coderFromArrayLen", desc := "([BI)B", sig := { parameters := [(.array .byte), .int], returnType := some .byte }, accessFlags := 8, code := some k8c7 }
def k8c8 : Code := { maxStack := 5, maxLocals := 6, code := jdk_52_method_16_code, exceptionTable := #[], attributes := #[] }
def k8m8 : Method := { name := "compress", desc := "([CII)[B", sig := { parameters := [(.array .char), .int, .int], returnType := some (.array .byte) }, accessFlags := 9, code := some k8c8 }
def k8c9 : Code := { maxStack := 3, maxLocals := 7, code := jdk_52_method_21_code, exceptionTable := #[], attributes := #[] }
def k8m9 : Method := { name := "compress", desc := "([CI[BII)I", sig := { parameters := [(.array .char), .int, (.array .byte), .int, .int], returnType := some .int }, accessFlags := 9, code := some k8c9 }
def k8c10 : Code := { maxStack := 2, maxLocals := 2, code := jdk_52_method_83_code, exceptionTable := #[], attributes := #[] }
def k8m10 : Method := { name := "charAt", desc := "([BI)C", sig := { parameters := [(.array .byte), .int], returnType := some .char }, accessFlags := 9, code := some k8c10 }
def k8c11 : Code := { maxStack := 2, maxLocals := 2, code := jdk_52_method_91_code, exceptionTable := #[], attributes := #[] }
def k8m11 : Method := { name := "checkIndex", desc := "(I[B)V", sig := { parameters := [.int, (.array .byte)], returnType := none }, accessFlags := 9, code := some k8c11 }
/-- java/lang/StringUTF16 -/
def k8 : Class := { plain "java/lang/StringUTF16" (some 0) with
  accessFlags := 48
  interfaces := #[]
  cf := some (fileOf pool8 12 #[.nestMembers #[627, 629, 369]] #[{ accessFlags := 0, nameIndex := 9, descriptorIndex := 10, attributes := #[] }, { accessFlags := 9, nameIndex := 109, descriptorIndex := 110, attributes := #[] }, { accessFlags := 9, nameIndex := 15, descriptorIndex := 16, attributes := #[] }, { accessFlags := 8, nameIndex := 113, descriptorIndex := 114, attributes := #[] }, { accessFlags := 8, nameIndex := 73, descriptorIndex := 74, attributes := #[] }, { accessFlags := 9, nameIndex := 50, descriptorIndex := 51, attributes := #[] }, { accessFlags := 9, nameIndex := 121, descriptorIndex := 122, attributes := #[] }, { accessFlags := 8, nameIndex := 261, descriptorIndex := 262, attributes := #[] }, { accessFlags := 9, nameIndex := 117, descriptorIndex := 122, attributes := #[] }, { accessFlags := 9, nameIndex := 117, descriptorIndex := 118, attributes := #[] }, { accessFlags := 9, nameIndex := 392, descriptorIndex := 74, attributes := #[] }, { accessFlags := 9, nameIndex := 69, descriptorIndex := 70, attributes := #[] }] 48 6 #[] #[{ accessFlags := 26, nameIndex := 61, descriptorIndex := 62, attributes := #[] }, { accessFlags := 26, nameIndex := 65, descriptorIndex := 62, attributes := #[] }, { accessFlags := 24, nameIndex := 430, descriptorIndex := 62, attributes := #[] }, { accessFlags := 4120, nameIndex := 46, descriptorIndex := 47, attributes := #[] }])
  fields := #[{ name := "HI_BYTE_SHIFT", type := .int, accessFlags := 26, slot := 0, constantValue := 0 }, { name := "LO_BYTE_SHIFT", type := .int, accessFlags := 26, slot := 1, constantValue := 0 }, { name := "MAX_LENGTH", type := .int, accessFlags := 24, slot := 2, constantValue := 0 }, { name := "$assertionsDisabled", type := .boolean, accessFlags := 4120, slot := 3, constantValue := 0 }]
  methods := #[k8m0, k8m1, k8m2, k8m3, k8m4, k8m5, k8m6, k8m7, k8m8, k8m9, k8m10, k8m11]
  instanceTypes := #[]
  staticTypes := #[.int, .int, .int, .boolean]
  resolved := Array.replicate 635 none
  statics := some 1 }

def pool9 : Array CpInfo := pool [(1, .methodref 2 3), (0, .class_ 4), (0, .nameAndType 5 6), (0, u "java/lang/Object"), (0, u "<init>"), (0, u "()V"), (0, .fieldref 8 9), (0, .class_ 10), (0, .nameAndType 11 12), (0, u "com/example/limit1/limit1/JsonText"), (0, u "text"), (0, u "Ljava/lang/String;"), (0, .string 11), (0, .methodref 15 16), (0, .class_ 17), (0, .nameAndType 18 19), (0, u "java/util/Objects"), (0, u "requireNonNull"), (0, u "(Ljava/lang/Object;Ljava/lang/String;)Ljava/lang/Object;"), (0, .methodref 8 21), (0, .nameAndType 5 22), (0, u "(Ljava/lang/String;)V"), (0, .methodref 8 24), (0, .nameAndType 25 6), (0, u "checkText"), (0, .methodref 8 27), (0, .nameAndType 28 6), (0, u "skipWhitespace"), (0, .methodref 8 30), (0, .nameAndType 31 6), (0, u "checkValue"), (0, .fieldref 8 33), (0, .nameAndType 34 35), (0, u "position"), (0, u "I"), (0, .methodref 37 38), (0, .class_ 39), (0, .nameAndType 40 41), (0, u "java/lang/String"), (0, u "length"), (0, u "()I"), (6, .class_ 49), (0, u "java/util/BitSet"), (0, .methodref 48 3), (0, .string 52), (0, u "a value"), (0, .methodref 8 54), (0, .nameAndType 55 56), (0, u "peek"), (0, u "(Ljava/lang/String;)C"), (0, .methodref 8 58), (0, .nameAndType 59 60), (0, u "peekIs"), (0, u "(C)Z"), (0, .methodref 48 62), (0, .nameAndType 63 64), (0, u "set"), (0, u "(IZ)V"), (0, .methodref 8 66), (0, .nameAndType 67 6), (0, u "checkMemberName"), (0, .methodref 8 69), (0, .nameAndType 70 71), (0, u "checkScalar"), (0, u "(C)V"), (0, .methodref 8 73), (0, .nameAndType 74 75), (0, u "closeContainers"), (0, u "(Ljava/util/BitSet;I)I"), (0, .methodref 48 77), (0, .nameAndType 78 79), (0, u "get"), (0, u "(I)Z"), (6, .methodref 8 87), (0, .nameAndType 88 6), (0, u "checkString"), (2, .string 92), (0, u "true"), (0, .methodref 8 94), (0, .nameAndType 95 22), (0, u "checkLiteral"), (0, .string 97), (0, u "false"), (0, .string 99), (0, u "null"), (0, .methodref 8 101), (0, .nameAndType 102 103), (0, u "isDigitAt"), (0, u "()Z"), (0, .methodref 8 105), (0, .nameAndType 106 6), (0, u "checkNumber"), (0, .methodref 37 108), (0, .nameAndType 109 110), (0, u "charAt"), (0, u "(I)C"), (4, .methodref 8 116), (0, .nameAndType 117 6), (0, u "checkDigits"), (2, .string 121), (0, u "'\"'"), (0, .methodref 8 123), (0, .nameAndType 124 6), (0, u "checkEscape"), (9, .methodref 135 136), (0, .class_ 137), (0, .nameAndType 138 60), (0, u "java/lang/Character"), (0, u "isHighSurrogate"), (0, .methodref 135 140), (0, .nameAndType 141 60), (0, u "isLowSurrogate"), (0, .methodref 135 143), (0, .nameAndType 144 60), (0, u "isSurrogate"), (4, .string 150), (0, u "an escaped character"), (0, .string 152), (0, u "\"\\/bfnrt"), (0, .methodref 37 154), (0, .nameAndType 155 156), (0, u "indexOf"), (0, u "(I)I"), (1, .methodref 8 159), (0, .nameAndType 160 161), (0, u "readHexUnit"), (0, u "()C"), (0, .string 163), (0, u "\\u"), (0, .methodref 37 165), (0, .nameAndType 166 167), (0, u "startsWith"), (0, u "(Ljava/lang/String;I)Z"), (0, .methodref 8 169), (0, .nameAndType 170 171), (0, u "hexDigitValue"), (0, u "(C)I"), (33, u "check")] 30

def k9c0 : Code := { maxStack := 2, maxLocals := 2, code := prog_7_method_1_code, exceptionTable := #[], attributes := #[] }
def k9m0 : Method := { name := "<init>", desc := "(Ljava/lang/String;)V", sig := { parameters := [(.object "java/lang/String")], returnType := none }, accessFlags := 2, code := some k9c0 }
def k9c1 : Code := { maxStack := 3, maxLocals := 1, code := prog_7_method_2_code, exceptionTable := #[], attributes := #[] }
def k9m1 : Method := { name := "check", desc := "(Ljava/lang/String;)V", sig := { parameters := [(.object "java/lang/String")], returnType := none }, accessFlags := 8, code := some k9c1 }
def k9c2 : Code := { maxStack := 2, maxLocals := 1, code := prog_7_method_3_code, exceptionTable := #[], attributes := #[] }
def k9m2 : Method := { name := "checkText", desc := "()V", sig := { parameters := [], returnType := none }, accessFlags := 2, code := some k9c2 }
def k9c3 : Code := { maxStack := 3, maxLocals := 5, code := prog_7_method_4_code, exceptionTable := #[], attributes := #[] }
def k9m3 : Method := { name := "checkValue", desc := "()V", sig := { parameters := [], returnType := none }, accessFlags := 2, code := some k9c3 }
def k9c4 : Code := { maxStack := 3, maxLocals := 5, code := prog_7_method_5_code, exceptionTable := #[], attributes := #[] }
def k9m4 : Method := { name := "closeContainers", desc := "(Ljava/util/BitSet;I)I", sig := { parameters := [(.object "java/util/BitSet"), .int], returnType := some .int }, accessFlags := 2, code := some k9c4 }
def k9c5 : Code := { maxStack := 3, maxLocals := 1, code := prog_7_method_6_code, exceptionTable := #[], attributes := #[] }
def k9m5 : Method := { name := "checkMemberName", desc := "()V", sig := { parameters := [], returnType := none }, accessFlags := 2, code := some k9c5 }
def k9c6 : Code := { maxStack := 2, maxLocals := 2, code := prog_7_method_7_code, exceptionTable := #[], attributes := #[] }
def k9m6 : Method := { name := "checkScalar", desc := "(C)V", sig := { parameters := [.char], returnType := none }, accessFlags := 2, code := some k9c6 }
def k9c7 : Code := { maxStack := 3, maxLocals := 3, code := prog_7_method_8_code, exceptionTable := #[], attributes := #[] }
def k9m7 : Method := { name := "checkLiteral", desc := "(Ljava/lang/String;)V", sig := { parameters := [(.object "java/lang/String")], returnType := none }, accessFlags := 2, code := some k9c7 }
def k9c8 : Code := { maxStack := 3, maxLocals := 1, code := prog_7_method_9_code, exceptionTable := #[], attributes := #[] }
def k9m8 : Method := { name := "checkNumber", desc := "()V", sig := { parameters := [], returnType := none }, accessFlags := 2, code := some k9c8 }
def k9c9 : Code := { maxStack := 3, maxLocals := 1, code := prog_7_method_10_code, exceptionTable := #[], attributes := #[] }
def k9m9 : Method := { name := "checkDigits", desc := "()V", sig := { parameters := [], returnType := none }, accessFlags := 2, code := some k9c9 }
def k9c10 : Code := { maxStack := 3, maxLocals := 2, code := prog_7_method_11_code, exceptionTable := #[], attributes := #[] }
def k9m10 : Method := { name := "checkString", desc := "()V", sig := { parameters := [], returnType := none }, accessFlags := 2, code := some k9c10 }
def k9c11 : Code := { maxStack := 3, maxLocals := 4, code := prog_7_method_12_code, exceptionTable := #[], attributes := #[] }
def k9m11 : Method := { name := "checkEscape", desc := "()V", sig := { parameters := [], returnType := none }, accessFlags := 2, code := some k9c11 }
def k9c12 : Code := { maxStack := 3, maxLocals := 4, code := prog_7_method_13_code, exceptionTable := #[], attributes := #[] }
def k9m12 : Method := { name := "readHexUnit", desc := "()C", sig := { parameters := [], returnType := some .char }, accessFlags := 2, code := some k9c12 }
def k9c13 : Code := { maxStack := 2, maxLocals := 1, code := prog_7_method_14_code, exceptionTable := #[], attributes := #[] }
def k9m13 : Method := { name := "hexDigitValue", desc := "(C)I", sig := { parameters := [.char], returnType := some .int }, accessFlags := 10, code := some k9c13 }
def k9c14 : Code := { maxStack := 3, maxLocals := 2, code := prog_7_method_15_code, exceptionTable := #[], attributes := #[] }
def k9m14 : Method := { name := "skipWhitespace", desc := "()V", sig := { parameters := [], returnType := none }, accessFlags := 2, code := some k9c14 }
def k9c15 : Code := { maxStack := 2, maxLocals := 2, code := prog_7_method_16_code, exceptionTable := #[], attributes := #[] }
def k9m15 : Method := { name := "peek", desc := "(Ljava/lang/String;)C", sig := { parameters := [(.object "java/lang/String")], returnType := some .char }, accessFlags := 2, code := some k9c15 }
def k9c16 : Code := { maxStack := 2, maxLocals := 2, code := prog_7_method_17_code, exceptionTable := #[], attributes := #[] }
def k9m16 : Method := { name := "peekIs", desc := "(C)Z", sig := { parameters := [.char], returnType := some .boolean }, accessFlags := 2, code := some k9c16 }
def k9c17 : Code := { maxStack := 2, maxLocals := 1, code := prog_7_method_18_code, exceptionTable := #[], attributes := #[] }
def k9m17 : Method := { name := "isDigitAt", desc := "()Z", sig := { parameters := [], returnType := some .boolean }, accessFlags := 2, code := some k9c17 }
/-- com/example/limit1/limit1/JsonText -/
def k9 : Class := { plain "com/example/limit1/limit1/JsonText" (some 0) with
  accessFlags := 32
  interfaces := #[]
  cf := some (fileOf pool9 8 #[] #[{ accessFlags := 2, nameIndex := 5, descriptorIndex := 22, attributes := #[] }, { accessFlags := 8, nameIndex := 205, descriptorIndex := 22, attributes := #[] }, { accessFlags := 2, nameIndex := 25, descriptorIndex := 6, attributes := #[] }, { accessFlags := 2, nameIndex := 31, descriptorIndex := 6, attributes := #[] }, { accessFlags := 2, nameIndex := 74, descriptorIndex := 75, attributes := #[] }, { accessFlags := 2, nameIndex := 67, descriptorIndex := 6, attributes := #[] }, { accessFlags := 2, nameIndex := 70, descriptorIndex := 71, attributes := #[] }, { accessFlags := 2, nameIndex := 95, descriptorIndex := 22, attributes := #[] }, { accessFlags := 2, nameIndex := 106, descriptorIndex := 6, attributes := #[] }, { accessFlags := 2, nameIndex := 117, descriptorIndex := 6, attributes := #[] }, { accessFlags := 2, nameIndex := 88, descriptorIndex := 6, attributes := #[] }, { accessFlags := 2, nameIndex := 124, descriptorIndex := 6, attributes := #[] }, { accessFlags := 2, nameIndex := 160, descriptorIndex := 161, attributes := #[] }, { accessFlags := 10, nameIndex := 170, descriptorIndex := 171, attributes := #[] }, { accessFlags := 2, nameIndex := 28, descriptorIndex := 6, attributes := #[] }, { accessFlags := 2, nameIndex := 55, descriptorIndex := 56, attributes := #[] }, { accessFlags := 2, nameIndex := 59, descriptorIndex := 60, attributes := #[] }, { accessFlags := 2, nameIndex := 102, descriptorIndex := 103, attributes := #[] }] 32 2 #[] #[{ accessFlags := 18, nameIndex := 11, descriptorIndex := 12, attributes := #[] }, { accessFlags := 2, nameIndex := 34, descriptorIndex := 35, attributes := #[] }])
  fields := #[{ name := "text", type := (.object "java/lang/String"), accessFlags := 18, slot := 0, constantValue := 0 }, { name := "position", type := .int, accessFlags := 2, slot := 1, constantValue := 0 }]
  methods := #[k9m0, k9m1, k9m2, k9m3, k9m4, k9m5, k9m6, k9m7, k9m8, k9m9, k9m10, k9m11, k9m12, k9m13, k9m14, k9m15, k9m16, k9m17]
  instanceTypes := #[(.object "java/lang/String"), .int]
  staticTypes := #[]
  resolved := Array.replicate 236 none
  statics := none }

def pool10 : Array CpInfo := pool [(2, .class_ 4), (1, u "java/lang/Object"), (0, u "<init>"), (0, u "()V"), (35, .class_ 44), (1, u "java/util/Objects"), (0, u "requireNonNull"), (48, u "(Ljava/lang/Object;Ljava/lang/String;)Ljava/lang/Object;")] 89

def k10m0 : Method := { name := "<init>", desc := "()V", sig := { parameters := [], returnType := none }, accessFlags := 2, code := none }
def k10c1 : Code := { maxStack := 3, maxLocals := 2, code := jdk_31_method_11_code, exceptionTable := #[], attributes := #[] }
def k10m1 : Method := { name := "requireNonNull", desc := "(Ljava/lang/Object;Ljava/lang/String;)Ljava/lang/Object;", sig := { parameters := [(.object "java/lang/Object"), (.object "java/lang/String")], returnType := some (.object "java/lang/Object") }, accessFlags := 9, code := some k10c1 }
/-- java/util/Objects -/
def k10 : Class := { plain "java/util/Objects" (some 0) with
  accessFlags := 49
  interfaces := #[]
  cf := some (fileOf pool10 42 #[] #[{ accessFlags := 2, nameIndex := 5, descriptorIndex := 6, attributes := #[] }, { accessFlags := 9, nameIndex := 45, descriptorIndex := 94, attributes := #[] }] 49 2 #[] #[])
  fields := #[]
  methods := #[k10m0, k10m1]
  instanceTypes := #[]
  staticTypes := #[]
  resolved := Array.replicate 184 none
  statics := none }

def pool11 : Array CpInfo := pool [(1, .class_ 2), (0, u "java/lang/String"), (1, .class_ 6), (1, u "java/lang/Object"), (0, u "<init>"), (0, u "()V"), (0, .methodref 1 10), (0, .nameAndType 11 12), (0, u "checkIndex"), (0, u "(II)V"), (1, .class_ 16), (1, u "java/lang/StringLatin1"), (21, .methodref 39 40), (0, .class_ 41), (0, .nameAndType 42 43), (0, u "java/lang/Math"), (0, u "min"), (0, u "(II)I"), (9, u "([BI)C"), (34, .methodref 14 89), (0, .nameAndType 90 91), (0, u "canEncode"), (0, u "(I)Z"), (0, .methodref 39 93), (0, .nameAndType 94 43), (0, u "max"), (0, .methodref 14 96), (0, .nameAndType 97 98), (0, u "indexOfChar"), (0, u "([BIII)I"), (2, u "indexOf"), (19, u "$assertionsDisabled"), (0, u "Z"), (98, .class_ 223), (1, u "java/lang/StringLatin1$LinesSpliterator"), (28, u "charAt"), (137, .class_ 391), (0, u "java/lang/StringLatin1$CharsSpliterator")] 3

def k11m0 : Method := { name := "<init>", desc := "()V", sig := { parameters := [], returnType := none }, accessFlags := 0, code := none }
def k11c1 : Code := { maxStack := 2, maxLocals := 2, code := jdk_43_method_2_code, exceptionTable := #[], attributes := #[] }
def k11m1 : Method := { name := "charAt", desc := "([BI)C", sig := { parameters := [(.array .byte), .int], returnType := some .char }, accessFlags := 9, code := some k11c1 }
def k11c2 : Code := { maxStack := 2, maxLocals := 1, code := jdk_43_method_4_code, exceptionTable := #[], attributes := #[] }
def k11m2 : Method := { name := "canEncode", desc := "(I)Z", sig := { parameters := [.int], returnType := some .boolean }, accessFlags := 9, code := some k11c2 }
def k11c3 : Code := { maxStack := 4, maxLocals := 4, code := jdk_43_method_22_code, exceptionTable := #[], attributes := #[] }
def k11m3 : Method := { name := "indexOf", desc := "([BIII)I", sig := { parameters := [(.array .byte), .int, .int, .int], returnType := some .int }, accessFlags := 9, code := some k11c3 }
def k11c4 : Code := { maxStack := 2, maxLocals := 6, code := jdk_43_method_23_code, exceptionTable := #[], attributes := #[] }
def k11m4 : Method := { name := "indexOfChar", desc := "([BIII)I", sig := { parameters := [(.array .byte), .int, .int, .int], returnType := some .int }, accessFlags := 10, code := some k11c4 }
/-- java/lang/StringLatin1 -/
def k11 : Class := { plain "java/lang/StringLatin1" (some 0) with
  accessFlags := 48
  interfaces := #[]
  cf := some (fileOf pool11 14 #[.nestMembers #[390, 221]] #[{ accessFlags := 0, nameIndex := 7, descriptorIndex := 8, attributes := #[] }, { accessFlags := 9, nameIndex := 252, descriptorIndex := 53, attributes := #[] }, { accessFlags := 9, nameIndex := 90, descriptorIndex := 91, attributes := #[] }, { accessFlags := 9, nameIndex := 101, descriptorIndex := 98, attributes := #[] }, { accessFlags := 10, nameIndex := 97, descriptorIndex := 98, attributes := #[] }] 48 4 #[] #[{ accessFlags := 4120, nameIndex := 121, descriptorIndex := 122, attributes := #[] }])
  fields := #[{ name := "$assertionsDisabled", type := .boolean, accessFlags := 4120, slot := 0, constantValue := 0 }]
  methods := #[k11m0, k11m1, k11m2, k11m3, k11m4]
  instanceTypes := #[]
  staticTypes := #[.boolean]
  resolved := Array.replicate 395 none
  statics := none }

def pool12 : Array CpInfo := pool [(2, .class_ 4), (1, u "java/lang/Object"), (0, u "<init>"), (0, u "()V"), (17, .class_ 26), (1, u "jdk/internal/util/Preconditions"), (6, u "checkIndex"), (21, .class_ 56), (0, u "jdk/internal/util/Preconditions$4"), (57, .class_ 115), (0, u "jdk/internal/util/Preconditions$1"), (7, u "SIOOBE_FORMATTER"), (0, u "Ljava/util/function/BiFunction;"), (0, .class_ 126), (0, u "jdk/internal/util/Preconditions$2"), (3, u "AIOOBE_FORMATTER"), (0, .class_ 132), (0, u "jdk/internal/util/Preconditions$3"), (3, u "IOOBE_FORMATTER"), (41, u "(IILjava/util/function/BiFunction;)I")] 15

def k12m0 : Method := { name := "<init>", desc := "()V", sig := { parameters := [], returnType := none }, accessFlags := 1, code := none }
def k12c1 : Code := { maxStack := 3, maxLocals := 3, code := jdk_41_method_11_code, exceptionTable := #[], attributes := #[] }
def k12m1 : Method := { name := "checkIndex", desc := "(IILjava/util/function/BiFunction;)I", sig := { parameters := [.int, .int, (.object "java/util/function/BiFunction")], returnType := some .int }, accessFlags := 9, code := some k12c1 }
/-- jdk/internal/util/Preconditions -/
def k12 : Class := { plain "jdk/internal/util/Preconditions" (some 0) with
  accessFlags := 33
  interfaces := #[]
  cf := some (fileOf pool12 24 #[.nestMembers #[55, 131, 125, 114]] #[{ accessFlags := 1, nameIndex := 5, descriptorIndex := 6, attributes := #[] }, { accessFlags := 9, nameIndex := 33, descriptorIndex := 178, attributes := #[] }] 33 2 #[] #[{ accessFlags := 25, nameIndex := 123, descriptorIndex := 124, attributes := #[] }, { accessFlags := 25, nameIndex := 130, descriptorIndex := 124, attributes := #[] }, { accessFlags := 25, nameIndex := 136, descriptorIndex := 124, attributes := #[] }])
  fields := #[{ name := "SIOOBE_FORMATTER", type := (.object "java/util/function/BiFunction"), accessFlags := 25, slot := 0, constantValue := 0 }, { name := "AIOOBE_FORMATTER", type := (.object "java/util/function/BiFunction"), accessFlags := 25, slot := 1, constantValue := 0 }, { name := "IOOBE_FORMATTER", type := (.object "java/util/function/BiFunction"), accessFlags := 25, slot := 2, constantValue := 0 }]
  methods := #[k12m0, k12m1]
  instanceTypes := #[]
  staticTypes := #[(.object "java/util/function/BiFunction"), (.object "java/util/function/BiFunction"), (.object "java/util/function/BiFunction")]
  resolved := Array.replicate 194 none
  statics := some 2 }

def pool13 : Array CpInfo := pool [(1, .class_ 2), (0, u "java/lang/Cloneable"), (0, .class_ 4), (0, u "java/lang/Object")] 2

/-- java/lang/Cloneable -/
def k13 : Class := { plain "java/lang/Cloneable" (some 0) with
  accessFlags := 1537
  interfaces := #[]
  cf := some (fileOf pool13 1 #[] #[] 1537 3 #[] #[])
  fields := #[]
  methods := #[]
  instanceTypes := #[]
  staticTypes := #[]
  resolved := Array.replicate 7 none
  statics := none }

def pool14 : Array CpInfo := pool [(1, .class_ 2), (0, u "java/util/BitSet"), (0, .fieldref 1 4), (0, .nameAndType 5 6), (0, u "$assertionsDisabled"), (0, u "Z"), (0, .fieldref 1 8), (0, .nameAndType 9 10), (0, u "wordsInUse"), (0, u "I"), (0, .fieldref 1 12), (0, .nameAndType 13 14), (0, u "words"), (0, u "[J"), (3, .nameAndType 19 20), (0, u "<init>"), (0, u "()V"), (0, .methodref 22 18), (0, .class_ 23), (0, u "java/lang/Object"), (0, .fieldref 1 25), (0, .nameAndType 26 6), (0, u "sizeIsSticky"), (0, .methodref 1 28), (0, .nameAndType 29 30), (0, u "initWords"), (0, u "(I)V"), (21, .methodref 1 53), (0, .nameAndType 54 55), (0, u "wordIndex"), (0, u "(I)I"), (0, .methodref 1 57), (0, .nameAndType 58 20), (0, u "checkInvariants"), (21, u "get"), (58, .methodref 1 140), (0, .nameAndType 141 30), (0, u "ensureCapacity"), (13, .methodref 1 156), (0, .nameAndType 157 30), (0, u "expandTo"), (0, .methodref 1 159), (0, .nameAndType 160 20), (0, u "recalculateWordsInUse"), (4, .long 18446744073709551615), (1, .methodref 1 168), (0, .nameAndType 169 30), (0, u "set"), (0, .methodref 1 171), (0, .nameAndType 172 30), (0, u "clear"), (96, .class_ 270), (0, u "java/util/BitSet$1BitSetSpliterator"), (22, u "serialPersistentFields"), (0, u "[Ljava/io/ObjectStreamField;"), (0, .class_ 296), (0, u "java/lang/Cloneable"), (0, .class_ 298), (0, u "java/io/Serializable"), (0, u "ADDRESS_BITS_PER_WORD"), (2, u "BITS_PER_WORD"), (1, u "BIT_INDEX_MASK"), (1, u "WORD_MASK"), (0, u "J"), (0, u "serialVersionUID"), (39, u "(IZ)V"), (2, u "(I)Z")] 65

def k14c0 : Code := { maxStack := 2, maxLocals := 1, code := jdk_92_method_1_code, exceptionTable := #[], attributes := #[] }
def k14m0 : Method := { name := "wordIndex", desc := "(I)I", sig := { parameters := [.int], returnType := some .int }, accessFlags := 10, code := some k14c0 }
def k14c1 : Code := { maxStack := 4, maxLocals := 1, code := jdk_92_method_2_code, exceptionTable := #[], attributes := #[] }
def k14m1 : Method := { name := "checkInvariants", desc := "()V", sig := { parameters := [], returnType := none }, accessFlags := 2, code := some k14c1 }
def k14c2 : Code := { maxStack := 4, maxLocals := 2, code := jdk_92_method_3_code, exceptionTable := #[], attributes := #[] }
def k14m2 : Method := { name := "recalculateWordsInUse", desc := "()V", sig := { parameters := [], returnType := none }, accessFlags := 2, code := some k14c2 }
def k14c3 : Code := { maxStack := 2, maxLocals := 1, code := jdk_92_method_4_code, exceptionTable := #[], attributes := #[] }
def k14m3 : Method := { name := "<init>", desc := "()V", sig := { parameters := [], returnType := none }, accessFlags := 1, code := some k14c3 }
def k14c4 : Code := { maxStack := 3, maxLocals := 2, code := jdk_92_method_6_code, exceptionTable := #[], attributes := #[] }
def k14m4 : Method := { name := "initWords", desc := "(I)V", sig := { parameters := [.int], returnType := none }, accessFlags := 2, code := some k14c4 }
def k14c5 : Code := { maxStack := 3, maxLocals := 3, code := jdk_92_method_14_code, exceptionTable := #[], attributes := #[] }
def k14m5 : Method := { name := "ensureCapacity", desc := "(I)V", sig := { parameters := [.int], returnType := none }, accessFlags := 2, code := some k14c5 }
def k14c6 : Code := { maxStack := 2, maxLocals := 3, code := jdk_92_method_15_code, exceptionTable := #[], attributes := #[] }
def k14m6 : Method := { name := "expandTo", desc := "(I)V", sig := { parameters := [.int], returnType := none }, accessFlags := 2, code := some k14c6 }
def k14c7 : Code := { maxStack := 7, maxLocals := 3, code := jdk_92_method_19_code, exceptionTable := #[], attributes := #[] }
def k14m7 : Method := { name := "set", desc := "(I)V", sig := { parameters := [.int], returnType := none }, accessFlags := 1, code := some k14c7 }
def k14c8 : Code := { maxStack := 2, maxLocals := 3, code := jdk_92_method_20_code, exceptionTable := #[], attributes := #[] }
def k14m8 : Method := { name := "set", desc := "(IZ)V", sig := { parameters := [.int, .boolean], returnType := none }, accessFlags := 1, code := some k14c8 }
def k14c9 : Code := { maxStack := 8, maxLocals := 3, code := jdk_92_method_23_code, exceptionTable := #[], attributes := #[] }
def k14m9 : Method := { name := "clear", desc := "(I)V", sig := { parameters := [.int], returnType := none }, accessFlags := 1, code := some k14c9 }
def k14c10 : Code := { maxStack := 5, maxLocals := 3, code := jdk_92_method_26_code, exceptionTable := #[], attributes := #[] }
def k14m10 : Method := { name := "get", desc := "(I)Z", sig := { parameters := [.int], returnType := some .boolean }, accessFlags := 1, code := some k14c10 }
/-- java/util/BitSet -/
def k14 : Class := { plain "java/util/BitSet" (some 0) with
  accessFlags := 33
  interfaces := #[13, 2]
  cf := some (fileOf pool14 1 #[.nestMembers #[269]] #[{ accessFlags := 10, nameIndex := 54, descriptorIndex := 55, attributes := #[] }, { accessFlags := 2, nameIndex := 58, descriptorIndex := 20, attributes := #[] }, { accessFlags := 2, nameIndex := 160, descriptorIndex := 20, attributes := #[] }, { accessFlags := 1, nameIndex := 19, descriptorIndex := 20, attributes := #[] }, { accessFlags := 2, nameIndex := 29, descriptorIndex := 30, attributes := #[] }, { accessFlags := 2, nameIndex := 141, descriptorIndex := 30, attributes := #[] }, { accessFlags := 2, nameIndex := 157, descriptorIndex := 30, attributes := #[] }, { accessFlags := 1, nameIndex := 169, descriptorIndex := 30, attributes := #[] }, { accessFlags := 1, nameIndex := 169, descriptorIndex := 348, attributes := #[] }, { accessFlags := 1, nameIndex := 172, descriptorIndex := 30, attributes := #[] }, { accessFlags := 1, nameIndex := 80, descriptorIndex := 351, attributes := #[] }] 33 22 #[295, 297] #[{ accessFlags := 26, nameIndex := 299, descriptorIndex := 10, attributes := #[] }, { accessFlags := 26, nameIndex := 302, descriptorIndex := 10, attributes := #[] }, { accessFlags := 26, nameIndex := 304, descriptorIndex := 10, attributes := #[] }, { accessFlags := 26, nameIndex := 306, descriptorIndex := 307, attributes := #[] }, { accessFlags := 26, nameIndex := 293, descriptorIndex := 294, attributes := #[] }, { accessFlags := 2, nameIndex := 13, descriptorIndex := 14, attributes := #[] }, { accessFlags := 130, nameIndex := 9, descriptorIndex := 10, attributes := #[] }, { accessFlags := 130, nameIndex := 26, descriptorIndex := 6, attributes := #[] }, { accessFlags := 26, nameIndex := 308, descriptorIndex := 307, attributes := #[] }, { accessFlags := 4120, nameIndex := 5, descriptorIndex := 6, attributes := #[] }])
  fields := #[{ name := "ADDRESS_BITS_PER_WORD", type := .int, accessFlags := 26, slot := 0, constantValue := 0 }, { name := "BITS_PER_WORD", type := .int, accessFlags := 26, slot := 1, constantValue := 0 }, { name := "BIT_INDEX_MASK", type := .int, accessFlags := 26, slot := 2, constantValue := 0 }, { name := "WORD_MASK", type := .long, accessFlags := 26, slot := 3, constantValue := 0 }, { name := "serialPersistentFields", type := (.array (.object "java/io/ObjectStreamField")), accessFlags := 26, slot := 4, constantValue := 0 }, { name := "words", type := (.array .long), accessFlags := 2, slot := 0, constantValue := 0 }, { name := "wordsInUse", type := .int, accessFlags := 130, slot := 1, constantValue := 0 }, { name := "sizeIsSticky", type := .boolean, accessFlags := 130, slot := 2, constantValue := 0 }, { name := "serialVersionUID", type := .long, accessFlags := 26, slot := 5, constantValue := 0 }, { name := "$assertionsDisabled", type := .boolean, accessFlags := 4120, slot := 6, constantValue := 0 }]
  methods := #[k14m0, k14m1, k14m2, k14m3, k14m4, k14m5, k14m6, k14m7, k14m8, k14m9, k14m10]
  instanceTypes := #[(.array .long), .int, .boolean]
  staticTypes := #[.int, .int, .int, .long, (.array (.object "java/io/ObjectStreamField")), .long, .boolean]
  resolved := Array.replicate 417 none
  statics := some 3 }

def pool15 : Array CpInfo := pool [(1, .class_ 2), (0, u "java/lang/Math"), (1, .class_ 6), (1, u "java/lang/Object"), (0, u "<init>"), (0, u "()V"), (89, .class_ 100), (1, u "java/lang/Math$RandomNumberGeneratorHolder"), (71, u "negativeZeroFloatBits"), (0, u "J"), (2, u "negativeZeroDoubleBits"), (21, u "max"), (2, u "min"), (43, u "$assertionsDisabled"), (0, u "Z"), (88, u "(II)I"), (2, u "twoToTheDoubleScaleDown"), (0, u "D"), (4, u "twoToTheDoubleScaleUp"), (9, u "E"), (3, u "PI"), (2, u "TAU"), (2, u "DEGREES_TO_RADIANS"), (0, u "RADIANS_TO_DEGREES")] 94

def k15m0 : Method := { name := "<init>", desc := "()V", sig := { parameters := [], returnType := none }, accessFlags := 2, code := none }
def k15c1 : Code := { maxStack := 2, maxLocals := 2, code := jdk_29_method_65_code, exceptionTable := #[], attributes := #[] }
def k15m1 : Method := { name := "max", desc := "(II)I", sig := { parameters := [.int, .int], returnType := some .int }, accessFlags := 9, code := some k15c1 }
def k15c2 : Code := { maxStack := 2, maxLocals := 2, code := jdk_29_method_69_code, exceptionTable := #[], attributes := #[] }
def k15m2 : Method := { name := "min", desc := "(II)I", sig := { parameters := [.int, .int], returnType := some .int }, accessFlags := 9, code := some k15c2 }
/-- java/lang/Math -/
def k15 : Class := { plain "java/lang/Math" (some 0) with
  accessFlags := 49
  interfaces := #[]
  cf := some (fileOf pool15 1 #[.nestMembers #[98]] #[{ accessFlags := 2, nameIndex := 7, descriptorIndex := 8, attributes := #[] }, { accessFlags := 9, nameIndex := 198, descriptorIndex := 335, attributes := #[] }, { accessFlags := 9, nameIndex := 201, descriptorIndex := 335, attributes := #[] }] 49 4 #[] #[{ accessFlags := 25, nameIndex := 354, descriptorIndex := 339, attributes := #[] }, { accessFlags := 25, nameIndex := 358, descriptorIndex := 339, attributes := #[] }, { accessFlags := 25, nameIndex := 361, descriptorIndex := 339, attributes := #[] }, { accessFlags := 26, nameIndex := 364, descriptorIndex := 339, attributes := #[] }, { accessFlags := 26, nameIndex := 365, descriptorIndex := 339, attributes := #[] }, { accessFlags := 26, nameIndex := 172, descriptorIndex := 173, attributes := #[] }, { accessFlags := 26, nameIndex := 176, descriptorIndex := 173, attributes := #[] }, { accessFlags := 8, nameIndex := 344, descriptorIndex := 339, attributes := #[] }, { accessFlags := 8, nameIndex := 338, descriptorIndex := 339, attributes := #[] }, { accessFlags := 4120, nameIndex := 245, descriptorIndex := 246, attributes := #[] }])
  fields := #[{ name := "E", type := .double, accessFlags := 25, slot := 0, constantValue := 0 }, { name := "PI", type := .double, accessFlags := 25, slot := 1, constantValue := 0 }, { name := "TAU", type := .double, accessFlags := 25, slot := 2, constantValue := 0 }, { name := "DEGREES_TO_RADIANS", type := .double, accessFlags := 26, slot := 3, constantValue := 0 }, { name := "RADIANS_TO_DEGREES", type := .double, accessFlags := 26, slot := 4, constantValue := 0 }, { name := "negativeZeroFloatBits", type := .long, accessFlags := 26, slot := 5, constantValue := 0 }, { name := "negativeZeroDoubleBits", type := .long, accessFlags := 26, slot := 6, constantValue := 0 }, { name := "twoToTheDoubleScaleUp", type := .double, accessFlags := 8, slot := 7, constantValue := 0 }, { name := "twoToTheDoubleScaleDown", type := .double, accessFlags := 8, slot := 8, constantValue := 0 }, { name := "$assertionsDisabled", type := .boolean, accessFlags := 4120, slot := 9, constantValue := 0 }]
  methods := #[k15m0, k15m1, k15m2]
  instanceTypes := #[]
  staticTypes := #[.double, .double, .double, .double, .double, .long, .long, .double, .double, .boolean]
  resolved := Array.replicate 460 none
  statics := none }

def pool16 : Array CpInfo := pool [(1, .class_ 2), (0, u "java/lang/Character"), (18, u "value"), (0, u "C"), (19, .class_ 44), (1, u "java/lang/Object"), (3, .class_ 50), (1, u "java/lang/Character$CharacterCache"), (24, .integer 55296), (0, .integer 56320), (0, .integer 57344), (2, u "isHighSurrogate"), (0, u "(C)Z"), (2, u "isLowSurrogate"), (199, u "$assertionsDisabled"), (0, u "Z"), (21, .class_ 309), (1, u "java/lang/Character$UnicodeBlock"), (73, u "TYPE"), (0, u "Ljava/lang/Class;"), (0, .class_ 386), (0, u "java/io/Serializable"), (0, .class_ 388), (0, u "java/lang/Comparable"), (0, .class_ 390), (0, u "java/lang/constant/Constable"), (0, u "MIN_RADIX"), (0, u "I"), (2, u "MAX_RADIX"), (1, u "MIN_VALUE"), (1, u "MAX_VALUE"), (3, u "UNASSIGNED"), (0, u "B"), (0, u "UPPERCASE_LETTER"), (1, u "LOWERCASE_LETTER"), (0, u "TITLECASE_LETTER"), (1, u "MODIFIER_LETTER"), (1, u "OTHER_LETTER"), (1, u "NON_SPACING_MARK"), (1, u "ENCLOSING_MARK"), (1, u "COMBINING_SPACING_MARK"), (1, u "DECIMAL_DIGIT_NUMBER"), (1, u "LETTER_NUMBER"), (1, u "OTHER_NUMBER"), (1, u "SPACE_SEPARATOR"), (1, u "LINE_SEPARATOR"), (1, u "PARAGRAPH_SEPARATOR"), (1, u "CONTROL"), (1, u "FORMAT"), (1, u "PRIVATE_USE"), (1, u "SURROGATE"), (1, u "DASH_PUNCTUATION"), (1, u "START_PUNCTUATION"), (1, u "END_PUNCTUATION"), (1, u "CONNECTOR_PUNCTUATION"), (1, u "OTHER_PUNCTUATION"), (1, u "MATH_SYMBOL"), (1, u "CURRENCY_SYMBOL"), (1, u "MODIFIER_SYMBOL"), (1, u "OTHER_SYMBOL"), (1, u "INITIAL_QUOTE_PUNCTUATION"), (1, u "FINAL_QUOTE_PUNCTUATION"), (1, u "ERROR"), (1, u "DIRECTIONALITY_UNDEFINED"), (0, u "DIRECTIONALITY_LEFT_TO_RIGHT"), (0, u "DIRECTIONALITY_RIGHT_TO_LEFT"), (0, u "DIRECTIONALITY_RIGHT_TO_LEFT_ARABIC"), (0, u "DIRECTIONALITY_EUROPEAN_NUMBER"), (0, u "DIRECTIONALITY_EUROPEAN_NUMBER_SEPARATOR"), (0, u "DIRECTIONALITY_EUROPEAN_NUMBER_TERMINATOR"), (0, u "DIRECTIONALITY_ARABIC_NUMBER"), (0, u "DIRECTIONALITY_COMMON_NUMBER_SEPARATOR"), (0, u "DIRECTIONALITY_NONSPACING_MARK"), (0, u "DIRECTIONALITY_BOUNDARY_NEUTRAL"), (0, u "DIRECTIONALITY_PARAGRAPH_SEPARATOR"), (0, u "DIRECTIONALITY_SEGMENT_SEPARATOR"), (0, u "DIRECTIONALITY_WHITESPACE"), (0, u "DIRECTIONALITY_OTHER_NEUTRALS"), (0, u "DIRECTIONALITY_LEFT_TO_RIGHT_EMBEDDING"), (0, u "DIRECTIONALITY_LEFT_TO_RIGHT_OVERRIDE"), (0, u "DIRECTIONALITY_RIGHT_TO_LEFT_EMBEDDING"), (0, u "DIRECTIONALITY_RIGHT_TO_LEFT_OVERRIDE"), (1, u "DIRECTIONALITY_POP_DIRECTIONAL_FORMAT"), (0, u "DIRECTIONALITY_LEFT_TO_RIGHT_ISOLATE"), (0, u "DIRECTIONALITY_RIGHT_TO_LEFT_ISOLATE"), (0, u "DIRECTIONALITY_FIRST_STRONG_ISOLATE"), (0, u "DIRECTIONALITY_POP_DIRECTIONAL_ISOLATE"), (0, u "MIN_HIGH_SURROGATE"), (0, u "MAX_HIGH_SURROGATE"), (1, u "MIN_LOW_SURROGATE"), (0, u "MAX_LOW_SURROGATE"), (1, u "MIN_SURROGATE"), (0, u "MAX_SURROGATE"), (0, u "MIN_SUPPLEMENTARY_CODE_POINT"), (0, u "MIN_CODE_POINT"), (0, u "MAX_CODE_POINT"), (1, u "serialVersionUID"), (0, u "J"), (2, u "SIZE"), (0, u "BYTES"), (24, u "isSurrogate"), (63, .class_ 596), (0, u "java/lang/Character$UnicodeScript"), (0, .class_ 598), (0, u "java/lang/Character$Subset")] 5

def k16c0 : Code := { maxStack := 2, maxLocals := 1, code := jdk_89_method_14_code, exceptionTable := #[], attributes := #[] }
def k16m0 : Method := { name := "isHighSurrogate", desc := "(C)Z", sig := { parameters := [.char], returnType := some .boolean }, accessFlags := 9, code := some k16c0 }
def k16c1 : Code := { maxStack := 2, maxLocals := 1, code := jdk_89_method_15_code, exceptionTable := #[], attributes := #[] }
def k16m1 : Method := { name := "isLowSurrogate", desc := "(C)Z", sig := { parameters := [.char], returnType := some .boolean }, accessFlags := 9, code := some k16c1 }
def k16c2 : Code := { maxStack := 2, maxLocals := 1, code := jdk_89_method_16_code, exceptionTable := #[], attributes := #[] }
def k16m2 : Method := { name := "isSurrogate", desc := "(C)Z", sig := { parameters := [.char], returnType := some .boolean }, accessFlags := 9, code := some k16c2 }
/-- java/lang/Character -/
def k16 : Class := { plain "java/lang/Character" (some 0) with
  accessFlags := 49
  interfaces := #[2, 3, 5]
  cf := some (fileOf pool16 1 #[.nestMembers #[48, 595, 307, 597]] #[{ accessFlags := 9, nameIndex := 80, descriptorIndex := 81, attributes := #[] }, { accessFlags := 9, nameIndex := 84, descriptorIndex := 81, attributes := #[] }, { accessFlags := 9, nameIndex := 531, descriptorIndex := 81, attributes := #[] }] 49 42 #[385, 387, 389] #[{ accessFlags := 25, nameIndex := 391, descriptorIndex := 392, attributes := #[] }, { accessFlags := 25, nameIndex := 395, descriptorIndex := 392, attributes := #[] }, { accessFlags := 25, nameIndex := 397, descriptorIndex := 22, attributes := #[] }, { accessFlags := 25, nameIndex := 399, descriptorIndex := 22, attributes := #[] }, { accessFlags := 25, nameIndex := 383, descriptorIndex := 384, attributes := #[] }, { accessFlags := 25, nameIndex := 403, descriptorIndex := 404, attributes := #[] }, { accessFlags := 25, nameIndex := 405, descriptorIndex := 404, attributes := #[] }, { accessFlags := 25, nameIndex := 407, descriptorIndex := 404, attributes := #[] }, { accessFlags := 25, nameIndex := 408, descriptorIndex := 404, attributes := #[] }, { accessFlags := 25, nameIndex := 410, descriptorIndex := 404, attributes := #[] }, { accessFlags := 25, nameIndex := 412, descriptorIndex := 404, attributes := #[] }, { accessFlags := 25, nameIndex := 414, descriptorIndex := 404, attributes := #[] }, { accessFlags := 25, nameIndex := 416, descriptorIndex := 404, attributes := #[] }, { accessFlags := 25, nameIndex := 418, descriptorIndex := 404, attributes := #[] }, { accessFlags := 25, nameIndex := 420, descriptorIndex := 404, attributes := #[] }, { accessFlags := 25, nameIndex := 422, descriptorIndex := 404, attributes := #[] }, { accessFlags := 25, nameIndex := 424, descriptorIndex := 404, attributes := #[] }, { accessFlags := 25, nameIndex := 426, descriptorIndex := 404, attributes := #[] }, { accessFlags := 25, nameIndex := 428, descriptorIndex := 404, attributes := #[] }, { accessFlags := 25, nameIndex := 430, descriptorIndex := 404, attributes := #[] }, { accessFlags := 25, nameIndex := 432, descriptorIndex := 404, attributes := #[] }, { accessFlags := 25, nameIndex := 434, descriptorIndex := 404, attributes := #[] }, { accessFlags := 25, nameIndex := 436, descriptorIndex := 404, attributes := #[] }, { accessFlags := 25, nameIndex := 438, descriptorIndex := 404, attributes := #[] }, { accessFlags := 25, nameIndex := 440, descriptorIndex := 404, attributes := #[] }, { accessFlags := 25, nameIndex := 442, descriptorIndex := 404, attributes := #[] }, { accessFlags := 25, nameIndex := 444, descriptorIndex := 404, attributes := #[] }, { accessFlags := 25, nameIndex := 446, descriptorIndex := 404, attributes := #[] }, { accessFlags := 25, nameIndex := 448, descriptorIndex := 404, attributes := #[] }, { accessFlags := 25, nameIndex := 450, descriptorIndex := 404, attributes := #[] }, { accessFlags := 25, nameIndex := 452, descriptorIndex := 404, attributes := #[] }, { accessFlags := 25, nameIndex := 454, descriptorIndex := 404, attributes := #[] }, { accessFlags := 25, nameIndex := 456, descriptorIndex := 404, attributes := #[] }, { accessFlags := 25, nameIndex := 458, descriptorIndex := 404, attributes := #[] }, { accessFlags := 25, nameIndex := 460, descriptorIndex := 404, attributes := #[] }, { accessFlags := 24, nameIndex := 462, descriptorIndex := 392, attributes := #[] }, { accessFlags := 25, nameIndex := 464, descriptorIndex := 404, attributes := #[] }, { accessFlags := 25, nameIndex := 465, descriptorIndex := 404, attributes := #[] }, { accessFlags := 25, nameIndex := 466, descriptorIndex := 404, attributes := #[] }, { accessFlags := 25, nameIndex := 467, descriptorIndex := 404, attributes := #[] }, { accessFlags := 25, nameIndex := 468, descriptorIndex := 404, attributes := #[] }, { accessFlags := 25, nameIndex := 469, descriptorIndex := 404, attributes := #[] }, { accessFlags := 25, nameIndex := 470, descriptorIndex := 404, attributes := #[] }, { accessFlags := 25, nameIndex := 471, descriptorIndex := 404, attributes := #[] }, { accessFlags := 25, nameIndex := 472, descriptorIndex := 404, attributes := #[] }, { accessFlags := 25, nameIndex := 473, descriptorIndex := 404, attributes := #[] }, { accessFlags := 25, nameIndex := 474, descriptorIndex := 404, attributes := #[] }, { accessFlags := 25, nameIndex := 475, descriptorIndex := 404, attributes := #[] }, { accessFlags := 25, nameIndex := 476, descriptorIndex := 404, attributes := #[] }, { accessFlags := 25, nameIndex := 477, descriptorIndex := 404, attributes := #[] }, { accessFlags := 25, nameIndex := 478, descriptorIndex := 404, attributes := #[] }, { accessFlags := 25, nameIndex := 479, descriptorIndex := 404, attributes := #[] }, { accessFlags := 25, nameIndex := 480, descriptorIndex := 404, attributes := #[] }, { accessFlags := 25, nameIndex := 481, descriptorIndex := 404, attributes := #[] }, { accessFlags := 25, nameIndex := 482, descriptorIndex := 404, attributes := #[] }, { accessFlags := 25, nameIndex := 484, descriptorIndex := 404, attributes := #[] }, { accessFlags := 25, nameIndex := 485, descriptorIndex := 404, attributes := #[] }, { accessFlags := 25, nameIndex := 486, descriptorIndex := 404, attributes := #[] }, { accessFlags := 25, nameIndex := 487, descriptorIndex := 404, attributes := #[] }, { accessFlags := 25, nameIndex := 488, descriptorIndex := 404, attributes := #[] }, { accessFlags := 25, nameIndex := 489, descriptorIndex := 22, attributes := #[] }, { accessFlags := 25, nameIndex := 490, descriptorIndex := 22, attributes := #[] }, { accessFlags := 25, nameIndex := 492, descriptorIndex := 22, attributes := #[] }, { accessFlags := 25, nameIndex := 493, descriptorIndex := 22, attributes := #[] }, { accessFlags := 25, nameIndex := 495, descriptorIndex := 22, attributes := #[] }, { accessFlags := 25, nameIndex := 496, descriptorIndex := 22, attributes := #[] }, { accessFlags := 25, nameIndex := 497, descriptorIndex := 392, attributes := #[] }, { accessFlags := 25, nameIndex := 498, descriptorIndex := 392, attributes := #[] }, { accessFlags := 25, nameIndex := 499, descriptorIndex := 392, attributes := #[] }, { accessFlags := 18, nameIndex := 21, descriptorIndex := 22, attributes := #[] }, { accessFlags := 26, nameIndex := 501, descriptorIndex := 502, attributes := #[] }, { accessFlags := 25, nameIndex := 505, descriptorIndex := 392, attributes := #[] }, { accessFlags := 25, nameIndex := 506, descriptorIndex := 392, attributes := #[] }, { accessFlags := 4120, nameIndex := 284, descriptorIndex := 285, attributes := #[] }])
  fields := #[{ name := "MIN_RADIX", type := .int, accessFlags := 25, slot := 0, constantValue := 0 }, { name := "MAX_RADIX", type := .int, accessFlags := 25, slot := 1, constantValue := 0 }, { name := "MIN_VALUE", type := .char, accessFlags := 25, slot := 2, constantValue := 0 }, { name := "MAX_VALUE", type := .char, accessFlags := 25, slot := 3, constantValue := 0 }, { name := "TYPE", type := (.object "java/lang/Class"), accessFlags := 25, slot := 4, constantValue := 0 }, { name := "UNASSIGNED", type := .byte, accessFlags := 25, slot := 5, constantValue := 0 }, { name := "UPPERCASE_LETTER", type := .byte, accessFlags := 25, slot := 6, constantValue := 0 }, { name := "LOWERCASE_LETTER", type := .byte, accessFlags := 25, slot := 7, constantValue := 0 }, { name := "TITLECASE_LETTER", type := .byte, accessFlags := 25, slot := 8, constantValue := 0 }, { name := "MODIFIER_LETTER", type := .byte, accessFlags := 25, slot := 9, constantValue := 0 }, { name := "OTHER_LETTER", type := .byte, accessFlags := 25, slot := 10, constantValue := 0 }, { name := "NON_SPACING_MARK", type := .byte, accessFlags := 25, slot := 11, constantValue := 0 }, { name := "ENCLOSING_MARK", type := .byte, accessFlags := 25, slot := 12, constantValue := 0 }, { name := "COMBINING_SPACING_MARK", type := .byte, accessFlags := 25, slot := 13, constantValue := 0 }, { name := "DECIMAL_DIGIT_NUMBER", type := .byte, accessFlags := 25, slot := 14, constantValue := 0 }, { name := "LETTER_NUMBER", type := .byte, accessFlags := 25, slot := 15, constantValue := 0 }, { name := "OTHER_NUMBER", type := .byte, accessFlags := 25, slot := 16, constantValue := 0 }, { name := "SPACE_SEPARATOR", type := .byte, accessFlags := 25, slot := 17, constantValue := 0 }, { name := "LINE_SEPARATOR", type := .byte, accessFlags := 25, slot := 18, constantValue := 0 }, { name := "PARAGRAPH_SEPARATOR", type := .byte, accessFlags := 25, slot := 19, constantValue := 0 }, { name := "CONTROL", type := .byte, accessFlags := 25, slot := 20, constantValue := 0 }, { name := "FORMAT", type := .byte, accessFlags := 25, slot := 21, constantValue := 0 }, { name := "PRIVATE_USE", type := .byte, accessFlags := 25, slot := 22, constantValue := 0 }, { name := "SURROGATE", type := .byte, accessFlags := 25, slot := 23, constantValue := 0 }, { name := "DASH_PUNCTUATION", type := .byte, accessFlags := 25, slot := 24, constantValue := 0 }, { name := "START_PUNCTUATION", type := .byte, accessFlags := 25, slot := 25, constantValue := 0 }, { name := "END_PUNCTUATION", type := .byte, accessFlags := 25, slot := 26, constantValue := 0 }, { name := "CONNECTOR_PUNCTUATION", type := .byte, accessFlags := 25, slot := 27, constantValue := 0 }, { name := "OTHER_PUNCTUATION", type := .byte, accessFlags := 25, slot := 28, constantValue := 0 }, { name := "MATH_SYMBOL", type := .byte, accessFlags := 25, slot := 29, constantValue := 0 }, { name := "CURRENCY_SYMBOL", type := .byte, accessFlags := 25, slot := 30, constantValue := 0 }, { name := "MODIFIER_SYMBOL", type := .byte, accessFlags := 25, slot := 31, constantValue := 0 }, { name := "OTHER_SYMBOL", type := .byte, accessFlags := 25, slot := 32, constantValue := 0 }, { name := "INITIAL_QUOTE_PUNCTUATION", type := .byte, accessFlags := 25, slot := 33, constantValue := 0 }, { name := "FINAL_QUOTE_PUNCTUATION", type := .byte, accessFlags := 25, slot := 34, constantValue := 0 }, { name := "ERROR", type := .int, accessFlags := 24, slot := 35, constantValue := 0 }, { name := "DIRECTIONALITY_UNDEFINED", type := .byte, accessFlags := 25, slot := 36, constantValue := 0 }, { name := "DIRECTIONALITY_LEFT_TO_RIGHT", type := .byte, accessFlags := 25, slot := 37, constantValue := 0 }, { name := "DIRECTIONALITY_RIGHT_TO_LEFT", type := .byte, accessFlags := 25, slot := 38, constantValue := 0 }, { name := "DIRECTIONALITY_RIGHT_TO_LEFT_ARABIC", type := .byte, accessFlags := 25, slot := 39, constantValue := 0 }, { name := "DIRECTIONALITY_EUROPEAN_NUMBER", type := .byte, accessFlags := 25, slot := 40, constantValue := 0 }, { name := "DIRECTIONALITY_EUROPEAN_NUMBER_SEPARATOR", type := .byte, accessFlags := 25, slot := 41, constantValue := 0 }, { name := "DIRECTIONALITY_EUROPEAN_NUMBER_TERMINATOR", type := .byte, accessFlags := 25, slot := 42, constantValue := 0 }, { name := "DIRECTIONALITY_ARABIC_NUMBER", type := .byte, accessFlags := 25, slot := 43, constantValue := 0 }, { name := "DIRECTIONALITY_COMMON_NUMBER_SEPARATOR", type := .byte, accessFlags := 25, slot := 44, constantValue := 0 }, { name := "DIRECTIONALITY_NONSPACING_MARK", type := .byte, accessFlags := 25, slot := 45, constantValue := 0 }, { name := "DIRECTIONALITY_BOUNDARY_NEUTRAL", type := .byte, accessFlags := 25, slot := 46, constantValue := 0 }, { name := "DIRECTIONALITY_PARAGRAPH_SEPARATOR", type := .byte, accessFlags := 25, slot := 47, constantValue := 0 }, { name := "DIRECTIONALITY_SEGMENT_SEPARATOR", type := .byte, accessFlags := 25, slot := 48, constantValue := 0 }, { name := "DIRECTIONALITY_WHITESPACE", type := .byte, accessFlags := 25, slot := 49, constantValue := 0 }, { name := "DIRECTIONALITY_OTHER_NEUTRALS", type := .byte, accessFlags := 25, slot := 50, constantValue := 0 }, { name := "DIRECTIONALITY_LEFT_TO_RIGHT_EMBEDDING", type := .byte, accessFlags := 25, slot := 51, constantValue := 0 }, { name := "DIRECTIONALITY_LEFT_TO_RIGHT_OVERRIDE", type := .byte, accessFlags := 25, slot := 52, constantValue := 0 }, { name := "DIRECTIONALITY_RIGHT_TO_LEFT_EMBEDDING", type := .byte, accessFlags := 25, slot := 53, constantValue := 0 }, { name := "DIRECTIONALITY_RIGHT_TO_LEFT_OVERRIDE", type := .byte, accessFlags := 25, slot := 54, constantValue := 0 }, { name := "DIRECTIONALITY_POP_DIRECTIONAL_FORMAT", type := .byte, accessFlags := 25, slot := 55, constantValue := 0 }, { name := "DIRECTIONALITY_LEFT_TO_RIGHT_ISOLATE", type := .byte, accessFlags := 25, slot := 56, constantValue := 0 }, { name := "DIRECTIONALITY_RIGHT_TO_LEFT_ISOLATE", type := .byte, accessFlags := 25, slot := 57, constantValue := 0 }, { name := "DIRECTIONALITY_FIRST_STRONG_ISOLATE", type := .byte, accessFlags := 25, slot := 58, constantValue := 0 }, { name := "DIRECTIONALITY_POP_DIRECTIONAL_ISOLATE", type := .byte, accessFlags := 25, slot := 59, constantValue := 0 }, { name := "MIN_HIGH_SURROGATE", type := .char, accessFlags := 25, slot := 60, constantValue := 0 }, { name := "MAX_HIGH_SURROGATE", type := .char, accessFlags := 25, slot := 61, constantValue := 0 }, { name := "MIN_LOW_SURROGATE", type := .char, accessFlags := 25, slot := 62, constantValue := 0 }, { name := "MAX_LOW_SURROGATE", type := .char, accessFlags := 25, slot := 63, constantValue := 0 }, { name := "MIN_SURROGATE", type := .char, accessFlags := 25, slot := 64, constantValue := 0 }, { name := "MAX_SURROGATE", type := .char, accessFlags := 25, slot := 65, constantValue := 0 }, { name := "MIN_SUPPLEMENTARY_CODE_POINT", type := .int, accessFlags := 25, slot := 66, constantValue := 0 }, { name := "MIN_CODE_POINT", type := .int, accessFlags := 25, slot := 67, constantValue := 0 }, { name := "MAX_CODE_POINT", type := .int, accessFlags := 25, slot := 68, constantValue := 0 }, { name := "value", type := .char, accessFlags := 18, slot := 0, constantValue := 0 }, { name := "serialVersionUID", type := .long, accessFlags := 26, slot := 69, constantValue := 0 }, { name := "SIZE", type := .int, accessFlags := 25, slot := 70, constantValue := 0 }, { name := "BYTES", type := .int, accessFlags := 25, slot := 71, constantValue := 0 }, { name := "$assertionsDisabled", type := .boolean, accessFlags := 4120, slot := 72, constantValue := 0 }]
  methods := #[k16m0, k16m1, k16m2]
  instanceTypes := #[.char]
  staticTypes := #[.int, .int, .char, .char, (.object "java/lang/Class"), .byte, .byte, .byte, .byte, .byte, .byte, .byte, .byte, .byte, .byte, .byte, .byte, .byte, .byte, .byte, .byte, .byte, .byte, .byte, .byte, .byte, .byte, .byte, .byte, .byte, .byte, .byte, .byte, .byte, .byte, .int, .byte, .byte, .byte, .byte, .byte, .byte, .byte, .byte, .byte, .byte, .byte, .byte, .byte, .byte, .byte, .byte, .byte, .byte, .byte, .byte, .byte, .byte, .byte, .byte, .char, .char, .char, .char, .char, .char, .int, .int, .int, .long, .int, .int, .boolean]
  resolved := Array.replicate 604 none
  statics := none }

def pool17 : Array CpInfo := pool [(9, u "<init>"), (6, .class_ 18), (1, u "java/lang/Object"), (0, u "()V"), (1, .class_ 23), (1, u "jdk/internal/util/ArraysSupport"), (0, u "LOG2_ARRAY_LONG_INDEX_SCALE"), (0, u "I"), (2, u "U"), (0, u "Ljdk/internal/misc/Unsafe;"), (8, u "BIG_ENDIAN"), (0, u "Z"), (8, u "LOG2_BYTE_BIT_SIZE"), (4, u "LOG2_ARRAY_INT_INDEX_SCALE"), (54, u "JLA"), (0, u "Ljdk/internal/access/JavaLangAccess;"), (11, u "LOG2_ARRAY_BOOLEAN_INDEX_SCALE"), (9, u "LOG2_ARRAY_BYTE_INDEX_SCALE"), (5, u "LOG2_ARRAY_CHAR_INDEX_SCALE"), (5, u "LOG2_ARRAY_SHORT_INDEX_SCALE"), (5, u "mismatch"), (12, u "LOG2_ARRAY_FLOAT_INDEX_SCALE"), (24, u "LOG2_ARRAY_DOUBLE_INDEX_SCALE"), (89, u "T_BOOLEAN"), (2, u "T_CHAR"), (1, u "T_FLOAT"), (1, u "T_DOUBLE"), (1, u "T_BYTE"), (1, u "T_SHORT"), (1, u "T_INT"), (1, u "T_LONG"), (1, u "SOFT_MAX_ARRAY_LENGTH"), (42, u "([BI[BII)I")] 40

def k17m0 : Method := { name := "<init>", desc := "()V", sig := { parameters := [], returnType := none }, accessFlags := 2, code := none }
def k17c1 : Code := { maxStack := 8, maxLocals := 8, code := jdk_48_method_14_code, exceptionTable := #[], attributes := #[] }
def k17m1 : Method := { name := "mismatch", desc := "([BI[BII)I", sig := { parameters := [(.array .byte), .int, (.array .byte), .int, .int], returnType := some .int }, accessFlags := 9, code := some k17c1 }
/-- jdk/internal/util/ArraysSupport -/
def k17 : Class := { plain "jdk/internal/util/ArraysSupport" (some 0) with
  accessFlags := 33
  interfaces := #[]
  cf := some (fileOf pool17 21 #[] #[{ accessFlags := 2, nameIndex := 9, descriptorIndex := 19, attributes := #[] }, { accessFlags := 9, nameIndex := 149, descriptorIndex := 337, attributes := #[] }] 33 16 #[] #[{ accessFlags := 24, nameIndex := 28, descriptorIndex := 29, attributes := #[] }, { accessFlags := 26, nameIndex := 38, descriptorIndex := 39, attributes := #[] }, { accessFlags := 25, nameIndex := 121, descriptorIndex := 25, attributes := #[] }, { accessFlags := 25, nameIndex := 131, descriptorIndex := 25, attributes := #[] }, { accessFlags := 25, nameIndex := 137, descriptorIndex := 25, attributes := #[] }, { accessFlags := 25, nameIndex := 143, descriptorIndex := 25, attributes := #[] }, { accessFlags := 25, nameIndex := 53, descriptorIndex := 25, attributes := #[] }, { accessFlags := 25, nameIndex := 24, descriptorIndex := 25, attributes := #[] }, { accessFlags := 25, nameIndex := 162, descriptorIndex := 25, attributes := #[] }, { accessFlags := 25, nameIndex := 187, descriptorIndex := 25, attributes := #[] }, { accessFlags := 26, nameIndex := 48, descriptorIndex := 25, attributes := #[] }, { accessFlags := 25, nameIndex := 277, descriptorIndex := 25, attributes := #[] }, { accessFlags := 25, nameIndex := 280, descriptorIndex := 25, attributes := #[] }, { accessFlags := 25, nameIndex := 282, descriptorIndex := 25, attributes := #[] }, { accessFlags := 25, nameIndex := 284, descriptorIndex := 25, attributes := #[] }, { accessFlags := 25, nameIndex := 286, descriptorIndex := 25, attributes := #[] }, { accessFlags := 25, nameIndex := 288, descriptorIndex := 25, attributes := #[] }, { accessFlags := 25, nameIndex := 290, descriptorIndex := 25, attributes := #[] }, { accessFlags := 25, nameIndex := 292, descriptorIndex := 25, attributes := #[] }, { accessFlags := 26, nameIndex := 108, descriptorIndex := 109, attributes := #[] }, { accessFlags := 25, nameIndex := 294, descriptorIndex := 25, attributes := #[] }])
  fields := #[{ name := "U", type := (.object "jdk/internal/misc/Unsafe"), accessFlags := 24, slot := 0, constantValue := 0 }, { name := "BIG_ENDIAN", type := .boolean, accessFlags := 26, slot := 1, constantValue := 0 }, { name := "LOG2_ARRAY_BOOLEAN_INDEX_SCALE", type := .int, accessFlags := 25, slot := 2, constantValue := 0 }, { name := "LOG2_ARRAY_BYTE_INDEX_SCALE", type := .int, accessFlags := 25, slot := 3, constantValue := 0 }, { name := "LOG2_ARRAY_CHAR_INDEX_SCALE", type := .int, accessFlags := 25, slot := 4, constantValue := 0 }, { name := "LOG2_ARRAY_SHORT_INDEX_SCALE", type := .int, accessFlags := 25, slot := 5, constantValue := 0 }, { name := "LOG2_ARRAY_INT_INDEX_SCALE", type := .int, accessFlags := 25, slot := 6, constantValue := 0 }, { name := "LOG2_ARRAY_LONG_INDEX_SCALE", type := .int, accessFlags := 25, slot := 7, constantValue := 0 }, { name := "LOG2_ARRAY_FLOAT_INDEX_SCALE", type := .int, accessFlags := 25, slot := 8, constantValue := 0 }, { name := "LOG2_ARRAY_DOUBLE_INDEX_SCALE", type := .int, accessFlags := 25, slot := 9, constantValue := 0 }, { name := "LOG2_BYTE_BIT_SIZE", type := .int, accessFlags := 26, slot := 10, constantValue := 0 }, { name := "T_BOOLEAN", type := .int, accessFlags := 25, slot := 11, constantValue := 0 }, { name := "T_CHAR", type := .int, accessFlags := 25, slot := 12, constantValue := 0 }, { name := "T_FLOAT", type := .int, accessFlags := 25, slot := 13, constantValue := 0 }, { name := "T_DOUBLE", type := .int, accessFlags := 25, slot := 14, constantValue := 0 }, { name := "T_BYTE", type := .int, accessFlags := 25, slot := 15, constantValue := 0 }, { name := "T_SHORT", type := .int, accessFlags := 25, slot := 16, constantValue := 0 }, { name := "T_INT", type := .int, accessFlags := 25, slot := 17, constantValue := 0 }, { name := "T_LONG", type := .int, accessFlags := 25, slot := 18, constantValue := 0 }, { name := "JLA", type := (.object "jdk/internal/access/JavaLangAccess"), accessFlags := 26, slot := 19, constantValue := 0 }, { name := "SOFT_MAX_ARRAY_LENGTH", type := .int, accessFlags := 25, slot := 20, constantValue := 0 }]
  methods := #[k17m0, k17m1]
  instanceTypes := #[]
  staticTypes := #[(.object "jdk/internal/misc/Unsafe"), .boolean, .int, .int, .int, .int, .int, .int, .int, .int, .int, .int, .int, .int, .int, .int, .int, .int, .int, (.object "jdk/internal/access/JavaLangAccess"), .int]
  resolved := Array.replicate 378 none
  statics := none }

/-- the primitive byte -/
def k18 : Class := { plain "byte" none with kind := .primitive 'B', accessFlags := 0x411 }
/-- [B -/
def k19 : Class := { plain "[B" (some 0) with kind := .array 18 .byte, interfaces := #[13, 2], accessFlags := 1041 }

/-- the primitive char -/
def k20 : Class := { plain "char" none with kind := .primitive 'C', accessFlags := 0x411 }
/-- [C -/
def k21 : Class := { plain "[C" (some 0) with kind := .array 20 .char, interfaces := #[13, 2], accessFlags := 1041 }

/-- the primitive int -/
def k22 : Class := { plain "int" none with kind := .primitive 'I', accessFlags := 0x411 }
/-- [I -/
def k23 : Class := { plain "[I" (some 0) with kind := .array 22 .int, interfaces := #[13, 2], accessFlags := 1041 }

/-- the primitive long -/
def k24 : Class := { plain "long" none with kind := .primitive 'J', accessFlags := 0x411 }
/-- [J -/
def k25 : Class := { plain "[J" (some 0) with kind := .array 24 .long, interfaces := #[13, 2], accessFlags := 1041 }

def heap : Heap := #[{ cls := 7, slots := #[.long 0, .int 1, .null, .int 0, .null, .int 0, .int 0], vm := .statics 7 },
  { cls := 8, slots := #[.int 0, .int 8, .int 0, .int 1], vm := .statics 8 },
  { cls := 12, slots := #[.null, .null, .null], vm := .statics 12 },
  { cls := 14, slots := #[.int 0, .int 0, .int 0, .long 0, .null, .long 0, .int 1], vm := .statics 14 }]
def classes : Array Class := #[k0, k1, k2, k3, k4, k5, k6, k7, k8, k9, k10, k11, k12, k13, k14, k15, k16, k17, k18, k19, k20, k21, k22, k23, k24, k25]
def interned : List (Array UInt16 × Addr) := []
def slotsUsed : Nat := 21
def theMethod : MethodId := ⟨1, 1⟩
def args0 : Array Value := #[.int 0, .int 0, .int 0, .int 0, .long 0, .long 0]
def aboutOver (below : List Frame) : State where
  vm := { classes := classes, interned := interned.toArray }
  heap := heap
  slotsUsed := slotsUsed
  threads := #[{ frames := .invoking theMethod args0 :: below }]
def below0 : List Frame := [.native { method := ⟨0, 0⟩, args := #[] }]
def about1 : State := aboutOver below0
def p0 : Program := .bare "" "" ""
def e0 : Env := launch0.env 0 0 0
theorem w_frames : about1.frames = Frame.invoking theMethod args0 :: below0 := rfl
set_option maxRecDepth 65536 in
theorem w_args : argsFit about1.vm theMethod args0 = true := by decide +kernel
set_option maxRecDepth 65536 in
theorem w_heap : heapFits about1 = true := by decide +kernel
set_option maxRecDepth 65536 in
theorem w_runnable : about1.curStatus? = some .runnable := by decide +kernel
set_option maxRecDepth 65536 in
theorem w_alone : about1.alone = true := by decide +kernel
set_option maxRecDepth 65536 in
theorem w_named : about1.methodNamed? x = some theMethod := by decide +kernel
set_option maxRecDepth 65536 in
theorem w_hears : about1.hears theMethod below0 = true := by decide +kernel
set_option maxRecDepth 65536 in
theorem w_ripe : about1.ripe theMethod args0 below0 = true := by decide +kernel
theorem w_running : about1.status = .running := rfl
set_option maxRecDepth 65536 in
theorem w_room : about1.hasRoom e0.platform room_1 = true :=
  launch0.hasRoom_least _ room_1 (by decide +kernel) (by decide +kernel) (by decide +kernel) (by decide +kernel) (by decide +kernel) (by decide +kernel)
theorem allAtoms_all (ts : List Jvm.Cond) (a : Array Jvm.Value) (st : Jvm.State) : (allAtoms ts).before a st = ts.all (fun c => c.before a st) := by
  induction ts with
  | nil => rfl
  | cons c t ih =>
    show (Jvm.Cond.and c (allAtoms t)).before a st = _
    rw [Jvm.Cond.before_and, ih, List.all_cons]
def words1 : List Jvm.Cond := Jvm.Cond.code x code maxLocals ret :: tables_1
/-- a 'code' word, met by the world's own term for the bytes: nothing is compared byte by byte -/
theorem code_word {y : MethodName} {bytes : ByteArray} {mx : Nat} {rt : Option FieldType} {a : Array Value} {s : State} {m : MethodId} {meth : Method} {c : Code} (h1 : s.methodNamed? y = some m) (h2 : s.vm.method? m = some meth) (h3 : meth.code = some c) (h4 : c.code = bytes)
    (h5 : (c.maxLocals == mx && c.exceptionTable.isEmpty && decide (c.maxStack ≤ mostOperands) && decide (meth.sig.returnType = rt) && !meth.locks && decide (parseMethodDescriptor y.desc = some meth.sig)) = true) : (Jvm.Cond.code y bytes mx rt).before a s = true := by
  simp only [Bool.and_eq_true, beq_iff_eq, Bool.not_eq_true', decide_eq_true_eq] at h5
  obtain ⟨⟨⟨⟨⟨g1, g2⟩, g3⟩, g4⟩, g5⟩, g6⟩ := h5
  simp [Cond.before, Cond.holds, Cond.value, h1, h2, h3, h4, g1, g2, g3, g4, g5, g6]
def isCode : Jvm.Cond → Bool
  | .code _ _ _ _ => true
  | _ => false
theorem all_split {L : List Jvm.Cond} {P : Jvm.Cond → Bool} (h1 : L.all (fun c => isCode c || P c) = true) (h2 : ∀ c ∈ L.filter isCode, P c = true) : L.all P = true := by
  refine List.all_eq_true.mpr fun c hc => ?_
  have h := List.all_eq_true.mp h1 c hc
  rcases Bool.eq_false_or_eq_true (isCode c) with hi | hi
  · exact h2 c (List.mem_filter.mpr ⟨hc, hi⟩)
  · simpa [hi] using h
set_option maxRecDepth 65536 in
theorem w_c0 : (Jvm.Cond.code x code maxLocals ret).before args0 about1 = true := code_word (m := ⟨1, 1⟩) (meth := k1m1) (c := k1c1) (by decide +kernel) rfl rfl rfl (by decide +kernel)
set_option maxRecDepth 65536 in
theorem w_c1 : (Jvm.Cond.code ({ cls := "com/example/limit1/limit1/JsonTextCheckPinLaw", name := "blanks", desc := "()[C" } : Jvm.MethodName) method_3_code (0 : Nat) (Option.some (Jvm.ClassFile.FieldType.array Jvm.ClassFile.FieldType.char))).before args0 about1 = true := code_word (m := ⟨1, 2⟩) (meth := k1m2) (c := k1c2) (by decide +kernel) rfl rfl rfl (by decide +kernel)
set_option maxRecDepth 65536 in
theorem w_c2 : (Jvm.Cond.code ({ cls := "com/example/limit1/limit1/JsonTextCheckPinLaw", name := "ws", desc := "(I)C" } : Jvm.MethodName) method_5_code (2 : Nat) (Option.some Jvm.ClassFile.FieldType.char)).before args0 about1 = true := code_word (m := ⟨1, 4⟩) (meth := k1m4) (c := k1c4) (by decide +kernel) rfl rfl rfl (by decide +kernel)
set_option maxRecDepth 65536 in
theorem w_c3 : (Jvm.Cond.code ({ cls := "com/example/limit1/limit1/JsonTextCheckPinLaw", name := "put", desc := "([CIC)I" } : Jvm.MethodName) method_4_code (3 : Nat) (Option.some Jvm.ClassFile.FieldType.int)).before args0 about1 = true := code_word (m := ⟨1, 3⟩) (meth := k1m3) (c := k1c3) (by decide +kernel) rfl rfl rfl (by decide +kernel)
set_option maxRecDepth 65536 in
theorem w_c4 : (Jvm.Cond.code ({ cls := "com/example/limit1/limit1/JsonTextCheckPinLaw", name := "number", desc := "([CIJ)I" } : Jvm.MethodName) method_7_code (5 : Nat) (Option.some Jvm.ClassFile.FieldType.int)).before args0 about1 = true := code_word (m := ⟨1, 6⟩) (meth := k1m6) (c := k1c6) (by decide +kernel) rfl rfl rfl (by decide +kernel)
set_option maxRecDepth 65536 in
theorem w_c5 : (Jvm.Cond.code ({ cls := "com/example/limit1/limit1/JsonTextCheckPinLaw", name := "digit", desc := "(J)C" } : Jvm.MethodName) method_6_code (2 : Nat) (Option.some Jvm.ClassFile.FieldType.char)).before args0 about1 = true := code_word (m := ⟨1, 5⟩) (meth := k1m5) (c := k1c5) (by decide +kernel) rfl rfl rfl (by decide +kernel)
set_option maxRecDepth 65536 in
theorem w_c6 : (Jvm.Cond.code ({ cls := "com/example/limit1/limit1/JsonTextCheckPinLaw", name := "string", desc := "([CIIIJ)I" } : Jvm.MethodName) method_8_code (6 : Nat) (Option.some Jvm.ClassFile.FieldType.int)).before args0 about1 = true := code_word (m := ⟨1, 7⟩) (meth := k1m7) (c := k1c7) (by decide +kernel) rfl rfl rfl (by decide +kernel)
set_option maxRecDepth 65536 in
theorem w_c7 : (Jvm.Cond.code ({ cls := "com/example/limit1/limit1/JsonTextCheckPinLaw", name := "unit", desc := "([CIII)I" } : Jvm.MethodName) method_12_code (8 : Nat) (Option.some Jvm.ClassFile.FieldType.int)).before args0 about1 = true := code_word (m := ⟨1, 11⟩) (meth := k1m11) (c := k1c11) (by decide +kernel) rfl rfl rfl (by decide +kernel)
set_option maxRecDepth 65536 in
theorem w_c8 : (Jvm.Cond.code ({ cls := "com/example/limit1/limit1/JsonTextCheckPinLaw", name := "simple", desc := "(I)C" } : Jvm.MethodName) method_9_code (1 : Nat) (Option.some Jvm.ClassFile.FieldType.char)).before args0 about1 = true := code_word (m := ⟨1, 8⟩) (meth := k1m8) (c := k1c8) (by decide +kernel) rfl rfl rfl (by decide +kernel)
set_option maxRecDepth 65536 in
theorem w_c9 : (Jvm.Cond.code ({ cls := "com/example/limit1/limit1/JsonTextCheckPinLaw", name := "literal", desc := "([CII)I" } : Jvm.MethodName) method_13_code (4 : Nat) (Option.some Jvm.ClassFile.FieldType.int)).before args0 about1 = true := code_word (m := ⟨1, 12⟩) (meth := k1m12) (c := k1c12) (by decide +kernel) rfl rfl rfl (by decide +kernel)
set_option maxRecDepth 65536 in
theorem w_c10 : (Jvm.Cond.code ({ cls := "com/example/limit1/limit1/JsonTextCheckPinLaw", name := "container", desc := "([CII)I" } : Jvm.MethodName) method_14_code (5 : Nat) (Option.some Jvm.ClassFile.FieldType.int)).before args0 about1 = true := code_word (m := ⟨1, 13⟩) (meth := k1m13) (c := k1c13) (by decide +kernel) rfl rfl rfl (by decide +kernel)
set_option maxRecDepth 65536 in
theorem w_c11 : (Jvm.Cond.code ({ cls := "java/lang/String", name := "<init>", desc := "([C)V" } : Jvm.MethodName) jdk_42_method_3_code (2 : Nat) (Option.none : Option Jvm.ClassFile.FieldType)).before args0 about1 = true := code_word (m := ⟨7, 1⟩) (meth := k7m1) (c := k7c1) (by decide +kernel) rfl rfl rfl (by decide +kernel)
set_option maxRecDepth 65536 in
theorem w_c12 : (Jvm.Cond.code ({ cls := "java/lang/String", name := "<init>", desc := "([CIILjava/lang/Void;)V" } : Jvm.MethodName) jdk_42_method_149_code (6 : Nat) (Option.none : Option Jvm.ClassFile.FieldType)).before args0 about1 = true := code_word (m := ⟨7, 7⟩) (meth := k7m7) (c := k7c7) (by decide +kernel) rfl rfl rfl (by decide +kernel)
set_option maxRecDepth 65536 in
theorem w_c13 : (Jvm.Cond.code ({ cls := "java/lang/Object", name := "<init>", desc := "()V" } : Jvm.MethodName) object_method_1_code (1 : Nat) (Option.none : Option Jvm.ClassFile.FieldType)).before args0 about1 = true := code_word (m := ⟨0, 0⟩) (meth := k0m0) (c := k0c0) (by decide +kernel) rfl rfl rfl (by decide +kernel)
set_option maxRecDepth 65536 in
theorem w_c14 : (Jvm.Cond.code ({ cls := "java/lang/StringUTF16", name := "compress", desc := "([CII)[B" } : Jvm.MethodName) jdk_52_method_16_code (6 : Nat) (Option.some (Jvm.ClassFile.FieldType.array Jvm.ClassFile.FieldType.byte))).before args0 about1 = true := code_word (m := ⟨8, 8⟩) (meth := k8m8) (c := k8c8) (by decide +kernel) rfl rfl rfl (by decide +kernel)
set_option maxRecDepth 65536 in
theorem w_c15 : (Jvm.Cond.code ({ cls := "java/lang/StringUTF16", name := "compress", desc := "([CI[BII)I" } : Jvm.MethodName) jdk_52_method_21_code (7 : Nat) (Option.some Jvm.ClassFile.FieldType.int)).before args0 about1 = true := code_word (m := ⟨8, 9⟩) (meth := k8m9) (c := k8c9) (by decide +kernel) rfl rfl rfl (by decide +kernel)
set_option maxRecDepth 65536 in
theorem w_c16 : (Jvm.Cond.code ({ cls := "java/lang/StringUTF16", name := "coderFromArrayLen", desc := "([BI)B" } : Jvm.MethodName) jdk_52_method_15_code (2 : Nat) (Option.some Jvm.ClassFile.FieldType.byte)).before args0 about1 = true := code_word (m := ⟨8, 7⟩) (meth := k8m7) (c := k8c7) (by decide +kernel) rfl rfl rfl (by decide +kernel)
set_option maxRecDepth 65536 in
theorem w_c17 : (Jvm.Cond.code ({ cls := "com/example/limit1/limit1/JsonText", name := "check", desc := "(Ljava/lang/String;)V" } : Jvm.MethodName) prog_7_method_2_code (1 : Nat) (Option.none : Option Jvm.ClassFile.FieldType)).before args0 about1 = true := code_word (m := ⟨9, 1⟩) (meth := k9m1) (c := k9c1) (by decide +kernel) rfl rfl rfl (by decide +kernel)
set_option maxRecDepth 65536 in
theorem w_c18 : (Jvm.Cond.code ({ cls := "java/util/Objects", name := "requireNonNull", desc := "(Ljava/lang/Object;Ljava/lang/String;)Ljava/lang/Object;" } : Jvm.MethodName) jdk_31_method_11_code (2 : Nat) (Option.some (Jvm.ClassFile.FieldType.object "java/lang/Object"))).before args0 about1 = true := code_word (m := ⟨10, 1⟩) (meth := k10m1) (c := k10c1) (by decide +kernel) rfl rfl rfl (by decide +kernel)
set_option maxRecDepth 65536 in
theorem w_c19 : (Jvm.Cond.code ({ cls := "com/example/limit1/limit1/JsonText", name := "<init>", desc := "(Ljava/lang/String;)V" } : Jvm.MethodName) prog_7_method_1_code (2 : Nat) (Option.none : Option Jvm.ClassFile.FieldType)).before args0 about1 = true := code_word (m := ⟨9, 0⟩) (meth := k9m0) (c := k9c0) (by decide +kernel) rfl rfl rfl (by decide +kernel)
set_option maxRecDepth 65536 in
theorem w_c20 : (Jvm.Cond.code ({ cls := "com/example/limit1/limit1/JsonText", name := "checkText", desc := "()V" } : Jvm.MethodName) prog_7_method_3_code (1 : Nat) (Option.none : Option Jvm.ClassFile.FieldType)).before args0 about1 = true := code_word (m := ⟨9, 2⟩) (meth := k9m2) (c := k9c2) (by decide +kernel) rfl rfl rfl (by decide +kernel)
set_option maxRecDepth 65536 in
theorem w_c21 : (Jvm.Cond.code ({ cls := "com/example/limit1/limit1/JsonText", name := "skipWhitespace", desc := "()V" } : Jvm.MethodName) prog_7_method_15_code (2 : Nat) (Option.none : Option Jvm.ClassFile.FieldType)).before args0 about1 = true := code_word (m := ⟨9, 14⟩) (meth := k9m14) (c := k9c14) (by decide +kernel) rfl rfl rfl (by decide +kernel)
set_option maxRecDepth 65536 in
theorem w_c22 : (Jvm.Cond.code ({ cls := "java/lang/String", name := "length", desc := "()I" } : Jvm.MethodName) jdk_42_method_54_code (1 : Nat) (Option.some Jvm.ClassFile.FieldType.int)).before args0 about1 = true := code_word (m := ⟨7, 2⟩) (meth := k7m2) (c := k7c2) (by decide +kernel) rfl rfl rfl (by decide +kernel)
set_option maxRecDepth 65536 in
theorem w_c23 : (Jvm.Cond.code ({ cls := "java/lang/String", name := "coder", desc := "()B" } : Jvm.MethodName) jdk_42_method_152_code (1 : Nat) (Option.some Jvm.ClassFile.FieldType.byte)).before args0 about1 = true := code_word (m := ⟨7, 8⟩) (meth := k7m8) (c := k7c8) (by decide +kernel) rfl rfl rfl (by decide +kernel)
set_option maxRecDepth 65536 in
theorem w_c24 : (Jvm.Cond.code ({ cls := "java/lang/String", name := "charAt", desc := "(I)C" } : Jvm.MethodName) jdk_42_method_56_code (2 : Nat) (Option.some Jvm.ClassFile.FieldType.char)).before args0 about1 = true := code_word (m := ⟨7, 3⟩) (meth := k7m3) (c := k7c3) (by decide +kernel) rfl rfl rfl (by decide +kernel)
set_option maxRecDepth 65536 in
theorem w_c25 : (Jvm.Cond.code ({ cls := "java/lang/String", name := "isLatin1", desc := "()Z" } : Jvm.MethodName) jdk_42_method_154_code (1 : Nat) (Option.some Jvm.ClassFile.FieldType.boolean)).before args0 about1 = true := code_word (m := ⟨7, 9⟩) (meth := k7m9) (c := k7c9) (by decide +kernel) rfl rfl rfl (by decide +kernel)
set_option maxRecDepth 65536 in
theorem w_c26 : (Jvm.Cond.code ({ cls := "java/lang/StringLatin1", name := "charAt", desc := "([BI)C" } : Jvm.MethodName) jdk_43_method_2_code (2 : Nat) (Option.some Jvm.ClassFile.FieldType.char)).before args0 about1 = true := code_word (m := ⟨11, 1⟩) (meth := k11m1) (c := k11c1) (by decide +kernel) rfl rfl rfl (by decide +kernel)
set_option maxRecDepth 65536 in
theorem w_c27 : (Jvm.Cond.code ({ cls := "java/lang/String", name := "checkIndex", desc := "(II)V" } : Jvm.MethodName) jdk_42_method_155_code (2 : Nat) (Option.none : Option Jvm.ClassFile.FieldType)).before args0 about1 = true := code_word (m := ⟨7, 10⟩) (meth := k7m10) (c := k7c10) (by decide +kernel) rfl rfl rfl (by decide +kernel)
set_option maxRecDepth 65536 in
theorem w_c28 : (Jvm.Cond.code ({ cls := "jdk/internal/util/Preconditions", name := "checkIndex", desc := "(IILjava/util/function/BiFunction;)I" } : Jvm.MethodName) jdk_41_method_11_code (3 : Nat) (Option.some Jvm.ClassFile.FieldType.int)).before args0 about1 = true := code_word (m := ⟨12, 1⟩) (meth := k12m1) (c := k12c1) (by decide +kernel) rfl rfl rfl (by decide +kernel)
set_option maxRecDepth 65536 in
theorem w_c29 : (Jvm.Cond.code ({ cls := "com/example/limit1/limit1/JsonText", name := "checkValue", desc := "()V" } : Jvm.MethodName) prog_7_method_4_code (5 : Nat) (Option.none : Option Jvm.ClassFile.FieldType)).before args0 about1 = true := code_word (m := ⟨9, 3⟩) (meth := k9m3) (c := k9c3) (by decide +kernel) rfl rfl rfl (by decide +kernel)
set_option maxRecDepth 65536 in
theorem w_c30 : (Jvm.Cond.code ({ cls := "java/util/BitSet", name := "<init>", desc := "()V" } : Jvm.MethodName) jdk_92_method_4_code (1 : Nat) (Option.none : Option Jvm.ClassFile.FieldType)).before args0 about1 = true := code_word (m := ⟨14, 3⟩) (meth := k14m3) (c := k14c3) (by decide +kernel) rfl rfl rfl (by decide +kernel)
set_option maxRecDepth 65536 in
theorem w_c31 : (Jvm.Cond.code ({ cls := "java/util/BitSet", name := "initWords", desc := "(I)V" } : Jvm.MethodName) jdk_92_method_6_code (2 : Nat) (Option.none : Option Jvm.ClassFile.FieldType)).before args0 about1 = true := code_word (m := ⟨14, 4⟩) (meth := k14m4) (c := k14c4) (by decide +kernel) rfl rfl rfl (by decide +kernel)
set_option maxRecDepth 65536 in
theorem w_c32 : (Jvm.Cond.code ({ cls := "java/util/BitSet", name := "wordIndex", desc := "(I)I" } : Jvm.MethodName) jdk_92_method_1_code (1 : Nat) (Option.some Jvm.ClassFile.FieldType.int)).before args0 about1 = true := code_word (m := ⟨14, 0⟩) (meth := k14m0) (c := k14c0) (by decide +kernel) rfl rfl rfl (by decide +kernel)
set_option maxRecDepth 65536 in
theorem w_c33 : (Jvm.Cond.code ({ cls := "com/example/limit1/limit1/JsonText", name := "peek", desc := "(Ljava/lang/String;)C" } : Jvm.MethodName) prog_7_method_16_code (2 : Nat) (Option.some Jvm.ClassFile.FieldType.char)).before args0 about1 = true := code_word (m := ⟨9, 15⟩) (meth := k9m15) (c := k9c15) (by decide +kernel) rfl rfl rfl (by decide +kernel)
set_option maxRecDepth 65536 in
theorem w_c34 : (Jvm.Cond.code ({ cls := "com/example/limit1/limit1/JsonText", name := "peekIs", desc := "(C)Z" } : Jvm.MethodName) prog_7_method_17_code (2 : Nat) (Option.some Jvm.ClassFile.FieldType.boolean)).before args0 about1 = true := code_word (m := ⟨9, 16⟩) (meth := k9m16) (c := k9c16) (by decide +kernel) rfl rfl rfl (by decide +kernel)
set_option maxRecDepth 65536 in
theorem w_c35 : (Jvm.Cond.code ({ cls := "java/util/BitSet", name := "set", desc := "(IZ)V" } : Jvm.MethodName) jdk_92_method_20_code (3 : Nat) (Option.none : Option Jvm.ClassFile.FieldType)).before args0 about1 = true := code_word (m := ⟨14, 8⟩) (meth := k14m8) (c := k14c8) (by decide +kernel) rfl rfl rfl (by decide +kernel)
set_option maxRecDepth 65536 in
theorem w_c36 : (Jvm.Cond.code ({ cls := "java/util/BitSet", name := "clear", desc := "(I)V" } : Jvm.MethodName) jdk_92_method_23_code (3 : Nat) (Option.none : Option Jvm.ClassFile.FieldType)).before args0 about1 = true := code_word (m := ⟨14, 9⟩) (meth := k14m9) (c := k14c9) (by decide +kernel) rfl rfl rfl (by decide +kernel)
set_option maxRecDepth 65536 in
theorem w_c37 : (Jvm.Cond.code ({ cls := "com/example/limit1/limit1/JsonText", name := "checkScalar", desc := "(C)V" } : Jvm.MethodName) prog_7_method_7_code (2 : Nat) (Option.none : Option Jvm.ClassFile.FieldType)).before args0 about1 = true := code_word (m := ⟨9, 6⟩) (meth := k9m6) (c := k9c6) (by decide +kernel) rfl rfl rfl (by decide +kernel)
set_option maxRecDepth 65536 in
theorem w_c38 : (Jvm.Cond.code ({ cls := "com/example/limit1/limit1/JsonText", name := "isDigitAt", desc := "()Z" } : Jvm.MethodName) prog_7_method_18_code (1 : Nat) (Option.some Jvm.ClassFile.FieldType.boolean)).before args0 about1 = true := code_word (m := ⟨9, 17⟩) (meth := k9m17) (c := k9c17) (by decide +kernel) rfl rfl rfl (by decide +kernel)
set_option maxRecDepth 65536 in
theorem w_c39 : (Jvm.Cond.code ({ cls := "com/example/limit1/limit1/JsonText", name := "checkNumber", desc := "()V" } : Jvm.MethodName) prog_7_method_9_code (1 : Nat) (Option.none : Option Jvm.ClassFile.FieldType)).before args0 about1 = true := code_word (m := ⟨9, 8⟩) (meth := k9m8) (c := k9c8) (by decide +kernel) rfl rfl rfl (by decide +kernel)
set_option maxRecDepth 65536 in
theorem w_c40 : (Jvm.Cond.code ({ cls := "com/example/limit1/limit1/JsonText", name := "checkDigits", desc := "()V" } : Jvm.MethodName) prog_7_method_10_code (1 : Nat) (Option.none : Option Jvm.ClassFile.FieldType)).before args0 about1 = true := code_word (m := ⟨9, 9⟩) (meth := k9m9) (c := k9c9) (by decide +kernel) rfl rfl rfl (by decide +kernel)
set_option maxRecDepth 65536 in
theorem w_c41 : (Jvm.Cond.code ({ cls := "com/example/limit1/limit1/JsonText", name := "closeContainers", desc := "(Ljava/util/BitSet;I)I" } : Jvm.MethodName) prog_7_method_5_code (5 : Nat) (Option.some Jvm.ClassFile.FieldType.int)).before args0 about1 = true := code_word (m := ⟨9, 4⟩) (meth := k9m4) (c := k9c4) (by decide +kernel) rfl rfl rfl (by decide +kernel)
set_option maxRecDepth 65536 in
theorem w_c42 : (Jvm.Cond.code ({ cls := "java/util/BitSet", name := "get", desc := "(I)Z" } : Jvm.MethodName) jdk_92_method_26_code (3 : Nat) (Option.some Jvm.ClassFile.FieldType.boolean)).before args0 about1 = true := code_word (m := ⟨14, 10⟩) (meth := k14m10) (c := k14c10) (by decide +kernel) rfl rfl rfl (by decide +kernel)
set_option maxRecDepth 65536 in
theorem w_c43 : (Jvm.Cond.code ({ cls := "java/util/BitSet", name := "checkInvariants", desc := "()V" } : Jvm.MethodName) jdk_92_method_2_code (1 : Nat) (Option.none : Option Jvm.ClassFile.FieldType)).before args0 about1 = true := code_word (m := ⟨14, 1⟩) (meth := k14m1) (c := k14c1) (by decide +kernel) rfl rfl rfl (by decide +kernel)
set_option maxRecDepth 65536 in
theorem w_c44 : (Jvm.Cond.code ({ cls := "com/example/limit1/limit1/JsonText", name := "checkString", desc := "()V" } : Jvm.MethodName) prog_7_method_11_code (2 : Nat) (Option.none : Option Jvm.ClassFile.FieldType)).before args0 about1 = true := code_word (m := ⟨9, 10⟩) (meth := k9m10) (c := k9c10) (by decide +kernel) rfl rfl rfl (by decide +kernel)
set_option maxRecDepth 65536 in
theorem w_c45 : (Jvm.Cond.code ({ cls := "com/example/limit1/limit1/JsonText", name := "checkEscape", desc := "()V" } : Jvm.MethodName) prog_7_method_12_code (4 : Nat) (Option.none : Option Jvm.ClassFile.FieldType)).before args0 about1 = true := code_word (m := ⟨9, 11⟩) (meth := k9m11) (c := k9c11) (by decide +kernel) rfl rfl rfl (by decide +kernel)
set_option maxRecDepth 65536 in
theorem w_c46 : (Jvm.Cond.code ({ cls := "java/lang/String", name := "indexOf", desc := "(I)I" } : Jvm.MethodName) jdk_42_method_79_code (2 : Nat) (Option.some Jvm.ClassFile.FieldType.int)).before args0 about1 = true := code_word (m := ⟨7, 5⟩) (meth := k7m5) (c := k7c5) (by decide +kernel) rfl rfl rfl (by decide +kernel)
set_option maxRecDepth 65536 in
theorem w_c47 : (Jvm.Cond.code ({ cls := "java/lang/String", name := "indexOf", desc := "(II)I" } : Jvm.MethodName) jdk_42_method_80_code (3 : Nat) (Option.some Jvm.ClassFile.FieldType.int)).before args0 about1 = true := code_word (m := ⟨7, 6⟩) (meth := k7m6) (c := k7c6) (by decide +kernel) rfl rfl rfl (by decide +kernel)
set_option maxRecDepth 65536 in
theorem w_c48 : (Jvm.Cond.code ({ cls := "java/lang/StringLatin1", name := "indexOf", desc := "([BIII)I" } : Jvm.MethodName) jdk_43_method_22_code (4 : Nat) (Option.some Jvm.ClassFile.FieldType.int)).before args0 about1 = true := code_word (m := ⟨11, 3⟩) (meth := k11m3) (c := k11c3) (by decide +kernel) rfl rfl rfl (by decide +kernel)
set_option maxRecDepth 65536 in
theorem w_c49 : (Jvm.Cond.code ({ cls := "java/lang/StringLatin1", name := "canEncode", desc := "(I)Z" } : Jvm.MethodName) jdk_43_method_4_code (1 : Nat) (Option.some Jvm.ClassFile.FieldType.boolean)).before args0 about1 = true := code_word (m := ⟨11, 2⟩) (meth := k11m2) (c := k11c2) (by decide +kernel) rfl rfl rfl (by decide +kernel)
set_option maxRecDepth 65536 in
theorem w_c50 : (Jvm.Cond.code ({ cls := "java/lang/Math", name := "max", desc := "(II)I" } : Jvm.MethodName) jdk_29_method_65_code (2 : Nat) (Option.some Jvm.ClassFile.FieldType.int)).before args0 about1 = true := code_word (m := ⟨15, 1⟩) (meth := k15m1) (c := k15c1) (by decide +kernel) rfl rfl rfl (by decide +kernel)
set_option maxRecDepth 65536 in
theorem w_c51 : (Jvm.Cond.code ({ cls := "java/lang/Math", name := "min", desc := "(II)I" } : Jvm.MethodName) jdk_29_method_69_code (2 : Nat) (Option.some Jvm.ClassFile.FieldType.int)).before args0 about1 = true := code_word (m := ⟨15, 2⟩) (meth := k15m2) (c := k15c2) (by decide +kernel) rfl rfl rfl (by decide +kernel)
set_option maxRecDepth 65536 in
theorem w_c52 : (Jvm.Cond.code ({ cls := "java/lang/StringLatin1", name := "indexOfChar", desc := "([BIII)I" } : Jvm.MethodName) jdk_43_method_23_code (6 : Nat) (Option.some Jvm.ClassFile.FieldType.int)).before args0 about1 = true := code_word (m := ⟨11, 4⟩) (meth := k11m4) (c := k11c4) (by decide +kernel) rfl rfl rfl (by decide +kernel)
set_option maxRecDepth 65536 in
theorem w_c53 : (Jvm.Cond.code ({ cls := "java/lang/Character", name := "isHighSurrogate", desc := "(C)Z" } : Jvm.MethodName) jdk_89_method_14_code (1 : Nat) (Option.some Jvm.ClassFile.FieldType.boolean)).before args0 about1 = true := code_word (m := ⟨16, 0⟩) (meth := k16m0) (c := k16c0) (by decide +kernel) rfl rfl rfl (by decide +kernel)
set_option maxRecDepth 65536 in
theorem w_c54 : (Jvm.Cond.code ({ cls := "java/lang/Character", name := "isSurrogate", desc := "(C)Z" } : Jvm.MethodName) jdk_89_method_16_code (1 : Nat) (Option.some Jvm.ClassFile.FieldType.boolean)).before args0 about1 = true := code_word (m := ⟨16, 2⟩) (meth := k16m2) (c := k16c2) (by decide +kernel) rfl rfl rfl (by decide +kernel)
set_option maxRecDepth 65536 in
theorem w_c55 : (Jvm.Cond.code ({ cls := "com/example/limit1/limit1/JsonText", name := "checkLiteral", desc := "(Ljava/lang/String;)V" } : Jvm.MethodName) prog_7_method_8_code (3 : Nat) (Option.none : Option Jvm.ClassFile.FieldType)).before args0 about1 = true := code_word (m := ⟨9, 7⟩) (meth := k9m7) (c := k9c7) (by decide +kernel) rfl rfl rfl (by decide +kernel)
set_option maxRecDepth 65536 in
theorem w_c56 : (Jvm.Cond.code ({ cls := "java/lang/StringUTF16", name := "toBytes", desc := "([CII)[B" } : Jvm.MethodName) jdk_52_method_14_code (5 : Nat) (Option.some (Jvm.ClassFile.FieldType.array Jvm.ClassFile.FieldType.byte))).before args0 about1 = true := code_word (m := ⟨8, 6⟩) (meth := k8m6) (c := k8c6) (by decide +kernel) rfl rfl rfl (by decide +kernel)
set_option maxRecDepth 65536 in
theorem w_c57 : (Jvm.Cond.code ({ cls := "java/lang/StringUTF16", name := "newBytesFor", desc := "(I)[B" } : Jvm.MethodName) jdk_52_method_2_code (1 : Nat) (Option.some (Jvm.ClassFile.FieldType.array Jvm.ClassFile.FieldType.byte))).before args0 about1 = true := code_word (m := ⟨8, 1⟩) (meth := k8m1) (c := k8c1) (by decide +kernel) rfl rfl rfl (by decide +kernel)
set_option maxRecDepth 65536 in
theorem w_c58 : (Jvm.Cond.code ({ cls := "java/lang/StringUTF16", name := "newBytesLength", desc := "(I)I" } : Jvm.MethodName) jdk_52_method_3_code (1 : Nat) (Option.some Jvm.ClassFile.FieldType.int)).before args0 about1 = true := code_word (m := ⟨8, 2⟩) (meth := k8m2) (c := k8c2) (by decide +kernel) rfl rfl rfl (by decide +kernel)
set_option maxRecDepth 65536 in
theorem w_c59 : (Jvm.Cond.code ({ cls := "java/lang/StringUTF16", name := "putChar", desc := "([BII)V" } : Jvm.MethodName) jdk_52_method_4_code (3 : Nat) (Option.none : Option Jvm.ClassFile.FieldType)).before args0 about1 = true := code_word (m := ⟨8, 3⟩) (meth := k8m3) (c := k8c3) (by decide +kernel) rfl rfl rfl (by decide +kernel)
set_option maxRecDepth 65536 in
theorem w_c60 : (Jvm.Cond.code ({ cls := "java/lang/StringUTF16", name := "getChar", desc := "([BI)C" } : Jvm.MethodName) jdk_52_method_5_code (2 : Nat) (Option.some Jvm.ClassFile.FieldType.char)).before args0 about1 = true := code_word (m := ⟨8, 4⟩) (meth := k8m4) (c := k8c4) (by decide +kernel) rfl rfl rfl (by decide +kernel)
set_option maxRecDepth 65536 in
theorem w_c61 : (Jvm.Cond.code ({ cls := "java/lang/StringUTF16", name := "charAt", desc := "([BI)C" } : Jvm.MethodName) jdk_52_method_83_code (2 : Nat) (Option.some Jvm.ClassFile.FieldType.char)).before args0 about1 = true := code_word (m := ⟨8, 10⟩) (meth := k8m10) (c := k8c10) (by decide +kernel) rfl rfl rfl (by decide +kernel)
set_option maxRecDepth 65536 in
theorem w_c62 : (Jvm.Cond.code ({ cls := "java/lang/StringUTF16", name := "checkIndex", desc := "(I[B)V" } : Jvm.MethodName) jdk_52_method_91_code (2 : Nat) (Option.none : Option Jvm.ClassFile.FieldType)).before args0 about1 = true := code_word (m := ⟨8, 11⟩) (meth := k8m11) (c := k8c11) (by decide +kernel) rfl rfl rfl (by decide +kernel)
set_option maxRecDepth 65536 in
theorem w_c63 : (Jvm.Cond.code ({ cls := "java/lang/StringUTF16", name := "length", desc := "([B)I" } : Jvm.MethodName) jdk_52_method_6_code (1 : Nat) (Option.some Jvm.ClassFile.FieldType.int)).before args0 about1 = true := code_word (m := ⟨8, 5⟩) (meth := k8m5) (c := k8c5) (by decide +kernel) rfl rfl rfl (by decide +kernel)
set_option maxRecDepth 65536 in
theorem w_c64 : (Jvm.Cond.code ({ cls := "java/util/BitSet", name := "set", desc := "(I)V" } : Jvm.MethodName) jdk_92_method_19_code (3 : Nat) (Option.none : Option Jvm.ClassFile.FieldType)).before args0 about1 = true := code_word (m := ⟨14, 7⟩) (meth := k14m7) (c := k14c7) (by decide +kernel) rfl rfl rfl (by decide +kernel)
set_option maxRecDepth 65536 in
theorem w_c65 : (Jvm.Cond.code ({ cls := "java/util/BitSet", name := "expandTo", desc := "(I)V" } : Jvm.MethodName) jdk_92_method_15_code (3 : Nat) (Option.none : Option Jvm.ClassFile.FieldType)).before args0 about1 = true := code_word (m := ⟨14, 6⟩) (meth := k14m6) (c := k14c6) (by decide +kernel) rfl rfl rfl (by decide +kernel)
set_option maxRecDepth 65536 in
theorem w_c66 : (Jvm.Cond.code ({ cls := "java/util/BitSet", name := "ensureCapacity", desc := "(I)V" } : Jvm.MethodName) jdk_92_method_14_code (3 : Nat) (Option.none : Option Jvm.ClassFile.FieldType)).before args0 about1 = true := code_word (m := ⟨14, 5⟩) (meth := k14m5) (c := k14c5) (by decide +kernel) rfl rfl rfl (by decide +kernel)
set_option maxRecDepth 65536 in
theorem w_c67 : (Jvm.Cond.code ({ cls := "com/example/limit1/limit1/JsonText", name := "checkMemberName", desc := "()V" } : Jvm.MethodName) prog_7_method_6_code (1 : Nat) (Option.none : Option Jvm.ClassFile.FieldType)).before args0 about1 = true := code_word (m := ⟨9, 5⟩) (meth := k9m5) (c := k9c5) (by decide +kernel) rfl rfl rfl (by decide +kernel)
set_option maxRecDepth 65536 in
theorem w_c68 : (Jvm.Cond.code ({ cls := "java/lang/Character", name := "isLowSurrogate", desc := "(C)Z" } : Jvm.MethodName) jdk_89_method_15_code (1 : Nat) (Option.some Jvm.ClassFile.FieldType.boolean)).before args0 about1 = true := code_word (m := ⟨16, 1⟩) (meth := k16m1) (c := k16c1) (by decide +kernel) rfl rfl rfl (by decide +kernel)
set_option maxRecDepth 65536 in
theorem w_c69 : (Jvm.Cond.code ({ cls := "java/util/BitSet", name := "recalculateWordsInUse", desc := "()V" } : Jvm.MethodName) jdk_92_method_3_code (2 : Nat) (Option.none : Option Jvm.ClassFile.FieldType)).before args0 about1 = true := code_word (m := ⟨14, 2⟩) (meth := k14m2) (c := k14c2) (by decide +kernel) rfl rfl rfl (by decide +kernel)
set_option maxRecDepth 65536 in
theorem w_c70 : (Jvm.Cond.code ({ cls := "com/example/limit1/limit1/JsonTextCheckPinLaw", name := "esc", desc := "([CIII)I" } : Jvm.MethodName) method_11_code (4 : Nat) (Option.some Jvm.ClassFile.FieldType.int)).before args0 about1 = true := code_word (m := ⟨1, 10⟩) (meth := k1m10) (c := k1c10) (by decide +kernel) rfl rfl rfl (by decide +kernel)
set_option maxRecDepth 65536 in
theorem w_c71 : (Jvm.Cond.code ({ cls := "com/example/limit1/limit1/JsonTextCheckPinLaw", name := "hex", desc := "(II)C" } : Jvm.MethodName) method_10_code (2 : Nat) (Option.some Jvm.ClassFile.FieldType.char)).before args0 about1 = true := code_word (m := ⟨1, 9⟩) (meth := k1m9) (c := k1c9) (by decide +kernel) rfl rfl rfl (by decide +kernel)
set_option maxRecDepth 65536 in
theorem w_c72 : (Jvm.Cond.code ({ cls := "com/example/limit1/limit1/JsonText", name := "readHexUnit", desc := "()C" } : Jvm.MethodName) prog_7_method_13_code (4 : Nat) (Option.some Jvm.ClassFile.FieldType.char)).before args0 about1 = true := code_word (m := ⟨9, 12⟩) (meth := k9m12) (c := k9c12) (by decide +kernel) rfl rfl rfl (by decide +kernel)
set_option maxRecDepth 65536 in
theorem w_c73 : (Jvm.Cond.code ({ cls := "com/example/limit1/limit1/JsonText", name := "hexDigitValue", desc := "(C)I" } : Jvm.MethodName) prog_7_method_14_code (1 : Nat) (Option.some Jvm.ClassFile.FieldType.int)).before args0 about1 = true := code_word (m := ⟨9, 13⟩) (meth := k9m13) (c := k9c13) (by decide +kernel) rfl rfl rfl (by decide +kernel)
set_option maxRecDepth 65536 in
theorem w_c74 : (Jvm.Cond.code ({ cls := "java/lang/String", name := "startsWith", desc := "(Ljava/lang/String;I)Z" } : Jvm.MethodName) jdk_42_method_75_code (8 : Nat) (Option.some Jvm.ClassFile.FieldType.boolean)).before args0 about1 = true := code_word (m := ⟨7, 4⟩) (meth := k7m4) (c := k7c4) (by decide +kernel) rfl rfl rfl (by decide +kernel)
set_option maxRecDepth 65536 in
theorem w_c75 : (Jvm.Cond.code ({ cls := "jdk/internal/util/ArraysSupport", name := "mismatch", desc := "([BI[BII)I" } : Jvm.MethodName) jdk_48_method_14_code (8 : Nat) (Option.some Jvm.ClassFile.FieldType.int)).before args0 about1 = true := code_word (m := ⟨17, 1⟩) (meth := k17m1) (c := k17c1) (by decide +kernel) rfl rfl rfl (by decide +kernel)
def codes1 : List Jvm.Cond := [Jvm.Cond.code x code maxLocals ret, Jvm.Cond.code ({ cls := "com/example/limit1/limit1/JsonTextCheckPinLaw", name := "blanks", desc := "()[C" } : Jvm.MethodName) method_3_code (0 : Nat) (Option.some (Jvm.ClassFile.FieldType.array Jvm.ClassFile.FieldType.char)), Jvm.Cond.code ({ cls := "com/example/limit1/limit1/JsonTextCheckPinLaw", name := "ws", desc := "(I)C" } : Jvm.MethodName) method_5_code (2 : Nat) (Option.some Jvm.ClassFile.FieldType.char), Jvm.Cond.code ({ cls := "com/example/limit1/limit1/JsonTextCheckPinLaw", name := "put", desc := "([CIC)I" } : Jvm.MethodName) method_4_code (3 : Nat) (Option.some Jvm.ClassFile.FieldType.int), Jvm.Cond.code ({ cls := "com/example/limit1/limit1/JsonTextCheckPinLaw", name := "number", desc := "([CIJ)I" } : Jvm.MethodName) method_7_code (5 : Nat) (Option.some Jvm.ClassFile.FieldType.int), Jvm.Cond.code ({ cls := "com/example/limit1/limit1/JsonTextCheckPinLaw", name := "digit", desc := "(J)C" } : Jvm.MethodName) method_6_code (2 : Nat) (Option.some Jvm.ClassFile.FieldType.char), Jvm.Cond.code ({ cls := "com/example/limit1/limit1/JsonTextCheckPinLaw", name := "string", desc := "([CIIIJ)I" } : Jvm.MethodName) method_8_code (6 : Nat) (Option.some Jvm.ClassFile.FieldType.int), Jvm.Cond.code ({ cls := "com/example/limit1/limit1/JsonTextCheckPinLaw", name := "unit", desc := "([CIII)I" } : Jvm.MethodName) method_12_code (8 : Nat) (Option.some Jvm.ClassFile.FieldType.int), Jvm.Cond.code ({ cls := "com/example/limit1/limit1/JsonTextCheckPinLaw", name := "simple", desc := "(I)C" } : Jvm.MethodName) method_9_code (1 : Nat) (Option.some Jvm.ClassFile.FieldType.char), Jvm.Cond.code ({ cls := "com/example/limit1/limit1/JsonTextCheckPinLaw", name := "literal", desc := "([CII)I" } : Jvm.MethodName) method_13_code (4 : Nat) (Option.some Jvm.ClassFile.FieldType.int), Jvm.Cond.code ({ cls := "com/example/limit1/limit1/JsonTextCheckPinLaw", name := "container", desc := "([CII)I" } : Jvm.MethodName) method_14_code (5 : Nat) (Option.some Jvm.ClassFile.FieldType.int), Jvm.Cond.code ({ cls := "java/lang/String", name := "<init>", desc := "([C)V" } : Jvm.MethodName) jdk_42_method_3_code (2 : Nat) (Option.none : Option Jvm.ClassFile.FieldType), Jvm.Cond.code ({ cls := "java/lang/String", name := "<init>", desc := "([CIILjava/lang/Void;)V" } : Jvm.MethodName) jdk_42_method_149_code (6 : Nat) (Option.none : Option Jvm.ClassFile.FieldType), Jvm.Cond.code ({ cls := "java/lang/Object", name := "<init>", desc := "()V" } : Jvm.MethodName) object_method_1_code (1 : Nat) (Option.none : Option Jvm.ClassFile.FieldType), Jvm.Cond.code ({ cls := "java/lang/StringUTF16", name := "compress", desc := "([CII)[B" } : Jvm.MethodName) jdk_52_method_16_code (6 : Nat) (Option.some (Jvm.ClassFile.FieldType.array Jvm.ClassFile.FieldType.byte)), Jvm.Cond.code ({ cls := "java/lang/StringUTF16", name := "compress", desc := "([CI[BII)I" } : Jvm.MethodName) jdk_52_method_21_code (7 : Nat) (Option.some Jvm.ClassFile.FieldType.int), Jvm.Cond.code ({ cls := "java/lang/StringUTF16", name := "coderFromArrayLen", desc := "([BI)B" } : Jvm.MethodName) jdk_52_method_15_code (2 : Nat) (Option.some Jvm.ClassFile.FieldType.byte), Jvm.Cond.code ({ cls := "com/example/limit1/limit1/JsonText", name := "check", desc := "(Ljava/lang/String;)V" } : Jvm.MethodName) prog_7_method_2_code (1 : Nat) (Option.none : Option Jvm.ClassFile.FieldType), Jvm.Cond.code ({ cls := "java/util/Objects", name := "requireNonNull", desc := "(Ljava/lang/Object;Ljava/lang/String;)Ljava/lang/Object;" } : Jvm.MethodName) jdk_31_method_11_code (2 : Nat) (Option.some (Jvm.ClassFile.FieldType.object "java/lang/Object")), Jvm.Cond.code ({ cls := "com/example/limit1/limit1/JsonText", name := "<init>", desc := "(Ljava/lang/String;)V" } : Jvm.MethodName) prog_7_method_1_code (2 : Nat) (Option.none : Option Jvm.ClassFile.FieldType), Jvm.Cond.code ({ cls := "com/example/limit1/limit1/JsonText", name := "checkText", desc := "()V" } : Jvm.MethodName) prog_7_method_3_code (1 : Nat) (Option.none : Option Jvm.ClassFile.FieldType), Jvm.Cond.code ({ cls := "com/example/limit1/limit1/JsonText", name := "skipWhitespace", desc := "()V" } : Jvm.MethodName) prog_7_method_15_code (2 : Nat) (Option.none : Option Jvm.ClassFile.FieldType), Jvm.Cond.code ({ cls := "java/lang/String", name := "length", desc := "()I" } : Jvm.MethodName) jdk_42_method_54_code (1 : Nat) (Option.some Jvm.ClassFile.FieldType.int), Jvm.Cond.code ({ cls := "java/lang/String", name := "coder", desc := "()B" } : Jvm.MethodName) jdk_42_method_152_code (1 : Nat) (Option.some Jvm.ClassFile.FieldType.byte), Jvm.Cond.code ({ cls := "java/lang/String", name := "charAt", desc := "(I)C" } : Jvm.MethodName) jdk_42_method_56_code (2 : Nat) (Option.some Jvm.ClassFile.FieldType.char), Jvm.Cond.code ({ cls := "java/lang/String", name := "isLatin1", desc := "()Z" } : Jvm.MethodName) jdk_42_method_154_code (1 : Nat) (Option.some Jvm.ClassFile.FieldType.boolean), Jvm.Cond.code ({ cls := "java/lang/StringLatin1", name := "charAt", desc := "([BI)C" } : Jvm.MethodName) jdk_43_method_2_code (2 : Nat) (Option.some Jvm.ClassFile.FieldType.char), Jvm.Cond.code ({ cls := "java/lang/String", name := "checkIndex", desc := "(II)V" } : Jvm.MethodName) jdk_42_method_155_code (2 : Nat) (Option.none : Option Jvm.ClassFile.FieldType), Jvm.Cond.code ({ cls := "jdk/internal/util/Preconditions", name := "checkIndex", desc := "(IILjava/util/function/BiFunction;)I" } : Jvm.MethodName) jdk_41_method_11_code (3 : Nat) (Option.some Jvm.ClassFile.FieldType.int), Jvm.Cond.code ({ cls := "com/example/limit1/limit1/JsonText", name := "checkValue", desc := "()V" } : Jvm.MethodName) prog_7_method_4_code (5 : Nat) (Option.none : Option Jvm.ClassFile.FieldType), Jvm.Cond.code ({ cls := "java/util/BitSet", name := "<init>", desc := "()V" } : Jvm.MethodName) jdk_92_method_4_code (1 : Nat) (Option.none : Option Jvm.ClassFile.FieldType), Jvm.Cond.code ({ cls := "java/util/BitSet", name := "initWords", desc := "(I)V" } : Jvm.MethodName) jdk_92_method_6_code (2 : Nat) (Option.none : Option Jvm.ClassFile.FieldType), Jvm.Cond.code ({ cls := "java/util/BitSet", name := "wordIndex", desc := "(I)I" } : Jvm.MethodName) jdk_92_method_1_code (1 : Nat) (Option.some Jvm.ClassFile.FieldType.int), Jvm.Cond.code ({ cls := "com/example/limit1/limit1/JsonText", name := "peek", desc := "(Ljava/lang/String;)C" } : Jvm.MethodName) prog_7_method_16_code (2 : Nat) (Option.some Jvm.ClassFile.FieldType.char), Jvm.Cond.code ({ cls := "com/example/limit1/limit1/JsonText", name := "peekIs", desc := "(C)Z" } : Jvm.MethodName) prog_7_method_17_code (2 : Nat) (Option.some Jvm.ClassFile.FieldType.boolean), Jvm.Cond.code ({ cls := "java/util/BitSet", name := "set", desc := "(IZ)V" } : Jvm.MethodName) jdk_92_method_20_code (3 : Nat) (Option.none : Option Jvm.ClassFile.FieldType), Jvm.Cond.code ({ cls := "java/util/BitSet", name := "clear", desc := "(I)V" } : Jvm.MethodName) jdk_92_method_23_code (3 : Nat) (Option.none : Option Jvm.ClassFile.FieldType), Jvm.Cond.code ({ cls := "com/example/limit1/limit1/JsonText", name := "checkScalar", desc := "(C)V" } : Jvm.MethodName) prog_7_method_7_code (2 : Nat) (Option.none : Option Jvm.ClassFile.FieldType), Jvm.Cond.code ({ cls := "com/example/limit1/limit1/JsonText", name := "isDigitAt", desc := "()Z" } : Jvm.MethodName) prog_7_method_18_code (1 : Nat) (Option.some Jvm.ClassFile.FieldType.boolean), Jvm.Cond.code ({ cls := "com/example/limit1/limit1/JsonText", name := "checkNumber", desc := "()V" } : Jvm.MethodName) prog_7_method_9_code (1 : Nat) (Option.none : Option Jvm.ClassFile.FieldType), Jvm.Cond.code ({ cls := "com/example/limit1/limit1/JsonText", name := "checkDigits", desc := "()V" } : Jvm.MethodName) prog_7_method_10_code (1 : Nat) (Option.none : Option Jvm.ClassFile.FieldType), Jvm.Cond.code ({ cls := "com/example/limit1/limit1/JsonText", name := "closeContainers", desc := "(Ljava/util/BitSet;I)I" } : Jvm.MethodName) prog_7_method_5_code (5 : Nat) (Option.some Jvm.ClassFile.FieldType.int), Jvm.Cond.code ({ cls := "java/util/BitSet", name := "get", desc := "(I)Z" } : Jvm.MethodName) jdk_92_method_26_code (3 : Nat) (Option.some Jvm.ClassFile.FieldType.boolean), Jvm.Cond.code ({ cls := "java/util/BitSet", name := "checkInvariants", desc := "()V" } : Jvm.MethodName) jdk_92_method_2_code (1 : Nat) (Option.none : Option Jvm.ClassFile.FieldType), Jvm.Cond.code ({ cls := "com/example/limit1/limit1/JsonText", name := "checkString", desc := "()V" } : Jvm.MethodName) prog_7_method_11_code (2 : Nat) (Option.none : Option Jvm.ClassFile.FieldType), Jvm.Cond.code ({ cls := "com/example/limit1/limit1/JsonText", name := "checkEscape", desc := "()V" } : Jvm.MethodName) prog_7_method_12_code (4 : Nat) (Option.none : Option Jvm.ClassFile.FieldType), Jvm.Cond.code ({ cls := "java/lang/String", name := "indexOf", desc := "(I)I" } : Jvm.MethodName) jdk_42_method_79_code (2 : Nat) (Option.some Jvm.ClassFile.FieldType.int), Jvm.Cond.code ({ cls := "java/lang/String", name := "indexOf", desc := "(II)I" } : Jvm.MethodName) jdk_42_method_80_code (3 : Nat) (Option.some Jvm.ClassFile.FieldType.int), Jvm.Cond.code ({ cls := "java/lang/StringLatin1", name := "indexOf", desc := "([BIII)I" } : Jvm.MethodName) jdk_43_method_22_code (4 : Nat) (Option.some Jvm.ClassFile.FieldType.int), Jvm.Cond.code ({ cls := "java/lang/StringLatin1", name := "canEncode", desc := "(I)Z" } : Jvm.MethodName) jdk_43_method_4_code (1 : Nat) (Option.some Jvm.ClassFile.FieldType.boolean), Jvm.Cond.code ({ cls := "java/lang/Math", name := "max", desc := "(II)I" } : Jvm.MethodName) jdk_29_method_65_code (2 : Nat) (Option.some Jvm.ClassFile.FieldType.int), Jvm.Cond.code ({ cls := "java/lang/Math", name := "min", desc := "(II)I" } : Jvm.MethodName) jdk_29_method_69_code (2 : Nat) (Option.some Jvm.ClassFile.FieldType.int), Jvm.Cond.code ({ cls := "java/lang/StringLatin1", name := "indexOfChar", desc := "([BIII)I" } : Jvm.MethodName) jdk_43_method_23_code (6 : Nat) (Option.some Jvm.ClassFile.FieldType.int), Jvm.Cond.code ({ cls := "java/lang/Character", name := "isHighSurrogate", desc := "(C)Z" } : Jvm.MethodName) jdk_89_method_14_code (1 : Nat) (Option.some Jvm.ClassFile.FieldType.boolean), Jvm.Cond.code ({ cls := "java/lang/Character", name := "isSurrogate", desc := "(C)Z" } : Jvm.MethodName) jdk_89_method_16_code (1 : Nat) (Option.some Jvm.ClassFile.FieldType.boolean), Jvm.Cond.code ({ cls := "com/example/limit1/limit1/JsonText", name := "checkLiteral", desc := "(Ljava/lang/String;)V" } : Jvm.MethodName) prog_7_method_8_code (3 : Nat) (Option.none : Option Jvm.ClassFile.FieldType), Jvm.Cond.code ({ cls := "java/lang/StringUTF16", name := "toBytes", desc := "([CII)[B" } : Jvm.MethodName) jdk_52_method_14_code (5 : Nat) (Option.some (Jvm.ClassFile.FieldType.array Jvm.ClassFile.FieldType.byte)), Jvm.Cond.code ({ cls := "java/lang/StringUTF16", name := "newBytesFor", desc := "(I)[B" } : Jvm.MethodName) jdk_52_method_2_code (1 : Nat) (Option.some (Jvm.ClassFile.FieldType.array Jvm.ClassFile.FieldType.byte)), Jvm.Cond.code ({ cls := "java/lang/StringUTF16", name := "newBytesLength", desc := "(I)I" } : Jvm.MethodName) jdk_52_method_3_code (1 : Nat) (Option.some Jvm.ClassFile.FieldType.int), Jvm.Cond.code ({ cls := "java/lang/StringUTF16", name := "putChar", desc := "([BII)V" } : Jvm.MethodName) jdk_52_method_4_code (3 : Nat) (Option.none : Option Jvm.ClassFile.FieldType), Jvm.Cond.code ({ cls := "java/lang/StringUTF16", name := "getChar", desc := "([BI)C" } : Jvm.MethodName) jdk_52_method_5_code (2 : Nat) (Option.some Jvm.ClassFile.FieldType.char), Jvm.Cond.code ({ cls := "java/lang/StringUTF16", name := "charAt", desc := "([BI)C" } : Jvm.MethodName) jdk_52_method_83_code (2 : Nat) (Option.some Jvm.ClassFile.FieldType.char), Jvm.Cond.code ({ cls := "java/lang/StringUTF16", name := "checkIndex", desc := "(I[B)V" } : Jvm.MethodName) jdk_52_method_91_code (2 : Nat) (Option.none : Option Jvm.ClassFile.FieldType), Jvm.Cond.code ({ cls := "java/lang/StringUTF16", name := "length", desc := "([B)I" } : Jvm.MethodName) jdk_52_method_6_code (1 : Nat) (Option.some Jvm.ClassFile.FieldType.int), Jvm.Cond.code ({ cls := "java/util/BitSet", name := "set", desc := "(I)V" } : Jvm.MethodName) jdk_92_method_19_code (3 : Nat) (Option.none : Option Jvm.ClassFile.FieldType), Jvm.Cond.code ({ cls := "java/util/BitSet", name := "expandTo", desc := "(I)V" } : Jvm.MethodName) jdk_92_method_15_code (3 : Nat) (Option.none : Option Jvm.ClassFile.FieldType), Jvm.Cond.code ({ cls := "java/util/BitSet", name := "ensureCapacity", desc := "(I)V" } : Jvm.MethodName) jdk_92_method_14_code (3 : Nat) (Option.none : Option Jvm.ClassFile.FieldType), Jvm.Cond.code ({ cls := "com/example/limit1/limit1/JsonText", name := "checkMemberName", desc := "()V" } : Jvm.MethodName) prog_7_method_6_code (1 : Nat) (Option.none : Option Jvm.ClassFile.FieldType), Jvm.Cond.code ({ cls := "java/lang/Character", name := "isLowSurrogate", desc := "(C)Z" } : Jvm.MethodName) jdk_89_method_15_code (1 : Nat) (Option.some Jvm.ClassFile.FieldType.boolean), Jvm.Cond.code ({ cls := "java/util/BitSet", name := "recalculateWordsInUse", desc := "()V" } : Jvm.MethodName) jdk_92_method_3_code (2 : Nat) (Option.none : Option Jvm.ClassFile.FieldType), Jvm.Cond.code ({ cls := "com/example/limit1/limit1/JsonTextCheckPinLaw", name := "esc", desc := "([CIII)I" } : Jvm.MethodName) method_11_code (4 : Nat) (Option.some Jvm.ClassFile.FieldType.int), Jvm.Cond.code ({ cls := "com/example/limit1/limit1/JsonTextCheckPinLaw", name := "hex", desc := "(II)C" } : Jvm.MethodName) method_10_code (2 : Nat) (Option.some Jvm.ClassFile.FieldType.char), Jvm.Cond.code ({ cls := "com/example/limit1/limit1/JsonText", name := "readHexUnit", desc := "()C" } : Jvm.MethodName) prog_7_method_13_code (4 : Nat) (Option.some Jvm.ClassFile.FieldType.char), Jvm.Cond.code ({ cls := "com/example/limit1/limit1/JsonText", name := "hexDigitValue", desc := "(C)I" } : Jvm.MethodName) prog_7_method_14_code (1 : Nat) (Option.some Jvm.ClassFile.FieldType.int), Jvm.Cond.code ({ cls := "java/lang/String", name := "startsWith", desc := "(Ljava/lang/String;I)Z" } : Jvm.MethodName) jdk_42_method_75_code (8 : Nat) (Option.some Jvm.ClassFile.FieldType.boolean), Jvm.Cond.code ({ cls := "jdk/internal/util/ArraysSupport", name := "mismatch", desc := "([BI[BII)I" } : Jvm.MethodName) jdk_48_method_14_code (8 : Nat) (Option.some Jvm.ClassFile.FieldType.int)]
set_option maxRecDepth 65536 in
theorem codes_eq : words1.filter isCode = codes1 := rfl
theorem w_codes : ∀ c ∈ words1.filter isCode, c.before args0 about1 = true := by
  rw [codes_eq]
  intro c hc
  simp only [codes1, List.mem_cons, List.not_mem_nil, or_false] at hc
  rcases hc with rfl | rfl | rfl | rfl | rfl | rfl | rfl | rfl | rfl | rfl | rfl | rfl | rfl | rfl | rfl | rfl | rfl | rfl | rfl | rfl | rfl | rfl | rfl | rfl | rfl | rfl | rfl | rfl | rfl | rfl | rfl | rfl | rfl | rfl | rfl | rfl | rfl | rfl | rfl | rfl | rfl | rfl | rfl | rfl | rfl | rfl | rfl | rfl | rfl | rfl | rfl | rfl | rfl | rfl | rfl | rfl | rfl | rfl | rfl | rfl | rfl | rfl | rfl | rfl | rfl | rfl | rfl | rfl | rfl | rfl | rfl | rfl | rfl | rfl | rfl | rfl
  · exact w_c0
  · exact w_c1
  · exact w_c2
  · exact w_c3
  · exact w_c4
  · exact w_c5
  · exact w_c6
  · exact w_c7
  · exact w_c8
  · exact w_c9
  · exact w_c10
  · exact w_c11
  · exact w_c12
  · exact w_c13
  · exact w_c14
  · exact w_c15
  · exact w_c16
  · exact w_c17
  · exact w_c18
  · exact w_c19
  · exact w_c20
  · exact w_c21
  · exact w_c22
  · exact w_c23
  · exact w_c24
  · exact w_c25
  · exact w_c26
  · exact w_c27
  · exact w_c28
  · exact w_c29
  · exact w_c30
  · exact w_c31
  · exact w_c32
  · exact w_c33
  · exact w_c34
  · exact w_c35
  · exact w_c36
  · exact w_c37
  · exact w_c38
  · exact w_c39
  · exact w_c40
  · exact w_c41
  · exact w_c42
  · exact w_c43
  · exact w_c44
  · exact w_c45
  · exact w_c46
  · exact w_c47
  · exact w_c48
  · exact w_c49
  · exact w_c50
  · exact w_c51
  · exact w_c52
  · exact w_c53
  · exact w_c54
  · exact w_c55
  · exact w_c56
  · exact w_c57
  · exact w_c58
  · exact w_c59
  · exact w_c60
  · exact w_c61
  · exact w_c62
  · exact w_c63
  · exact w_c64
  · exact w_c65
  · exact w_c66
  · exact w_c67
  · exact w_c68
  · exact w_c69
  · exact w_c70
  · exact w_c71
  · exact w_c72
  · exact w_c73
  · exact w_c74
  · exact w_c75
set_option maxRecDepth 65536 in
theorem w_t1 : (words1.take 24).all (fun c => isCode c || c.before args0 about1) = true := by decide +kernel
set_option maxRecDepth 65536 in
theorem w_t2 : ((words1.drop 24).take 24).all (fun c => isCode c || c.before args0 about1) = true := by decide +kernel
set_option maxRecDepth 65536 in
theorem w_t3 : (((words1.drop 24).drop 24).take 24).all (fun c => isCode c || c.before args0 about1) = true := by decide +kernel
set_option maxRecDepth 65536 in
theorem w_t4 : ((((words1.drop 24).drop 24).drop 24).take 24).all (fun c => isCode c || c.before args0 about1) = true := by decide +kernel
set_option maxRecDepth 65536 in
theorem w_t5 : (((((words1.drop 24).drop 24).drop 24).drop 24).take 24).all (fun c => isCode c || c.before args0 about1) = true := by decide +kernel
set_option maxRecDepth 65536 in
theorem w_t6 : ((((((words1.drop 24).drop 24).drop 24).drop 24).drop 24).take 24).all (fun c => isCode c || c.before args0 about1) = true := by decide +kernel
set_option maxRecDepth 65536 in
theorem w_t7 : (((((((words1.drop 24).drop 24).drop 24).drop 24).drop 24).drop 24).take 24).all (fun c => isCode c || c.before args0 about1) = true := by decide +kernel
set_option maxRecDepth 65536 in
theorem w_t8 : ((((((((words1.drop 24).drop 24).drop 24).drop 24).drop 24).drop 24).drop 24).take 24).all (fun c => isCode c || c.before args0 about1) = true := by decide +kernel
set_option maxRecDepth 65536 in
theorem w_t9 : (((((((((words1.drop 24).drop 24).drop 24).drop 24).drop 24).drop 24).drop 24).drop 24).take 24).all (fun c => isCode c || c.before args0 about1) = true := by decide +kernel
set_option maxRecDepth 65536 in
theorem w_t10 : ((((((((((words1.drop 24).drop 24).drop 24).drop 24).drop 24).drop 24).drop 24).drop 24).drop 24).take 24).all (fun c => isCode c || c.before args0 about1) = true := by decide +kernel
set_option maxRecDepth 65536 in
theorem w_t11 : (((((((((((words1.drop 24).drop 24).drop 24).drop 24).drop 24).drop 24).drop 24).drop 24).drop 24).drop 24).take 24).all (fun c => isCode c || c.before args0 about1) = true := by decide +kernel
set_option maxRecDepth 65536 in
theorem w_t12 : ((((((((((((words1.drop 24).drop 24).drop 24).drop 24).drop 24).drop 24).drop 24).drop 24).drop 24).drop 24).drop 24).take 24).all (fun c => isCode c || c.before args0 about1) = true := by decide +kernel
set_option maxRecDepth 65536 in
theorem w_t13 : (((((((((((((words1.drop 24).drop 24).drop 24).drop 24).drop 24).drop 24).drop 24).drop 24).drop 24).drop 24).drop 24).drop 24).take 24).all (fun c => isCode c || c.before args0 about1) = true := by decide +kernel
set_option maxRecDepth 65536 in
theorem w_t14 : ((((((((((((((words1.drop 24).drop 24).drop 24).drop 24).drop 24).drop 24).drop 24).drop 24).drop 24).drop 24).drop 24).drop 24).drop 24).take 24).all (fun c => isCode c || c.before args0 about1) = true := by decide +kernel
set_option maxRecDepth 65536 in
theorem w_t15 : ((((((((((((((words1.drop 24).drop 24).drop 24).drop 24).drop 24).drop 24).drop 24).drop 24).drop 24).drop 24).drop 24).drop 24).drop 24).drop 24).all (fun c => isCode c || c.before args0 about1) = true := by decide +kernel
theorem w_tables : (allAtoms (Jvm.Cond.code x code maxLocals ret :: tables_1)).before args0 about1 = true := by
  rw [allAtoms_all]
  show words1.all (fun c => c.before args0 about1) = true
  refine all_split ?_ w_codes
  rw [← List.take_append_drop 24 words1, List.all_append, w_t1, ← List.take_append_drop 24 (words1.drop 24), List.all_append, w_t2, ← List.take_append_drop 24 ((words1.drop 24).drop 24), List.all_append, w_t3, ← List.take_append_drop 24 (((words1.drop 24).drop 24).drop 24), List.all_append, w_t4, ← List.take_append_drop 24 ((((words1.drop 24).drop 24).drop 24).drop 24), List.all_append, w_t5, ← List.take_append_drop 24 (((((words1.drop 24).drop 24).drop 24).drop 24).drop 24), List.all_append, w_t6, ← List.take_append_drop 24 ((((((words1.drop 24).drop 24).drop 24).drop 24).drop 24).drop 24), List.all_append, w_t7, ← List.take_append_drop 24 (((((((words1.drop 24).drop 24).drop 24).drop 24).drop 24).drop 24).drop 24), List.all_append, w_t8, ← List.take_append_drop 24 ((((((((words1.drop 24).drop 24).drop 24).drop 24).drop 24).drop 24).drop 24).drop 24), List.all_append, w_t9, ← List.take_append_drop 24 (((((((((words1.drop 24).drop 24).drop 24).drop 24).drop 24).drop 24).drop 24).drop 24).drop 24), List.all_append, w_t10, ← List.take_append_drop 24 ((((((((((words1.drop 24).drop 24).drop 24).drop 24).drop 24).drop 24).drop 24).drop 24).drop 24).drop 24), List.all_append, w_t11, ← List.take_append_drop 24 (((((((((((words1.drop 24).drop 24).drop 24).drop 24).drop 24).drop 24).drop 24).drop 24).drop 24).drop 24).drop 24), List.all_append, w_t12, ← List.take_append_drop 24 ((((((((((((words1.drop 24).drop 24).drop 24).drop 24).drop 24).drop 24).drop 24).drop 24).drop 24).drop 24).drop 24).drop 24), List.all_append, w_t13, ← List.take_append_drop 24 (((((((((((((words1.drop 24).drop 24).drop 24).drop 24).drop 24).drop 24).drop 24).drop 24).drop 24).drop 24).drop 24).drop 24).drop 24), List.all_append, w_t14, w_t15]
  rfl
set_option maxRecDepth 65536 in
theorem w_rest : rest_1_c.before args0 about1 = true := by decide +kernel
set_option maxRecDepth 65536 in
theorem w_case : (Jvm.Cond.and given_1 narrow_1).before args0 about1 = true := by decide +kernel
set_option maxRecDepth 65536 in
theorem w_consts : constsHeld consts_1 about1 := Jvm.Lit.constsHeldB_iff.mp (by decide +kernel)
theorem w_applies : (headSpec (Jvm.Cond.code x code maxLocals ret :: tables_1) room_1).applies x e0.platform about1 = true :=
  (Spec.applies_iff w_frames).mpr ⟨w_running, w_runnable, w_alone, w_named, w_hears, w_ripe, w_room, w_tables⟩
theorem atStart : AtStart classFile x code maxLocals ret World_1 tables_1 room_1 Calls_1 rest_1 Pre_1 launch0 p0 e0 about1 theMethod args0 below0 :=
  ⟨lists_1, trivial, launch0.admits_env _ _ _, launch0.least_env, fairChoices_fair.cas, fairChoices_fair.clock, w_frames, w_args, w_heap, w_applies, ⟨w_consts, trivial⟩, w_rest, w_case⟩
end start1
theorem witness_1 : WitnessClaimed_1 := ⟨start1.p0, start1.e0, start1.about1, start1.theMethod, start1.args0, start1.below0, start1.atStart⟩
end Jvm.Pilot.@@N@@
