import JvmDerived
import JvmDerived.Pilot.@@N@@Statement
import JvmDerived.Pilot.@@N@@Code
set_option linter.unusedVariables false
set_option linter.unusedSimpArgs false
namespace Jvm.Pilot.@@N@@
open Jvm Jvm.ClassFile Sem Op Lib Jvm.Free Jvm.Stand Jvm.LawKit Jvm.RoadKit Bundle Jvm.Pilot.@@N@@.Jvm.D
-- OWN KIT: walks in continuation style over the library's Stand laws (own text, pasted into each Proof.lean)
section OwnKit
variable {p : Program} {l : Launch} {e : Env} {R : Room} {s : State} {m : MethodId} {args : Array Value} {below : List Frame} {meth : Method} {c : Code} {T : State} {locs : List Loc} {cells slots : Nat} {Z : State} {a0 : Array Value} {h : Heap} {own : String} {cd : ByteArray} {maxL : Nat} {ret : Option FieldType} {nm : String} {n0 : Nat} {F : Option Value → Heap → Prop} {kc ks : Nat} {pc : Nat} {ls : Array Slot} {st : List Value}
/-- from the frame g over T the method runs to its end, returns v, leaves a heap, F holds of both; only new cells are written -/
def own_Go (p : Program) (e : Env) (below : List Frame) (s : State) (n0 : Nat) (F : Option Value → Heap → Prop) (kc ks : Nat) (T : State) (g : JFrame) : Prop :=
  ∃ s₂ o, Steps p.tables e below (T.setTop g) s₂ ∧ s₂.status = .running ∧ Ended s₂ below o ∧ ∃ v L, o = .returned v ∧ (F v s₂.heap ∧ Fr n0 L) ∧ FrameEnd s o s₂ L kc ks
theorem own_step {T' : State} {g g' : JFrame} (st : ∀ t, Steps p.tables e below (T'.setTop g') t → Steps p.tables e below (T.setTop g) t) (k : own_Go p e below s n0 F kc ks T' g') : own_Go p e below s n0 F kc ks T g := by
  obtain ⟨s₂, o, h1, h2⟩ := k
  exact ⟨s₂, o, st _ h1, h2⟩
theorem own_Go.mono {F' : Option Value → Heap → Prop} {g : JFrame} (k : own_Go p e below s n0 F kc ks T g) (hf : ∀ v h, F v h → F' v h) : own_Go p e below s n0 F' kc ks T g := by
  obtain ⟨s₂, o, h1, h2, h3, v, L, h4, ⟨h5, h6⟩, h7⟩ := k
  exact ⟨s₂, o, h1, h2, h3, v, L, h4, ⟨hf _ _ h5, h6⟩, h7⟩
/-- what stays the same in one body -/
def own_Cx (p : Program) (s : State) (m : MethodId) (meth : Method) (c : Code) (Z : State) (own : String) (cd : ByteArray) (maxL : Nat) (ret : Option FieldType) (nm : String) : Prop :=
  p.tables.exec = Jvm.exec ∧ c.code = cd ∧ c.maxLocals = maxL ∧ s.vm.findClass own = some m.cls ∧ meth.name = nm ∧ meth.sig.returnType = ret ∧ meth.locks = false ∧ Z.Warmed39 s.vm
/-- where the walk stands: the heap is h, at most so many cells and slots have been made, nothing old was written -/
def own_S (p : Program) (l : Launch) (e : Env) (R : Room) (s : State) (m : MethodId) (args : Array Value) (below : List Frame) (meth : Method) (c : Code) (n0 : Nat) (T : State) (h : Heap) (cells slots : Nat) : Prop :=
  ∃ locs k n, Stand p l e R s m args below meth c T locs k n ∧ T.heap = h ∧ Fr n0 locs ∧ k ≤ cells ∧ n ≤ slots
theorem own_S.mono {c' s' : Nat} (S : own_S p l e R s m args below meth c n0 T h cells slots) (h1 : cells ≤ c') (h2 : slots ≤ s') : own_S p l e R s m args below meth c n0 T h c' s' := by
  obtain ⟨locs, k, n, X, e1, N, q1, q2⟩ := S
  exact ⟨locs, k, n, X, e1, N, Nat.le_trans q1 h1, Nat.le_trans q2 h2⟩
theorem own_hd (C : own_Cx p s m meth c Z own cd maxL ret nm) {i : Instr} {len : Nat} (hd : decode cd pc = .ok (i, len)) : decode c.code pc = .ok (i, len) := by rw [C.2.1]; exact hd
theorem own_hsz (C : own_Cx p s m meth c Z own cd maxL ret nm) (hsz : ls.size = maxL) : ls.size = c.maxLocals := by rw [C.2.2.1]; exact hsz
/-- the k-th table word -/
theorem own_wd {L : List Jvm.Cond} (hw : ∀ d ∈ L, d.before a0 Z = true) (i : Nat) {d : Jvm.Cond} (hi : L[i]? = some d) : d.before a0 Z = true := hw d (List.mem_of_getElem? hi)
/-- one plain instruction -/
def own_st (i : Instr) (len pc : Nat) (ls : Array Slot) (st : List Value) : Option (Nat × Array Slot × List Value) :=
  match i with
  | .iload_n k => match len, ls[k.val]? with | 1, some (.val (.int v)) => some (pc + 1, ls, .int v :: st) | _, _ => none
  | .iload k => match len, ls[k]? with | 2, some (.val (.int v)) => some (pc + 2, ls, .int v :: st) | _, _ => none
  | .lload_n k => match len, ls[k.val]? with | 1, some (.val (.long v)) => some (pc + 1, ls, .long v :: st) | _, _ => none
  | .lload k => match len, ls[k]? with | 2, some (.val (.long v)) => some (pc + 2, ls, .long v :: st) | _, _ => none
  | .dload_n k => match len, ls[k.val]? with | 1, some (.val (.double v)) => some (pc + 1, ls, .double v :: st) | _, _ => none
  | .dload k => match len, ls[k]? with | 2, some (.val (.double v)) => some (pc + 2, ls, .double v :: st) | _, _ => none
  | .aload_n k => match len, ls[k.val]? with | 1, some (.val (.ref v)) => some (pc + 1, ls, .ref v :: st) | 1, some (.val .null) => some (pc + 1, ls, .null :: st) | _, _ => none
  | .aload k => match len, ls[k]? with | 2, some (.val (.ref v)) => some (pc + 2, ls, .ref v :: st) | 2, some (.val .null) => some (pc + 2, ls, .null :: st) | _, _ => none
  | .istore_n k => match len, st with | 1, .int x :: r => (match storeLocals ls k.val (.int x) with | some l' => some (pc + 1, l', r) | none => none) | _, _ => none
  | .istore k => match len, st with | 2, .int x :: r => (match storeLocals ls k (.int x) with | some l' => some (pc + 2, l', r) | none => none) | _, _ => none
  | .lstore_n k => match len, st with | 1, .long x :: r => (match storeLocals ls k.val (.long x) with | some l' => some (pc + 1, l', r) | none => none) | _, _ => none
  | .lstore k => match len, st with | 2, .long x :: r => (match storeLocals ls k (.long x) with | some l' => some (pc + 2, l', r) | none => none) | _, _ => none
  | .dstore_n k => match len, st with | 1, .double x :: r => (match storeLocals ls k.val (.double x) with | some l' => some (pc + 1, l', r) | none => none) | _, _ => none
  | .dstore k => match len, st with | 2, .double x :: r => (match storeLocals ls k (.double x) with | some l' => some (pc + 2, l', r) | none => none) | _, _ => none
  | .astore_n k => match len, st with
    | 1, .ref x :: r => (match storeLocals ls k.val (.ref x) with | some l' => some (pc + 1, l', r) | none => none)
    | 1, .null :: r => (match storeLocals ls k.val .null with | some l' => some (pc + 1, l', r) | none => none)
    | _, _ => none
  | .astore k => match len, st with
    | 2, .ref x :: r => (match storeLocals ls k (.ref x) with | some l' => some (pc + 2, l', r) | none => none)
    | 2, .null :: r => (match storeLocals ls k .null with | some l' => some (pc + 2, l', r) | none => none)
    | _, _ => none
  | .iinc k d => match len, ls[k]? with | 3, some (.val (.int x)) => (match storeLocals ls k (.int (x + Int32.ofInt d)) with | some l' => some (pc + 3, l', st) | none => none) | _, _ => none
  | .iconst i => match len with | 1 => some (pc + 1, ls, .int (Int32.ofInt i) :: st) | _ => none
  | .bipush i => match len with | 2 => some (pc + 2, ls, .int (Int8.ofInt i).toInt32 :: st) | _ => none
  | .sipush i => match len with | 3 => some (pc + 3, ls, .int (Int16.ofInt i).toInt32 :: st) | _ => none
  | .lconst k => match len with | 1 => some (pc + 1, ls, .long (Int64.ofNat k) :: st) | _ => none
  | .aconst_null => match len with | 1 => some (pc + 1, ls, .null :: st) | _ => none
  | .iadd => match len, st with | 1, .int y :: .int x :: r => some (pc + 1, ls, .int (x + y) :: r) | _, _ => none
  | .isub => match len, st with | 1, .int y :: .int x :: r => some (pc + 1, ls, .int (x - y) :: r) | _, _ => none
  | .imul => match len, st with | 1, .int y :: .int x :: r => some (pc + 1, ls, .int (x * y) :: r) | _, _ => none
  | .iand => match len, st with | 1, .int y :: .int x :: r => some (pc + 1, ls, .int (x &&& y) :: r) | _, _ => none
  | .ior => match len, st with | 1, .int y :: .int x :: r => some (pc + 1, ls, .int (x ||| y) :: r) | _, _ => none
  | .ixor => match len, st with | 1, .int y :: .int x :: r => some (pc + 1, ls, .int (x ^^^ y) :: r) | _, _ => none
  | .ishl => match len, st with | 1, .int y :: .int x :: r => some (pc + 1, ls, .int (x <<< (y &&& 31)) :: r) | _, _ => none
  | .ishr => match len, st with | 1, .int y :: .int x :: r => some (pc + 1, ls, .int (x >>> (y &&& 31)) :: r) | _, _ => none
  | .iushr => match len, st with | 1, .int y :: .int x :: r => some (pc + 1, ls, .int (Jvm.Free.XT.ushr x y) :: r) | _, _ => none
  | .ineg => match len, st with | 1, .int x :: r => some (pc + 1, ls, .int (-x) :: r) | _, _ => none
  | .ladd => match len, st with | 1, .long y :: .long x :: r => some (pc + 1, ls, .long (x + y) :: r) | _, _ => none
  | .lsub => match len, st with | 1, .long y :: .long x :: r => some (pc + 1, ls, .long (x - y) :: r) | _, _ => none
  | .lmul => match len, st with | 1, .long y :: .long x :: r => some (pc + 1, ls, .long (x * y) :: r) | _, _ => none
  | .land => match len, st with | 1, .long y :: .long x :: r => some (pc + 1, ls, .long (x &&& y) :: r) | _, _ => none
  | .lor => match len, st with | 1, .long y :: .long x :: r => some (pc + 1, ls, .long (x ||| y) :: r) | _, _ => none
  | .lshl => match len, st with | 1, .int y :: .long x :: r => some (pc + 1, ls, .long (x <<< (y.toInt64 &&& 63)) :: r) | _, _ => none
  | .lshr => match len, st with | 1, .int y :: .long x :: r => some (pc + 1, ls, .long (x >>> (y.toInt64 &&& 63)) :: r) | _, _ => none
  | .lushr => match len, st with | 1, .int y :: .long x :: r => some (pc + 1, ls, .long (Jvm.Free.XT.ushrL x y) :: r) | _, _ => none
  | .lcmp => match len, st with | 1, .long y :: .long x :: r => some (pc + 1, ls, .int (Jvm.Free.XT.cmpL x y) :: r) | _, _ => none
  | .i2l => match len, st with | 1, .int x :: r => some (pc + 1, ls, .long x.toInt64 :: r) | _, _ => none
  | .l2i => match len, st with | 1, .long x :: r => some (pc + 1, ls, .int x.toInt32 :: r) | _, _ => none
  | .i2b => match len, st with | 1, .int x :: r => some (pc + 1, ls, .int x.toInt8.toInt32 :: r) | _, _ => none
  | .i2c => match len, st with | 1, .int x :: r => some (pc + 1, ls, .int x.toUInt32.toUInt16.toUInt32.toInt32 :: r) | _, _ => none
  | .i2s => match len, st with | 1, .int x :: r => some (pc + 1, ls, .int x.toInt16.toInt32 :: r) | _, _ => none
  | .i2d => match len, st with | 1, .int x :: r => some (pc + 1, ls, .double (FP.i2d x) :: r) | _, _ => none
  | .dup => match len, st with | 1, .int x :: r => some (pc + 1, ls, .int x :: .int x :: r) | 1, .ref x :: r => some (pc + 1, ls, .ref x :: .ref x :: r) | 1, .null :: r => some (pc + 1, ls, .null :: .null :: r) | _, _ => none
  | .pop => match len, st with | 1, .int x :: r => some (pc + 1, ls, r) | 1, .ref x :: r => some (pc + 1, ls, r) | 1, .null :: r => some (pc + 1, ls, r) | _, _ => none
  | .dup_x1 => match len, st with | 1, .int x :: .ref y :: r => some (pc + 1, ls, .int x :: .ref y :: .int x :: r) | 1, .int x :: .int y :: r => some (pc + 1, ls, .int x :: .int y :: .int x :: r) | 1, .ref x :: .ref y :: r => some (pc + 1, ls, .ref x :: .ref y :: .ref x :: r) | _, _ => none
  | .dup2 => match len, st with | 1, .int x :: .ref y :: r => some (pc + 1, ls, .int x :: .ref y :: .int x :: .ref y :: r) | 1, .int x :: .int y :: r => some (pc + 1, ls, .int x :: .int y :: .int x :: .int y :: r) | 1, .long x :: r => some (pc + 1, ls, .long x :: .long x :: r) | _, _ => none
  | .goto o => match len, decide (0 ≤ (pc : Int) + o) with | 3, true => some (((pc : Int) + o).toNat, ls, st) | _, _ => none
  | .ifnull o => match len, st, decide (0 ≤ (pc : Int) + o) with | 3, .null :: r, true => some (((pc : Int) + o).toNat, ls, r) | 3, .ref _ :: r, _ => some (pc + 3, ls, r) | _, _, _ => none
  | .ifnonnull o => match len, st, decide (0 ≤ (pc : Int) + o) with | 3, .ref _ :: r, true => some (((pc : Int) + o).toNat, ls, r) | 3, .null :: r, _ => some (pc + 3, ls, r) | _, _, _ => none
  | _ => none
theorem own_st_ok (X : Stand p l e R s m args below meth c T locs cells slots) (hx : p.tables.exec = Jvm.exec) {i : Instr} {len pc' : Nat} {ls' : Array Slot} {st' : List Value} (hd : decode c.code pc = .ok (i, len)) (hs : own_st i len pc ls st = some (pc', ls', st')) (t : State)
    (k : Steps p.tables e below (T.setTop (mkF m pc' ls' st')) t) : Steps p.tables e below (T.setTop (mkF m pc ls st)) t := by
  unfold own_st at hs
  split at hs
  · split at hs <;> first | cases hs | skip
    rename_i q; exact XS.iloadN X.here hx rfl hd q k
  · split at hs <;> first | cases hs | skip
    rename_i q; exact XS.iload X.here hx rfl hd q k
  · split at hs <;> first | cases hs | skip
    rename_i q; exact Jvm.Free.XT.lloadN X.here hx rfl hd q k
  · split at hs <;> first | cases hs | skip
    rename_i q; exact Jvm.Free.XT.lload X.here hx rfl hd q k
  · split at hs <;> first | cases hs | skip
    rename_i q; exact XS.dloadN X.here hx rfl hd q k
  · split at hs <;> first | cases hs | skip
    rename_i q; exact XS.dload X.here hx rfl hd q k
  · split at hs <;> first | cases hs | skip
    · rename_i q; exact XS.aloadN X.here hx rfl hd q rfl k
    · rename_i q; exact XS.aloadN X.here hx rfl hd q rfl k
  · split at hs <;> first | cases hs | skip
    · rename_i q; exact XS.aload X.here hx rfl hd q rfl k
    · rename_i q; exact XS.aload X.here hx rfl hd q rfl k
  · split at hs <;> first | cases hs | skip
    split at hs <;> first | cases hs | skip
    rename_i q; exact XS.istoreN X.here hx rfl hd rfl q k
  · split at hs <;> first | cases hs | skip
    split at hs <;> first | cases hs | skip
    rename_i q; exact XS.istore X.here hx rfl hd rfl q k
  · split at hs <;> first | cases hs | skip
    split at hs <;> first | cases hs | skip
    rename_i q; exact Jvm.Free.XT.lstoreN X.here hx rfl hd rfl q k
  · split at hs <;> first | cases hs | skip
    split at hs <;> first | cases hs | skip
    rename_i q; exact Jvm.Free.XT.lstore X.here hx rfl hd rfl q k
  · split at hs <;> first | cases hs | skip
    split at hs <;> first | cases hs | skip
    rename_i q; exact XS.dstoreN X.here hx rfl hd rfl q k
  · split at hs <;> first | cases hs | skip
    split at hs <;> first | cases hs | skip
    rename_i q; exact XS.dstore X.here hx rfl hd rfl q k
  · split at hs <;> first | cases hs | skip
    all_goals
      split at hs <;> first | cases hs | skip
      rename_i q; exact XS.astoreN X.here hx rfl hd rfl rfl q k
  · split at hs <;> first | cases hs | skip
    all_goals
      split at hs <;> first | cases hs | skip
      rename_i q; exact XS.astore X.here hx rfl hd rfl rfl q k
  · split at hs <;> first | cases hs | skip
    rename_i q0
    split at hs <;> first | cases hs | skip
    rename_i q; exact XS.iinc X.here hx rfl hd q0 q k
  · split at hs <;> first | cases hs | skip
    exact XS.iconst X.here hx rfl hd k
  · split at hs <;> first | cases hs | skip
    exact XS.bipush X.here hx rfl hd k
  · split at hs <;> first | cases hs | skip
    exact XS.sipush X.here hx rfl hd k
  · split at hs <;> first | cases hs | skip
    exact Jvm.Free.XT.lconst X.here hx rfl hd k
  · split at hs <;> first | cases hs | skip
    exact XS.aconstNull X.here hx rfl hd k
  · split at hs <;> first | cases hs | skip
    exact XS.iadd X.here hx rfl hd rfl k
  · split at hs <;> first | cases hs | skip
    exact XS.isub X.here hx rfl hd rfl k
  · split at hs <;> first | cases hs | skip
    exact XS.imul X.here hx rfl hd rfl k
  · split at hs <;> first | cases hs | skip
    exact XS.iand X.here hx rfl hd rfl k
  · split at hs <;> first | cases hs | skip
    exact Jvm.Free.XT.ior X.here hx rfl hd rfl k
  · split at hs <;> first | cases hs | skip
    exact Jvm.Free.XT.ixor X.here hx rfl hd rfl k
  · split at hs <;> first | cases hs | skip
    exact Jvm.Free.XT.ishl X.here hx rfl hd rfl k
  · split at hs <;> first | cases hs | skip
    exact Jvm.Free.XT.ishr X.here hx rfl hd rfl k
  · split at hs <;> first | cases hs | skip
    exact Jvm.Free.XT.iushr X.here hx rfl hd rfl k
  · split at hs <;> first | cases hs | skip
    exact XS.ineg X.here hx rfl hd rfl k
  · split at hs <;> first | cases hs | skip
    exact Jvm.Free.XT.ladd X.here hx rfl hd rfl k
  · split at hs <;> first | cases hs | skip
    exact Jvm.Free.XT.lsub X.here hx rfl hd rfl k
  · split at hs <;> first | cases hs | skip
    exact Jvm.Free.XT.lmul X.here hx rfl hd rfl k
  · split at hs <;> first | cases hs | skip
    exact Jvm.Free.XT.land X.here hx rfl hd rfl k
  · split at hs <;> first | cases hs | skip
    exact Jvm.Free.XT.lor X.here hx rfl hd rfl k
  · split at hs <;> first | cases hs | skip
    exact Jvm.Free.XT.lshl X.here hx rfl hd rfl k
  · split at hs <;> first | cases hs | skip
    exact Jvm.Free.XT.lshr X.here hx rfl hd rfl k
  · split at hs <;> first | cases hs | skip
    exact Jvm.Free.XT.lushr X.here hx rfl hd rfl k
  · split at hs <;> first | cases hs | skip
    exact Jvm.Free.XT.lcmp X.here hx rfl hd rfl k
  · split at hs <;> first | cases hs | skip
    exact Jvm.Free.XT.i2l X.here hx rfl hd rfl k
  · split at hs <;> first | cases hs | skip
    exact Jvm.Free.XT.l2i X.here hx rfl hd rfl k
  · split at hs <;> first | cases hs | skip
    exact Jvm.Free.XT.i2b X.here hx rfl hd rfl k
  · split at hs <;> first | cases hs | skip
    exact Jvm.Free.XT.i2c X.here hx rfl hd rfl k
  · split at hs <;> first | cases hs | skip
    exact Jvm.Free.XT.i2s X.here hx rfl hd rfl k
  · split at hs <;> first | cases hs | skip
    exact XS.i2dS X.here hx rfl hd rfl rfl k
  · split at hs <;> first | cases hs | skip
    all_goals exact XS.dup X.here hx rfl hd rfl rfl k
  · split at hs <;> first | cases hs | skip
    all_goals exact Jvm.Free.XT.pop X.here hx rfl hd rfl rfl k
  · split at hs <;> first | cases hs | skip
    all_goals exact Jvm.Free.XT.dupX1 X.here hx rfl hd rfl rfl rfl k
  · split at hs <;> first | cases hs | skip
    · exact Jvm.Free.XT.dup2 X.here hx rfl hd rfl rfl rfl k
    · exact Jvm.Free.XT.dup2 X.here hx rfl hd rfl rfl rfl k
    · exact Jvm.Free.XT.dup2L X.here hx rfl hd rfl k
  · split at hs <;> first | cases hs | skip
    rename_i q; exact XS.goto X.here hx rfl rfl hd (of_decide_eq_true q) rfl k
  · split at hs <;> first | cases hs | skip
    · rename_i q; exact XS.ifnullYes X.here hx rfl rfl hd rfl (of_decide_eq_true q) rfl k
    · exact XS.ifnullNo X.here hx rfl hd rfl k
  · split at hs <;> first | cases hs | skip
    · rename_i q; exact Jvm.Free.XT.ifnonnullYes X.here hx rfl rfl hd rfl (of_decide_eq_true q) rfl k
    · exact Jvm.Free.XT.ifnonnullNo X.here hx rfl hd rfl k
  · cases hs
/-- a row of plain instructions -/
def own_run : List (Nat × Instr × Nat) → Nat → Array Slot → List Value → Option (Nat × Array Slot × List Value)
  | [], pc, ls, st => some (pc, ls, st)
  | x :: seg, pc, ls, st => match decide (pc = x.1) with
    | true => (match own_st x.2.1 x.2.2 x.1 ls st with | some (pc', ls', st') => own_run seg pc' ls' st' | none => none)
    | false => none
def own_dec (cd : ByteArray) (seg : List (Nat × Instr × Nat)) : Bool := seg.all fun x => decide (decode cd x.1 = .ok x.2)
theorem own_run_ok (X : Stand p l e R s m args below meth c T locs cells slots) (hx : p.tables.exec = Jvm.exec) (hby : c.code = cd) : ∀ (seg : List (Nat × Instr × Nat)) {pc pc' : Nat} {ls ls' : Array Slot} {st st' : List Value}, own_dec cd seg = true → own_run seg pc ls st = some (pc', ls', st') → ∀ t,
    Steps p.tables e below (T.setTop (mkF m pc' ls' st')) t → Steps p.tables e below (T.setTop (mkF m pc ls st)) t := by
  intro seg
  induction seg with
  | nil =>
    intro pc pc' ls ls' st st' _ hr t k
    simp only [own_run, Option.some.injEq, Prod.mk.injEq] at hr
    obtain ⟨rfl, rfl, rfl⟩ := hr
    exact k
  | cons x seg ih =>
    intro pc pc' ls ls' st st' hd hr t k
    simp only [own_dec, List.all_cons, Bool.and_eq_true, decide_eq_true_eq] at hd
    simp only [own_run] at hr
    split at hr
    · rename_i q
      have q' : pc = x.1 := of_decide_eq_true q
      subst q'
      split at hr
      · rename_i a1 b1 c1 q2
        exact own_st_ok X hx (by rw [hby]; exact hd.1) q2 t (ih hd.2 hr t k)
      · cases hr
    · cases hr
theorem own_seg (C : own_Cx p s m meth c Z own cd maxL ret nm) (S : own_S p l e R s m args below meth c n0 T h cells slots) (seg : List (Nat × Instr × Nat)) (hd : own_dec cd seg = true) (pc' : Nat) (ls' : Array Slot) (st' : List Value)
    (hr : own_run seg pc ls st = some (pc', ls', st')) (k : own_Go p e below s n0 F kc ks T (mkF m pc' ls' st')) : own_Go p e below s n0 F kc ks T (mkF m pc ls st) := by
  obtain ⟨locs, kk, n, X, -⟩ := S
  exact own_step (own_run_ok X C.1 C.2.1 seg hd hr) k
/-! branches -/
def own_P : ClassFile.Cond → Int32 → Int32 → Prop
  | .eq, x, y => x = y | .ne, x, y => ¬ x = y | .lt, x, y => x < y | .ge, x, y => ¬ x < y | .gt, x, y => y < x | .le, x, y => ¬ y < x
def own_N : ClassFile.Cond → Int32 → Int32 → Prop
  | .eq, x, y => ¬ x = y | .ne, x, y => x = y | .lt, x, y => ¬ x < y | .ge, x, y => x < y | .gt, x, y => ¬ y < x | .le, x, y => y < x
theorem own_holds (q : ClassFile.Cond) (x y : Int32) : (own_P q x y ∧ if_icmp.holds q x y = true) ∨ (own_N q x y ∧ if_icmp.holds q x y = false) := by
  cases q
  · by_cases g : x = y
    · exact Or.inl ⟨g, (teq g).1⟩
    · exact Or.inr ⟨g, (feq g).1⟩
  · by_cases g : x = y
    · exact Or.inr ⟨g, (teq g).2⟩
    · exact Or.inl ⟨g, (feq g).2⟩
  · by_cases g : x < y
    · exact Or.inl ⟨g, (tlt g).1⟩
    · exact Or.inr ⟨g, (flt g).1⟩
  · by_cases g : x < y
    · exact Or.inr ⟨g, (tlt g).2.1⟩
    · exact Or.inl ⟨g, (flt g).2.1⟩
  · by_cases g : y < x
    · exact Or.inl ⟨g, (tlt g).2.2.1⟩
    · exact Or.inr ⟨g, (flt g).2.2.1⟩
  · by_cases g : y < x
    · exact Or.inr ⟨g, (tlt g).2.2.2⟩
    · exact Or.inl ⟨g, (flt g).2.2.2⟩
theorem own_icmp (C : own_Cx p s m meth c Z own cd maxL ret nm) (S : own_S p l e R s m args below meth c n0 T h cells slots) {q : ClassFile.Cond} {o : Int} {x y : Int32} (hd : decode cd pc = .ok (.if_icmp q o, 3)) (pc' : Nat) (ho : 0 ≤ (pc : Int) + o) (hp : ((pc : Int) + o).toNat = pc')
    (k1 : own_P q x y → own_Go p e below s n0 F kc ks T (mkF m pc' ls st)) (k2 : own_N q x y → own_Go p e below s n0 F kc ks T (mkF m (pc + 3) ls st)) : own_Go p e below s n0 F kc ks T (mkF m pc ls (.int y :: .int x :: st)) := by
  obtain ⟨locs, kk, n, X, -⟩ := S
  rcases own_holds q x y with ⟨g, hc⟩ | ⟨g, hc⟩
  · exact own_step (fun t k => XS.icmpYes X.here C.1 rfl rfl (own_hd C hd) rfl hc ho hp k) (k1 g)
  · exact own_step (fun t k => XS.icmpNo X.here C.1 rfl (own_hd C hd) rfl hc k) (k2 g)
theorem own_if (C : own_Cx p s m meth c Z own cd maxL ret nm) (S : own_S p l e R s m args below meth c n0 T h cells slots) {q : ClassFile.Cond} {o : Int} {x : Int32} (hd : decode cd pc = .ok (.ifCond q o, 3)) (pc' : Nat) (ho : 0 ≤ (pc : Int) + o) (hp : ((pc : Int) + o).toNat = pc')
    (k1 : own_P q x 0 → own_Go p e below s n0 F kc ks T (mkF m pc' ls st)) (k2 : own_N q x 0 → own_Go p e below s n0 F kc ks T (mkF m (pc + 3) ls st)) : own_Go p e below s n0 F kc ks T (mkF m pc ls (.int x :: st)) := by
  obtain ⟨locs, kk, n, X, -⟩ := S
  rcases own_holds q x 0 with ⟨g, hc⟩ | ⟨g, hc⟩ <;> rw [← if0] at hc
  · exact own_step (fun t k => XS.ifYes X.here C.1 rfl rfl (own_hd C hd) rfl hc ho hp k) (k1 g)
  · exact own_step (fun t k => XS.ifNo X.here C.1 rfl (own_hd C hd) rfl hc k) (k2 g)
def own_A : ClassFile.ACond → Value → Value → Prop
  | .eq, x, y => x = y | .ne, x, y => ¬ x = y
def own_B : ClassFile.ACond → Value → Value → Prop
  | .eq, x, y => ¬ x = y | .ne, x, y => x = y
theorem own_acmp (C : own_Cx p s m meth c Z own cd maxL ret nm) (S : own_S p l e R s m args below meth c n0 T h cells slots) {q : ClassFile.ACond} {o : Int} {x y : Value} (hx' : x.isRef = true) (hy' : y.isRef = true) (hd : decode cd pc = .ok (.if_acmp q o, 3)) (pc' : Nat) (ho : 0 ≤ (pc : Int) + o) (hp : ((pc : Int) + o).toNat = pc')
    (k1 : own_A q x y → own_Go p e below s n0 F kc ks T (mkF m pc' ls st)) (k2 : own_B q x y → own_Go p e below s n0 F kc ks T (mkF m (pc + 3) ls st)) : own_Go p e below s n0 F kc ks T (mkF m pc ls (y :: x :: st)) := by
  obtain ⟨locs, kk, n, X, -⟩ := S
  cases q <;> by_cases g : x = y
  · exact own_step (fun t k => Jvm.Free.XT.acmpYes X.here C.1 rfl rfl (own_hd C hd) rfl hx' hy' (Jvm.Free.XT.aa_eq_t g) ho hp k) (k1 g)
  · exact own_step (fun t k => Jvm.Free.XT.acmpNo X.here C.1 rfl (own_hd C hd) rfl hx' hy' (Jvm.Free.XT.aa_eq_f g) k) (k2 g)
  · exact own_step (fun t k => Jvm.Free.XT.acmpNo X.here C.1 rfl (own_hd C hd) rfl hx' hy' (Jvm.Free.XT.aa_ne_f g) k) (k2 g)
  · exact own_step (fun t k => Jvm.Free.XT.acmpYes X.here C.1 rfl rfl (own_hd C hd) rfl hx' hy' (Jvm.Free.XT.aa_ne_t g) ho hp k) (k1 g)
/-! arithmetic with premises -/
theorem own_idiv (C : own_Cx p s m meth c Z own cd maxL ret nm) (S : own_S p l e R s m args below meth c n0 T h cells slots) {x y : Int32} (hd : decode cd pc = .ok (.idiv, 1)) (hy : y ≠ 0) (k : own_Go p e below s n0 F kc ks T (mkF m (pc + 1) ls (.int (x / y) :: st))) : own_Go p e below s n0 F kc ks T (mkF m pc ls (.int y :: .int x :: st)) := by
  obtain ⟨locs, kk, n, X, -⟩ := S
  exact own_step (fun t k => XS.idiv X.here C.1 rfl (own_hd C hd) rfl hy k) k
theorem own_irem (C : own_Cx p s m meth c Z own cd maxL ret nm) (S : own_S p l e R s m args below meth c n0 T h cells slots) {x y : Int32} (hd : decode cd pc = .ok (.irem, 1)) (hy : y ≠ 0) (k : own_Go p e below s n0 F kc ks T (mkF m (pc + 1) ls (.int (x % y) :: st))) : own_Go p e below s n0 F kc ks T (mkF m pc ls (.int y :: .int x :: st)) := by
  obtain ⟨locs, kk, n, X, -⟩ := S
  exact own_step (fun t k => iremM X C.1 rfl (own_hd C hd) rfl hy k) k
theorem own_dcmp (C : own_Cx p s m meth c Z own cd maxL ret nm) (S : own_S p l e R s m args below meth c n0 T h cells slots) {o : CmpOp} {x y : UInt64} (v : Int32) (hd : decode cd pc = .ok (.dcmp o, 1)) (hv : cmpValue (FP.dcmp x y) o = v) (k : own_Go p e below s n0 F kc ks T (mkF m (pc + 1) ls (.int v :: st))) : own_Go p e below s n0 F kc ks T (mkF m pc ls (.double y :: .double x :: st)) := by
  obtain ⟨locs, kk, n, X, -⟩ := S
  exact own_step (fun t k => XS.dcmpS X.here C.1 rfl (own_hd C hd) rfl hv k) k
theorem own_ddiv (C : own_Cx p s m meth c Z own cd maxL ret nm) (S : own_S p l e R s m args below meth c n0 T h cells slots) {x y : UInt64} (v : UInt64) (hd : decode cd pc = .ok (.ddiv, 1)) (hn : Jvm.Free.Fl.NoNaN64 (FP.ddiv x y)) (hv : FP.ddiv x y = v) (k : own_Go p e below s n0 F kc ks T (mkF m (pc + 1) ls (.double v :: st))) : own_Go p e below s n0 F kc ks T (mkF m pc ls (.double y :: .double x :: st)) := by
  obtain ⟨locs, kk, n, X, -⟩ := S
  exact own_step (fun t k => XS.ddivS X.here C.1 rfl (own_hd C hd) rfl hn hv k) k
theorem own_dmul (C : own_Cx p s m meth c Z own cd maxL ret nm) (S : own_S p l e R s m args below meth c n0 T h cells slots) {x y : UInt64} (v : UInt64) (hd : decode cd pc = .ok (.dmul, 1)) (hn : Jvm.Free.Fl.NoNaN64 (FP.dmul x y)) (hv : FP.dmul x y = v) (k : own_Go p e below s n0 F kc ks T (mkF m (pc + 1) ls (.double v :: st))) : own_Go p e below s n0 F kc ks T (mkF m pc ls (.double y :: .double x :: st)) := by
  obtain ⟨locs, kk, n, X, -⟩ := S
  exact own_step (fun t k => XS.dmulS X.here C.1 rfl (own_hd C hd) rfl hn hv k) k
theorem own_dadd (C : own_Cx p s m meth c Z own cd maxL ret nm) (S : own_S p l e R s m args below meth c n0 T h cells slots) {x y : UInt64} (v : UInt64) (hd : decode cd pc = .ok (.dadd, 1)) (hn : Jvm.Free.Fl.NoNaN64 (FP.dadd x y)) (hv : FP.dadd x y = v) (k : own_Go p e below s n0 F kc ks T (mkF m (pc + 1) ls (.double v :: st))) : own_Go p e below s n0 F kc ks T (mkF m pc ls (.double y :: .double x :: st)) := by
  obtain ⟨locs, kk, n, X, -⟩ := S
  exact own_step (fun t k => XS.daddS X.here C.1 rfl (own_hd C hd) rfl hn hv k) k
theorem own_dconst0 (C : own_Cx p s m meth c Z own cd maxL ret nm) (S : own_S p l e R s m args below meth c n0 T h cells slots) (hd : decode cd pc = .ok (.dconst 0, 1)) (k : own_Go p e below s n0 F kc ks T (mkF m (pc + 1) ls (.double 0 :: st))) : own_Go p e below s n0 F kc ks T (mkF m pc ls st) := by
  obtain ⟨locs, kk, n, X, -⟩ := S
  exact own_step (fun t k => XS.dconst0 X.here C.1 rfl (own_hd C hd) rfl k) k
/-! constants -/
theorem own_ldc (C : own_Cx p s m meth c Z own cd maxL ret nm) (S : own_S p l e R s m args below meth c n0 T h cells slots) {index : Nat} {v : Int32} (w : (Jvm.Cond.constant own index v).before a0 Z = true) (hd : decode cd pc = .ok (.ldc index, 2)) (k : own_Go p e below s n0 F kc ks T (mkF m (pc + 2) ls (.int v :: st))) : own_Go p e below s n0 F kc ks T (mkF m pc ls st) := by
  obtain ⟨locs, kk, n, X, -⟩ := S
  exact own_step (fun t k => X.ldcInt C.1 C.2.2.2.1 (mv C.2.2.2.2.2.2.2 w) (g := mkF m pc ls st) rfl (own_hd C hd) t k) k
theorem own_ldc2D (C : own_Cx p s m meth c Z own cd maxL ret nm) (S : own_S p l e R s m args below meth c n0 T h cells slots) {index : Nat} {v : UInt64} (w : (Jvm.Cond.constantDouble own index v).before a0 Z = true) (hd : decode cd pc = .ok (.ldc2_w index, 3)) (k : own_Go p e below s n0 F kc ks T (mkF m (pc + 3) ls (.double v :: st))) : own_Go p e below s n0 F kc ks T (mkF m pc ls st) := by
  obtain ⟨locs, kk, n, X, -⟩ := S
  exact own_step (fun t k => X.ldc2DoubleC C.1 C.2.2.2.1 (mv C.2.2.2.2.2.2.2 w) (g := mkF m pc ls st) rfl (own_hd C hd) t k) k
theorem own_ldc2J (C : own_Cx p s m meth c Z own cd maxL ret nm) (S : own_S p l e R s m args below meth c n0 T h cells slots) {index : Nat} {v : Int64} (w : (Jvm.Cond.constantLong own index v).before a0 Z = true) (hd : decode cd pc = .ok (.ldc2_w index, 3)) (k : own_Go p e below s n0 F kc ks T (mkF m (pc + 3) ls (.long v :: st))) : own_Go p e below s n0 F kc ks T (mkF m pc ls st) := by
  obtain ⟨locs, kk, n, X, -⟩ := S
  exact own_step (fun t k => X.ldc2Long C.1 C.2.2.2.1 (mv C.2.2.2.2.2.2.2 w) (g := mkF m pc ls st) rfl (own_hd C hd) t k) k
/-! fields and objects -/
theorem own_getF (C : own_Cx p s m meth c Z own cd maxL ret nm) (S : own_S p l e R s m args below meth c n0 T h cells slots) {index : Nat} {R0 O n d host : String} {a : Addr} {v : Value} (w : (Jvm.Cond.fieldLink own index R0 n d).before a0 Z = true ∨ (Jvm.Cond.fieldLinkNest own index R0 n d host).before a0 Z = true) (via : Via Z R0 O n d) (FF : Fld Z h a O n d v) (hd : decode cd pc = .ok (.getfield index, 3))
    (k : ∀ T', own_S p l e R s m args below meth c n0 T' h cells slots → own_Go p e below s n0 F kc ks T' (mkF m (pc + 3) ls (v :: st))) : own_Go p e below s n0 F kc ks T (mkF m pc ls (.ref a :: st)) := by
  obtain ⟨locs, kk, nn, X, eT, N, q1, q2⟩ := S
  obtain ⟨T', X', e', stp⟩ := getF X C.1 C.2.2.2.2.2.2.2 C.2.2.2.1 w via eT FF (g := mkF m pc ls (.ref a :: st)) rfl rfl (own_hd C hd)
  exact own_step stp (k T' ⟨_, _, _, X', e', N, q1, q2⟩)
theorem own_getS (C : own_Cx p s m meth c Z own cd maxL ret nm) (S : own_S p l e R s m args below meth c n0 T h cells slots) {index : Nat} {R0 O n d : String} {v : Value} (w : (Jvm.Cond.fieldLink own index R0 n d).before a0 Z = true) (via : Via Z R0 O n d) (FF : Sta Z h O n d v) (hd : decode cd pc = .ok (.getstatic index, 3))
    (k : ∀ T', own_S p l e R s m args below meth c n0 T' h cells slots → own_Go p e below s n0 F kc ks T' (mkF m (pc + 3) ls (v :: st))) : own_Go p e below s n0 F kc ks T (mkF m pc ls st) := by
  obtain ⟨locs, kk, nn, X, eT, N, q1, q2⟩ := S
  obtain ⟨T', X', e', stp⟩ := getS X C.1 C.2.2.2.2.2.2.2 (host := "") C.2.2.2.1 w via eT FF (g := mkF m pc ls st) rfl (own_hd C hd)
  exact own_step stp (k T' ⟨_, _, _, X', e', N, q1, q2⟩)
theorem own_putF (C : own_Cx p s m meth c Z own cd maxL ret nm) (S : own_S p l e R s m args below meth c n0 T h cells slots) {index ki : Nat} {R0 O n d host Cl : String} {a : Addr} {v old : Value} {ty : FieldType} (w : (Jvm.Cond.fieldLink own index R0 n d).before a0 Z = true ∨ (Jvm.Cond.fieldLinkNest own index R0 n d host).before a0 Z = true) (via : Via Z R0 O n d) (FF : Fld Z h a O n d old) (E : Exa Z h a Cl)
    (L : (Jvm.Cond.lays Cl O n d).before a0 Z = true ∨ ((Jvm.Cond.laysFinal Cl O n d).before a0 Z = true ∧ own = O ∧ nm = "<init>")) (wi : (Jvm.Cond.instantiable Cl ki).before a0 Z = true) (hty : parseFieldDescriptor d = some ty) (hn : narrow ty v = v) (hf : fits ty v = true) (hge : n0 ≤ a) (hd : decode cd pc = .ok (.putfield index, 3))
    (k : ∀ T' h', own_S p l e R s m args below meth c n0 T' h' cells slots → Wr h h' a (Jvm.RoadKit.slotOf Z O n d) v → own_Go p e below s n0 F kc ks T' (mkF m (pc + 3) ls st)) : own_Go p e below s n0 F kc ks T (mkF m pc ls (v :: .ref a :: st)) := by
  obtain ⟨locs, kk, nn, X, eT, N, q1, q2⟩ := S
  obtain ⟨T', h', X', e', W, stp⟩ := putF X C.1 C.2.2.2.2.2.2.2 C.2.2.2.1 w via eT FF E (L.imp id (fun q => ⟨q.1, q.2.1, C.2.2.2.2.1.trans q.2.2⟩)) wi hty hn hf (g := mkF m pc ls (v :: .ref a :: st)) rfl rfl (own_hd C hd)
  exact own_step stp (k T' h' ⟨_, _, _, X', e', Fr.snoc X' N hge, q1, q2⟩ W)
theorem own_new (C : own_Cx p s m meth c Z own cd maxL ret nm) (S : own_S p l e R s m args below meth c n0 T h cells slots) {index ki : Nat} {Cl : String} (w : (Jvm.Cond.classLink own index Cl).before a0 Z = true) (wi : (Jvm.Cond.instantiable Cl ki).before a0 Z = true) (wz : (Jvm.Cond.initialized Cl).before a0 Z = true) (hd : decode cd pc = .ok (.new index, 3)) (hc : cells + 1 ≤ R.cells) (hl : slots + ki ≤ R.slots)
    (k : ∀ T' h' a, own_S p l e R s m args below meth c n0 T' h' (cells + 1) (slots + ki) → a = h.size → Ext h h' → Exa Z h' a Cl → (∀ {O nm d : String} {ty : FieldType}, Laid Z a0 Cl O nm d → parseFieldDescriptor d = some ty → Fld Z h' a O nm d (defaultValue ty)) → own_Go p e below s n0 F kc ks T' (mkF m (pc + 3) ls (.ref a :: st))) : own_Go p e below s n0 F kc ks T (mkF m pc ls st) := by
  obtain ⟨locs, kk, nn, X, eT, N, q1, q2⟩ := S
  obtain ⟨T', h', X', e', E, A, D, -, stp⟩ := newO X C.1 C.2.2.2.2.2.2.2 C.2.2.2.1 w wi wz eT (g := mkF m pc ls st) rfl (own_hd C hd) (by omega) (by omega)
  exact own_step stp (k T' h' _ ⟨_, _, _, X', e', N, by omega, by omega⟩ rfl E A D)
theorem own_initO (C : own_Cx p s m meth c Z own cd maxL ret nm) (S : own_S p l e R s m args below meth c n0 T h cells slots) {index : Nat} (w1 : (Jvm.Cond.methodLink own index Lib.objectInit).before a0 Z = true) (w2 : (Jvm.Cond.instanceMethod Lib.objectInit).before a0 Z = true) (w3 : (Jvm.Cond.code Lib.objectInit ⟨#[0xb1]⟩ 1 none).before a0 Z = true) {a : Addr} (hsz : ls.size = maxL) (hd : decode cd pc = .ok (.invokespecial index, 3)) (hf : 1 ≤ R.frames) (W : Nat) (hW : (st.map fun v => v.category).sum ≤ W) (hl : W + 12 ≤ R.locals)
    (k : ∀ T', own_S p l e R s m args below meth c n0 T' h cells slots → own_Go p e below s n0 F kc ks T' (mkF m (pc + 3) ls st)) : own_Go p e below s n0 F kc ks T (mkF m pc ls (.ref a :: st)) := by
  obtain ⟨locs, kk, nn, X, eT, N, q1, q2⟩ := S
  obtain ⟨T', X', e', stp⟩ := initO X C.1 C.2.2.2.2.2.2.2 C.2.2.2.1 w1 w2 w3 eT (g := mkF m pc ls (.ref a :: st)) rfl (own_hsz C hsz) rfl (own_hd C hd) hf (W := W) (by show 2 * 0 + _ ≤ W; omega) hl
  exact own_step stp (k T' ⟨_, _, _, X', e', N, q1, q2⟩)
/-! arrays -/
theorem own_newP (C : own_Cx p s m meth c Z own cd maxL ret nm) (S : own_S p l e R s m args below meth c n0 T h cells slots) {aty : ArrayType} (w : (Jvm.Cond.arrayClass (newarray.typeOf aty)).before a0 Z = true) (hd : decode cd pc = .ok (.newarray aty, 2)) {n : Int32} (hn : ¬ n < 0) (cap : Nat) (hcap : n.toNatClampNeg ≤ cap) (hb : cap * 8 ≤ 536870912) (hc : cells + 1 ≤ R.cells) (hl : slots + cap ≤ R.slots)
    (k : ∀ T' h' a cA, own_S p l e R s m args below meth c n0 T' h' (cells + 1) (slots + cap) → a = h.size → Ext h h' → Arv Z h' a cA (newarray.typeOf aty) n [] (defaultValue (newarray.typeOf aty)) → own_Go p e below s n0 F kc ks T' (mkF m (pc + 2) ls (.ref a :: st))) : own_Go p e below s n0 F kc ks T (mkF m pc ls (.int n :: st)) := by
  obtain ⟨locs, kk, nn, X, eT, N, q1, q2⟩ := S
  obtain ⟨T', h', cA, X', e', E, A, stp⟩ := newP X C.1 C.2.2.2.2.2.2.2 w eT (g := mkF m pc ls (.int n :: st)) rfl (own_hd C hd) rfl hn hcap hb (by omega) (by omega)
  exact own_step stp (k T' h' _ cA ⟨_, _, _, X', e', N, by omega, by omega⟩ rfl E (Arv.new A hn))
theorem own_alen (C : own_Cx p s m meth c Z own cd maxL ret nm) (S : own_S p l e R s m args below meth c n0 T h cells slots) {a : Addr} {ka : ClassId} {ty : FieldType} {N : Int32} {vs : List Value} {dv : Value} (FF : Arv Z h a ka ty N vs dv) (hd : decode cd pc = .ok (.arraylength, 1)) (k : own_Go p e below s n0 F kc ks T (mkF m (pc + 1) ls (.int N :: st))) : own_Go p e below s n0 F kc ks T (mkF m pc ls (.ref a :: st)) := by
  obtain ⟨locs, kk, nn, X, eT, -⟩ := S
  obtain ⟨cl, A, -, sz, hN, -⟩ := FF
  rw [← len_of sz hN] at k
  exact own_step (fun t k => X.arraylength C.1 (by rw [eT]; exact A.1) (State.isArrayOf_alike C.2.2.2.2.2.2.2.alike A.2.1) (g := mkF m pc ls (.ref a :: st)) rfl rfl (own_hd C hd) t k) k
theorem own_caload (C : own_Cx p s m meth c Z own cd maxL ret nm) (S : own_S p l e R s m args below meth c n0 T h cells slots) {a : Addr} {ka : ClassId} {N j : Int32} {vs : List Value} {dv : Value} (FF : Arv Z h a ka .char N vs dv) (hin : ¬ j < 0 ∧ j < N) (v : Value) (hv : vs.getD j.toNatClampNeg dv = v) (hd : decode cd pc = .ok (.caload, 1)) (k : own_Go p e below s n0 F kc ks T (mkF m (pc + 1) ls (v :: st))) : own_Go p e below s n0 F kc ks T (mkF m pc ls (.int j :: .ref a :: st)) := by
  obtain ⟨locs, kk, nn, X, eT, -⟩ := S
  obtain ⟨cl, A, -, sz, hN, H, -⟩ := FF
  exact own_step (fun t k => X.caload C.1 (by rw [eT]; exact A.1) (State.isArrayOf_alike C.2.2.2.2.2.2.2.alike A.2.1) A.2.2 (inb_of sz hin) (Has.at H (inb_of sz hin) hv) (g := mkF m pc ls (.int j :: .ref a :: st)) rfl rfl (own_hd C hd) t k) k
theorem own_iaload (C : own_Cx p s m meth c Z own cd maxL ret nm) (S : own_S p l e R s m args below meth c n0 T h cells slots) {a : Addr} {ka : ClassId} {N j : Int32} {vs : List Value} {dv : Value} (FF : Arv Z h a ka .int N vs dv) (hin : ¬ j < 0 ∧ j < N) (v : Value) (hv : vs.getD j.toNatClampNeg dv = v) (hd : decode cd pc = .ok (.iaload, 1)) (k : own_Go p e below s n0 F kc ks T (mkF m (pc + 1) ls (v :: st))) : own_Go p e below s n0 F kc ks T (mkF m pc ls (.int j :: .ref a :: st)) := by
  obtain ⟨locs, kk, nn, X, eT, -⟩ := S
  obtain ⟨cl, A, -, sz, hN, H, -⟩ := FF
  exact own_step (fun t k => X.iaload C.1 (by rw [eT]; exact A.1) (State.isArrayOf_alike C.2.2.2.2.2.2.2.alike A.2.1) A.2.2 (inb_of sz hin) (Has.at H (inb_of sz hin) hv) (g := mkF m pc ls (.int j :: .ref a :: st)) rfl rfl (own_hd C hd) t k) k
theorem own_baload (C : own_Cx p s m meth c Z own cd maxL ret nm) (S : own_S p l e R s m args below meth c n0 T h cells slots) {a : Addr} {ka : ClassId} {N j : Int32} {vs : List Value} {dv : Value} (FF : Arv Z h a ka .byte N vs dv) (hin : ¬ j < 0 ∧ j < N) (v : Value) (hv : vs.getD j.toNatClampNeg dv = v) (hd : decode cd pc = .ok (.baload, 1)) (k : own_Go p e below s n0 F kc ks T (mkF m (pc + 1) ls (v :: st))) : own_Go p e below s n0 F kc ks T (mkF m pc ls (.int j :: .ref a :: st)) := by
  obtain ⟨locs, kk, nn, X, eT, -⟩ := S
  obtain ⟨cl, A, -, sz, hN, H, -⟩ := FF
  exact own_step (fun t k => X.baloadBytes C.1 (by rw [eT]; exact A.1) (State.isArrayOf_alike C.2.2.2.2.2.2.2.alike A.2.1) A.2.2 (inb_of sz hin) (Has.at H (inb_of sz hin) hv) (g := mkF m pc ls (.int j :: .ref a :: st)) rfl rfl (own_hd C hd) t k) k
theorem own_daload (C : own_Cx p s m meth c Z own cd maxL ret nm) (S : own_S p l e R s m args below meth c n0 T h cells slots) {a : Addr} {ka : ClassId} {N j : Int32} {vs : List Value} {dv : Value} (FF : Arv Z h a ka .double N vs dv) (hin : ¬ j < 0 ∧ j < N) (v : Value) (hv : vs.getD j.toNatClampNeg dv = v) (hd : decode cd pc = .ok (.daload, 1)) (k : own_Go p e below s n0 F kc ks T (mkF m (pc + 1) ls (v :: st))) : own_Go p e below s n0 F kc ks T (mkF m pc ls (.int j :: .ref a :: st)) := by
  obtain ⟨locs, kk, nn, X, eT, -⟩ := S
  obtain ⟨cl, A, -, sz, hN, H, -⟩ := FF
  exact own_step (fun t k => X.daload C.1 (by rw [eT]; exact A.1) (State.isArrayOf_alike C.2.2.2.2.2.2.2.alike A.2.1) A.2.2 (inb_of sz hin) (Has.at H (inb_of sz hin) hv) (g := mkF m pc ls (.int j :: .ref a :: st)) rfl rfl (own_hd C hd) t k) k
theorem own_castore (C : own_Cx p s m meth c Z own cd maxL ret nm) (S : own_S p l e R s m args below meth c n0 T h cells slots) {a : Addr} {ka : ClassId} {N j x : Int32} {vs : List Value} {dv : Value} (FF : Arv Z h a ka .char N vs dv) (hin : ¬ j < 0 ∧ j < N) (i : Nat) (hj : j.toNatClampNeg = i) (hi : i < vs.length) (x' : Int32) (hx' : nar .char x = x') (hge : n0 ≤ a) (hd : decode cd pc = .ok (.castore, 1))
    (k : ∀ T' h', own_S p l e R s m args below meth c n0 T' h' cells slots → Wr h h' a j.toNatClampNeg (.int x') → Arv Z h' a ka .char N (vs.set i (.int x')) dv → own_Go p e below s n0 F kc ks T' (mkF m (pc + 1) ls st)) : own_Go p e below s n0 F kc ks T (mkF m pc ls (.int x :: .int j :: .ref a :: st)) := by
  subst hx'
  obtain ⟨locs, kk, nn, X, eT, N, q1, q2⟩ := S
  obtain ⟨cl, A, ck, sz, hN, H, G⟩ := FF
  obtain ⟨T', h', X', e', W, stp⟩ := stC X C.1 C.2.2.2.2.2.2.2 eT A (inb_of sz hin) (g := mkF m pc ls (.int x :: .int j :: .ref a :: st)) rfl rfl (own_hd C hd)
  exact own_step stp (k T' h' ⟨_, _, _, X', e', Fr.snoc X' N hge, q1, q2⟩ W (Arv.set A ck sz hN H G (fits_nar_char x) W i hj hi))
theorem own_bastore (C : own_Cx p s m meth c Z own cd maxL ret nm) (S : own_S p l e R s m args below meth c n0 T h cells slots) {a : Addr} {ka : ClassId} {N j x : Int32} {vs : List Value} {dv : Value} (FF : Arv Z h a ka .byte N vs dv) (hin : ¬ j < 0 ∧ j < N) (i : Nat) (hj : j.toNatClampNeg = i) (hi : i < vs.length) (x' : Int32) (hx' : nar .byte x = x') (hge : n0 ≤ a) (hd : decode cd pc = .ok (.bastore, 1))
    (k : ∀ T' h', own_S p l e R s m args below meth c n0 T' h' cells slots → Wr h h' a j.toNatClampNeg (.int x') → Arv Z h' a ka .byte N (vs.set i (.int x')) dv → own_Go p e below s n0 F kc ks T' (mkF m (pc + 1) ls st)) : own_Go p e below s n0 F kc ks T (mkF m pc ls (.int x :: .int j :: .ref a :: st)) := by
  subst hx'
  obtain ⟨locs, kk, nn, X, eT, N, q1, q2⟩ := S
  obtain ⟨cl, A, ck, sz, hN, H, G⟩ := FF
  obtain ⟨T', h', X', e', W, stp⟩ := stB X C.1 C.2.2.2.2.2.2.2 eT A (inb_of sz hin) (g := mkF m pc ls (.int x :: .int j :: .ref a :: st)) rfl rfl (own_hd C hd)
  exact own_step stp (k T' h' ⟨_, _, _, X', e', Fr.snoc X' N hge, q1, q2⟩ W (Arv.set A ck sz hN H G (fits_nar_byte x) W i hj hi))
theorem own_iastore (C : own_Cx p s m meth c Z own cd maxL ret nm) (S : own_S p l e R s m args below meth c n0 T h cells slots) {a : Addr} {ka : ClassId} {N j x : Int32} {vs : List Value} {dv : Value} (FF : Arv Z h a ka .int N vs dv) (hin : ¬ j < 0 ∧ j < N) (i : Nat) (hj : j.toNatClampNeg = i) (hi : i < vs.length) (hge : n0 ≤ a) (hd : decode cd pc = .ok (.iastore, 1))
    (k : ∀ T' h', own_S p l e R s m args below meth c n0 T' h' cells slots → Wr h h' a j.toNatClampNeg (.int x) → Arv Z h' a ka .int N (vs.set i (.int x)) dv → own_Go p e below s n0 F kc ks T' (mkF m (pc + 1) ls st)) : own_Go p e below s n0 F kc ks T (mkF m pc ls (.int x :: .int j :: .ref a :: st)) := by
  obtain ⟨locs, kk, nn, X, eT, N, q1, q2⟩ := S
  obtain ⟨cl, A, ck, sz, hN, H, G⟩ := FF
  obtain ⟨T', h', X', e', W, stp⟩ := stI X C.1 C.2.2.2.2.2.2.2 eT A (inb_of sz hin) (g := mkF m pc ls (.int x :: .int j :: .ref a :: st)) rfl rfl (own_hd C hd)
  exact own_step stp (k T' h' ⟨_, _, _, X', e', Fr.snoc X' N hge, q1, q2⟩ W (Arv.set A ck sz hN H G rfl W i hj hi))
theorem own_dastore (C : own_Cx p s m meth c Z own cd maxL ret nm) (S : own_S p l e R s m args below meth c n0 T h cells slots) {a : Addr} {ka : ClassId} {N j : Int32} {x : UInt64} {vs : List Value} {dv : Value} (FF : Arv Z h a ka .double N vs dv) (hin : ¬ j < 0 ∧ j < N) (i : Nat) (hj : j.toNatClampNeg = i) (hi : i < vs.length) (hge : n0 ≤ a) (hd : decode cd pc = .ok (.dastore, 1))
    (k : ∀ T' h', own_S p l e R s m args below meth c n0 T' h' cells slots → Wr h h' a j.toNatClampNeg (.double x) → Arv Z h' a ka .double N (vs.set i (.double x)) dv → own_Go p e below s n0 F kc ks T' (mkF m (pc + 1) ls st)) : own_Go p e below s n0 F kc ks T (mkF m pc ls (.double x :: .int j :: .ref a :: st)) := by
  obtain ⟨locs, kk, nn, X, eT, N, q1, q2⟩ := S
  obtain ⟨cl, A, ck, sz, hN, H, G⟩ := FF
  obtain ⟨T', h', X', e', W, stp⟩ := stD X C.1 C.2.2.2.2.2.2.2 eT A (inb_of sz hin) (g := mkF m pc ls (.double x :: .int j :: .ref a :: st)) rfl rfl (own_hd C hd)
  exact own_step stp (k T' h' ⟨_, _, _, X', e', Fr.snoc X' N hge, q1, q2⟩ W (Arv.set A ck sz hN H G rfl W i hj hi))
/-! arrays of objects, casts -/
theorem own_newR (C : own_Cx p s m meth c Z own cd maxL ret nm) (S : own_S p l e R s m args below meth c n0 T h cells slots) {index : Nat} {Cl : String} (w1 : (Jvm.Cond.classLink own index Cl).before a0 Z = true) (w2 : (Jvm.Cond.arrayOver (.object Cl)).before a0 Z = true) (hd : decode cd pc = .ok (.anewarray index, 3)) {n : Int32} (hn : ¬ n < 0) (cap : Nat) (hcap : n.toNatClampNeg ≤ cap) (hb : cap * 8 ≤ 536870912) (hc : cells + 1 ≤ R.cells) (hl : slots + cap ≤ R.slots)
    (k : ∀ T' h' a cA, own_S p l e R s m args below meth c n0 T' h' (cells + 1) (slots + cap) → a = h.size → Ext h h' → Arv Z h' a cA (.object Cl) n [] .null → Ovr Z cA Cl → own_Go p e below s n0 F kc ks T' (mkF m (pc + 3) ls (.ref a :: st))) : own_Go p e below s n0 F kc ks T (mkF m pc ls (.int n :: st)) := by
  obtain ⟨locs, kk, nn, X, eT, N, q1, q2⟩ := S
  obtain ⟨T', h', cA, X', e', E, A, O, stp⟩ := newR X C.1 C.2.2.2.2.2.2.2 C.2.2.2.1 w1 w2 eT (g := mkF m pc ls (.int n :: st)) rfl (own_hd C hd) rfl hn hcap hb (by omega) (by omega)
  exact own_step stp (k T' h' _ cA ⟨_, _, _, X', e', N, by omega, by omega⟩ rfl E (Arv.new A hn) O)
theorem own_aaload (C : own_Cx p s m meth c Z own cd maxL ret nm) (S : own_S p l e R s m args below meth c n0 T h cells slots) {a : Addr} {ka : ClassId} {ty : FieldType} {N j : Int32} {vs : List Value} {dv : Value} (FF : Arv Z h a ka ty N vs dv) (hty : ty.isReference = true) (hin : ¬ j < 0 ∧ j < N) (v : Value) (hv : vs.getD j.toNatClampNeg dv = v) (hd : decode cd pc = .ok (.aaload, 1)) (k : own_Go p e below s n0 F kc ks T (mkF m (pc + 1) ls (v :: st))) : own_Go p e below s n0 F kc ks T (mkF m pc ls (.int j :: .ref a :: st)) := by
  obtain ⟨locs, kk, nn, X, eT, -⟩ := S
  obtain ⟨cl, A, -, sz, hN, H, -⟩ := FF
  exact own_step (fun t k => X.aaload C.1 (by rw [eT]; exact A.1) (State.isArrayOf_alike C.2.2.2.2.2.2.2.alike A.2.1) hty A.2.2 (inb_of sz hin) (Has.at H (inb_of sz hin) hv) (g := mkF m pc ls (.int j :: .ref a :: st)) rfl rfl (own_hd C hd) t k) k
theorem own_aastore (C : own_Cx p s m meth c Z own cd maxL ret nm) (S : own_S p l e R s m args below meth c n0 T h cells slots) {a y : Addr} {ka : ClassId} {Cl : String} {N j : Int32} {vs : List Value} {dv : Value} (FF : Arv Z h a ka (.object Cl) N vs dv) (O : Ovr Z ka Cl) (I : Ins Z h y Cl true) (hin : ¬ j < 0 ∧ j < N) (i : Nat) (hj : j.toNatClampNeg = i) (hi : i < vs.length) (hge : n0 ≤ a) (hd : decode cd pc = .ok (.aastore, 1))
    (k : ∀ T' h', own_S p l e R s m args below meth c n0 T' h' cells slots → Wr h h' a j.toNatClampNeg (.ref y) → Arv Z h' a ka (.object Cl) N (vs.set i (.ref y)) dv → own_Go p e below s n0 F kc ks T' (mkF m (pc + 1) ls st)) : own_Go p e below s n0 F kc ks T (mkF m pc ls (.ref y :: .int j :: .ref a :: st)) := by
  obtain ⟨locs, kk, nn, X, eT, N, q1, q2⟩ := S
  obtain ⟨cl, A, ck, sz, hN, H, G⟩ := FF
  obtain ⟨T', h', X', e', W, stp⟩ := stR X C.1 C.2.2.2.2.2.2.2 eT A (inb_of sz hin) rfl (Sto.ofV A ck O I) (g := mkF m pc ls (.ref y :: .int j :: .ref a :: st)) rfl rfl (own_hd C hd)
  exact own_step stp (k T' h' ⟨_, _, _, X', e', Fr.snoc X' N hge, q1, q2⟩ W (Arv.set A ck sz hN H G rfl W i hj hi))
theorem own_cast (C : own_Cx p s m meth c Z own cd maxL ret nm) (S : own_S p l e R s m args below meth c n0 T h cells slots) {index : Nat} {K : String} {a : Addr} (w : (Jvm.Cond.classLink own index K).before a0 Z = true) (FF : Ins Z h a K true) (hd : decode cd pc = .ok (.checkcast index, 3))
    (k : ∀ T', own_S p l e R s m args below meth c n0 T' h cells slots → own_Go p e below s n0 F kc ks T' (mkF m (pc + 3) ls (.ref a :: st))) : own_Go p e below s n0 F kc ks T (mkF m pc ls (.ref a :: st)) := by
  obtain ⟨locs, kk, nn, X, eT, N, q1, q2⟩ := S
  obtain ⟨T', X', e', stp⟩ := castY X C.1 C.2.2.2.2.2.2.2 C.2.2.2.1 w eT FF (g := mkF m pc ls (.ref a :: st)) rfl rfl (own_hd C hd)
  exact own_step stp (k T' ⟨_, _, _, X', e', N, q1, q2⟩)
theorem own_inst (C : own_Cx p s m meth c Z own cd maxL ret nm) (S : own_S p l e R s m args below meth c n0 T h cells slots) {index : Nat} {K : String} {a : Addr} (w : (Jvm.Cond.classLink own index K).before a0 Z = true) (FF : Ins Z h a K true) (hd : decode cd pc = .ok (.instanceof index, 3))
    (k : ∀ T', own_S p l e R s m args below meth c n0 T' h cells slots → own_Go p e below s n0 F kc ks T' (mkF m (pc + 3) ls (.int 1 :: st))) : own_Go p e below s n0 F kc ks T (mkF m pc ls (.ref a :: st)) := by
  obtain ⟨locs, kk, nn, X, eT, N, q1, q2⟩ := S
  obtain ⟨T', X', e', stp⟩ := instY X C.1 C.2.2.2.2.2.2.2 C.2.2.2.1 w eT FF (g := mkF m pc ls (.ref a :: st)) rfl rfl (own_hd C hd)
  exact own_step stp (k T' ⟨_, _, _, X', e', N, q1, q2⟩)
/-! the end -/
theorem own_ret {t : FieldType} (C : own_Cx p s m meth c Z own cd maxL (some t) nm) (S : own_S p l e R s m args below meth c n0 T h cells slots) {i : Instr} {w : Value} (hd : decode cd pc = .ok (i, 1)) (hn : narrow t w = w)
    (hi : (i = .ireturn ∧ (t = .int ∨ t = .boolean ∨ t = .byte ∨ t = .char ∨ t = .short) ∧ ∃ z, w = .int z) ∨ (i = .lreturn ∧ t = .long ∧ ∃ z, w = .long z) ∨ (i = .dreturn ∧ t = .double ∧ ∃ z, w = .double z) ∨ (i = .freturn ∧ t = .float ∧ ∃ z, w = .float z) ∨ (i = .areturn ∧ t.isReference = true ∧ w.isRef = true))
    (hc : cells ≤ kc) (hs : slots ≤ ks) (hF : F (some w) h) : own_Go p e below s n0 F kc ks T (mkF m pc ls (w :: st)) := by
  obtain ⟨locs, kk, nn, X, eT, N, q1, q2⟩ := S
  obtain ⟨fs, hr, hrun, hended, hW, hsame⟩ := X.leave (v := some w) (fun q => by rw [C.2.2.2.2.2.1] at q; cases q) C.2.2.2.2.2.2.1
  refine ⟨_, _, retOut X C.1 C.2.2.2.2.2.1 hn hi (own_hd C hd) hr, hrun, hended, _, _, rfl, ⟨?_, N⟩, ⟨_, rfl⟩, hW, hsame.mono (Nat.le_trans q1 hc) (Nat.le_trans q2 hs)⟩
  show F (some w) T.heap
  rw [eT]; exact hF
theorem own_retI (C : own_Cx p s m meth c Z own cd maxL (some .int) nm) (S : own_S p l e R s m args below meth c n0 T h cells slots) {z : Int32} (hd : decode cd pc = .ok (.ireturn, 1)) (hc : cells ≤ kc) (hs : slots ≤ ks) (hF : F (some (.int z)) h) : own_Go p e below s n0 F kc ks T (mkF m pc ls (.int z :: st)) :=
  own_ret C S hd rfl (Or.inl ⟨rfl, Or.inl rfl, z, rfl⟩) hc hs hF
theorem own_retZ (C : own_Cx p s m meth c Z own cd maxL (some .boolean) nm) (S : own_S p l e R s m args below meth c n0 T h cells slots) {z : Int32} (hd : decode cd pc = .ok (.ireturn, 1)) (hz : z &&& 1 = z) (hc : cells ≤ kc) (hs : slots ≤ ks) (hF : F (some (.int z)) h) : own_Go p e below s n0 F kc ks T (mkF m pc ls (.int z :: st)) :=
  own_ret C S hd (by show Value.int (z &&& 1) = _; rw [hz]) (Or.inl ⟨rfl, Or.inr (Or.inl rfl), z, rfl⟩) hc hs hF
theorem own_retC (C : own_Cx p s m meth c Z own cd maxL (some .char) nm) (S : own_S p l e R s m args below meth c n0 T h cells slots) {z : Int32} (hd : decode cd pc = .ok (.ireturn, 1)) (hz : z.toUInt32.toUInt16.toUInt32.toInt32 = z) (hc : cells ≤ kc) (hs : slots ≤ ks) (hF : F (some (.int z)) h) : own_Go p e below s n0 F kc ks T (mkF m pc ls (.int z :: st)) :=
  own_ret C S hd (by show Value.int (z.toUInt32.toUInt16.toUInt32.toInt32) = _; rw [hz]) (Or.inl ⟨rfl, by simp, z, rfl⟩) hc hs hF
theorem own_retA {t : FieldType} (C : own_Cx p s m meth c Z own cd maxL (some t) nm) (S : own_S p l e R s m args below meth c n0 T h cells slots) {w : Value} (ht : t.isReference = true) (hr : w.isRef = true) (hd : decode cd pc = .ok (.areturn, 1)) (hc : cells ≤ kc) (hs : slots ≤ ks) (hF : F (some w) h) : own_Go p e below s n0 F kc ks T (mkF m pc ls (w :: st)) :=
  own_ret C S hd (by cases w <;> simp [Value.isRef] at hr <;> cases t <;> first | rfl | (simp [FieldType.isReference] at ht)) (by simp [ht, hr]) hc hs hF
theorem own_retD (C : own_Cx p s m meth c Z own cd maxL (some .double) nm) (S : own_S p l e R s m args below meth c n0 T h cells slots) {z : UInt64} (hd : decode cd pc = .ok (.dreturn, 1)) (hc : cells ≤ kc) (hs : slots ≤ ks) (hF : F (some (.double z)) h) : own_Go p e below s n0 F kc ks T (mkF m pc ls (.double z :: st)) :=
  own_ret C S hd rfl (by simp) hc hs hF
theorem own_retV (C : own_Cx p s m meth c Z own cd maxL none nm) (S : own_S p l e R s m args below meth c n0 T h cells slots) (hd : decode cd pc = .ok (.return_, 1)) (hc : cells ≤ kc) (hs : slots ≤ ks) (hF : F none h) : own_Go p e below s n0 F kc ks T (mkF m pc ls []) := by
  obtain ⟨locs, kk, nn, X, eT, N, q1, q2⟩ := S
  obtain ⟨fs, hr, hrun, hended, hW, hsame⟩ := X.leave (v := none) (fun _ => rfl) C.2.2.2.2.2.2.1
  refine ⟨_, _, X.returnOut C.1 C.2.2.2.2.2.1 (own_hd C hd) hr, hrun, hended, _, _, rfl, ⟨?_, N⟩, ⟨_, rfl⟩, hW, hsame.mono (Nat.le_trans q1 hc) (Nat.le_trans q2 hs)⟩
  show F none T.heap
  rw [eT]; exact hF
/-! contracts -/
def own_Met (l : Launch) (Z : State) (y : MethodName) (cd : ByteArray) (maxL : Nat) (ret : Option FieldType) (rm : Room) (n0 : Nat) (as' : Array Value) (h0 : Heap) (Q : Option Value → Heap → Prop) : Prop :=
  ∀ ws, MetFree l y (head1 (Jvm.Cond.code y cd maxL ret :: ws) rm) (fun a U => a = as' ∧ Z.Warmed39 U.vm ∧ U.heap = h0) (fun _ _ _ _ _ => True) (fun _ U o U' => ∃ v L, o = .returned v ∧ (Q v U'.heap ∧ Fr n0 L) ∧ FrameEnd U o U' L rm.cells rm.slots)
theorem own_met {y : MethodName} {rm : Room} {as' : Array Value} {h0 : Heap} {Q : Option Value → Heap → Prop} (hp : plainFor y = true) (ls : Array Slot) (hef : ∀ m, entryFrame m as' maxL = mkF m 0 ls [])
    (H : ∀ (p : Program) (e : Env) (s : State) (m : MethodId) (below : List Frame) (meth : Method) (c : Code) (T : State), own_Cx p s m meth c Z y.cls cd maxL ret y.name → own_S p l e rm s m as' below meth c n0 T h0 0 0 → own_Go p e below s n0 Q rm.cells rm.slots T (mkF m 0 ls [])) : own_Met l Z y cd maxL ret rm n0 as' h0 Q := by
  intro ws
  refine MetFree.of_bodySF hp hisR ?_
  intro p e s m args below meth c s₁ Bd hml hP hK
  obtain ⟨rfl, hZ, hh⟩ := hP
  have e0 : s₁.heap = h0 := by rw [← hh, Bd.state]; rfl
  have G := H p e s m below meth c s₁ ⟨Bd.exec, Bd.bytes, hml, findClass_of_methodNamed Bd.named, (name_of_methodNamed Bd.named Bd.method).1, Bd.returns, BodyLoose.notSynchronized Bd, hZ⟩ ⟨_, _, _, Stand.of_body Bd, e0, Fr.nil n0, Nat.le_refl _, Nat.le_refl _⟩
  rw [← hef m] at G
  exact G
/-! calls -/
/-- who pays a call -/
abbrev own_Pay (l : Launch) (R : Room) (p : Program) (e : Env) (below : List Frame) (s : State) (args : Array Value) (y : MethodName) (len W : Nat) (as' : Array Value) (h : Heap) (k1 k2 : Nat) (Q : Option Value → Heap → List Loc → Prop) : Prop :=
  Back l R p e below s args y len W (fun P a => a = as' ∧ P.U.heap = h ∧ P.cells + k1 ≤ R.cells ∧ P.slots + k2 ≤ R.slots) (fun P _ v B => ∃ L, Q v B.U.heap L ∧ B.locs = P.locs ++ L ∧ B.cells = P.cells + k1 ∧ B.slots = P.slots + k2)
theorem own_Met.pay {y : MethodName} {cdy : ByteArray} {maxy : Nat} {rety : Option FieldType} {rm : Room} {as' : Array Value} {Q : Option Value → Heap → Prop} (M : own_Met l Z y cdy maxy rety rm n0 as' h Q) (C : own_Cx p s m meth c Z own cd maxL ret nm) {len : Nat} (W : Nat) (wc : (Jvm.Cond.code y cdy maxy rety).before a0 Z = true) (wz : (Jvm.Cond.initialized y.cls).before a0 Z = true) (hf : rm.frames + 1 ≤ R.frames) (hl : W + (maxy + 11) + rm.locals ≤ R.locals) :
    own_Pay l R p e below s args y len W as' h rm.cells rm.slots (fun v h' L => Q v h' ∧ Fr n0 L) := backOf (Q := fun v h' L => Q v h' ∧ Fr n0 L) (M []) C.2.2.2.2.2.2.2 wc wz hf hl
theorem own_callS (C : own_Cx p s m meth c Z own cd maxL ret nm) (S : own_S p l e R s m args below meth c n0 T h cells slots) {y : MethodName} {index : Nat} {cdy : ByteArray} {maxy : Nat} {rety : Option FieldType} {W k1 k2 : Nat} {as' : Array Value} {Q : Option Value → Heap → List Loc → Prop}
    (w1 : (Jvm.Cond.methodLink own index y).before a0 Z = true) (w2 : (Jvm.Cond.static y).before a0 Z = true) (w3 : (Jvm.Cond.initialized y.cls).before a0 Z = true) (w4 : (Jvm.Cond.code y cdy maxy rety).before a0 Z = true) (hy : y.cls ≠ "java/lang/invoke/MethodHandle" ∧ y.cls ≠ "java/lang/invoke/VarHandle")
    (hK : own_Pay l R p e below s args y 3 W as' h k1 k2 Q) (hfr : ∀ v h' L, Q v h' L → Fr n0 L) (argsL rest : List Value) {ps : List FieldType} {rr : Option FieldType} (has : argsL.toArray = as') (hpd : parseMethodDescriptor y.desc = some ⟨ps, rr⟩) (hlen : argsL.length = ps.length) (hstk : st = argsL.reverse ++ rest) (hsz : ls.size = maxL) (hW : (rest.map fun v => v.category).sum ≤ W)
    (hc : cells + k1 ≤ R.cells) (hs : slots + k2 ≤ R.slots) (hd : decode cd pc = .ok (.invokestatic index, 3))
    (k : ∀ T' h' v L, own_S p l e R s m args below meth c n0 T' h' (cells + k1) (slots + k2) → Q v h' L → own_Go p e below s n0 F kc ks T' (mkF m (pc + 3) ls (v.toList ++ rest))) : own_Go p e below s n0 F kc ks T (mkF m pc ls st) := by
  obtain ⟨locs, kk, nn, X, eT, N, q1, q2⟩ := S
  have hZ := C.2.2.2.2.2.2.2
  obtain ⟨v, vm1, B, -, X', ⟨L, hQ, l1, l2, l3⟩, stp⟩ := Jvm.LawKit.callS X C.1 C.2.2.2.1 (mvT hZ w1) (mvT hZ w2) (mvT hZ w3) (mvT hZ w4) hy hK (g := mkF m pc ls st) rfl (own_hsz C hsz) (argsL := argsL) (rest := rest) (lenOf hpd hlen) hstk (by show 2 * 0 + _ ≤ W; omega) (own_hd C hd) (fun _ _ => ⟨has, eT, by show kk + k1 ≤ _; omega, by show nn + k2 ≤ _; omega⟩)
  refine own_step stp (k B.U _ v L ⟨B.locs, B.cells, B.slots, X', rfl, ?_, ?_, ?_⟩ hQ)
  · rw [l1]; exact Fr.app N (hfr _ _ _ hQ)
  · rw [l2]; show kk + k1 ≤ _; omega
  · rw [l3]; show nn + k2 ≤ _; omega
theorem own_callI (C : own_Cx p s m meth c Z own cd maxL ret nm) (S : own_S p l e R s m args below meth c n0 T h cells slots) {y : MethodName} {index : Nat} {cdy : ByteArray} {maxy : Nat} {W k1 k2 : Nat} {as' : Array Value} {Q : Option Value → Heap → List Loc → Prop}
    (hy1 : y.name = "<init>") (w1 : (Jvm.Cond.methodLink own index y).before a0 Z = true) (w2 : (Jvm.Cond.instanceMethod y).before a0 Z = true) (w4 : (Jvm.Cond.code y cdy maxy none).before a0 Z = true) (hy : y.cls ≠ "java/lang/invoke/MethodHandle" ∧ y.cls ≠ "java/lang/invoke/VarHandle")
    (hK : own_Pay l R p e below s args y 3 W as' h k1 k2 Q) (hfr : ∀ v h' L, Q v h' L → Fr n0 L) {a : Addr} (argsL rest : List Value) {ps : List FieldType} {rr : Option FieldType} (has : (.ref a :: argsL).toArray = as') (hpd : parseMethodDescriptor y.desc = some ⟨ps, rr⟩) (hlen : argsL.length = ps.length) (hstk : st = argsL.reverse ++ .ref a :: rest) (hsz : ls.size = maxL) (hW : (rest.map fun v => v.category).sum ≤ W)
    (hc : cells + k1 ≤ R.cells) (hs : slots + k2 ≤ R.slots) (hd : decode cd pc = .ok (.invokespecial index, 3))
    (k : ∀ T' h' v L, own_S p l e R s m args below meth c n0 T' h' (cells + k1) (slots + k2) → Q v h' L → own_Go p e below s n0 F kc ks T' (mkF m (pc + 3) ls (v.toList ++ rest))) : own_Go p e below s n0 F kc ks T (mkF m pc ls st) := by
  obtain ⟨locs, kk, nn, X, eT, N, q1, q2⟩ := S
  have hZ := C.2.2.2.2.2.2.2
  obtain ⟨v, vm1, B, -, X', ⟨L, hQ, l1, l2, l3⟩, stp⟩ := X.specialBack C.1 hy1 C.2.2.2.1 (mvT hZ w1) (mvT hZ w2) (mvT hZ w4) hy hK (g := mkF m pc ls st) rfl (own_hsz C hsz) (Steps.refl _) (a := a) (argsL := argsL) (rest := rest) (lenOf hpd hlen) hstk (by show 2 * 0 + _ ≤ W; omega) (own_hd C hd) (fun _ _ => ⟨has, eT, by show kk + k1 ≤ _; omega, by show nn + k2 ≤ _; omega⟩)
  refine own_step (fun t k => stp.trans k) (k B.U _ v L ⟨B.locs, B.cells, B.slots, X', rfl, ?_, ?_, ?_⟩ hQ)
  · rw [l1]; exact Fr.app N (hfr _ _ _ hQ)
  · rw [l2]; show kk + k1 ≤ _; omega
  · rw [l3]; show nn + k2 ≤ _; omega
theorem own_callV (C : own_Cx p s m meth c Z own cd maxL ret nm) (S : own_S p l e R s m args below meth c n0 T h cells slots) {y z : MethodName} {Cl : String} {index : Nat} {W k1 k2 : Nat} {as' : Array Value} {Q : Option Value → Heap → List Loc → Prop}
    (w1 : (Jvm.Cond.methodLink own index y).before a0 Z = true) (w2 : (Jvm.Cond.declares y).before a0 Z = true) (w3 : (Jvm.Cond.selects Cl y z).before a0 Z = true) {Cl' : String} (w3' : (Jvm.Cond.selects Cl' y y).before a0 Z = true) (w4 : (Jvm.Cond.instanceMethod z).before a0 Z = true) (hy : y.cls ≠ "java/lang/invoke/MethodHandle" ∧ y.cls ≠ "java/lang/invoke/VarHandle")
    (hK : own_Pay l R p e below s args z 3 W as' h k1 k2 Q) (hfr : ∀ v h' L, Q v h' L → Fr n0 L) {a : Addr} (E : Exa Z h a Cl) (argsL rest : List Value) {ps : List FieldType} {rr : Option FieldType} (has : (.ref a :: argsL).toArray = as') (hpd : parseMethodDescriptor y.desc = some ⟨ps, rr⟩) (hlen : argsL.length = ps.length) (hstk : st = argsL.reverse ++ .ref a :: rest) (hsz : ls.size = maxL) (hW : (rest.map fun v => v.category).sum ≤ W)
    (hc : cells + k1 ≤ R.cells) (hs : slots + k2 ≤ R.slots) (hd : decode cd pc = .ok (.invokevirtual index, 3))
    (k : ∀ T' h' v L, own_S p l e R s m args below meth c n0 T' h' (cells + k1) (slots + k2) → Q v h' L → own_Go p e below s n0 F kc ks T' (mkF m (pc + 3) ls (v.toList ++ rest))) : own_Go p e below s n0 F kc ks T (mkF m pc ls st) := by
  obtain ⟨locs, kk, nn, X, eT, N, q1, q2⟩ := S
  have hZ := C.2.2.2.2.2.2.2
  obtain ⟨cq, kq, qa, qb, qc⟩ := isOf (T := T) hZ eT E
  obtain ⟨v, vm1, B, -, X', ⟨L, hQ, l1, l2, l3⟩, stp⟩ := X.virtualBack C.1 C.2.2.2.1 (mvT hZ w1) (mvT hZ w2) (notFace_of_selects (args := #[]) (mvT hZ w3')) (mvT hZ w3) (mvT hZ w4) hy hK qa qc (g := mkF m pc ls st) rfl (own_hsz C hsz) (Steps.refl _) (argsL := argsL) (rest := rest) (lenOf hpd hlen) hstk (by show 2 * 0 + _ ≤ W; omega) (own_hd C hd) (fun _ _ => ⟨has, eT, by show kk + k1 ≤ _; omega, by show nn + k2 ≤ _; omega⟩)
  refine own_step (fun t k => stp.trans k) (k B.U _ v L ⟨B.locs, B.cells, B.slots, X', rfl, ?_, ?_, ?_⟩ hQ)
  · rw [l1]; exact Fr.app N (hfr _ _ _ hQ)
  · rw [l2]; show kk + k1 ≤ _; omega
  · rw [l3]; show nn + k2 ≤ _; omega
theorem own_callP (C : own_Cx p s m meth c Z own cd maxL ret nm) (S : own_S p l e R s m args below meth c n0 T h cells slots) {y : MethodName} {index : Nat} {cdy : ByteArray} {maxy : Nat} {rety : Option FieldType} {W k1 k2 : Nat} {as' : Array Value} {Q : Option Value → Heap → List Loc → Prop}
    (w1 : (Jvm.Cond.methodLink own index y).before a0 Z = true) (w2 : (Jvm.Cond.instanceMethod y).before a0 Z = true) (w3 : (Jvm.Cond.selects y.cls y y).before a0 Z = true) (w4 : (Jvm.Cond.privateMethod y).before a0 Z = true) (w5 : (Jvm.Cond.code y cdy maxy rety).before a0 Z = true) (hy : y.cls ≠ "java/lang/invoke/MethodHandle" ∧ y.cls ≠ "java/lang/invoke/VarHandle")
    (hK : own_Pay l R p e below s args y 3 W as' h k1 k2 Q) (hfr : ∀ v h' L, Q v h' L → Fr n0 L) {a : Addr} {Cl : String} (E : Exa Z h a Cl) (argsL rest : List Value) {ps : List FieldType} {rr : Option FieldType} (has : (.ref a :: argsL).toArray = as') (hpd : parseMethodDescriptor y.desc = some ⟨ps, rr⟩) (hlen : argsL.length = ps.length) (hstk : st = argsL.reverse ++ .ref a :: rest) (hsz : ls.size = maxL) (hW : (rest.map fun v => v.category).sum ≤ W)
    (hc : cells + k1 ≤ R.cells) (hs : slots + k2 ≤ R.slots) (hd : decode cd pc = .ok (.invokevirtual index, 3))
    (k : ∀ T' h' v L, own_S p l e R s m args below meth c n0 T' h' (cells + k1) (slots + k2) → Q v h' L → own_Go p e below s n0 F kc ks T' (mkF m (pc + 3) ls (v.toList ++ rest))) : own_Go p e below s n0 F kc ks T (mkF m pc ls st) := by
  obtain ⟨locs, kk, nn, X, eT, N, q1, q2⟩ := S
  have hZ := C.2.2.2.2.2.2.2
  obtain ⟨cl, hcl, hns⟩ := E.cell
  obtain ⟨v, vm1, B, -, X', ⟨L, hQ, l1, l2, l3⟩, stp⟩ := X.privateBack C.1 C.2.2.2.1 (mvT hZ w1) (mvT hZ w2) (mvT hZ w3) (Cond.privateMethod_at (mvP (args := args) hZ w4)) (mvT hZ w5) hy hK (g := mkF m pc ls st) rfl (own_hsz C hsz) (Steps.refl _) (a := a) (cell := cl) (by rw [eT]; exact hcl) hns (argsL := argsL) (rest := rest) (lenOf hpd hlen) hstk (by show 2 * 0 + _ ≤ W; omega) (own_hd C hd) (fun _ _ => ⟨has, eT, by show kk + k1 ≤ _; omega, by show nn + k2 ≤ _; omega⟩)
  refine own_step (fun t k => stp.trans k) (k B.U _ v L ⟨B.locs, B.cells, B.slots, X', rfl, ?_, ?_, ?_⟩ hQ)
  · rw [l1]; exact Fr.app N (hfr _ _ _ hQ)
  · rw [l2]; show kk + k1 ≤ _; omega
  · rw [l3]; show nn + k2 ≤ _; omega
theorem own_callF (C : own_Cx p s m meth c Z own cd maxL ret nm) (S : own_S p l e R s m args below meth c n0 T h cells slots) {y z : MethodName} {Cl : String} {index count : Nat} {W k1 k2 : Nat} {as' : Array Value} {Q : Option Value → Heap → List Loc → Prop}
    (w1 : (Jvm.Cond.methodLink own index y).before a0 Z = true) (w2 : (Jvm.Cond.declares y).before a0 Z = true) (w3 : (Jvm.Cond.interfaceMethod y.cls y.cls y.name y.desc).before a0 Z = true) (hfa : ((Jvm.Cond.interfaceMethod y.cls y.cls y.name y.desc).onTables && (Jvm.Cond.interfaceMethod y.cls y.cls y.name y.desc).keepsFace) = true) (w4 : (Jvm.Cond.selects Cl y z).before a0 Z = true) (w5 : (Jvm.Cond.instanceMethod z).before a0 Z = true) (w6 : (Jvm.Cond.publicMethod z).before a0 Z = true) (w7 : (Jvm.Cond.unhidden Cl y.name y.desc).before a0 Z = true) (w8 : (Jvm.Cond.castable Cl y.cls).before a0 Z = true) (hy : y.cls ≠ "java/lang/invoke/MethodHandle" ∧ y.cls ≠ "java/lang/invoke/VarHandle")
    (hK : own_Pay l R p e below s args z 5 W as' h k1 k2 Q) (hfr : ∀ v h' L, Q v h' L → Fr n0 L) {a : Addr} (E : Exa Z h a Cl) (argsL rest : List Value) {ps : List FieldType} {rr : Option FieldType} (has : (.ref a :: argsL).toArray = as') (hpd : parseMethodDescriptor y.desc = some ⟨ps, rr⟩) (hlen : argsL.length = ps.length) (hstk : st = argsL.reverse ++ .ref a :: rest) (hsz : ls.size = maxL) (hW : (rest.map fun v => v.category).sum ≤ W)
    (hc : cells + k1 ≤ R.cells) (hs : slots + k2 ≤ R.slots) (hd : decode cd pc = .ok (.invokeinterface index count, 5))
    (k : ∀ T' h' v L, own_S p l e R s m args below meth c n0 T' h' (cells + k1) (slots + k2) → Q v h' L → own_Go p e below s n0 F kc ks T' (mkF m (pc + 5) ls (v.toList ++ rest))) : own_Go p e below s n0 F kc ks T (mkF m pc ls st) := by
  obtain ⟨locs, kk, nn, X, eT, N, q1, q2⟩ := S
  have hZ := C.2.2.2.2.2.2.2
  obtain ⟨cq, kq, qa, qb, qc⟩ := isOf (T := T) hZ eT E
  obtain ⟨v, vm1, B, -, X', ⟨L, hQ, l1, l2, l3⟩, stp⟩ := X.interfaceBack C.1 C.2.2.2.1 (mvT hZ w1) (mvT hZ w2) (mvT hZ w3 hfa) (mvT hZ w4) (mvT hZ w5) (mvT hZ w6) (mvT hZ w7) (mvT hZ w8) hy hK qa qb qc (g := mkF m pc ls st) rfl (own_hsz C hsz) (Steps.refl _) (argsL := argsL) (rest := rest) (lenOf hpd hlen) hstk (by show 2 * 0 + _ ≤ W; omega) (own_hd C hd) (fun _ _ => ⟨has, eT, by show kk + k1 ≤ _; omega, by show nn + k2 ≤ _; omega⟩)
  refine own_step (fun t k => stp.trans k) (k B.U _ v L ⟨B.locs, B.cells, B.slots, X', rfl, ?_, ?_, ?_⟩ hQ)
  · rw [l1]; exact Fr.app N (hfr _ _ _ hQ)
  · rw [l2]; show kk + k1 ≤ _; omega
  · rw [l3]; show nn + k2 ≤ _; omega
end OwnKit
theorem own_lo (x y : Int32) : ¬ (if y < x then y else x) > (if x < y then y else x) := by
  intro h
  split at h <;> split at h <;> rename_i h1 h2
  · exact Int32.lt_irrefl h
  · exact Int32.lt_asymm h1 h
  · exact Int32.lt_asymm h2 h
  · exact Int32.lt_irrefl h
theorem own_b53 (x : Int32) : B53 x.toInt64 := by
  have h1 := x.le_toInt
  have h2 := x.toInt_lt
  constructor <;> rw [Int32.toInt_toInt64] <;> omega
theorem own_cmp (x y : Int32) (o : CmpOp) (h : ¬ y < x) : ¬ (0 : Int32) < cmpValue (FP.dcmp (FP.i2d x) (FP.i2d y)) o := by
  rw [i2d_w, i2d_w, dcmpV_w (own_b53 x) (own_b53 y), lw_gt]
  intro q
  apply h
  rw [Int64.lt_iff_toInt_lt, Int32.toInt_toInt64, Int32.toInt_toInt64] at q
  exact Int32.lt_iff_toInt_lt.mpr q
/-- what the law hands to between: two doubles in order, neither the wrong infinity -/
def own_ok (a b : UInt64) : Prop := Jvm.Free.Fl.NoNaN64 a ∧ Jvm.Free.Fl.NoNaN64 b ∧ ¬ (0 : Int32) < cmpValue (FP.dcmp a b) .g ∧ ¬ cmpValue (FP.dcmp a 9218868437227405312) .l = 0 ∧ ¬ cmpValue (FP.dcmp b 18442240474082181120) .l = 0
theorem own_ok1 (x y : Int32) (h : ¬ y < x) : own_ok (FP.i2d x) (FP.i2d y) := ⟨(Jvm.Free.Fl.i2d_fin x).noNaN, (Jvm.Free.Fl.i2d_fin y).noNaN, own_cmp x y .g h, by rw [dcmp_pinf (Jvm.Free.Fl.i2d_fin x)]; decide, by rw [dcmp_ninf (Jvm.Free.Fl.i2d_fin y)]; decide⟩
theorem own_ok2 (y : Int32) : own_ok 18442240474082181120 (FP.i2d y) := ⟨by unfold Jvm.Free.Fl.NoNaN64; decide, (Jvm.Free.Fl.i2d_fin y).noNaN, by rw [dcmp_ninf' (Jvm.Free.Fl.i2d_fin y)]; decide, by decide +kernel, by rw [dcmp_ninf (Jvm.Free.Fl.i2d_fin y)]; decide⟩
theorem own_ok3 (x : Int32) : own_ok (FP.i2d x) 9218868437227405312 := ⟨(Jvm.Free.Fl.i2d_fin x).noNaN, by unfold Jvm.Free.Fl.NoNaN64; decide, by rw [dcmp_pinf (Jvm.Free.Fl.i2d_fin x)]; decide, by rw [dcmp_pinf (Jvm.Free.Fl.i2d_fin x)]; decide, by decide +kernel⟩
theorem own_ok4 : own_ok 18442240474082181120 9218868437227405312 := ⟨by unfold Jvm.Free.Fl.NoNaN64; decide, by unfold Jvm.Free.Fl.NoNaN64; decide, by decide +kernel, by decide +kernel, by decide +kernel⟩
set_option maxRecDepth 65536 in
set_option maxHeartbeats 40000000 in
theorem own_min (l : Launch) (Z : State) (a0 : Array Value) (hw : ∀ d ∈ tables_1, d.before a0 Z = true) (x1 : Int32) (x2 : Int32) (h0 : Heap) (n0 : Nat) (z0 : n0 ≤ h0.size) :
    own_Met l Z (⟨"java/lang/Math", "min", "(II)I"⟩ : MethodName) jdk_29_method_69_code 2 (some .int) ({ frames := 0, cells := 0, slots := 0, locals := 0 } : Room) n0 #[(.int x1), (.int x2)] h0 (fun v h => v = some (.int (if x2 < x1 then x2 else x1)) ∧ h = h0) := by
  refine own_met (by decide +kernel) #[.val (.int x1), .val (.int x2)] (fun m => by first | rfl | (simp [entryFrame, mkF, argsToLocals, Value.category]; done)) ?_
  intro p e s m below meth c T0 C S0
  refine own_seg C S0 [(0, .iload_n 0, 1), (1, .iload_n 1, 1)] (by decide +kernel) 2 #[.val (.int x1), .val (.int x2)] [(.int x2), (.int x1)] rfl ?_
  refine own_icmp C S0 (q := .gt) (o := 7) (by decide +kernel) 9 (by decide) (by decide) (fun (q1 : x2 < x1) => ?_) (fun (q2 : ¬ x2 < x1) => ?_)
  · refine own_seg C S0 [(9, .iload_n 1, 1)] (by decide +kernel) 10 #[.val (.int x1), .val (.int x2)] [(.int x2)] rfl ?_
    refine own_retI C S0 (by decide +kernel) (by decide) (by decide) ?_
    exact ⟨by rw [if_pos q1], rfl⟩
  · refine own_seg C S0 [(5, .iload_n 0, 1), (6, .goto 4, 3)] (by decide +kernel) 10 #[.val (.int x1), .val (.int x2)] [(.int x1)] rfl ?_
    refine own_retI C S0 (by decide +kernel) (by decide) (by decide) ?_
    exact ⟨by rw [if_neg q2], rfl⟩
set_option maxRecDepth 65536 in
set_option maxHeartbeats 40000000 in
theorem own_max (l : Launch) (Z : State) (a0 : Array Value) (hw : ∀ d ∈ tables_1, d.before a0 Z = true) (x1 : Int32) (x2 : Int32) (h0 : Heap) (n0 : Nat) (z0 : n0 ≤ h0.size) :
    own_Met l Z (⟨"java/lang/Math", "max", "(II)I"⟩ : MethodName) jdk_29_method_65_code 2 (some .int) ({ frames := 0, cells := 0, slots := 0, locals := 0 } : Room) n0 #[(.int x1), (.int x2)] h0 (fun v h => v = some (.int (if x1 < x2 then x2 else x1)) ∧ h = h0) := by
  refine own_met (by decide +kernel) #[.val (.int x1), .val (.int x2)] (fun m => by first | rfl | (simp [entryFrame, mkF, argsToLocals, Value.category]; done)) ?_
  intro p e s m below meth c T0 C S0
  refine own_seg C S0 [(0, .iload_n 0, 1), (1, .iload_n 1, 1)] (by decide +kernel) 2 #[.val (.int x1), .val (.int x2)] [(.int x2), (.int x1)] rfl ?_
  refine own_icmp C S0 (q := .lt) (o := 7) (by decide +kernel) 9 (by decide) (by decide) (fun (q3 : x1 < x2) => ?_) (fun (q4 : ¬ x1 < x2) => ?_)
  · refine own_seg C S0 [(9, .iload_n 1, 1)] (by decide +kernel) 10 #[.val (.int x1), .val (.int x2)] [(.int x2)] rfl ?_
    refine own_retI C S0 (by decide +kernel) (by decide) (by decide) ?_
    exact ⟨by rw [if_pos q3], rfl⟩
  · refine own_seg C S0 [(5, .iload_n 0, 1), (6, .goto 4, 3)] (by decide +kernel) 10 #[.val (.int x1), .val (.int x2)] [(.int x1)] rfl ?_
    refine own_retI C S0 (by decide +kernel) (by decide) (by decide) ?_
    exact ⟨by rw [if_neg q4], rfl⟩
set_option maxRecDepth 65536 in
set_option maxHeartbeats 40000000 in
theorem own_ini (l : Launch) (Z : State) (a0 : Array Value) (hw : ∀ d ∈ tables_1, d.before a0 Z = true) (a : Addr) (x1 : UInt64) (x2 : UInt64) (x3 : Int32) (h0 : Heap) (n0 : Nat) (z0 : n0 ≤ h0.size) (ge_a : n0 ≤ a) (pE : Exa Z h0 a "com/example/persephone/persephone/ValueBounds") (p_lowest : Fld Z h0 a "com/example/persephone/persephone/ValueBounds" "lowest" "D" (.double 0)) (p_highest : Fld Z h0 a "com/example/persephone/persephone/ValueBounds" "highest" "D" (.double 0)) (p_mayBeMissing : Fld Z h0 a "com/example/persephone/persephone/ValueBounds" "mayBeMissing" "Z" (.int (0 : Int32))) (hb : x3 = 0 ∨ x3 = 1) :
    own_Met l Z (⟨"com/example/persephone/persephone/ValueBounds", "<init>", "(DDZ)V"⟩ : MethodName) prog_14_method_1_code 6 none ({ frames := 1, cells := 0, slots := 0, locals := 12 } : Room) n0 #[(.ref a), (.double x1), (.double x2), (.int x3)] h0 (fun v h => v = none ∧ Keep h0 h [a] ∧ Exa Z h a "com/example/persephone/persephone/ValueBounds" ∧ Fld Z h a "com/example/persephone/persephone/ValueBounds" "lowest" "D" (.double x1) ∧ Fld Z h a "com/example/persephone/persephone/ValueBounds" "highest" "D" (.double x2) ∧ Fld Z h a "com/example/persephone/persephone/ValueBounds" "mayBeMissing" "Z" (.int x3)) := by
  refine own_met (by decide +kernel) #[.val (.ref a), .val (.double x1), .second, .val (.double x2), .second, .val (.int x3)] (fun m => by first | rfl | (simp [entryFrame, mkF, argsToLocals, Value.category]; done)) ?_
  intro p e s m below meth c T0 C S0
  refine own_seg C S0 [(0, .aload_n 0, 1)] (by decide +kernel) 1 #[.val (.ref a), .val (.double x1), .second, .val (.double x2), .second, .val (.int x3)] [(.ref a)] rfl ?_
  refine own_initO C S0 (own_wd hw 19 rfl) (own_wd hw 20 rfl) (own_wd hw 21 rfl) rfl (by decide +kernel) (by decide) 0 (Nat.le_of_ble_eq_true rfl) (by decide) ?_
  intro T5 S6
  refine own_seg C S6 [(4, .aload_n 0, 1), (5, .dload_n 1, 1)] (by decide +kernel) 6 #[.val (.ref a), .val (.double x1), .second, .val (.double x2), .second, .val (.int x3)] [(.double x1), (.ref a)] rfl ?_
  refine own_putF C S6 (ty := .double) (host := "") (Or.inl (own_wd hw 22 rfl)) Via.refl p_lowest pE (Or.inr ⟨(own_wd hw 23 rfl), rfl, rfl⟩) (own_wd hw 15 rfl) (by decide) rfl rfl ge_a (by decide +kernel) ?_
  intro T7 h9 S8 W10
  have f11 : Fld Z h9 a "com/example/persephone/persephone/ValueBounds" "lowest" "D" (.double x1) := Fld.same W10 p_lowest
  refine own_seg C S8 [(9, .aload_n 0, 1), (10, .dload_n 3, 1)] (by decide +kernel) 11 #[.val (.ref a), .val (.double x1), .second, .val (.double x2), .second, .val (.int x3)] [(.double x2), (.ref a)] rfl ?_
  have f12 : Fld Z h9 a "com/example/persephone/persephone/ValueBounds" "highest" "D" (.double 0) := (Fld.other W10 p_highest (Or.inr (slot_ne (t := .double) (t' := .double) (Or.inr (own_wd hw 25 rfl)) (Or.inr (own_wd hw 23 rfl)) (by decide) (by decide) (by decide))))
  have f13 : Exa Z h9 a "com/example/persephone/persephone/ValueBounds" := (Exa.wr W10 pE)
  refine own_putF C S8 (ty := .double) (host := "") (Or.inl (own_wd hw 24 rfl)) Via.refl f12 f13 (Or.inr ⟨(own_wd hw 25 rfl), rfl, rfl⟩) (own_wd hw 15 rfl) (by decide) rfl rfl ge_a (by decide +kernel) ?_
  intro T14 h16 S15 W17
  have f18 : Fld Z h16 a "com/example/persephone/persephone/ValueBounds" "highest" "D" (.double x2) := Fld.same W17 f12
  refine own_seg C S15 [(14, .aload_n 0, 1), (15, .iload 5, 2)] (by decide +kernel) 17 #[.val (.ref a), .val (.double x1), .second, .val (.double x2), .second, .val (.int x3)] [(.int x3), (.ref a)] rfl ?_
  have f19 : Fld Z h16 a "com/example/persephone/persephone/ValueBounds" "mayBeMissing" "Z" (.int (0 : Int32)) := (Fld.other W17 (Fld.other W10 p_mayBeMissing (Or.inr (slot_ne (t := .boolean) (t' := .double) (Or.inr (own_wd hw 27 rfl)) (Or.inr (own_wd hw 23 rfl)) (by decide) (by decide) (by decide)))) (Or.inr (slot_ne (t := .boolean) (t' := .double) (Or.inr (own_wd hw 27 rfl)) (Or.inr (own_wd hw 25 rfl)) (by decide) (by decide) (by decide))))
  have f20 : Exa Z h16 a "com/example/persephone/persephone/ValueBounds" := (Exa.wr W17 f13)
  refine own_putF C S15 (ty := .boolean) (host := "") (Or.inl (own_wd hw 26 rfl)) Via.refl f19 f20 (Or.inr ⟨(own_wd hw 27 rfl), rfl, rfl⟩) (own_wd hw 15 rfl) (by decide) (by show Value.int (x3 &&& 1) = _; rcases hb with rfl | rfl <;> rfl) (by rcases hb with rfl | rfl <;> rfl) ge_a (by decide +kernel) ?_
  intro T21 h23 S22 W24
  have f25 : Fld Z h23 a "com/example/persephone/persephone/ValueBounds" "mayBeMissing" "Z" (.int x3) := Fld.same W24 f19
  refine own_retV C S22 (by decide +kernel) (by decide) (by decide) ?_
  have f26 : Exa Z h23 a "com/example/persephone/persephone/ValueBounds" := (Exa.wr W24 f20)
  have f27 : Fld Z h23 a "com/example/persephone/persephone/ValueBounds" "lowest" "D" (.double x1) := (Fld.other W24 (Fld.other W17 f11 (Or.inr (slot_ne (t := .double) (t' := .double) (Or.inr (own_wd hw 23 rfl)) (Or.inr (own_wd hw 25 rfl)) (by decide) (by decide) (by decide)))) (Or.inr (slot_ne (t := .double) (t' := .boolean) (Or.inr (own_wd hw 23 rfl)) (Or.inr (own_wd hw 27 rfl)) (by decide) (by decide) (by decide))))
  have f28 : Fld Z h23 a "com/example/persephone/persephone/ValueBounds" "highest" "D" (.double x2) := (Fld.other W24 f18 (Or.inr (slot_ne (t := .double) (t' := .boolean) (Or.inr (own_wd hw 25 rfl)) (Or.inr (own_wd hw 27 rfl)) (by decide) (by decide) (by decide))))
  exact ⟨rfl, ((((Keep.refl _ _).wr W10 (Or.inl (List.mem_of_getElem? (i := 0) rfl))).wr W17 (Or.inl (List.mem_of_getElem? (i := 0) rfl))).wr W24 (Or.inl (List.mem_of_getElem? (i := 0) rfl))), f26, f27, f28, f25⟩
theorem own_pd0 : parseMethodDescriptor "(DDZ)V" = some ⟨[.double, .double, .boolean], none⟩ := by decide +kernel
set_option maxRecDepth 65536 in
set_option maxHeartbeats 40000000 in
theorem own_btw (l : Launch) (Z : State) (a0 : Array Value) (hw : ∀ d ∈ tables_1, d.before a0 Z = true) (x1 : UInt64) (x2 : UInt64) (x3 : Int32) (h0 : Heap) (n0 : Nat) (z0 : n0 ≤ h0.size) (hb : x3 = 0 ∨ x3 = 1) (hok : own_ok x1 x2) :
    own_Met l Z (⟨"com/example/persephone/persephone/ValueBounds", "between", "(DDZ)Lcom/example/persephone/persephone/ValueBounds;"⟩ : MethodName) prog_14_method_2_code 5 (some (.object "com/example/persephone/persephone/ValueBounds")) ({ frames := 2, cells := 1, slots := 3, locals := 40 } : Room) n0 #[(.double x1), (.double x2), (.int x3)] h0 (fun v h => ∃ a, v = some (.ref a) ∧ h0.size ≤ a ∧ Keep h0 h [] ∧ Exa Z h a "com/example/persephone/persephone/ValueBounds" ∧ Fld Z h a "com/example/persephone/persephone/ValueBounds" "lowest" "D" (.double x1) ∧ Fld Z h a "com/example/persephone/persephone/ValueBounds" "highest" "D" (.double x2) ∧ Fld Z h a "com/example/persephone/persephone/ValueBounds" "mayBeMissing" "Z" (.int x3)) := by
  refine own_met (by decide +kernel) #[.val (.double x1), .second, .val (.double x2), .second, .val (.int x3)] (fun m => by first | rfl | (simp [entryFrame, mkF, argsToLocals, Value.category]; done)) ?_
  intro p e s m below meth c T0 C S0
  refine own_seg C S0 [(0, .dload_n 0, 1), (1, .dload_n 2, 1)] (by decide +kernel) 2 #[.val (.double x1), .second, .val (.double x2), .second, .val (.int x3)] [(.double x2), (.double x1)] rfl ?_
  refine own_dcmp C S0 (o := .g) (cmpValue (FP.dcmp x1 x2) .g) (by decide +kernel) rfl ?_
  refine own_if C S0 (q := .gt) (o := 19) (by decide +kernel) 22 (by decide) (by decide) (fun (hq : (0 : Int32) < (cmpValue (FP.dcmp x1 x2) .g)) => False.elim (hok.2.2.1 hq)) (fun (q29 : ¬ (0 : Int32) < (cmpValue (FP.dcmp x1 x2) .g)) => ?_)
  refine own_seg C S0 [(6, .dload_n 0, 1)] (by decide +kernel) 7 #[.val (.double x1), .second, .val (.double x2), .second, .val (.int x3)] [(.double x1)] rfl ?_
  refine own_ldc2D C S0 (own_wd hw 12 rfl) (by decide +kernel) ?_
  refine own_dcmp C S0 (o := .l) (cmpValue (FP.dcmp x1 9218868437227405312) .l) (by decide +kernel) rfl ?_
  refine own_if C S0 (q := .eq) (o := 11) (by decide +kernel) 22 (by decide) (by decide) (fun (hq : (cmpValue (FP.dcmp x1 9218868437227405312) .l) = (0 : Int32)) => False.elim (hok.2.2.2.1 hq)) (fun (q30 : ¬ (cmpValue (FP.dcmp x1 9218868437227405312) .l) = (0 : Int32)) => ?_)
  refine own_seg C S0 [(14, .dload_n 2, 1)] (by decide +kernel) 15 #[.val (.double x1), .second, .val (.double x2), .second, .val (.int x3)] [(.double x2)] rfl ?_
  refine own_ldc2D C S0 (own_wd hw 13 rfl) (by decide +kernel) ?_
  refine own_dcmp C S0 (o := .l) (cmpValue (FP.dcmp x2 18442240474082181120) .l) (by decide +kernel) rfl ?_
  refine own_if C S0 (q := .ne) (o := 18) (by decide +kernel) 37 (by decide) (by decide) (fun (q31 : ¬ (cmpValue (FP.dcmp x2 18442240474082181120) .l) = (0 : Int32)) => ?_) (fun (hq : (cmpValue (FP.dcmp x2 18442240474082181120) .l) = (0 : Int32)) => False.elim (hok.2.2.2.2 hq))
  refine own_new C S0 (own_wd hw 14 rfl) (own_wd hw 15 rfl) (own_wd hw 10 rfl) (by decide +kernel) (by decide) (by decide) ?_
  intro T32 h34 a35 S33 g36 E37 x38 D39
  have f40 : Fld Z h34 a35 "com/example/persephone/persephone/ValueBounds" "lowest" "D" (.double 0) := D39 (ty := .double) (Or.inr (own_wd hw 23 rfl)) (by decide)
  have f41 : Fld Z h34 a35 "com/example/persephone/persephone/ValueBounds" "highest" "D" (.double 0) := D39 (ty := .double) (Or.inr (own_wd hw 25 rfl)) (by decide)
  have f42 : Fld Z h34 a35 "com/example/persephone/persephone/ValueBounds" "mayBeMissing" "Z" (.int (0 : Int32)) := D39 (ty := .boolean) (Or.inr (own_wd hw 27 rfl)) (by decide)
  refine own_seg C S33 [(40, .dup, 1), (41, .dload_n 0, 1), (42, .dload_n 2, 1), (43, .iload 4, 2)] (by decide +kernel) 45 #[.val (.double x1), .second, .val (.double x2), .second, .val (.int x3)] [(.int x3), (.double x2), (.double x1), (.ref a35), (.ref a35)] rfl ?_
  have f43 : n0 ≤ h34.size := (Nat.le_trans z0 E37.1)
  have g44 : n0 ≤ a35 := by rw [g36]; exact z0
  refine own_callI C S33 rfl (own_wd hw 16 rfl) (own_wd hw 17 rfl) (own_wd hw 18 rfl) (by decide) (own_Met.pay (own_ini l Z a0 hw a35 x1 x2 x3 h34 n0 f43 g44 x38 f40 f41 f42 hb) C 1 (own_wd hw 18 rfl) (own_wd hw 10 rfl) (by decide) (by decide)) (fun _ _ _ q => q.2) [(.double x1), (.double x2), (.int x3)] [(.ref a35)] rfl own_pd0 rfl rfl rfl (Nat.le_of_ble_eq_true rfl) (by decide) (by decide) (by decide +kernel) ?_
  rintro T50 h51 v52 L53 S54 ⟨⟨rfl, K45, x46, f47, f48, f49⟩, -⟩
  replace S54 : own_S p l e ({ frames := 2, cells := 1, slots := 3, locals := 40 } : Room) s m #[(.double x1), (.double x2), (.int x3)] below meth c n0 T50 h51 1 3 := S54
  show own_Go p e below s n0 _ _ _ T50 (mkF m 48 #[.val (.double x1), .second, .val (.double x2), .second, .val (.int x3)] [(.ref a35)])
  refine own_retA C S54 rfl rfl (by decide +kernel) (by decide) (by decide) ?_
  exact ⟨a35, rfl, (by rw [g36]; exact (Nat.le_refl _)), (((Keep.refl _ _).ext E37).trans K45 (allS (Or.inr (by rw [g36]; exact (Nat.le_refl _))) all0)), x46, f47, f48, f49⟩
set_option maxRecDepth 65536 in
set_option maxHeartbeats 40000000 in
theorem own_getLowest (l : Launch) (Z : State) (a0 : Array Value) (hw : ∀ d ∈ tables_1, d.before a0 Z = true) (a : Addr) (x : UInt64) (h0 : Heap) (n0 : Nat) (z0 : n0 ≤ h0.size) (pF : Fld Z h0 a "com/example/persephone/persephone/ValueBounds" "lowest" "D" (.double x)) :
    own_Met l Z (⟨"com/example/persephone/persephone/ValueBounds", "getLowest", "()D"⟩ : MethodName) prog_14_method_4_code 1 (some .double) ({ frames := 0, cells := 0, slots := 0, locals := 0 } : Room) n0 #[(.ref a)] h0 (fun v h => v = some (.double x) ∧ h = h0) := by
  refine own_met (by decide +kernel) #[.val (.ref a)] (fun m => by first | rfl | (simp [entryFrame, mkF, argsToLocals, Value.category]; done)) ?_
  intro p e s m below meth c T0 C S0
  refine own_seg C S0 [(0, .aload_n 0, 1)] (by decide +kernel) 1 #[.val (.ref a)] [(.ref a)] rfl ?_
  refine own_getF C S0 (host := "") (Or.inl (own_wd hw 22 rfl)) Via.refl pF (by decide +kernel) ?_
  intro T55 S56
  refine own_retD C S56 (by decide +kernel) (by decide) (by decide) ?_
  exact ⟨rfl, rfl⟩
set_option maxRecDepth 65536 in
set_option maxHeartbeats 40000000 in
theorem own_getHighest (l : Launch) (Z : State) (a0 : Array Value) (hw : ∀ d ∈ tables_1, d.before a0 Z = true) (a : Addr) (x : UInt64) (h0 : Heap) (n0 : Nat) (z0 : n0 ≤ h0.size) (pF : Fld Z h0 a "com/example/persephone/persephone/ValueBounds" "highest" "D" (.double x)) :
    own_Met l Z (⟨"com/example/persephone/persephone/ValueBounds", "getHighest", "()D"⟩ : MethodName) prog_14_method_5_code 1 (some .double) ({ frames := 0, cells := 0, slots := 0, locals := 0 } : Room) n0 #[(.ref a)] h0 (fun v h => v = some (.double x) ∧ h = h0) := by
  refine own_met (by decide +kernel) #[.val (.ref a)] (fun m => by first | rfl | (simp [entryFrame, mkF, argsToLocals, Value.category]; done)) ?_
  intro p e s m below meth c T0 C S0
  refine own_seg C S0 [(0, .aload_n 0, 1)] (by decide +kernel) 1 #[.val (.ref a)] [(.ref a)] rfl ?_
  refine own_getF C S0 (host := "") (Or.inl (own_wd hw 24 rfl)) Via.refl pF (by decide +kernel) ?_
  intro T57 S58
  refine own_retD C S58 (by decide +kernel) (by decide) (by decide) ?_
  exact ⟨rfl, rfl⟩
set_option maxRecDepth 65536 in
set_option maxHeartbeats 40000000 in
theorem own_mbm (l : Launch) (Z : State) (a0 : Array Value) (hw : ∀ d ∈ tables_1, d.before a0 Z = true) (a : Addr) (x : Int32) (h0 : Heap) (n0 : Nat) (z0 : n0 ≤ h0.size) (pF : Fld Z h0 a "com/example/persephone/persephone/ValueBounds" "mayBeMissing" "Z" (.int x)) (hb : x = 0 ∨ x = 1) :
    own_Met l Z (⟨"com/example/persephone/persephone/ValueBounds", "mayBeMissing", "()Z"⟩ : MethodName) prog_14_method_6_code 1 (some .boolean) ({ frames := 0, cells := 0, slots := 0, locals := 0 } : Room) n0 #[(.ref a)] h0 (fun v h => v = some (.int x) ∧ h = h0) := by
  refine own_met (by decide +kernel) #[.val (.ref a)] (fun m => by first | rfl | (simp [entryFrame, mkF, argsToLocals, Value.category]; done)) ?_
  intro p e s m below meth c T0 C S0
  refine own_seg C S0 [(0, .aload_n 0, 1)] (by decide +kernel) 1 #[.val (.ref a)] [(.ref a)] rfl ?_
  refine own_getF C S0 (host := "") (Or.inl (own_wd hw 26 rfl)) Via.refl pF (by decide +kernel) ?_
  intro T59 S60
  refine own_retZ C S60 (by decide +kernel) (by rcases hb with rfl | rfl <;> rfl) (by decide) (by decide) ?_
  exact ⟨rfl, rfl⟩
set_option maxRecDepth 65536 in
set_option maxHeartbeats 40000000 in
theorem own_hv (l : Launch) (Z : State) (a0 : Array Value) (hw : ∀ d ∈ tables_1, d.before a0 Z = true) (a : Addr) (x1 : UInt64) (x2 : UInt64) (h0 : Heap) (n0 : Nat) (z0 : n0 ≤ h0.size) (pF : Fld Z h0 a "com/example/persephone/persephone/ValueBounds" "lowest" "D" (.double x1)) (pG : Fld Z h0 a "com/example/persephone/persephone/ValueBounds" "highest" "D" (.double x2)) (hok : own_ok x1 x2) :
    own_Met l Z (⟨"com/example/persephone/persephone/ValueBounds", "hasValues", "()Z"⟩ : MethodName) prog_14_method_7_code 1 (some .boolean) ({ frames := 0, cells := 0, slots := 0, locals := 0 } : Room) n0 #[(.ref a)] h0 (fun v h => v = some (.int 1) ∧ h = h0) := by
  refine own_met (by decide +kernel) #[.val (.ref a)] (fun m => by first | rfl | (simp [entryFrame, mkF, argsToLocals, Value.category]; done)) ?_
  intro p e s m below meth c T0 C S0
  refine own_seg C S0 [(0, .aload_n 0, 1)] (by decide +kernel) 1 #[.val (.ref a)] [(.ref a)] rfl ?_
  refine own_getF C S0 (host := "") (Or.inl (own_wd hw 22 rfl)) Via.refl pF (by decide +kernel) ?_
  intro T61 S62
  refine own_seg C S62 [(4, .aload_n 0, 1)] (by decide +kernel) 5 #[.val (.ref a)] [(.ref a), (.double x1)] rfl ?_
  refine own_getF C S62 (host := "") (Or.inl (own_wd hw 24 rfl)) Via.refl pG (by decide +kernel) ?_
  intro T63 S64
  refine own_dcmp C S64 (o := .g) (cmpValue (FP.dcmp x1 x2) .g) (by decide +kernel) rfl ?_
  refine own_if C S64 (q := .gt) (o := 7) (by decide +kernel) 16 (by decide) (by decide) (fun (hq : (0 : Int32) < (cmpValue (FP.dcmp x1 x2) .g)) => False.elim (hok.2.2.1 hq)) (fun (q65 : ¬ (0 : Int32) < (cmpValue (FP.dcmp x1 x2) .g)) => ?_)
  refine own_seg C S64 [(12, .iconst 1, 1), (13, .goto 4, 3)] (by decide +kernel) 17 #[.val (.ref a)] [(.int (1 : Int32))] rfl ?_
  refine own_retZ C S64 (by decide +kernel) (by decide) (by decide) (by decide) ?_
  exact ⟨rfl, rfl⟩
theorem own_pd1 : parseMethodDescriptor "(II)I" = some ⟨[.int, .int], (some .int)⟩ := by decide +kernel
theorem own_pd2 : parseMethodDescriptor "(DDZ)Lcom/example/persephone/persephone/ValueBounds;" = some ⟨[.double, .double, .boolean], (some (.object "com/example/persephone/persephone/ValueBounds"))⟩ := by decide +kernel
theorem own_pd3 : parseMethodDescriptor "()D" = some ⟨[], (some .double)⟩ := by decide +kernel
theorem own_pd4 : parseMethodDescriptor "()Z" = some ⟨[], (some .boolean)⟩ := by decide +kernel
set_option maxRecDepth 65536 in
set_option maxHeartbeats 40000000 in
theorem own_law (l : Launch) (Z : State) (a0 : Array Value) (hw : ∀ d ∈ tables_1, d.before a0 Z = true) (x1 : Int32) (x2 : Int32) (x3 : Int32) (h0 : Heap) (n0 : Nat) (z0 : n0 ≤ h0.size) :
    own_Met l Z x code maxLocals ret room_1 n0 #[(.int x1), (.int x2), (.int x3)] h0 (fun v h => v = some (.int 1)) := by
  refine own_met (by decide +kernel) #[.val (.int x1), .val (.int x2), .val (.int x3), .unset, .unset, .unset, .unset, .unset, .unset, .unset, .unset] (fun m => by first | rfl | (simp [entryFrame, mkF, argsToLocals, Value.category, maxLocals]; done)) ?_
  intro p e s m below meth c T0 C S0
  refine own_seg C S0 [(0, .iload_n 0, 1), (1, .iload_n 1, 1)] (by decide +kernel) 2 #[.val (.int x1), .val (.int x2), .val (.int x3), .unset, .unset, .unset, .unset, .unset, .unset, .unset, .unset] [(.int x2), (.int x1)] rfl ?_
  refine own_callS C S0 (own_wd hw 0 rfl) (own_wd hw 1 rfl) (own_wd hw 2 rfl) (own_wd hw 3 rfl) (by decide) (own_Met.pay (own_min l Z a0 hw x1 x2 h0 n0 z0) C 0 (own_wd hw 3 rfl) (own_wd hw 2 rfl) (by decide) (by decide)) (fun _ _ _ q => q.2) [(.int x1), (.int x2)] [] rfl own_pd1 rfl rfl rfl (Nat.le_of_ble_eq_true rfl) (by decide) (by decide) (by decide +kernel) ?_
  rintro T67 h68 v69 L70 S71 ⟨⟨rfl, e66⟩, -⟩
  replace S71 : own_S p l e room_1 s m #[(.int x1), (.int x2), (.int x3)] below meth c n0 T67 h68 0 0 := S71
  rw [e66] at S71; clear e66
  show own_Go p e below s n0 _ _ _ T67 (mkF m 5 #[.val (.int x1), .val (.int x2), .val (.int x3), .unset, .unset, .unset, .unset, .unset, .unset, .unset, .unset] [(.int (if x2 < x1 then x2 else x1))])
  refine own_seg C S71 [(5, .istore_n 3, 1), (6, .iload_n 0, 1), (7, .iload_n 1, 1)] (by decide +kernel) 8 #[.val (.int x1), .val (.int x2), .val (.int x3), .val (.int (if x2 < x1 then x2 else x1)), .unset, .unset, .unset, .unset, .unset, .unset, .unset] [(.int x2), (.int x1)] rfl ?_
  refine own_callS C S71 (own_wd hw 4 rfl) (own_wd hw 5 rfl) (own_wd hw 2 rfl) (own_wd hw 6 rfl) (by decide) (own_Met.pay (own_max l Z a0 hw x1 x2 h0 n0 z0) C 0 (own_wd hw 6 rfl) (own_wd hw 2 rfl) (by decide) (by decide)) (fun _ _ _ q => q.2) [(.int x1), (.int x2)] [] rfl own_pd1 rfl rfl rfl (Nat.le_of_ble_eq_true rfl) (by decide) (by decide) (by decide +kernel) ?_
  rintro T73 h74 v75 L76 S77 ⟨⟨rfl, e72⟩, -⟩
  replace S77 : own_S p l e room_1 s m #[(.int x1), (.int x2), (.int x3)] below meth c n0 T73 h74 0 0 := S77
  rw [e72] at S77; clear e72
  show own_Go p e below s n0 _ _ _ T73 (mkF m 11 #[.val (.int x1), .val (.int x2), .val (.int x3), .val (.int (if x2 < x1 then x2 else x1)), .unset, .unset, .unset, .unset, .unset, .unset, .unset] [(.int (if x1 < x2 then x2 else x1))])
  refine own_seg C S77 [(11, .istore 4, 2), (13, .iload_n 2, 1), (14, .iconst 1, 1), (15, .iand, 1)] (by decide +kernel) 16 #[.val (.int x1), .val (.int x2), .val (.int x3), .val (.int (if x2 < x1 then x2 else x1)), .val (.int (if x1 < x2 then x2 else x1)), .unset, .unset, .unset, .unset, .unset, .unset] [(.int (x3 &&& (1 : Int32)))] rfl ?_
  have J : ∀ (T78 : State) (xl : UInt64) (xh : UInt64) (b : Int32), own_S p l e room_1 s m #[(.int x1), (.int x2), (.int x3)] below meth c n0 T78 h0 0 0 → b = 0 ∨ b = 1 → own_ok xl xh → own_Go p e below s n0 (fun v h => v = some (.int 1)) room_1.cells room_1.slots T78 (mkF m 59 #[.val (.int x1), .val (.int x2), .val (.int x3), .val (.int (if x2 < x1 then x2 else x1)), .val (.int (if x1 < x2 then x2 else x1)), .val (.double xl), .second, .val (.double xh), .second, .val (.int b), .unset] []) := by
    intro T78 xl xh b S79 hb hok
    refine own_seg C S79 [(59, .dload 5, 2), (61, .dload 7, 2), (63, .iload 9, 2)] (by decide +kernel) 65 #[.val (.int x1), .val (.int x2), .val (.int x3), .val (.int (if x2 < x1 then x2 else x1)), .val (.int (if x1 < x2 then x2 else x1)), .val (.double xl), .second, .val (.double xh), .second, .val (.int b), .unset] [(.int b), (.double xh), (.double xl)] rfl ?_
    refine own_callS C S79 (own_wd hw 8 rfl) (own_wd hw 9 rfl) (own_wd hw 10 rfl) (own_wd hw 11 rfl) (by decide) (own_Met.pay (own_btw l Z a0 hw xl xh b h0 n0 z0 hb hok) C 0 (own_wd hw 11 rfl) (own_wd hw 10 rfl) (by decide) (by decide)) (fun _ _ _ q => q.2) [(.double xl), (.double xh), (.int b)] [] rfl own_pd2 rfl rfl rfl (Nat.le_of_ble_eq_true rfl) (by decide) (by decide) (by decide +kernel) ?_
    rintro T87 h88 v89 L90 S91 ⟨⟨a80, rfl, g81, K82, x83, f84, f85, f86⟩, -⟩
    replace S91 : own_S p l e room_1 s m #[(.int x1), (.int x2), (.int x3)] below meth c n0 T87 h88 1 3 := S91
    show own_Go p e below s n0 _ _ _ T87 (mkF m 68 #[.val (.int x1), .val (.int x2), .val (.int x3), .val (.int (if x2 < x1 then x2 else x1)), .val (.int (if x1 < x2 then x2 else x1)), .val (.double xl), .second, .val (.double xh), .second, .val (.int b), .unset] [(.ref a80)])
    refine own_seg C S91 [(68, .astore 10, 2), (70, .aload 10, 2)] (by decide +kernel) 72 #[.val (.int x1), .val (.int x2), .val (.int x3), .val (.int (if x2 < x1 then x2 else x1)), .val (.int (if x1 < x2 then x2 else x1)), .val (.double xl), .second, .val (.double xh), .second, .val (.int b), .val (.ref a80)] [(.ref a80)] rfl ?_
    have f92 : n0 ≤ h88.size := (Nat.le_trans z0 K82.1)
    refine own_callV C S91 (own_wd hw 28 rfl) (own_wd hw 29 rfl) (own_wd hw 31 rfl) (own_wd hw 31 rfl) (own_wd hw 30 rfl) (by decide) (own_Met.pay (own_getLowest l Z a0 hw a80 xl h88 n0 f92 f84) C 0 (own_wd hw 32 rfl) (own_wd hw 10 rfl) (by decide) (by decide)) (fun _ _ _ q => q.2) x83 [] [] rfl own_pd3 rfl rfl rfl (Nat.le_of_ble_eq_true rfl) (by decide) (by decide) (by decide +kernel) ?_
    rintro T94 h95 v96 L97 S98 ⟨⟨rfl, e93⟩, -⟩
    replace S98 : own_S p l e room_1 s m #[(.int x1), (.int x2), (.int x3)] below meth c n0 T94 h95 1 3 := S98
    rw [e93] at S98; clear e93
    show own_Go p e below s n0 _ _ _ T94 (mkF m 75 #[.val (.int x1), .val (.int x2), .val (.int x3), .val (.int (if x2 < x1 then x2 else x1)), .val (.int (if x1 < x2 then x2 else x1)), .val (.double xl), .second, .val (.double xh), .second, .val (.int b), .val (.ref a80)] [(.double xl)])
    refine own_seg C S98 [(75, .dload 5, 2)] (by decide +kernel) 77 #[.val (.int x1), .val (.int x2), .val (.int x3), .val (.int (if x2 < x1 then x2 else x1)), .val (.int (if x1 < x2 then x2 else x1)), .val (.double xl), .second, .val (.double xh), .second, .val (.int b), .val (.ref a80)] [(.double xl), (.double xl)] rfl ?_
    refine own_dcmp C S98 (o := .l) (0 : Int32) (by decide +kernel) (dcmpV_self hok.1 _) ?_
    refine own_if C S98 (q := .ne) (o := 36) (by decide +kernel) 114 (by decide) (by decide) (fun (hq : ¬ (0 : Int32) = (0 : Int32)) => False.elim (hq rfl)) (fun (q99 : (0 : Int32) = (0 : Int32)) => ?_)
    refine own_seg C S98 [(81, .aload 10, 2)] (by decide +kernel) 83 #[.val (.int x1), .val (.int x2), .val (.int x3), .val (.int (if x2 < x1 then x2 else x1)), .val (.int (if x1 < x2 then x2 else x1)), .val (.double xl), .second, .val (.double xh), .second, .val (.int b), .val (.ref a80)] [(.ref a80)] rfl ?_
    refine own_callV C S98 (own_wd hw 33 rfl) (own_wd hw 34 rfl) (own_wd hw 36 rfl) (own_wd hw 36 rfl) (own_wd hw 35 rfl) (by decide) (own_Met.pay (own_getHighest l Z a0 hw a80 xh h88 n0 f92 f85) C 0 (own_wd hw 37 rfl) (own_wd hw 10 rfl) (by decide) (by decide)) (fun _ _ _ q => q.2) x83 [] [] rfl own_pd3 rfl rfl rfl (Nat.le_of_ble_eq_true rfl) (by decide) (by decide) (by decide +kernel) ?_
    rintro T101 h102 v103 L104 S105 ⟨⟨rfl, e100⟩, -⟩
    replace S105 : own_S p l e room_1 s m #[(.int x1), (.int x2), (.int x3)] below meth c n0 T101 h102 1 3 := S105
    rw [e100] at S105; clear e100
    show own_Go p e below s n0 _ _ _ T101 (mkF m 86 #[.val (.int x1), .val (.int x2), .val (.int x3), .val (.int (if x2 < x1 then x2 else x1)), .val (.int (if x1 < x2 then x2 else x1)), .val (.double xl), .second, .val (.double xh), .second, .val (.int b), .val (.ref a80)] [(.double xh)])
    refine own_seg C S105 [(86, .dload 7, 2)] (by decide +kernel) 88 #[.val (.int x1), .val (.int x2), .val (.int x3), .val (.int (if x2 < x1 then x2 else x1)), .val (.int (if x1 < x2 then x2 else x1)), .val (.double xl), .second, .val (.double xh), .second, .val (.int b), .val (.ref a80)] [(.double xh), (.double xh)] rfl ?_
    refine own_dcmp C S105 (o := .l) (0 : Int32) (by decide +kernel) (dcmpV_self hok.2.1 _) ?_
    refine own_if C S105 (q := .ne) (o := 25) (by decide +kernel) 114 (by decide) (by decide) (fun (hq : ¬ (0 : Int32) = (0 : Int32)) => False.elim (hq rfl)) (fun (q106 : (0 : Int32) = (0 : Int32)) => ?_)
    refine own_seg C S105 [(92, .aload 10, 2)] (by decide +kernel) 94 #[.val (.int x1), .val (.int x2), .val (.int x3), .val (.int (if x2 < x1 then x2 else x1)), .val (.int (if x1 < x2 then x2 else x1)), .val (.double xl), .second, .val (.double xh), .second, .val (.int b), .val (.ref a80)] [(.ref a80)] rfl ?_
    refine own_callV C S105 (own_wd hw 38 rfl) (own_wd hw 39 rfl) (own_wd hw 41 rfl) (own_wd hw 41 rfl) (own_wd hw 40 rfl) (by decide) (own_Met.pay (own_mbm l Z a0 hw a80 b h88 n0 f92 f86 hb) C 0 (own_wd hw 42 rfl) (own_wd hw 10 rfl) (by decide) (by decide)) (fun _ _ _ q => q.2) x83 [] [] rfl own_pd4 rfl rfl rfl (Nat.le_of_ble_eq_true rfl) (by decide) (by decide) (by decide +kernel) ?_
    rintro T108 h109 v110 L111 S112 ⟨⟨rfl, e107⟩, -⟩
    replace S112 : own_S p l e room_1 s m #[(.int x1), (.int x2), (.int x3)] below meth c n0 T108 h109 1 3 := S112
    rw [e107] at S112; clear e107
    show own_Go p e below s n0 _ _ _ T108 (mkF m 97 #[.val (.int x1), .val (.int x2), .val (.int x3), .val (.int (if x2 < x1 then x2 else x1)), .val (.int (if x1 < x2 then x2 else x1)), .val (.double xl), .second, .val (.double xh), .second, .val (.int b), .val (.ref a80)] [(.int b)])
    refine own_seg C S112 [(97, .iload 9, 2)] (by decide +kernel) 99 #[.val (.int x1), .val (.int x2), .val (.int x3), .val (.int (if x2 < x1 then x2 else x1)), .val (.int (if x1 < x2 then x2 else x1)), .val (.double xl), .second, .val (.double xh), .second, .val (.int b), .val (.ref a80)] [(.int b), (.int b)] rfl ?_
    refine own_icmp C S112 (q := .ne) (o := 15) (by decide +kernel) 114 (by decide) (by decide) (fun (hq : ¬ b = b) => False.elim (hq rfl)) (fun (q113 : b = b) => ?_)
    refine own_seg C S112 [(102, .aload 10, 2)] (by decide +kernel) 104 #[.val (.int x1), .val (.int x2), .val (.int x3), .val (.int (if x2 < x1 then x2 else x1)), .val (.int (if x1 < x2 then x2 else x1)), .val (.double xl), .second, .val (.double xh), .second, .val (.int b), .val (.ref a80)] [(.ref a80)] rfl ?_
    refine own_callV C S112 (own_wd hw 43 rfl) (own_wd hw 44 rfl) (own_wd hw 46 rfl) (own_wd hw 46 rfl) (own_wd hw 45 rfl) (by decide) (own_Met.pay (own_hv l Z a0 hw a80 xl xh h88 n0 f92 f84 f85 hok) C 0 (own_wd hw 47 rfl) (own_wd hw 10 rfl) (by decide) (by decide)) (fun _ _ _ q => q.2) x83 [] [] rfl own_pd4 rfl rfl rfl (Nat.le_of_ble_eq_true rfl) (by decide) (by decide) (by decide +kernel) ?_
    rintro T115 h116 v117 L118 S119 ⟨⟨rfl, e114⟩, -⟩
    replace S119 : own_S p l e room_1 s m #[(.int x1), (.int x2), (.int x3)] below meth c n0 T115 h116 1 3 := S119
    rw [e114] at S119; clear e114
    show own_Go p e below s n0 _ _ _ T115 (mkF m 107 #[.val (.int x1), .val (.int x2), .val (.int x3), .val (.int (if x2 < x1 then x2 else x1)), .val (.int (if x1 < x2 then x2 else x1)), .val (.double xl), .second, .val (.double xh), .second, .val (.int b), .val (.ref a80)] [(.int (1 : Int32))])
    refine own_if C S119 (q := .eq) (o := 7) (by decide +kernel) 114 (by decide) (by decide) (fun (hq : (1 : Int32) = (0 : Int32)) => False.elim (absurd hq (by decide))) (fun (q120 : ¬ (1 : Int32) = (0 : Int32)) => ?_)
    refine own_seg C S119 [(110, .iconst 1, 1), (111, .goto 4, 3)] (by decide +kernel) 115 #[.val (.int x1), .val (.int x2), .val (.int x3), .val (.int (if x2 < x1 then x2 else x1)), .val (.int (if x1 < x2 then x2 else x1)), .val (.double xl), .second, .val (.double xh), .second, .val (.int b), .val (.ref a80)] [(.int (1 : Int32))] rfl ?_
    refine own_retZ C S119 (by decide +kernel) (by decide) (by decide) (by decide) ?_
    rfl
  have hlo := own_lo x1 x2
  refine own_if C S77 (q := .eq) (o := 9) (by decide +kernel) 25 (by decide) (by decide) (fun (q121 : (x3 &&& (1 : Int32)) = (0 : Int32)) => ?_) (fun (q122 : ¬ (x3 &&& (1 : Int32)) = (0 : Int32)) => ?_)
  · refine own_seg C S77 [(25, .iload_n 3, 1), (26, .i2d, 1), (27, .dstore 5, 2), (29, .iload_n 2, 1), (30, .iconst 2, 1), (31, .iand, 1)] (by decide +kernel) 32 #[.val (.int x1), .val (.int x2), .val (.int x3), .val (.int (if x2 < x1 then x2 else x1)), .val (.int (if x1 < x2 then x2 else x1)), .val (.double (FP.i2d (if x2 < x1 then x2 else x1))), .second, .unset, .unset, .unset, .unset] [(.int (x3 &&& (2 : Int32)))] rfl ?_
    refine own_if C S77 (q := .eq) (o := 9) (by decide +kernel) 41 (by decide) (by decide) (fun (q123 : (x3 &&& (2 : Int32)) = (0 : Int32)) => ?_) (fun (q124 : ¬ (x3 &&& (2 : Int32)) = (0 : Int32)) => ?_)
    · refine own_seg C S77 [(41, .iload 4, 2), (43, .i2d, 1), (44, .dstore 7, 2), (46, .iload_n 2, 1), (47, .iconst 4, 1), (48, .iand, 1)] (by decide +kernel) 49 #[.val (.int x1), .val (.int x2), .val (.int x3), .val (.int (if x2 < x1 then x2 else x1)), .val (.int (if x1 < x2 then x2 else x1)), .val (.double (FP.i2d (if x2 < x1 then x2 else x1))), .second, .val (.double (FP.i2d (if x1 < x2 then x2 else x1))), .second, .unset, .unset] [(.int (x3 &&& (4 : Int32)))] rfl ?_
      refine own_if C S77 (q := .eq) (o := 7) (by decide +kernel) 56 (by decide) (by decide) (fun (q125 : (x3 &&& (4 : Int32)) = (0 : Int32)) => ?_) (fun (q126 : ¬ (x3 &&& (4 : Int32)) = (0 : Int32)) => ?_)
      · refine own_seg C S77 [(56, .iconst 0, 1), (57, .istore 9, 2)] (by decide +kernel) 59 #[.val (.int x1), .val (.int x2), .val (.int x3), .val (.int (if x2 < x1 then x2 else x1)), .val (.int (if x1 < x2 then x2 else x1)), .val (.double (FP.i2d (if x2 < x1 then x2 else x1))), .second, .val (.double (FP.i2d (if x1 < x2 then x2 else x1))), .second, .val (.int (0 : Int32)), .unset] [] rfl ?_
        exact J _ _ _ _ S77 (Or.inl rfl) (own_ok1 _ _ hlo)
      · refine own_seg C S77 [(52, .iconst 1, 1), (53, .goto 4, 3), (57, .istore 9, 2)] (by decide +kernel) 59 #[.val (.int x1), .val (.int x2), .val (.int x3), .val (.int (if x2 < x1 then x2 else x1)), .val (.int (if x1 < x2 then x2 else x1)), .val (.double (FP.i2d (if x2 < x1 then x2 else x1))), .second, .val (.double (FP.i2d (if x1 < x2 then x2 else x1))), .second, .val (.int (1 : Int32)), .unset] [] rfl ?_
        exact J _ _ _ _ S77 (Or.inr rfl) (own_ok1 _ _ hlo)
    · refine own_ldc2D C S77 (own_wd hw 7 rfl) (by decide +kernel) ?_
      refine own_seg C S77 [(38, .goto 6, 3), (44, .dstore 7, 2), (46, .iload_n 2, 1), (47, .iconst 4, 1), (48, .iand, 1)] (by decide +kernel) 49 #[.val (.int x1), .val (.int x2), .val (.int x3), .val (.int (if x2 < x1 then x2 else x1)), .val (.int (if x1 < x2 then x2 else x1)), .val (.double (FP.i2d (if x2 < x1 then x2 else x1))), .second, .val (.double (9218868437227405312 : UInt64)), .second, .unset, .unset] [(.int (x3 &&& (4 : Int32)))] rfl ?_
      refine own_if C S77 (q := .eq) (o := 7) (by decide +kernel) 56 (by decide) (by decide) (fun (q127 : (x3 &&& (4 : Int32)) = (0 : Int32)) => ?_) (fun (q128 : ¬ (x3 &&& (4 : Int32)) = (0 : Int32)) => ?_)
      · refine own_seg C S77 [(56, .iconst 0, 1), (57, .istore 9, 2)] (by decide +kernel) 59 #[.val (.int x1), .val (.int x2), .val (.int x3), .val (.int (if x2 < x1 then x2 else x1)), .val (.int (if x1 < x2 then x2 else x1)), .val (.double (FP.i2d (if x2 < x1 then x2 else x1))), .second, .val (.double (9218868437227405312 : UInt64)), .second, .val (.int (0 : Int32)), .unset] [] rfl ?_
        exact J _ _ _ _ S77 (Or.inl rfl) (own_ok3 _)
      · refine own_seg C S77 [(52, .iconst 1, 1), (53, .goto 4, 3), (57, .istore 9, 2)] (by decide +kernel) 59 #[.val (.int x1), .val (.int x2), .val (.int x3), .val (.int (if x2 < x1 then x2 else x1)), .val (.int (if x1 < x2 then x2 else x1)), .val (.double (FP.i2d (if x2 < x1 then x2 else x1))), .second, .val (.double (9218868437227405312 : UInt64)), .second, .val (.int (1 : Int32)), .unset] [] rfl ?_
        exact J _ _ _ _ S77 (Or.inr rfl) (own_ok3 _)
  · refine own_ldc2D C S77 (own_wd hw 48 rfl) (by decide +kernel) ?_
    refine own_seg C S77 [(22, .goto 5, 3), (27, .dstore 5, 2), (29, .iload_n 2, 1), (30, .iconst 2, 1), (31, .iand, 1)] (by decide +kernel) 32 #[.val (.int x1), .val (.int x2), .val (.int x3), .val (.int (if x2 < x1 then x2 else x1)), .val (.int (if x1 < x2 then x2 else x1)), .val (.double (18442240474082181120 : UInt64)), .second, .unset, .unset, .unset, .unset] [(.int (x3 &&& (2 : Int32)))] rfl ?_
    refine own_if C S77 (q := .eq) (o := 9) (by decide +kernel) 41 (by decide) (by decide) (fun (q129 : (x3 &&& (2 : Int32)) = (0 : Int32)) => ?_) (fun (q130 : ¬ (x3 &&& (2 : Int32)) = (0 : Int32)) => ?_)
    · refine own_seg C S77 [(41, .iload 4, 2), (43, .i2d, 1), (44, .dstore 7, 2), (46, .iload_n 2, 1), (47, .iconst 4, 1), (48, .iand, 1)] (by decide +kernel) 49 #[.val (.int x1), .val (.int x2), .val (.int x3), .val (.int (if x2 < x1 then x2 else x1)), .val (.int (if x1 < x2 then x2 else x1)), .val (.double (18442240474082181120 : UInt64)), .second, .val (.double (FP.i2d (if x1 < x2 then x2 else x1))), .second, .unset, .unset] [(.int (x3 &&& (4 : Int32)))] rfl ?_
      refine own_if C S77 (q := .eq) (o := 7) (by decide +kernel) 56 (by decide) (by decide) (fun (q131 : (x3 &&& (4 : Int32)) = (0 : Int32)) => ?_) (fun (q132 : ¬ (x3 &&& (4 : Int32)) = (0 : Int32)) => ?_)
      · refine own_seg C S77 [(56, .iconst 0, 1), (57, .istore 9, 2)] (by decide +kernel) 59 #[.val (.int x1), .val (.int x2), .val (.int x3), .val (.int (if x2 < x1 then x2 else x1)), .val (.int (if x1 < x2 then x2 else x1)), .val (.double (18442240474082181120 : UInt64)), .second, .val (.double (FP.i2d (if x1 < x2 then x2 else x1))), .second, .val (.int (0 : Int32)), .unset] [] rfl ?_
        exact J _ _ _ _ S77 (Or.inl rfl) (own_ok2 _)
      · refine own_seg C S77 [(52, .iconst 1, 1), (53, .goto 4, 3), (57, .istore 9, 2)] (by decide +kernel) 59 #[.val (.int x1), .val (.int x2), .val (.int x3), .val (.int (if x2 < x1 then x2 else x1)), .val (.int (if x1 < x2 then x2 else x1)), .val (.double (18442240474082181120 : UInt64)), .second, .val (.double (FP.i2d (if x1 < x2 then x2 else x1))), .second, .val (.int (1 : Int32)), .unset] [] rfl ?_
        exact J _ _ _ _ S77 (Or.inr rfl) (own_ok2 _)
    · refine own_ldc2D C S77 (own_wd hw 7 rfl) (by decide +kernel) ?_
      refine own_seg C S77 [(38, .goto 6, 3), (44, .dstore 7, 2), (46, .iload_n 2, 1), (47, .iconst 4, 1), (48, .iand, 1)] (by decide +kernel) 49 #[.val (.int x1), .val (.int x2), .val (.int x3), .val (.int (if x2 < x1 then x2 else x1)), .val (.int (if x1 < x2 then x2 else x1)), .val (.double (18442240474082181120 : UInt64)), .second, .val (.double (9218868437227405312 : UInt64)), .second, .unset, .unset] [(.int (x3 &&& (4 : Int32)))] rfl ?_
      refine own_if C S77 (q := .eq) (o := 7) (by decide +kernel) 56 (by decide) (by decide) (fun (q133 : (x3 &&& (4 : Int32)) = (0 : Int32)) => ?_) (fun (q134 : ¬ (x3 &&& (4 : Int32)) = (0 : Int32)) => ?_)
      · refine own_seg C S77 [(56, .iconst 0, 1), (57, .istore 9, 2)] (by decide +kernel) 59 #[.val (.int x1), .val (.int x2), .val (.int x3), .val (.int (if x2 < x1 then x2 else x1)), .val (.int (if x1 < x2 then x2 else x1)), .val (.double (18442240474082181120 : UInt64)), .second, .val (.double (9218868437227405312 : UInt64)), .second, .val (.int (0 : Int32)), .unset] [] rfl ?_
        exact J _ _ _ _ S77 (Or.inl rfl) own_ok4
      · refine own_seg C S77 [(52, .iconst 1, 1), (53, .goto 4, 3), (57, .istore 9, 2)] (by decide +kernel) 59 #[.val (.int x1), .val (.int x2), .val (.int x3), .val (.int (if x2 < x1 then x2 else x1)), .val (.int (if x1 < x2 then x2 else x1)), .val (.double (18442240474082181120 : UInt64)), .second, .val (.double (9218868437227405312 : UInt64)), .second, .val (.int (1 : Int32)), .unset] [] rfl ?_
        exact J _ _ _ _ S77 (Or.inr rfl) own_ok4
set_option maxRecDepth 65536 in
set_option maxHeartbeats 40000000 in
theorem comes_1 {Post : Tables → Env → Array Value → State → Outcome → State → Prop} (hpost : ∀ tb e args s v u, (limb_1_1.after args s (.returned v) u = true ∧ limb_1_2.after args s (.returned v) u = true ∧ True) → FrameEnd s (.returned v) u (Jvm.fieldLocs frame_1_writes args s ++ Jvm.arrayLocs frame_1_arrays args s ++ Jvm.staticLocs frame_1_statics s) 16 128 → Post tb e args s (.returned v) u) :
    ArmFor flags0 classFile x code maxLocals ret World_1 tables_1 room_1 Calls_1 rest_1 Pre_1 Post := by
  intro l hfl _ _ p e ha hc hk s m args below hf hA hF happ hP
  obtain ⟨hcalls, hrest, hpre⟩ := hP
  obtain ⟨-, -, -, hnamed, -, -, -, hat⟩ := (Spec.applies_iff hf).mp happ
  obtain ⟨hg, hn⟩ := and_e (Cond.before_iff.mp (show (Jvm.Cond.and given_1 narrow_1).before args s = true from hpre))
  obtain ⟨hcount, hk0⟩ := and_e hg
  obtain ⟨ha0, hk1⟩ := and_e hk0
  obtain ⟨ha1, hk2⟩ := and_e hk1
  obtain ⟨w0, w1, w2, rfl⟩ : ∃ w0 w1 w2 : Value, args = #[w0, w1, w2] := by
    have hs : args.size = 3 := by simpa [Cond.value, given_1] using hcount
    obtain ⟨L⟩ := args
    match L, hs with
    | [w0, w1, w2], _ => exact ⟨w0, w1, w2, rfl⟩
  have hw := fun d (hd : d ∈ tables_1) => atoms_spec (ws := Jvm.Cond.code x code maxLocals ret :: tables_1) hat d (List.mem_cons_of_mem _ hd)
  obtain ⟨i0, ei0⟩ := is_v ha0
  obtain rfl : w0 = (.int i0) := Option.some.inj ei0
  obtain ⟨i1, ei1⟩ := is_v ha1
  obtain rfl : w1 = (.int i1) := Option.some.inj ei1
  obtain ⟨i2, ei2⟩ := is_v hk2
  obtain rfl : w2 = (.int i2) := Option.some.inj ei2
  obtain ⟨n, o, g1, g2, g3, _, L, rfl, ⟨rfl, N⟩, hq⟩ := own_law l s _ hw i0 i1 i2 s.heap s.heap.size (Nat.le_refl _)  tables_1 p e ha hc hk s m _ below hf ((Spec.applies_iff_loose hf).mp happ).1 ⟨rfl, State.Warmed39.refl s, rfl⟩ trivial
  refine ⟨n, _, g1, g2, g3, hpost _ _ _ _ _ _ ⟨Cond.after_iff.mpr rfl, Cond.after_iff.mpr (eq_i res_at (Term.int_eval (1)) rfl), trivial⟩ ⟨hq.1, hq.2.1, (hq.2.2.sift fun y hy => Or.inr (N y hy)).mono (by decide) (by decide)⟩⟩
theorem main_1_1 : Claimed_1_1 := comes_1 fun _ _ _ _ _ _ h hF => ⟨h.1, hF⟩
theorem main_1_2 : Claimed_1_2 := comes_1 fun _ _ _ _ _ _ h hF => ⟨h.2.1, hF⟩
end Jvm.Pilot.@@N@@
namespace Jvm.Pilot.@@N@@
open Jvm Jvm.ClassFile Sem Op Lib Jvm.Free Jvm.Stand Jvm.Pilot.@@N@@.Jvm.D
/-! MADE BY PROGRAM (witnessworld.py) out of the Statement's table words and the real class files: 10 classes; the members and pool entries that the words name. The judged class is class 1, her method 1. -/
namespace start1
open Jvm.ClassFile
def u (s : String) : CpInfo := .utf8 (stringToUtf16 s)
/-- a pool by its gaps: so many unusable entries, then the entry; so many at the end -/
def gap : Nat → List CpInfo → List CpInfo
  | 0, r => r
  | n + 1, r => .unusable :: gap n r
def poolList (es : List (Nat × CpInfo)) (last : Nat) : List CpInfo := es.foldr (fun e r => gap e.1 (e.2 :: r)) (gap last [])
def pool (es : List (Nat × CpInfo)) (last : Nat) : Array CpInfo := ⟨poolList es last⟩
def fileOf (pool : Array CpInfo) (this : Nat) (attrs : Array Attribute := #[]) (ms : Array MethodInfo := #[]) (fl : Nat := 33) (sup : Nat := 0) (ifs : Array Nat := #[]) (fds : Array FieldInfo := #[]) : ClassFile where
  minorVersion := 0
  majorVersion := 65
  constantPool := pool
  accessFlags := fl
  thisClass := this
  superClass := sup
  interfaces := ifs
  fields := fds
  methods := ms
  attributes := attrs
def plain (name : String) (sup : Option ClassId) : Class where
  name := name
  kind := .ordinary
  loader := none
  accessFlags := 33
  super := sup
  interfaces := #[]
  cf := none
  fields := #[]
  methods := #[]
  instanceTypes := #[]
  staticTypes := #[]
  resolved := #[]
  callSites := []
  init := .initialized
  statics := none
  mirror := none

def pool0 : Array CpInfo := pool [(5, u "<init>"), (0, u "()V"), (1, .class_ 10), (1, u "java/lang/Object")] 113

def k0c0 : Code := { maxStack := 0, maxLocals := 1, code := object_method_1_code, exceptionTable := #[], attributes := #[] }
def k0m0 : Method := { name := "<init>", desc := "()V", sig := { parameters := [], returnType := none }, accessFlags := 1, code := some k0c0 }
/-- java/lang/Object -/
def k0 : Class := { plain "java/lang/Object" none with
  accessFlags := 33
  interfaces := #[]
  cf := some (fileOf pool0 8 #[] #[{ accessFlags := 1, nameIndex := 5, descriptorIndex := 6, attributes := #[] }] 33 0 #[] #[])
  fields := #[]
  methods := #[k0m0]
  instanceTypes := #[]
  staticTypes := #[]
  resolved := Array.replicate 124 none
  statics := none }

def pool1 : Array CpInfo := pool [(2, .class_ 4), (1, u "java/lang/Object"), (0, u "<init>"), (0, u "()V"), (0, .methodref 8 9), (0, .class_ 10), (0, .nameAndType 11 12), (0, u "java/lang/Math"), (0, u "min"), (0, u "(II)I"), (0, .methodref 8 14), (0, .nameAndType 15 12), (0, u "max"), (2, .double 18442240474082181120), (1, .double 9218868437227405312), (1, .methodref 23 24), (0, .class_ 25), (0, .nameAndType 26 27), (0, u "com/example/persephone/persephone/ValueBounds"), (0, u "between"), (0, u "(DDZ)Lcom/example/persephone/persephone/ValueBounds;"), (0, .methodref 23 29), (0, .nameAndType 30 31), (0, u "getLowest"), (0, u "()D"), (0, .methodref 23 33), (0, .nameAndType 34 31), (0, u "getHighest"), (0, .methodref 23 36), (0, .nameAndType 37 38), (0, u "mayBeMissing"), (0, u "()Z"), (0, .methodref 23 40), (0, .nameAndType 41 38), (0, u "hasValues"), (0, .class_ 43), (0, u "com/example/persephone/persephone/ValueBoundsBetweenPinLaw"), (2, u "law"), (0, u "(III)Z")] 3

def k1m0 : Method := { name := "<init>", desc := "()V", sig := { parameters := [], returnType := none }, accessFlags := 2, code := none }
def k1c1 : Code := { maxStack := 5, maxLocals := 11, code := code, exceptionTable := #[], attributes := #[] }
def k1m1 : Method := { name := "law", desc := "(III)Z", sig := { parameters := [.int, .int, .int], returnType := some .boolean }, accessFlags := 9, code := some k1c1 }
/-- com/example/persephone/persephone/ValueBoundsBetweenPinLaw -/
def k1 : Class := { plain "com/example/persephone/persephone/ValueBoundsBetweenPinLaw" (some 0) with
  accessFlags := 49
  interfaces := #[]
  cf := some (fileOf pool1 42 #[] #[{ accessFlags := 2, nameIndex := 5, descriptorIndex := 6, attributes := #[] }, { accessFlags := 9, nameIndex := 46, descriptorIndex := 47, attributes := #[] }] 49 2 #[] #[])
  fields := #[]
  methods := #[k1m0, k1m1]
  instanceTypes := #[]
  staticTypes := #[]
  resolved := Array.replicate 51 none
  statics := none }

def pool2 : Array CpInfo := pool [(1, .class_ 2), (0, u "java/lang/Math"), (1, .class_ 6), (1, u "java/lang/Object"), (0, u "<init>"), (0, u "()V"), (89, .class_ 100), (1, u "java/lang/Math$RandomNumberGeneratorHolder"), (71, u "negativeZeroFloatBits"), (0, u "J"), (2, u "negativeZeroDoubleBits"), (21, u "max"), (2, u "min"), (43, u "$assertionsDisabled"), (0, u "Z"), (88, u "(II)I"), (2, u "twoToTheDoubleScaleDown"), (0, u "D"), (4, u "twoToTheDoubleScaleUp"), (9, u "E"), (3, u "PI"), (2, u "TAU"), (2, u "DEGREES_TO_RADIANS"), (0, u "RADIANS_TO_DEGREES")] 94

def k2m0 : Method := { name := "<init>", desc := "()V", sig := { parameters := [], returnType := none }, accessFlags := 2, code := none }
def k2c1 : Code := { maxStack := 2, maxLocals := 2, code := jdk_29_method_65_code, exceptionTable := #[], attributes := #[] }
def k2m1 : Method := { name := "max", desc := "(II)I", sig := { parameters := [.int, .int], returnType := some .int }, accessFlags := 9, code := some k2c1 }
def k2c2 : Code := { maxStack := 2, maxLocals := 2, code := jdk_29_method_69_code, exceptionTable := #[], attributes := #[] }
def k2m2 : Method := { name := "min", desc := "(II)I", sig := { parameters := [.int, .int], returnType := some .int }, accessFlags := 9, code := some k2c2 }
/-- java/lang/Math -/
def k2 : Class := { plain "java/lang/Math" (some 0) with
  accessFlags := 49
  interfaces := #[]
  cf := some (fileOf pool2 1 #[.nestMembers #[98]] #[{ accessFlags := 2, nameIndex := 7, descriptorIndex := 8, attributes := #[] }, { accessFlags := 9, nameIndex := 198, descriptorIndex := 335, attributes := #[] }, { accessFlags := 9, nameIndex := 201, descriptorIndex := 335, attributes := #[] }] 49 4 #[] #[{ accessFlags := 25, nameIndex := 354, descriptorIndex := 339, attributes := #[] }, { accessFlags := 25, nameIndex := 358, descriptorIndex := 339, attributes := #[] }, { accessFlags := 25, nameIndex := 361, descriptorIndex := 339, attributes := #[] }, { accessFlags := 26, nameIndex := 364, descriptorIndex := 339, attributes := #[] }, { accessFlags := 26, nameIndex := 365, descriptorIndex := 339, attributes := #[] }, { accessFlags := 26, nameIndex := 172, descriptorIndex := 173, attributes := #[] }, { accessFlags := 26, nameIndex := 176, descriptorIndex := 173, attributes := #[] }, { accessFlags := 8, nameIndex := 344, descriptorIndex := 339, attributes := #[] }, { accessFlags := 8, nameIndex := 338, descriptorIndex := 339, attributes := #[] }, { accessFlags := 4120, nameIndex := 245, descriptorIndex := 246, attributes := #[] }])
  fields := #[{ name := "E", type := .double, accessFlags := 25, slot := 0, constantValue := 0 }, { name := "PI", type := .double, accessFlags := 25, slot := 1, constantValue := 0 }, { name := "TAU", type := .double, accessFlags := 25, slot := 2, constantValue := 0 }, { name := "DEGREES_TO_RADIANS", type := .double, accessFlags := 26, slot := 3, constantValue := 0 }, { name := "RADIANS_TO_DEGREES", type := .double, accessFlags := 26, slot := 4, constantValue := 0 }, { name := "negativeZeroFloatBits", type := .long, accessFlags := 26, slot := 5, constantValue := 0 }, { name := "negativeZeroDoubleBits", type := .long, accessFlags := 26, slot := 6, constantValue := 0 }, { name := "twoToTheDoubleScaleUp", type := .double, accessFlags := 8, slot := 7, constantValue := 0 }, { name := "twoToTheDoubleScaleDown", type := .double, accessFlags := 8, slot := 8, constantValue := 0 }, { name := "$assertionsDisabled", type := .boolean, accessFlags := 4120, slot := 9, constantValue := 0 }]
  methods := #[k2m0, k2m1, k2m2]
  instanceTypes := #[]
  staticTypes := #[.double, .double, .double, .double, .double, .long, .long, .double, .double, .boolean]
  resolved := Array.replicate 460 none
  statics := none }

def pool3 : Array CpInfo := pool [(1, .methodref 2 3), (0, .class_ 4), (0, .nameAndType 5 6), (0, u "java/lang/Object"), (0, u "<init>"), (0, u "()V"), (0, .fieldref 8 9), (0, .class_ 10), (0, .nameAndType 11 12), (0, u "com/example/persephone/persephone/ValueBounds"), (0, u "lowest"), (0, u "D"), (0, .fieldref 8 14), (0, .nameAndType 15 12), (0, u "highest"), (0, .fieldref 8 17), (0, .nameAndType 18 19), (0, u "mayBeMissing"), (0, u "Z"), (2, .double 9218868437227405312), (1, .double 18442240474082181120), (10, .methodref 8 36), (0, .nameAndType 5 37), (0, u "(DDZ)V"), (11, u "MISSING"), (0, u "Lcom/example/persephone/persephone/ValueBounds;"), (14, u "UNBOUNDED"), (29, u "hasValues"), (0, u "()Z"), (6, u "TRUTH"), (2, u "between"), (0, u "(DDZ)Lcom/example/persephone/persephone/ValueBounds;"), (3, u "getLowest"), (0, u "()D"), (0, u "getHighest")] 42

def k3c0 : Code := { maxStack := 3, maxLocals := 6, code := prog_14_method_1_code, exceptionTable := #[], attributes := #[] }
def k3m0 : Method := { name := "<init>", desc := "(DDZ)V", sig := { parameters := [.double, .double, .boolean], returnType := none }, accessFlags := 2, code := some k3c0 }
def k3c1 : Code := { maxStack := 7, maxLocals := 5, code := prog_14_method_2_code, exceptionTable := #[], attributes := #[] }
def k3m1 : Method := { name := "between", desc := "(DDZ)Lcom/example/persephone/persephone/ValueBounds;", sig := { parameters := [.double, .double, .boolean], returnType := some (.object "com/example/persephone/persephone/ValueBounds") }, accessFlags := 9, code := some k3c1 }
def k3c2 : Code := { maxStack := 2, maxLocals := 1, code := prog_14_method_4_code, exceptionTable := #[], attributes := #[] }
def k3m2 : Method := { name := "getLowest", desc := "()D", sig := { parameters := [], returnType := some .double }, accessFlags := 1, code := some k3c2 }
def k3c3 : Code := { maxStack := 2, maxLocals := 1, code := prog_14_method_5_code, exceptionTable := #[], attributes := #[] }
def k3m3 : Method := { name := "getHighest", desc := "()D", sig := { parameters := [], returnType := some .double }, accessFlags := 1, code := some k3c3 }
def k3c4 : Code := { maxStack := 1, maxLocals := 1, code := prog_14_method_6_code, exceptionTable := #[], attributes := #[] }
def k3m4 : Method := { name := "mayBeMissing", desc := "()Z", sig := { parameters := [], returnType := some .boolean }, accessFlags := 1, code := some k3c4 }
def k3c5 : Code := { maxStack := 4, maxLocals := 1, code := prog_14_method_7_code, exceptionTable := #[], attributes := #[] }
def k3m5 : Method := { name := "hasValues", desc := "()Z", sig := { parameters := [], returnType := some .boolean }, accessFlags := 1, code := some k3c5 }
/-- com/example/persephone/persephone/ValueBounds -/
def k3 : Class := { plain "com/example/persephone/persephone/ValueBounds" (some 0) with
  accessFlags := 49
  interfaces := #[]
  cf := some (fileOf pool3 8 #[] #[{ accessFlags := 2, nameIndex := 5, descriptorIndex := 37, attributes := #[] }, { accessFlags := 9, nameIndex := 106, descriptorIndex := 107, attributes := #[] }, { accessFlags := 1, nameIndex := 111, descriptorIndex := 112, attributes := #[] }, { accessFlags := 1, nameIndex := 113, descriptorIndex := 112, attributes := #[] }, { accessFlags := 1, nameIndex := 18, descriptorIndex := 96, attributes := #[] }, { accessFlags := 1, nameIndex := 95, descriptorIndex := 96, attributes := #[] }] 49 2 #[] #[{ accessFlags := 25, nameIndex := 65, descriptorIndex := 50, attributes := #[] }, { accessFlags := 25, nameIndex := 49, descriptorIndex := 50, attributes := #[] }, { accessFlags := 24, nameIndex := 103, descriptorIndex := 50, attributes := #[] }, { accessFlags := 18, nameIndex := 11, descriptorIndex := 12, attributes := #[] }, { accessFlags := 18, nameIndex := 15, descriptorIndex := 12, attributes := #[] }, { accessFlags := 18, nameIndex := 18, descriptorIndex := 19, attributes := #[] }])
  fields := #[{ name := "UNBOUNDED", type := (.object "com/example/persephone/persephone/ValueBounds"), accessFlags := 25, slot := 0, constantValue := 0 }, { name := "MISSING", type := (.object "com/example/persephone/persephone/ValueBounds"), accessFlags := 25, slot := 1, constantValue := 0 }, { name := "TRUTH", type := (.object "com/example/persephone/persephone/ValueBounds"), accessFlags := 24, slot := 2, constantValue := 0 }, { name := "lowest", type := .double, accessFlags := 18, slot := 0, constantValue := 0 }, { name := "highest", type := .double, accessFlags := 18, slot := 1, constantValue := 0 }, { name := "mayBeMissing", type := .boolean, accessFlags := 18, slot := 2, constantValue := 0 }]
  methods := #[k3m0, k3m1, k3m2, k3m3, k3m4, k3m5]
  instanceTypes := #[.double, .double, .boolean]
  staticTypes := #[(.object "com/example/persephone/persephone/ValueBounds"), (.object "com/example/persephone/persephone/ValueBounds"), (.object "com/example/persephone/persephone/ValueBounds")]
  resolved := Array.replicate 156 none
  statics := none }

def pool4 : Array CpInfo := pool [(1, u "java/lang/Cloneable"), (0, .class_ 1), (0, u "java/lang/Object"), (0, .class_ 3)] 3

/-- java/lang/Cloneable -/
def k4 : Class := { plain "java/lang/Cloneable" (some 0) with
  accessFlags := 1537
  interfaces := #[]
  cf := some (fileOf pool4 2 #[] #[] 1537 4 #[] #[])
  fields := #[]
  methods := #[]
  instanceTypes := #[]
  staticTypes := #[]
  resolved := Array.replicate 8 none
  statics := none }

def pool5 : Array CpInfo := pool [(1, u "java/io/Serializable"), (0, .class_ 1), (0, u "java/lang/Object"), (0, .class_ 3)] 3

/-- java/io/Serializable -/
def k5 : Class := { plain "java/io/Serializable" (some 0) with
  accessFlags := 1537
  interfaces := #[]
  cf := some (fileOf pool5 2 #[] #[] 1537 4 #[] #[])
  fields := #[]
  methods := #[]
  instanceTypes := #[]
  staticTypes := #[]
  resolved := Array.replicate 8 none
  statics := none }

/-- the primitive byte -/
def k6 : Class := { plain "byte" none with kind := .primitive 'B', accessFlags := 0x411 }
/-- [B -/
def k7 : Class := { plain "[B" (some 0) with kind := .array 6 .byte, interfaces := #[4, 5], accessFlags := 1041 }

/-- the primitive int -/
def k8 : Class := { plain "int" none with kind := .primitive 'I', accessFlags := 0x411 }
/-- [I -/
def k9 : Class := { plain "[I" (some 0) with kind := .array 8 .int, interfaces := #[4, 5], accessFlags := 1041 }

def heap : Heap := #[]
def classes : Array Class := #[k0, k1, k2, k3, k4, k5, k6, k7, k8, k9]
def interned : List (Array UInt16 × Addr) := []
def slotsUsed : Nat := 0
def theMethod : MethodId := ⟨1, 1⟩
def args0 : Array Value := #[.int 5, .int 6, .int 7]
def aboutOver (below : List Frame) : State where
  vm := { classes := classes, interned := interned.toArray }
  heap := heap
  slotsUsed := slotsUsed
  threads := #[{ frames := .invoking theMethod args0 :: below }]
def below0 : List Frame := [.native { method := ⟨0, 0⟩, args := #[] }]
def about1 : State := aboutOver below0
def p0 : Program := .bare "" "" ""
def e0 : Env := launch0.env 0 0 0
theorem w_frames : about1.frames = Frame.invoking theMethod args0 :: below0 := rfl
set_option maxRecDepth 65536 in
theorem w_args : argsFit about1.vm theMethod args0 = true := by decide +kernel
set_option maxRecDepth 65536 in
theorem w_heap : heapFits about1 = true := by decide +kernel
set_option maxRecDepth 65536 in
theorem w_runnable : about1.curStatus? = some .runnable := by decide +kernel
set_option maxRecDepth 65536 in
theorem w_alone : about1.alone = true := by decide +kernel
set_option maxRecDepth 65536 in
theorem w_named : about1.methodNamed? x = some theMethod := by decide +kernel
set_option maxRecDepth 65536 in
theorem w_hears : about1.hears theMethod below0 = true := by decide +kernel
set_option maxRecDepth 65536 in
theorem w_ripe : about1.ripe theMethod args0 below0 = true := by decide +kernel
theorem w_running : about1.status = .running := rfl
set_option maxRecDepth 65536 in
theorem w_room : about1.hasRoom e0.platform room_1 = true :=
  launch0.hasRoom_least _ room_1 (by decide +kernel) (by decide +kernel) (by decide +kernel) (by decide +kernel) (by decide +kernel) (by decide +kernel)
theorem allAtoms_all (ts : List Jvm.Cond) (a : Array Jvm.Value) (st : Jvm.State) : (allAtoms ts).before a st = ts.all (fun c => c.before a st) := by
  induction ts with
  | nil => rfl
  | cons c t ih =>
    show (Jvm.Cond.and c (allAtoms t)).before a st = _
    rw [Jvm.Cond.before_and, ih, List.all_cons]
def words1 : List Jvm.Cond := Jvm.Cond.code x code maxLocals ret :: tables_1
/-- a 'code' word, met by the world's own term for the bytes: nothing is compared byte by byte -/
theorem code_word {y : MethodName} {bytes : ByteArray} {mx : Nat} {rt : Option FieldType} {a : Array Value} {s : State} {m : MethodId} {meth : Method} {c : Code} (h1 : s.methodNamed? y = some m) (h2 : s.vm.method? m = some meth) (h3 : meth.code = some c) (h4 : c.code = bytes)
    (h5 : (c.maxLocals == mx && c.exceptionTable.isEmpty && decide (c.maxStack ≤ mostOperands) && decide (meth.sig.returnType = rt) && !meth.locks && decide (parseMethodDescriptor y.desc = some meth.sig)) = true) : (Jvm.Cond.code y bytes mx rt).before a s = true := by
  simp only [Bool.and_eq_true, beq_iff_eq, Bool.not_eq_true', decide_eq_true_eq] at h5
  obtain ⟨⟨⟨⟨⟨g1, g2⟩, g3⟩, g4⟩, g5⟩, g6⟩ := h5
  simp [Cond.before, Cond.holds, Cond.value, h1, h2, h3, h4, g1, g2, g3, g4, g5, g6]
def isCode : Jvm.Cond → Bool
  | .code _ _ _ _ => true
  | _ => false
theorem all_split {L : List Jvm.Cond} {P : Jvm.Cond → Bool} (h1 : L.all (fun c => isCode c || P c) = true) (h2 : ∀ c ∈ L.filter isCode, P c = true) : L.all P = true := by
  refine List.all_eq_true.mpr fun c hc => ?_
  have h := List.all_eq_true.mp h1 c hc
  rcases Bool.eq_false_or_eq_true (isCode c) with hi | hi
  · exact h2 c (List.mem_filter.mpr ⟨hc, hi⟩)
  · simpa [hi] using h
set_option maxRecDepth 65536 in
theorem w_c0 : (Jvm.Cond.code x code maxLocals ret).before args0 about1 = true := code_word (m := ⟨1, 1⟩) (meth := k1m1) (c := k1c1) (by decide +kernel) rfl rfl rfl (by decide +kernel)
set_option maxRecDepth 65536 in
theorem w_c1 : (Jvm.Cond.code ({ cls := "java/lang/Math", name := "min", desc := "(II)I" } : Jvm.MethodName) jdk_29_method_69_code (2 : Nat) (Option.some Jvm.ClassFile.FieldType.int)).before args0 about1 = true := code_word (m := ⟨2, 2⟩) (meth := k2m2) (c := k2c2) (by decide +kernel) rfl rfl rfl (by decide +kernel)
set_option maxRecDepth 65536 in
theorem w_c2 : (Jvm.Cond.code ({ cls := "java/lang/Math", name := "max", desc := "(II)I" } : Jvm.MethodName) jdk_29_method_65_code (2 : Nat) (Option.some Jvm.ClassFile.FieldType.int)).before args0 about1 = true := code_word (m := ⟨2, 1⟩) (meth := k2m1) (c := k2c1) (by decide +kernel) rfl rfl rfl (by decide +kernel)
set_option maxRecDepth 65536 in
theorem w_c3 : (Jvm.Cond.code ({ cls := "com/example/persephone/persephone/ValueBounds", name := "between", desc := "(DDZ)Lcom/example/persephone/persephone/ValueBounds;" } : Jvm.MethodName) prog_14_method_2_code (5 : Nat) (Option.some (Jvm.ClassFile.FieldType.object "com/example/persephone/persephone/ValueBounds"))).before args0 about1 = true := code_word (m := ⟨3, 1⟩) (meth := k3m1) (c := k3c1) (by decide +kernel) rfl rfl rfl (by decide +kernel)
set_option maxRecDepth 65536 in
theorem w_c4 : (Jvm.Cond.code ({ cls := "com/example/persephone/persephone/ValueBounds", name := "<init>", desc := "(DDZ)V" } : Jvm.MethodName) prog_14_method_1_code (6 : Nat) (Option.none : Option Jvm.ClassFile.FieldType)).before args0 about1 = true := code_word (m := ⟨3, 0⟩) (meth := k3m0) (c := k3c0) (by decide +kernel) rfl rfl rfl (by decide +kernel)
set_option maxRecDepth 65536 in
theorem w_c5 : (Jvm.Cond.code ({ cls := "java/lang/Object", name := "<init>", desc := "()V" } : Jvm.MethodName) object_method_1_code (1 : Nat) (Option.none : Option Jvm.ClassFile.FieldType)).before args0 about1 = true := code_word (m := ⟨0, 0⟩) (meth := k0m0) (c := k0c0) (by decide +kernel) rfl rfl rfl (by decide +kernel)
set_option maxRecDepth 65536 in
theorem w_c6 : (Jvm.Cond.code ({ cls := "com/example/persephone/persephone/ValueBounds", name := "getLowest", desc := "()D" } : Jvm.MethodName) prog_14_method_4_code (1 : Nat) (Option.some Jvm.ClassFile.FieldType.double)).before args0 about1 = true := code_word (m := ⟨3, 2⟩) (meth := k3m2) (c := k3c2) (by decide +kernel) rfl rfl rfl (by decide +kernel)
set_option maxRecDepth 65536 in
theorem w_c7 : (Jvm.Cond.code ({ cls := "com/example/persephone/persephone/ValueBounds", name := "getHighest", desc := "()D" } : Jvm.MethodName) prog_14_method_5_code (1 : Nat) (Option.some Jvm.ClassFile.FieldType.double)).before args0 about1 = true := code_word (m := ⟨3, 3⟩) (meth := k3m3) (c := k3c3) (by decide +kernel) rfl rfl rfl (by decide +kernel)
set_option maxRecDepth 65536 in
theorem w_c8 : (Jvm.Cond.code ({ cls := "com/example/persephone/persephone/ValueBounds", name := "mayBeMissing", desc := "()Z" } : Jvm.MethodName) prog_14_method_6_code (1 : Nat) (Option.some Jvm.ClassFile.FieldType.boolean)).before args0 about1 = true := code_word (m := ⟨3, 4⟩) (meth := k3m4) (c := k3c4) (by decide +kernel) rfl rfl rfl (by decide +kernel)
set_option maxRecDepth 65536 in
theorem w_c9 : (Jvm.Cond.code ({ cls := "com/example/persephone/persephone/ValueBounds", name := "hasValues", desc := "()Z" } : Jvm.MethodName) prog_14_method_7_code (1 : Nat) (Option.some Jvm.ClassFile.FieldType.boolean)).before args0 about1 = true := code_word (m := ⟨3, 5⟩) (meth := k3m5) (c := k3c5) (by decide +kernel) rfl rfl rfl (by decide +kernel)
def codes1 : List Jvm.Cond := [Jvm.Cond.code x code maxLocals ret, Jvm.Cond.code ({ cls := "java/lang/Math", name := "min", desc := "(II)I" } : Jvm.MethodName) jdk_29_method_69_code (2 : Nat) (Option.some Jvm.ClassFile.FieldType.int), Jvm.Cond.code ({ cls := "java/lang/Math", name := "max", desc := "(II)I" } : Jvm.MethodName) jdk_29_method_65_code (2 : Nat) (Option.some Jvm.ClassFile.FieldType.int), Jvm.Cond.code ({ cls := "com/example/persephone/persephone/ValueBounds", name := "between", desc := "(DDZ)Lcom/example/persephone/persephone/ValueBounds;" } : Jvm.MethodName) prog_14_method_2_code (5 : Nat) (Option.some (Jvm.ClassFile.FieldType.object "com/example/persephone/persephone/ValueBounds")), Jvm.Cond.code ({ cls := "com/example/persephone/persephone/ValueBounds", name := "<init>", desc := "(DDZ)V" } : Jvm.MethodName) prog_14_method_1_code (6 : Nat) (Option.none : Option Jvm.ClassFile.FieldType), Jvm.Cond.code ({ cls := "java/lang/Object", name := "<init>", desc := "()V" } : Jvm.MethodName) object_method_1_code (1 : Nat) (Option.none : Option Jvm.ClassFile.FieldType), Jvm.Cond.code ({ cls := "com/example/persephone/persephone/ValueBounds", name := "getLowest", desc := "()D" } : Jvm.MethodName) prog_14_method_4_code (1 : Nat) (Option.some Jvm.ClassFile.FieldType.double), Jvm.Cond.code ({ cls := "com/example/persephone/persephone/ValueBounds", name := "getHighest", desc := "()D" } : Jvm.MethodName) prog_14_method_5_code (1 : Nat) (Option.some Jvm.ClassFile.FieldType.double), Jvm.Cond.code ({ cls := "com/example/persephone/persephone/ValueBounds", name := "mayBeMissing", desc := "()Z" } : Jvm.MethodName) prog_14_method_6_code (1 : Nat) (Option.some Jvm.ClassFile.FieldType.boolean), Jvm.Cond.code ({ cls := "com/example/persephone/persephone/ValueBounds", name := "hasValues", desc := "()Z" } : Jvm.MethodName) prog_14_method_7_code (1 : Nat) (Option.some Jvm.ClassFile.FieldType.boolean)]
set_option maxRecDepth 65536 in
theorem codes_eq : words1.filter isCode = codes1 := rfl
theorem w_codes : ∀ c ∈ words1.filter isCode, c.before args0 about1 = true := by
  rw [codes_eq]
  intro c hc
  simp only [codes1, List.mem_cons, List.not_mem_nil, or_false] at hc
  rcases hc with rfl | rfl | rfl | rfl | rfl | rfl | rfl | rfl | rfl | rfl
  · exact w_c0
  · exact w_c1
  · exact w_c2
  · exact w_c3
  · exact w_c4
  · exact w_c5
  · exact w_c6
  · exact w_c7
  · exact w_c8
  · exact w_c9
set_option maxRecDepth 65536 in
theorem w_t1 : (words1.take 24).all (fun c => isCode c || c.before args0 about1) = true := by decide +kernel
set_option maxRecDepth 65536 in
theorem w_t2 : ((words1.drop 24).take 24).all (fun c => isCode c || c.before args0 about1) = true := by decide +kernel
set_option maxRecDepth 65536 in
theorem w_t3 : ((words1.drop 24).drop 24).all (fun c => isCode c || c.before args0 about1) = true := by decide +kernel
theorem w_tables : (allAtoms (Jvm.Cond.code x code maxLocals ret :: tables_1)).before args0 about1 = true := by
  rw [allAtoms_all]
  show words1.all (fun c => c.before args0 about1) = true
  refine all_split ?_ w_codes
  rw [← List.take_append_drop 24 words1, List.all_append, w_t1, ← List.take_append_drop 24 (words1.drop 24), List.all_append, w_t2, w_t3]
  rfl
set_option maxRecDepth 65536 in
theorem w_case : (Jvm.Cond.and given_1 narrow_1).before args0 about1 = true := by decide +kernel
theorem w_applies : (headSpec (Jvm.Cond.code x code maxLocals ret :: tables_1) room_1).applies x e0.platform about1 = true :=
  (Spec.applies_iff w_frames).mpr ⟨w_running, w_runnable, w_alone, w_named, w_hears, w_ripe, w_room, w_tables⟩
theorem atStart : AtStart classFile x code maxLocals ret World_1 tables_1 room_1 Calls_1 rest_1 Pre_1 launch0 p0 e0 about1 theMethod args0 below0 :=
  ⟨lists_1, trivial, launch0.admits_env _ _ _, launch0.least_env, fairChoices_fair.cas, fairChoices_fair.clock, w_frames, w_args, w_heap, w_applies, trivial, trivial, w_case⟩
end start1
theorem witness_1 : WitnessClaimed_1 := ⟨start1.p0, start1.e0, start1.about1, start1.theMethod, start1.args0, start1.below0, start1.atStart⟩
end Jvm.Pilot.@@N@@
